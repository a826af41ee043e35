/-
  THE WALK OF LawS4703BGiven (function 3).
-/
import Derived.Test.YbulkcsjkFmtGiven
import Derived.Laws.MakeOwn
import Derived.Laws.CopyRow
import Derived.Laws.CopyOwn
import Derived.Deep.WholeRow
import Derived.LaidEqlPtr
namespace Go.Proofs.YbulkcsjkFmt
open Go.RowKit Go.Extern.Stop Go.Stop Go.Extern

theorem info46 : (Ybaf.prog.info? 46).map (fun i => (i.zero, i.size, i.bytes)) = some (some (.int .u32 0), 1, 4) := by kernel_rfl
/-- The copy's cells. -/
def vals (z : Nat → Int) (len : Nat) : List Value := (List.range len).map fun i => Value.int .u32 (z i)
theorem vals_length (z : Nat → Int) (len : Nat) : (vals z len).length = len := by simp [vals]
theorem make23 (len : Nat) (hl : len ≤ 1024) (w : World) : (Instr.makeSlice 23 (.int .i64 (len : Int)) (.int .i64 (len : Int))).run Ybaf.prog w = .ok (.slice (some ⟨w.heap.size, 0, none⟩) len len) (w.alloc (.cells (madeCells #[.int .u32 0] len) 46)) := by
  obtain ⟨i, hi, hz, hs, hb⟩ : ∃ i, Ybaf.prog.info? 46 = some i ∧ i.zero = some (.int .u32 0) ∧ i.size = 1 ∧ i.bytes = 4 := by
    have h := info46
    cases e : Ybaf.prog.info? 46 with
    | none => rw [e] at h; cases h
    | some i =>
      rw [e] at h
      simp at h
      exact ⟨i, rfl, h⟩
  have := run_make w 23 46 i (.int .u32 0) Ybaf.underlying23 hi hz .i64 .i64 len len (by omega) (by omega) (by rw [hb]; omega) (by omega)
  rw [this, hs]
  simp [Value.cells]
theorem copy23 (len cap : Nat) (x : Addr) (z : Nat → Int) (w : World) (hr : ∀ i, i < len → w.cell? (x.add i) = some (.int .u32 (z i))) (ty : TypeId) :
    (Builtin.copy_ #[23, 22] ty #[.slice (some ⟨w.heap.size, 0, none⟩) len len, .slice (some x) len cap]).run Ybaf.prog (w.alloc (.cells (madeCells #[.int .u32 0] len) 46)) = .ok (goInt len) (w.alloc (.cells (vals z len).toArray 46)) := by
  have hg : (w.alloc (.cells (madeCells #[.int .u32 0] len) 46)).heap[w.heap.size]? = some (.cells (madeCells #[.int .u32 0] len) 46 (0, 0)) := by
    show (w.heap.push _)[w.heap.size]? = _
    simp
  have h := run_copy_row (P := Ybaf.prog) (w.alloc (.cells (madeCells #[.int .u32 0] len) 46)) 23 22 ty 46 w.heap.size 0 len len x len cap (madeCells #[.int .u32 0] len) 46 (vals z len) Ybaf.underlying23 (by kernel_rfl) hg (by rw [vals_length]; simp) ?_ (by rw [vals_length, size_madeCells]; omega) ?_
  · rw [h, World.setRow_alloc_new, vals_length]
    congr 4
    simp [size_madeCells]
  · intro j v hv
    have hj : j < len := by have := (List.getElem?_eq_some_iff.1 hv).1; rwa [vals_length] at this
    have hw := hr j hj
    rw [World.cell?_alloc_lt _ _ _ (World.block_lt_of_cell? _ _ hw), hw, ← hv]
    simp [vals, hj]
  · intro v hv
    simp only [vals, List.mem_map] at hv
    obtain ⟨i, _, rfl⟩ := hv
    rfl

theorem given_long (a : Option Addr) (len cap : Nat) (d : Int) (s : Bool) (w : World) (h : 1024 < (len : Int)) :
    Calls Ybaf.prog 3 #[.slice a len cap, .int .i64 d, .bool s] w fun e w' => e = .returned (.bool true) ∧ Below w.heap.size w w' := by
  go_enter Ybaf.func3, Ybaf.ntmps3
  go_wp2
  go_ret
  exact ⟨rfl, Below.refl _ _⟩

/-- The request's cells: all zero but the point. -/
def reqCells (v : Value) : Array Value := #[.string ⟨#[]⟩, .int .i64 0, .slice none 0 0, .slice none 0 0, .slice none 0 0, .slice none 0 0, .bool false, .pointer none, .pointer none, .int .i64 0, v, .pointer none, .slice none 0 0, .slice none 0 0, .string ⟨#[]⟩, .slice none 0 0, .slice none 0 0, .int .i64 0, .int .i64 0, .slice none 0 0, .slice none 0 0, .bool false, .slice none 0 0, .bool false, .pointer none, .bool false, .slice none 0 0, .pointer none, .bool false, .int .i64 0, .bool false, .slice none 0 0]

/-- What the walk knows behind the request's making: the copy at N, the request behind it. -/
structure Made (F : Interp) (w : World) (N : Nat) (x : Addr) (len : Nat) (z : Nat → Int) (V : World) : Prop where
  rn : ∀ i, i < len → V.cell? ⟨N, i, none⟩ = some (.int .u32 (z i))
  rx : ∀ i, i < len → V.cell? (x.add i) = some (.int .u32 (z i))
  rq : V.cell? ⟨N + 1, 10, none⟩ = some (.slice (some ⟨N, 0, none⟩) len len)
  b : Below N w V
  f : F.answers V.tape
  sz : N + 2 ≤ V.heap.size
  xlt : 0 < len → x.block < N
theorem addr_add (N c : Nat) : (⟨N, 0, none⟩ : Addr).add c = ⟨N, c, none⟩ := by
  unfold Addr.add
  split
  · simp_all
  · simp
theorem block_add (a : Addr) (i : Nat) : (a.add i).block = a.block := by unfold Addr.add; split <;> rfl
theorem made {F : Interp} {w : World} {x : Addr} {len : Nat} {z : Nat → Int} (hF : F.answers w.tape) (hr : ∀ i, i < len → w.cell? (x.add i) = some (.int .u32 (z i))) :
    Made F w w.heap.size x len z ((w.alloc (.cells (vals z len).toArray 46)).alloc (.cells (reqCells (.slice (some ⟨w.heap.size, 0, none⟩) len len)) 41)) := by
  have b : Below w.heap.size w ((w.alloc (.cells (vals z len).toArray 46)).alloc (.cells (reqCells (.slice (some ⟨w.heap.size, 0, none⟩) len len)) 41)) := ((Below.refl _ w).alloc (Nat.le_refl _) _).alloc (by simp) _
  refine ⟨fun i hi => ?_, fun i hi => ?_, ?_, b, hF, by simp, fun h => ?_⟩
  · rw [World.cell?_alloc_past _ _ _ (by simp), World.cell?_alloc_new]
    simp [vals, hi]
  · have h := hr i hi
    exact (cell_below b _ (World.block_lt_of_cell? _ _ h)).trans h
  · have h := World.cell?_alloc_new (w.alloc (.cells (vals z len).toArray 46)) (reqCells (.slice (some ⟨w.heap.size, 0, none⟩) len len)) 41 10
    rw [World.size_alloc] at h
    exact h
  · have := World.block_lt_of_cell? _ _ (hr 0 h)
    rwa [block_add] at this
theorem Made.past {F : Interp} {w : World} {N : Nat} {x : Addr} {len : Nat} {z : Nat → Int} {V V' : World} (h : Made F w N x len z V) (b : Below V.heap.size V V') : Made F w N x len z V' := by
  have hz := h.sz
  refine ⟨fun i hi => (cell_below b _ (by show N < _; omega)).trans (h.rn i hi), fun i hi => (cell_below b _ (by rw [block_add]; have := h.xlt (by omega); omega)).trans (h.rx i hi), (cell_below b _ (by show N + 1 < _; omega)).trans h.rq, h.b.trans (b.mono (by omega)), ?_, Nat.le_trans h.sz b.size, h.xlt⟩
  have := h.f
  rwa [← b.tape] at this

theorem eq23_some (x : Addr) (len cap : Nat) (w : World) : (binOp .eql 23 (.slice (some x) len cap) (.slice none 0 0)).run Ybaf.prog w = .ok (.bool false) w := by kernel_rfl
theorem eq23_none (w : World) : (binOp .eql 23 (.slice none 0 0) (.slice none 0 0)).run Ybaf.prog w = .ok (.bool true) w := by kernel_rfl
theorem neq47 (a : Addr) (w : World) : (binOp .neq 47 (.pointer (some a)) (.pointer (some a))).run Ybaf.prog w = .ok (.bool false) w := by
  obtain ⟨j, hj⟩ := Option.isSome_iff_exists.1 (show (Ybaf.prog.info? 46).isSome = true by kernel_rfl)
  have h : ∀ d : Nat, (Op.equalIn (d + 1) 47 (.pointer (some a)) (.pointer (some a))).run Ybaf.prog w = .ok true w := fun d => by
    simp [Op.equalIn, run_underlying Ybaf.underlying47, sizeOf, typeInfo, hj, run_sameAddr_same]
  simp only [binOp]
  simp [Op.equal, Op.maxDepth, h 9999]
attribute [local go_sem] eq23_some eq23_none neq47

set_option maxHeartbeats 1000000 in
set_option maxRecDepth 100000 in
theorem given_other_some (F : Interp) (x : Addr) (len cap : Nat) (z : Nat → Int) (d : Int) (w : World) (hF : F.answers w.tape) (hl : len ≤ 1024) (hr : ∀ i, i < len → w.cell? (x.add i) = some (.int .u32 (z i))) (hd : ¬ (len : Int) = d) :
    Calls Ybaf.prog 3 #[.slice (some x) len cap, .int .i64 d, .bool false] w fun e w' => e = .returned (.bool true) ∧ Below w.heap.size w w' := by
  have h1 : ¬ 1024 < (len : Int) := by omega
  have hm := make23 len hl w
  have hcp := copy23 len cap x z w hr
  have MV := made hF hr
  go_enter Ybaf.func3, Ybaf.ntmps3
  go_upto_region 8 with fail
  obtain ⟨W, hW, N, hN, z1⟩ : ∃ W, W = w.alloc (.cells (vals z len).toArray 46) ∧ ∃ N, N = w.heap.size ∧ W.heap.size = N + 1 := ⟨_, rfl, _, rfl, by simp⟩
  rw [← hW, ← hN] at MV
  rw [← hW, ← hN]
  have HN : Hid (N = w.heap.size) := hN
  clear hW hN hm hcp hr hF
  go_upto_region 11 with fail
  obtain ⟨V, hV⟩ : ∃ V, V = W.alloc (.cells (reqCells (.slice (some ⟨N, 0, none⟩) len len)) 41) := ⟨_, rfl⟩
  rw [← hV] at MV
  unfold reqCells at hV
  rw [← hV]
  have M : Hid (Made F w N x len z V) := MV
  have q1 := MV.rq
  clear MV hV z1 W
  go_wp2_with fail
  refine (given_other F (N + 1) (some ⟨N, 0, none⟩) len len z d V M.out.f hd q1 (fun y hy i hi => by cases hy; rw [addr_add]; exact M.out.rn i hi)).mono ?_
  rintro e V9 ⟨t, v, rfl, b9⟩
  have M9 : Hid (Made F w N x len z V9) := M.out.past b9
  have q9 := M9.out.rq
  clear M q1 b9
  go_wp2_with fail
  go_loopw [58] (fun i wr => ∃ k m : Nat, k ≤ len ∧ i = .int .i64 k ∧ wr = V9.drewN m) (fun i _ => len - (intOf i).toNat)
  case atStart => exact ⟨0, 0, by omega, rfl, rfl⟩
  case round =>
    obtain ⟨k, m, hk, rfl, rfl⟩ := hrel
    by_cases hlt : k < len
    · have hi0 : (0 : Int) ≤ (k : Int) := by omega
      have hi1 : (k : Int) < len := by omega
      have c1 := M9.out.rn k hlt
      have c2 := M9.out.rx k hlt
      go_wp2_with fail
      go_quiet (fail)
      go_wp2
      go_roundw
      case rel => exact ⟨k + 1, _, by omega, by go_num, rfl⟩
      case measure => simp [intOf]; omega
    · go_wp2_with fail
      go_ret
      exact ⟨rfl, by rw [← HN.out]; exact below_drewN M9.out.b m⟩

set_option maxHeartbeats 1000000 in
set_option maxRecDepth 100000 in
theorem given_eq_some (F : Interp) (x : Addr) (len cap : Nat) (z : Nat → Int) (d : Int) (s : Bool) (w : World) (hF : F.answers w.tape) (hl : len ≤ 1024) (hr : ∀ i, i < len → w.cell? (x.add i) = some (.int .u32 (z i))) (hs : s = true ∨ (s = false ∧ d = (len : Int))) :
    Calls Ybaf.prog 3 #[.slice (some x) len cap, .int .i64 d, .bool s] w fun e w' => e = .returned (.bool true) ∧ Below w.heap.size w w' := by
  rcases hs with rfl | ⟨rfl, rfl⟩
  all_goals
    have h1 : ¬ 1024 < (len : Int) := by omega
    have hm := make23 len hl w
    have hcp := copy23 len cap x z w hr
    have MV := made hF hr
    go_enter Ybaf.func3, Ybaf.ntmps3
    go_upto_region 8 with fail
    obtain ⟨W, hW, N, hN, z1⟩ : ∃ W, W = w.alloc (.cells (vals z len).toArray 46) ∧ ∃ N, N = w.heap.size ∧ W.heap.size = N + 1 := ⟨_, rfl, _, rfl, by simp⟩
    rw [← hW, ← hN] at MV
    rw [← hW, ← hN]
    have HN : Hid (N = w.heap.size) := hN
    clear hW hN hm hcp hr hF
    go_upto_region 11 with fail
    obtain ⟨V, hV⟩ : ∃ V, V = W.alloc (.cells (reqCells (.slice (some ⟨N, 0, none⟩) len len)) 41) := ⟨_, rfl⟩
    rw [← hV] at MV
    unfold reqCells at hV
    rw [← hV]
    have M : Hid (Made F w N x len z V) := MV
    have q1 := MV.rq
    clear MV hV z1 W
    go_wp2_with fail
    refine (given_same (N + 1) (some ⟨N, 0, none⟩) len len V q1).mono ?_
    rintro e V9 ⟨rfl, rfl⟩
    go_wp2_with fail
    go_loopw [58] (fun i wr => ∃ k m : Nat, k ≤ len ∧ i = .int .i64 k ∧ wr = V9.drewN m) (fun i _ => len - (intOf i).toNat)
    case atStart => exact ⟨0, 0, by omega, rfl, rfl⟩
    case round =>
      obtain ⟨k, m, hk, rfl, rfl⟩ := hrel
      by_cases hlt : k < len
      · have hi0 : (0 : Int) ≤ (k : Int) := by omega
        have hi1 : (k : Int) < len := by omega
        have c1 := M.out.rn k hlt
        have c2 := M.out.rx k hlt
        go_wp2_with fail
        go_quiet (fail)
        go_wp2
        go_roundw
        case rel => exact ⟨k + 1, _, by omega, by go_num, rfl⟩
        case measure => simp [intOf]; omega
      · go_wp2_with fail
        go_loopw [99] (fun i wr => ∃ j n : Nat, j ≤ len ∧ i = .int .i64 j ∧ wr = V9.drewN n) (fun i _ => len - (intOf i).toNat)
        case atStart => exact ⟨0, m, by omega, rfl, rfl⟩
        case round =>
          obtain ⟨j, n, hj, rfl, rfl⟩ := hrel
          by_cases hjt : j < len
          · have hi0 : (0 : Int) ≤ (j : Int) := by omega
            have hi1 : (j : Int) < len := by omega
            have c1 := M.out.rn j hjt
            have c2 := M.out.rx j hjt
            go_wp2_with fail
            go_quiet (fail)
            go_wp2
            go_roundw
            case rel => exact ⟨j + 1, _, by omega, by go_num, rfl⟩
            case measure => simp [intOf]; omega
          · go_wp2_with fail
            by_cases hp : 0 < len
            · have hp1 : (0 : Int) < len := by omega
              have hd : decide ((0 : Int) < len) = true := decide_eq_true hp1
              go_quiet (fail)
              go_wp2_with fail
              go_ret
              exact ⟨rfl, by rw [← HN.out]; exact below_drewN (below_drewN M.out.b _) _⟩
            · obtain rfl : len = 0 := by omega
              have hd : decide ((0 : Int) < ((0 : Nat) : Int)) = false := by decide
              go_quiet (fail)
              go_wp2_with fail
              go_ret
              exact ⟨rfl, by rw [← HN.out]; exact below_drewN (below_drewN M.out.b _) _⟩

set_option maxHeartbeats 1000000 in
set_option maxRecDepth 100000 in
theorem given_nil_other (F : Interp) (d : Int) (w : World) (hF : F.answers w.tape) (hd : ¬ ((0 : Nat) : Int) = d) :
    Calls Ybaf.prog 3 #[.slice none 0 0, .int .i64 d, .bool false] w fun e w' => e = .returned (.bool true) ∧ Below w.heap.size w w' := by
  have hd0 : ¬ (0 : Int) = d := hd
  go_enter Ybaf.func3, Ybaf.ntmps3
  go_upto_region 11 with fail
  obtain ⟨V, hV, N, hN, q1, b1, f1, z1⟩ : ∃ V, V = w.alloc (.cells (reqCells (.slice none 0 0)) 41) ∧ ∃ N, N = w.heap.size ∧ V.cell? ⟨N, 10, none⟩ = some (.slice none 0 0) ∧ Hid (Below N w V) ∧ Hid (F.answers V.tape) ∧ V.heap.size = N + 1 :=
    ⟨_, rfl, _, rfl, World.cell?_alloc_new w (reqCells (.slice none 0 0)) 41 10, (Below.refl _ w).alloc (Nat.le_refl _) _, hF, by simp⟩
  unfold reqCells at hV
  rw [← hV, ← hN]
  have HN : Hid (N = w.heap.size) := hN
  clear hV hN hF
  go_wp2_with fail
  refine (given_other F N none 0 0 (fun _ => 0) d V f1.out hd q1 (fun y hy => by cases hy)).mono ?_
  rintro e V9 ⟨t, v, rfl, b9⟩
  have q9 : V9.cell? ⟨N, 10, none⟩ = some (.slice none 0 0) := (cell_below b9 _ (by show N < _; omega)).trans q1
  have B9 : Hid (Below N w V9) := b1.out.trans (b9.mono (by omega))
  clear q1 b9 b1 f1 z1
  go_wp2_with fail
  go_loopw [58] (fun i wr => i = .int .i64 0 ∧ wr = V9) (fun _ _ => 0)
  case atStart => exact ⟨rfl, rfl⟩
  case round =>
    obtain ⟨rfl, rfl⟩ := hrel
    go_wp2_with fail
    go_ret
    exact ⟨rfl, by rw [← HN.out]; exact B9.out⟩

set_option maxHeartbeats 1000000 in
set_option maxRecDepth 100000 in
theorem given_nil_eq (d : Int) (s : Bool) (w : World) (hs : s = true ∨ (s = false ∧ d = ((0 : Nat) : Int))) :
    Calls Ybaf.prog 3 #[.slice none 0 0, .int .i64 d, .bool s] w fun e w' => e = .returned (.bool true) ∧ Below w.heap.size w w' := by
  rcases hs with rfl | ⟨rfl, rfl⟩
  all_goals
    go_enter Ybaf.func3, Ybaf.ntmps3
    go_upto_region 11 with fail
    obtain ⟨V, hV, N, hN, q1, b1, z1⟩ : ∃ V, V = w.alloc (.cells (reqCells (.slice none 0 0)) 41) ∧ ∃ N, N = w.heap.size ∧ V.cell? ⟨N, 10, none⟩ = some (.slice none 0 0) ∧ Hid (Below N w V) ∧ V.heap.size = N + 1 :=
      ⟨_, rfl, _, rfl, World.cell?_alloc_new w (reqCells (.slice none 0 0)) 41 10, (Below.refl _ w).alloc (Nat.le_refl _) _, by simp⟩
    unfold reqCells at hV
    rw [← hV, ← hN]
    have HN : Hid (N = w.heap.size) := hN
    clear hV hN
    go_wp2_with fail
    refine (given_same N none 0 0 V q1).mono ?_
    rintro e V9 ⟨rfl, rfl⟩
    go_wp2_with fail
    go_loopw [58] (fun i wr => i = .int .i64 0 ∧ wr = V9) (fun _ _ => 0)
    case atStart => exact ⟨rfl, rfl⟩
    case round =>
      obtain ⟨rfl, rfl⟩ := hrel
      go_wp2_with fail
      go_loopw [99] (fun i wq => i = .int .i64 0 ∧ wq = wr) (fun _ _ => 0)
      case atStart => exact ⟨rfl, rfl⟩
      case round =>
        obtain ⟨rfl, rfl⟩ := hrel
        have hd : decide ((0 : Int) < ((0 : Nat) : Int)) = false := by decide
        go_wp2_with fail
        go_quiet (fail)
        go_wp2_with fail
        go_ret
        exact ⟨rfl, by rw [← HN.out]; exact below_drewN b1.out _⟩

end Go.Proofs.YbulkcsjkFmt
