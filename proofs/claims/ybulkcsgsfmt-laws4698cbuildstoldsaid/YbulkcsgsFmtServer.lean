/-
  newAKAServer (function 5) with a quintet source: its contract.
-/
import Derived.Test.YbulkcsgsFmtClone
import Derived.Deep.RegionHeld3
import Derived.Deep.DrawnRows
import Derived.Lib.ConvBytes
namespace Go.Proofs.YbulkcsgsFmt
open Go.RowKit
attribute [local go_sem ↓] Go.wp_at_zero Go.wp_at_succ

theorem IsRow16.later {w w' : World} {a : Option Addr} {len cap : Nat} {zs : List Int} (h : IsRow16 w a len cap zs) (hb : Below w.heap.size w w') : IsRow16 w' a len cap zs := by
  rcases h with h | ⟨x, rfl, hl, hm, hz, hc, hw⟩
  · exact .inl h
  · refine .inr ⟨x, rfl, hl, hm, hz, fun i hi => ?_, hw⟩
    have h := hc i hi
    exact (cell_later hb h)

/-- The cells of a serverExchange that holds the method's own part and is zero elsewhere. -/
def exchCells (p : Value) : Array Value :=
  #[p, .int .u8 0, .int .u8 0, .bool false, .int .u8 0, .slice none 0 0, .slice none 0 0, .slice none 0 0] ++ Array.replicate 128 (.int .u8 0) ++ #[.nilIface]
/-- The cells of the new server. -/
def servCells (p m q n k b : Value) : Array Value :=
  exchCells p ++ #[m, q, n, k, b, .slice none 0 0] ++ Array.replicate 32 (.int .u8 0) ++ #[.slice none 0 0]
def vptr : Value → Option Addr
  | .pointer p => p
  | _ => none
def vity : Value → TypeId
  | .iface t _ => t
  | _ => 0
def vival : Value → Value
  | .iface _ x => x
  | v => v
def vnth (v : Value) (i : Nat) : Value := v.cells.getD i undef
theorem vptr_pointer (p : Option Addr) : vptr (.pointer p) = p := rfl
theorem vity_iface (t : TypeId) (x : Value) : vity (.iface t x) = t := rfl
theorem vival_iface (t : TypeId) (x : Value) : vival (.iface t x) = x := rfl
theorem vnth_exch (v : Value) : vnth (.agg (exchCells v)) 0 = v := by kernel_rfl
theorem vnth_three0 (a b c : Value) : vnth (.agg #[a, b, c]) 0 = a := rfl
theorem vnth_three1 (a b c : Value) : vnth (.agg #[a, b, c]) 1 = b := rfl
theorem vnth_three2 (a b c : Value) : vnth (.agg #[a, b, c]) 2 = c := rfl

theorem exec56' (ρ : Operand → Value) (d : Option Tmp) (x : Operand) (ty : TypeId) (pos : String) (af : Array Edge) (g : Option (Nat × Bool)) (w : World) (p : Option Addr) (h : ρ x = .pointer p) :
    (execOp ρ ⟨d, .build 56 #[(0, x)], ty, pos, af, g⟩).run Ybaf.prog w = .ok (.value (.agg (exchCells (.pointer p)))) w := by
  have e : (Instr.build 56 #[(0, .pointer p)]).run Ybaf.prog w = .ok (.agg (exchCells (.pointer p))) w := by kernel_rfl
  simp only [execOp, List.map_toArray, List.map_cons, List.map_nil, h, Sem.run_bind, e, Result.andThen_ok]
  rfl

theorem exec56 (ρ : Operand → Value) (d : Option Tmp) (x : Operand) (ty : TypeId) (pos : String) (af : Array Edge) (g : Option (Nat × Bool)) (w : World) (h : ρ x = .pointer (vptr (ρ x))) :
    (execOp ρ ⟨d, .build 56 #[(0, x)], ty, pos, af, g⟩).run Ybaf.prog w = .ok (.value (.agg (exchCells (.pointer (vptr (ρ x)))))) w := exec56' ρ d x ty pos af g w _ h

theorem exec61' (ρ : Operand → Value) (d : Option Tmp) (x0 x1 x2 x3 : Operand) (ty : TypeId) (pos : String) (af : Array Edge) (g : Option (Nat × Bool)) (w : World) (v n k b q : Value) (t : TypeId) (m : Option Addr)
    (h0 : ρ x0 = .agg (exchCells v)) (h1 : ρ x1 = .pointer m) (h2 : ρ x2 = .iface t q) (h3 : ρ x3 = .agg #[n, k, b]) :
    (execOp ρ ⟨d, .build 61 #[(0, x0), (1, x1), (2, x2), (3, x3)], ty, pos, af, g⟩).run Ybaf.prog w = .ok (.value (.agg (servCells v (.pointer m) (.iface t q) n k b))) w := by
  have e : (Instr.build 61 #[(0, .agg (exchCells v)), (1, .pointer m), (2, .iface t q), (3, .agg #[n, k, b])]).run Ybaf.prog w = .ok (.agg (servCells v (.pointer m) (.iface t q) n k b)) w := by kernel_rfl
  simp only [execOp, List.map_toArray, List.map_cons, List.map_nil, h0, h1, h2, h3, Sem.run_bind, e, Result.andThen_ok]
  rfl

theorem exec61 (ρ : Operand → Value) (d : Option Tmp) (x0 x1 x2 x3 : Operand) (ty : TypeId) (pos : String) (af : Array Edge) (g : Option (Nat × Bool)) (w : World)
    (h0 : ρ x0 = .agg (exchCells (vnth (ρ x0) 0))) (h1 : ρ x1 = .pointer (vptr (ρ x1))) (h2 : ρ x2 = .iface (vity (ρ x2)) (vival (ρ x2))) (h3 : ρ x3 = .agg #[vnth (ρ x3) 0, vnth (ρ x3) 1, vnth (ρ x3) 2]) :
    (execOp ρ ⟨d, .build 61 #[(0, x0), (1, x1), (2, x2), (3, x3)], ty, pos, af, g⟩).run Ybaf.prog w = .ok (.value (.agg (servCells (vnth (ρ x0) 0) (.pointer (vptr (ρ x1))) (.iface (vity (ρ x2)) (vival (ρ x2))) (vnth (ρ x3) 0) (vnth (ρ x3) 1) (vnth (ρ x3) 2)))) w :=
  exec61' ρ d x0 x1 x2 x3 ty pos af g w _ _ _ _ _ _ _ h0 h1 h2 h3

attribute [local go_sem] vptr_pointer vity_iface vival_iface vnth_exch vnth_three0 vnth_three1 vnth_three2
attribute [local go_sem ↓] exec56 exec61

theorem below_bytes (w : World) (s : ByteArray) : Below w.heap.size w (Lib.bytesWorld w 5 s) :=
  ⟨rfl, rfl, rfl, by rw [Lib.bytesWorld_size]; omega, fun k hk => Lib.bytesWorld_at_old w 5 s k hk⟩

/-- What the drawn statement's loads read: the boxed configuration's four cells; and what was there at the call stands. -/
def Four (w : World) (c0 c1 c2 c3 : Value) (W : World) : Prop :=
  W.cell? ⟨w.heap.size, 0, none⟩ = some c0 ∧ W.cell? ⟨w.heap.size, 1, none⟩ = some c1 ∧ W.cell? ⟨w.heap.size, 2, none⟩ = some c2 ∧ W.cell? ⟨w.heap.size, 3, none⟩ = some c3 ∧ Below w.heap.size w W ∧ w.heap.size < W.heap.size
theorem kept4 {w W W' : World} {c0 c1 c2 c3 : Value} (h : Four w c0 c1 c2 c3 W) (k : Below W.heap.size W W') : Four w c0 c1 c2 c3 W' := by
  obtain ⟨h0, h1, h2, h3, hb, hn⟩ := h
  exact ⟨(k.cell hn).trans h0, (k.cell hn).trans h1, (k.cell hn).trans h2, (k.cell hn).trans h3, hb.trans (k.mono (by omega)), by have := k.size; omega⟩

/-- WHAT newAKAServer LEAVES: the server's block; the name's copy; the list's copy. -/
def Served (w w' : World) (bm bq g : Nat) (s : ByteArray) (a : Option Addr) (len : Nat) (zs : List Int) (b : Bool) : Prop :=
  ∃ (gn capn : Nat) (r : Option Addr) (capk : Nat),
    w'.heap[g]? = some (.cells (servCells (.pointer (some ⟨bm, 0, none⟩)) (.pointer (some ⟨bm, 0, none⟩)) (.iface 34 (.pointer (some ⟨bq, 0, none⟩))) (.slice (some ⟨gn, 0, none⟩) s.size capn) (.slice r len capk) (.bool b)) 61) ∧
    w.heap.size ≤ g ∧ g < w'.heap.size ∧ (∀ j, j < s.size → w'.cell? ⟨gn, j, none⟩ = some (.int .u8 (s.data.toList.getD j 0).toNat)) ∧ Copied w w' a len zs r capk

theorem Copied.later {w0 w w' w'' : World} {a : Option Addr} {len : Nat} {zs : List Int} {r : Option Addr} {c : Nat} (h : Copied w w' a len zs r c) (h0 : w0.heap.size ≤ w.heap.size) (hb : Below w'.heap.size w' w'') : Copied w0 w'' a len zs r c := by
  rcases h with h | ⟨g, ha, hr, hg, hlt, ⟨cur, hcur⟩, hc⟩
  · exact .inl h
  · exact .inr ⟨g, ha, hr, by omega, by have := hb.size; omega, ⟨cur, (hb.block g hlt).trans hcur⟩, fun j hj => cell_later hb (hc j hj)⟩

theorem served_of {w W : World} {bm bq gn capn : Nat} {s : ByteArray} {a r : Option Addr} {len capk : Nat} {zs : List Int} {b : Bool} (hw : w.heap.size ≤ W.heap.size)
    (hn : ∀ j, j < s.size → W.cell? ⟨gn, j, none⟩ = some (.int .u8 (s.data.toList.getD j 0).toNat)) (hc : Copied w W a len zs r capk) :
    Served w (W.alloc (.cells (servCells (.pointer (some ⟨bm, 0, none⟩)) (.pointer (some ⟨bm, 0, none⟩)) (.iface 34 (.pointer (some ⟨bq, 0, none⟩))) (.slice (some ⟨gn, 0, none⟩) s.size capn) (.slice r len capk) (.bool b)) 61)) bm bq W.heap.size s a len zs b := by
  have hb : Below W.heap.size W (W.alloc (.cells (servCells (.pointer (some ⟨bm, 0, none⟩)) (.pointer (some ⟨bm, 0, none⟩)) (.iface 34 (.pointer (some ⟨bq, 0, none⟩))) (.slice (some ⟨gn, 0, none⟩) s.size capn) (.slice r len capk) (.bool b)) 61)) := (Below.refl _ _).alloc (Nat.le_refl _) _
  exact ⟨gn, capn, r, capk, heap_alloc_new W _, hw, by simp, fun j hj => cell_later hb (hn j hj), hc.later (Nat.le_refl _) hb⟩

set_option maxHeartbeats 1000000 in
set_option maxRecDepth 100000 in
theorem server_any (bm bq : Nat) (s : ByteArray) (a : Option Addr) (len cap : Nat) (zs : List Int) (b : Bool) (w : World) (hr : IsRow16 w a len cap zs) (hlen : len ≤ 4096) :
    Calls Ybaf.prog 5 #[.pointer (some ⟨bm, 0, none⟩), .agg #[.iface 34 (.pointer (some ⟨bq, 0, none⟩)), .string s, .slice a len cap, .bool b]] w fun e w' =>
      ∃ g, e = .returned (.tuple #[.pointer (some ⟨g, 0, none⟩), .nilIface]) ∧ Served w w' bm bq g s a len zs b ∧ Below w.heap.size w w' := by
  have hcv : ∀ w : World, (convert 9 49 (.string s)).run Ybaf.prog w = .ok (.slice (some ⟨w.heap.size, 0, none⟩) s.size (grownCap w s.size 0 5)) (Lib.bytesWorld w 5 s) := fun w => Lib.run_convert_string_bytes w 9 49 5 s Ybaf.underlying9 Ybaf.underlying49 Ybaf.underlying5
  have R : Hid (IsRow16 w a len cap zs) := hr
  clear hr
  go_enter Ybaf.func5, Ybaf.ntmps5
  go_wp2
  refine wp_region_noPanic ?_
  go_region_held (fun w' => w'.cell? ⟨w.heap.size, 0, none⟩ = some (.iface 34 (.pointer (some ⟨bq, 0, none⟩))) ∧ w'.cell? ⟨w.heap.size, 1, none⟩ = some (.string s) ∧ w'.cell? ⟨w.heap.size, 2, none⟩ = some (.slice a len cap) ∧ w'.cell? ⟨w.heap.size, 3, none⟩ = some (.bool b) ∧ Below w.heap.size w w' ∧ w.heap.size < w'.heap.size)
    (first | (refine ⟨?_, ?_, ?_, ?_, ?_, ?_⟩ <;> first | (simp; done) | (go_grown; done)) | (refine kept4 ?_ (below_bytes _ s); assumption) | (refine kept4 ?_ ((Below.refl _ _).alloc (Nat.le_refl _) _); assumption) | (refine kept4 (by assumption) (by assumption)))
    (first | (go_at_call 7; refine (clone_any a len cap zs _ (R.out.later ?_) hlen).mono ?_; (go_split_ands; assumption); rintro e w1 ⟨r, cap1, rfl, hcp, hb1⟩))
  all_goals refine NoPanic.normal ?_
  all_goals go_wp2
  · go_ret2
    have hs := hb1.size
    rw [Lib.bytesWorld_size] at hs
    simp at hs
    refine ⟨w1.heap.size, rfl, served_of (by omega) (fun j hj => cell_later hb1 ?_) (hcp.later (by rw [Lib.bytesWorld_size]; simp; omega) (Below.refl _ _)), ?_⟩
    · have := Lib.bytesWorld_cell ((w.alloc (.cells #[.iface 34 (.pointer (some ⟨bq, 0, none⟩)), .string s, .slice a len cap, .bool b] 45)).drew) 5 s j hj
      simpa using this
    · go_split_ands
      assumption
  · go_ret2
    have hs := hb1.size
    simp at hs
    refine ⟨(Lib.bytesWorld w1 5 s).heap.size, rfl, served_of (by rw [Lib.bytesWorld_size]; omega) (fun j hj => Lib.bytesWorld_cell w1 5 s j hj) (hcp.later (by simp) (below_bytes _ _)), ?_⟩
    go_split_ands
    assumption

end Go.Proofs.YbulkcsgsFmt
