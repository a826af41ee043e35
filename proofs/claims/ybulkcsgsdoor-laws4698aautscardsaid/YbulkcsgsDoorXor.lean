/-
  crypto/subtle.XORBytes on rows of bytes of the program's own memory (functions 10 to 14).
-/
import Derived.Test.YbulkcsgsDoorMem
import Derived.Deep.QuietTactic
import Derived.BigQuiet
import Derived.Deep.RegionHeld3
namespace Go.Proofs.YbulkcsgsDoor
open Go.RowKit

/-- Byte by byte. -/
def xorL (xs ys : List UInt8) : List UInt8 := List.zipWith (· ^^^ ·) xs ys
theorem xorL_length (xs ys : List UInt8) : (xorL xs ys).length = min xs.length ys.length := by simp [xorL]

/-- One step of the entry's loop. -/
def xorStep (p : Value × Value) : Sem Value := do pure (Value.int .u8 (Int.ofNat ((← asInt p.1).toNat ^^^ (← asInt p.2).toNat)))
theorem run_asInt (b : UInt8) (w : World) : (asInt (bv b)).run Ybad.prog w = .ok (b.toNat : Int) w := rfl
theorem run_xorStep (x y : UInt8) (w : World) : (xorStep (bv x, bv y)).run Ybad.prog w = .ok (bv (x ^^^ y)) w := by
  simp only [xorStep, Sem.run_bind, run_asInt, Result.andThen_ok, Sem.run_pure]
  simp [bv, UInt8.toNat_xor]

theorem run_xorMap (w : World) : ∀ (xs ys : List UInt8), (((rv xs).zip (rv ys)).mapM xorStep).run Ybad.prog w = .ok (rv (xorL xs ys)) w
  | [], _ => by simp [rv, xorL]
  | _ :: _, [] => by simp [rv, xorL]
  | x :: xs, y :: ys => by
    have ih := run_xorMap w xs ys
    simp only [rv, xorL, List.map_cons, List.zip_cons_cons, List.mapM_cons, List.zipWith_cons_cons] at ih ⊢
    simp only [Sem.run_bind, run_xorStep, Result.andThen_ok, ih, Sem.run_pure]

theorem xorBytes_eq (d a b n : Value) : Extern.CryptoHooks.xorBytes #[d, a, b, n] = (do
    let n := (← asInt n).toNat
    let xs ← loadCells (← asAddr a) n
    let ys ← loadCells (← asAddr b) n
    let out ← (xs.zip ys).mapM xorStep
    storeCells (← asAddr d) out.toList
    pure (.tuple #[])) := rfl
theorem run_asInt64 (n : Int) (w : World) : (asInt (.int .i64 n)).run Ybad.prog w = .ok n w := rfl
theorem run_asAddr (a : Addr) (w : World) : (asAddr (.pointer (some a))).run Ybad.prog w = .ok a w := rfl

theorem run_xor13 (w : World) (bd od bx ox bw ow : Nat) (xs ys : List UInt8) (n : Int) (hn : n = xs.length) (hl : ys.length = xs.length) (hx : w.rangeAt bx ox (rv xs)) (hy : w.rangeAt bw ow (rv ys)) (hd : w.there bd od xs.length) :
    (callFunc 13 #[.pointer (some ⟨bd, od, none⟩), .pointer (some ⟨bx, ox, none⟩), .pointer (some ⟨bw, ow, none⟩), .int .i64 n]).run Ybad.prog w = .ok (.value (.tuple #[])) (w.setCells bd od (rv (xorL xs ys))) := by
  subst hn
  rw [run_callFunc_extern (e := Extern.CryptoHooks.xorBytes) Ybad.func13 (by kernel_rfl) (by kernel_rfl) (by kernel_rfl) (by kernel_rfl)]
  have lx := run_loadCells_list (P := Ybad.prog) w ⟨bx, ox, none⟩ (rv xs) (fun j v hv => by rw [Addr.add_mid]; exact hx j v hv)
  have ly := run_loadCells_list (P := Ybad.prog) w ⟨bw, ow, none⟩ (rv ys) (fun j v hv => by rw [Addr.add_mid]; exact hy j v hv)
  rw [rv_length] at lx ly
  rw [hl] at ly
  have hlen : (xorL xs ys).length = xs.length := by rw [xorL_length, hl]; simp
  have st := run_storeCells_cells (P := Ybad.prog) bd od (rv (xorL xs ys)) 0 w (fun j hj => by rw [rv_length, hlen] at hj; simpa using (hd j hj).1) (fun j hj => by rw [rv_length, hlen] at hj; simpa using (hd j hj).2) (rv_one _)
  have mp := run_xorMap w xs ys
  simp only [Nat.add_zero] at st
  have mz : (((rv xs).toArray.zip (rv ys).toArray).mapM xorStep).run Ybad.prog w = .ok (rv (xorL xs ys)).toArray w := by
    rw [List.zip_toArray, Array.mapM_eq_mapM_toList]
    simp [mp]
  rw [xorBytes_eq]
  simp only [Sem.run_bind, run_asInt64, run_asAddr, Result.andThen_ok, Int.toNat_natCast, lx, ly, mz, st, Sem.run_pure]

theorem run_sameAddr_own {w : World} {a b : Addr} (hne : a.block ≠ b.block) (ha : Own w a.block) (hb : Own w b.block) : (sameAddr a b).run Ybad.prog w = .ok false w := by
  obtain ⟨ca, ta, ha⟩ := ha
  obtain ⟨cb, tb, hb⟩ := hb
  exact run_sameAddr_other w (fun e => hne (by rw [e])) ha hb

theorem run_overlap14 {w : World} {a b : Addr} (n ca cb : Nat) (hne : a.block ≠ b.block) (ha : Own w a.block) (hb : Own w b.block) :
    (callFunc 14 #[.slice (some a) n ca, .slice (some b) n cb]).run Ybad.prog w = .ok (.value (.bool false)) w := by
  rw [run_callFunc_extern (e := Extern.SlicesOverlaps.overlaps #[37, 37] #[4]) Ybad.func14 (by kernel_rfl) (by kernel_rfl) (by kernel_rfl) (by kernel_rfl)]
  obtain ⟨c1, t1, ha⟩ := ha
  obtain ⟨c2, t2, hb⟩ := hb
  have hsz : (sizeOf 5).run Ybad.prog w = .ok 1 w := by kernel_rfl
  obtain ⟨s1, q2, e⟩ : ∃ (s1 : String) (q2 : Question), Extern.SlicesOverlaps.overlaps #[37, 37] #[4] #[.slice (some a) n ca, .slice (some b) n cb] = (do
    let .slice elem ← underlying 37 | stuck s1
    let size ← sizeOf elem
    if n = 0 ∨ n = 0 ∨ size = 0 then pure (.bool false)
      else if a.block != b.block && (← frozen a) && (← frozen b) then unsupported .addressObserved
      else do
        if a.block != b.block then do
          noView a; noView b
          if ← mayBeOne a b then return .bool ((← choose q2) == 1)
        pure (.bool (a.block == b.block && a.off < b.off + n * size && b.off < a.off + n * size))) := ⟨_, _, rfl⟩
  rw [e]
  simp [run_underlying Ybad.underlying37, hsz, hne, World.frozen?, ha, hb, noView, viewAt, World.shape?, mayBeOne, stringish]

theorem info5 : (Ybad.prog.info? 5).map (·.size) = some 1 := by kernel_rfl
theorem eql51_same (a : Addr) (w : World) : (binOp .eql 51 (.pointer (some a)) (.pointer (some a))).run Ybad.prog w = .ok (.bool true) w := by
  cases hj : Ybad.prog.info? 5 with
  | none => have := info5; rw [hj] at this; cases this
  | some j => exact run_eql_ptr_same w a Ybad.underlying51 hj
theorem eql51_other {a b : Addr} {w : World} (hne : a.block ≠ b.block) (ha : Own w a.block) (hb : Own w b.block) : (binOp .eql 51 (.pointer (some a)) (.pointer (some b))).run Ybad.prog w = .ok (.bool false) w := by
  obtain ⟨ca, ta, ha⟩ := ha
  obtain ⟨cb, tb, hb⟩ := hb
  cases hj : Ybad.prog.info? 5 with
  | none => have := info5; rw [hj] at this; cases this
  | some j =>
    have hs : j.size = 1 := by have := info5; rw [hj] at this; simpa using this
    exact run_eql_ptr_other w Ybad.underlying51 hj (by omega) (fun e => hne (by rw [e])) ha hb

/-- x and y begin at one place: no inexact overlap. -/
theorem inexact_same (b o n c c' : Nat) (w : World) (hn : 0 < n) (hb : n ≤ 4096) :
    Calls Ybad.prog 12 #[.slice (some ⟨b, o, none⟩) n c, .slice (some ⟨b, o, none⟩) n c'] w fun e w' => e = .returned (.bool false) ∧ ∃ k, w' = w.drewN k := by
  have h0 : (0 : Int) < (n : Int) := by omega
  have h1 : ((n : Int) == 0) = false := by simp; omega
  have q := fun (q : Nat) => eql51_same ⟨b, o, none⟩ (w.drewN q)
  go_enter Ybad.func12, Ybad.ntmps12
  go_wp2_with fail
  go_quiet (fail)
  go_wp2
  go_ret
  exact ⟨rfl, _, rfl⟩

/-- x and y lie in two blocks: no overlap at all. -/
theorem inexact_apart (b o b' o' n c c' : Nat) (w : World) (hn : 0 < n) (hb : n ≤ 4096) (hne : b ≠ b') (h1 : Own w b) (h2 : Own w b') :
    Calls Ybad.prog 12 #[.slice (some ⟨b, o, none⟩) n c, .slice (some ⟨b', o', none⟩) n c'] w fun e w' => e = .returned (.bool false) ∧ ∃ k, w' = w.drewN k := by
  have h0 : (0 : Int) < (n : Int) := by omega
  have h3 : ((n : Int) == 0) = false := by simp; omega
  have q := fun (q : Nat) => eql51_other (a := ⟨b, o, none⟩) (b := ⟨b', o', none⟩) (w := w.drewN q) hne h1 h2
  have q' := fun (q : Nat) => run_overlap14 (a := ⟨b, o, none⟩) (b := ⟨b', o', none⟩) (w := w.drewN q) n c c' hne h1 h2
  clear h1 h2
  go_enter Ybad.func12, Ybad.ntmps12
  go_wp2_with fail
  go_quiet (fail)
  go_wp2
  go_ret
  exact ⟨rfl, _, rfl⟩

/-- XORBytes(dst, x, y), n bytes each: dst begins where x begins, or lies in another block; y lies in another block than dst. -/
def XorFits (w : World) (bd od bx ox bw : Nat) : Prop := ((bd = bx ∧ od = ox) ∨ (bd ≠ bx ∧ Own w bx)) ∧ bd ≠ bw ∧ Own w bd ∧ Own w bw
theorem XorFits.drewN {w : World} {bd od bx ox bw : Nat} (h : XorFits w bd od bx ox bw) (q : Nat) : XorFits (w.drewN q) bd od bx ox bw := h

theorem inexact_first (bd od bx ox bw n c c' : Nat) (w : World) (hn : 0 < n) (hb : n ≤ 4096) (h : XorFits w bd od bx ox bw) :
    Calls Ybad.prog 12 #[.slice (some ⟨bd, od, none⟩) n c, .slice (some ⟨bx, ox, none⟩) n c'] w fun e w' => e = .returned (.bool false) ∧ ∃ k, w' = w.drewN k := by
  obtain ⟨h | ⟨h, h'⟩, _, hd, _⟩ := h
  · obtain ⟨rfl, rfl⟩ := h
    exact inexact_same bd od n c c' w hn hb
  · exact inexact_apart bd od bx ox n c c' w hn hb h hd h'
theorem inexact_second (bd od bx ox bw ow n c c' : Nat) (w : World) (hn : 0 < n) (hb : n ≤ 4096) (h : XorFits w bd od bx ox bw) :
    Calls Ybad.prog 12 #[.slice (some ⟨bd, od, none⟩) n c, .slice (some ⟨bw, ow, none⟩) n c'] w fun e w' => e = .returned (.bool false) ∧ ∃ k, w' = w.drewN k :=
  inexact_apart bd od bw ow n c c' w hn hb h.2.1 h.2.2.1 h.2.2.2

set_option maxHeartbeats 1000000 in
theorem xor11 (bd od bx ox bw ow n cd cx cw : Nat) (xs ys : List UInt8) (w : World) (hn : 0 < n) (hb : n ≤ 4096) (h1 : n ≤ cd) (h2 : n ≤ cx) (h3 : n ≤ cw) (hx : Row w bx ox xs) (hy : Row w bw ow ys) (lx : xs.length = n) (ly : ys.length = n)
    (hf : XorFits w bd od bx ox bw) (hd : w.there bd od n) :
    Calls Ybad.prog 11 #[.slice (some ⟨bd, od, none⟩) n cd, .slice (some ⟨bx, ox, none⟩) n cx, .slice (some ⟨bw, ow, none⟩) n cw] w fun e w' => e = .returned (.int .i64 n) ∧ ∃ k, w' = (w.drewN k).setCells bd od (rv (xorL xs ys)) := by
  have h0 : (0 : Int) < (n : Int) := by omega
  have h3' : ((n : Int) == 0) = false := by simp; omega
  have HF : Hid (XorFits w bd od bx ox bw) := hf
  have HX : Hid (∀ q, (callFunc 13 #[.pointer (some ⟨bd, od, none⟩), .pointer (some ⟨bx, ox, none⟩), .pointer (some ⟨bw, ow, none⟩), .int .i64 n]).run Ybad.prog (w.drewN q) = .ok (.value (.tuple #[])) ((w.drewN q).setCells bd od (rv (xorL xs ys)))) := fun q =>
    run_xor13 (w.drewN q) bd od bx ox bw ow xs ys n (by omega) (by omega) hx.2 hy.2 (by rw [lx]; exact hd)
  clear hx hy hf hd lx ly
  have c1 : (n : Int) ≤ (cd : Int) := by omega
  have c2 : (n : Int) ≤ (cx : Int) := by omega
  have c3 : (n : Int) ≤ (cw : Int) := by omega
  go_enter Ybad.func11, Ybad.ntmps11
  go_wp2_with fail
  go_quiet (first | (go_at_call_of 12 bx; refine Calls.quiet_of (inexact_first bd od bx ox bw n _ _ _ hn hb ?_); exact HF.out) | (go_at_call_of 12 bw; refine Calls.quiet_of (inexact_second bd od bx ox bw ow n _ _ _ hn hb ?_); exact HF.out))
  have hx13 := HX.out
  go_wp2_with fail
  go_region
  go_wp2
  go_ret
  exact ⟨rfl, _, rfl⟩

set_option maxHeartbeats 1000000 in
theorem xor10 (bd od bx ox bw ow n cd cx cw : Nat) (xs ys : List UInt8) (w : World) (hn : 0 < n) (hb : n ≤ 4096) (h1 : n ≤ cd) (h2 : n ≤ cx) (h3 : n ≤ cw) (hx : Row w bx ox xs) (hy : Row w bw ow ys) (lx : xs.length = n) (ly : ys.length = n)
    (hf : XorFits w bd od bx ox bw) (hd : w.there bd od n) :
    Calls Ybad.prog 10 #[.slice (some ⟨bd, od, none⟩) n cd, .slice (some ⟨bx, ox, none⟩) n cx, .slice (some ⟨bw, ow, none⟩) n cw] w fun e w' => e = .returned (.int .i64 n) ∧ ∃ k, w' = (w.drewN k).setCells bd od (rv (xorL xs ys)) := by
  have C := xor11 bd od bx ox bw ow n cd cx cw xs ys w hn hb h1 h2 h3 hx hy lx ly hf hd
  clear h1 h2 h3 hx hy lx ly hf hd
  go_enter Ybad.func10, Ybad.ntmps10
  go_wp2_with fail
  refine C.mono ?_
  rintro e w1 ⟨rfl, k, rfl⟩
  clear C
  go_wp2
  go_ret
  exact ⟨rfl, k, rfl⟩

end Go.Proofs.YbulkcsgsDoor
