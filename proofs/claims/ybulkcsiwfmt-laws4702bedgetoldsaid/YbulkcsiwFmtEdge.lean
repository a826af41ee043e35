/-
  THE WALK OF LawS4702BEdge (function 4) and of its function literal (function 8).
-/
import Derived.Test.YbulkcsiwFmtCheck
namespace Go.Proofs.YbulkcsiwFmt
open Go.RowKit Go.Extern.Stop Go.Stop Go.Extern

/-- The block that mk hands back. -/
def mkCell (k : Nat) (last : Value) (c : Nat) : Value := if c + 1 = k then last else .slice none 0 0

theorem make1 (w : World) : (Instr.makeSlice 22 (.int .i64 1) (.int .i64 1)).run Ybaf.prog w = .ok (.slice (some ⟨w.heap.size, 0, none⟩) 1 1) (w.alloc (.cells #[.slice none 0 0] 24)) := by kernel_rfl
theorem make2 (w : World) : (Instr.makeSlice 22 (.int .i64 2) (.int .i64 2)).run Ybaf.prog w = .ok (.slice (some ⟨w.heap.size, 0, none⟩) 2 2) (w.alloc (.cells #[.slice none 0 0, .slice none 0 0] 24)) := by kernel_rfl
theorem make3 (w : World) : (Instr.makeSlice 22 (.int .i64 3) (.int .i64 3)).run Ybaf.prog w = .ok (.slice (some ⟨w.heap.size, 0, none⟩) 3 3) (w.alloc (.cells #[.slice none 0 0, .slice none 0 0, .slice none 0 0] 24)) := by kernel_rfl
attribute [local go_sem] make1 make2 make3

set_option maxHeartbeats 400000 in
set_option maxRecDepth 100000 in
theorem mk8 (bk : Nat) (x : Addr) (l m : Nat) (k : Nat) (w : World) (hk0 : 0 < k) (hk : k ≤ 3) (hc : w.cell? ⟨bk, 0, none⟩ = some (.int .i64 k)) :
    Calls Ybaf.prog 8 #[.slice (some x) l m, .pointer (some ⟨bk, 0, none⟩)] w fun e w' => e = .returned (.slice (some ⟨w.heap.size, 0, none⟩) k k) ∧ (∀ c, c < k → w'.cell? ⟨w.heap.size, c, none⟩ = some (mkCell k (.slice (some x) l m) c)) ∧ Below w.heap.size w w' := by
  have hb : bk < w.heap.size := World.block_lt_of_cell? _ _ hc
  obtain rfl | rfl | rfl : k = 1 ∨ k = 2 ∨ k = 3 := by omega
  · go_enter Ybaf.func8, Ybaf.ntmps8
    go_wp2
    go_ret
    refine ⟨rfl, fun c hc => ?_, by go_grown⟩
    obtain rfl : c = 0 := by omega
    go_simp
    simp [mkCell]
  · go_enter Ybaf.func8, Ybaf.ntmps8
    go_wp2
    go_ret
    refine ⟨rfl, fun c hc => ?_, by go_grown⟩
    obtain rfl | rfl : c = 0 ∨ c = 1 := by omega
    · go_simp
      simp [mkCell]
    · go_simp
      simp [mkCell]
  · go_enter Ybaf.func8, Ybaf.ntmps8
    go_wp2
    go_ret
    refine ⟨rfl, fun c hc => ?_, by go_grown⟩
    obtain rfl | rfl | rfl : c = 0 ∨ c = 1 ∨ c = 2 := by omega
    · go_simp
      simp [mkCell]
    · go_simp
      simp [mkCell]
    · go_simp
      simp [mkCell]

/-- The block's channels: the last one holds the samples, the others are nil. -/
def mkR (k : Nat) (x : Addr) (l : Nat) (z : Nat → Int) (c : Nat) : Chan := if c + 1 = k then ⟨some x, l, l, z⟩ else ⟨none, 0, 0, fun _ => 0⟩
theorem addr_add (N c : Nat) : (⟨N, 0, none⟩ : Addr).add c = ⟨N, c, none⟩ := by
  unfold Addr.add
  split
  · simp_all
  · simp
theorem blk_mk {W : World} {N k l : Nat} {x : Addr} {z : Nat → Int} (hx : ∀ i, i < l → W.cell? (x.add i) = some (.int .i64 (z i)) ∧ -9223372036854775808 ≤ z i ∧ z i ≤ 9223372036854775807)
    (hc : ∀ c, c < k → W.cell? ⟨N, c, none⟩ = some (mkCell k (.slice (some x) l l) c)) : IsBlk W (some ⟨N, 0, none⟩) k (mkR k x l z) := by
  intro c h
  refine ⟨⟨N, 0, none⟩, rfl, ?_, ?_⟩
  · have := hc c h
    rw [addr_add, this, mkCell, mkR]
    split <;> rfl
  · intro i hi
    rw [mkR] at hi ⊢
    split at hi
    · rw [if_pos ‹_›]
      exact ⟨x, rfl, hx i hi⟩
    · simp at hi
theorem fit_mk {k l : Nat} {x : Addr} {z : Nat → Int} {b : Int} (hk : 0 < k) : AllFit k (mkR k x l z) b ↔ ∀ i, i < l → fitsB (z i) b = true := by
  constructor
  · intro h i hi
    have := h (k - 1) (by omega) i
    rw [mkR, if_pos (by omega)] at this
    exact this hi
  · intro h c hc i hi
    rw [mkR] at hi ⊢
    split at hi
    · rw [if_pos ‹_›]
      exact h i hi
    · simp at hi
theorem len_mk {k l : Nat} {x : Addr} {z : Nat → Int} (hl : l ≤ 1024) (c : Nat) : (mkR k x l z c).len ≤ 1024 := by
  rw [mkR]
  split
  · exact hl
  · exact Nat.zero_le _
theorem cell_below {B : Nat} {w w' : World} (h : Below B w w') (a : Addr) (ha : a.block < B) : w'.cell? a = w.cell? a := World.cell?_of_block (h.block _ ha)
theorem fits_edge {B H v : Int} (b0 : 0 < B) (b1 : B < 64) (hH : H = 2 ^ (B.toNat - 1)) : fitsB v B = true ↔ -H ≤ v ∧ v < H := by
  rw [fitsB, if_neg (by omega), if_neg (by omega), ← hH, Bool.and_eq_true, decide_eq_true_iff, decide_eq_true_iff]

/-- A literal's samples in a block of their own. -/
def ints (zs : List Int) : Array Value := (zs.map (Value.int .i64)).toArray
/-- mk's call behind the literal's build. -/
theorem mk_any (zs : List Int) (W : World) (N k l : Nat) (hl : l = zs.length) (hz : ∀ z ∈ zs, -9223372036854775808 ≤ z ∧ z ≤ 9223372036854775807) (k0 : 0 < k) (k3 : k ≤ 3) (hN : N < W.heap.size) (cK : W.cell? ⟨N, 0, none⟩ = some (.int .i64 k)) :
    Calls Ybaf.prog 8 #[.slice (some ⟨W.heap.size, 0, none⟩) l l, .pointer (some ⟨N, 0, none⟩)] (W.alloc (.cells (ints zs) 2)) fun e w' =>
      ∃ M, e = .returned (.slice (some ⟨M, 0, none⟩) k k) ∧ IsBlk w' (some ⟨M, 0, none⟩) k (mkR k ⟨W.heap.size, 0, none⟩ l (fun i => zs.getD i 0)) ∧ Below W.heap.size W w' := by
  refine (mk8 N ⟨W.heap.size, 0, none⟩ l l k (W.alloc (.cells (ints zs) 2)) k0 k3 ((World.cell?_alloc_past _ N 0 hN).trans cK)).mono ?_
  rintro e w' ⟨rfl, hc, bel⟩
  refine ⟨_, rfl, blk_mk (fun i hi => ?_) hc, ((Below.refl _ W).alloc (Nat.le_refl _) _).trans (bel.mono (by simp))⟩
  have hi' : i < zs.length := by omega
  refine ⟨?_, hz _ ?_⟩
  · rw [addr_add, cell_below bel _ (by simp), World.cell?_alloc_new]
    simp [ints, List.getD, List.getElem?_eq_getElem hi']
  · simp [List.getD, List.getElem?_eq_getElem hi']

set_option maxHeartbeats 1000000 in
set_option maxRecDepth 100000 in
theorem edge4 (F : Interp) (b c : Int) (w : World) (hF : F.answers w.tape) (b0 : 0 ≤ b) (b1 : b < 256) (c0 : 0 ≤ c) (c1 : c < 256) :
    Calls Ybaf.prog 4 #[.int .u8 b, .int .u8 c] w fun e w' => e = .returned (.bool true) ∧ Below w.heap.size w w' := by
  have hmf : ∀ (fn : Fn) (first cap : Array Value) (w : World), (Instr.makeFunc fn first cap).run Ybaf.prog w = .ok (.func fn first cap) w := fun _ _ _ _ => rfl
  go_enter Ybaf.func4, Ybaf.ntmps4
  go_upto_region 5 with fail
  have q0 : 0 < b % 63 + 1 ∧ b % 63 + 1 < 64 := by omega
  have qh : (2 : Int) ^ (b % 63).toNat = 2 ^ ((b % 63 + 1).toNat - 1) := by
    congr 1
    omega
  have qb := pow_mid (b % 63).toNat (by omega)
  rw [wrap64_in _ (by omega)]
  generalize hH : (2 : Int) ^ (b % 63).toNat = H at *
  generalize hB : b % 63 + 1 = B at *
  obtain ⟨k, hk, k0, k3⟩ : ∃ k : Nat, c % 3 + 1 = (k : Int) ∧ 0 < k ∧ k ≤ 3 := ⟨(c % 3 + 1).toNat, by omega, by omega, by omega⟩
  rw [hk]
  obtain ⟨W, hW, N, hN, cK, bel, hz⟩ : ∃ W, W = w.alloc (.cells #[.int .i64 (k : Int)] 3) ∧ ∃ N, N = w.heap.size ∧ W.cell? ⟨N, 0, none⟩ = some (.int .i64 k) ∧ Below N w W ∧ W.heap.size = N + 1 :=
    ⟨_, rfl, _, rfl, by go_simp, (Below.refl _ _).alloc (Nat.le_refl _) _, by simp⟩
  rw [← hW, ← hN]
  have HF : Hid (F.answers W.tape) := by rw [hW]; exact hF
  have HN : Hid (N = w.heap.size) := hN
  clear hW hN hF
  have e1 : wrap64 (-H) = -H := wrap64_in _ (by omega)
  have e2 : wrap64 (H - 1) = H - 1 := wrap64_in _ (by omega)
  have e3 : wrap64 (-H - 1) = -H - 1 := wrap64_in _ (by omega)
  have HH : Hid (H = 2 ^ (B.toNat - 1)) := qh
  clear hH hB qh
  go_wp2_with fail
  rw [← hz]
  refine (mk_any [-H, H - 1, 0] W N k 3 rfl (by simp; omega) k0 k3 (by omega) cK).mono ?_
  rintro e W1 ⟨M1, rfl, blk1, bel1⟩
  have hz1 := bel1.size
  have cK1 : W1.cell? ⟨N, 0, none⟩ = some (.int .i64 k) := (cell_below bel1 _ (by show N < _; omega)).trans cK
  have F1 : Hid (F.answers W1.tape) := by have := HF.out; rwa [← bel1.tape] at this
  have B1 : Hid (Below N w W1) := bel.trans (bel1.mono (by omega))
  have HB1 : Hid (IsBlk W1 (some ⟨M1, 0, none⟩) k (mkR k ⟨W.heap.size, 0, none⟩ 3 (fun i => [-H, H - 1, 0].getD i 0))) := blk1
  clear blk1 bel1 cK HF
  go_wp2_with fail
  refine (check7 F _ k k _ B W1 F1.out HB1.out (by omega) (fun c _ => len_mk (by omega) c) (by omega) (by omega)).mono ?_
  have hfit1 : Hid (AllFit k (mkR k ⟨W.heap.size, 0, none⟩ 3 (fun i => [-H, H - 1, 0].getD i 0)) B) := by
    refine (fit_mk k0).2 fun i hi => (fits_edge q0.1 q0.2 HH.out).2 ?_
    obtain rfl | rfl | rfl : i = 0 ∨ i = 1 ∨ i = 2 := by omega
    · simp; omega
    · simp; omega
    · simp; omega
  rintro e V1 (⟨rfl, rfl, hall⟩ | ⟨t', v, rfl, bel9, hnot⟩)
  case inr => exact (hnot hfit1.out).elim
  clear hall hfit1 HB1
  go_wp2_with fail
  refine (mk_any [0, H] V1 N k 2 rfl (by simp; omega) k0 k3 (by omega) cK1).mono ?_
  rintro e W2 ⟨M2, rfl, blk2, bel2⟩
  have hz2 := bel2.size
  have cK2 : W2.cell? ⟨N, 0, none⟩ = some (.int .i64 k) := (cell_below bel2 _ (by show N < _; omega)).trans cK1
  have F2 : Hid (F.answers W2.tape) := by have := F1.out; rwa [← bel2.tape] at this
  have B2 : Hid (Below N w W2) := B1.out.trans (bel2.mono (by omega))
  have HB2 : Hid (IsBlk W2 (some ⟨M2, 0, none⟩) k (mkR k ⟨V1.heap.size, 0, none⟩ 2 (fun i => [0, H].getD i 0))) := blk2
  clear blk2 bel2 cK1 F1 B1
  go_wp2_with fail
  refine (check7 F _ k k _ B W2 F2.out HB2.out (by omega) (fun c _ => len_mk (by omega) c) (by omega) (by omega)).mono ?_
  have hfit2 : Hid (¬ AllFit k (mkR k ⟨V1.heap.size, 0, none⟩ 2 (fun i => [0, H].getD i 0)) B) := by
    intro h
    have := (fits_edge q0.1 q0.2 HH.out).1 ((fit_mk k0).1 h 1 (by omega))
    simp at this
  rintro e V2 (⟨rfl, rfl, hall⟩ | ⟨t2, v2, rfl, bel9, hnot⟩)
  case inl => exact (hfit2.out hall).elim
  clear hnot hfit2 HB2
  have hy2 := bel9.size
  have cP2 : V2.cell? ⟨N, 0, none⟩ = some (.int .i64 k) := (cell_below bel9 _ (by show N < _; omega)).trans cK2
  have FP2 : Hid (F.answers V2.tape) := by have := F2.out; rwa [← bel9.tape] at this
  have BP2 : Hid (Below N w V2) := B2.out.trans (bel9.mono (by omega))
  clear cK2 F2 B2 bel9
  go_wp2_with fail
  refine (mk_any [-H - 1, 0] V2 N k 2 rfl (by simp; omega) k0 k3 (by omega) cP2).mono ?_
  rintro e W3 ⟨M3, rfl, blk3, bel3⟩
  have hz3 := bel3.size
  have cK3 : W3.cell? ⟨N, 0, none⟩ = some (.int .i64 k) := (cell_below bel3 _ (by show N < _; omega)).trans cP2
  have F3 : Hid (F.answers W3.tape) := by have := FP2.out; rwa [← bel3.tape] at this
  have B3 : Hid (Below N w W3) := BP2.out.trans (bel3.mono (by omega))
  have HB3 : Hid (IsBlk W3 (some ⟨M3, 0, none⟩) k (mkR k ⟨V2.heap.size, 0, none⟩ 2 (fun i => [-H - 1, 0].getD i 0))) := blk3
  clear blk3 bel3 cP2 FP2 BP2
  go_wp2_with fail
  refine (check7 F _ k k _ B W3 F3.out HB3.out (by omega) (fun c _ => len_mk (by omega) c) (by omega) (by omega)).mono ?_
  have hfit3 : Hid (¬ AllFit k (mkR k ⟨V2.heap.size, 0, none⟩ 2 (fun i => [-H - 1, 0].getD i 0)) B) := by
    intro h
    have := (fits_edge q0.1 q0.2 HH.out).1 ((fit_mk k0).1 h 0 (by omega))
    simp at this
    omega
  rintro e V3 (⟨rfl, rfl, hall⟩ | ⟨t3, v3, rfl, bel9, hnot⟩)
  case inl => exact (hfit3.out hall).elim
  clear hnot hfit3 HB3
  go_wp2_with fail
  go_ret
  exact ⟨rfl, by rw [← HN.out]; exact B3.out.trans (bel9.mono (by omega))⟩
end Go.Proofs.YbulkcsiwFmt
