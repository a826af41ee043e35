/-
  (*Milenage).f5Star (function 5).
-/
import Derived.Test.YbulkcsgsDoorOut
namespace Go.Proofs.YbulkcsgsDoor
open Go.RowKit
theorem put_at (w : World) (t : TypeId) (xs ys : List UInt8) (b : Nat) (hb : b = w.heap.size) (h : ys.length = xs.length) : (w.alloc (.cells (rv xs).toArray t)).setCells b 0 (rv ys) = w.alloc (.cells (rv ys).toArray t) := by
  subst hb
  exact put_new w t xs ys h
attribute [local go_sem] xor_bytes vblk_pointer voff_pointer bytesOf_rv isRv_rv zl_length has_drewN has_drew read_drewN read_drew has_new read_new has_old read_old put_at
attribute [local go_sem ↓] run_loadVar22 exec_load22 exec_store22 exec_alloc22 run_loadVar31 exec_load31 exec_store31 exec_alloc31 Go.wp_at_zero Go.wp_at_succ

/-- OUT5. -/
def out5L (key opc xs : List UInt8) : List UInt8 := xorL (encL key (inY opc xs 12 8)) opc

set_option maxHeartbeats 1000000 in
set_option maxRecDepth 100000 in
theorem f5star (bm bb : Nat) (opc key inn xs : List UInt8) (c : Int) (w : World) (M : Mil w bm bb opc key inn c) (hc1 : 0 ≤ c) (hc2 : c ≤ 1000) (lx : xs.length = 16)
    (g10 : w.cell? ⟨1, 10, none⟩ = some (.int .u8 12)) (g11 : w.cell? ⟨1, 11, none⟩ = some (.int .u8 8)) (hg : bb ≠ 1) :
    Calls Ybad.prog 5 #[.pointer (some ⟨bm, 0, none⟩), .agg (rv xs).toArray] w fun e w' =>
      e = .returned (.agg (rv ((out5L key opc xs).take 6)).toArray) ∧ Fr (fun i => i = bb) w w' ∧ Mil w' bm bb opc key (inY opc xs 12 8) (c + 1) := by
  have HM : Hid (Mil w bm bb opc key inn c) := M
  have nbm : bm ≠ bb := M.ne
  have G : Hid (w.cell? ⟨1, 10, none⟩ = some (.int .u8 12) ∧ w.cell? ⟨1, 11, none⟩ = some (.int .u8 8)) := ⟨g10, g11⟩
  clear M g10 g11
  have H0 := ((row_new w 22 xs).alloc (.cells (rv (zl 6)).toArray 31)).has lx
  have E0 := ((row_new w 22 xs).alloc (.cells (rv (zl 6)).toArray 31)).read lx
  go_enter Ybad.func5, Ybad.ntmps5
  go_wp2_with fail
  refine (out5 bm bb opc key inn xs c _ (HM.out.frame (((Fr.refl (fun _ => False) w).alloc (.cells (rv xs).toArray 22)).alloc (.cells (rv (zl 6)).toArray 31)) id id) hc1 hc2 lx ?_ ?_ hg).mono ?_
  · exact (((Fr.refl (fun _ => False) w).alloc _).alloc _).cell_some G.out.1 id
  · exact (((Fr.refl (fun _ => False) w).alloc _).alloc _).cell_some G.out.2 id
  rintro e w1 ⟨rfl, f1, m1⟩
  have lo : (xorL (encL key (inY opc xs 12 8)) opc).length = 16 := by rw [xorL_length, encL_length, HM.out.lo]; rfl
  have hbb : bb < w.heap.size := HM.out.rk.lt
  have hbm : bm < w.heap.size := HM.out.ro.lt
  have r0 : Row ((w.alloc (.cells (rv xs).toArray 22)).alloc (.cells (rv (zl 6)).toArray 31)) (w.heap.size + 1) 0 (zl 6) := by simpa using row_new (w.alloc (.cells (rv xs).toArray 22)) 31 (zl 6)
  have r1 : Row w1 (w.heap.size + 1) 0 (zl 6) := f1.row r0 (by omega)
  have F1 : Hid (Fr (fun i => i = bb) w w1) := (((Fr.refl _ w).alloc _).alloc _).then f1 (fun i _ e => e)
  clear r0 f1 H0 E0 G HM
  go_upto_region 2 with fail
  generalize ho : xorL (encL key (inY opc xs 12 8)) opc = o at lo ⊢
  have HO : Hid (out5L key opc xs = o) := ho
  clear ho
  obtain ⟨W2, hW2, B, hB, f2, M2, r2, o2⟩ : ∃ W2, W2 = w1.alloc (.cells (rv o).toArray 22) ∧ ∃ B, B = w1.heap.size ∧ Fr (fun i => i = bb) w W2 ∧ Mil W2 bm bb opc key (inY opc xs 12 8) (c + 1) ∧ Row W2 (w.heap.size + 1) 0 (zl 6) ∧ Row W2 B 0 o :=
    ⟨_, rfl, _, rfl, F1.out.alloc _, m1.frame ((Fr.refl (fun _ => False) w1).alloc _) id id, r1.alloc _, row_new w1 22 o⟩
  rw [← hW2, ← hB]
  clear hW2 hB F1 m1 r1
  have cp : ∀ ty, (Builtin.copy_ #[37, 37] ty #[.slice (some ⟨w.heap.size + 1, 0, none⟩) 6 6, .slice (some ⟨B, 0, none⟩) 6 16]).run Ybad.prog W2.drew = .ok (goInt 6) (W2.drew.setCells (w.heap.size + 1) 0 (rv (o.take 6))) := by
    intro ty
    have h := run_copyN ty W2.drew (w.heap.size + 1) 0 6 6 B 0 6 16 (o.take 6) (by simp [lo]) (by simpa using (o2.take 6).2) (by simpa [lo, zl] using r2.there)
    simpa [lo] using h
  obtain ⟨f3, M3, r3⟩ : Fr (fun i => i = bb) w (W2.drew.setCells (w.heap.size + 1) 0 (rv (o.take 6))) ∧ Mil (W2.drew.setCells (w.heap.size + 1) 0 (rv (o.take 6))) bm bb opc key (inY opc xs 12 8) (c + 1) ∧ Row (W2.drew.setCells (w.heap.size + 1) 0 (rv (o.take 6))) (w.heap.size + 1) 0 (o.take 6) := by
    have fW : Fr (fun i => i = w.heap.size + 1) W2.drew (W2.drew.setCells (w.heap.size + 1) 0 (rv (o.take 6))) := (Fr.refl _ _).setCells _ _ _ (fun _ => rfl)
    exact ⟨f2.drew.then fW (fun i hi e => by omega), M2.drew.frame fW (by omega) (by omega), Row.set_same (w := W2.drew) r2 _ (by simp [lo, zl])⟩
  have F3 : Hid (Fr (fun i => i = bb) w (W2.drew.setCells (w.heap.size + 1) 0 (rv (o.take 6)))) := f3
  have N3 : Hid (Mil (W2.drew.setCells (w.heap.size + 1) 0 (rv (o.take 6))) bm bb opc key (inY opc xs 12 8) (c + 1)) := M3
  have R3 : Hid (Row (W2.drew.setCells (w.heap.size + 1) 0 (rv (o.take 6))) (w.heap.size + 1) 0 (o.take 6)) := r3
  clear f2 M2 r2 o2 f3 M3 r3
  go_region_held (fun _ => True) (exact True.intro) (fail)
  clear cp
  generalize W2.drew.setCells (w.heap.size + 1) 0 (rv (o.take 6)) = W3 at *
  have l6 : (o.take 6).length = 6 := by simp [lo]
  have a1 := R3.out.has l6
  have a2 := R3.out.read l6
  go_upto_region 3 with fail
  repeat (first | go_values | go_skip | go_guarded | go_step | go_upon)
  refine bodyPost_ret (results_cell Ybad.results5 (b := w.heap.size + 1) (o := 0) rfl ((R3.out.set_same (o.take 6) rfl).loadVar l6 Ybad.underlying31 rfl (by kernel_rfl))) rfl ⟨?_, ?_, ?_⟩
  · rw [HO.out]
  · exact F3.out.setCells _ _ _ (fun h => by omega)
  · exact N3.out.frame (S := fun i => i = w.heap.size + 1) ((Fr.refl _ W3).setCells _ _ _ (fun _ => rfl)) (by omega) (by omega)

end Go.Proofs.YbulkcsgsDoor
