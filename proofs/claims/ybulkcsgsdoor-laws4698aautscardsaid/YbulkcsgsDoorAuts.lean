/-
  (*Milenage).auts (function 7).
-/
import Derived.Test.YbulkcsgsDoorF1
import Derived.Deep.CutRange
import Derived.Deep.DeepCutAuto
namespace Go.Proofs.YbulkcsgsDoor
open Go.RowKit
theorem has_older (n : Nat) (w : World) (o : Obj) (b off : Nat) (hb : b < w.heap.size) : Has n (w.alloc o) (.pointer (some ⟨b, off, none⟩)) = Has n w (.pointer (some ⟨b, off, none⟩)) := by
  have e : (w.alloc o).heap[b]? = w.heap[b]? := Below.heap_alloc w o b hb
  rw [eq_iff_iff]
  constructor
  · rintro ⟨b', o', xs, hv, hl, ⟨C, t, hC⟩, hr⟩
    cases hv
    refine ⟨b, off, xs, rfl, hl, ⟨C, t, e.symm.trans hC⟩, fun j v hj => ?_⟩
    rw [← World.cell?_of_block (w := w) (a := ⟨b, off + j, none⟩) e]
    exact hr j v hj
  · rintro ⟨b', o', xs, hv, hl, hr⟩
    cases hv
    exact ⟨b, off, xs, rfl, hl, hr.alloc o⟩
theorem has_set (n : Nat) (w : World) (b o : Nat) (vs : List Value) (b' off : Nat) (hb : ¬ b' = b) : Has n (w.setCells b o vs) (.pointer (some ⟨b', off, none⟩)) = Has n w (.pointer (some ⟨b', off, none⟩)) := by
  have e : (w.setCells b o vs).heap[b']? = w.heap[b']? := heap_setCells b vs o w b' hb
  rw [eq_iff_iff]
  constructor
  · rintro ⟨b1, o1, xs, hv, hl, ⟨C, t, hC⟩, hr⟩
    cases hv
    refine ⟨b', off, xs, rfl, hl, ⟨C, t, e.symm.trans hC⟩, fun j v hj => ?_⟩
    rw [← World.cell?_of_block (w := w) (a := ⟨b', off + j, none⟩) e]
    exact hr j v hj
  · rintro ⟨b1, o1, xs, hv, hl, hr⟩
    cases hv
    exact ⟨b', off, xs, rfl, hl, hr.set_apart b o vs (.inl hb)⟩
theorem Has.put {n : Nat} {W : World} {b : Nat} (h : Has n W (.pointer (some ⟨b, 0, none⟩))) (ys : List UInt8) (hl : ys.length = n) : Row (W.setCells b 0 (rv ys)) b 0 ys := by
  obtain ⟨b', o', xs, hv, hx, hr⟩ := h
  cases hv
  exact hr.set_same ys (by omega)
theorem cutH {P G : Prop} (h : P) (k : P → G) : G := k h
attribute [local go_sem] xor_bytes vblk_pointer voff_pointer bytesOf_rv isRv_rv zl_length has_drewN has_drew read_drewN read_drew has_new read_new has_older read_old has_set
attribute [local go_sem ↓] run_loadVar22 exec_load22 exec_store22 exec_alloc22 run_loadVar31 exec_load31 exec_store31 exec_alloc31 run_loadVar40 exec_load40 exec_store40 exec_alloc40 run_loadVar35 exec_load35 exec_store35 exec_alloc35 Go.wp_at_zero Go.wp_at_succ

/-- What auts keeps: all its blocks lie below K. -/
structure AInv (w : World) (bb bs N A K : Nat) (xs sq am ak : List UInt8) (W : World) : Prop where
  fr : Fr (fun i => i = bb) w W
  rt : Row W N 0 xs
  rr : Row W (N + 1) 0 (zl 14)
  ra : Row W A 0 ak
  sq : Row W bs 0 sq
  am : W.rangeAt 0 0 (rv am)
  g2 : W.cell? ⟨1, 2, none⟩ = some (.int .u8 8)
  g3 : W.cell? ⟨1, 3, none⟩ = some (.int .u8 0)
  sz : K ≤ W.heap.size
theorem AInv.frame {S : Nat → Prop} {w W W' : World} {bb bs N A K : Nat} {xs sq am ak : List UInt8} (h : AInv w bb bs N A K xs sq am ak W) (f : Fr S W W') (hb : bb < K ∧ bs < K ∧ N + 1 < K ∧ A < K ∧ 1 < K ∧ w.heap.size ≤ K) (hS : ∀ i, S i → K ≤ i) : AInv w bb bs N A K xs sq am ak W' := by
  have hn : ∀ i, i < K → ¬ S i := fun i hi hs => by have := hS i hs; omega
  refine ⟨h.fr.then f (fun i hi e => by have := hS i e; omega), f.row h.rt (hn _ (by omega)), f.row h.rr (hn _ (by omega)), f.row h.ra (hn _ (by omega)), f.row h.sq (hn _ (by omega)), ?_, f.cell_some h.g2 (hn _ (by simp; omega)), f.cell_some h.g3 (hn _ (by simp; omega)), Nat.le_trans h.sz f.size⟩
  intro j v hv
  exact f.cell_some (h.am j v hv) (hn _ (by simp; omega))
theorem AInv.called {w W W' : World} {bb bs N A K : Nat} {xs sq am ak : List UInt8} (h : AInv w bb bs N A K xs sq am ak W) (f : Fr (fun i => i = bb) W W') (hb : bb ≠ bs ∧ bb < N ∧ bb ≠ A ∧ bb ≠ 0 ∧ bb ≠ 1) : AInv w bb bs N A K xs sq am ak W' := by
  refine ⟨h.fr.trans f, f.row h.rt (by omega), f.row h.rr (by omega), f.row h.ra (by omega), f.row h.sq (by omega), ?_, f.cell_some h.g2 (by simp; omega), f.cell_some h.g3 (by simp; omega), Nat.le_trans h.sz f.size⟩
  intro j v hv
  exact f.cell_some (h.am j v hv) (by simp; omega)

theorem AInv.keep {w W : World} {bb bs N A K : Nat} {xs sq am ak : List UInt8} (h : AInv w bb bs N A K xs sq am ak W) : W.rangeAt N 0 (rv xs) ∧ AInv w bb bs N A K xs sq am ak W := ⟨h.rt.2, h⟩
theorem row_at (w : World) (t : TypeId) (xs : List UInt8) (b : Nat) (hb : b = w.heap.size) : Row (w.alloc (.cells (rv xs).toArray t)) b 0 xs := by
  subst hb
  exact row_new w t xs
theorem Row.drew {w : World} {b o : Nat} {xs : List UInt8} (h : Row w b o xs) : Row w.drew b o xs := h

set_option maxHeartbeats 1000000 in
set_option maxRecDepth 100000 in
theorem auts_any (bm bb bs : Nat) (opc key inn xs sq am : List UInt8) (c : Int) (w : World) (M : Mil w bm bb opc key inn c) (hc1 : 0 ≤ c) (hc2 : c ≤ 100) (lx : xs.length = 16)
    (hs : Row w bs 0 sq) (ls : sq.length = 6) (hbs : bb ≠ bs) (ha : w.rangeAt 0 0 (rv am)) (la : am.length = 2) (g10 : w.cell? ⟨1, 10, none⟩ = some (.int .u8 12)) (g11 : w.cell? ⟨1, 11, none⟩ = some (.int .u8 8))
    (g2 : w.cell? ⟨1, 2, none⟩ = some (.int .u8 8)) (g3 : w.cell? ⟨1, 3, none⟩ = some (.int .u8 0)) (hg : bb ≠ 1) (hg0 : bb ≠ 0) :
    Calls Ybad.prog 7 #[.pointer (some ⟨bm, 0, none⟩), .agg (rv xs).toArray, .slice (some ⟨bs, 0, none⟩) 6 6] w fun e w' =>
      ∃ ms, ms.length = 8 ∧ e = .returned (.agg (rv (xorL sq ((out5L key opc xs).take 6) ++ ms)).toArray) ∧ Fr (fun i => i = bb) w w' := by
  have hlt : bm < w.heap.size ∧ bb < w.heap.size ∧ bs < w.heap.size ∧ 1 < w.heap.size := ⟨M.ro.lt, M.rk.lt, hs.lt, World.block_lt_of_cell? _ _ g2⟩
  have nbm : bm ≠ bb := M.ne
  obtain ⟨W0, hW0, N, hN, f0, t0, r0⟩ : ∃ W0, W0 = (w.alloc (.cells (rv xs).toArray 22)).alloc (.cells (rv (zl 14)).toArray 35) ∧ ∃ N, N = w.heap.size ∧ Fr (fun _ => False) w W0 ∧ Row W0 N 0 xs ∧ Row W0 (N + 1) 0 (zl 14) :=
    ⟨_, rfl, _, rfl, ((Fr.refl _ w).alloc _).alloc _, (row_new w 22 xs).alloc _, by simpa using row_new (w.alloc (.cells (rv xs).toArray 22)) 35 (zl 14)⟩
  have M0 : Hid (Mil W0 bm bb opc key inn c) := M.frame f0 id id
  have S0 : Hid (Row W0 bs 0 sq ∧ W0.rangeAt 0 0 (rv am)) := ⟨f0.row hs id, fun j v hv => f0.cell_some (ha j v hv) id⟩
  have G0 : Hid ((W0.cell? ⟨1, 10, none⟩ = some (.int .u8 12) ∧ W0.cell? ⟨1, 11, none⟩ = some (.int .u8 8)) ∧ W0.cell? ⟨1, 2, none⟩ = some (.int .u8 8) ∧ W0.cell? ⟨1, 3, none⟩ = some (.int .u8 0)) := ⟨⟨f0.cell_some g10 id, f0.cell_some g11 id⟩, f0.cell_some g2 id, f0.cell_some g3 id⟩
  have R0 : Hid (Row W0 N 0 xs ∧ Row W0 (N + 1) 0 (zl 14)) := ⟨t0, r0⟩
  have F0 : Hid (Fr (fun _ => False) w W0) := f0
  have HN : Hid (N = w.heap.size) := hN
  have h1 := t0.has lx
  have e1 := t0.read lx
  clear M hs ha g10 g11 g2 g3 f0 t0 r0
  go_enter Ybad.func7, Ybad.ntmps7
  go_upto_region 1 with fail
  rw [← hW0, ← hN]
  clear hW0 hN
  go_wp2_with fail
  refine (f5star bm bb opc key inn xs c W0 M0.out hc1 (by omega) lx G0.out.1.1 G0.out.1.2 hg).mono ?_
  rintro e w1 ⟨rfl, f1, m1⟩
  have lk : ((out5L key opc xs).take 6).length = 6 := by simp [out5L, xorL_length, encL_length, m1.lo]
  generalize hak : (out5L key opc xs).take 6 = ak at lk ⊢
  have HK : Hid ((out5L key opc xs).take 6 = ak) := hak
  clear hak
  go_upto_region 2 with fail
  obtain ⟨W2, hW2, A, hA, K, hK, iv, M2, hb⟩ : ∃ W2, W2 = (w1.alloc (.cells (rv (zl 6)).toArray 31)).setCells w1.heap.size 0 (rv ak) ∧ ∃ A, A = w1.heap.size ∧ ∃ K, W2.heap.size = K ∧ AInv w bb bs N A K xs sq am ak W2 ∧ Hid (Mil W2 bm bb opc key (inY opc xs 12 8) (c + 1)) ∧ (bb < K ∧ bs < K ∧ N + 1 < K ∧ A < K ∧ 1 < K ∧ w.heap.size ≤ K) := by
    rw [put_new w1 31 (zl 6) ak (by rw [lk, zl_length])]
    have hz := f1.size
    have hr := R0.out.2.lt
    have hN' := HN.out
    have f2 : Fr (fun _ => False) w1 (w1.alloc (.cells (rv ak).toArray 31)) := (Fr.refl _ w1).alloc _
    refine ⟨_, rfl, _, rfl, _, rfl, ⟨((F0.out.mono (fun _ h => h.elim)).trans f1).trans (f2.mono (fun _ h => h.elim)), f2.row (f1.row R0.out.1 (by omega)) id, f2.row (f1.row R0.out.2 (by omega)) id, row_new w1 31 ak, f2.row (f1.row S0.out.1 (by omega)) id, ?_, f2.cell_some (f1.cell_some G0.out.2.1 (by simp; omega)) id, f2.cell_some (f1.cell_some G0.out.2.2 (by simp; omega)) id, Nat.le_refl _⟩, m1.frame f2 id id, by simp; omega⟩
    intro j v hv
    exact f2.cell_some (f1.cell_some (S0.out.2 j v hv) (by simp; omega)) id
  have hcc : bb ≠ bs ∧ bb < N ∧ bb ≠ A ∧ bb ≠ 0 ∧ bb ≠ 1 := by
    have := HN.out; have := f1.size; have := R0.out.2.lt; omega
  have hNA : N + 1 < A ∧ bs < N ∧ bm < N := by
    have := HN.out; have := f1.size; have := R0.out.2.lt; omega
  rw [← hW2, ← hA]
  clear hW2 hA h1 e1 M0 S0 G0 R0 F0 f1 m1
  have IV : Hid (AInv w bb bs N A K xs sq am ak W2) := iv
  have r22 : W2.rangeAt N 0 (rv xs) := iv.rt.2
  have hu := Ybad.underlying22
  have hi : (Ybad.prog.info? 22).map (·.size) = some (rv xs).length := by rw [rv_length, lx]; kernel_rfl
  clear iv w1
  have HB : Hid (bb < K ∧ bs < K ∧ N + 1 < K ∧ A < K ∧ 1 < K ∧ w.heap.size ≤ K) := hb
  go_cut [8, 9] from 13 to 20 (fun _ s9 wc => ∃ b9 ms, s9 = .pointer (some ⟨b9, 0, none⟩) ∧ K ≤ b9 ∧ ms.length = 8 ∧ Row wc b9 0 ms ∧ AInv w bb bs N A K xs sq am ak wc)
  case first =>
    go_region_held (fun w' => w'.rangeAt N 0 (rv xs) ∧ AInv w bb bs N A K xs sq am ak w')
      (first
        | exact (IV.out.frame ((Fr.refl (fun _ => False) _).drew) HB.out (fun _ h => h.elim)).keep
        | (obtain ⟨_, hv⟩ := ‹_ ∧ AInv w bb bs N A K xs sq am ak _›
           first
             | exact (hv.frame ((Fr.refl (fun _ => False) _).alloc _) HB.out (fun _ h => h.elim)).keep
             | exact (hv.called f9 hcc).keep
             | (refine (hv.frame ((Fr.refl (fun i => i = _) _).setCells _ 0 _ (fun _ => rfl)) HB.out ?_).keep; intro i e; omega)))
      (first | (go_at_call 9
                obtain ⟨_, hv⟩ := ‹_ ∧ AInv w bb bs N A K xs sq am ak _›
                refine (f1_any bm bb bs 0 6 opc key (inY opc xs 12 8) xs sq am (c + 1) _ (M2.out.frame (S := fun _ => False) (by repeat (first | exact Fr.refl _ _ | refine Fr.alloc ?_ _ | refine Fr.drew ?_)) id id) (by omega) (by omega) lx hv.sq ls hv.am la hv.g2 hv.g3 hg).mono ?_
                rintro e w9 ⟨ma, ms, y, rfl, l1, l2, f9, m9⟩
                have hz9 := f9.size
                (try simp at hz9)
                (try (refine cutH (P := K < w9.heap.size) ?_ (fun lt1 => ?_); focus (omega; done)))
                (try (refine cutH (P := ¬ K = w9.heap.size) ?_ (fun ne1 => ?_); focus (omega; done)))
                (try (refine cutH (P := ¬ w9.heap.size = K) ?_ (fun ne2 => ?_); focus (omega; done)))
                (try (refine cutH (P := Has 8 w9 (.pointer (some ⟨K, 0, none⟩))) ?_ (fun q1 => ?_); focus (refine Row.has (f9.row (b := K) (o := 0) (xs := zl 8) ?_ ?_) (zl_length 8); (focus (refine Row.drew ?_; (repeat (first | (refine row_at _ _ _ _ ?_; (simp [hK]; done)) | refine Row.alloc ?_ _)); done)); (show ¬ _ = bb); omega; done)))
                (try (refine cutH (P := Has 8 w9 (.pointer (some ⟨K + 1, 0, none⟩))) ?_ (fun q2 => ?_); focus (refine Row.has (f9.row (b := K + 1) (o := 0) (xs := zl 8) ?_ ?_) (zl_length 8); (focus (refine Row.drew ?_; (repeat (first | (refine row_at _ _ _ _ ?_; (simp [hK]; done)) | refine Row.alloc ?_ _)); done)); (show ¬ _ = bb); omega; done)))))
    all_goals
      go_wp2_with fail
      go_meet
      refine ⟨_, ms, rfl, ?_, l2, Has.put ?_ ms l2, ?_⟩
      · omega
      · simp [has_set, has_older, has_new, zl_length, *]
      · exact (‹_ ∧ AInv w bb bs N A K xs sq am ak _›).2
  case rest =>
  obtain ⟨b9, ms, rfl, hb9, l2, r9, iv⟩ := hcut
  have I : Hid (AInv w bb bs N A K xs sq am ak wc) := iv
  have R9 : Hid (Row wc b9 0 ms) := r9
  clear iv r9 IV r22 M2 hu hi hK
  go_upto_region 3 with fail
  go_region_held (fun _ => True) (exact True.intro)
    (first | (go_at_call 10
              refine (xor10 (N + 1) 0 bs 0 A 0 6 14 6 6 sq ak _ (by omega) (by omega) (by omega) (by omega) (by omega) ?_ ?_ ls lk ⟨.inr ⟨by omega, ?_⟩, by omega, ?_, ?_⟩ ?_).mono ?_
              (exact I.out.sq)
              (exact I.out.ra)
              (exact I.out.sq.1)
              (exact I.out.rr.1)
              (exact I.out.ra.1)
              (exact (I.out.rr.take 6).there)
              rintro e w3 ⟨rfl, q3, hw3⟩
              have HW3 : Hid (w3 = _) := hw3
              clear hw3))
  have lxk : (xorL sq ak).length = 6 := by rw [xorL_length, ls, lk]; rfl
  obtain ⟨f3, p3, z3, m3⟩ : Fr (fun i => i = bb) w w3 ∧ Row w3 (N + 1) 0 (xorL sq ak) ∧ Row w3 (N + 1) 6 (zl 8) ∧ Row w3 b9 0 ms := by
    have hw3 := HW3.out
    subst hw3
    have f : Fr (fun i => i = N + 1) wc ((wc.drew.drewN q3).setCells (N + 1) 0 (rv (xorL sq ak))) := (((Fr.refl _ wc).drew).drewN q3).setCells _ _ _ (fun _ => rfl)
    refine ⟨I.out.fr.then f (fun i hi e => by have := HN.out; omega), Row.set_same (w := wc.drew.drewN q3) (I.out.rr.take 6) _ (by simp [lxk, zl]), ?_, f.row R9.out (by omega)⟩
    have := Row.set_apart (w := wc.drew.drewN q3) (I.out.rr.drop 6) (N + 1) 0 (rv (xorL sq ak)) (.inr (.inr (by rw [rv_length, lxk]; omega)))
    simpa [zl] using this
  clear HW3 I R9
  have cp : ∀ ty, (Builtin.copy_ #[37, 37] ty #[.slice (some ⟨N + 1, 6, none⟩) 8 8, .slice (some ⟨b9, 0, none⟩) 8 8]).run Ybad.prog w3.drew = .ok (goInt 8) (w3.drew.setCells (N + 1) 6 (rv ms)) := by
    intro ty
    have h := run_copyN ty w3.drew (N + 1) 6 8 8 b9 0 8 8 ms (by rw [l2]; rfl) m3.2 (by simpa [l2, zl] using z3.there)
    rwa [l2] at h
  obtain ⟨f4, r4⟩ : Fr (fun i => i = bb) w (w3.drew.setCells (N + 1) 6 (rv ms)) ∧ Row (w3.drew.setCells (N + 1) 6 (rv ms)) (N + 1) 0 (xorL sq ak ++ ms) := by
    have f : Fr (fun i => i = N + 1) w3 (w3.drew.setCells (N + 1) 6 (rv ms)) := ((Fr.refl _ w3).drew).setCells _ _ _ (fun _ => rfl)
    refine ⟨f3.then f (fun i hi e => by have := HN.out; omega), Row.join (Row.set_apart (w := w3.drew) p3 _ _ _ (.inr (.inl (by omega)))) ?_⟩
    rw [lxk]
    exact Row.set_same (w := w3.drew) z3 ms (by rw [l2, zl_length])
  have F4 : Hid (Fr (fun i => i = bb) w (w3.drew.setCells (N + 1) 6 (rv ms))) := f4
  have R4 : Hid (Row (w3.drew.setCells (N + 1) 6 (rv ms)) (N + 1) 0 (xorL sq ak ++ ms)) := r4
  clear f3 p3 z3 m3 f4 r4
  go_upto_region 4 with fail
  go_region_held (fun _ => True) (exact True.intro) (fail)
  clear cp
  generalize w3.drew.setCells (N + 1) 6 (rv ms) = W4 at *
  have l14 : (xorL sq ak ++ ms).length = 14 := by rw [List.length_append, lxk, l2]
  generalize hr : xorL sq ak ++ ms = res at R4 l14
  have HR : Hid (xorL sq ak ++ ms = res) := hr
  clear hr
  have a1 := R4.out.has l14
  have a2 := R4.out.read l14
  go_upto_region 5 with fail
  repeat (first | go_values | go_skip | go_guarded | go_step | go_upon)
  refine bodyPost_ret (results_cell Ybad.results7 (b := N + 1) (o := 0) rfl ((R4.out.set_same res rfl).loadVar l14 Ybad.underlying35 rfl (by kernel_rfl))) rfl ⟨ms, l2, ?_, ?_⟩
  · rw [HK.out, HR.out]
  · exact F4.out.setCells _ _ _ (fun h => by have := HN.out; omega)

end Go.Proofs.YbulkcsgsDoor
