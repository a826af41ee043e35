/-
  (*Milenage).f1 (function 9): two times 8 bytes come back; all but the stand-in stands.
-/
import Derived.Test.YbulkcsgsDoorStar
import Derived.Test.YbulkcsgsDoorOut1
namespace Go.Proofs.YbulkcsgsDoor
open Go.RowKit
attribute [local go_sem] xor_bytes vblk_pointer voff_pointer bytesOf_rv isRv_rv zl_length has_drewN has_drew read_drewN read_drew has_new read_new has_old read_old put_at
attribute [local go_sem ↓] run_loadVar22 exec_load22 exec_store22 exec_alloc22 run_loadVar40 exec_load40 exec_store40 exec_alloc40 Go.wp_at_zero Go.wp_at_succ

theorem Row.set_mid {w : World} {b o : Nat} {xs : List UInt8} (h : Row w b o xs) (i : Nat) (ys : List UInt8) (hi : i + ys.length ≤ xs.length) : ∃ zs, zs.length = xs.length ∧ Row (w.setCells b (o + i) (rv ys)) b o zs := by
  refine ⟨xs.take i ++ (ys ++ xs.drop (i + ys.length)), by simp; omega, Row.join ((h.take i).set_apart _ _ _ (.inr (.inl (by simp; omega)))) ?_⟩
  have e : o + (xs.take i).length = o + i := by simp; omega
  rw [e]
  refine Row.join (((h.drop i).take ys.length).set_same ys (by simp; omega)) ?_
  have := (h.drop (i + ys.length)).set_apart b (o + i) (rv ys) (.inr (.inr (by rw [rv_length]; omega)))
  rwa [← Nat.add_assoc] at this

theorem results_cell2 {fn : Func} {p p' : Tmp} {ty ty' : TypeId} (h : fn.results = #[.cell p ty, .cell p' ty']) {tmps : Array Value} {b o b' o' : Nat} {w : World} {v v' : Value} (hp : tmps.getD p undef = .pointer (some ⟨b, o, none⟩)) (hp' : tmps.getD p' undef = .pointer (some ⟨b', o', none⟩))
    (hl : (loadVar ty ⟨b, o, none⟩).run Ybad.prog w = .ok v w) (hl' : (loadVar ty' ⟨b', o', none⟩).run Ybad.prog w = .ok v' w) :
    (results fn tmps).run Ybad.prog w = .ok (.tuple #[v, v']) w := by
  have q : tmps[p]?.getD undef = .pointer (some ⟨b, o, none⟩) := by simpa using hp
  have q' : tmps[p']?.getD undef = .pointer (some ⟨b', o', none⟩) := by simpa using hp'
  simp only [results, h]
  simp [q, q', hl, hl', asAddr]

/-- What f1 keeps while it lays IN1 together. -/
structure In1 (w : World) (bm bb bs os N : Nat) (opc key inn xs sq am : List UInt8) (c : Int) (W : World) : Prop where
  fr : Fr (fun i => i = bb) w W
  mil : Mil W bm bb opc key inn c
  rt : Row W N 0 xs
  ra : Row W (N + 1) 0 (zl 8)
  rs : Row W (N + 1 + 1) 0 (zl 8)
  ri : ∃ zs, zs.length = 16 ∧ Row W (N + 1 + 1 + 1) 0 zs
  sq : Row W bs os sq
  am : W.rangeAt 0 0 (rv am)
theorem In1.step {w W : World} {bm bb bs os N : Nat} {opc key inn xs sq am : List UInt8} {c : Int} (h : In1 w bm bb bs os N opc key inn xs sq am c W) (hN : N = w.heap.size) (hlt : bm < N ∧ bb < N ∧ bs < N) (i : Nat) (ys : List UInt8) (hi : i + ys.length ≤ 16) :
    In1 w bm bb bs os N opc key inn xs sq am c (W.setCells (N + 1 + 1 + 1) i (rv ys)) := by
  have f : Fr (fun j => j = N + 1 + 1 + 1) W (W.setCells (N + 1 + 1 + 1) i (rv ys)) := (Fr.refl _ _).setCells _ _ _ (fun _ => rfl)
  obtain ⟨zs, lz, rz⟩ := h.ri
  obtain ⟨zs', lz', rz'⟩ := rz.set_mid i ys (by omega)
  rw [Nat.zero_add] at rz'
  exact ⟨h.fr.then f (fun j hj e => by omega), h.mil.frame f (by omega) (by omega), f.row h.rt (by omega), f.row h.ra (by omega), f.row h.rs (by omega), ⟨zs', by omega, rz'⟩, f.row h.sq (by omega), World.rangeAt_setCells_apart h.am _ _ _ (.inl (by omega))⟩
theorem In1.copy {w W : World} {bm bb bs os N : Nat} {opc key inn xs sq am : List UInt8} {c : Int} (h : In1 w bm bb bs os N opc key inn xs sq am c W) (i dl : Nat) (ty : TypeId) (b o sl sc : Nat) (cs : List UInt8) (hs : W.rangeAt b o (rv cs)) (hl : cs.length = sl) (hd : sl ≤ dl) (hi : i + cs.length ≤ 16) :
    (Builtin.copy_ #[37, 37] ty #[.slice (some ⟨N + 1 + 1 + 1, i, none⟩) dl dl, .slice (some ⟨b, o, none⟩) sl sc]).run Ybad.prog W = .ok (goInt sl) (W.setCells (N + 1 + 1 + 1) i (rv cs)) := by
  obtain ⟨zs, lz, rz⟩ := h.ri
  have := run_copyN ty W (N + 1 + 1 + 1) i dl dl b o sl sc cs (by rw [hl]; exact (Nat.min_eq_left hd).symm) hs (by
    have := ((rz.drop i).take cs.length).there
    simpa [lz, show min cs.length (16 - i) = cs.length by omega] using this)
  rw [hl] at this
  exact this

set_option maxHeartbeats 1000000 in
set_option maxRecDepth 100000 in
theorem f1_any (bm bb bs os cs : Nat) (opc key inn xs sq am : List UInt8) (c : Int) (w : World) (M : Mil w bm bb opc key inn c) (hc1 : 0 ≤ c) (hc2 : c ≤ 1000) (lx : xs.length = 16)
    (hs : Row w bs os sq) (ls : sq.length = 6) (ha : w.rangeAt 0 0 (rv am)) (la : am.length = 2) (g2 : w.cell? ⟨1, 2, none⟩ = some (.int .u8 8)) (g3 : w.cell? ⟨1, 3, none⟩ = some (.int .u8 0)) (hg : bb ≠ 1) :
    Calls Ybad.prog 9 #[.pointer (some ⟨bm, 0, none⟩), .agg (rv xs).toArray, .slice (some ⟨bs, os, none⟩) 6 cs, .slice (some ⟨0, 0, none⟩) 2 2] w fun e w' =>
      ∃ a b y, e = .returned (.tuple #[.agg (rv a).toArray, .agg (rv b).toArray]) ∧ a.length = 8 ∧ b.length = 8 ∧ Fr (fun i => i = bb) w w' ∧ Mil w' bm bb opc key y (c + 1) := by
  have hlt : bm < w.heap.size ∧ bb < w.heap.size ∧ bs < w.heap.size := ⟨M.ro.lt, M.rk.lt, hs.lt⟩
  have nbm : bm ≠ bb := M.ne
  have I0 : Hid (In1 w bm bb bs os w.heap.size opc key inn xs sq am c ((((w.alloc (.cells (rv xs).toArray 22)).alloc (.cells (rv (zl 8)).toArray 40)).alloc (.cells (rv (zl 8)).toArray 40)).alloc (.cells (rv (zl 16)).toArray 22))) := by
    have f : Fr (fun _ => False) w ((((w.alloc (.cells (rv xs).toArray 22)).alloc (.cells (rv (zl 8)).toArray 40)).alloc (.cells (rv (zl 8)).toArray 40)).alloc (.cells (rv (zl 16)).toArray 22)) := ((((Fr.refl _ w).alloc _).alloc _).alloc _).alloc _
    refine ⟨f.mono (fun _ h => h.elim), M.frame f id id, (((row_new w 22 xs).alloc _).alloc _).alloc _, ?_, ?_, ⟨zl 16, zl_length 16, ?_⟩, f.row hs id, World.rangeAt_alloc (World.rangeAt_alloc (World.rangeAt_alloc (World.rangeAt_alloc ha _) _) _) _⟩
    · simpa using ((row_new (w.alloc (.cells (rv xs).toArray 22)) 40 (zl 8)).alloc (.cells (rv (zl 8)).toArray 40)).alloc (.cells (rv (zl 16)).toArray 22)
    · simpa using (row_new ((w.alloc (.cells (rv xs).toArray 22)).alloc (.cells (rv (zl 8)).toArray 40)) 40 (zl 8)).alloc (.cells (rv (zl 16)).toArray 22)
    · simpa using row_new (((w.alloc (.cells (rv xs).toArray 22)).alloc (.cells (rv (zl 8)).toArray 40)).alloc (.cells (rv (zl 8)).toArray 40)) 22 (zl 16)
  have G : Hid (w.cell? ⟨1, 2, none⟩ = some (.int .u8 8) ∧ w.cell? ⟨1, 3, none⟩ = some (.int .u8 0)) := ⟨g2, g3⟩
  clear M hs ha g2 g3
  go_enter Ybad.func9, Ybad.ntmps9
  go_upto_region 2 with fail
  obtain ⟨W0, hW0, J0⟩ : ∃ W0, W0 = (((w.alloc (.cells (rv xs).toArray 22)).alloc (.cells (rv (zl 8)).toArray 40)).alloc (.cells (rv (zl 8)).toArray 40)).alloc (.cells (rv (zl 16)).toArray 22) ∧ Hid (In1 w bm bb bs os w.heap.size opc key inn xs sq am c W0) := ⟨_, rfl, I0⟩
  rw [← hW0]
  clear hW0 I0
  have J1 := J0.out.step rfl hlt 0 sq (by omega)
  have J2 := J1.step rfl hlt 6 am (by omega)
  have J3 := J2.step rfl hlt 8 sq (by omega)
  have J4 : Hid (In1 w bm bb bs os w.heap.size opc key inn xs sq am c ((((W0.setCells (w.heap.size + 1 + 1 + 1) 0 (rv sq)).setCells (w.heap.size + 1 + 1 + 1) 6 (rv am)).setCells (w.heap.size + 1 + 1 + 1) 8 (rv sq)).setCells (w.heap.size + 1 + 1 + 1) 14 (rv am))) := J3.step rfl hlt 14 am (by omega)
  have cp2 := fun ty => J0.out.copy 0 16 ty bs os 6 cs sq J0.out.sq.2 ls (by omega) (by omega)
  have cp3 := fun ty => J1.copy 6 10 ty 0 0 2 2 am J1.am la (by omega) (by omega)
  have cp4 := fun ty => J2.copy 8 8 ty bs os 6 cs sq J2.sq.2 ls (by omega) (by omega)
  have cp5 := fun ty => J3.copy 14 2 ty 0 0 2 2 am J3.am la (by omega) (by omega)
  clear J0 J1 J2 J3
  go_upto_region 6 with fail
  clear cp2 cp3 cp4 cp5
  generalize ((((W0.setCells (w.heap.size + 1 + 1 + 1) 0 (rv sq)).setCells (w.heap.size + 1 + 1 + 1) 6 (rv am)).setCells (w.heap.size + 1 + 1 + 1) 8 (rv sq)).setCells (w.heap.size + 1 + 1 + 1) 14 (rv am)) = W4 at *
  obtain ⟨zs, lz, rz⟩ := J4.out.ri
  have h1 := rz.has lz
  have e1 := rz.read lz
  clear rz
  go_wp2_with fail
  have hlt1 : 1 < w.heap.size := World.block_lt_of_cell? _ _ G.out.1
  refine (out1 bm bb w.heap.size opc key inn zs xs c W4 J4.out.mil hc1 hc2 lz J4.out.rt lx (by omega) (J4.out.fr.cell_some G.out.1 (by simp; omega)) (J4.out.fr.cell_some G.out.2 (by simp; omega)) hg).mono ?_
  rintro e w5 ⟨o, y, rfl, lo, f5, m5⟩
  have F5 : Hid (Fr (fun i => i = bb) w w5) := J4.out.fr.trans f5
  have R5 : Hid (Row w5 (w.heap.size + 1) 0 (zl 8) ∧ Row w5 (w.heap.size + 1 + 1) 0 (zl 8)) := ⟨f5.row J4.out.ra (by omega), f5.row J4.out.rs (by omega)⟩
  have M5 : Hid (Mil w5 bm bb opc key y (c + 1)) := m5
  clear h1 e1 f5 m5 J4 G
  go_upto_region 7 with fail
  obtain ⟨W6, hW6, B, hB, f6, m6, a6, s6, o6⟩ : ∃ W6, W6 = w5.alloc (.cells (rv o).toArray 22) ∧ ∃ B, B = w5.heap.size ∧ Fr (fun i => i = bb) w W6 ∧ Mil W6 bm bb opc key y (c + 1) ∧ Row W6 (w.heap.size + 1) 0 (zl 8) ∧ Row W6 (w.heap.size + 1 + 1) 0 (zl 8) ∧ Row W6 B 0 o :=
    ⟨_, rfl, _, rfl, F5.out.alloc _, M5.out.frame ((Fr.refl (fun _ => False) w5).alloc _) id id, R5.out.1.alloc _, R5.out.2.alloc _, row_new w5 22 o⟩
  have hBn : w.heap.size + 1 + 1 < B := by
    have := R5.out.2.lt; omega
  rw [← hW6, ← hB]
  clear hW6 hB F5 R5 M5 W0 W4
  have cp7 : ∀ ty, (Builtin.copy_ #[37, 37] ty #[.slice (some ⟨w.heap.size + 1, 0, none⟩) 8 8, .slice (some ⟨B, 0, none⟩) 8 16]).run Ybad.prog W6.drew = .ok (goInt 8) (W6.drew.setCells (w.heap.size + 1) 0 (rv (o.take 8))) := by
    intro ty
    have h := run_copyN ty W6.drew (w.heap.size + 1) 0 8 8 B 0 8 16 (o.take 8) (by simp [lo]) (by simpa using (o6.take 8).2) (by simpa [lo, zl] using a6.there)
    simpa [lo] using h
  obtain ⟨f7, m7, a7, s7, o7⟩ : Fr (fun i => i = bb) w (W6.drew.setCells (w.heap.size + 1) 0 (rv (o.take 8))) ∧ Mil (W6.drew.setCells (w.heap.size + 1) 0 (rv (o.take 8))) bm bb opc key y (c + 1) ∧ Row (W6.drew.setCells (w.heap.size + 1) 0 (rv (o.take 8))) (w.heap.size + 1) 0 (o.take 8) ∧ Row (W6.drew.setCells (w.heap.size + 1) 0 (rv (o.take 8))) (w.heap.size + 1 + 1) 0 (zl 8) ∧ Row (W6.drew.setCells (w.heap.size + 1) 0 (rv (o.take 8))) B 0 o := by
    have fW : Fr (fun i => i = w.heap.size + 1) W6.drew (W6.drew.setCells (w.heap.size + 1) 0 (rv (o.take 8))) := (Fr.refl _ _).setCells _ _ _ (fun _ => rfl)
    exact ⟨f6.drew.then fW (fun i hi e => by omega), m6.drew.frame fW (by omega) (by omega), Row.set_same (w := W6.drew) a6 _ (by simp [lo, zl]), fW.row (w := W6.drew) s6 (by omega), fW.row (w := W6.drew) o6 (by omega)⟩
  clear f6 m6 a6 s6 o6
  go_region_held (fun _ => True) (exact True.intro) (fail)
  clear cp7
  generalize W6.drew.setCells (w.heap.size + 1) 0 (rv (o.take 8)) = W7 at *
  have cp8 : ∀ ty, (Builtin.copy_ #[37, 37] ty #[.slice (some ⟨w.heap.size + 1 + 1, 0, none⟩) 8 8, .slice (some ⟨B, 8, none⟩) 8 8]).run Ybad.prog W7.drew = .ok (goInt 8) (W7.drew.setCells (w.heap.size + 1 + 1) 0 (rv (o.drop 8))) := by
    intro ty
    have h := run_copyN ty W7.drew (w.heap.size + 1 + 1) 0 8 8 B 8 8 8 (o.drop 8) (by simp [lo]) (by simpa using (o7.drop 8).2) (by simpa [lo, zl] using s7.there)
    simpa [lo] using h
  obtain ⟨f8, m8, a8, s8⟩ : Fr (fun i => i = bb) w (W7.drew.setCells (w.heap.size + 1 + 1) 0 (rv (o.drop 8))) ∧ Mil (W7.drew.setCells (w.heap.size + 1 + 1) 0 (rv (o.drop 8))) bm bb opc key y (c + 1) ∧ Row (W7.drew.setCells (w.heap.size + 1 + 1) 0 (rv (o.drop 8))) (w.heap.size + 1) 0 (o.take 8) ∧ Row (W7.drew.setCells (w.heap.size + 1 + 1) 0 (rv (o.drop 8))) (w.heap.size + 1 + 1) 0 (o.drop 8) := by
    have fW : Fr (fun i => i = w.heap.size + 1 + 1) W7.drew (W7.drew.setCells (w.heap.size + 1 + 1) 0 (rv (o.drop 8))) := (Fr.refl _ _).setCells _ _ _ (fun _ => rfl)
    exact ⟨f7.drew.then fW (fun i hi e => by omega), m7.drew.frame fW (by omega) (by omega), fW.row (w := W7.drew) a7 (by omega), Row.set_same (w := W7.drew) s7 _ (by simp [lo, zl])⟩
  have F8 : Hid (Fr (fun i => i = bb) w (W7.drew.setCells (w.heap.size + 1 + 1) 0 (rv (o.drop 8)))) := f8
  have M8 : Hid (Mil (W7.drew.setCells (w.heap.size + 1 + 1) 0 (rv (o.drop 8))) bm bb opc key y (c + 1)) := m8
  have R8 : Hid (Row (W7.drew.setCells (w.heap.size + 1 + 1) 0 (rv (o.drop 8))) (w.heap.size + 1) 0 (o.take 8) ∧ Row (W7.drew.setCells (w.heap.size + 1 + 1) 0 (rv (o.drop 8))) (w.heap.size + 1 + 1) 0 (o.drop 8)) := ⟨a8, s8⟩
  clear f7 m7 a7 s7 o7 f8 m8 a8 s8
  go_upto_region 8 with fail
  go_region_held (fun _ => True) (exact True.intro) (fail)
  clear cp8
  generalize W7.drew.setCells (w.heap.size + 1 + 1) 0 (rv (o.drop 8)) = W8 at *
  have l1 : (o.take 8).length = 8 := by simp [lo]
  have l2 : (o.drop 8).length = 8 := by simp [lo]
  generalize o.take 8 = ma at *
  generalize o.drop 8 = ms at *
  have h1 := R8.out.1.has l1
  have e1 := R8.out.1.read l1
  have h2 := R8.out.2.has l2
  have e2 := R8.out.2.read l2
  have f9 : Fr (fun i => i = w.heap.size + 1) W8 (W8.setCells (w.heap.size + 1) 0 (rv ma)) := (Fr.refl _ _).setCells _ _ _ (fun _ => rfl)
  have a9 : Row (W8.setCells (w.heap.size + 1) 0 (rv ma)) (w.heap.size + 1) 0 ma := R8.out.1.set_same ma rfl
  have s9 : Row (W8.setCells (w.heap.size + 1) 0 (rv ma)) (w.heap.size + 1 + 1) 0 ms := f9.row R8.out.2 (by omega)
  have h3 := s9.has l2
  have f10 : Fr (fun i => i = w.heap.size + 1 + 1) (W8.setCells (w.heap.size + 1) 0 (rv ma)) ((W8.setCells (w.heap.size + 1) 0 (rv ma)).setCells (w.heap.size + 1 + 1) 0 (rv ms)) := (Fr.refl _ _).setCells _ _ _ (fun _ => rfl)
  have A : Hid (Row ((W8.setCells (w.heap.size + 1) 0 (rv ma)).setCells (w.heap.size + 1 + 1) 0 (rv ms)) (w.heap.size + 1) 0 ma ∧ Row ((W8.setCells (w.heap.size + 1) 0 (rv ma)).setCells (w.heap.size + 1 + 1) 0 (rv ms)) (w.heap.size + 1 + 1) 0 ms) := ⟨f10.row a9 (by omega), s9.set_same ms rfl⟩
  have FF : Hid (Fr (fun i => i = bb) w ((W8.setCells (w.heap.size + 1) 0 (rv ma)).setCells (w.heap.size + 1 + 1) 0 (rv ms)) ∧ Mil ((W8.setCells (w.heap.size + 1) 0 (rv ma)).setCells (w.heap.size + 1 + 1) 0 (rv ms)) bm bb opc key y (c + 1)) :=
    ⟨(F8.out.then f9 (fun i hi e => by omega)).then f10 (fun i hi e => by omega), (M8.out.frame f9 (by omega) (by omega)).frame f10 (by omega) (by omega)⟩
  clear F8 M8 R8 f9 a9 s9 f10
  go_upto_region 9 with fail
  repeat (first | go_values | go_skip | go_guarded | go_step | go_upon)
  exact bodyPost_ret (results_cell2 Ybad.results9 (b := w.heap.size + 1) (o := 0) (b' := w.heap.size + 1 + 1) (o' := 0) rfl rfl (A.out.1.loadVar l1 Ybad.underlying40 rfl (by kernel_rfl)) (A.out.2.loadVar l2 Ybad.underlying40 rfl (by kernel_rfl))) rfl ⟨ma, ms, y, rfl, l1, l2, FF.out.1, FF.out.2⟩

end Go.Proofs.YbulkcsgsDoor
