/-
  The stand-in's Encrypt (function 31) and zzs4698aenc (function 6).
-/
import Derived.Test.YbulkcsgsDoorOps
import Derived.Deep.CutRange
import Derived.Deep.DrawnRows
import Derived.Laws.BitsAllLaws
namespace Go.Proofs.YbulkcsgsDoor
open Go.RowKit
theorem xor_bytes (a b : UInt8) : bits .xor .u8 (a.toNat : Int) (b.toNat : Int) = ((a ^^^ b).toNat : Int) := by
  rw [u8_xor_nat _ _ a.toNat_lt b.toNat_lt, UInt8.toNat_xor]
theorem enc_val (a b : UInt8) (k : Nat) : bv ((a ^^^ b) + UInt8.ofNat k) = .int .u8 ((((a.toNat ^^^ b.toNat : Nat) : Int) + (k : Int)) % 256) := by
  simp only [bv, UInt8.toNat_add, UInt8.toNat_xor, UInt8.toNat_ofNat']
  congr 1
  omega
attribute [local go_sem] xor_bytes
attribute [local go_sem] vblk_pointer voff_pointer bytesOf_rv isRv_rv zl_length has_drewN has_drew read_drewN read_drew has_new read_new has_old read_old
attribute [local go_sem ↓] run_loadVar22 run_loadVar31 exec_load22 exec_store22 exec_alloc22 exec_load31 exec_store31 exec_alloc31 Go.wp_at_zero Go.wp_at_succ

/-- The stand-in's encryption, one byte. -/
def encB (key t : List UInt8) (i : Nat) : UInt8 := (t.getD ((i + 5) % 16) 0 ^^^ key.getD i 0) + UInt8.ofNat i
def encL (key t : List UInt8) : List UInt8 := (List.range 16).map (encB key t)
theorem encL_length (key t : List UInt8) : (encL key t).length = 16 := by simp [encL]

/-- copy(dst, src), n bytes each, dst a row of its own. -/
theorem run_copyN (ty : TypeId) (w : World) (b o dl dc bs os sl sc : Nat) (cs : List UInt8) (hn : cs.length = Nat.min sl dl) (hs : w.rangeAt bs os (rv cs)) (hd : w.there b o cs.length) :
    (Builtin.copy_ #[37, 37] ty #[.slice (some ⟨b, o, none⟩) dl dc, .slice (some ⟨bs, os, none⟩) sl sc]).run Ybad.prog w = .ok (goInt cs.length) (w.setCells b o (rv cs)) := by
  have := run_copy_cells (P := Ybad.prog) w 37 37 ty 5 b o dl dc ⟨bs, os, none⟩ sl sc (rv cs) Ybad.underlying37 info5 (by rw [rv_length, hn]) (fun j v hv => by rw [Addr.add_mid]; exact hs j v hv)
    (fun j hj => (hd j (by rwa [rv_length] at hj)).1) (fun j hj => (hd j (by rwa [rv_length] at hj)).2) (rv_one cs)
  rwa [rv_length] at this

theorem run_copy_new (ty : TypeId) (w : World) (t : TypeId) (n bs os sc : Nat) (xs cs : List UInt8) (hl : xs.length = n) (hc : cs.length = n) (hs : Row w bs os cs) :
    (Builtin.copy_ #[37, 37] ty #[.slice (some ⟨w.heap.size, 0, none⟩) n n, .slice (some ⟨bs, os, none⟩) n sc]).run Ybad.prog (w.alloc (.cells (rv xs).toArray t)) = .ok (goInt n) (w.alloc (.cells (rv cs).toArray t)) := by
  have h := run_copyN ty (w.alloc (.cells (rv xs).toArray t)) w.heap.size 0 n n bs os n sc cs (by rw [hc]; exact (Nat.min_self n).symm) (hs.alloc _).2 (by rw [hc, ← hl]; exact (row_new w t xs).there)
  rw [put_new w t xs cs (by omega), hc] at h
  exact h

theorem Row.set_one {w : World} {b o : Nat} {xs : List UInt8} (h : Row w b o xs) (k : Nat) (hk : k < xs.length) (v : UInt8) : Row (w.setCell ⟨b, o + k, none⟩ (bv v)) b o (xs.set k v) := by
  refine ⟨h.1.setCell _ _, fun j u hu => ?_⟩
  rw [rv_get] at hu
  by_cases e : j = k
  · subst e
    rw [List.getElem?_set_self hk] at hu
    simp only [Option.map_some, Option.some.injEq] at hu
    rw [World.cell?_setCell_same _ _ _ (h.cell j hk), hu]
  · rw [List.getElem?_set_ne (Ne.symm e)] at hu
    rw [World.cell?_setCell_other _ _ _ _ (fun e' => e (by have := congrArg Addr.off e'; simp at this; omega))]
    exact h.2 j u (by rw [rv_get]; exact hu)
theorem Row.set_off {w : World} {b o : Nat} {xs : List UInt8} (h : Row w b o xs) (a : Addr) (v : Value) (ha : a.block ≠ b) : Row (w.setCell a v) b o xs := by
  refine ⟨h.1.setCell _ _, fun j u hu => ?_⟩
  rw [World.cell?_setCell_other _ _ _ _ (fun e => ha (by rw [e]))]
  exact h.2 j u hu
theorem splice_step (E D : List UInt8) (k : Nat) (hE : k < E.length) (hD : k < D.length) : (E.take k ++ D.drop k).set k E[k] = E.take (k + 1) ++ D.drop (k + 1) := by
  apply List.ext_getElem?
  intro j
  rw [List.getElem?_set]
  by_cases e : k = j
  · subst e
    rw [if_pos rfl, if_pos (by simp; omega), List.getElem?_append_left (by simp; omega), List.getElem?_take, if_pos (by omega), List.getElem?_eq_getElem hE]
  · rw [if_neg e]
    by_cases h : j < k
    · rw [List.getElem?_append_left (by simp; omega), List.getElem?_append_left (by simp; omega), List.getElem?_take, List.getElem?_take, if_pos h, if_pos (by omega)]
    · rw [List.getElem?_append_right (by simp; omega), List.getElem?_append_right (by simp; omega), List.getElem?_drop, List.getElem?_drop]
      congr 1
      simp
      omega

theorem wrap_mod5 (k : Nat) (hk : k < 16) : ∃ r : Nat, r = (k + 5) % 16 ∧ r < 16 ∧ IntKind.i64.wrap ((k : Int) + 5) = (k : Int) + 5 ∧ ((k : Int) + 5).tmod 16 = (r : Int) := by
  refine ⟨_, rfl, by omega, ?_, ?_⟩
  · rw [IntKind.wrap_i64]; omega
  · rw [Int.tmod_eq_emod_of_nonneg (by omega)]; omega
theorem wrap_mod12 (k : Nat) (hk : k < 16) : ∃ r : Nat, r = (k + 12) % 16 ∧ r < 16 ∧ IntKind.i64.wrap ((k : Int) + 12) = (k : Int) + 12 ∧ ((k : Int) + 12).tmod 16 = (r : Int) := by
  refine ⟨_, rfl, by omega, ?_, ?_⟩
  · rw [IntKind.wrap_i64]; omega
  · rw [Int.tmod_eq_emod_of_nonneg (by omega)]; omega

/-- WHAT HOLDS IN Encrypt's LOOP AFTER k ROUNDS. -/
structure EncRel (w : World) (bb bd od N : Nat) (key ts dst0 : List UInt8) (c : Int) (k : Nat) (wr : World) : Prop where
  fr : Fr (fun i => i = bd ∨ i = bb) w wr
  rt : Row wr N 0 ts
  rk : Row wr bb 0 key
  calls : wr.cell? ⟨bb, 16, none⟩ = some (.int .i64 (c + 1))
  inn : Row wr bb 17 ts
  dst : Row wr bd od ((encL key ts).take k ++ dst0.drop k)
theorem EncRel.drew {w wr : World} {bb bd od N : Nat} {key ts dst0 : List UInt8} {c : Int} {k : Nat} (h : EncRel w bb bd od N key ts dst0 c k wr) : EncRel w bb bd od N key ts dst0 c k wr.drew := ⟨h.fr.drew, h.rt, h.rk, h.calls, h.inn, h.dst⟩
theorem EncRel.step {w wr : World} {bb bd od N : Nat} {key ts dst0 : List UInt8} {c : Int} {k : Nat} (h : EncRel w bb bd od N key ts dst0 c k wr) (hk : k < 16) (ld : dst0.length = 16) (n1 : bb ≠ bd) (n2 : N ≠ bd) :
    EncRel w bb bd od N key ts dst0 c (k + 1) (wr.setCell ⟨bd, od + k, none⟩ (bv (encB key ts k))) := by
  have e : (encL key ts)[k]'(by rw [encL_length]; omega) = encB key ts k := by simp [encL]
  refine ⟨h.fr.setCell _ _ (fun _ => .inl rfl), h.rt.set_off _ _ (Ne.symm n2), h.rk.set_off _ _ (Ne.symm n1), ?_, h.inn.set_off _ _ (Ne.symm n1), ?_⟩
  · rw [World.cell?_setCell_other _ _ _ _ (fun e => n1 (congrArg Addr.block e).symm)]; exact h.calls
  · have := h.dst.set_one k (by simp [encL_length]; omega) (encB key ts k)
    rw [← e, splice_step _ _ k (by rw [encL_length]; omega) (by omega), e] at this
    exact this

set_option maxHeartbeats 1000000 in
set_option maxRecDepth 100000 in
theorem encrypt31 (bb bd od bs os cd cs : Nat) (key ts inn dst0 : List UInt8) (c : Int) (w : World)
    (hk : Row w bb 0 key) (lk : key.length = 16) (hc : w.cell? ⟨bb, 16, none⟩ = some (.int .i64 c)) (hc1 : 0 ≤ c) (hc2 : c ≤ 1000) (hi : Row w bb 17 inn) (li : inn.length = 16)
    (hs : Row w bs os ts) (ls : ts.length = 16) (hd : Row w bd od dst0) (ld : dst0.length = 16) (n1 : bb ≠ bd) (n2 : bb ≠ bs) :
    Calls Ybad.prog 31 #[.pointer (some ⟨bb, 0, none⟩), .slice (some ⟨bd, od, none⟩) 16 cd, .slice (some ⟨bs, os, none⟩) 16 cs] w fun e w' =>
      e = .returned (.tuple #[]) ∧ Fr (fun k => k = bd ∨ k = bb) w w' ∧ Row w' bd od (encL key ts) ∧ Row w' bb 0 key ∧ w'.cell? ⟨bb, 16, none⟩ = some (.int .i64 (c + 1)) ∧ Row w' bb 17 ts := by
  have hcp := fun ty => run_copy_new ty w 22 16 bs os cs (zl 16) ts (zl_length 16) ls hs
  have Hk : Hid (Row w bb 0 key) := hk
  have Hi : Hid (Row w bb 17 inn) := hi
  have Hd : Hid (Row w bd od dst0) := hd
  have Hc : Hid (w.cell? ⟨bb, 16, none⟩ = some (.int .i64 c)) := hc
  clear hk hi hd hs hc
  go_enter Ybad.func31, Ybad.ntmps31
  go_upto_region 2 with fail
  obtain ⟨W1, hW1, N, hN, f1, r1, k1, i1, d1, c1⟩ : ∃ W1, W1 = w.alloc (.cells (rv ts).toArray 22) ∧ ∃ N, N = w.heap.size ∧ Fr (fun k => k = bd ∨ k = bb) w W1 ∧ Row W1 N 0 ts ∧ Row W1 bb 0 key ∧ Row W1 bb 17 inn ∧ Row W1 bd od dst0 ∧ W1.cell? ⟨bb, 16, none⟩ = some (.int .i64 c) :=
    ⟨_, rfl, _, rfl, (Fr.refl _ _).alloc _, row_new w 22 ts, Hk.out.alloc _, Hi.out.alloc _, Hd.out.alloc _, (World.cell?_alloc_lt w _ ⟨bb, 16, none⟩ Hk.out.lt).trans Hc.out⟩
  rw [← hW1, ← hN]
  have nN : N ≠ bb ∧ N ≠ bd := by have h1 := Hk.out.lt; have h2 := Hd.out.lt; omega
  clear hcp hW1 hN Hk Hi Hd Hc
  have z1 : W1.frozen? ⟨bb, 16, none⟩ = false := k1.1.frozen 16
  obtain ⟨r2, k2, i2, d2, c2, f2⟩ : Row (W1.setCell ⟨bb, 16, none⟩ (.int .i64 (c + 1))) N 0 ts ∧ Row (W1.setCell ⟨bb, 16, none⟩ (.int .i64 (c + 1))) bb 0 key ∧ Row (W1.setCell ⟨bb, 16, none⟩ (.int .i64 (c + 1))) bb 17 inn ∧ Row (W1.setCell ⟨bb, 16, none⟩ (.int .i64 (c + 1))) bd od dst0 ∧ (W1.setCell ⟨bb, 16, none⟩ (.int .i64 (c + 1))).cell? ⟨bb, 16, none⟩ = some (.int .i64 (c + 1)) ∧ Fr (fun k => k = bd ∨ k = bb) w (W1.setCell ⟨bb, 16, none⟩ (.int .i64 (c + 1))) :=
    ⟨r1.set_apart bb 16 [_] (.inl nN.1), k1.set_apart bb 16 [_] (.inr (.inl (by omega))), i1.set_apart bb 16 [_] (.inr (.inr (by simp))), d1.set_apart bb 16 [_] (.inl (Ne.symm n1)), World.cell?_setCell_same _ _ _ c1, f1.setCell _ _ (fun _ => .inr rfl)⟩
  have H2 := r2.has ls
  have E2 := r2.read ls
  have I2 := i2.has li
  have F2 : Hid (Fr (fun k => k = bd ∨ k = bb) w (W1.setCell ⟨bb, 16, none⟩ (.int .i64 (c + 1)))) := f2
  have R2 : Hid (Row (W1.setCell ⟨bb, 16, none⟩ (.int .i64 (c + 1))) N 0 ts ∧ Row (W1.setCell ⟨bb, 16, none⟩ (.int .i64 (c + 1))) bb 0 key ∧ Row (W1.setCell ⟨bb, 16, none⟩ (.int .i64 (c + 1))) bb 17 inn ∧ Row (W1.setCell ⟨bb, 16, none⟩ (.int .i64 (c + 1))) bd od dst0 ∧ (W1.setCell ⟨bb, 16, none⟩ (.int .i64 (c + 1))).cell? ⟨bb, 16, none⟩ = some (.int .i64 (c + 1))) := ⟨r2, k2, i2, d2, c2⟩
  clear f1 r1 k1 i1 d1 f2 r2 k2 i2 d2 c2
  go_upto_region 4 with fail
  obtain ⟨W3, hW3, e3⟩ : ∃ W3, W3 = (W1.setCell ⟨bb, 16, none⟩ (.int .i64 (c + 1))).setCells bb 17 (rv ts) ∧ EncRel w bb bd od N key ts dst0 c 0 W3 := by
    obtain ⟨r2, k2, i2, d2, c2⟩ := R2.out
    refine ⟨_, rfl, F2.out.setCells _ _ _ (fun _ => .inr rfl), r2.set_apart _ _ _ (.inl nN.1), k2.set_apart _ _ _ (.inr (.inl (by omega))), ?_, i2.set_same ts (by omega), by simpa using d2.set_apart bb 17 (rv ts) (.inl (Ne.symm n1))⟩
    rw [World.cell?_setCells_out _ _ _ _ _ (fun _ _ => .inl (by simp))]; exact c2
  rw [← hW3]
  clear hW3 F2 R2 H2 E2 I2 c1 z1
  have E3 : Hid (EncRel w bb bd od N key ts dst0 c 0 W3) := e3
  clear e3
  go_wp2_with fail
  go_loopw [7] (fun i wr => ∃ k : Nat, k ≤ 16 ∧ i = .int .i64 k ∧ EncRel w bb bd od N key ts dst0 c k wr) (fun i _ => 16 - (intOf i).toNat)
  case atStart => exact ⟨0, by omega, rfl, E3.out⟩
  case round =>
    obtain ⟨k, hk, rfl, hrel⟩ := hrel
    have HR : Hid (EncRel w bb bd od N key ts dst0 c k wr) := hrel
    clear E3 hrel
    by_cases hlt : k < 16
    · have hi0 : (0 : Int) ≤ (k : Int) := by omega
      have hi1 : (k : Int) < 16 := by omega
      obtain ⟨r, hr, hr16, wk, tm⟩ := wrap_mod5 k hlt
      have c1 : wr.cell? ⟨N, r, none⟩ = some (.int .u8 ((ts.getD r 0).toNat : Int)) := by
        have := HR.out.rt.cell r (by omega)
        simpa [bv, List.getD, List.getElem?_eq_getElem (show r < ts.length by omega)] using this
      have hr1 : (r : Int) < 16 := by omega
      have c2 : wr.cell? ⟨bb, k, none⟩ = some (.int .u8 ((key.getD k 0).toNat : Int)) := by
        have := HR.out.rk.cell k (by omega)
        simpa [bv, List.getD, List.getElem?_eq_getElem (show k < key.length by omega)] using this
      obtain ⟨old, c3⟩ : ∃ old, wr.cell? ⟨bd, od + k, none⟩ = some old := ⟨_, HR.out.dst.cell k (by simp [encL_length]; omega)⟩
      have c4 : wr.frozen? ⟨bd, od + k, none⟩ = false := HR.out.dst.1.frozen _
      generalize hta : (ts.getD r 0) = ta at c1
      generalize hka : (key.getD k 0) = ka at c2
      have HT : Hid (ts.getD r 0 = ta) := hta
      have HK : Hid (key.getD k 0 = ka) := hka
      have Hr : Hid (r = (k + 5) % 16) := hr
      clear hta hka hr
      go_wp2_with fail
      go_region_held (fun w' => w'.cell? ⟨N, r, none⟩ = some (.int .u8 (ta.toNat : Int)) ∧ w'.cell? ⟨bb, k, none⟩ = some (.int .u8 (ka.toNat : Int)))
        (first | (simp [*]; done) | (refine ⟨(World.cell?_setCell_far wr _ _ _ ?_).trans c1, (World.cell?_setCell_far wr _ _ _ ?_).trans c2⟩ <;> (simp; omega))) (fail)
      go_wp2
      go_roundw
      case rel =>
        refine ⟨k + 1, by omega, by go_num, ?_⟩
        have h := (HR.out.step hlt ld n1 nN.2).drew
        rw [show encB key ts k = (ta ^^^ ka) + UInt8.ofNat k by rw [encB, ← Hr.out, HT.out, HK.out]] at h
        rw [enc_val] at h
        exact h
      case measure => simp [intOf]; omega
    · go_wp2
      go_end0
      have h := HR.out
      have e16 : k = 16 := by omega
      subst e16
      refine ⟨rfl, h.fr, ?_, h.rk, h.calls, h.inn⟩
      have := h.dst
      rwa [List.take_of_length_le (by rw [encL_length]; omega), List.drop_of_length_le (by omega), List.append_nil] at this

theorem results_cell {fn : Func} {p : Tmp} {ty : TypeId} (h : fn.results = #[.cell p ty]) {tmps : Array Value} {b o : Nat} {w : World} {v : Value} (hp : tmps.getD p undef = .pointer (some ⟨b, o, none⟩)) (hl : (loadVar ty ⟨b, o, none⟩).run Ybad.prog w = .ok v w) :
    (results fn tmps).run Ybad.prog w = .ok v w := by
  have hp' : tmps[p]?.getD undef = .pointer (some ⟨b, o, none⟩) := by simpa using hp
  simp only [results, h]
  simp [hp', hl, asAddr]
theorem Row.loadVar {w : World} {b o n t : Nat} {xs : List UInt8} {d' : TypeDesc} (h : Row w b o xs) (hl : xs.length = n) (hu : Ybad.prog.underlying t = some d') (hd : d'.isRow = true) (hi : (Ybad.prog.info? t).map (·.size) = some n) :
    (loadVar t ⟨b, o, none⟩).run Ybad.prog w = .ok (.agg (rv xs).toArray) w :=
  run_loadVar_mid (P := Ybad.prog) w b o t (rv xs) d' h.2 hu hd (by rw [rv_length, hl]; exact hi)

structure EncRel6 (w : World) (key ts : List UInt8) (k : Nat) (wr : World) : Prop where
  fr : Below w.heap.size w wr
  rk : Row wr w.heap.size 0 key
  rt : Row wr (w.heap.size + 1) 0 ts
  rr : Row wr (w.heap.size + 1 + 1) 0 (zl 16)
  ro : Row wr (w.heap.size + 1 + 1 + 1) 0 ((encL key ts).take k ++ (zl 16).drop k)
theorem EncRel6.step {w wr : World} {key ts : List UInt8} {k : Nat} (h : EncRel6 w key ts k wr) (hk : k < 16) : EncRel6 w key ts (k + 1) (wr.setCell ⟨w.heap.size + 1 + 1 + 1, k, none⟩ (bv (encB key ts k))).drew := by
  have e : (encL key ts)[k]'(by rw [encL_length]; omega) = encB key ts k := by simp [encL]
  refine ⟨(h.fr.setCell (by simp; omega) _).drew, h.rk.set_off _ _ (by simp; omega), h.rt.set_off _ _ (by simp; omega), h.rr.set_off _ _ (by simp), ?_⟩
  have := h.ro.set_one k (by simp [encL_length, zl]; omega) (encB key ts k)
  rw [← e, splice_step _ _ k (by rw [encL_length]; omega) (by simp [zl]; omega), e, Nat.zero_add] at this
  exact this

set_option maxHeartbeats 400000 in
set_option maxRecDepth 100000 in
theorem enc6 (key ts : List UInt8) (w : World) (lk : key.length = 16) (ls : ts.length = 16) :
    Calls Ybad.prog 6 #[.agg (rv key).toArray, .agg (rv ts).toArray] w fun e w' => e = .returned (.agg (rv (encL key ts)).toArray) ∧ Below w.heap.size w w' := by
  go_enter Ybad.func6, Ybad.ntmps6
  go_upto_region 2 with fail
  obtain ⟨W, hW, e0⟩ : ∃ W, W = (((w.alloc (.cells (rv key).toArray 22)).alloc (.cells (rv ts).toArray 22)).alloc (.cells (rv (zl 16)).toArray 22)).alloc (.cells (rv (zl 16)).toArray 22) ∧ EncRel6 w key ts 0 W := by
    refine ⟨_, rfl, by go_grown, (((row_new w 22 key).alloc _).alloc _).alloc _, ?_, ?_, ?_⟩
    · simpa using ((row_new (w.alloc (.cells (rv key).toArray 22)) 22 ts).alloc (.cells (rv (zl 16)).toArray 22)).alloc (.cells (rv (zl 16)).toArray 22)
    · simpa using (row_new ((w.alloc (.cells (rv key).toArray 22)).alloc (.cells (rv ts).toArray 22)) 22 (zl 16)).alloc (.cells (rv (zl 16)).toArray 22)
    · simpa using row_new (((w.alloc (.cells (rv key).toArray 22)).alloc (.cells (rv ts).toArray 22)).alloc (.cells (rv (zl 16)).toArray 22)) 22 (zl 16)
  rw [← hW]
  clear hW
  have E0 : Hid (EncRel6 w key ts 0 W) := e0
  clear e0
  go_wp2_with fail
  go_loopw [6] (fun i wr => ∃ k : Nat, k ≤ 16 ∧ i = .int .i64 k ∧ EncRel6 w key ts k wr) (fun i _ => 16 - (intOf i).toNat)
  case atStart => exact ⟨0, by omega, rfl, E0.out⟩
  case round =>
    obtain ⟨k, hk, rfl, hrel⟩ := hrel
    have HR : Hid (EncRel6 w key ts k wr) := hrel
    clear E0 hrel
    by_cases hlt : k < 16
    · have hi0 : (0 : Int) ≤ (k : Int) := by omega
      have hi1 : (k : Int) < 16 := by omega
      obtain ⟨r, hr, hr16, wk, tm⟩ := wrap_mod5 k hlt
      have c1 : wr.cell? ⟨w.heap.size + 1, r, none⟩ = some (.int .u8 ((ts.getD r 0).toNat : Int)) := by
        have := HR.out.rt.cell r (by omega)
        simpa [bv, List.getD, List.getElem?_eq_getElem (show r < ts.length by omega)] using this
      have hr1 : (r : Int) < 16 := by omega
      have c2 : wr.cell? ⟨w.heap.size, k, none⟩ = some (.int .u8 ((key.getD k 0).toNat : Int)) := by
        have := HR.out.rk.cell k (by omega)
        simpa [bv, List.getD, List.getElem?_eq_getElem (show k < key.length by omega)] using this
      obtain ⟨old, c3⟩ : ∃ old, wr.cell? ⟨w.heap.size + 1 + 1 + 1, k, none⟩ = some old := ⟨_, by simpa using HR.out.ro.cell k (by simp [encL_length, zl]; omega)⟩
      have c4 : wr.frozen? ⟨w.heap.size + 1 + 1 + 1, k, none⟩ = false := HR.out.ro.1.frozen _
      generalize hta : (ts.getD r 0) = ta at c1
      generalize hka : (key.getD k 0) = ka at c2
      have HT : Hid (ts.getD r 0 = ta) := hta
      have HK : Hid (key.getD k 0 = ka) := hka
      have Hr : Hid (r = (k + 5) % 16) := hr
      clear hta hka hr
      go_wp2_with fail
      go_region_held (fun w' => w'.cell? ⟨w.heap.size + 1, r, none⟩ = some (.int .u8 (ta.toNat : Int)) ∧ w'.cell? ⟨w.heap.size, k, none⟩ = some (.int .u8 (ka.toNat : Int)))
        (first | (simp [*]; done) | (refine ⟨(World.cell?_setCell_far wr _ _ _ ?_).trans c1, (World.cell?_setCell_far wr _ _ _ ?_).trans c2⟩ <;> (simp; omega))) (fail)
      go_wp2
      go_roundw
      case rel =>
        refine ⟨k + 1, by omega, by go_num, ?_⟩
        have h := HR.out.step hlt
        rw [show encB key ts k = (ta ^^^ ka) + UInt8.ofNat k by rw [encB, ← Hr.out, HT.out, HK.out]] at h
        rw [enc_val] at h
        exact h
      case measure => simp [intOf]; omega
    · have h := HR.out
      have ho := h.ro
      rw [List.take_of_length_le (by rw [encL_length]; omega), List.drop_of_length_le (by simp [zl]; omega), List.append_nil] at ho
      have a1 := ho.has (encL_length key ts)
      have a2 := ho.read (encL_length key ts)
      have a3 := h.rr.has (zl_length 16)
      have a4 := encL_length key ts
      have Hf : Hid (Below w.heap.size w wr) := h.fr
      have Hr : Hid (Row wr (w.heap.size + 1 + 1) 0 (zl 16)) := h.rr
      have hfin := h.rr.set_same (encL key ts) (by rw [a4, zl_length])
      have b1 := hfin.has a4
      have b2 := hfin.read a4
      clear h ho HR hfin
      go_upto_region 6 with fail
      repeat (first | go_values | go_skip | go_guarded | go_step | go_upon)
      refine bodyPost_ret (results_cell Ybad.results6 (b := w.heap.size + 1 + 1) (o := 0) rfl ((Hr.out.set_same (encL key ts) (by rw [a4, zl_length])).loadVar a4 Ybad.underlying22 rfl (by kernel_rfl))) rfl ⟨rfl, ?_⟩
      refine Hf.out.trans (Fr.below (S := fun i => i = w.heap.size + 1 + 1) ((Fr.refl _ wr).setCells _ _ _ (fun _ => rfl)) Hf.out.size (fun i hi h => ?_))
      omega

end Go.Proofs.YbulkcsgsDoor
