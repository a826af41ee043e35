/-
  THE WALK OF LawS4698AAuts (function 4).
-/
import Derived.Test.YbulkcsgsDoorAuts
import Derived.Test.YbulkcsgsDoorModel
namespace Go.Proofs.YbulkcsgsDoor
open Go.RowKit
attribute [local go_sem] vblk_pointer voff_pointer bytesOf_rv isRv_rv zl_length has_drewN has_drew read_drewN read_drew has_new read_new has_older read_old has_set ifT_iface ifV_iface
attribute [local go_sem ↓] run_loadVar22 exec_load22 exec_store22 exec_alloc22 run_loadVar31 exec_load31 exec_store31 exec_alloc31 run_loadVar35 exec_load35 exec_store35 exec_alloc35 exec_build25 exec_build30 Go.wp_at_zero Go.wp_at_succ

/-- What the law keeps: its blocks lie below K. -/
structure LInv (w : World) (N P K : Nat) (xs sq ak : List UInt8) (W : World) : Prop where
  b : Below N w W
  rt : Row W N 0 xs
  rs : Row W (N + 1 + 1 + 1) 0 sq
  rp : Row W P 0 ak
  rq : Row W (P + 1) 0 sq
  sz : K ≤ W.heap.size
theorem LInv.frame {S : Nat → Prop} {w W W' : World} {N P K : Nat} {xs sq ak : List UInt8} (h : LInv w N P K xs sq ak W) (f : Fr S W W') (hb : N + 3 < K ∧ P + 1 < K) (hS : ∀ i, S i → i = N + 4 ∨ K ≤ i) (hP : N + 4 < P) : LInv w N P K xs sq ak W' := by
  have hn : ∀ i, i < K → i ≠ N + 4 → ¬ S i := fun i hi he hs => by have := hS i hs; omega
  exact ⟨h.b.trans (f.below (by have := h.rt.lt; omega) (fun k hk => hn k (by omega) (by omega))), f.row h.rt (hn _ (by omega) (by omega)), f.row h.rs (hn _ (by omega) (by omega)), f.row h.rp (hn _ (by omega) (by omega)), f.row h.rq (hn _ (by omega) (by omega)), Nat.le_trans h.sz f.size⟩
theorem LInv.keep {w W : World} {N P K : Nat} {xs sq ak : List UInt8} (h : LInv w N P K xs sq ak W) : W.rangeAt N 0 (rv xs) ∧ LInv w N P K xs sq ak W := ⟨h.rt.2, h⟩

theorem xor_back (a b : UInt8) : a ^^^ b ^^^ a = b := by rw [UInt8.xor_comm, ← UInt8.xor_assoc, UInt8.xor_self, UInt8.zero_xor]
theorem one_rv (xs : List UInt8) : ∀ v ∈ rv xs, v.oneCell' = true := by
  intro v hv
  simp only [rv, List.mem_map] at hv
  obtain ⟨b, _, rfl⟩ := hv
  rfl

theorem row_past {N : Nat} {W w9 : World} {K : Nat} (f9 : Fr (fun i => i = N + 4) (W.alloc (.cells (rv (zl 14)).toArray 35)).drew w9) (hK : W.heap.size = K) (hn : ¬ K = N + 4) : Row w9 K 0 (zl 14) := by
  subst hK
  exact f9.row (row_new W 35 (zl 14)).drew hn
theorem there_past {w9 : World} {K : Nat} {res : List UInt8} (h : Row w9 K 0 (zl 14)) (hl : res.length = 14) : w9.there K 0 (rv res).length := by
  simpa [rv_length, hl, zl] using h.there

set_option maxHeartbeats 1000000 in
set_option maxRecDepth 100000 in
theorem auts4 (xs opc key sq am : List UInt8) (w : World) (lx : xs.length = 16) (lo : opc.length = 16) (lk : key.length = 16) (ls : sq.length = 6) (ha : w.rangeAt 0 0 (rv am)) (la : am.length = 2)
    (g10 : w.cell? ⟨1, 10, none⟩ = some (.int .u8 12)) (g11 : w.cell? ⟨1, 11, none⟩ = some (.int .u8 8)) (g2 : w.cell? ⟨1, 2, none⟩ = some (.int .u8 8)) (g3 : w.cell? ⟨1, 3, none⟩ = some (.int .u8 0)) :
    Calls Ybad.prog 4 #[.agg (rv xs).toArray, .agg (rv opc).toArray, .agg (rv key).toArray, .agg (rv sq).toArray] w fun e w' => e = .returned (.bool true) ∧ Below w.heap.size w w' := by
  have hN1 : 1 < w.heap.size := World.block_lt_of_cell? _ _ g2
  obtain ⟨W1, hW1, N, hN, b1, t1, o1, k1, q1, s1⟩ : ∃ W1, W1 = (((w.alloc (.cells (rv xs).toArray 22)).alloc (.cells (rv opc).toArray 22)).alloc (.cells (rv key).toArray 22)).alloc (.cells (rv sq).toArray 31) ∧ ∃ N, N = w.heap.size ∧ Fr (fun _ => False) w W1 ∧ Row W1 N 0 xs ∧ Row W1 (N + 1) 0 opc ∧ Row W1 (N + 1 + 1) 0 key ∧ Row W1 (N + 1 + 1 + 1) 0 sq ∧ W1.heap.size = N + 4 := by
    refine ⟨_, rfl, _, rfl, ((((Fr.refl _ w).alloc _).alloc _).alloc _).alloc _, (((row_new w 22 xs).alloc _).alloc _).alloc _, ?_, ?_, ?_, by simp⟩
    · simpa using ((row_new (w.alloc (.cells (rv xs).toArray 22)) 22 opc).alloc (.cells (rv key).toArray 22)).alloc (.cells (rv sq).toArray 31)
    · simpa using (row_new ((w.alloc (.cells (rv xs).toArray 22)).alloc (.cells (rv opc).toArray 22)) 22 key).alloc (.cells (rv sq).toArray 31)
    · simpa using row_new (((w.alloc (.cells (rv xs).toArray 22)).alloc (.cells (rv opc).toArray 22)).alloc (.cells (rv key).toArray 22)) 31 sq
  have G1 : Hid ((W1.cell? ⟨1, 10, none⟩ = some (.int .u8 12) ∧ W1.cell? ⟨1, 11, none⟩ = some (.int .u8 8)) ∧ (W1.cell? ⟨1, 2, none⟩ = some (.int .u8 8) ∧ W1.cell? ⟨1, 3, none⟩ = some (.int .u8 0)) ∧ W1.rangeAt 0 0 (rv am)) := ⟨⟨b1.cell_some g10 id, b1.cell_some g11 id⟩, ⟨b1.cell_some g2 id, b1.cell_some g3 id⟩, fun j v hv => b1.cell_some (ha j v hv) id⟩
  have HN : Hid (N = w.heap.size) := hN
  have B1 : Hid (Below N w W1) := b1.below (by omega) (fun _ _ => id)
  have R1 : Hid (Row W1 N 0 xs ∧ Row W1 (N + 1) 0 opc ∧ Row W1 (N + 1 + 1) 0 key ∧ Row W1 (N + 1 + 1 + 1) 0 sq) := ⟨t1, o1, k1, q1⟩
  have h1 := k1.has lk
  have e1 := k1.read lk
  have h2 := (o1.alloc (.cells (blk0 key) 25)).has lo
  have e2 := (o1.alloc (.cells (blk0 key) 25)).read lo
  have h3 := ((t1.alloc (.cells (blk0 key) 25)).alloc (.cells (mil0 (.iface 23 (.pointer (some ⟨N + 4, 0, none⟩))) opc) 30)).has lx
  have e3 := ((t1.alloc (.cells (blk0 key) 25)).alloc (.cells (mil0 (.iface 23 (.pointer (some ⟨N + 4, 0, none⟩))) opc) 30)).read lx
  clear b1 t1 o1 k1 q1 ha g10 g11 g2 g3
  go_enter Ybad.func4, Ybad.ntmps4
  go_upto_region 1 with fail
  rw [← hW1, ← hN]
  clear hW1
  have hN1' : 1 < N := by omega
  clear hN hN1
  go_wp2_with fail
  have M2 : Mil ((W1.alloc (.cells (blk0 key) 25)).alloc (.cells (mil0 (.iface 23 (.pointer (some ⟨N + 4, 0, none⟩))) opc) 30)) (N + 4 + 1) (N + 4) opc key (zl 16) 0 := by
    refine mil_new (by omega) lo lk ?_ ?_
    · rw [Below.heap_alloc _ _ _ (by simp [s1]), ← s1]; exact heap_alloc_new W1 _
    · have := heap_alloc_new (W1.alloc (.cells (blk0 key) 25)) (.cells (mil0 (.iface 23 (.pointer (some ⟨N + 4, 0, none⟩))) opc) 30)
      rw [World.size_alloc, s1] at this
      exact this
  have f2 : Fr (fun _ => False) W1 ((W1.alloc (.cells (blk0 key) 25)).alloc (.cells (mil0 (.iface 23 (.pointer (some ⟨N + 4, 0, none⟩))) opc) 30)) := ((Fr.refl _ W1).alloc _).alloc _
  refine (f5star (N + 4 + 1) (N + 4) opc key (zl 16) xs 0 _ M2 (by omega) (by omega) lx (f2.cell_some G1.out.1.1 id) (f2.cell_some G1.out.1.2 id) (by omega)).mono ?_
  rintro e w3 ⟨rfl, f3, m3⟩
  have hz3 : N + 6 ≤ w3.heap.size := by have := f3.size; simp [s1] at this; omega
  have f13 : Fr (fun i => i = N + 4) W1 w3 := (f2.mono (fun _ h => h.elim)).trans f3
  have B3 : Hid (Below N w w3) := B1.out.trans (f13.below (by omega) (fun i hi => by omega))
  have R3 : Hid (Row w3 N 0 xs ∧ Row w3 (N + 1 + 1 + 1) 0 sq) := ⟨f13.row R1.out.1 (by omega), f13.row R1.out.2.2.2 (by omega)⟩
  have G3 : Hid ((w3.cell? ⟨1, 10, none⟩ = some (.int .u8 12) ∧ w3.cell? ⟨1, 11, none⟩ = some (.int .u8 8)) ∧ (w3.cell? ⟨1, 2, none⟩ = some (.int .u8 8) ∧ w3.cell? ⟨1, 3, none⟩ = some (.int .u8 0)) ∧ w3.rangeAt 0 0 (rv am)) :=
    ⟨⟨f13.cell_some G1.out.1.1 (by simp), f13.cell_some G1.out.1.2 (by simp)⟩, ⟨f13.cell_some G1.out.2.1.1 (by simp), f13.cell_some G1.out.2.1.2 (by simp)⟩, fun j v hv => f13.cell_some (G1.out.2.2 j v hv) (by simp)⟩
  have M3 : Hid (Mil w3 (N + 4 + 1) (N + 4) opc key (inY opc xs 12 8) 1) := m3
  clear M2 f2 f3 m3 f13 R1 B1 G1 h1 e1 h2 e2 h3 e3 s1 W1
  have lg : ((out5L key opc xs).take 6).length = 6 := by simp [out5L, xorL_length, encL_length, lo]
  generalize hak : (out5L key opc xs).take 6 = ak at lg ⊢
  have HK : Hid ((out5L key opc xs).take 6 = ak) := hak
  clear hak
  go_upto_region 3 with fail
  obtain ⟨W4, hW4, P, hP, hs4, r4, q4, B4, G4, M4, R4⟩ : ∃ W4, W4 = (w3.alloc (.cells (rv (zl 6)).toArray 31)).setCells w3.heap.size 0 (rv ak) ∧ ∃ P, P = w3.heap.size ∧ W4.heap.size = P + 1 ∧ Row W4 P 0 ak ∧ Row W4 (N + 1 + 1 + 1) 0 sq ∧ Hid (Below N w W4) ∧ Hid ((W4.cell? ⟨1, 10, none⟩ = some (.int .u8 12) ∧ W4.cell? ⟨1, 11, none⟩ = some (.int .u8 8)) ∧ (W4.cell? ⟨1, 2, none⟩ = some (.int .u8 8) ∧ W4.cell? ⟨1, 3, none⟩ = some (.int .u8 0)) ∧ W4.rangeAt 0 0 (rv am)) ∧ Hid (Mil W4 (N + 4 + 1) (N + 4) opc key (inY opc xs 12 8) 1) ∧ Hid (Row W4 N 0 xs) := by
    rw [put_new w3 31 (zl 6) ak (by rw [lg, zl_length])]
    have f : Fr (fun _ => False) w3 (w3.alloc (.cells (rv ak).toArray 31)) := (Fr.refl _ w3).alloc _
    exact ⟨_, rfl, _, rfl, by simp, row_new w3 31 ak, f.row R3.out.2 id, B3.out.trans (f.below (by omega) (fun _ _ => id)), ⟨⟨f.cell_some G3.out.1.1 id, f.cell_some G3.out.1.2 id⟩, ⟨f.cell_some G3.out.2.1.1 id, f.cell_some G3.out.2.1.2 id⟩, fun j v hv => f.cell_some (G3.out.2.2 j v hv) id⟩, M3.out.frame f id id, f.row R3.out.1 id⟩
  have hNP : N + 6 ≤ P := by omega
  rw [← hW4, ← hP]
  clear hW4 hP hz3 B3 R3 G3 M3
  have h7 := q4.has ls
  have e7 := q4.read ls
  have R4' : Hid (Row W4 P 0 ak ∧ Row W4 (N + 1 + 1 + 1) 0 sq) := ⟨r4, q4⟩
  clear r4 q4
  go_upto_region 4 with fail
  obtain ⟨W5, hW5, K, hK, iv, G5, M5⟩ : ∃ W5, W5 = (W4.alloc (.cells (rv (zl 6)).toArray 31)).setCells (P + 1) 0 (rv sq) ∧ ∃ K, W5.heap.size = K ∧ LInv w N P K xs sq ak W5 ∧ Hid ((W5.cell? ⟨1, 10, none⟩ = some (.int .u8 12) ∧ W5.cell? ⟨1, 11, none⟩ = some (.int .u8 8)) ∧ (W5.cell? ⟨1, 2, none⟩ = some (.int .u8 8) ∧ W5.cell? ⟨1, 3, none⟩ = some (.int .u8 0)) ∧ W5.rangeAt 0 0 (rv am)) ∧ Hid (Mil W5 (N + 4 + 1) (N + 4) opc key (inY opc xs 12 8) 1) := by
    rw [← hs4, put_new W4 31 (zl 6) sq (by rw [ls, zl_length])]
    have f : Fr (fun _ => False) W4 (W4.alloc (.cells (rv sq).toArray 31)) := (Fr.refl _ W4).alloc _
    refine ⟨_, rfl, _, rfl, ⟨B4.out.trans (f.below (by omega) (fun _ _ => id)), f.row R4.out id, f.row R4'.out.2 id, f.row R4'.out.1 id, ?_, Nat.le_refl _⟩, ⟨⟨f.cell_some G4.out.1.1 id, f.cell_some G4.out.1.2 id⟩, ⟨f.cell_some G4.out.2.1.1 id, f.cell_some G4.out.2.1.2 id⟩, fun j v hv => f.cell_some (G4.out.2.2 j v hv) id⟩, M4.out.frame f id id⟩
    have := row_new W4 31 sq
    rwa [hs4] at this
  have hb : N + 3 < K ∧ P + 1 < K := by have := iv.rq.lt; omega
  rw [← hW5]
  clear hW5 hs4 B4 G4 M4 R4 R4' h7 e7
  have IV : Hid (LInv w N P K xs sq ak W5) := iv
  have hu := Ybad.underlying22
  have hi : (Ybad.prog.info? 22).map (·.size) = some (rv xs).length := by rw [rv_length, lx]; kernel_rfl
  have r22 : W5.rangeAt N 0 (rv xs) := iv.rt.2
  clear iv
  have HB : Hid (N + 3 < K ∧ P + 1 < K) := hb
  have hP4 : N + 4 < P := by omega
  have lxk : (xorL sq ak).length = 6 := by rw [xorL_length, ls, lg]; rfl
  have l14 : ∀ ms : List UInt8, ms.length = 8 → (xorL sq ak ++ ms).length = 14 := fun ms h => by rw [List.length_append, lxk, h]
  go_cut [12] from 25 to 28 (fun s12 wc => ∃ b12 ms, s12 = .pointer (some ⟨b12, 0, none⟩) ∧ ms.length = 8 ∧ Row wc b12 0 (xorL sq ak ++ ms) ∧ LInv w N P K xs sq ak wc)
  case first =>
    go_region_held (fun w' => w'.rangeAt N 0 (rv xs) ∧ LInv w N P K xs sq ak w')
      (first
        | exact (IV.out.frame ((Fr.refl (fun _ => False) _).drew) HB.out (fun _ h => h.elim) hP4).keep
        | (obtain ⟨_, hv⟩ := ‹_ ∧ LInv w N P K xs sq ak _›
           first
             | exact (hv.frame ((Fr.refl (fun _ => False) _).alloc _) HB.out (fun _ h => h.elim) hP4).keep
             | exact (hv.frame f9 HB.out (fun i e => .inl e) hP4).keep
             | (refine (hv.frame ((Fr.refl (fun i => i = _) _).setCells _ 0 _ (fun _ => rfl)) HB.out ?_ hP4).keep; intro i e; right; omega)))
      (first | (go_at_call 7
                obtain ⟨_, hv⟩ := ‹_ ∧ LInv w N P K xs sq ak _›
                refine (auts_any (N + 4 + 1) (N + 4) (P + 1) opc key (inY opc xs 12 8) xs sq am 1 _ (M5.out.frame (S := fun _ => False) (by repeat (first | exact Fr.refl _ _ | refine Fr.alloc ?_ _ | refine Fr.drew ?_)) id id) (by omega) (by omega) lx hv.rq ls (by omega) (fun j v hj => Fr.cell_some (S := fun _ => False) (w := W5) (by repeat (first | exact Fr.refl _ _ | refine Fr.alloc ?_ _ | refine Fr.drew ?_)) (G5.out.2.2 j v hj) id) la (Fr.cell_some (S := fun _ => False) (w := W5) (by repeat (first | exact Fr.refl _ _ | refine Fr.alloc ?_ _ | refine Fr.drew ?_)) G5.out.1.1 id) (Fr.cell_some (S := fun _ => False) (w := W5) (by repeat (first | exact Fr.refl _ _ | refine Fr.alloc ?_ _ | refine Fr.drew ?_)) G5.out.1.2 id) (Fr.cell_some (S := fun _ => False) (w := W5) (by repeat (first | exact Fr.refl _ _ | refine Fr.alloc ?_ _ | refine Fr.drew ?_)) G5.out.2.1.1 id) (Fr.cell_some (S := fun _ => False) (w := W5) (by repeat (first | exact Fr.refl _ _ | refine Fr.alloc ?_ _ | refine Fr.drew ?_)) G5.out.2.1.2 id) (by omega) (by omega)).mono ?_
                rintro e w9 ⟨ms, l2, he, f9⟩
                rw [HK.out] at he
                subst he
                have l15 := l14 ms l2
                generalize hres : xorL sq ak ++ ms = res at l15 ⊢
                have HR : Hid (xorL sq ak ++ ms = res) := hres
                clear hres
                have ho : ∀ v ∈ rv res, v.oneCell' = true := one_rv res
                have hi35 : (Ybad.prog.info? 35).map (·.size) = some (rv res).length := by rw [rv_length, l15]; kernel_rfl
                have th : (w9.alloc (.cells (rv (zl 14)).toArray 35)).there w9.heap.size 0 (rv res).length := by simpa [rv_length, l15, zl] using (row_new w9 35 (zl 14)).there
                have hz9 := f9.size
                (try simp at hz9)
                (try (refine cutH (P := K < w9.heap.size) ?_ (fun lt1 => ?_); focus (omega; done)))
                (try (refine cutH (P := ¬ K = w9.heap.size) ?_ (fun ne1 => ?_); focus (omega; done)))
                (try (refine cutH (P := ¬ w9.heap.size = K) ?_ (fun ne2 => ?_); focus (omega; done)))
                (try (have q1 := row_past f9 hK (fun e => by omega); have q2 := there_past q1 l15))))
    all_goals
      go_wp2_with fail
      go_meet
      refine ⟨_, ms, rfl, l2, ?_, ?_⟩
      rw [HR.out]
      · first | exact Row.set_same (row_new w9 35 (zl 14)) res l15 | exact Row.set_same (row_past f9 hK (fun e => by omega)) res l15
      · exact (‹_ ∧ LInv w N P K xs sq ak _›).2
  case rest =>
  obtain ⟨b12, ms, rfl, l2, r12, iv⟩ := hcut
  have I : Hid (LInv w N P K xs sq ak wc) := iv
  have R12 : Hid (Row wc b12 0 (xorL sq ak ++ ms)) := r12
  clear iv r12 IV r22 hu hi hK M5 G5
  go_wp2_with fail
  go_loopw [13] (fun i wr => ∃ k m : Nat, k ≤ 6 ∧ i = .int .i64 k ∧ wr = wc.drewN m) (fun i _ => 6 - (intOf i).toNat)
  case atStart => exact ⟨0, 0, by omega, rfl, rfl⟩
  case round =>
    obtain ⟨k, m, hk, rfl, rfl⟩ := hrel
    by_cases hlt : k < 6
    · have hi0 : (0 : Int) ≤ (k : Int) := by omega
      have hi1 : (k : Int) < 6 := by omega
      have hi2 : (k : Int) < 14 := by omega
      have c1 := R12.out.cellD k (by rw [l14 ms l2]; omega)
      have c2 := I.out.rs.cellD k (by omega)
      have c3 := I.out.rp.cellD k (by omega)
      rw [show (xorL sq ak ++ ms).getD k 0 = sq.getD k 0 ^^^ ak.getD k 0 by rw [← xorL_getD sq ak k (by omega) (by omega)]; simp only [List.getD]; rw [List.getElem?_append_left (by omega)]] at c1
      generalize sq.getD k 0 = sa at c1 c2
      generalize ak.getD k 0 = ka at c1 c3
      have hx : bits BinOp.xor IntKind.u8 ((sa ^^^ ka).toNat : Int) (sa.toNat : Int) = (ka.toNat : Int) := by rw [xor_bytes, xor_back]
      generalize sa ^^^ ka = xa at c1 hx
      go_wp2_with fail
      go_quiet (fail)
      go_wp2
      go_roundw
      case rel => exact ⟨k + 1, _, by omega, by go_num, rfl⟩
      case measure => simp [intOf]; omega
    · have h1 := I.out.rq.has ls
      have e1 := I.out.rq.read ls
      have h2 := I.out.rs.has ls
      have e2 := I.out.rs.read ls
      have q := fun (w : World) => eq_rows 9998 w sq Ybad.underlying31 ls
      have HB : Hid (Below N w wc) := I.out.b
      clear I R12
      go_wp2_with fail
      go_ret
      exact ⟨rfl, by have := below_drewN HB.out m; rw [HN.out] at this; exact this⟩

end Go.Proofs.YbulkcsgsDoor
