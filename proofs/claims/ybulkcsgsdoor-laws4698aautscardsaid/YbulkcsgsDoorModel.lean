/-
  THE WALK OF LawS4698AModel (function 3).
-/
import Derived.Test.YbulkcsgsDoorArr
namespace Go.Proofs.YbulkcsgsDoor
open Go.RowKit
attribute [local go_sem] xor_bytes vblk_pointer voff_pointer bytesOf_rv isRv_rv zl_length has_drewN has_drew read_drewN read_drew has_new read_new has_old read_old put_at ifT_iface ifV_iface
attribute [local go_sem ↓] run_loadVar22 exec_load22 exec_store22 exec_alloc22 run_loadVar31 exec_load31 exec_store31 exec_alloc31 exec_build25 exec_build30 Go.wp_at_zero Go.wp_at_succ

/-- A LOOP THAT FILLS A ROW: after k rounds the first k bytes of the row at b are T's. -/
structure Filled (W : World) (b : Nat) (T : List UInt8) (k : Nat) (wr : World) : Prop where
  fr : Fr (fun i => i = b) W wr
  sz : wr.heap.size = W.heap.size
  row : Row wr b 0 (T.take k ++ (zl 16).drop k)
theorem Filled.start {W : World} {b : Nat} (T : List UInt8) (h : Row W b 0 (zl 16)) : Filled W b T 0 W := ⟨Fr.refl _ _, rfl, by simpa using h⟩
theorem Filled.step {W wr : World} {b : Nat} {T : List UInt8} {k : Nat} (h : Filled W b T k wr) (hk : k < 16) (lT : T.length = 16) : Filled W b T (k + 1) (wr.setCell ⟨b, k, none⟩ (bv (T.getD k 0))) := by
  refine ⟨h.fr.setCell _ _ (fun _ => rfl), by simp [World.setCell, h.sz], ?_⟩
  have e : T.getD k 0 = T[k] := by simp [List.getD, List.getElem?_eq_getElem (show k < T.length by omega)]
  have := h.row.set_one k (by simp [zl]; omega) (T.getD k 0)
  rw [e, splice_step T (zl 16) k (by omega) (by simp [zl]; omega), Nat.zero_add] at this
  rw [e]
  exact this
theorem Filled.drew {W wr : World} {b : Nat} {T : List UInt8} {k : Nat} (h : Filled W b T k wr) : Filled W b T k wr.drew := ⟨h.fr.drew, h.sz, h.row⟩
theorem Filled.done {W wr : World} {b : Nat} {T : List UInt8} {k : Nat} (h : Filled W b T k wr) (hk : ¬ k < 16) (lT : T.length = 16) : Row wr b 0 T := by
  have := h.row
  rwa [List.take_of_length_le (by omega), List.drop_of_length_le (by simp [zl]; omega), List.append_nil] at this
theorem Filled.there {W wr : World} {b : Nat} {T : List UInt8} {k : Nat} (h : Filled W b T k wr) (hk : k < 16) (lT : T.length = 16) : (∃ old, wr.cell? ⟨b, k, none⟩ = some old) ∧ wr.frozen? ⟨b, k, none⟩ = false :=
  ⟨⟨_, by simpa using h.row.cell k (by simp [zl]; omega)⟩, h.row.1.frozen _⟩
theorem Row.cellD {w : World} {b : Nat} {xs : List UInt8} (h : Row w b 0 xs) (k : Nat) (hk : k < xs.length) : w.cell? ⟨b, k, none⟩ = some (.int .u8 ((xs.getD k 0).toNat : Int)) := by
  have := h.cell k hk
  simpa [bv, List.getD, List.getElem?_eq_getElem hk] using this
theorem xorL_getD (xs ys : List UInt8) (k : Nat) (h1 : k < xs.length) (h2 : k < ys.length) : (xorL xs ys).getD k 0 = xs.getD k 0 ^^^ ys.getD k 0 := by
  simp [xorL, List.getD, List.getElem?_zipWith, List.getElem?_eq_getElem h1, List.getElem?_eq_getElem h2]
theorem rotL_getD (z : List UInt8) (k : Nat) (hz : z.length = 16) (hk : k < 16) : (rotL 12 z).getD k 0 = z.getD ((k + 12) % 16) 0 := by
  simp only [rotL, List.getD]
  congr 1
  by_cases h : k < 4
  · rw [List.getElem?_append_left (by simp; omega), List.getElem?_drop]
    congr 1; omega
  · rw [List.getElem?_append_right (by simp; omega), List.getElem?_take, if_pos (by simp; omega)]
    congr 1; simp; omega

/-- THE LAW's OWN MEMORY: the three arguments' boxes, the Milenage and its stand-in behind one call. -/
structure LS (w : World) (N : Nat) (xs opc key y : List UInt8) (W : World) : Prop where
  b : Below N w W
  rt : Row W N 0 xs
  ro : Row W (N + 1) 0 opc
  rk : Row W (N + 1 + 1) 0 key
  mil : Mil W (N + 3 + 1) (N + 3) opc key y 1
theorem LS.frame {S : Nat → Prop} {w W W' : World} {N : Nat} {xs opc key y : List UInt8} (h : LS w N xs opc key y W) (f : Fr S W W') (hs : ∀ k, k < N + 5 → ¬ S k) : LS w N xs opc key y W' :=
  ⟨h.b.trans (f.below (by have := h.rt.lt; omega) (fun k hk => hs k (by omega))), f.row h.rt (hs _ (by omega)), f.row h.ro (hs _ (by omega)), f.row h.rk (hs _ (by omega)), h.mil.frame f (hs _ (by omega)) (hs _ (by omega))⟩
theorem Fr.ofBelow {w w' : World} (h : Below w.heap.size w w') : Fr (fun _ => False) w w' := ⟨h.os, h.tape, h.output, h.size, fun k hk _ => h.block k hk⟩
theorem LS.alloc {w W : World} {N : Nat} {xs opc key y : List UInt8} (h : LS w N xs opc key y W) (o : Obj) : LS w N xs opc key y (W.alloc o) := h.frame ((Fr.refl (fun _ => False) W).alloc o) (fun _ _ => id)
theorem LS.drewN {w W : World} {N : Nat} {xs opc key y : List UInt8} (h : LS w N xs opc key y W) (n : Nat) : LS w N xs opc key y (W.drewN n) := h.frame ((Fr.refl (fun _ => False) W).drewN n) (fun _ _ => id)

set_option maxHeartbeats 1000000 in
set_option maxRecDepth 100000 in
theorem model3 (xs opc key : List UInt8) (w : World) (lx : xs.length = 16) (lo : opc.length = 16) (lk : key.length = 16)
    (g10 : w.cell? ⟨1, 10, none⟩ = some (.int .u8 12)) (g11 : w.cell? ⟨1, 11, none⟩ = some (.int .u8 8)) :
    Calls Ybad.prog 3 #[.agg (rv xs).toArray, .agg (rv opc).toArray, .agg (rv key).toArray] w fun e w' => e = .returned (.bool true) ∧ Below w.heap.size w w' := by
  have G : Hid (w.cell? ⟨1, 10, none⟩ = some (.int .u8 12) ∧ w.cell? ⟨1, 11, none⟩ = some (.int .u8 8)) := ⟨g10, g11⟩
  clear g10 g11
  go_enter Ybad.func3, Ybad.ntmps3
  go_upto_region 1 with fail
  obtain ⟨W1, hW1, N, hN, b1, t1, o1, k1, s1⟩ : ∃ W1, W1 = ((w.alloc (.cells (rv xs).toArray 22)).alloc (.cells (rv opc).toArray 22)).alloc (.cells (rv key).toArray 22) ∧ ∃ N, N = w.heap.size ∧ Below N w W1 ∧ Row W1 N 0 xs ∧ Row W1 (N + 1) 0 opc ∧ Row W1 (N + 1 + 1) 0 key ∧ W1.heap.size = N + 3 := by
    refine ⟨_, rfl, _, rfl, by go_grown, ((row_new w 22 xs).alloc _).alloc _, ?_, ?_, by simp⟩
    · simpa using (row_new (w.alloc (.cells (rv xs).toArray 22)) 22 opc).alloc (.cells (rv key).toArray 22)
    · simpa using row_new ((w.alloc (.cells (rv xs).toArray 22)).alloc (.cells (rv opc).toArray 22)) 22 key
  rw [← hW1, ← hN]
  have HN : Hid (N = w.heap.size) := hN
  have B1 : Hid (Below N w W1) := b1
  have R1 : Hid (Row W1 N 0 xs ∧ Row W1 (N + 1) 0 opc ∧ Row W1 (N + 1 + 1) 0 key) := ⟨t1, o1, k1⟩
  have h1 := k1.has lk
  have e1 := k1.read lk
  have h2 := (o1.alloc (.cells (blk0 key) 25)).has lo
  have e2 := (o1.alloc (.cells (blk0 key) 25)).read lo
  have h3 := ((t1.alloc (.cells (blk0 key) 25)).alloc (.cells (mil0 (.iface 23 (.pointer (some ⟨N + 3, 0, none⟩))) opc) 30)).has lx
  have e3 := ((t1.alloc (.cells (blk0 key) 25)).alloc (.cells (mil0 (.iface 23 (.pointer (some ⟨N + 3, 0, none⟩))) opc) 30)).read lx
  clear hW1 hN b1 t1 o1 k1
  go_wp2_with fail
  have hN1 : 1 < N := by have := World.block_lt_of_cell? _ _ G.out.1; have := HN.out; simp at *; omega
  have M2 : Mil ((W1.alloc (.cells (blk0 key) 25)).alloc (.cells (mil0 (.iface 23 (.pointer (some ⟨N + 3, 0, none⟩))) opc) 30)) (N + 3 + 1) (N + 3) opc key (zl 16) 0 := by
    refine mil_new (by omega) lo lk ?_ ?_
    · rw [Below.heap_alloc _ _ _ (by simp [s1]), ← s1]; exact heap_alloc_new W1 _
    · have := heap_alloc_new (W1.alloc (.cells (blk0 key) 25)) (.cells (mil0 (.iface 23 (.pointer (some ⟨N + 3, 0, none⟩))) opc) 30)
      rw [World.size_alloc, s1] at this
      exact this
  have G2 : Hid (∀ v j, w.cell? ⟨1, j, none⟩ = some v → ((W1.alloc (.cells (blk0 key) 25)).alloc (.cells (mil0 (.iface 23 (.pointer (some ⟨N + 3, 0, none⟩))) opc) 30)).cell? ⟨1, j, none⟩ = some v) := by
    intro v j h
    refine (((Fr.refl (fun _ => False) W1).alloc _).alloc _).cell_some ?_ id
    rw [B1.out.cell (p := ⟨1, j, none⟩) hN1]; exact h
  refine (f5star (N + 3 + 1) (N + 3) opc key (zl 16) xs 0 _ M2 (by omega) (by omega) lx (G2.out _ _ G.out.1) (G2.out _ _ G.out.2) (by omega)).mono ?_
  rintro e w3 ⟨rfl, f3, m3⟩
  have L3 : Hid (LS w N xs opc key (inY opc xs 12 8) w3) := by
    obtain ⟨t1, o1, k1⟩ := R1.out
    refine ⟨?_, f3.row ((t1.alloc _).alloc _) (by omega), f3.row ((o1.alloc _).alloc _) (by omega), f3.row ((k1.alloc _).alloc _) (by omega), m3⟩
    exact (((B1.out.alloc (by omega) _).alloc (by simp; omega) _)).trans (f3.below (by simp; omega) (fun k hk => by omega))
  have hz3 : N + 5 ≤ w3.heap.size := by have := f3.size; simp [s1] at this; omega
  clear M2 G2 f3 m3 R1 B1 G h1 e1 h2 e2 h3 e3 s1 W1
  have lg : ((out5L key opc xs).take 6).length = 6 := by simp [out5L, xorL_length, encL_length, lo]
  generalize hgot : (out5L key opc xs).take 6 = got at lg ⊢
  have HG : Hid ((out5L key opc xs).take 6 = got) := hgot
  clear hgot
  go_upto_region 5 with fail
  obtain ⟨W4, hW4, X, hX, L4, g4, x4, hX5, hsz⟩ : ∃ W4, W4 = (w3.alloc (.cells (rv got).toArray 31)).alloc (.cells (rv (zl 16)).toArray 22) ∧ ∃ X, X = w3.heap.size ∧ LS w N xs opc key (inY opc xs 12 8) W4 ∧ Row W4 X 0 got ∧ Row W4 (X + 1) 0 (zl 16) ∧ N + 5 ≤ X ∧ W4.heap.size = X + 2 :=
    ⟨_, rfl, _, rfl, (L3.out.alloc _).alloc _, (row_new w3 31 got).alloc _, by simpa using row_new (w3.alloc (.cells (rv got).toArray 31)) 22 (zl 16), hz3, by simp⟩
  rw [← hW4, ← hX]
  clear hW4 hX L3 hz3 w3
  have lT : (xorL xs opc).length = 16 := by rw [xorL_length, lx, lo]; rfl
  have L4' : Hid (LS w N xs opc key (inY opc xs 12 8) W4) := L4
  have G4 : Hid (Row W4 X 0 got) := g4
  have X4 : Hid (Filled W4 (X + 1) (xorL xs opc) 0 W4) := Filled.start _ x4
  have SZ : Hid (W4.heap.size = X + 2) := hsz
  clear L4 g4 x4 hsz
  go_wp2_with fail
  go_loopw [11] (fun i wr => ∃ k : Nat, k ≤ 16 ∧ i = .int .i64 k ∧ Filled W4 (X + 1) (xorL xs opc) k wr) (fun i _ => 16 - (intOf i).toNat)
  case atStart => exact ⟨0, by omega, rfl, X4.out⟩
  case round =>
    obtain ⟨k, hk, rfl, hrel⟩ := hrel
    have HR : Hid (Filled W4 (X + 1) (xorL xs opc) k wr) := hrel
    clear X4 hrel
    by_cases hlt : k < 16
    · have hi0 : (0 : Int) ≤ (k : Int) := by omega
      have hi1 : (k : Int) < 16 := by omega
      have c1 := (HR.out.fr.row L4'.out.rt (by omega)).cellD k (by omega)
      have c2 := (HR.out.fr.row L4'.out.ro (by omega)).cellD k (by omega)
      obtain ⟨⟨old, c3⟩, c4⟩ := HR.out.there hlt lT
      have HV : Hid ((xorL xs opc).getD k 0 = xs.getD k 0 ^^^ opc.getD k 0) := xorL_getD xs opc k (by omega) (by omega)
      generalize xs.getD k 0 = ta at c1 HV
      generalize opc.getD k 0 = ka at c2 HV
      go_wp2_with fail
      go_region_held (fun w' => w'.cell? ⟨N, k, none⟩ = some (.int .u8 (ta.toNat : Int)) ∧ w'.cell? ⟨N + 1, k, none⟩ = some (.int .u8 (ka.toNat : Int)))
        (first | (simp [*]; done) | (refine ⟨(World.cell?_setCell_far wr _ _ _ ?_).trans c1, (World.cell?_setCell_far wr _ _ _ ?_).trans c2⟩ <;> (simp; omega))) (fail)
      go_wp2
      go_roundw
      case rel =>
        refine ⟨k + 1, by omega, by go_num, ?_⟩
        have h := (HR.out.step hlt lT).drew
        rw [HV.out] at h
        exact h
      case measure => simp [intOf]; omega
    · have hs5 : wr.heap.size = X + 2 := HR.out.sz.trans SZ.out
      have L5 : Hid (LS w N xs opc key (inY opc xs 12 8) wr) := L4'.out.frame HR.out.fr (fun i hi => by omega)
      have R5 : Hid (Row wr X 0 got ∧ Row wr (X + 1) 0 (xorL xs opc)) := ⟨HR.out.fr.row G4.out (by omega), HR.out.done hlt lT⟩
      clear HR L4' G4 SZ
      go_wp2_with fail
      obtain ⟨W6, hW6, L6, G6, X6, Y6, SZ6⟩ : ∃ W6, W6 = wr.alloc (.cells (rv (zl 16)).toArray 22) ∧ Hid (LS w N xs opc key (inY opc xs 12 8) W6) ∧ Hid (Row W6 X 0 got) ∧ Hid (Row W6 (X + 1) 0 (xorL xs opc)) ∧ Hid (Filled W6 (X + 2) (rotL 12 (xorL xs opc)) 0 W6) ∧ Hid (W6.heap.size = X + 3) := by
        refine ⟨_, rfl, L5.out.alloc _, R5.out.1.alloc _, R5.out.2.alloc _, Filled.start _ ?_, (show (wr.alloc _).heap.size = X + 3 by simp [hs5])⟩
        have := row_new wr 22 (zl 16)
        rwa [hs5] at this
      rw [← hW6]
      clear hW6 L5 R5 hs5
      have lR : (rotL 12 (xorL xs opc)).length = 16 := by simp [rotL, lT]
      generalize hT1 : xorL xs opc = T1 at *
      have HT1 : Hid (xorL xs opc = T1) := hT1
      clear hT1
      go_loopw [13] (fun i wr => ∃ k : Nat, k ≤ 16 ∧ i = .int .i64 k ∧ Filled W6 (X + 2) (rotL 12 T1) k wr) (fun i _ => 16 - (intOf i).toNat)
      case atStart => exact ⟨0, by omega, rfl, Y6.out⟩
      case round =>
        rename_i k1 _ _
        obtain ⟨k, hk, rfl, hrel⟩ := hrel
        have HR : Hid (Filled W6 (X + 2) (rotL 12 T1) k wr) := hrel
        clear Y6 hrel
        by_cases hlt : k < 16
        · have hi0 : (0 : Int) ≤ (k : Int) := by omega
          have hi1 : (k : Int) < 16 := by omega
          obtain ⟨r, hr, hr16, wk, tm⟩ := wrap_mod12 k hlt
          have hr1 : (r : Int) < 16 := by omega
          have c1 := (HR.out.fr.row X6.out (by omega)).cellD r (by omega)
          obtain ⟨⟨old, c3⟩, c4⟩ := HR.out.there hlt lR
          have HV : Hid ((rotL 12 T1).getD k 0 = T1.getD r 0) := by have := rotL_getD T1 k lT hlt; rw [← hr] at this; exact this
          generalize T1.getD r 0 = ta at c1 HV
          clear hr
          go_wp2
          go_roundw
          case rel =>
            refine ⟨k + 1, by omega, by go_num, ?_⟩
            have h := HR.out.step hlt lR
            rw [HV.out] at h
            exact h
          case measure => simp [intOf]; omega
        · have L7 : Hid (LS w N xs opc key (inY opc xs 12 8) wr) := L6.out.frame HR.out.fr (fun i hi => by omega)
          have R7 : Hid (Row wr X 0 got ∧ Row wr (X + 2) 0 (rotL 12 T1)) := ⟨HR.out.fr.row G6.out (by omega), HR.out.done hlt lR⟩
          have S7 : Hid (wr.heap.size = X + 3) := HR.out.sz.trans SZ6.out
          clear HR L6 G6 X6 SZ6
          go_upto_region 14 with fail
          have y15 := R7.out.2.cellD 15 (by omega)
          have z15 : wr.frozen? ⟨X + 2, 15, none⟩ = false := R7.out.2.1.frozen _
          generalize hv : (rotL 12 T1).getD 15 0 = v15 at y15
          have V : Hid ((rotL 12 T1).getD 15 0 = v15) := hv
          clear hv
          obtain ⟨W8, hW8, L8, G8, Y8, S8⟩ : ∃ W8, W8 = wr.setCell ⟨X + 2, 15, none⟩ (.int .u8 (bits .xor .u8 (v15.toNat : Int) 8)) ∧ Hid (LS w N xs opc key (inY opc xs 12 8) W8) ∧ Hid (Row W8 X 0 got) ∧ Hid (Row W8 (X + 2) 0 (inY opc xs 12 8)) ∧ Hid (W8.heap.size = X + 3) := by
            have fW : Fr (fun i => i = X + 2) wr (wr.setCell ⟨X + 2, 15, none⟩ (.int .u8 (bits .xor .u8 (v15.toNat : Int) 8))) := (Fr.refl _ _).setCell _ _ (fun _ => rfl)
            refine ⟨_, rfl, L7.out.frame fW (fun i hi => by omega), fW.row R7.out.1 (by omega), ?_, (show (wr.setCell _ _).heap.size = X + 3 by simp [World.setCell, S7.out])⟩
            have := R7.out.2.set_one 15 (by omega) (v15 ^^^ 8)
            rw [show inY opc xs 12 8 = (rotL 12 T1).set 15 (v15 ^^^ 8) by rw [inY, HT1.out, V.out]]
            rw [show Value.int IntKind.u8 (bits BinOp.xor IntKind.u8 (v15.toNat : Int) 8) = bv (v15 ^^^ 8) by rw [bv, ← xor_bytes]; rfl]
            exact this
          go_upto_region 15 with fail
          rw [← hW8]
          clear hW8 y15 z15 V L7 R7 S7
          have lY : (inY opc xs 12 8).length = 16 := L8.out.mil.li
          have HO5 : Hid (∀ k, k < 6 → got.getD k 0 = (encL key (inY opc xs 12 8)).getD k 0 ^^^ opc.getD k 0) := by
            intro k hk
            rw [← HG.out, out5L, ← xorL_getD _ _ k (by rw [encL_length]; omega) (by omega)]
            simp [List.getD, hk]
          generalize inY opc xs 12 8 = Y at *
          have h1 := L8.out.rk.has lk
          have e1 := L8.out.rk.read lk
          have h2 := Y8.out.has lY
          have e2 := Y8.out.read lY
          go_wp2_with fail
          refine (enc6 key Y W8 lk lY).mono ?_
          rintro e w9 ⟨rfl, hb9⟩
          have le : (encL key Y).length = 16 := encL_length key Y
          generalize encL key Y = E at le HO5 ⊢
          have f9 := Fr.ofBelow hb9
          have L9 : Hid (LS w N xs opc key Y w9) := L8.out.frame f9 (fun _ _ => id)
          have R9 : Hid (Row w9 X 0 got ∧ Row w9 (X + 2) 0 Y) := ⟨f9.row G8.out id, f9.row Y8.out id⟩
          clear hb9 f9 h1 e1 h2 e2 L8 G8 Y8 S8
          go_upto_region 16 with fail
          obtain ⟨W10, hW10, B, hB, L10, G10, Y10, E10⟩ : ∃ W10, W10 = w9.alloc (.cells (rv E).toArray 22) ∧ ∃ B, B = w9.heap.size ∧ Hid (LS w N xs opc key Y W10) ∧ Hid (Row W10 X 0 got) ∧ Hid (Row W10 (X + 2) 0 Y) ∧ Hid (Row W10 B 0 E) :=
            ⟨_, rfl, _, rfl, L9.out.alloc _, R9.out.1.alloc _, R9.out.2.alloc _, row_new w9 22 E⟩
          rw [← hW10, ← hB]
          clear hW10 hB L9 R9
          go_wp2_with fail
          go_loopw [15] (fun i wr => ∃ k m : Nat, k ≤ 6 ∧ i = .int .i64 k ∧ wr = W10.drewN m) (fun i _ => 6 - (intOf i).toNat)
          case atStart => exact ⟨0, 0, by omega, rfl, rfl⟩
          case round =>
            obtain ⟨k, m, hk, rfl, rfl⟩ := hrel
            by_cases hlt : k < 6
            · have hi0 : (0 : Int) ≤ (k : Int) := by omega
              have hi1 : (k : Int) < 6 := by omega
              have hi2 : (k : Int) < 16 := by omega
              have c1 := G10.out.cellD k (by omega)
              have c2 := E10.out.cellD k (by omega)
              have c3 := L10.out.ro.cellD k (by omega)
              rw [HO5.out k hlt] at c1
              generalize E.getD k 0 = ea at c1 c2
              generalize opc.getD k 0 = oa at c1 c3
              go_wp2_with fail
              go_quiet (fail)
              go_wp2
              go_roundw
              case rel => exact ⟨k + 1, _, by omega, by go_num, rfl⟩
              case measure => simp [intOf]; omega
            · have c1 : W10.cell? ⟨N + 3, 16, none⟩ = some (.int .i64 1) := L10.out.mil.calls
              have R1 : Hid (Row W10 (N + 3) 17 Y) := L10.out.mil.ri
              have R2 : Hid (Row W10 (X + 2) 0 Y) := Y10.out
              have q := fun (w : World) => eq_rows 9998 w Y Ybad.underlying22 lY
              have HB : Hid (Below N w W10) := L10.out.b
              clear L10 G10 Y10 E10 HO5
              go_wp2_with fail
              refine wp_region_quiet_lit (by kernel_rfl) (by kernel_rfl) ?_
              repeat (quiet_step (fail))
              refine BigFrame.wpQuiet_want rfl (fun K hK => quiet_row rfl rfl lY ?_ (hK _ ?_))
              · rintro w' ⟨n, rfl⟩; exact R1.out
              refine BigFrame.wpQuiet_want rfl (fun K hK => quiet_row rfl rfl lY ?_ (hK _ ?_))
              · rintro w' ⟨n, rfl⟩; exact R2.out
              repeat (quiet_step (fail))
              refine wpQuiet_nil ?_
              intro _ hw'
              obtain ⟨nq, hw''⟩ := hw'
              subst hw''
              go_wp2
              go_ret
              exact ⟨rfl, by have := below_drewN (below_drewN HB.out m) nq; rw [HN.out] at this; exact this⟩

end Go.Proofs.YbulkcsgsDoor
