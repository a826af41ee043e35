/-
  (*Milenage).out (function 8) for OUT1: x = IN1, pre = TEMP. What it is made of does not matter here: 16 bytes come back, and all but the stand-in stands.
-/
import Derived.Test.YbulkcsgsDoorOut
namespace Go.Proofs.YbulkcsgsDoor
open Go.RowKit
attribute [local go_sem] xor_bytes vblk_pointer voff_pointer bytesOf_rv isRv_rv zl_length has_drewN has_drew read_drewN read_drew has_new read_new has_old read_old
attribute [local go_sem ↓] run_loadVar22 exec_load22 exec_store22 exec_alloc22 Go.wp_at_zero Go.wp_at_succ

set_option maxHeartbeats 1000000 in
set_option maxRecDepth 100000 in
theorem out1 (bm bb bp : Nat) (opc key inn xs ps : List UInt8) (c : Int) (w : World) (M : Mil w bm bb opc key inn c) (hc1 : 0 ≤ c) (hc2 : c ≤ 1000) (lx : xs.length = 16)
    (hp : Row w bp 0 ps) (lp : ps.length = 16) (hpb : bp ≠ bb) (g10 : w.cell? ⟨1, 2, none⟩ = some (.int .u8 8)) (g11 : w.cell? ⟨1, 3, none⟩ = some (.int .u8 0)) (hg : bb ≠ 1) :
    Calls Ybad.prog 8 #[.pointer (some ⟨bm, 0, none⟩), .int .i64 1, .agg (rv xs).toArray, .pointer (some ⟨bp, 0, none⟩)] w fun e w' =>
      ∃ o y, e = .returned (.agg (rv o).toArray) ∧ o.length = 16 ∧ Fr (fun i => i = bb) w w' ∧ Mil w' bm bb opc key y (c + 1) := by
  have HP : Hid (Row w bp 0 ps) := hp
  clear hp
  have HM : Hid (Mil w bm bb opc key inn c) := M
  have nbm : bm ≠ bb := M.ne
  have G : Hid (w.cell? ⟨1, 2, none⟩ = some (.int .u8 8) ∧ w.cell? ⟨1, 3, none⟩ = some (.int .u8 0)) := ⟨g10, g11⟩
  clear M g10 g11
  go_enter Ybad.func8, Ybad.ntmps8
  go_upto_region 1 with fail
  -- the world W: x boxed, the result's slot
  obtain ⟨W, hW, N, hN, f0, r0, z0, hs0⟩ : ∃ W, W = (w.alloc (.cells (rv xs).toArray 22)).alloc (.cells (rv (zl 16)).toArray 22) ∧ ∃ N, N = w.heap.size ∧ Fr (fun i => i = bb) w W ∧ Row W N 0 xs ∧ Row W (N + 1) 0 (zl 16) ∧ W.heap.size = N + 2 :=
    ⟨_, rfl, _, rfl, ((Fr.refl _ _).alloc _).alloc _, (row_new w 22 xs).alloc _, by simpa using row_new (w.alloc (.cells (rv xs).toArray 22)) 22 (zl 16), by simp⟩
  rw [← hW, ← hN]
  have M0 := HM.out.frame (((Fr.refl (fun _ => False) w).alloc (.cells (rv xs).toArray 22)).alloc (.cells (rv (zl 16)).toArray 22)) id id
  rw [← hW] at M0
  have hlt : bm < N ∧ bb < N ∧ 1 < N := by
    have h1 := HM.out.ro.lt; have h2 := HM.out.rk.lt; have h3 := World.block_lt_of_cell? _ _ G.out.1
    simp at h3; omega
  have G0 : Hid (W.cell? ⟨1, 2, none⟩ = some (.int .u8 8) ∧ W.cell? ⟨1, 3, none⟩ = some (.int .u8 0)) := ⟨f0.cell_some G.out.1 (by simp; omega), f0.cell_some G.out.2 (by simp; omega)⟩
  have HN : Hid (N = w.heap.size) := hN
  have F0 : Hid (Fr (fun i => i = bb) w W) := f0
  have R0 : Hid (Row W N 0 xs ∧ Row W (N + 1) 0 (zl 16)) := ⟨r0, z0⟩
  have MM : Hid (Mil W bm bb opc key inn c) := M0
  clear hW hN f0 r0 z0 M0 G HM
  have S0 : Hid (W.heap.size = N + 2) := hs0
  clear hs0
  -- x ^= OPc
  go_region_held (fun _ => True) (exact True.intro)
    (first | (go_at_call 10; refine (xor_rel N 0 bm 1 16 16 16 xs opc _ (by omega) (by omega) (by omega) (by omega) ?_ ?_ lx MM.out.lo (by omega)).mono ?_; (exact R0.out.1); (exact MM.out.ro); rintro e w1 ⟨rfl, h1, h2, h3⟩))
  have M1 : Hid (Mil w1 bm bb opc key inn c) := MM.out.drew.frame h1 (by omega) (by omega)
  have F1 : Hid (Fr (fun i => i = bb) w w1) := F0.out.drew.then h1 (fun i hi e => by have := HN.out; omega)
  have R1 : Hid (Row w1 N 0 (xorL xs opc) ∧ Row w1 (N + 1) 0 (zl 16)) := ⟨h3, h1.row (w := W.drew) R0.out.2 (by omega)⟩
  have g10 : w1.cell? ⟨1, 2, none⟩ = some (.int .u8 8) := h1.cell_some (w := W.drew) G0.out.1 (by simp; omega)
  have g11 : w1.cell? ⟨1, 3, none⟩ = some (.int .u8 0) := h1.cell_some (w := W.drew) G0.out.2 (by simp; omega)
  have hs1 : w1.heap.size = N + 2 := h2.trans S0.out
  clear h1 h2 h3 MM F0 R0 G0 S0 W
  go_upto_region 4 with fail
  have lz : (xorL xs opc).length = 16 := by rw [xorL_length, lx, M1.out.lo]; rfl
  obtain ⟨W2, hW2, f2, M2, rx2, rr2, ry2, a2, b2⟩ : ∃ W2, W2 = (w1.alloc (.cells (rv (zl 16)).toArray 22)).alloc (.cells #[.int .u8 8, .int .u8 0] 46) ∧ Fr (fun i => i = bb) w W2 ∧ Mil W2 bm bb opc key inn c ∧ Row W2 N 0 (xorL xs opc) ∧ Row W2 (N + 1) 0 (zl 16) ∧ Row W2 (N + 2) 0 (zl 16) ∧
      W2.cell? ⟨N + 2 + 1, 0, none⟩ = some (.int .u8 8) ∧ W2.cell? ⟨N + 2 + 1, 1, none⟩ = some (.int .u8 0) := by
    refine ⟨_, rfl, (F1.out.alloc _).alloc _, M1.out.frame (((Fr.refl (fun _ => False) w1).alloc _).alloc _) id id, (R1.out.1.alloc _).alloc _, (R1.out.2.alloc _).alloc _, ?_, ?_, ?_⟩
    · have := (row_new w1 22 (zl 16)).alloc (.cells #[.int .u8 8, .int .u8 0] 46)
      rwa [hs1] at this
    · exact cell_new _ _ _ 0 _ rfl _ (by simp [hs1])
    · exact cell_new _ _ _ 1 _ rfl _ (by simp [hs1])
  rw [← hW2]
  generalize hz : xorL xs opc = z at *
  have Z : Hid (xorL xs opc = z) := hz
  clear hz hW2 hs1 g10 g11 M1 F1 R1 w1
  have cp4 : ∀ ty, (Builtin.copy_ #[37, 37] ty #[.slice (some ⟨N + 2, 0, none⟩) 16 16, .slice (some ⟨N, 8, none⟩) 8 8]).run Ybad.prog W2.drew = .ok (goInt 8) (W2.drew.setCells (N + 2) 0 (rv (z.drop 8))) := by
    intro ty
    have h := run_copyN ty W2.drew (N + 2) 0 16 16 N 8 8 8 (z.drop 8) (by simp [lz]) (by simpa using (rx2.drop 8).2) (by simpa [lz, zl] using (ry2.take 8).there)
    simpa [lz] using h
  obtain ⟨f3, M3, rx3, rr3, p3, q3, a3, b3⟩ : Fr (fun i => i = bb) w (W2.drew.setCells (N + 2) 0 (rv (z.drop 8))) ∧ Mil (W2.drew.setCells (N + 2) 0 (rv (z.drop 8))) bm bb opc key inn c ∧ Row (W2.drew.setCells (N + 2) 0 (rv (z.drop 8))) N 0 z ∧ Row (W2.drew.setCells (N + 2) 0 (rv (z.drop 8))) (N + 1) 0 (zl 16) ∧
      Row (W2.drew.setCells (N + 2) 0 (rv (z.drop 8))) (N + 2) 0 (z.drop 8) ∧ Row (W2.drew.setCells (N + 2) 0 (rv (z.drop 8))) (N + 2) 8 (zl 8) ∧
      (W2.drew.setCells (N + 2) 0 (rv (z.drop 8))).cell? ⟨N + 2 + 1, 0, none⟩ = some (.int .u8 8) ∧ (W2.drew.setCells (N + 2) 0 (rv (z.drop 8))).cell? ⟨N + 2 + 1, 1, none⟩ = some (.int .u8 0) := by
    have fW : Fr (fun i => i = N + 2) W2.drew (W2.drew.setCells (N + 2) 0 (rv (z.drop 8))) := (Fr.refl _ _).setCells _ _ _ (fun _ => rfl)
    refine ⟨f2.drew.then fW (fun i hi e => by have := HN.out; omega), M2.drew.frame fW (by omega) (by omega), fW.row (w := W2.drew) rx2 (by omega), fW.row (w := W2.drew) rr2 (by omega), ?_, ?_, fW.cell_some (w := W2.drew) a2 (by simp), fW.cell_some (w := W2.drew) b2 (by simp)⟩
    · exact (Row.take (w := W2.drew) ry2 8).set_same (z.drop 8) (by simp [lz, zl])
    · have := (Row.drop (w := W2.drew) ry2 8).set_apart (N + 2) 0 (rv (z.drop 8)) (.inr (.inr (by simp [rv_length, lz])))
      simpa [zl] using this
  clear M2 rx2 rr2 ry2 b2 f2
  go_region_held (fun w' => w'.cell? ⟨N + 2 + 1, 0, none⟩ = some (.int .u8 8)) (first | exact a2 | exact a3) (fail)
  clear cp4 a2
  generalize W2.drew.setCells (N + 2) 0 (rv (z.drop 8)) = W3 at *
  clear W2
  have cp5 : ∀ ty, (Builtin.copy_ #[37, 37] ty #[.slice (some ⟨N + 2, 8, none⟩) 8 8, .slice (some ⟨N, 0, none⟩) 8 16]).run Ybad.prog W3.drew = .ok (goInt 8) (W3.drew.setCells (N + 2) 8 (rv (z.take 8))) := by
    intro ty
    have h := run_copyN ty W3.drew (N + 2) 8 8 8 N 0 8 16 (z.take 8) (by simp [lz]) (by simpa using (rx3.take 8).2) (by simpa [lz, zl] using q3.there)
    simpa [lz] using h
  obtain ⟨f4, M4, rr4, y4, a4, b4⟩ : Fr (fun i => i = bb) w (W3.drew.setCells (N + 2) 8 (rv (z.take 8))) ∧ Mil (W3.drew.setCells (N + 2) 8 (rv (z.take 8))) bm bb opc key inn c ∧ Row (W3.drew.setCells (N + 2) 8 (rv (z.take 8))) (N + 1) 0 (zl 16) ∧
      Row (W3.drew.setCells (N + 2) 8 (rv (z.take 8))) (N + 2) 0 (rotL 8 z) ∧
      (W3.drew.setCells (N + 2) 8 (rv (z.take 8))).cell? ⟨N + 2 + 1, 0, none⟩ = some (.int .u8 8) ∧ (W3.drew.setCells (N + 2) 8 (rv (z.take 8))).cell? ⟨N + 2 + 1, 1, none⟩ = some (.int .u8 0) := by
    have fW : Fr (fun i => i = N + 2) W3.drew (W3.drew.setCells (N + 2) 8 (rv (z.take 8))) := (Fr.refl _ _).setCells _ _ _ (fun _ => rfl)
    refine ⟨f3.drew.then fW (fun i hi e => by have := HN.out; omega), M3.drew.frame fW (by omega) (by omega), fW.row (w := W3.drew) rr3 (by omega), ?_, fW.cell_some (w := W3.drew) a3 (by simp), fW.cell_some (w := W3.drew) b3 (by simp)⟩
    refine Row.join (Row.set_apart (w := W3.drew) p3 _ _ _ (.inr (.inl (by simp [lz])))) ?_
    have := Row.set_same (w := W3.drew) q3 (z.take 8) (by simp [lz, zl])
    simpa [lz] using this
  have F4 : Hid (Fr (fun i => i = bb) w (W3.drew.setCells (N + 2) 8 (rv (z.take 8)))) := f4
  have M4' : Hid (Mil (W3.drew.setCells (N + 2) 8 (rv (z.take 8))) bm bb opc key inn c) := M4
  have R4 : Hid (Row (W3.drew.setCells (N + 2) 8 (rv (z.take 8))) (N + 1) 0 (zl 16) ∧ Row (W3.drew.setCells (N + 2) 8 (rv (z.take 8))) (N + 2) 0 (rotL 8 z)) := ⟨rr4, y4⟩
  clear f3 M3 rx3 rr3 p3 q3 b3 f4 M4 rr4 y4
  go_upto_region 5 with fail
  go_region_held (fun w' => w'.cell? ⟨N + 2 + 1, 0, none⟩ = some (.int .u8 8)) (first | exact a3 | exact a4) (fail)
  clear cp5 a3
  generalize W3.drew.setCells (N + 2) 8 (rv (z.take 8)) = W4 at *
  clear W3
  go_upto_region 7 with fail
  have lr : (rotL 8 z).length = 16 := by simp [rotL, lz]
  have rp4 : Hid (Row W4 bp 0 ps) := F4.out.row HP.out hpb
  have hbp : bp < N := by have := HP.out.lt; have := HN.out; omega
  go_region_held (fun _ => True) (exact True.intro)
    (first | (go_at_call 10; refine (xor_rel (N + 2) 0 bp 0 16 16 16 (rotL 8 z) ps _ (by omega) (by omega) (by omega) (by omega) ?_ ?_ lr lp (by omega)).mono ?_; (exact R4.out.2); (exact rp4.out); rintro e wq ⟨rfl, h1, h2, h3⟩))
  have bq : wq.cell? ⟨N + 2 + 1, 1, none⟩ = some (.int .u8 0) := h1.cell_some (w := W4.drew) b4 (by simp)
  have ly : (xorL (rotL 8 z) ps).length = 16 := by rw [xorL_length, lr, lp]; rfl
  have Fq : Hid (Fr (fun i => i = bb) w wq) := F4.out.drew.then h1 (fun i hi e => by have := HN.out; omega)
  have Mq : Hid (Mil wq bm bb opc key inn c) := M4'.out.drew.frame h1 (by omega) (by omega)
  have Rq : Hid (Row wq (N + 1) 0 (zl 16) ∧ Row wq (N + 2) 0 (xorL (rotL 8 z) ps)) := ⟨h1.row (w := W4.drew) R4.out.1 (by omega), h3⟩
  clear h1 h2 h3 F4 M4' R4 rp4 a4 b4
  generalize xorL (rotL 8 z) ps = yy at ly Rq
  go_upto_region 8 with fail
  have y15 : wq.cell? ⟨N + 2, 15, none⟩ = some (.int .u8 ((yy.getD 15 0).toNat : Int)) := by
    have := Rq.out.2.cell 15 (by omega)
    simpa [bv, List.getD, List.getElem?_eq_getElem (show 15 < yy.length by omega)] using this
  have z15 : wq.frozen? ⟨N + 2, 15, none⟩ = false := Rq.out.2.1.frozen _
  generalize yy.getD 15 0 = v15 at y15
  obtain ⟨f5, M5, rr5, y5⟩ : Fr (fun i => i = bb) w (wq.setCell ⟨N + 2, 15, none⟩ (.int .u8 (bits .xor .u8 (v15.toNat : Int) 0))) ∧ Mil (wq.setCell ⟨N + 2, 15, none⟩ (.int .u8 (bits .xor .u8 (v15.toNat : Int) 0))) bm bb opc key inn c ∧ Row (wq.setCell ⟨N + 2, 15, none⟩ (.int .u8 (bits .xor .u8 (v15.toNat : Int) 0))) (N + 1) 0 (zl 16) ∧
      Row (wq.setCell ⟨N + 2, 15, none⟩ (.int .u8 (bits .xor .u8 (v15.toNat : Int) 0))) (N + 2) 0 (yy.set 15 (v15 ^^^ 0)) := by
    have fW : Fr (fun i => i = N + 2) wq (wq.setCell ⟨N + 2, 15, none⟩ (.int .u8 (bits .xor .u8 (v15.toNat : Int) 0))) := (Fr.refl _ _).setCell _ _ (fun _ => rfl)
    refine ⟨Fq.out.then fW (fun i hi e => by have := HN.out; omega), Mq.out.frame fW (by omega) (by omega), fW.row Rq.out.1 (by omega), ?_⟩
    have := Rq.out.2.set_one 15 (by omega) (v15 ^^^ 0)
    rw [show Value.int IntKind.u8 (bits BinOp.xor IntKind.u8 (v15.toNat : Int) 0) = bv (v15 ^^^ 0) by rw [bv, ← xor_bytes]; rfl]
    exact this
  clear Fq Mq Rq
  go_upto_region 9 with fail
  clear y15 z15 bq
  generalize wq.setCell ⟨N + 2, 15, none⟩ (.int .u8 (bits .xor .u8 (v15.toNat : Int) 0)) = W5 at *
  have lY : (yy.set 15 (v15 ^^^ 0)).length = 16 := by rw [List.length_set, ly]
  generalize yy.set 15 (v15 ^^^ 0) = y at lY y5
  clear Z ly lz lr
  have bl : W5.cell? ⟨bm, 0, none⟩ = some (.iface 23 (.pointer (some ⟨bb, 0, none⟩))) := M5.blk
  have M5' : Hid (Mil W5 bm bb opc key inn c) := M5
  have F5 : Hid (Fr (fun i => i = bb) w W5) := f5
  have R5 : Hid (Row W5 (N + 1) 0 (zl 16) ∧ Row W5 (N + 2) 0 y) := ⟨rr5, y5⟩
  clear M5 f5 rr5 y5
  go_region_held (fun w' => w'.cell? ⟨bm, 0, none⟩ = some (.iface 23 (.pointer (some ⟨bb, 0, none⟩)))) (first | exact bl | (refine Fr.cell_some (w := W5.drew) (by assumption) bl (by simp; omega)))
    (first | (go_at_call 31; refine (encrypt31 bb (N + 2) 0 (N + 2) 0 16 16 key y inn y c _ ?_ M5'.out.lk ?_ hc1 hc2 ?_ M5'.out.li ?_ lY ?_ lY (by omega) (by omega)).mono ?_; (exact M5'.out.rk); (exact M5'.out.calls); (exact M5'.out.ri); (exact R5.out.2); (exact R5.out.2); rintro e w6 ⟨rfl, h1, h2, h3, h4, h5⟩))
  have M6 : Hid (Mil w6 bm bb opc key y (c + 1)) := ⟨M5'.out.ne, h1.cell_some (w := W5.drew) bl (by simp; omega), h1.row (w := W5.drew) M5'.out.ro (by have := M5'.out.ne; omega), h3, h4, h5, M5'.out.lo, M5'.out.lk, lY⟩
  have F6 : Hid (Fr (fun i => i = bb) w w6) := F5.out.drew.then h1 (fun i hi e => by have := HN.out; omega)
  have R6 : Hid (Row w6 (N + 1) 0 (zl 16) ∧ Row w6 (N + 2) 0 (encL key y)) := ⟨h1.row (w := W5.drew) R5.out.1 (by omega), h2⟩
  clear h1 h2 h3 h4 h5 M5' F5 R5 bl
  go_upto_region 10 with fail
  go_region_held (fun _ => True) (exact True.intro)
    (first | (go_at_call 10; refine (xor_rel (N + 2) 0 bm 1 16 16 16 (encL key y) opc _ (by omega) (by omega) (by omega) (by omega) ?_ ?_ (encL_length key y) M6.out.lo (by omega)).mono ?_; (exact R6.out.2); (exact M6.out.ro); rintro e w7 ⟨rfl, h1, h2, h3⟩))
  have M7 : Hid (Mil w7 bm bb opc key y (c + 1)) := M6.out.drew.frame h1 (by omega) (by omega)
  have F7 : Hid (Fr (fun i => i = bb) w w7) := F6.out.drew.then h1 (fun i hi e => by have := HN.out; omega)
  have rr7 : Row w7 (N + 1) 0 (zl 16) := h1.row (w := w6.drew) R6.out.1 (by omega)
  have ry7 : Row w7 (N + 2) 0 (xorL (encL key y) opc) := h3
  have lo7 : (xorL (encL key y) opc).length = 16 := by rw [xorL_length, encL_length, M6.out.lo]; rfl
  generalize xorL (encL key y) opc = o at ry7 lo7
  clear h1 h2 h3 M6 F6 R6
  have a1 := ry7.has lo7
  have a2 := ry7.read lo7
  have a3 := rr7.has (zl_length 16)
  have RR : Hid (Row w7 (N + 1) 0 (zl 16)) := rr7
  clear rr7 ry7
  go_upto_region 11 with fail
  repeat (first | go_values | go_skip | go_guarded | go_step | go_upon)
  refine bodyPost_ret (results_cell Ybad.results8 (b := N + 1) (o := 0) rfl ((RR.out.set_same o (by rw [lo7, zl_length])).loadVar lo7 Ybad.underlying22 rfl (by kernel_rfl))) rfl ⟨o, y, rfl, lo7, ?_, ?_⟩
  · exact F7.out.setCells _ _ _ (fun h => by have := HN.out; omega)
  · exact M7.out.frame (S := fun i => i = N + 1) ((Fr.refl _ w7).setCells _ _ _ (fun _ => rfl)) (by omega) (by omega)

end Go.Proofs.YbulkcsgsDoor
