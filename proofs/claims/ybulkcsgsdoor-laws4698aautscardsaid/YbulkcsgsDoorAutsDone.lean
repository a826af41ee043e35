/-
  LawS4698AAuts: THE ROW AND THE TIED CARD.
-/
import Derived.Test.YbulkcsgsDoorModelDone
import Derived.Test.YbulkcsgsDoorAutsLaw
import Derived.Carry
namespace Go.Proofs.YbulkcsgsDoor
open Go.ChangeShapes Go.WideShapes Go.ChangeAt Go.RowKit

theorem c31 : Ybad.prog.cellsOf 31 = 6 := by kernel_rfl
theorem c43 : Ybad.prog.cellsOf 43 = 2 := by kernel_rfl
theorem gAMF : Ybad.prog.globalNamed (Rows.lawS4698AAutsSpec.vars.getLastD default) = some 0 := by kernel_rfl
theorem tAMF : (Ybad.prog.globals[0]?).map (·.type) = some 43 := by kernel_rfl
theorem door_met2 (os : Os) (args : Array Value) : laidMetH Ybad.prog Rows.lawS4698AAutsRow.laid ((World.doorLaid Ybad.prog 400 os).forCall (fun _ _ => 0) ⟨#[], args, []⟩).memory :=
  laidMetH_of_parts3 (fuel := 8) (laidMet_of_run' 8 (by kernel_rfl) (by kernel_rfl)) (by kernel_rfl) (by kernel_rfl)

/-- resyncAMF: its two cells. -/
theorem amf_cells {W : World} {n : String} {cs : Array Value} {fuel : Nat} {p : List MemPlace} {enc : TypeId × Value → Unit} {base : Nat} {sp : Nat → Bool} {held : Bool} (hg : Ybad.prog.globalNamed n = some 0) (hv : W.var? Ybad.prog n = some cs)
    (hd : DataW.trod enc Ybad.prog W base sp held fuel 43 cs.toList = some (Rows.laid_example_com_roamkey_roamkey_resyncAMF, p)) : W.rangeAt 0 0 (rv [0, 0]) := by
  obtain ⟨xs, m, rfl, hx, hlen, hn, hel⟩ := DataW.trod_array Ybad.underlying43 hd
  obtain ⟨l⟩ := cs
  have hlen' : l.length = 2 := by rw [← c43]; exact hlen
  obtain ⟨c0, c1, rfl⟩ : ∃ c0 c1, l = [c0, c1] := by
    match l, hlen' with
    | [c0, c1], _ => exact ⟨c0, c1, rfl⟩
  rw [c5] at hel
  have h0 := hel 0 (by decide)
  have h1 := hel 1 (by decide)
  simp only [Prod.mk.injEq] at hx
  obtain ⟨x0, x1, rfl⟩ : ∃ x0 x1, xs = [x0, x1] := by
    match xs, hn with
    | [x0, x1], _ => exact ⟨x0, x1, rfl⟩
  obtain ⟨k0, e0, rfl, _⟩ := DataW.trod_int Ybad.underlying5 h0
  obtain ⟨k1, e1, rfl, _⟩ := DataW.trod_int Ybad.underlying5 h1
  have hx1 := hx.1
  simp [Rows.laid_example_com_roamkey_roamkey_resyncAMF] at hx1
  simp at e0 e1
  have a0 : W.cell? ⟨0, 0, none⟩ = some c0 := by simpa using World.var?_cell hg hv 0
  have a1 : W.cell? ⟨0, 1, none⟩ = some c1 := by simpa using World.var?_cell hg hv 1
  rw [e0, ← hx1.1] at a0
  rw [e1, ← hx1.2] at a1
  intro j v hj
  match j, hj with
  | 0, hj => obtain rfl := Option.some.inj hj; exact a0
  | 1, hj => obtain rfl := Option.some.inj hj; exact a1

theorem of_laid2 {W : World} (h : laidMetH Ybad.prog Rows.lawS4698AAutsRow.laid W) : (W.cell? ⟨1, 10, none⟩ = some (.int .u8 12) ∧ W.cell? ⟨1, 11, none⟩ = some (.int .u8 8) ∧ W.cell? ⟨1, 2, none⟩ = some (.int .u8 8) ∧ W.cell? ⟨1, 3, none⟩ = some (.int .u8 0)) ∧ W.rangeAt 0 0 (rv [0, 0]) := by
  rw [MakeChecks.laidMetH_plain _ _ _ (by kernel_rfl)] at h
  obtain ⟨ps, ⟨g0, t0, cs0, f0, p0, q0, hg0, ht0, hv0, hd0, ⟨g1, t1, cs1, f1, p1, q1, hg1, ht1, hv1, hd1, _, _⟩, _⟩, _, _⟩ := h
  obtain rfl := Option.some.inj (gRC.symm.trans hg0)
  obtain rfl := Option.some.inj (tRC.symm.trans ht0)
  obtain rfl := Option.some.inj (gAMF.symm.trans hg1)
  obtain rfl := Option.some.inj (tAMF.symm.trans ht1)
  exact ⟨table_cells hg0 hv0 hd0, amf_cells hg1 hv1 hd1⟩

set_option maxRecDepth 100000 in
theorem auts_lifted (os : Os) (started : os.Started) (H : Type) (enc : TypeId × Value → H) :
    ReturnsInHanded {} Ybad.checked os 4 .any (fun w args => (Rows.lawS4698AAutsSpec.pre enc Ybad.prog Ybad.f4 [] false w args ∧ laidMetH Ybad.prog Rows.lawS4698AAutsRow.laid w) ∧ sizedMet enc Ybad.prog Ybad.f4 (OpenSpec.ofChange Rows.lawS4698AAutsSpec) false w args)
      (Rows.lawS4698AAutsSpec.post enc Ybad.prog Ybad.f4 false true false false) := by
  refine returnsInHanded_of_change_and (C := Ybad.checked) (X := fun w _ => laidMetH Ybad.prog Rows.lawS4698AAutsRow.laid w) (fun _ _ _ hh h => h.of_heap hh) own started (by kernel_rfl) Ybad.func4
    (ChangeSpec.witness_shaped (enc := enc) (C := Ybad.checked) (os := os) (X := fun w _ => laidMetH Ybad.prog Rows.lawS4698AAutsRow.laid w) false (World.doorLaid Ybad.prog 400 os) #[.agg (rv (zl 16)).toArray, .agg (rv (zl 16)).toArray, .agg (rv (zl 16)).toArray, .agg (rv (zl 6)).toArray] 8 rfl (World.shaped_of_RefB (by kernel_rfl) (by kernel_rfl)) (by kernel_rfl) (by kernel_rfl) (by kernel_rfl) (door_met2 os _)) ?_
  intro W base args ds gs before hval0 hW _ _ hL _
  have hval : ∀ (j : Nat) t v, Ybad.f4.params[j]? = some t → args[j]? = some v → Value.okWide Ybad.prog W .any base t v := hval0
  have hW' := hW
  obtain ⟨p, q, hA0, hV0, rfl, hfz, hnd⟩ := hW
  have hA : DataW.TrodAll enc Ybad.prog W 0 (fun _ => true) true Ybad.f4.params.toList args.toList ds p := hA0
  rw [Ybad.params4] at hA hval
  obtain ⟨v0, v1, v2, v3, d0, d1, d2, d3, p0, p1, p2, p3, rfl, rfl, rfl, h0, h1, h2, h3⟩ := trodAll_four hA
  have hV : DataW.TrodVars enc Ybad.prog W (fun _ => true) Rows.lawS4698AAutsSpec.vars gs q := hV0
  obtain ⟨g, g', rfl⟩ : ∃ g g', gs = [g, g'] := by
    have h := hV
    match gs, h with
    | [g, g'], _ => exact ⟨g, g', rfl⟩
  have lt0 : ∀ x ∈ p0, x.block < W.heap.size := by obtain ⟨m, hm⟩ := h0; exact DataW.trod_lt m _ _ _ hm
  have lt1 : ∀ x ∈ p1, x.block < W.heap.size := by obtain ⟨m, hm⟩ := h1; exact DataW.trod_lt m _ _ _ hm
  have lt2 : ∀ x ∈ p2, x.block < W.heap.size := by obtain ⟨m, hm⟩ := h2; exact DataW.trod_lt m _ _ _ hm
  have lt3 : ∀ x ∈ p3, x.block < W.heap.size := by obtain ⟨m, hm⟩ := h3; exact DataW.trod_lt m _ _ _ hm
  obtain ⟨xs, rfl, lx⟩ := open_arr Ybad.underlying22 c22 (hval 0 22 v0 rfl rfl) h0
  obtain ⟨opc, rfl, lo⟩ := open_arr Ybad.underlying22 c22 (hval 1 22 v1 rfl rfl) h1
  obtain ⟨key, rfl, lk⟩ := open_arr Ybad.underlying22 c22 (hval 2 22 v2 rfl rfl) h2
  obtain ⟨sq, rfl, ls⟩ := open_arr Ybad.underlying31 c31 (hval 3 31 v3 rfl rfl) h3
  obtain ⟨⟨g10, g11, g2, g3⟩, ha⟩ := of_laid2 hL
  clear hA0 hval0
  refine (auts4 xs opc key sq [0, 0] W lx lo lk ls ha rfl g10 g11 g2 g3).mono fun e W' ⟨he, bel⟩ => ?_
  subst he
  exact ⟨_, rfl, _, _, _, [], _, _, hW', trodAll_mk1 (shut_bool Ybad.underlying4 _), trodAll_mk4 (Below.trod laidOut (by kernel_rfl) (of_decide_eq_true (by kernel_rfl)) h0 bel lt0) (Below.trod laidOut (by kernel_rfl) (of_decide_eq_true (by kernel_rfl)) h1 bel lt1) (Below.trod laidOut (by kernel_rfl) (of_decide_eq_true (by kernel_rfl)) h2 bel lt2) (Below.trod laidOut (by kernel_rfl) (of_decide_eq_true (by kernel_rfl)) h3 bel lt3), Below.trodVars laidOut bel (by kernel_rfl) hV, bel.frame _, fun h => by cases h⟩

theorem auts_holds : Rows.LawS4698AAutsSaid :=
  OpenClaim.holds_of_wide 4 Ybad.f4 rfl rfl rfl rfl rfl rfl rfl ⟨rfl, rfl, rfl, rfl, rfl⟩ rfl rfl rfl rfl rfl (by kernel_rfl) Ybad.func4 (by kernel_rfl)
    (of_decide_eq_true (by kernel_rfl)) (by unfold Func.isWrapper; rw [if_neg (of_decide_eq_false (by kernel_rfl))]; exact ⟨rfl, rfl⟩)
    (fun os started H enc _ => auts_lifted os started H enc)

/-- THE STATEMENT. -/
theorem auts_card : Rows.LawS4698AAutsCardSaid :=
  Claim7.holds_tied_plain_at .later [] [.data, .widerDeep] true _ false
    auts_holds (fun _ h => by cases h) (by kernel_rfl) (fun _ h => by cases h) lawS4698AAuts_row_tie rfl ⟨rfl, rfl⟩ (by kernel_rfl) rfl
    (fun f fn hf hfn => by
      obtain rfl : f = 4 := Option.some.inj ((show Ybad.prog.funcNamed Rows.lawS4698AAutsRow.func = some 4 by kernel_rfl).symm.trans hf) |>.symm
      obtain rfl : fn = Ybad.f4 := (Option.some.inj (Ybad.func4.symm.trans hfn)).symm
      exact ⟨by kernel_rfl, fun j t ht => by
        rw [Ybad.params4] at ht
        have hm : t ∈ [22, 22, 22, 31] := by simpa using Array.mem_of_getElem? ht
        have hall : ([22, 22, 22, 31].all fun u => !Ybad.prog.wantsStandIn u) = true := by kernel_rfl
        exact (show Ybad.prog.wantsStandIn t = false by simpa using List.all_eq_true.1 hall t hm)⟩)
    (by kernel_rfl)

end Go.Proofs.YbulkcsgsDoor
