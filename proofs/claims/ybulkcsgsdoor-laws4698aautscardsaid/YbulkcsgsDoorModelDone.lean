/-
  LawS4698AModel: THE ROW AND THE TIED CARD.
-/
import Derived.Test.YbulkcsgsDoorCards
import Derived.Test.YbulkcsgsDoorTie
import Derived.Test.YbulkcsgsDoorModel
import Derived.ProofKit
import Derived.LaidMore
import Derived.OpenShut
import Derived.OpenVars
import Derived.ChangeSame
import Derived.ChangeOld
import Derived.Stop.Joined
import Derived.MakeChecks
import Derived.SevenTiedAt
namespace Go.Proofs.YbulkcsgsDoor
open Go.ChangeShapes Go.WideShapes Go.ChangeAt Go.RowKit

theorem own : ownKnob Ybad.prog.godebug = none := by kernel_rfl
theorem laidOut : laidOutB Ybad.prog = true := by kernel_rfl
theorem gRC : Ybad.prog.globalNamed (Rows.lawS4698AModelSpec.vars.headD default) = some 1 := by kernel_rfl
theorem tRC : (Ybad.prog.globals[1]?).map (·.type) = some 47 := by kernel_rfl
theorem c47 : Ybad.prog.cellsOf 47 = 12 := by kernel_rfl
theorem c46 : Ybad.prog.cellsOf 46 = 2 := by kernel_rfl
theorem c5 : Ybad.prog.cellsOf 5 = 1 := by kernel_rfl
theorem c22 : Ybad.prog.cellsOf 22 = 16 := by kernel_rfl

/-- The door's own heap meets the condition. -/
theorem door_met (os : Os) (args : Array Value) : laidMetH Ybad.prog Rows.lawS4698AModelRow.laid ((World.doorLaid Ybad.prog 400 os).forCall (fun _ _ => 0) ⟨#[], args, []⟩).memory :=
  laidMetH_of_parts3 (fuel := 8) (laidMet_of_run' 8 (by kernel_rfl) (by kernel_rfl)) (by kernel_rfl) (by kernel_rfl)

theorem list12 (l : List Value) (h : l.length = 12) : ∃ c0 c1 c2 c3 c4 c5 c6 c7 c8 c9 c10 c11, l = [c0, c1, c2, c3, c4, c5, c6, c7, c8, c9, c10, c11] := by
  match l, h with
  | [c0, c1, c2, c3, c4, c5, c6, c7, c8, c9, c10, c11], _ => exact ⟨c0, c1, c2, c3, c4, c5, c6, c7, c8, c9, c10, c11, rfl⟩

/-- One pair of the table: its two cells. -/
theorem pair_cells {W : World} {fuel : Nat} {a b : Value} {y : DataW Unit × List MemPlace} {r c : Int} {enc : TypeId × Value → Unit} {base : Nat} {sp : Nat → Bool} {held : Bool} (h : DataW.trod enc Ybad.prog W base sp held fuel 46 [a, b] = some y) (hy : y.1 = .agg [.lit (.int .u8 r), .lit (.int .u8 c)]) : a = .int .u8 r ∧ b = .int .u8 c := by
  obtain ⟨y0, y1, n, rfl, _, h0, h1⟩ := trod_struct2 Ybad.underlying46 h
  rw [c5] at h0 h1
  obtain ⟨k0, e0, rfl, _⟩ := DataW.trod_int Ybad.underlying5 h0
  obtain ⟨k1, e1, rfl, _⟩ := DataW.trod_int Ybad.underlying5 h1
  simp at e0 e1 hy
  exact ⟨by rw [e0, hy.1], by rw [e1, hy.2]⟩

/-- WHAT THE TABLE's READING GIVES: the cells of the pairs 1 and 5. -/
theorem table_cells {W : World} {n : String} {cs : Array Value} {fuel : Nat} {p : List MemPlace} {enc : TypeId × Value → Unit} {base : Nat} {sp : Nat → Bool} {held : Bool} (hg : Ybad.prog.globalNamed n = some 1) (hv : W.var? Ybad.prog n = some cs)
    (hd : DataW.trod enc Ybad.prog W base sp held fuel 47 cs.toList = some (Rows.laid_example_com_roamkey_roamkey_milenageRC, p)) :
    W.cell? ⟨1, 10, none⟩ = some (.int .u8 12) ∧ W.cell? ⟨1, 11, none⟩ = some (.int .u8 8) ∧ W.cell? ⟨1, 2, none⟩ = some (.int .u8 8) ∧ W.cell? ⟨1, 3, none⟩ = some (.int .u8 0) := by
  obtain ⟨xs, m, rfl, hx, hlen, hn, hel⟩ := DataW.trod_array Ybad.underlying47 hd
  obtain ⟨l⟩ := cs
  have hlen' : l.length = 12 := by rw [← c47]; exact hlen
  obtain ⟨c0, c1, c2, c3, c4, c5, c6, c7, c8, c9, c10, c11, rfl⟩ := list12 l hlen'
  rw [c46] at hel
  have h5 := hel 5 (by decide)
  have h1 := hel 1 (by decide)
  simp only [Prod.mk.injEq] at hx
  obtain ⟨x0, x1, x2, x3, x4, x5, rfl⟩ : ∃ x0 x1 x2 x3 x4 x5, xs = [x0, x1, x2, x3, x4, x5] := by
    match xs, hn with
    | [x0, x1, x2, x3, x4, x5], _ => exact ⟨x0, x1, x2, x3, x4, x5, rfl⟩
  have hx1 : x1.1 = .agg [.lit (.int .u8 8), .lit (.int .u8 0)] ∧ x5.1 = .agg [.lit (.int .u8 12), .lit (.int .u8 8)] := by
    have := hx.1
    simp [Rows.laid_example_com_roamkey_roamkey_milenageRC] at this
    exact ⟨this.2.1.symm, this.2.2.2.2.2.symm⟩
  obtain ⟨e10, e11⟩ := pair_cells h5 hx1.2
  obtain ⟨e2, e3⟩ := pair_cells h1 hx1.1
  refine ⟨?_, ?_, ?_, ?_⟩
  · rw [← e10]; simpa using World.var?_cell hg hv 10
  · rw [← e11]; simpa using World.var?_cell hg hv 11
  · rw [← e2]; simpa using World.var?_cell hg hv 2
  · rw [← e3]; simpa using World.var?_cell hg hv 3

theorem of_laid {W : World} (h : laidMetH Ybad.prog Rows.lawS4698AModelRow.laid W) : W.cell? ⟨1, 10, none⟩ = some (.int .u8 12) ∧ W.cell? ⟨1, 11, none⟩ = some (.int .u8 8) := by
  rw [MakeChecks.laidMetH_plain _ _ _ (by kernel_rfl)] at h
  obtain ⟨ps, ⟨g0, t0, cs0, f0, p0, q0, hg0, ht0, hv0, hd0, _, _⟩, _, _⟩ := h
  obtain rfl := Option.some.inj (gRC.symm.trans hg0)
  obtain rfl := Option.some.inj (tRC.symm.trans ht0)
  obtain ⟨a, b, _, _⟩ := table_cells hg0 hv0 hd0
  exact ⟨a, b⟩

/-- AN ARRAY OF BYTES BY VALUE: it is a row of bytes. -/
theorem open_arr {H : Type} {enc : TypeId × Value → H} {W : World} {base n t : Nat} {v : Value} {d : DataW H} {p : List MemPlace} (hu : Ybad.prog.underlying t = some (.array n 5)) (hc : Ybad.prog.cellsOf t = n)
    (hv : Value.okWide Ybad.prog W .any base t v) (h : DataW.Trod enc Ybad.prog W 0 (fun _ => true) true t v d p) : ∃ xs : List UInt8, v = .agg (rv xs).toArray ∧ xs.length = n := by
  obtain ⟨cs, rfl, hsz, _⟩ : ∃ cs, v = .agg cs ∧ cs.size = Ybad.prog.cellsOf t ∧ Row.okWide Ybad.prog W .any base t cs := by
    simpa [Value.okWide, hu] using hv
  obtain ⟨fuel, hf⟩ := h
  obtain ⟨ys, m, rfl, hx, hlen, hn, hel⟩ := DataW.trod_array hu hf
  obtain ⟨l⟩ := cs
  have hl : l.length = n := by rw [← hc]; exact hsz
  have hb : ∀ i (hi : i < l.length), ∃ b : UInt8, l[i] = bv b := by
    intro i hi
    have h1 := hel i (by omega)
    have hy : i < ys.length := by omega
    rw [c5, List.getElem?_eq_getElem hy] at h1
    obtain ⟨k, e, _, wf⟩ := DataW.trod_int Ybad.underlying5 h1
    have e' : l[i] = .int .u8 k := by
      have : (List.drop (i * 1) l).take 1 = [l[i]] := by
        rw [Nat.mul_one, List.drop_eq_getElem_cons hi]; rfl
      have e2 : (List.drop (i * 1) l).take 1 = [Value.int .u8 k] := e
      rw [this] at e2
      simpa using e2
    have hk := bounds_u8 wf
    refine ⟨UInt8.ofNat k.toNat, ?_⟩
    rw [e', bv, UInt8.toNat_ofNat']
    congr 1
    omega
  have hex : ∀ (l : List Value), (∀ i (hi : i < l.length), ∃ b : UInt8, l[i] = bv b) → ∃ xs, l = rv xs := by
    intro l
    induction l with
    | nil => exact fun _ => ⟨[], rfl⟩
    | cons a r ih =>
      intro h
      obtain ⟨b, hb⟩ := h 0 (by simp)
      obtain ⟨xs, hxs⟩ := ih (fun i hi => by have := h (i + 1) (by simp; omega); simpa using this)
      exact ⟨b :: xs, by simp at hb; rw [hb, hxs]; rfl⟩
  obtain ⟨xs, rfl⟩ := hex l hb
  exact ⟨xs, rfl, by rw [← hl, rv_length]⟩

set_option maxRecDepth 100000 in
theorem model_lifted (os : Os) (started : os.Started) (H : Type) (enc : TypeId × Value → H) :
    ReturnsInHanded {} Ybad.checked os 3 .any (fun w args => (Rows.lawS4698AModelSpec.pre enc Ybad.prog Ybad.f3 [] false w args ∧ laidMetH Ybad.prog Rows.lawS4698AModelRow.laid w) ∧ sizedMet enc Ybad.prog Ybad.f3 (OpenSpec.ofChange Rows.lawS4698AModelSpec) false w args)
      (Rows.lawS4698AModelSpec.post enc Ybad.prog Ybad.f3 false true false false) := by
  refine returnsInHanded_of_change_and (C := Ybad.checked) (X := fun w _ => laidMetH Ybad.prog Rows.lawS4698AModelRow.laid w) (fun _ _ _ hh h => h.of_heap hh) own started (by kernel_rfl) Ybad.func3
    (ChangeSpec.witness_shaped (enc := enc) (C := Ybad.checked) (os := os) (X := fun w _ => laidMetH Ybad.prog Rows.lawS4698AModelRow.laid w) false (World.doorLaid Ybad.prog 400 os) #[.agg (rv (zl 16)).toArray, .agg (rv (zl 16)).toArray, .agg (rv (zl 16)).toArray] 8 rfl (World.shaped_of_RefB (by kernel_rfl) (by kernel_rfl)) (by kernel_rfl) (by kernel_rfl) (by kernel_rfl) (door_met os _)) ?_
  intro W base args ds gs before hval0 hW _ _ hL _
  have hval : ∀ (j : Nat) t v, Ybad.f3.params[j]? = some t → args[j]? = some v → Value.okWide Ybad.prog W .any base t v := hval0
  have hW' := hW
  obtain ⟨p, q, hA0, hV0, rfl, hfz, hnd⟩ := hW
  have hA : DataW.TrodAll enc Ybad.prog W 0 (fun _ => true) true Ybad.f3.params.toList args.toList ds p := hA0
  rw [Ybad.params3] at hA hval
  obtain ⟨v0, v1, v2, d0, d1, d2, p0, p1, p2, rfl, rfl, rfl, h0, h1, h2⟩ := trodAll_three hA
  have hV : DataW.TrodVars enc Ybad.prog W (fun _ => true) Rows.lawS4698AModelSpec.vars gs q := hV0
  obtain ⟨g, rfl⟩ : ∃ g, gs = [g] := by
    have h := hV
    match gs, h with
    | [g], _ => exact ⟨g, rfl⟩
  have lt0 : ∀ x ∈ p0, x.block < W.heap.size := by obtain ⟨m, hm⟩ := h0; exact DataW.trod_lt m _ _ _ hm
  have lt1 : ∀ x ∈ p1, x.block < W.heap.size := by obtain ⟨m, hm⟩ := h1; exact DataW.trod_lt m _ _ _ hm
  have lt2 : ∀ x ∈ p2, x.block < W.heap.size := by obtain ⟨m, hm⟩ := h2; exact DataW.trod_lt m _ _ _ hm
  obtain ⟨xs, rfl, lx⟩ := open_arr Ybad.underlying22 c22 (hval 0 22 v0 rfl rfl) h0
  obtain ⟨opc, rfl, lo⟩ := open_arr Ybad.underlying22 c22 (hval 1 22 v1 rfl rfl) h1
  obtain ⟨key, rfl, lk⟩ := open_arr Ybad.underlying22 c22 (hval 2 22 v2 rfl rfl) h2
  obtain ⟨g10, g11⟩ := of_laid hL
  clear hA0 hval0
  refine (model3 xs opc key W lx lo lk g10 g11).mono fun e W' ⟨he, bel⟩ => ?_
  subst he
  exact ⟨_, rfl, _, _, _, [], _, _, hW', trodAll_mk1 (shut_bool Ybad.underlying4 _), trodAll_mk3 (Below.trod laidOut (by kernel_rfl) (of_decide_eq_true (by kernel_rfl)) h0 bel lt0) (Below.trod laidOut (by kernel_rfl) (of_decide_eq_true (by kernel_rfl)) h1 bel lt1) (Below.trod laidOut (by kernel_rfl) (of_decide_eq_true (by kernel_rfl)) h2 bel lt2), Below.trodVars laidOut bel (by kernel_rfl) hV, bel.frame _, fun h => by cases h⟩

theorem model_holds : Rows.LawS4698AModelSaid :=
  OpenClaim.holds_of_wide 3 Ybad.f3 rfl rfl rfl rfl rfl rfl rfl ⟨rfl, rfl, rfl, rfl, rfl⟩ rfl rfl rfl rfl rfl (by kernel_rfl) Ybad.func3 (by kernel_rfl)
    (of_decide_eq_true (by kernel_rfl)) (by unfold Func.isWrapper; rw [if_neg (of_decide_eq_false (by kernel_rfl))]; exact ⟨rfl, rfl⟩)
    (fun os started H enc _ => model_lifted os started H enc)

/-- THE STATEMENT. -/
theorem model_card : Rows.LawS4698AModelCardSaid :=
  Claim7.holds_tied_plain_at .later [] [.data] true _ false
    model_holds (fun _ h => by cases h) (by kernel_rfl) (fun _ h => by cases h) lawS4698AModel_row_tie rfl ⟨rfl, rfl⟩ (by kernel_rfl) rfl
    (fun f fn hf hfn => by
      obtain rfl : f = 3 := Option.some.inj ((show Ybad.prog.funcNamed Rows.lawS4698AModelRow.func = some 3 by kernel_rfl).symm.trans hf) |>.symm
      obtain rfl : fn = Ybad.f3 := (Option.some.inj (Ybad.func3.symm.trans hfn)).symm
      exact ⟨by kernel_rfl, fun j t ht => by
        rw [Ybad.params3] at ht
        have hm : t ∈ [22, 22, 22] := by simpa using Array.mem_of_getElem? ht
        have hall : ([22, 22, 22].all fun u => !Ybad.prog.wantsStandIn u) = true := by kernel_rfl
        exact (show Ybad.prog.wantsStandIn t = false by simpa using List.all_eq_true.1 hall t hm)⟩)
    (by kernel_rfl)

end Go.Proofs.YbulkcsgsDoor
