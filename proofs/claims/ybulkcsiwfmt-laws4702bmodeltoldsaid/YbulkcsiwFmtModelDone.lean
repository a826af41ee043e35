/-
  LawS4702BModel: THE TOLD CARD. The walk (YbulkcsiwFmtModel.lean), the row's step, the builder's one call.
-/
import Derived.Test.YbulkcsiwFmtCards
import Derived.Test.YbulkcsiwFmtModel
import Derived.ProofKit
import Derived.OpenShut
import Derived.ChangeSlices
import Derived.ChangeOld
import Derived.Below
import Derived.Stop.JoinedAt
import Derived.Stop.JoinedTold
import Derived.SevenToldRow
namespace Go.Proofs.YbulkcsiwFmt
open Go.ChangeShapes Go.WideShapes Go.ChangeAt Go.RowKit Go.Kit
open Go.Extern.Stop Go.Stop Go.Extern

theorem cells24 : Ybaf.prog.cellsOf 24 = 1 := by kernel_rfl
theorem cells2 : Ybaf.prog.cellsOf 2 = 1 := by kernel_rfl
theorem bounds_i64 {n : Int} (h : (Lit.int .i64 n).wf = true) : -9223372036854775808 ≤ n ∧ n ≤ 9223372036854775807 := by
  simpa [Lit.wf, IntKind.min, IntKind.max, IntKind.signed, IntKind.bits] using h
theorem bounds_u64 {n : Int} (h : (Lit.int .u64 n).wf = true) : 0 ≤ n ∧ n < 18446744073709551616 := by
  have : 0 ≤ n ∧ n ≤ 18446744073709551615 := by simpa [Lit.wf, IntKind.min, IntKind.max, IntKind.signed, IntKind.bits] using h
  omega

/-- ONE CHANNEL, OPENED. -/
theorem open_chan {H : Type} {enc : TypeId × Value → H} {W : World} {fuel : Nat} {cs : List Value} {y : DataW H × List MemPlace} (h : DataW.trod enc Ybaf.prog W 0 (fun _ => true) true fuel 24 cs = some y) :
    ∃ r : Chan, cs = [.slice r.a r.len r.cap] ∧ r.len ≤ maxLen ∧ ∀ i, i < r.len → ∃ y, r.a = some y ∧ W.cell? (y.add i) = some (.int .i64 (r.z i)) ∧ -9223372036854775808 ≤ r.z i ∧ r.z i ≤ 9223372036854775807 := by
  rcases open_ints Ybaf.underlying24 Ybaf.underlying2 cells2 h with ⟨rfl, _⟩ | ⟨x, l, c, zs, rfl, _, hl, hm, hz, _, hcell, hwz⟩
  · exact ⟨⟨none, 0, 0, fun _ => 0⟩, rfl, Nat.zero_le _, fun i hi => by simp at hi⟩
  · simp only [if_true] at hz
    refine ⟨⟨some x, l, c, fun i => zs.getD i 0⟩, rfl, Nat.le_trans hl hm, fun i hi => ⟨x, rfl, hcell i (by simp at hi; omega), ?_⟩⟩
    have hi' : i < zs.length := by simp at hi; omega
    refine bounds_i64 (hwz _ ?_)
    simp [List.getD, List.getElem?_eq_getElem hi']

/-- THE BLOCK, OPENED. -/
theorem open_blk {H : Type} {enc : TypeId × Value → H} {W : World} {a : Option Addr} {len cap : Nat} {d : DataW H} {p : List MemPlace} (h : DataW.Trod enc Ybaf.prog W 0 (fun _ => true) true 22 (.slice a len cap) d p) :
    ∃ R : Nat → Chan, IsBlk W a len R ∧ ∀ c, c < len → (R c).len ≤ maxLen := by
  obtain ⟨fuel, hf⟩ := h
  rcases DataW.trod_slice Ybaf.underlying22 hf with ⟨hcs, _⟩ | ⟨x, l, c, elems, rest, n, _, hcs, _, _, hl, hm, hlen, hel, _, _⟩
  · simp [Value.cells] at hcs
    obtain ⟨rfl, rfl, rfl⟩ := hcs
    exact ⟨fun _ => ⟨none, 0, 0, fun _ => 0⟩, fun c hc => by omega, fun c hc => by omega⟩
  · simp [Value.cells] at hcs
    obtain ⟨rfl, rfl, rfl⟩ := hcs
    have each : ∀ c, ∃ r : Chan, c < len → (W.cell? (x.add c) = some (.slice r.a r.len r.cap) ∧ (∀ i, i < r.len → ∃ y, r.a = some y ∧ W.cell? (y.add i) = some (.int .i64 (r.z i)) ∧ -9223372036854775808 ≤ r.z i ∧ r.z i ≤ 9223372036854775807)) ∧ r.len ≤ maxLen := by
      intro c
      by_cases hc : c < len
      · have hE := hel c hc
        rw [cells24, Nat.mul_one, List.getElem?_eq_getElem (by omega)] at hE
        simp only [Option.bind_eq_some_iff] at hE
        obtain ⟨cs1, hc1, hy1⟩ := hE
        obtain ⟨r, rfl, hm, hr⟩ := open_chan hy1
        exact ⟨r, fun _ => ⟨⟨cell_of_cells?_one hc1, hr⟩, hm⟩⟩
      · exact ⟨⟨none, 0, 0, fun _ => 0⟩, fun h => (hc h).elim⟩
    refine ⟨fun c => Classical.choose (each c), fun c hc => ?_, fun c hc => ((Classical.choose_spec (each c)) hc).2⟩
    exact ⟨x, rfl, ((Classical.choose_spec (each c)) hc).1⟩

set_option maxRecDepth 100000 in
theorem model_lifted (os : Os) (started : os.Started) (H : Type) (enc : TypeId × Value → H) :
    ReturnsInTold none {} Ybaf.checked os 3 .any Input.okWide ((OpenSpec.ofChange Rows.lawS4702BModelSpec).preRow enc Ybaf.prog Ybaf.f3 Rows.lawS4702BModelRow.domain false [])
      (fun F => ((OpenSpec.ofChange Rows.lawS4702BModelSpec).at F).post enc Ybaf.prog Ybaf.f3 false true false false) (aloneAtReturn Ybaf.prog) nothingAlways := by
  refine returnsInTold_of_row (C := Ybaf.checked) (s := OpenSpec.ofChange Rows.lawS4702BModelSpec) (by kernel_rfl) own started (by kernel_rfl) Ybaf.func3
    (OpenSpec.witness_stopped (enc := enc) (C := Ybaf.checked) false ⟨#[], #[.slice none 0 0, .int .u64 0], []⟩ 8 (by kernel_rfl) (by kernel_rfl) (by kernel_rfl) (by kernel_rfl)) ?_
  intro F W base args ds gs before _ hF hval0 hW _ _ _ _ _
  have hval : ∀ (j : Nat) t v, Ybaf.f3.params[j]? = some t → args[j]? = some v → Value.okWide Ybaf.prog W .any base t v := hval0
  have hW' := hW
  obtain ⟨p, q, hA0, hV, rfl, hfz, hnd⟩ := hW
  have hA : DataW.TrodAll enc Ybaf.prog W 0 (fun _ => true) true Ybaf.f3.params.toList args.toList ds p := hA0
  rw [Ybaf.params3] at hA hval
  obtain ⟨v0, v1, d0, d1, p0, p1, rfl, rfl, rfl, h0, h1⟩ := trodAll_two hA
  obtain ⟨rfl, rfl⟩ := trodVars_none hV
  obtain ⟨a, len, cap, rfl⟩ := okWide_slice Ybaf.underlying22 (hval 0 22 v0 rfl rfl)
  have lt0 : ∀ x ∈ p0, x.block < W.heap.size := by obtain ⟨m, hm⟩ := h0; exact DataW.trod_lt m _ _ _ hm
  obtain ⟨R, hB, hm⟩ := open_blk h0
  obtain ⟨b, rfl, rfl, rfl, wb⟩ := open_int Ybaf.underlying23 (hval 1 23 v1 rfl rfl) h1
  obtain ⟨b0, b1⟩ := bounds_u64 wb
  clear hA0 hval0
  refine (model_any F.told a len cap R b W hF hB b0 b1 hm).mono fun e W' ⟨he, bel⟩ => ?_
  subst he
  exact ⟨_, rfl, _, _, _, [], _, [], hW', trodAll_mk1 (shut_bool Ybaf.underlying4 _), trodAll_mk2 (Below.trod laidOut (by kernel_rfl) (of_decide_eq_true (by kernel_rfl)) h0 bel lt0) (shut_int Ybaf.underlying23 wb), rfl, bel.frame _, fun h => by cases h⟩

/-- THE STATEMENT. -/
theorem model_told : Rows.LawS4702BModelToldSaid :=
  Claim7.holds_of_told_any 3 Ybaf.f3 _ _ [] _ _ _ (by kernel_rfl) rfl rfl rfl laidOutP (by kernel_rfl) rfl ⟨rfl, rfl, rfl, rfl, rfl, rfl, rfl⟩ rfl rfl (by kernel_rfl) (by kernel_rfl) Ybaf.func3 (by kernel_rfl)
    (of_decide_eq_true (by kernel_rfl)) (of_decide_eq_true (by kernel_rfl)) stopsP.symm rfl stopKnobsP.symm (by kernel_rfl)
    (by kernel_rfl) (by kernel_rfl) (by kernel_rfl) (by kernel_rfl) (by kernel_rfl) (by kernel_rfl) (by kernel_rfl) (by kernel_rfl) (by kernel_rfl) rfl (by kernel_rfl) rfl rfl
    rfl rfl
    rfl (by kernel_rfl) (by kernel_rfl) (by kernel_rfl) (by decide) (by kernel_rfl)
    (OpenClaim.moreEntering_of (by kernel_rfl) (by kernel_rfl) (by kernel_rfl) (by kernel_rfl) (by kernel_rfl) (by kernel_rfl) (by kernel_rfl) (by kernel_rfl) (by kernel_rfl) (by kernel_rfl))
    ⟨_, WideRow.started_initial, quietP _⟩
    (fun os started _ H enc _ => model_lifted os started H enc)

end Go.Proofs.YbulkcsiwFmt
