/-
  LawS4703BGiven: THE TOLD CARD. The walk (YbulkcsjkFmtLaw.lean), the row's step, the builder's one call.
-/
import Derived.Test.YbulkcsjkFmtCards
import Derived.Test.YbulkcsjkFmtLaw
import Derived.ProofKit
import Derived.OpenShut
import Derived.ChangeSlices
import Derived.ChangeOld
import Derived.Below
import Derived.Stop.JoinedAt
import Derived.Stop.JoinedTold
import Derived.SevenToldRow
namespace Go.Proofs.YbulkcsjkFmt
open Go.ChangeShapes Go.WideShapes Go.ChangeAt Go.RowKit Go.Kit
open Go.Extern.Stop Go.Stop Go.Extern

/-- THE SLICE, AS THE WALKS HAVE IT. -/
def IsPoint (w : World) (a : Option Addr) (len cap : Nat) (z : Nat → Int) : Prop :=
  (a = none ∧ len = 0 ∧ cap = 0) ∨ ∃ x, a = some x ∧ ∀ i, i < len → w.cell? (x.add i) = some (.int .u32 (z i))

theorem open_row {H : Type} {enc : TypeId × Value → H} {W : World} {a : Option Addr} {len cap : Nat} {d : DataW H} {p : List MemPlace} (h : DataW.Trod enc Ybaf.prog W 0 (fun _ => true) true 22 (.slice a len cap) d p) :
    ∃ z, IsPoint W a len cap z := by
  obtain ⟨fuel, hf⟩ := h
  rcases open_ints Ybaf.underlying22 Ybaf.underlying46 (by kernel_rfl) hf with ⟨hcs, _⟩ | ⟨x, l, c, zs, hcs, _, hl, hm, hz, _, hcell, hwz⟩
  · simp [Value.cells] at hcs
    obtain ⟨rfl, rfl, rfl⟩ := hcs
    exact ⟨fun _ => 0, .inl ⟨rfl, rfl, rfl⟩⟩
  · simp [Value.cells] at hcs
    obtain ⟨rfl, rfl, rfl⟩ := hcs
    simp only [if_true] at hz
    exact ⟨fun i => zs.getD i 0, .inr ⟨x, rfl, fun i hi => hcell i (by omega)⟩⟩

theorem given_any (F : Interp) (a : Option Addr) (len cap : Nat) (z : Nat → Int) (d : Int) (s : Bool) (w : World) (hF : F.answers w.tape) (hp : IsPoint w a len cap z) :
    Calls Ybaf.prog 3 #[.slice a len cap, .int .i64 d, .bool s] w fun e w' => e = .returned (.bool true) ∧ Below w.heap.size w w' := by
  by_cases hl : 1024 < (len : Int)
  · exact given_long a len cap d s w hl
  · have hs : (s = true ∨ (s = false ∧ d = (len : Int))) ∨ (s = false ∧ ¬ (len : Int) = d) := by
      cases s with
      | true => exact .inl (.inl rfl)
      | false =>
        by_cases h : d = (len : Int)
        · exact .inl (.inr ⟨rfl, h⟩)
        · exact .inr ⟨rfl, fun e => h e.symm⟩
    rcases hp with ⟨rfl, rfl, rfl⟩ | ⟨x, rfl, hr⟩
    · rcases hs with hs | ⟨rfl, hd⟩
      · exact given_nil_eq d s w hs
      · exact given_nil_other F d w hF hd
    · rcases hs with hs | ⟨rfl, hd⟩
      · exact given_eq_some F x len cap z d s w hF (by omega) hr hs
      · exact given_other_some F x len cap z d w hF (by omega) hr hd

set_option maxRecDepth 100000 in
theorem given_lifted (os : Os) (started : os.Started) (H : Type) (enc : TypeId × Value → H) :
    ReturnsInTold none {} Ybaf.checked os 3 .any Input.okWide ((OpenSpec.ofChange Rows.lawS4703BGivenSpec).preRow enc Ybaf.prog Ybaf.f3 Rows.lawS4703BGivenRow.domain false [])
      (fun F => ((OpenSpec.ofChange Rows.lawS4703BGivenSpec).at F).post enc Ybaf.prog Ybaf.f3 false true false false) (aloneAtReturn Ybaf.prog) nothingAlways := by
  refine returnsInTold_of_row (C := Ybaf.checked) (s := OpenSpec.ofChange Rows.lawS4703BGivenSpec) (by kernel_rfl) own started (by kernel_rfl) Ybaf.func3
    (OpenSpec.witness_stopped (enc := enc) (C := Ybaf.checked) false ⟨#[], #[.slice none 0 0, .int .i64 0, .bool false], []⟩ 8 (by kernel_rfl) (by kernel_rfl) (by kernel_rfl) (by kernel_rfl)) ?_
  intro F W base args ds gs before _ hF hval0 hW _ _ _ _ _
  have hval : ∀ (j : Nat) t v, Ybaf.f3.params[j]? = some t → args[j]? = some v → Value.okWide Ybaf.prog W .any base t v := hval0
  have hW' := hW
  obtain ⟨p, q, hA0, hV, rfl, hfz, hnd⟩ := hW
  have hA : DataW.TrodAll enc Ybaf.prog W 0 (fun _ => true) true Ybaf.f3.params.toList args.toList ds p := hA0
  rw [Ybaf.params3] at hA hval
  obtain ⟨v0, v1, v2, d0, d1, d2, p0, p1, p2, rfl, rfl, rfl, h0, h1, h2⟩ := trodAll_three hA
  obtain ⟨rfl, rfl⟩ := trodVars_none hV
  obtain ⟨a, len, cap, rfl⟩ := okWide_slice Ybaf.underlying22 (hval 0 22 v0 rfl rfl)
  have lt0 : ∀ x ∈ p0, x.block < W.heap.size := by obtain ⟨m, hm⟩ := h0; exact DataW.trod_lt m _ _ _ hm
  obtain ⟨n, rfl, rfl, rfl, wn⟩ := open_int Ybaf.underlying3 (hval 1 3 v1 rfl rfl) h1
  obtain ⟨s, rfl, rfl, rfl⟩ := open_bool Ybaf.underlying4 (hval 2 4 v2 rfl rfl) h2
  obtain ⟨z, hr⟩ := open_row h0
  clear hA0 hval0
  refine (given_any F.told a len cap z n s W hF hr).mono fun e W' ⟨he, bel⟩ => ?_
  subst he
  exact ⟨_, rfl, _, _, _, [], _, [], hW', trodAll_mk1 (shut_bool Ybaf.underlying4 _), trodAll_mk3 (Below.trod laidOut (by kernel_rfl) (of_decide_eq_true (by kernel_rfl)) h0 bel lt0) (shut_int Ybaf.underlying3 wn) (shut_bool Ybaf.underlying4 _), rfl, bel.frame _, fun h => by cases h⟩

/-- THE STATEMENT. -/
theorem given_told : Rows.LawS4703BGivenToldSaid :=
  Claim7.holds_of_told_any 3 Ybaf.f3 _ _ [] _ _ _ (by kernel_rfl) rfl rfl rfl laidOutP (by kernel_rfl) rfl ⟨rfl, rfl, rfl, rfl, rfl, rfl, rfl⟩ rfl rfl (by kernel_rfl) (by kernel_rfl) Ybaf.func3 (by kernel_rfl)
    (of_decide_eq_true (by kernel_rfl)) (of_decide_eq_true (by kernel_rfl)) stopsP.symm rfl stopKnobsP.symm (by kernel_rfl)
    (by kernel_rfl) (by kernel_rfl) (by kernel_rfl) (by kernel_rfl) (by kernel_rfl) (by kernel_rfl) (by kernel_rfl) (by kernel_rfl) (by kernel_rfl) rfl (by kernel_rfl) rfl rfl
    rfl rfl
    rfl (by kernel_rfl) (by kernel_rfl) (by kernel_rfl) (by decide) (by kernel_rfl)
    (OpenClaim.moreEntering_of (by kernel_rfl) (by kernel_rfl) (by kernel_rfl) (by kernel_rfl) (by kernel_rfl) (by kernel_rfl) (by kernel_rfl) (by kernel_rfl) (by kernel_rfl) (by kernel_rfl))
    ⟨_, WideRow.started_initial, quietP _⟩
    (fun os started _ H enc _ => given_lifted os started H enc)

end Go.Proofs.YbulkcsjkFmt
