/-
  slices.Clone at []uint16 (function 7): its contract, after the guide's Derived/Shelf/Slices/In/Clone.lean.
-/
import Derived.Test.YbulkcsgsFmtBase
import Derived.WalkKit
import Derived.WalkSpells
import Derived.WalkLawsBesides
import Derived.Handy
import Derived.Lib.Walk
import Derived.Lib.SliceRun
namespace Go.Proofs.YbulkcsgsFmt
open Go.RowKit

/-- A slice of uint16 that came in: nil, or a row of cells 'zs' of which the first 'len' are its elements. -/
def IsRow16 (w : World) (a : Option Addr) (len cap : Nat) (zs : List Int) : Prop :=
  (a = none ∧ len = 0 ∧ cap = 0 ∧ zs = []) ∨
  ∃ x, a = some x ∧ len ≤ cap ∧ cap ≤ maxLen ∧ zs.length = cap ∧ (∀ i, i < zs.length → w.cell? (x.add i) = some (.int .u16 (zs.getD i 0))) ∧ ∀ n ∈ zs, (Lit.int .u16 n).wf = true

theorem info62m : (Ybaf.prog.info? 62).map (fun i => (i.zero, i.size, i.bytes)) = some (some (.int .u16 0), 1, 2) := by kernel_rfl

/-- WHAT THE COPY IS: nil of nil; else a slice of as many elements, in a block of the call's own. -/
def Copied (w w' : World) (a : Option Addr) (len : Nat) (zs : List Int) (r : Option Addr) (cap' : Nat) : Prop :=
  (a = none ∧ r = none ∧ cap' = 0) ∨
  ∃ g, a.isSome = true ∧ r = some ⟨g, 0, none⟩ ∧ w.heap.size ≤ g ∧ g < w'.heap.size ∧ (∃ cur, w'.heap[g]? = some (.cells cur 62)) ∧ ∀ j, j < len → w'.cell? ⟨g, j, none⟩ = some (.int .u16 (zs.getD j 0))

set_option maxHeartbeats 400000 in
theorem clone_nil (n c : Nat) (w : World) :
    Calls Ybaf.prog 7 #[.slice none n c] w fun e w' => e = .returned (.slice none 0 0) ∧ w' = w := by
  have q22 : ∀ (w : World) (a : Option Addr) (n c n' c' : Nat), (binOp .eql 22 (.slice a n c) (.slice none n' c')).run Ybaf.prog w = .ok (.bool a.isNone) w := fun w a n c n' c' => Lib.run_eql_slice_nil w _ _ a n c n' c' Ybaf.underlying22
  go_enter Ybaf.func7, Ybaf.ntmps7
  go_wp2
  go_ret
  exact ⟨rfl, rfl⟩

set_option maxHeartbeats 400000 in
set_option maxRecDepth 100000 in
theorem clone_some (x : Addr) (len cap : Nat) (zs : List Int) (w : World) (hbig : len * 2 ≤ 140737488355328) (hz : len ≤ zs.length) (hc : ∀ i, i < zs.length → w.cell? (x.add i) = some (.int .u16 (zs.getD i 0))) :
    Calls Ybaf.prog 7 #[.slice (some x) len cap] w fun e w' => ∃ v', e = .returned v' ∧ w'.ownsRow w.heap.size 62 1 v' len ((zs.take len).map (Value.int .u16)) ∧ v' ≠ .slice none 0 0 ∧ Below w.heap.size w w' := by
  obtain ⟨i0, hi, hz0, hz1, hz2⟩ := info_parts info62m
  have q22 : ∀ (w : World) (a : Option Addr) (n c n' c' : Nat), (binOp .eql 22 (.slice a n c) (.slice none n' c')).run Ybaf.prog w = .ok (.bool a.isNone) w := fun w a n c n' c' => Lib.run_eql_slice_nil w _ _ a n c n' c' Ybaf.underlying22
  have A : Hid (∀ i, i < zs.length → w.cell? (x.add i) = some (.int .u16 (zs.getD i 0))) := hc
  clear hc
  go_enter Ybaf.func7, Ybaf.ntmps7
  go_wp2_with (at_builtin; refine wpList_append_own _ rfl _ _ 22 rfl w.heap.size 62 i0 (.int .u16 0) 1 2 Ybaf.underlying22 hi hz0 hz1 hz2 rfl (by decide) _ _ _ rfl (World.ownsRow_made w #[] 0 (Nat.le_refl _) (Nat.zero_le _) rfl) x len cap ((zs.take len).map (Value.int .u16)) rfl ?qc1 ?qc2 ?qc3 ?qc4 ?qc5 ?qc6 ?_)
  case qc1 => simp; omega
  case qc2 =>
    intro j u hj
    have hjn : j < len ∧ j < zs.length := by
      have := (List.getElem?_eq_some_iff.1 hj).1
      simp at this
      omega
    refine Lib.cell?_alloc_some _ ?_
    rw [A.out j hjn.2]
    have e : ((zs.take len).map (Value.int .u16))[j]? = some (Value.int .u16 (zs.getD j 0)) := by simp [List.getD, hjn.1, List.getElem?_eq_getElem hjn.2]
    rw [e] at hj
    exact hj
  case qc3 => intro u hu; obtain ⟨x, _, rfl⟩ := List.mem_map.1 hu; rfl
  case qc4 => unfold maxLen; omega
  case qc5 => omega
  case qc6 => simp
  intro v' w1 hown hgrow hnil
  go_wp2
  go_ret
  refine ⟨v', rfl, by simpa using hown, ?_, ?_⟩
  · first | exact hnil | (intro e; exact absurd (hnil.1 e).1 (by simp))
  · exact ((Below.refl _ w).alloc (Nat.le_refl _) _).grown hgrow (by simp) (by intro k hk; simp [Value.ownBlock] at hk; omega)

theorem clone_any (a : Option Addr) (len cap : Nat) (zs : List Int) (w : World) (hr : IsRow16 w a len cap zs) (hbig : len ≤ 4096) :
    Calls Ybaf.prog 7 #[.slice a len cap] w fun e w' => ∃ r cap', e = .returned (.slice r len cap') ∧ Copied w w' a len zs r cap' ∧ Below w.heap.size w w' := by
  rcases hr with ⟨rfl, rfl, rfl, rfl⟩ | ⟨x, rfl, hl, hm, hz, hcell, _⟩
  · refine (clone_nil 0 0 w).mono ?_
    rintro e w' ⟨rfl, rfl⟩
    exact ⟨none, 0, rfl, .inl ⟨rfl, rfl, rfl⟩, Below.refl _ _⟩
  · refine (clone_some x len cap zs w (by omega) (by omega) hcell).mono ?_
    rintro e w' ⟨v', rfl, hown, hnil, hb⟩
    have hown' := hown
    rcases hown.2 with ⟨rfl, _⟩ | ⟨g, cap', cur, rfl, hbg, hg, _⟩
    · exact absurd rfl hnil
    · refine ⟨_, cap', rfl, .inr ⟨g, rfl, rfl, hbg, (Array.getElem?_eq_some_iff.1 hg).1, ⟨_, hg⟩, ?_⟩, hb⟩
      intro j hj
      have := hown'.cells (g := g) rfl j (.int .u16 (zs.getD j 0)) (by simp [List.getD, hj, List.getElem?_eq_getElem (show j < zs.length by omega)])
      simpa [Addr.add_lit] using this

end Go.Proofs.YbulkcsgsFmt
