/-
  '==' and '!=' of this program's pointers and of its one interface of a known make: small laws for the walks.
-/
import Derived.Test.YbulkcsgsFmtBase
import Derived.WalkKit
import Derived.LaidEqlPtr
namespace Go.Proofs.YbulkcsgsFmt
open Go.RowKit

theorem some_of_isSome {α : Type} {o : Option α} (h : o.isSome = true) : ∃ x, o = some x := Option.isSome_iff_exists.1 h

theorem neq_ptr_same {tp te : TypeId} (a : Addr) (w : World) (hp : Ybaf.prog.underlying tp = some (.pointer te)) (hte : (Ybaf.prog.info? te).isSome = true) :
    (binOp .neq tp (.pointer (some a)) (.pointer (some a))).run Ybaf.prog w = .ok (.bool false) w := by
  obtain ⟨j, hj⟩ := some_of_isSome hte
  have h : ∀ d : Nat, (Op.equalIn (d + 1) tp (.pointer (some a)) (.pointer (some a))).run Ybaf.prog w = .ok true w := fun d => by
    simp [Op.equalIn, run_underlying hp, sizeOf, typeInfo, hj, run_sameAddr_same]
  simp only [binOp]
  simp [Op.equal, Op.maxDepth, h 9999]

theorem neq23 (a : Addr) (w : World) : (binOp .neq 23 (.pointer (some a)) (.pointer (some a))).run Ybaf.prog w = .ok (.bool false) w := neq_ptr_same a w Ybaf.underlying23 (by kernel_rfl)
theorem neq46 (a : Addr) (w : World) : (binOp .neq 46 (.pointer (some a)) (.pointer (some a))).run Ybaf.prog w = .ok (.bool false) w := neq_ptr_same a w Ybaf.underlying46 (by kernel_rfl)

theorem neq43 (a : Addr) (w : World) : (binOp .neq 43 (.iface 34 (.pointer (some a))) (.iface 34 (.pointer (some a)))).run Ybaf.prog w = .ok (.bool false) w := by
  obtain ⟨j, hj⟩ := some_of_isSome (o := Ybaf.prog.info? 36) (by kernel_rfl)
  obtain ⟨i, hi⟩ := some_of_isSome (o := Ybaf.prog.info? 34) (by kernel_rfl)
  have hc : (Ybaf.prog.info? 34).map (·.comparable) = some true := by kernel_rfl
  rw [hi] at hc
  have hc' : i.comparable = true := by simpa using hc
  simp only [binOp]
  simp [Op.equal, Op.maxDepth, run_equalIn_iface_ptr_same w 9998 a Ybaf.underlying43 Ybaf.underlying34 hi hc' hj]

/-- An address in a block of the call's own against an address at which something lay: not one. -/
theorem sameAddr_own {P : Program} {w : World} {a b : Addr} {ca : Array Value} {ta : TypeId} {v : Value} (hne : a.block ≠ b.block) (ha : w.heap[a.block]? = some (.cells ca ta)) (hb : w.cell? b = some v) :
    (sameAddr a b).run P w = .ok false w := by
  unfold World.cell? at hb
  split at hb
  · rename_i c t mk hc
    obtain ⟨lo, hi⟩ := mk
    split at hb
    · cases hb
    · have hn : c.size ≠ 0 := by
        intro h0
        have : c[b.off]? = none := Array.getElem?_eq_none (by omega)
        rw [this] at hb; cases hb
      simp [sameAddr, hne, World.frozen?, ha, hc, noView, viewAt, World.shape?, mayBeOne, stringish]
      clear hb
      obtain ⟨m, hm⟩ : ∃ m, c.size = m + 1 := ⟨c.size - 1, by omega⟩
      simp [hm]
  · cases hb

theorem eql63_own {w : World} {a b : Addr} {ca : Array Value} {ta : TypeId} {v : Value} (hne : a.block ≠ b.block) (ha : w.heap[a.block]? = some (.cells ca ta)) (hb : w.cell? b = some v) :
    (binOp .eql 63 (.pointer (some a)) (.pointer (some b))).run Ybaf.prog w = .ok (.bool false) w := by
  obtain ⟨j, hj⟩ := some_of_isSome (o := Ybaf.prog.info? 62) (by kernel_rfl)
  have hc : (Ybaf.prog.info? 62).map (·.size) = some 1 := by kernel_rfl
  rw [hj] at hc
  have hsz : j.size = 1 := by simpa using hc
  have h : ∀ d : Nat, (Op.equalIn (d + 1) 63 (.pointer (some a)) (.pointer (some b))).run Ybaf.prog w = .ok false w := fun d => by
    simp [Op.equalIn, run_underlying Ybaf.underlying63, sizeOf, typeInfo, hj, hsz, sameAddr_own hne ha hb]
  simp only [binOp]
  simp [Op.equal, Op.maxDepth, h 9999]

end Go.Proofs.YbulkcsgsFmt
