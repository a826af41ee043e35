/-
  zzs4702bfits (function 6).
-/
import Derived.Test.YbulkcsiwFmtBase
namespace Go.Proofs.YbulkcsiwFmt
open Go.RowKit

/-- A sample that fits b bits, as the law's own model has it. -/
def fitsB (v b : Int) : Bool := if b = 0 then decide (v = 0) else if 64 ≤ b then false else decide (-(2 ^ (b.toNat - 1)) ≤ v) && decide (v < 2 ^ (b.toNat - 1))

theorem pow_mid (n : Nat) (h : n ≤ 62) : 1 ≤ (2 : Int) ^ n ∧ (2 : Int) ^ n ≤ 4611686018427387904 := by
  have h1 : 0 < 2 ^ n := Nat.two_pow_pos n
  have h2 : 2 ^ n ≤ 2 ^ 62 := Nat.pow_le_pow_right (by omega) h
  have e : ((2 ^ n : Nat) : Int) = (2 : Int) ^ n := by simp
  rw [← e]
  have e2 : (2 ^ 62 : Nat) = 4611686018427387904 := by decide
  omega

theorem fits_mid (v b : Int) (w : World) (h1 : 0 < b) (h2 : b < 64) :
    Calls Ybaf.prog 6 #[.int .i64 v, .int .u64 b] w fun e w' => e = .returned (.bool (fitsB v b)) ∧ w' = w := by
  have n0 : ¬ b = 0 := by omega
  have n1 : ¬ 64 ≤ b := by omega
  obtain ⟨H, hH⟩ : ∃ H, H = (2 : Int) ^ (b.toNat - 1) := ⟨_, rfl⟩
  have hb := pow_mid (b.toNat - 1) (by omega)
  have e1 : fitsB v b = (decide (-H ≤ v) && decide (v < H)) := by rw [fitsB, if_neg n0, if_neg n1, hH]
  rw [← hH] at hb
  have e2 : wrap64 ((2 : Int) ^ (b.toNat - 1)) = H := by rw [← hH]; unfold wrap64; omega
  have e3 : wrap64 (-H) = -H := by unfold wrap64; omega
  rw [e1]
  clear e1 hH
  by_cases hv : -H ≤ v
  · by_cases hw : v < H
    · rw [decide_eq_true hv, decide_eq_true hw]
      go_enter Ybaf.func6, Ybaf.ntmps6
      go_wp2
      go_ret
      exact ⟨rfl, rfl⟩
    · rw [decide_eq_true hv, decide_eq_false hw]
      go_enter Ybaf.func6, Ybaf.ntmps6
      go_wp2
      go_ret
      exact ⟨rfl, rfl⟩
  · rw [decide_eq_false hv, Bool.false_and]
    go_enter Ybaf.func6, Ybaf.ntmps6
    go_wp2
    go_ret
    exact ⟨rfl, rfl⟩

theorem fits_zero (v : Int) (w : World) :
    Calls Ybaf.prog 6 #[.int .i64 v, .int .u64 0] w fun e w' => e = .returned (.bool (fitsB v 0)) ∧ w' = w := by
  by_cases hz : v = 0
  · rw [show fitsB v 0 = true from decide_eq_true hz]
    subst hz
    go_enter Ybaf.func6, Ybaf.ntmps6
    go_wp2
    go_ret
    exact ⟨rfl, rfl⟩
  · rw [show fitsB v 0 = false from decide_eq_false hz]
    go_enter Ybaf.func6, Ybaf.ntmps6
    go_wp2
    go_ret
    exact ⟨by show Ending.returned (.bool (v == 0)) = _; rw [beq_false_of_ne hz], rfl⟩

theorem fits_high (v b : Int) (w : World) (h : 64 ≤ b) :
    Calls Ybaf.prog 6 #[.int .i64 v, .int .u64 b] w fun e w' => e = .returned (.bool (fitsB v b)) ∧ w' = w := by
  have n0 : ¬ b = 0 := by omega
  have e1 : fitsB v b = false := by rw [fitsB, if_neg n0, if_pos h]
  rw [e1]
  go_enter Ybaf.func6, Ybaf.ntmps6
  go_wp2
  go_ret
  exact ⟨rfl, rfl⟩

theorem fits6 (v b : Int) (w : World) (hb : 0 ≤ b) :
    Calls Ybaf.prog 6 #[.int .i64 v, .int .u64 b] w fun e w' => e = .returned (.bool (fitsB v b)) ∧ w' = w := by
  by_cases h0 : b = 0
  · subst h0; exact fits_zero v w
  · by_cases h1 : 64 ≤ b
    · exact fits_high v b w h1
    · exact fits_mid v b w (by omega) (by omega)
end Go.Proofs.YbulkcsiwFmt
