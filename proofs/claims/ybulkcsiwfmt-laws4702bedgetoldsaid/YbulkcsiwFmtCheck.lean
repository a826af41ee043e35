/-
  checkRange (function 7).
-/
import Derived.Test.YbulkcsiwFmtFits
import Derived.Deep.CutRange
import Derived.Deep.DeepCutAuto
namespace Go.Proofs.YbulkcsiwFmt
open Go.RowKit Go.Extern.Stop Go.Stop Go.Extern

/-- One channel: its slice, its samples. -/
structure Chan where
  a : Option Addr
  len : Nat
  cap : Nat
  z : Nat → Int

/-- A block: each channel's slice lies in the outer row; each sample lies in the channel's. -/
def IsBlk (w : World) (a : Option Addr) (len : Nat) (R : Nat → Chan) : Prop :=
  ∀ c, c < len → ∃ x, a = some x ∧ w.cell? (x.add c) = some (.slice (R c).a (R c).len (R c).cap) ∧
    ∀ i, i < (R c).len → ∃ y, (R c).a = some y ∧ w.cell? (y.add i) = some (.int .i64 ((R c).z i)) ∧ -9223372036854775808 ≤ (R c).z i ∧ (R c).z i ≤ 9223372036854775807

def AllFit (len : Nat) (R : Nat → Chan) (b : Int) : Prop := ∀ c, c < len → ∀ i, i < (R c).len → fitsB ((R c).z i) b = true

theorem shl_i64_big (n : Int) (h : 64 ≤ n) : Op.shift .shl .i64 (-1) .u64 n = pure (.int .i64 0) := by
  have hm : min n.toNat 64 = 64 := by omega
  have h0 : ¬ n < 0 := by omega
  simp [Op.shift, IntKind.bits, hm, h0]
  rfl
theorem shl_u64_big (n : Int) (h : 64 ≤ n) : Op.shift .shl .u64 1 .u64 n = pure (.int .u64 0) := by
  have hm : min n.toNat 64 = 64 := by omega
  have h0 : ¬ n < 0 := by omega
  simp [Op.shift, IntKind.bits, hm, h0]
  rfl
theorem wrap64_in (n : Int) (h : -9223372036854775808 ≤ n ∧ n ≤ 9223372036854775807) : wrap64 n = n := by unfold wrap64; omega
theorem lo_zero : wrap64 (-2 ^ min (IntKind.u64.wrap (-1)).toNat 64) = 0 := by
  rw [show min (IntKind.u64.wrap (-1)).toNat 64 = 64 from by rw [show (IntKind.u64.wrap (-1)).toNat = 18446744073709551615 from rfl]; omega]
  simp [wrap64]
theorem u64_wrap_in (n : Int) (h : 0 ≤ n ∧ n < 18446744073709551616) : IntKind.u64.wrap n = n := by
  simp [IntKind.wrap, IntKind.bits, IntKind.signed]
  omega
theorem u64_wrap (n : Int) : IntKind.u64.wrap n = n % 18446744073709551616 := by
  simp [IntKind.wrap, IntKind.bits, IntKind.signed]
/-- What checkRange asks of a sample: it fits exactly when this holds. -/
def Passes (lo span b : Int) : Prop := ∀ v : Int, -9223372036854775808 ≤ v → v ≤ 9223372036854775807 → (IntKind.u64.wrap (wrap64 (v - lo)) < span ↔ fitsB v b = true)
theorem cond_zero : Passes 0 1 0 := by
  intro v h1 h2
  rw [show fitsB v 0 = decide (v = 0) from rfl, wrap64_in _ (by omega), u64_wrap, decide_eq_true_iff]
  omega
theorem cond_high (lo b : Int) (hb : 64 ≤ b) : Passes lo 0 b := by
  intro v h1 h2
  rw [show fitsB v b = false by rw [fitsB, if_neg (by omega), if_pos hb], u64_wrap]
  have := Int.emod_nonneg (wrap64 (v - lo)) (b := 18446744073709551616) (by omega)
  simp
  omega
theorem cond_mid (b H : Int) (b0 : 0 < b) (b1 : b < 64) (hH : H = 2 ^ (b.toNat - 1)) (hb : 1 ≤ H ∧ H ≤ 4611686018427387904) : Passes (-H) (2 * H) b := by
  intro v h1 h2
  rw [fitsB, if_neg (by omega), if_neg (by omega), ← hH, Bool.and_eq_true, decide_eq_true_iff, decide_eq_true_iff, u64_wrap]
  unfold wrap64
  omega

set_option maxHeartbeats 1000000 in
theorem check7 (F : Interp) (a : Option Addr) (len cap : Nat) (R : Nat → Chan) (b : Int) (w : World) (hF : F.answers w.tape) (hB : IsBlk w a len R) (hl : len ≤ 1024) (hr : ∀ c, c < len → (R c).len ≤ 1024) (b0 : 0 ≤ b) (b1 : b < 18446744073709551616) :
    Calls Ybaf.prog 7 #[.slice a len cap, .int .u64 b] w fun e w' => (e = .returned .nilIface ∧ w' = w ∧ AllFit len R b) ∨ (∃ t v, e = .returned (.iface t v) ∧ Below w.heap.size w w' ∧ ¬ AllFit len R b) := by
  go_enter Ybaf.func7, Ybaf.ntmps7
  go_upto_region 1 with fail
  go_cut [5, 6] from 11 to 15 (fun s5 s6 wc => ∃ lo span : Int, s5 = .int .i64 lo ∧ s6 = .int .u64 span ∧ wc = w ∧ Passes lo span b)
  case first =>
    by_cases h0 : b = 0
    · subst h0
      go_wp2_with fail
      go_meet
      exact ⟨0, 1, by rw [lo_zero], rfl, rfl, cond_zero⟩
    · by_cases h4 : b = 64
      · subst h4
        go_wp2_with fail
        go_meet
        exact ⟨-9223372036854775808, 0, rfl, rfl, rfl, cond_high _ 64 (by omega)⟩
      · by_cases h1 : 65 ≤ b
        · have g1 := shl_i64_big (b - 1) (by omega)
          have g2 := shl_u64_big b (by omega)
          go_wp2_with fail
          go_meet
          exact ⟨0, 0, rfl, rfl, rfl, cond_high _ b (by omega)⟩
        · have g1 : b - 1 < 64 := by omega
          have g2 : b < 64 := by omega
          have g3 : 0 < b := by omega
          go_wp2_with fail
          go_meet
          obtain ⟨H, hH⟩ : ∃ H, H = (2 : Int) ^ (b.toNat - 1) := ⟨_, rfl⟩
          have hb := pow_mid (b.toNat - 1) (by omega)
          rw [← hH] at hb
          refine ⟨-H, 2 * H, ?_, ?_, rfl, cond_mid b H g3 g2 hH hb⟩
          · rw [← hH, wrap64_in _ (by omega)]
          · have e : (2 : Int) ^ b.toNat = 2 * H := by
              rw [hH, show b.toNat = (b.toNat - 1) + 1 by omega, Int.pow_succ]
              simp
              omega
            rw [e, u64_wrap_in _ (by omega)]
  case rest =>
  obtain ⟨lo, span, rfl, rfl, rfl, hcond⟩ := hcut
  have HC : Hid (Passes lo span b) := hcond
  have HB : Hid (IsBlk wc a len R) := hB
  have HR : Hid (∀ c, c < len → (R c).len ≤ 1024) := hr
  clear hcond hB hr
  go_wp2_with fail
  go_loopw [18] (fun i wr => ∃ c : Nat, c ≤ len ∧ i = .int .i64 c ∧ wr = wc ∧ ∀ c', c' < c → ∀ i, i < (R c').len → fitsB ((R c').z i) b = true) (fun i _ => len - (intOf i).toNat)
  case atStart => exact ⟨0, by omega, rfl, rfl, fun _ h => by omega⟩
  case round =>
    obtain ⟨c, hc, rfl, rfl, hdone⟩ := hrel
    have HD : Hid (∀ c', c' < c → ∀ i, i < (R c').len → fitsB ((R c').z i) b = true) := hdone
    clear hdone
    by_cases hlt : c < len
    · have hi0 : (0 : Int) ≤ (c : Int) := by omega
      have hi1 : (c : Int) < len := by omega
      obtain ⟨x, rfl, c1, hrow⟩ := HB.out c hlt
      have HW : Hid (∀ i, i < (R c).len → ∃ y, (R c).a = some y ∧ wr.cell? (y.add i) = some (.int .i64 ((R c).z i)) ∧ -9223372036854775808 ≤ (R c).z i ∧ (R c).z i ≤ 9223372036854775807) := hrow
      clear hrow
      have hlc := HR.out c hlt
      generalize hRc : R c = r at c1 HW hlc
      have HRc : Hid (R c = r) := hRc
      clear hRc
      go_wp2_with fail
      go_loopw [25] (fun i wq => ∃ k : Nat, k ≤ r.len ∧ i = .int .i64 k ∧ wq = wr ∧ ∀ i, i < k → fitsB (r.z i) b = true) (fun i _ => r.len - (intOf i).toNat)
      case atStart => exact ⟨0, by omega, rfl, rfl, fun _ h => by omega⟩
      case round =>
        obtain ⟨k, hk, rfl, rfl, hin⟩ := hrel
        have HI : Hid (∀ i, i < k → fitsB (r.z i) b = true) := hin
        clear hin
        by_cases hkl : k < r.len
        · have hj0 : (0 : Int) ≤ (k : Int) := by omega
          have hj1 : (k : Int) < r.len := by omega
          obtain ⟨y, hy, c2, z1, z2⟩ := HW.out k hkl
          have hcv := HC.out (r.z k) z1 z2
          by_cases hf : IntKind.u64.wrap (wrap64 (r.z k - lo)) < span
          · have HF : Hid (fitsB (r.z k) b = true) := hcv.1 hf
            clear hcv
            go_wp2_with fail
            refine ⟨⟨k + 1, by omega, by go_num, trivial, fun i hi => ?_⟩, by simp [intOf]; omega⟩
            rcases Nat.lt_succ_iff_lt_or_eq.1 hi with h | rfl
            · exact HI.out i h
            · exact HF.out
          · have HF : Hid (¬ fitsB (r.z k) b = true) := fun h => hf (hcv.2 h)
            clear hcv
            go_wp2_with fail
            refine (errorf12 F k c (r.z k) b wr.heap.size _ ?_ ?_ ?_ ?_ ?_).mono ?_
            · exact hF
            · go_simp
            · go_simp
            · go_simp
            · go_simp
            rintro e w9 ⟨rfl, b9⟩
            go_wp2_with fail
            go_ret
            refine .inr ⟨_, _, rfl, ((Below.refl _ _).alloc (Nat.le_refl _) _).trans (b9.mono (by simp)), fun hA => HF.out ?_⟩
            have := hA c hlt k (by rw [HRc.out]; exact hkl)
            rwa [HRc.out] at this
        · go_wp2_with fail
          refine ⟨⟨c + 1, by omega, by go_num, trivial, fun c' h' i hi => ?_⟩, by simp [intOf]; omega⟩
          rcases Nat.lt_succ_iff_lt_or_eq.1 h' with h | rfl
          · exact HD.out c' h i hi
          · rw [HRc.out] at hi ⊢
            exact HI.out i (by omega)
    · go_wp2_with fail
      go_ret
      refine .inl ⟨rfl, rfl, fun c' h' i hi => HD.out c' (by omega) i hi⟩
end Go.Proofs.YbulkcsiwFmt
