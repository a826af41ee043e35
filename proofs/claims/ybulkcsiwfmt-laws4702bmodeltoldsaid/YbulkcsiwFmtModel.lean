/-
  THE WALK OF LawS4702BModel (function 3).
-/
import Derived.Test.YbulkcsiwFmtCheck
namespace Go.Proofs.YbulkcsiwFmt
open Go.RowKit Go.Extern.Stop Go.Stop Go.Extern

/-- All samples of the channels below c fit. -/
def FitTo (R : Nat → Chan) (b : Int) (c : Nat) : Prop := ∀ c', c' < c → ∀ i, i < (R c').len → fitsB ((R c').z i) b = true
def FitIn (r : Chan) (b : Int) (k : Nat) : Prop := ∀ i, i < k → fitsB (r.z i) b = true

theorem model_long (a : Option Addr) (len cap : Nat) (b : Int) (w : World) (h : 1024 < (len : Int)) :
    Calls Ybaf.prog 3 #[.slice a len cap, .int .u64 b] w fun e w' => e = .returned (.bool true) ∧ Below w.heap.size w w' := by
  go_enter Ybaf.func3, Ybaf.ntmps3
  go_wp2
  go_ret
  exact ⟨rfl, Below.refl _ _⟩

set_option maxHeartbeats 1000000 in
theorem model_short (F : Interp) (a : Option Addr) (len cap : Nat) (R : Nat → Chan) (b : Int) (w : World) (hF : F.answers w.tape) (hB : IsBlk w a len R) (hl : len ≤ 1024) (b0 : 0 ≤ b) (b1 : b < 18446744073709551616) (hm : ∀ c, c < len → (R c).len ≤ maxLen) :
    Calls Ybaf.prog 3 #[.slice a len cap, .int .u64 b] w fun e w' => e = .returned (.bool true) ∧ Below w.heap.size w w' := by
  have HB : Hid (IsBlk w a len R) := hB
  have HM : Hid (∀ c, c < len → (R c).len ≤ maxLen) := hm
  clear hB hm
  go_enter Ybaf.func3, Ybaf.ntmps3
  go_wp2_with fail
  go_loopw [5] (fun i wr => ∃ c : Nat, c ≤ len ∧ i = .int .i64 c ∧ wr = w ∧ ∀ c', c' < c → (R c').len ≤ 1024) (fun i _ => len - (intOf i).toNat)
  case atStart => exact ⟨0, by omega, rfl, rfl, fun _ h => by omega⟩
  case round =>
    obtain ⟨c, hc, rfl, rfl, hdone⟩ := hrel
    have HD : Hid (∀ c', c' < c → (R c').len ≤ 1024) := hdone
    clear hdone
    by_cases hlt : c < len
    · have hi0 : (0 : Int) ≤ (c : Int) := by omega
      have hi1 : (c : Int) < len := by omega
      obtain ⟨x, rfl, c1, hrow⟩ := HB.out c hlt
      clear hrow
      by_cases hbig : 1024 < ((R c).len : Int)
      · go_wp2_with fail
        go_ret
        exact ⟨rfl, Below.refl _ _⟩
      · go_wp2_with fail
        refine ⟨⟨c + 1, by omega, by go_num, trivial, fun c' h' => ?_⟩, by simp [intOf]; omega⟩
        rcases Nat.lt_succ_iff_lt_or_eq.1 h' with h | rfl
        · exact HD.out c' h
        · omega
    · have HR : Hid (∀ c, c < len → (R c).len ≤ 1024) := fun c' h' => HD.out c' (by omega)
      clear HD
      go_wp2_with fail
      go_loopw [6, 7] (fun s6 i wq => ∃ c : Nat, c ≤ len ∧ i = .int .i64 c ∧ wq = wr ∧ ∃ t : Bool, s6 = .bool t ∧ (t = true ↔ FitTo R b c)) (fun _ i _ => len - (intOf i).toNat)
      case atStart => exact ⟨0, by omega, rfl, rfl, true, rfl, by simp [FitTo]⟩
      case round =>
        obtain ⟨d, hd, rfl, rfl, t, rfl, ht⟩ := hrel
        have HT : Hid (t = true ↔ FitTo R b d) := ht
        clear ht
        by_cases hld : d < len
        · have hj0 : (0 : Int) ≤ (d : Int) := by omega
          have hj1 : (d : Int) < len := by omega
          obtain ⟨x, rfl, c1, hrow⟩ := HB.out d hld
          have HW : Hid (∀ i, i < (R d).len → ∃ y, (R d).a = some y ∧ wr.cell? (y.add i) = some (.int .i64 ((R d).z i)) ∧ -9223372036854775808 ≤ (R d).z i ∧ (R d).z i ≤ 9223372036854775807) := hrow
          clear hrow
          have hlc := HR.out d hld
          generalize hRd : R d = r at c1 HW hlc
          have HRd : Hid (R d = r) := hRd
          clear hRd
          go_wp2_with fail
          go_loopw [6, 9] (fun s6 i wq => ∃ k : Nat, k ≤ r.len ∧ i = .int .i64 k ∧ wq = wr ∧ ∃ t : Bool, s6 = .bool t ∧ (t = true ↔ FitTo R b d ∧ FitIn r b k)) (fun _ i _ => r.len - (intOf i).toNat)
          case atStart => exact ⟨0, by omega, rfl, rfl, t, rfl, by rw [HT.out]; simp [FitIn]⟩
          case round =>
            obtain ⟨k, hk, rfl, rfl, t', rfl, ht⟩ := hrel
            have HT' : Hid (t' = true ↔ FitTo R b d ∧ FitIn r b k) := ht
            clear ht
            by_cases hkl : k < r.len
            · have hk0 : (0 : Int) ≤ (k : Int) := by omega
              have hk1 : (k : Int) < r.len := by omega
              obtain ⟨y, hy, c2, z1, z2⟩ := HW.out k hkl
              go_wp2_with fail
              refine (fits6 (r.z k) b _ b0).mono ?_
              rintro e wf ⟨rfl, rfl⟩
              cases hf : fitsB (r.z k) b with
              | true =>
                have HF : Hid (fitsB (r.z k) b = true) := hf
                go_wp2_with fail
                rw [← hy]
                go_roundw
                case rel =>
                  refine ⟨k + 1, by omega, by go_num, trivial, t', rfl, ?_⟩
                  rw [HT'.out]
                  refine ⟨fun h => ⟨h.1, fun i hi => ?_⟩, fun h => ⟨h.1, fun i hi => h.2 i (by omega)⟩⟩
                  rcases Nat.lt_succ_iff_lt_or_eq.1 hi with h' | rfl
                  · exact h.2 i h'
                  · exact HF.out
                case measure => simp [intOf]; omega
              | false =>
                have HF : Hid (fitsB (r.z k) b = false) := hf
                go_wp2_with fail
                rw [← hy]
                go_roundw
                case rel =>
                  refine ⟨k + 1, by omega, by go_num, trivial, false, rfl, ?_⟩
                  refine ⟨fun h => (Bool.false_ne_true h).elim, fun h => ?_⟩
                  have := h.2 k (by omega)
                  rw [HF.out] at this
                  exact this
                case measure => simp [intOf]; omega
            · go_wp2_with fail
              refine ⟨⟨d + 1, by omega, by go_num, trivial, t', rfl, ?_⟩, by simp [intOf]; omega⟩
              rw [HT'.out]
              refine ⟨fun h c' h' i hi => ?_, fun h => ⟨fun c' h' i hi => h c' (by omega) i hi, fun i hi => ?_⟩⟩
              · rcases Nat.lt_succ_iff_lt_or_eq.1 h' with h1 | rfl
                · exact h.1 c' h1 i hi
                · rw [HRd.out] at hi ⊢
                  exact h.2 i (by omega)
              · have := h d (by omega) i (by rw [HRd.out]; omega)
                rwa [HRd.out] at this
        · obtain rfl : d = len := by omega
          go_wp2_with fail
          refine (check7 F a d cap R b wr hF HB.out hl HR.out b0 b1).mono ?_
          rintro e w9 (⟨rfl, rfl, hall⟩ | ⟨t', v, rfl, bel, hnot⟩)
          · obtain rfl : t = true := HT.out.2 hall
            go_wp2_with fail
            go_ret
            exact ⟨rfl, Below.refl _ _⟩
          · obtain rfl : t = false := by
              cases t with
              | false => rfl
              | true => exact (hnot (HT.out.1 rfl)).elim
            go_wp2_with fail
            go_ret
            exact ⟨rfl, bel⟩

theorem model_any (F : Interp) (a : Option Addr) (len cap : Nat) (R : Nat → Chan) (b : Int) (w : World) (hF : F.answers w.tape) (hB : IsBlk w a len R) (b0 : 0 ≤ b) (b1 : b < 18446744073709551616) (hm : ∀ c, c < len → (R c).len ≤ maxLen) :
    Calls Ybaf.prog 3 #[.slice a len cap, .int .u64 b] w fun e w' => e = .returned (.bool true) ∧ Below w.heap.size w w' := by
  by_cases h : 1024 < (len : Int)
  · exact model_long a len cap b w h
  · exact model_short F a len cap R b w hF hB (by omega) b0 b1 hm
end Go.Proofs.YbulkcsiwFmt
