/-
  THE WALK OF LawS4698CBuilds.
-/
import Derived.Test.YbulkcsgsFmtServer
import Derived.Test.YbulkcsgsFmtEq
import Derived.Deep.QuietTactic
import Derived.BigQuiet
namespace Go.Proofs.YbulkcsgsFmt
open Go.RowKit
attribute [local go_sem] neq23 neq46 neq43

set_option maxHeartbeats 400000 in
set_option maxRecDepth 100000 in
theorem builds_long (s : ByteArray) (a : Option Addr) (len cap : Nat) (b : Bool) (n : Int) (w : World) (h : 4096 < (s.size : Int) ∨ 4096 < (len : Int)) :
    Calls Ybaf.prog 3 #[.string s, .slice a len cap, .bool b, .int .u8 n] w fun e w' => e = .returned (.bool true) ∧ Below w.heap.size w w' := by
  by_cases h1 : 4096 < (s.size : Int)
  · clear h
    go_enter Ybaf.func3, Ybaf.ntmps3
    go_wp2
    go_ret
    exact ⟨rfl, Below.refl _ _⟩
  · have h2 : 4096 < (len : Int) := by omega
    clear h
    go_enter Ybaf.func3, Ybaf.ntmps3
    go_wp2
    go_ret
    exact ⟨rfl, Below.refl _ _⟩

theorem eql22_nil (w : World) (a : Option Addr) (n c : Nat) : (binOp .eql 22 (.slice a n c) (.slice none 0 0)).run Ybaf.prog w = .ok (.bool a.isNone) w := Lib.run_eql_slice_nil w _ _ a n c 0 0 Ybaf.underlying22
/-- Sixteen zero bytes. -/
def zeros16 : Array Value := Array.replicate 16 (.int .u8 0)
def Zeros16 (w : World) (v : Value) : Prop := ∃ b o, v = .pointer (some ⟨b, o, none⟩) ∧ ∀ j, j < 16 → w.cell? ⟨b, o + j, none⟩ = some (.int .u8 0)
theorem zeros59 (w : World) : (Op.equalIn 10000 59 (.agg zeros16) (.agg zeros16)).run Ybaf.prog w = .ok true w := by kernel_rfl
theorem exec_build59 (ρ : Operand → Value) (d : Option Tmp) (ty : TypeId) (pos : String) (af : Array Edge) (g : Option (Nat × Bool)) (w : World) :
    (execOp ρ ⟨d, .build 59 #[], ty, pos, af, g⟩).run Ybaf.prog w = .ok (.value (.agg zeros16)) w := by kernel_rfl
theorem exec_load59 (ρ : Operand → Value) (d : Option Tmp) (x : Operand) (ty : TypeId) (pos : String) (af : Array Edge) (g : Option (Nat × Bool)) (w : World) (h : Zeros16 w (ρ x)) :
    (execOp ρ ⟨d, .load 59 x, ty, pos, af, g⟩).run Ybaf.prog w = .ok (.value (.agg zeros16)) w := by
  obtain ⟨b, o, hv, hc⟩ := h
  have hr : w.rangeAt b o (List.replicate 16 (.int .u8 0)) := fun j v hj => by
    have hj' := List.getElem?_eq_some_iff.1 hj
    obtain ⟨h1, h2⟩ := hj'
    rw [hc j (by simpa using h1), ← h2, List.getElem_replicate]
  have e := run_loadVar_mid (P := Ybaf.prog) w b o 59 (List.replicate 16 (.int .u8 0)) _ hr Ybaf.underlying59 rfl (by kernel_rfl)
  have ez : (List.replicate 16 (Value.int .u8 0)).toArray = zeros16 := by kernel_rfl
  rw [ez] at e
  simp only [execOp, hv, Instr.loadAt, Instr.sureAddr, Sem.run_bind, Sem.run_pure, Result.andThen_ok, e]
theorem zeros_at {w : World} {g : Nat} {cs : Array Value} (h : w.heap[g]? = some (.cells cs 61)) (o : Nat) (ho : cs.extract o (o + 16) = zeros16) (q : Nat) : Zeros16 (w.drewN q) (.pointer (some ⟨g, o, none⟩)) := by
  refine ⟨g, o, rfl, fun j hj => ?_⟩
  have e : cs[o + j]? = some (.int .u8 0) := by
    have h1 : (cs.extract o (o + 16))[j]? = some (.int .u8 0) := by rw [ho]; simp [zeros16, hj]
    rw [Array.getElem?_extract] at h1
    split at h1
    · exact h1
    · cases h1
  have := cell_of_row w g (o + j) cs 61 (0, 0) h
  simp only [World.cell?_drewN]
  rw [this, e]
attribute [local go_sem] eql22_nil zeros59
attribute [local go_sem ↓] exec_build59 exec_load59

theorem below_end {w w1 : World} {o1 o2 : Obj} (h : Below ((w.alloc o1).alloc o2).heap.size ((w.alloc o1).alloc o2) w1) (q : Nat) : Below w.heap.size w (w1.drewN q) :=
  below_drewN ((((Below.refl _ w).alloc (Nat.le_refl _) o1).alloc (by simp) o2).trans (h.mono (by simp; omega))) q

theorem row_cells {w w1 : World} {bx ox len cap : Nat} {zs : List Int} (h : IsRow16 w (some ⟨bx, ox, none⟩) len cap zs) (hb : Below w.heap.size w w1) : ∀ j, j < len → w1.cell? ⟨bx, ox + j, none⟩ = some (.int .u16 (zs.getD j 0)) := by
  rcases h with ⟨h, _⟩ | ⟨x, hx, hl, hm, hz, hc, _⟩
  · cases h
  · cases hx
    intro j hj
    have := cell_later hb (hc j (by omega))
    rwa [Addr.add_lit] at this

theorem apart63 {w w1 : World} {o1 o2 : Obj} {bx ox len cap gk : Nat} {zs : List Int} {cur : Array Value} (h : IsRow16 w (some ⟨bx, ox, none⟩) len cap zs) (hp : 0 < len) (hg : ((w.alloc o1).alloc o2).heap.size ≤ gk) (hcur : w1.heap[gk]? = some (.cells cur 62))
    (_ha : ∀ j, j < len → w1.cell? ⟨gk, j, none⟩ = some (.int .u16 (zs.getD j 0))) (hb : ∀ j, j < len → w1.cell? ⟨bx, ox + j, none⟩ = some (.int .u16 (zs.getD j 0))) :
    ∀ q, (binOp .eql 63 (.pointer (some ⟨gk, 0, none⟩)) (.pointer (some ⟨bx, ox, none⟩))).run Ybaf.prog (w1.drewN q) = .ok (.bool false) (w1.drewN q) := by
  intro q
  have hlt : bx < w.heap.size := World.block_lt_of_cell? w ⟨bx, ox + 0, none⟩ (row_cells h (Below.refl _ _) 0 hp)
  refine eql63_own (v := .int .u16 (zs.getD 0 0)) (by simp at hg ⊢; omega) hcur ?_
  have := hb 0 hp
  simpa using this

theorem served_cell {w : World} {g k : Nat} {cs : Array Value} {v : Value} (h : w.heap[g]? = some (.cells cs 61)) (hk : cs[k]? = some v) : w.cell? ⟨g, k, none⟩ = some v := by
  rw [cell_of_row w g k cs 61 (0, 0) h, hk]

set_option maxHeartbeats 1000000 in
set_option maxRecDepth 100000 in
theorem builds_nil (s : ByteArray)  (b : Bool) (n : Int) (w : World)  (h1 : ¬ 4096 < (s.size : Int)) :
    Calls Ybaf.prog 3 #[.string s, .slice none 0 0, .bool b, .int .u8 n] w fun e w' => e = .returned (.bool true) ∧ Below w.heap.size w w' := by
  have R : Hid (IsRow16 w none 0 0 []) := .inl ⟨rfl, rfl, rfl, rfl⟩
  go_enter Ybaf.func3, Ybaf.ntmps3
  go_wp2_with fail
  refine (server_any w.heap.size (w.heap.size + 1) s none 0 0 [] b _ (R.out.later (by go_grown)) (by omega)).mono ?_
  rintro e w1 ⟨g, rfl, ⟨gn, capn, r, capk, hcs, hg1, hg2, hnm, hcp⟩, hb1⟩
  rcases hcp with ⟨_, rfl, rfl⟩ | ⟨_, hx, _⟩
  rotate_left
  · cases hx
  have hm0 : w1.cell? ⟨w.heap.size, 0, none⟩ = some (.string ⟨#[69, 65, 80, 45, 65, 75, 65, 39]⟩) := cell_later hb1 (by simp)
  have hm1 : w1.cell? ⟨w.heap.size, 1, none⟩ = some (.int .u8 n) := cell_later hb1 (by simp)
  have hm8 : w1.cell? ⟨w.heap.size, 8, none⟩ = some (.bool b) := cell_later hb1 (by simp)
  have hq0 : w1.cell? ⟨w.heap.size + 1, 0, none⟩ = some (.int .u8 n) := cell_later hb1 (by simp)
  have hq1 : w1.cell? ⟨w.heap.size + 1, 1, none⟩ = some (.int .i64 0) := cell_later hb1 (by simp)
  have k0 : w1.cell? ⟨g, 0, none⟩ = some (.pointer (some ⟨w.heap.size, 0, none⟩)) := served_cell hcs (by kernel_rfl)
  have k137 : w1.cell? ⟨g, 137, none⟩ = some (.pointer (some ⟨w.heap.size, 0, none⟩)) := served_cell hcs (by kernel_rfl)
  have k138 : w1.cell? ⟨g, 138, none⟩ = some (.iface 34 (.pointer (some ⟨w.heap.size + 1, 0, none⟩))) := served_cell hcs (by kernel_rfl)
  have k139 : w1.cell? ⟨g, 139, none⟩ = some (.slice (some ⟨gn, 0, none⟩) s.size capn) := served_cell hcs (by kernel_rfl)
  have k140 : w1.cell? ⟨g, 140, none⟩ = some (.slice none 0 0) := served_cell hcs (by kernel_rfl)
  have k141 : w1.cell? ⟨g, 141, none⟩ = some (.bool b) := served_cell hcs (by kernel_rfl)
  have CS : Hid (w1.heap[g]? = _) := hcs
  have NM : Hid (∀ j, j < s.size → w1.cell? ⟨gn, j, none⟩ = some (.int .u8 (s.data.toList.getD j 0).toNat)) := hnm
  clear hcs hnm
  go_wp2_with fail
  go_quiet (fail)
  go_wp2_with fail
  go_loopw [13] (fun i wr => ∃ k m : Nat, k ≤ s.size ∧ i = .int .i64 k ∧ wr = w1.drewN m) (fun i _ => s.size - (intOf i).toNat)
  case atStart => exact ⟨0, nq, Nat.zero_le _, rfl, rfl⟩
  case round =>
    obtain ⟨k, m, hk, rfl, rfl⟩ := hrel
    by_cases hlt : k < s.size
    · have hkc : w1.cell? ⟨gn, k, none⟩ = some (.int .u8 (s[k].toNat : Int)) := by
        rw [NM.out k hlt]; simp [List.getD, hlt]; rfl
      have hi1 : (k : Int) < (s.size : Int) := by omega
      go_wp2_with fail
      go_quiet (fail)
      go_wp2
      go_roundw
      case rel => exact ⟨k + 1, _, by omega, by go_num, rfl⟩
      case measure => simp [intOf]; omega
    · clear hm0 hm1 hm8 hq0 hq1 k0 k137 k138 k139
      go_wp2_with fail
      go_loop [14] (fun i => i = .int .i64 0) (fun _ => 0)
      case atStart => rfl
      case round =>
        subst hrel
        go_wp2_with fail
        go_quiet (fail)
        have k1 : w1.cell? ⟨g, 1, none⟩ = some (.int .u8 0) := served_cell CS.out (by kernel_rfl)
        have k2 : w1.cell? ⟨g, 2, none⟩ = some (.int .u8 0) := served_cell CS.out (by kernel_rfl)
        have k3 : w1.cell? ⟨g, 3, none⟩ = some (.bool false) := served_cell CS.out (by kernel_rfl)
        have k4 : w1.cell? ⟨g, 4, none⟩ = some (.int .u8 0) := served_cell CS.out (by kernel_rfl)
        have k5 : w1.cell? ⟨g, 5, none⟩ = some (.slice none 0 0) := served_cell CS.out (by kernel_rfl)
        have k6 : w1.cell? ⟨g, 6, none⟩ = some (.slice none 0 0) := served_cell CS.out (by kernel_rfl)
        have k7 : w1.cell? ⟨g, 7, none⟩ = some (.slice none 0 0) := served_cell CS.out (by kernel_rfl)
        have k136 : w1.cell? ⟨g, 136, none⟩ = some .nilIface := served_cell CS.out (by kernel_rfl)
        have k142 : w1.cell? ⟨g, 142, none⟩ = some (.slice none 0 0) := served_cell CS.out (by kernel_rfl)
        have k175 : w1.cell? ⟨g, 175, none⟩ = some (.slice none 0 0) := served_cell CS.out (by kernel_rfl)
        have z1 : ∀ q, Zeros16 (w1.drewN q) (.pointer (some ⟨g, 143, none⟩)) := zeros_at CS.out 143 (by kernel_rfl)
        have z2 : ∀ q, Zeros16 (w1.drewN q) (.pointer (some ⟨g, 159, none⟩)) := zeros_at CS.out 159 (by kernel_rfl)
        go_wp2
        go_ret
        exact ⟨rfl, below_end hb1 _⟩


set_option maxHeartbeats 1000000 in
set_option maxRecDepth 100000 in
theorem builds_empty (s : ByteArray) (x : Addr) (cap : Nat) (zs : List Int) (b : Bool) (n : Int) (w : World) (hr : IsRow16 w (some x) 0 cap zs) (h1 : ¬ 4096 < (s.size : Int)) :
    Calls Ybaf.prog 3 #[.string s, .slice (some x) 0 cap, .bool b, .int .u8 n] w fun e w' => e = .returned (.bool true) ∧ Below w.heap.size w w' := by
  have R : Hid (IsRow16 w (some x) 0 cap zs) := hr
  clear hr
  go_enter Ybaf.func3, Ybaf.ntmps3
  go_wp2_with fail
  refine (server_any w.heap.size (w.heap.size + 1) s (some x) 0 cap zs b _ (R.out.later (by go_grown)) (by omega)).mono ?_
  rintro e w1 ⟨g, rfl, ⟨gn, capn, r, capk, hcs, hg1, hg2, hnm, hcp⟩, hb1⟩
  rcases hcp with ⟨hx, _, _⟩ | ⟨gk, _, rfl, _, _, _, _⟩
  · cases hx
  have hm0 : w1.cell? ⟨w.heap.size, 0, none⟩ = some (.string ⟨#[69, 65, 80, 45, 65, 75, 65, 39]⟩) := cell_later hb1 (by simp)
  have hm1 : w1.cell? ⟨w.heap.size, 1, none⟩ = some (.int .u8 n) := cell_later hb1 (by simp)
  have hm8 : w1.cell? ⟨w.heap.size, 8, none⟩ = some (.bool b) := cell_later hb1 (by simp)
  have hq0 : w1.cell? ⟨w.heap.size + 1, 0, none⟩ = some (.int .u8 n) := cell_later hb1 (by simp)
  have hq1 : w1.cell? ⟨w.heap.size + 1, 1, none⟩ = some (.int .i64 0) := cell_later hb1 (by simp)
  have k0 : w1.cell? ⟨g, 0, none⟩ = some (.pointer (some ⟨w.heap.size, 0, none⟩)) := served_cell hcs (by kernel_rfl)
  have k137 : w1.cell? ⟨g, 137, none⟩ = some (.pointer (some ⟨w.heap.size, 0, none⟩)) := served_cell hcs (by kernel_rfl)
  have k138 : w1.cell? ⟨g, 138, none⟩ = some (.iface 34 (.pointer (some ⟨w.heap.size + 1, 0, none⟩))) := served_cell hcs (by kernel_rfl)
  have k139 : w1.cell? ⟨g, 139, none⟩ = some (.slice (some ⟨gn, 0, none⟩) s.size capn) := served_cell hcs (by kernel_rfl)
  have k140 : w1.cell? ⟨g, 140, none⟩ = some (.slice (some ⟨gk, 0, none⟩) 0 capk) := served_cell hcs (by kernel_rfl)
  have k141 : w1.cell? ⟨g, 141, none⟩ = some (.bool b) := served_cell hcs (by kernel_rfl)
  have CS : Hid (w1.heap[g]? = _) := hcs
  have NM : Hid (∀ j, j < s.size → w1.cell? ⟨gn, j, none⟩ = some (.int .u8 (s.data.toList.getD j 0).toNat)) := hnm
  clear hcs hnm
  go_wp2_with fail
  go_quiet (fail)
  go_wp2_with fail
  go_loopw [13] (fun i wr => ∃ k m : Nat, k ≤ s.size ∧ i = .int .i64 k ∧ wr = w1.drewN m) (fun i _ => s.size - (intOf i).toNat)
  case atStart => exact ⟨0, nq, Nat.zero_le _, rfl, rfl⟩
  case round =>
    obtain ⟨k, m, hk, rfl, rfl⟩ := hrel
    by_cases hlt : k < s.size
    · have hkc : w1.cell? ⟨gn, k, none⟩ = some (.int .u8 (s[k].toNat : Int)) := by
        rw [NM.out k hlt]; simp [List.getD, hlt]; rfl
      have hi1 : (k : Int) < (s.size : Int) := by omega
      go_wp2_with fail
      go_quiet (fail)
      go_wp2
      go_roundw
      case rel => exact ⟨k + 1, _, by omega, by go_num, rfl⟩
      case measure => simp [intOf]; omega
    · clear hm0 hm1 hm8 hq0 hq1 k0 k137 k138 k139
      go_wp2_with fail
      go_loop [14] (fun i => i = .int .i64 0) (fun _ => 0)
      case atStart => rfl
      case round =>
        subst hrel
        go_wp2_with fail
        go_quiet (fail)
        have k1 : w1.cell? ⟨g, 1, none⟩ = some (.int .u8 0) := served_cell CS.out (by kernel_rfl)
        have k2 : w1.cell? ⟨g, 2, none⟩ = some (.int .u8 0) := served_cell CS.out (by kernel_rfl)
        have k3 : w1.cell? ⟨g, 3, none⟩ = some (.bool false) := served_cell CS.out (by kernel_rfl)
        have k4 : w1.cell? ⟨g, 4, none⟩ = some (.int .u8 0) := served_cell CS.out (by kernel_rfl)
        have k5 : w1.cell? ⟨g, 5, none⟩ = some (.slice none 0 0) := served_cell CS.out (by kernel_rfl)
        have k6 : w1.cell? ⟨g, 6, none⟩ = some (.slice none 0 0) := served_cell CS.out (by kernel_rfl)
        have k7 : w1.cell? ⟨g, 7, none⟩ = some (.slice none 0 0) := served_cell CS.out (by kernel_rfl)
        have k136 : w1.cell? ⟨g, 136, none⟩ = some .nilIface := served_cell CS.out (by kernel_rfl)
        have k142 : w1.cell? ⟨g, 142, none⟩ = some (.slice none 0 0) := served_cell CS.out (by kernel_rfl)
        have k175 : w1.cell? ⟨g, 175, none⟩ = some (.slice none 0 0) := served_cell CS.out (by kernel_rfl)
        have z1 : ∀ q, Zeros16 (w1.drewN q) (.pointer (some ⟨g, 143, none⟩)) := zeros_at CS.out 143 (by kernel_rfl)
        have z2 : ∀ q, Zeros16 (w1.drewN q) (.pointer (some ⟨g, 159, none⟩)) := zeros_at CS.out 159 (by kernel_rfl)
        go_wp2
        go_ret
        exact ⟨rfl, below_end hb1 _⟩


set_option maxHeartbeats 1000000 in
set_option maxRecDepth 100000 in
theorem builds_full (s : ByteArray) (bx ox len cap : Nat) (zs : List Int) (b : Bool) (n : Int) (w : World) (hr : IsRow16 w (some ⟨bx, ox, none⟩) len cap zs) (hp0 : 0 < len) (h2 : ¬ 4096 < (len : Int)) (h1 : ¬ 4096 < (s.size : Int)) :
    Calls Ybaf.prog 3 #[.string s, .slice (some ⟨bx, ox, none⟩) len cap, .bool b, .int .u8 n] w fun e w' => e = .returned (.bool true) ∧ Below w.heap.size w w' := by
  have R : Hid (IsRow16 w (some ⟨bx, ox, none⟩) len cap zs) := hr
  clear hr
  go_enter Ybaf.func3, Ybaf.ntmps3
  go_wp2_with fail
  refine (server_any w.heap.size (w.heap.size + 1) s (some ⟨bx, ox, none⟩) len cap zs b _ (R.out.later (by go_grown)) (by omega)).mono ?_
  rintro e w1 ⟨g, rfl, ⟨gn, capn, r, capk, hcs, hg1, hg2, hnm, hcp⟩, hb1⟩
  rcases hcp with ⟨hx, _, _⟩ | ⟨gk, _, rfl, hgk, _, ⟨cur, hcur⟩, hkc0⟩
  · cases hx
  have KC : Hid (∀ j, j < len → w1.cell? ⟨gk, j, none⟩ = some (.int .u16 (zs.getD j 0))) := hkc0
  have KB : Hid (∀ j, j < len → w1.cell? ⟨bx, ox + j, none⟩ = some (.int .u16 (zs.getD j 0))) := row_cells (R.out.later (by go_grown)) hb1
  have KE : Hid (∀ q, (binOp .eql 63 (.pointer (some ⟨gk, 0, none⟩)) (.pointer (some ⟨bx, ox, none⟩))).run Ybaf.prog (w1.drewN q) = .ok (.bool false) (w1.drewN q)) := apart63 R.out hp0 hgk hcur hkc0 (row_cells (R.out.later (by go_grown)) hb1)
  clear hcur hkc0 hgk
  have hm0 : w1.cell? ⟨w.heap.size, 0, none⟩ = some (.string ⟨#[69, 65, 80, 45, 65, 75, 65, 39]⟩) := cell_later hb1 (by simp)
  have hm1 : w1.cell? ⟨w.heap.size, 1, none⟩ = some (.int .u8 n) := cell_later hb1 (by simp)
  have hm8 : w1.cell? ⟨w.heap.size, 8, none⟩ = some (.bool b) := cell_later hb1 (by simp)
  have hq0 : w1.cell? ⟨w.heap.size + 1, 0, none⟩ = some (.int .u8 n) := cell_later hb1 (by simp)
  have hq1 : w1.cell? ⟨w.heap.size + 1, 1, none⟩ = some (.int .i64 0) := cell_later hb1 (by simp)
  have k0 : w1.cell? ⟨g, 0, none⟩ = some (.pointer (some ⟨w.heap.size, 0, none⟩)) := served_cell hcs (by kernel_rfl)
  have k137 : w1.cell? ⟨g, 137, none⟩ = some (.pointer (some ⟨w.heap.size, 0, none⟩)) := served_cell hcs (by kernel_rfl)
  have k138 : w1.cell? ⟨g, 138, none⟩ = some (.iface 34 (.pointer (some ⟨w.heap.size + 1, 0, none⟩))) := served_cell hcs (by kernel_rfl)
  have k139 : w1.cell? ⟨g, 139, none⟩ = some (.slice (some ⟨gn, 0, none⟩) s.size capn) := served_cell hcs (by kernel_rfl)
  have k140 : w1.cell? ⟨g, 140, none⟩ = some (.slice (some ⟨gk, 0, none⟩) len capk) := served_cell hcs (by kernel_rfl)
  have k141 : w1.cell? ⟨g, 141, none⟩ = some (.bool b) := served_cell hcs (by kernel_rfl)
  have CS : Hid (w1.heap[g]? = _) := hcs
  have NM : Hid (∀ j, j < s.size → w1.cell? ⟨gn, j, none⟩ = some (.int .u8 (s.data.toList.getD j 0).toNat)) := hnm
  clear hcs hnm
  go_wp2_with fail
  go_quiet (fail)
  go_wp2_with fail
  go_loopw [13] (fun i wr => ∃ k m : Nat, k ≤ s.size ∧ i = .int .i64 k ∧ wr = w1.drewN m) (fun i _ => s.size - (intOf i).toNat)
  case atStart => exact ⟨0, nq, Nat.zero_le _, rfl, rfl⟩
  case round =>
    obtain ⟨k, m, hk, rfl, rfl⟩ := hrel
    by_cases hlt : k < s.size
    · have hkc : w1.cell? ⟨gn, k, none⟩ = some (.int .u8 (s[k].toNat : Int)) := by
        rw [NM.out k hlt]; simp [List.getD, hlt]; rfl
      have hi1 : (k : Int) < (s.size : Int) := by omega
      go_wp2_with fail
      go_quiet (fail)
      go_wp2
      go_roundw
      case rel => exact ⟨k + 1, _, by omega, by go_num, rfl⟩
      case measure => simp [intOf]; omega
    · clear hm0 hm1 hm8 hq0 hq1 k0 k137 k138 k139
      go_wp2_with fail
      go_loopw [14] (fun i wr => ∃ k' m' : Nat, k' ≤ len ∧ i = .int .i64 k' ∧ wr = w1.drewN m') (fun i _ => len - (intOf i).toNat)
      case atStart => exact ⟨0, _, Nat.zero_le _, rfl, rfl⟩
      case round =>
       obtain ⟨k', m', hk', rfl, rfl⟩ := hrel
       by_cases hlt' : k' < len
       · have hka : w1.cell? ⟨gk, k', none⟩ = some (.int .u16 (zs.getD k' 0)) := KC.out k' hlt'
         have hkb : w1.cell? ⟨bx, ox + k', none⟩ = some (.int .u16 (zs.getD k' 0)) := KB.out k' hlt'
         have hi2 : (k' : Int) < (len : Int) := by omega
         have hi3 : (len : Int) ≤ 4096 := by omega
         go_wp2_with fail
         go_quiet (fail)
         go_wp2
         go_roundw
         case rel => exact ⟨k' + 1, _, by omega, by go_num, rfl⟩
         case measure => simp [intOf]; omega
       · have hp : (0 : Int) < (len : Int) := by omega
         have hd : decide ((0 : Int) < (len : Int)) = true := by simpa using hp
         have hq63 : ∀ q, (binOp .eql 63 (.pointer (some ⟨gk, 0, none⟩)) (.pointer (some ⟨bx, ox, none⟩))).run Ybaf.prog (w1.drewN q) = .ok (.bool false) (w1.drewN q) := KE.out
         go_wp2_with fail
         go_quiet (fail)
         have k1 : w1.cell? ⟨g, 1, none⟩ = some (.int .u8 0) := served_cell CS.out (by kernel_rfl)
         have k2 : w1.cell? ⟨g, 2, none⟩ = some (.int .u8 0) := served_cell CS.out (by kernel_rfl)
         have k3 : w1.cell? ⟨g, 3, none⟩ = some (.bool false) := served_cell CS.out (by kernel_rfl)
         have k4 : w1.cell? ⟨g, 4, none⟩ = some (.int .u8 0) := served_cell CS.out (by kernel_rfl)
         have k5 : w1.cell? ⟨g, 5, none⟩ = some (.slice none 0 0) := served_cell CS.out (by kernel_rfl)
         have k6 : w1.cell? ⟨g, 6, none⟩ = some (.slice none 0 0) := served_cell CS.out (by kernel_rfl)
         have k7 : w1.cell? ⟨g, 7, none⟩ = some (.slice none 0 0) := served_cell CS.out (by kernel_rfl)
         have k136 : w1.cell? ⟨g, 136, none⟩ = some .nilIface := served_cell CS.out (by kernel_rfl)
         have k142 : w1.cell? ⟨g, 142, none⟩ = some (.slice none 0 0) := served_cell CS.out (by kernel_rfl)
         have k175 : w1.cell? ⟨g, 175, none⟩ = some (.slice none 0 0) := served_cell CS.out (by kernel_rfl)
         have z1 : ∀ q, Zeros16 (w1.drewN q) (.pointer (some ⟨g, 143, none⟩)) := zeros_at CS.out 143 (by kernel_rfl)
         have z2 : ∀ q, Zeros16 (w1.drewN q) (.pointer (some ⟨g, 159, none⟩)) := zeros_at CS.out 159 (by kernel_rfl)
         go_wp2
         go_ret
         exact ⟨rfl, below_end hb1 _⟩


end Go.Proofs.YbulkcsgsFmt
