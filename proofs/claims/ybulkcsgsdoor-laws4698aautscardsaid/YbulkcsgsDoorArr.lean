/-
  '==' of two arrays of bytes that are one; the literals that the laws build.
-/
import Derived.Test.YbulkcsgsDoorStar
namespace Go.Proofs.YbulkcsgsDoor
open Go.RowKit

theorem run_forIn_yield {σ : Type} (P : Program) (w : World) (f : Nat → σ → Sem (ForInStep σ)) (s : σ) : ∀ (l : List Nat), (∀ i ∈ l, (f i s).run P w = .ok (.yield s) w) → (forIn l s f).run P w = .ok s w
  | [], _ => by simp
  | i :: l, h => by
    rw [List.forIn_cons, Sem.run_bind, h i (by simp)]
    simp only [Result.andThen_ok]
    exact run_forIn_yield P w f s l (fun j hj => h j (by simp [hj]))

theorem run_part5 (w : World) (xs : List UInt8) (i : Nat) (hi : i < xs.length) : (part 5 (rv xs).toArray i).run Ybad.prog w = .ok (bv xs[i]) w := by
  have ha : (isAgg 5).run Ybad.prog w = .ok false w := by kernel_rfl
  have e : (rv xs)[i]? = some (bv xs[i]) := by rw [rv_get, List.getElem?_eq_getElem hi]; rfl
  simp [part, ha, e]

theorem eq_rows {t n : Nat} (d : Nat) (w : World) (xs : List UInt8) (hu : Ybad.prog.underlying t = some (.array n 5)) (hl : xs.length = n) :
    (Op.equalIn (d + 2) t (.agg (rv xs).toArray) (.agg (rv xs).toArray)).run Ybad.prog w = .ok true w := by
  have hs : (sizeOf 5).run Ybad.prog w = .ok 1 w := by kernel_rfl
  have he : ∀ b : UInt8, (Op.equalIn (d + 1) 5 (bv b) (bv b)).run Ybad.prog w = .ok true w := fun b => by
    have := run_equalIn_int (P := Ybad.prog) w d 5 .u8 .u8 (b.toNat : Int) (b.toNat : Int) Ybad.underlying5
    simpa [bv] using this
  rw [Op.equalIn]
  simp only [Sem.run_bind, run_underlying hu, Result.andThen_ok, hs, Std.Legacy.Range.forIn_eq_forIn_range']
  rw [run_forIn_yield]
  · rfl
  · intro i hi
    have hi' : i < xs.length := by
      have := List.mem_range'.1 hi
      simp [Std.Legacy.Range.size] at this
      omega
    simp [run_part5 w xs i hi', he]

theorem list16 (l : List UInt8) (h : l.length = 16) : ∃ a0 a1 a2 a3 a4 a5 a6 a7 a8 a9 a10 a11 a12 a13 a14 a15, l = [a0, a1, a2, a3, a4, a5, a6, a7, a8, a9, a10, a11, a12, a13, a14, a15] := by
  match l, h with
  | [a0, a1, a2, a3, a4, a5, a6, a7, a8, a9, a10, a11, a12, a13, a14, a15], _ => exact ⟨a0, a1, a2, a3, a4, a5, a6, a7, a8, a9, a10, a11, a12, a13, a14, a15, rfl⟩
/-- The stand-in's block as the law builds it: the key, no call yet, no input yet. -/
def blk0 (k : List UInt8) : Array Value := (rv k ++ [Value.int .i64 0] ++ rv (zl 16)).toArray
/-- The Milenage's block. -/
def mil0 (v : Value) (o : List UInt8) : Array Value := (v :: rv o).toArray
section
variable (ρ : Operand → Value) (d : Option Tmp) (x y : Operand) (ty : TypeId) (pos : String) (af : Array Edge) (g : Option (Nat × Bool)) (w : World)
theorem exec_build25 (h : IsRv 16 (ρ x)) : (execOp ρ ⟨d, .build 25 #[(0, x)], ty, pos, af, g⟩).run Ybad.prog w = .ok (.value (.agg (blk0 (bytesOf (ρ x))))) w := by
  obtain ⟨k, hk, hl⟩ := h
  have e : (Instr.build 25 #[(0, .agg (rv k).toArray)]).run Ybad.prog w = .ok (.agg (blk0 k)) w := by
    obtain ⟨a0, a1, a2, a3, a4, a5, a6, a7, a8, a9, a10, a11, a12, a13, a14, a15, rfl⟩ := list16 k hl
    kernel_rfl
  rw [hk, bytesOf_rv]
  simp only [execOp, List.map_toArray, List.map_cons, List.map_nil, hk, Sem.run_bind, e, Result.andThen_ok]
  rfl
def ifT : Value → TypeId
  | .iface t _ => t
  | _ => 0
def ifV : Value → Value
  | .iface _ x => x
  | v => v
theorem ifT_iface (t : TypeId) (v : Value) : ifT (.iface t v) = t := rfl
theorem ifV_iface (t : TypeId) (v : Value) : ifV (.iface t v) = v := rfl
theorem exec_build30 (h0 : ρ x = .iface (ifT (ρ x)) (ifV (ρ x))) (h : IsRv 16 (ρ y)) : (execOp ρ ⟨d, .build 30 #[(0, x), (1, y)], ty, pos, af, g⟩).run Ybad.prog w = .ok (.value (.agg (mil0 (.iface (ifT (ρ x)) (ifV (ρ x))) (bytesOf (ρ y))))) w := by
  obtain ⟨k, hk, hl⟩ := h
  generalize ifT (ρ x) = t at *
  generalize ifV (ρ x) = v at *
  have e : (Instr.build 30 #[(0, .iface t v), (1, .agg (rv k).toArray)]).run Ybad.prog w = .ok (.agg (mil0 (.iface t v) k)) w := by
    obtain ⟨a0, a1, a2, a3, a4, a5, a6, a7, a8, a9, a10, a11, a12, a13, a14, a15, rfl⟩ := list16 k hl
    kernel_rfl
  rw [hk, bytesOf_rv]
  simp only [execOp, List.map_toArray, List.map_cons, List.map_nil, hk, h0, Sem.run_bind, e, Result.andThen_ok]
  rfl
end

theorem row_of_block {w : World} {b o : Nat} {C : Array Value} {t : TypeId} (xs : List UInt8) (h : w.heap[b]? = some (.cells C t)) (hC : ∀ j v, (rv xs)[j]? = some v → C[o + j]? = some v) : Row w b o xs :=
  ⟨⟨C, t, h⟩, fun j v hv => by rw [cell_of_row w b (o + j) C t (0, 0) h]; exact hC j v hv⟩

theorem mil_new {w : World} {bm bb : Nat} {opc key : List UInt8} (hne : bm ≠ bb) (lo : opc.length = 16) (lk : key.length = 16) (h1 : w.heap[bb]? = some (.cells (blk0 key) 25)) (h2 : w.heap[bm]? = some (.cells (mil0 (.iface 23 (.pointer (some ⟨bb, 0, none⟩))) opc) 30)) :
    Mil w bm bb opc key (zl 16) 0 := by
  have l1 : (rv key).length = 16 := by rw [rv_length, lk]
  refine ⟨hne, ?_, row_of_block opc h2 ?_, row_of_block key h1 ?_, ?_, row_of_block (zl 16) h1 ?_, lo, lk, zl_length 16⟩
  · rw [cell_of_row w bm 0 _ 30 (0, 0) h2]; rfl
  · intro j v hv
    simp only [mil0]
    rw [show 1 + j = j + 1 by omega]
    simpa using hv
  · intro j v hv
    have hj := (List.getElem?_eq_some_iff.1 hv).1
    simp only [blk0, Nat.zero_add, List.getElem?_toArray]
    rw [List.append_assoc, List.getElem?_append_left hj]
    exact hv
  · rw [cell_of_row w bb 16 _ 25 (0, 0) h1]
    simp only [blk0, List.getElem?_toArray]
    rw [List.append_assoc, List.getElem?_append_right (by omega), l1]
    rfl
  · intro j v hv
    simp only [blk0, List.getElem?_toArray]
    rw [List.getElem?_append_right (by simp [l1])]
    simpa [l1, show 17 + j - 17 = j by omega] using hv

/-- A whole array of 16 bytes, read in a statement that leaves its order open and only reads. -/
theorem quiet_row {o : Oper} {a : Act} {C : World → Prop} {K : Act → Prop} {x : Operand} {b off : Nat} {Y : List UInt8} (ho : o.op = .load 22 x) (hx : a.eval x = .pointer (some ⟨b, off, none⟩)) (lY : Y.length = 16) (hC : ∀ w, C w → Row w b off Y)
    (hk : K (a.put o.dst (.agg (rv Y).toArray))) : o.quiet Ybad.prog a C K := by
  refine ⟨_, fun w hw => ?_, hk⟩
  have e := run_loadVar_mid (P := Ybad.prog) w b off 22 (rv Y) _ (hC w hw).2 Ybad.underlying22 rfl (by rw [rv_length, lY]; kernel_rfl)
  unfold Oper.quietAt
  have r : (execOp a.eval o).run Ybad.prog w = .ok (.value (.agg (rv Y).toArray)) w := by
    unfold execOp
    simp only [ho, hx, Instr.loadAt, Instr.sureAddr, Sem.run_bind, Sem.run_pure, Result.andThen_ok, e]
  rw [r]
  exact ⟨rfl, rfl⟩

end Go.Proofs.YbulkcsgsDoor
