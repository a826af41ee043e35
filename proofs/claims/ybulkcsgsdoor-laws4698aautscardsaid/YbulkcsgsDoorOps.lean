/-
  THE OPERATIONS ON WHOLE ARRAYS OF BYTES, as rules for the walk: an array is loaded and stored as a row of bytes, never cell by cell.
-/
import Derived.Test.YbulkcsgsDoorXor
namespace Go.Proofs.YbulkcsgsDoor
open Go.RowKit

def byteOf : Option Value → UInt8
  | some (.int .u8 n) => UInt8.ofNat n.toNat
  | _ => 0
theorem byteOf_bv (b : UInt8) : byteOf (some (bv b)) = b := by simp [byteOf, bv]
def vblk : Value → Nat
  | .pointer (some a) => a.block
  | _ => 0
def voff : Value → Nat
  | .pointer (some a) => a.off
  | _ => 0
theorem vblk_pointer (a : Addr) : vblk (.pointer (some a)) = a.block := rfl
theorem voff_pointer (a : Addr) : voff (.pointer (some a)) = a.off := rfl
/-- The n bytes that lie at v. -/
def readN (n : Nat) (w : World) (v : Value) : List UInt8 := (List.range n).map fun j => byteOf (w.cell? ⟨vblk v, voff v + j, none⟩)
/-- n bytes lie at v, in a block of plain cells. -/
def Has (n : Nat) (w : World) (v : Value) : Prop := ∃ b o xs, v = .pointer (some ⟨b, o, none⟩) ∧ xs.length = n ∧ Row w b o xs
/-- v is an array of n bytes. -/
def IsRv (n : Nat) (v : Value) : Prop := ∃ ys, v = .agg (rv ys).toArray ∧ ys.length = n
def bytesOf : Value → List UInt8
  | .agg cs => cs.toList.map fun v => byteOf (some v)
  | _ => []
theorem bytesOf_rv (ys : List UInt8) : bytesOf (.agg (rv ys).toArray) = ys := by
  simp only [bytesOf]
  simp [rv, byteOf_bv, Function.comp_def]
theorem isRv_rv (n : Nat) (ys : List UInt8) (h : ys.length = n) : IsRv n (.agg (rv ys).toArray) = True := by
  simp only [eq_iff_iff, iff_true]
  exact ⟨ys, rfl, h⟩

theorem Row.read {w : World} {b o n : Nat} {xs : List UInt8} (h : Row w b o xs) (hl : xs.length = n) : readN n w (.pointer (some ⟨b, o, none⟩)) = xs := by
  subst hl
  apply List.ext_getElem
  · simp [readN]
  · intro j h1 h2
    simp only [readN, vblk_pointer, voff_pointer, List.getElem_map, List.getElem_range]
    rw [h.cell j h2, byteOf_bv]
theorem Row.has {w : World} {b o n : Nat} {xs : List UInt8} (h : Row w b o xs) (hl : xs.length = n) : Has n w (.pointer (some ⟨b, o, none⟩)) := ⟨b, o, xs, rfl, hl, h⟩
theorem readN_length (n : Nat) (w : World) (v : Value) : (readN n w v).length = n := by simp [readN]

theorem run_load {t n : Nat} {d' : TypeDesc} (hu : Ybad.prog.underlying t = some d') (hd : d'.isRow = true) (hi : (Ybad.prog.info? t).map (·.size) = some n)
    (ρ : Operand → Value) (d : Option Tmp) (x : Operand) (ty : TypeId) (pos : String) (af : Array Edge) (g : Option (Nat × Bool)) (w : World) (h : Has n w (ρ x)) :
    (execOp ρ ⟨d, .load t x, ty, pos, af, g⟩).run Ybad.prog w = .ok (.value (.agg (rv (readN n w (ρ x))).toArray)) w := by
  obtain ⟨b, o, xs, hv, hl, hr⟩ := h
  have e := run_loadVar_mid (P := Ybad.prog) w b o t (rv xs) d' hr.2 hu hd (by rw [rv_length, hl]; exact hi)
  rw [hv, hr.read hl]
  simp only [execOp, hv, Instr.loadAt, Instr.sureAddr, Sem.run_bind, Sem.run_pure, Result.andThen_ok, e]

theorem run_loadVarN {t n : Nat} {d' : TypeDesc} (hu : Ybad.prog.underlying t = some d') (hd : d'.isRow = true) (hi : (Ybad.prog.info? t).map (·.size) = some n) (b o : Nat) (w : World) (h : Has n w (.pointer (some ⟨b, o, none⟩))) :
    (loadVar t ⟨b, o, none⟩).run Ybad.prog w = .ok (.agg (rv (readN n w (.pointer (some ⟨b, o, none⟩)))).toArray) w := by
  obtain ⟨b', o', xs, hv, hl, hr⟩ := h
  cases hv
  rw [hr.read hl]
  exact run_loadVar_mid (P := Ybad.prog) w b o t (rv xs) d' hr.2 hu hd (by rw [rv_length, hl]; exact hi)
theorem run_loadVar22 (b o : Nat) (w : World) (h : Has 16 w (.pointer (some ⟨b, o, none⟩))) : (loadVar 22 ⟨b, o, none⟩).run Ybad.prog w = .ok (.agg (rv (readN 16 w (.pointer (some ⟨b, o, none⟩)))).toArray) w := run_loadVarN Ybad.underlying22 rfl (by kernel_rfl) b o w h
theorem run_loadVar31 (b o : Nat) (w : World) (h : Has 6 w (.pointer (some ⟨b, o, none⟩))) : (loadVar 31 ⟨b, o, none⟩).run Ybad.prog w = .ok (.agg (rv (readN 6 w (.pointer (some ⟨b, o, none⟩)))).toArray) w := run_loadVarN Ybad.underlying31 rfl (by kernel_rfl) b o w h
theorem run_loadVar40 (b o : Nat) (w : World) (h : Has 8 w (.pointer (some ⟨b, o, none⟩))) : (loadVar 40 ⟨b, o, none⟩).run Ybad.prog w = .ok (.agg (rv (readN 8 w (.pointer (some ⟨b, o, none⟩)))).toArray) w := run_loadVarN Ybad.underlying40 rfl (by kernel_rfl) b o w h
theorem run_loadVar35 (b o : Nat) (w : World) (h : Has 14 w (.pointer (some ⟨b, o, none⟩))) : (loadVar 35 ⟨b, o, none⟩).run Ybad.prog w = .ok (.agg (rv (readN 14 w (.pointer (some ⟨b, o, none⟩)))).toArray) w := run_loadVarN Ybad.underlying35 rfl (by kernel_rfl) b o w h

theorem run_store {t n : Nat} (hi : (Ybad.prog.info? t).map (·.size) = some n)
    (ρ : Operand → Value) (d : Option Tmp) (x y : Operand) (ty : TypeId) (pos : String) (af : Array Edge) (g : Option (Nat × Bool)) (w : World) (h : Has n w (ρ x)) (hy : IsRv n (ρ y)) :
    (execOp ρ ⟨d, .store t x y, ty, pos, af, g⟩).run Ybad.prog w = .ok .skip (w.setCells (vblk (ρ x)) (voff (ρ x)) (rv (bytesOf (ρ y)))) := by
  obtain ⟨b, o, xs, hv, hl, hr⟩ := h
  obtain ⟨ys, hy, hyl⟩ := hy
  have ht := hr.there
  have e := run_storeVar_mid (P := Ybad.prog) w b o t (rv ys).toArray (by simpa [rv, hyl, hl] using ht) (by rw [hi]; simp [rv, hyl]) (all_oneCell_toArray (rv_one ys))
  rw [hv, hy, bytesOf_rv, vblk_pointer, voff_pointer]
  simp only [execOp, hv, hy, Instr.storeAt, Instr.sureAddr, Sem.run_bind, Sem.run_pure, Result.andThen_ok, e]

section
variable (ρ : Operand → Value) (d : Option Tmp) (x y : Operand) (ty : TypeId) (pos : String) (af : Array Edge) (g : Option (Nat × Bool)) (w : World)
theorem exec_load22 (h : Has 16 w (ρ x)) : (execOp ρ ⟨d, .load 22 x, ty, pos, af, g⟩).run Ybad.prog w = .ok (.value (.agg (rv (readN 16 w (ρ x))).toArray)) w := run_load Ybad.underlying22 rfl (by kernel_rfl) ρ d x ty pos af g w h
theorem exec_load31 (h : Has 6 w (ρ x)) : (execOp ρ ⟨d, .load 31 x, ty, pos, af, g⟩).run Ybad.prog w = .ok (.value (.agg (rv (readN 6 w (ρ x))).toArray)) w := run_load Ybad.underlying31 rfl (by kernel_rfl) ρ d x ty pos af g w h
theorem exec_load40 (h : Has 8 w (ρ x)) : (execOp ρ ⟨d, .load 40 x, ty, pos, af, g⟩).run Ybad.prog w = .ok (.value (.agg (rv (readN 8 w (ρ x))).toArray)) w := run_load Ybad.underlying40 rfl (by kernel_rfl) ρ d x ty pos af g w h
theorem exec_load35 (h : Has 14 w (ρ x)) : (execOp ρ ⟨d, .load 35 x, ty, pos, af, g⟩).run Ybad.prog w = .ok (.value (.agg (rv (readN 14 w (ρ x))).toArray)) w := run_load Ybad.underlying35 rfl (by kernel_rfl) ρ d x ty pos af g w h
theorem exec_store22 (h : Has 16 w (ρ x)) (hy : IsRv 16 (ρ y)) : (execOp ρ ⟨d, .store 22 x y, ty, pos, af, g⟩).run Ybad.prog w = .ok .skip (w.setCells (vblk (ρ x)) (voff (ρ x)) (rv (bytesOf (ρ y)))) := run_store (by kernel_rfl) ρ d x y ty pos af g w h hy
theorem exec_store31 (h : Has 6 w (ρ x)) (hy : IsRv 6 (ρ y)) : (execOp ρ ⟨d, .store 31 x y, ty, pos, af, g⟩).run Ybad.prog w = .ok .skip (w.setCells (vblk (ρ x)) (voff (ρ x)) (rv (bytesOf (ρ y)))) := run_store (by kernel_rfl) ρ d x y ty pos af g w h hy
theorem exec_store40 (h : Has 8 w (ρ x)) (hy : IsRv 8 (ρ y)) : (execOp ρ ⟨d, .store 40 x y, ty, pos, af, g⟩).run Ybad.prog w = .ok .skip (w.setCells (vblk (ρ x)) (voff (ρ x)) (rv (bytesOf (ρ y)))) := run_store (by kernel_rfl) ρ d x y ty pos af g w h hy
theorem exec_store35 (h : Has 14 w (ρ x)) (hy : IsRv 14 (ρ y)) : (execOp ρ ⟨d, .store 35 x y, ty, pos, af, g⟩).run Ybad.prog w = .ok .skip (w.setCells (vblk (ρ x)) (voff (ρ x)) (rv (bytesOf (ρ y)))) := run_store (by kernel_rfl) ρ d x y ty pos af g w h hy
/-- n zero bytes. -/
def zl (n : Nat) : List UInt8 := List.replicate n 0
theorem exec_alloc22 : (execOp ρ ⟨d, .alloc 22, ty, pos, af, g⟩).run Ybad.prog w = .ok (.value (.pointer (some ⟨w.heap.size, 0, none⟩))) (w.alloc (.cells (rv (zl 16)).toArray 22)) := by kernel_rfl
theorem exec_alloc31 : (execOp ρ ⟨d, .alloc 31, ty, pos, af, g⟩).run Ybad.prog w = .ok (.value (.pointer (some ⟨w.heap.size, 0, none⟩))) (w.alloc (.cells (rv (zl 6)).toArray 31)) := by kernel_rfl
theorem exec_alloc40 : (execOp ρ ⟨d, .alloc 40, ty, pos, af, g⟩).run Ybad.prog w = .ok (.value (.pointer (some ⟨w.heap.size, 0, none⟩))) (w.alloc (.cells (rv (zl 8)).toArray 40)) := by kernel_rfl
theorem exec_alloc35 : (execOp ρ ⟨d, .alloc 35, ty, pos, af, g⟩).run Ybad.prog w = .ok (.value (.pointer (some ⟨w.heap.size, 0, none⟩))) (w.alloc (.cells (rv (zl 14)).toArray 35)) := by kernel_rfl
end
theorem zl_length (n : Nat) : (zl n).length = n := by simp [zl]

/-! ### 'Has', 'readN' behind a draw, a new block -/
theorem has_drewN (n : Nat) (w : World) (v : Value) (q : Nat) : Has n (w.drewN q) v = Has n w v := rfl
theorem has_drew (n : Nat) (w : World) (v : Value) : Has n w.drew v = Has n w v := rfl
theorem read_drewN (n : Nat) (w : World) (v : Value) (q : Nat) : readN n (w.drewN q) v = readN n w v := rfl
theorem read_drew (n : Nat) (w : World) (v : Value) : readN n w.drew v = readN n w v := rfl
theorem has_new (n : Nat) (w : World) (xs : List UInt8) (t : TypeId) (b : Nat) (hb : b = w.heap.size) (hl : xs.length = n) : Has n (w.alloc (.cells (rv xs).toArray t)) (.pointer (some ⟨b, 0, none⟩)) = True := by
  simp only [eq_iff_iff, iff_true]
  subst hb
  exact (row_new w t xs).has hl
theorem read_new (n : Nat) (w : World) (xs : List UInt8) (t : TypeId) (b : Nat) (hb : b = w.heap.size) (hl : xs.length = n) : readN n (w.alloc (.cells (rv xs).toArray t)) (.pointer (some ⟨b, 0, none⟩)) = xs := by
  subst hb
  exact (row_new w t xs).read hl
theorem has_old (n : Nat) (w : World) (o : Obj) (b off : Nat) (h : Has n w (.pointer (some ⟨b, off, none⟩))) : Has n (w.alloc o) (.pointer (some ⟨b, off, none⟩)) = True := by
  simp only [eq_iff_iff, iff_true]
  obtain ⟨b', o', xs, hv, hl, hr⟩ := h
  exact ⟨b', o', xs, hv, hl, hr.alloc o⟩
theorem read_old (n : Nat) (w : World) (o : Obj) (b off : Nat) (h : b < w.heap.size) : readN n (w.alloc o) (.pointer (some ⟨b, off, none⟩)) = readN n w (.pointer (some ⟨b, off, none⟩)) := by
  simp only [readN, vblk_pointer, voff_pointer]
  apply List.map_congr_left
  intro j _
  rw [World.cell?_alloc_lt w o ⟨b, off + j, none⟩ h]
theorem read_dst {w : World} {b o n : Nat} {xs : List UInt8} (h : Row w b o xs) (ys : List UInt8) (hl : ys.length = xs.length) (hn : ys.length = n) : readN n (w.setCells b o (rv ys)) (.pointer (some ⟨b, o, none⟩)) = ys := (h.set_same ys hl).read hn

/-! ### A new block written whole -/
def setsFrom (C : Array Value) : Nat → List Value → Array Value
  | _, [] => C
  | o, v :: r => setsFrom (C.setIfInBounds o v) (o + 1) r
theorem setsFrom_get : ∀ (vs : List Value) (C : Array Value) (o k : Nat), o + vs.length ≤ C.size → (setsFrom C o vs)[k]? = if o ≤ k ∧ k < o + vs.length then vs[k - o]? else C[k]?
  | [], C, o, k, _ => by simp [setsFrom]; omega
  | v :: r, C, o, k, h => by
    rw [setsFrom, setsFrom_get r (C.setIfInBounds o v) (o + 1) k (by simp at h ⊢; omega)]
    simp only [List.length_cons] at h ⊢
    by_cases h1 : o + 1 ≤ k ∧ k < o + 1 + r.length
    · rw [if_pos h1, if_pos (by omega), show k - o = (k - (o + 1)) + 1 by omega, List.getElem?_cons_succ]
    · rw [if_neg h1, Array.getElem?_setIfInBounds]
      by_cases h2 : o = k
      · subst h2
        rw [if_pos rfl, if_pos (by omega), if_pos (by omega)]; simp
      · rw [if_neg h2, if_neg (by omega)]
theorem setsFrom_size : ∀ (vs : List Value) (C : Array Value) (o : Nat), (setsFrom C o vs).size = C.size
  | [], _, _ => rfl
  | v :: r, C, o => by rw [setsFrom, setsFrom_size r]; simp
theorem setCells_alloc (w : World) (t : TypeId) : ∀ (vs : List Value) (C : Array Value) (o : Nat), (w.alloc (.cells C t)).setCells w.heap.size o vs = w.alloc (.cells (setsFrom C o vs) t)
  | [], _, _ => rfl
  | v :: r, C, o => by
    rw [World.setCells, World.setCell_alloc_at _ _ _ _ _ rfl, setCells_alloc w t r, setsFrom]
theorem put_new (w : World) (t : TypeId) (xs ys : List UInt8) (h : ys.length = xs.length) : (w.alloc (.cells (rv xs).toArray t)).setCells w.heap.size 0 (rv ys) = w.alloc (.cells (rv ys).toArray t) := by
  rw [setCells_alloc]
  congr 2
  apply Array.ext_getElem?
  intro k
  rw [setsFrom_get _ _ _ _ (by simp [rv_length, h])]
  by_cases hk : k < (rv ys).length
  · rw [if_pos (by omega)]; simp
  · rw [if_neg (by omega)]; simp [rv_length] at hk ⊢; rw [List.getElem?_eq_none (by rw [rv_length]; omega), List.getElem?_eq_none (by rw [rv_length]; omega)]

end Go.Proofs.YbulkcsgsDoor
