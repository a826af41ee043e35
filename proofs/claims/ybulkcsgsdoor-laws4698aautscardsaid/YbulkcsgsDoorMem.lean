/-
  ROWS OF BYTES IN MEMORY, and what a call leaves of the old memory: the words in which this seat's contracts are said.
-/
import Derived.Test.YbulkcsgsDoorRows
import Derived.WalkKit
import Derived.WalkSpells
import Derived.WalkLawsBesides
import Derived.Handy
import Derived.Deep.MidRow
import Derived.LaidEqlPtr
namespace Go.Proofs.YbulkcsgsDoor
open Go.RowKit

/-- A byte as a value. -/
def bv (b : UInt8) : Value := .int .u8 (b.toNat : Int)
/-- A row of bytes as values. -/
def rv (xs : List UInt8) : List Value := xs.map bv
theorem rv_length (xs : List UInt8) : (rv xs).length = xs.length := by simp [rv]
theorem rv_get (xs : List UInt8) (j : Nat) : (rv xs)[j]? = xs[j]?.map bv := by simp [rv]
theorem rv_one (xs : List UInt8) : ∀ v ∈ rv xs, v.oneCell' = true := by
  intro v hv
  obtain ⟨b, _, rfl⟩ := List.mem_map.1 hv
  rfl
theorem rv_append (xs ys : List UInt8) : rv (xs ++ ys) = rv xs ++ rv ys := by simp [rv]

/-- A block of plain cells, none of them marked. -/
def Own (w : World) (b : Nat) : Prop := ∃ C t, w.heap[b]? = some (.cells C t)
/-- The bytes xs lie in such a block from o on. -/
def Row (w : World) (b o : Nat) (xs : List UInt8) : Prop := Own w b ∧ w.rangeAt b o (rv xs)

theorem Own.lt {w : World} {b : Nat} (h : Own w b) : b < w.heap.size := by
  obtain ⟨C, t, h⟩ := h
  exact (Array.getElem?_eq_some_iff.1 h).1
theorem Own.frozen {w : World} {b : Nat} (h : Own w b) (o : Nat) : w.frozen? ⟨b, o, none⟩ = false := by
  obtain ⟨C, t, h⟩ := h
  simp [World.frozen?, h]
theorem Own.setCell {w : World} {b : Nat} (h : Own w b) (a : Addr) (v : Value) : Own (w.setCell a v) b := by
  obtain ⟨C, t, h⟩ := h
  by_cases e : a.block = b
  · subst e
    refine ⟨if a.spot.isSome then C else C.setIfInBounds a.off v, t, ?_⟩
    simp [World.setCell, Array.getElem?_modify, h]
  · refine ⟨C, t, ?_⟩
    rw [Below.heap_setCell w a v b (Ne.symm e), h]
theorem Own.setCells {b : Nat} (b' : Nat) : ∀ (vs : List Value) (o : Nat) {w : World}, Own w b → Own (w.setCells b' o vs) b
  | [], _, _, h => h
  | _ :: r, o, _, h => Own.setCells b' r (o + 1) (h.setCell _ _)
theorem size_setCells (b' : Nat) : ∀ (vs : List Value) (o : Nat) (w : World), (w.setCells b' o vs).heap.size = w.heap.size
  | [], _, _ => rfl
  | v :: r, o, w => by rw [World.setCells, size_setCells b' r (o + 1)]; simp [World.setCell]
theorem heap_setCells (b' : Nat) : ∀ (vs : List Value) (o : Nat) (w : World) (k : Nat), k ≠ b' → (w.setCells b' o vs).heap[k]? = w.heap[k]?
  | [], _, _, _, _ => rfl
  | v :: r, o, w, k, h => by rw [World.setCells, heap_setCells b' r (o + 1) _ k h, Below.heap_setCell w _ v k h]
theorem Own.alloc {w : World} {b : Nat} (h : Own w b) (o : Obj) : Own (w.alloc o) b := by
  have hl := h.lt
  obtain ⟨C, t, h⟩ := h
  exact ⟨C, t, by rw [Below.heap_alloc w o b hl, h]⟩
theorem own_new (w : World) (C : Array Value) (t : TypeId) : Own (w.alloc (.cells C t)) w.heap.size := ⟨C, t, heap_alloc_new w _⟩

theorem Row.range {w : World} {b o : Nat} {xs : List UInt8} (h : Row w b o xs) : w.rangeAt b o (rv xs) := h.2
theorem Row.there {w : World} {b o : Nat} {xs : List UInt8} (h : Row w b o xs) : w.there b o xs.length := fun j hj =>
  ⟨h.2.isSome j (by simpa [rv] using hj), h.1.frozen _⟩
theorem Row.cell {w : World} {b o : Nat} {xs : List UInt8} (h : Row w b o xs) (j : Nat) (hj : j < xs.length) : w.cell? ⟨b, o + j, none⟩ = some (bv xs[j]) :=
  h.2 j _ (by rw [rv_get, List.getElem?_eq_getElem hj]; rfl)
theorem Row.lt {w : World} {b o : Nat} {xs : List UInt8} (h : Row w b o xs) : b < w.heap.size := h.1.lt
theorem Row.set_same {w : World} {b o : Nat} {xs : List UInt8} (h : Row w b o xs) (ys : List UInt8) (hl : ys.length = xs.length) : Row (w.setCells b o (rv ys)) b o ys :=
  ⟨h.1.setCells b _ _, World.rangeAt_setCells_same w b o (rv ys) (by rw [rv_length, hl]; exact h.there)⟩
theorem Row.set_apart {w : World} {b' o' : Nat} {xs : List UInt8} (h : Row w b' o' xs) (b o : Nat) (vs : List Value) (hap : b' ≠ b ∨ o' + xs.length ≤ o ∨ o + vs.length ≤ o') : Row (w.setCells b o vs) b' o' xs :=
  ⟨h.1.setCells b _ _, World.rangeAt_setCells_apart h.2 b o vs (by rw [rv_length]; exact hap)⟩
theorem Row.alloc {w : World} {b o : Nat} {xs : List UInt8} (h : Row w b o xs) (ob : Obj) : Row (w.alloc ob) b o xs := ⟨h.1.alloc ob, World.rangeAt_alloc h.2 ob⟩
theorem Row.drewN {w : World} {b o : Nat} {xs : List UInt8} (h : Row w b o xs) (n : Nat) : Row (w.drewN n) b o xs := h
theorem Row.part {w : World} {b o : Nat} {xs : List UInt8} (h : Row w b o xs) (i n : Nat) : Row w b (o + i) ((xs.drop i).take n) := by
  refine ⟨h.1, fun j v hv => ?_⟩
  rw [rv_get, List.getElem?_take] at hv
  split at hv
  · rw [List.getElem?_drop] at hv
    have := h.2 (i + j) v (by rw [rv_get]; exact hv)
    rwa [show o + i + j = o + (i + j) by omega]
  · cases hv
theorem row_new (w : World) (t : TypeId) (xs : List UInt8) : Row (w.alloc (.cells (rv xs).toArray t)) w.heap.size 0 xs := by
  refine ⟨own_new w _ t, fun j v hv => ?_⟩
  rw [cell_of_row _ w.heap.size (0 + j) (rv xs).toArray t (0, 0) (heap_alloc_new w _)]
  simpa using hv
theorem Row.join {w : World} {b o : Nat} {xs ys : List UInt8} (h : Row w b o xs) (k : Row w b (o + xs.length) ys) : Row w b o (xs ++ ys) := by
  refine ⟨h.1, fun j v hv => ?_⟩
  rw [rv_append] at hv
  by_cases hj : j < xs.length
  · rw [List.getElem?_append_left (by rw [rv_length]; exact hj)] at hv
    exact h.2 j v hv
  · rw [List.getElem?_append_right (by rw [rv_length]; omega), rv_length] at hv
    have := k.2 (j - xs.length) v hv
    rwa [show o + xs.length + (j - xs.length) = o + j by omega] at this

/-- WHAT A CALL LEAVES OF THE OLD MEMORY: all but the blocks of S is as it was. -/
structure Fr (S : Nat → Prop) (w w' : World) : Prop where
  os : w'.os = w.os
  tape : w'.tape = w.tape
  output : w'.output = w.output
  size : w.heap.size ≤ w'.heap.size
  block : ∀ k, k < w.heap.size → ¬ S k → w'.heap[k]? = w.heap[k]?

section
variable {S : Nat → Prop} {w w' w'' : World}
theorem Fr.refl (S : Nat → Prop) (w : World) : Fr S w w := ⟨rfl, rfl, rfl, Nat.le_refl _, fun _ _ _ => rfl⟩
theorem Fr.trans (h : Fr S w w') (k : Fr S w' w'') : Fr S w w'' :=
  ⟨k.os.trans h.os, k.tape.trans h.tape, k.output.trans h.output, Nat.le_trans h.size k.size, fun i hi hs => (k.block i (Nat.lt_of_lt_of_le hi h.size) hs).trans (h.block i hi hs)⟩
/-- A second call that may also touch what is new. -/
theorem Fr.then {T : Nat → Prop} (h : Fr S w w') (k : Fr T w' w'') (hT : ∀ i, i < w.heap.size → T i → S i) : Fr S w w'' :=
  ⟨k.os.trans h.os, k.tape.trans h.tape, k.output.trans h.output, Nat.le_trans h.size k.size, fun i hi hs => (k.block i (Nat.lt_of_lt_of_le hi h.size) (fun ht => hs (hT i hi ht))).trans (h.block i hi hs)⟩
theorem Fr.drewN (h : Fr S w w') (n : Nat) : Fr S w (w'.drewN n) := ⟨h.os, h.tape, h.output, h.size, h.block⟩
theorem Fr.drew (h : Fr S w w') : Fr S w w'.drew := ⟨h.os, h.tape, h.output, h.size, h.block⟩
theorem Fr.alloc (h : Fr S w w') (o : Obj) : Fr S w (w'.alloc o) :=
  h.trans ⟨rfl, rfl, rfl, by simp, fun k hk _ => Below.heap_alloc _ _ _ hk⟩
theorem os_setCells (b' : Nat) : ∀ (vs : List Value) (o : Nat) (w : World), (w.setCells b' o vs).os = w.os ∧ (w.setCells b' o vs).tape = w.tape ∧ (w.setCells b' o vs).output = w.output
  | [], _, _ => ⟨rfl, rfl, rfl⟩
  | _ :: r, o, _ => os_setCells b' r (o + 1) _
theorem Fr.setCells (h : Fr S w w') (b o : Nat) (vs : List Value) (hb : b < w.heap.size → S b) : Fr S w (w'.setCells b o vs) := by
  obtain ⟨e1, e2, e3⟩ := os_setCells b vs o w'
  refine ⟨e1.trans h.os, e2.trans h.tape, e3.trans h.output, by rw [size_setCells]; exact h.size, fun k hk hs => ?_⟩
  rw [heap_setCells b vs o w' k (fun e => hs (e ▸ hb (e ▸ hk)))]
  exact h.block k hk hs
theorem Fr.setCell (h : Fr S w w') (a : Addr) (v : Value) (hb : a.block < w.heap.size → S a.block) : Fr S w (w'.setCell a v) := by
  refine ⟨h.os, h.tape, h.output, by simp [World.setCell]; exact h.size, fun k hk hs => ?_⟩
  rw [Below.heap_setCell w' a v k (fun e => hs (e ▸ hb (e ▸ hk)))]
  exact h.block k hk hs
theorem Fr.row (h : Fr S w w') {b o : Nat} {xs : List UInt8} (r : Row w b o xs) (hb : ¬ S b) : Row w' b o xs := by
  have e := h.block b r.lt hb
  obtain ⟨⟨C, t, hC⟩, hr⟩ := r
  refine ⟨⟨C, t, e.trans hC⟩, fun j v hv => ?_⟩
  rw [World.cell?_of_block (w := w) (a := ⟨b, o + j, none⟩) e]
  exact hr j v hv
theorem Fr.cell (h : Fr S w w') {a : Addr} (ha : a.block < w.heap.size) (hb : ¬ S a.block) : w'.cell? a = w.cell? a :=
  World.cell?_of_block (w := w) (h.block a.block ha hb)
theorem Fr.cell_some (h : Fr S w w') {a : Addr} {v : Value} (ha : w.cell? a = some v) (hb : ¬ S a.block) : w'.cell? a = some v :=
  (h.cell (World.block_lt_of_cell? _ _ ha) hb).trans ha
theorem Fr.own (h : Fr S w w') {b : Nat} (r : Own w b) (hb : ¬ S b) : Own w' b := by
  have e := h.block b r.lt hb
  obtain ⟨C, t, hC⟩ := r
  exact ⟨C, t, e.trans hC⟩
theorem Fr.below (h : Fr S w w') {B : Nat} (hB : B ≤ w.heap.size) (hs : ∀ k, k < B → ¬ S k) : Below B w w' :=
  ⟨h.os, h.tape, h.output, h.size, fun k hk => h.block k (by omega) (hs k hk)⟩
theorem Fr.mono {T : Nat → Prop} (h : Fr S w w') (hST : ∀ k, S k → T k) : Fr T w w' := ⟨h.os, h.tape, h.output, h.size, fun k hk ht => h.block k hk (fun hs => ht (hST k hs))⟩
end

end Go.Proofs.YbulkcsgsDoor
