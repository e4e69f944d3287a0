/-
  ROWS OF BYTES, of seat b6630460a: what a block of cells holds, by a function of the place. Nothing of the program here.
-/
import Derived.WalkKit
import Derived.Below
namespace Go.Proofs.Qxb6630460a
open Go.RowKit

/-- Block g is a row of the cells vs, of type t, none frozen. -/
def Row (w : World) (g : Nat) (t : TypeId) (vs : List Value) : Prop := w.heap[g]? = some (.cells vs.toArray t (0, 0))

theorem Row.cell {w : World} {g : Nat} {t : TypeId} {vs : List Value} (h : Row w g t vs) (i : Nat) : w.cell? ⟨g, i, none⟩ = vs[i]? := by
  rw [cell_of_row w g i vs.toArray t (0, 0) h]; simp
theorem Row.frozen {w : World} {g : Nat} {t : TypeId} {vs : List Value} (h : Row w g t vs) (i : Nat) : w.frozen? ⟨g, i, none⟩ = false :=
  frozen_of_row w g i vs.toArray t h
theorem Row.lt {w : World} {g : Nat} {t : TypeId} {vs : List Value} (h : Row w g t vs) : g < w.heap.size := (Array.getElem?_eq_some_iff.1 h).1
theorem Row.below {w w' : World} {B g : Nat} {t : TypeId} {vs : List Value} (h : Row w g t vs) (hb : Below B w w') (hg : g < B) : Row w' g t vs := (hb.block g hg).trans h
theorem Row.set {w : World} {g : Nat} {t : TypeId} {vs : List Value} (h : Row w g t vs) (i : Nat) (u : Value) : Row (w.setCell ⟨g, i, none⟩ u) g t (vs.set i u) := by
  have := heap_setCell_same w g i vs.toArray t u h
  unfold Row
  rw [this]; simp
theorem Row.setOther {w : World} {g g' : Nat} {t : TypeId} {vs : List Value} (h : Row w g t vs) (i : Nat) (u : Value) (hne : g ≠ g') : Row (w.setCell ⟨g', i, none⟩ u) g t vs := by
  unfold Row
  rw [Below.heap_setCell _ _ _ _ hne]; exact h
theorem Row.grown {w w' : World} {g : Nat} {r : Option Nat} {t : TypeId} {vs : List Value} (h : Row w g t vs) (hg : w.grownBy w' r) (hne : some g ≠ r) : Row w' g t vs :=
  (hg.block g h.lt hne).trans h
theorem Row.new (w : World) (t : TypeId) (vs : List Value) : Row (w.alloc (.cells vs.toArray t)) w.heap.size t vs := heap_alloc_new w _
theorem Row.new2 (w : World) (o : Obj) (t : TypeId) (vs : List Value) : Row ((w.alloc o).alloc (.cells vs.toArray t)) (w.heap.size + 1) t vs := by
  have := Row.new (w.alloc o) t vs
  simpa using this
theorem Row.alloc {w : World} {g : Nat} {t : TypeId} {vs : List Value} (h : Row w g t vs) (o : Obj) : Row (w.alloc o) g t vs :=
  (Below.heap_alloc w o g h.lt).trans h
theorem Row.drew {w : World} {g : Nat} {t : TypeId} {vs : List Value} (h : Row w g t vs) : Row w.drew g t vs := h

theorem grown_set {w w' : World} {g : Nat} (h : w.grownBy w' (some g)) (i : Nat) (u : Value) : w.grownBy (w'.setCell ⟨g, i, none⟩ u) (some g) :=
  ⟨h.os, h.tape, h.output, by simpa [World.setCell] using h.size, fun k hk hne => by
    rw [Below.heap_setCell _ _ _ _ (by intro e; exact hne (by rw [e]))]; exact h.block k hk hne⟩
theorem grown_refl (w : World) (r : Option Nat) : w.grownBy w r := ⟨rfl, rfl, rfl, Nat.le_refl _, fun _ _ _ => rfl⟩

/-- n cells of bytes, by a function of the place. -/
def rowF (n : Nat) (c : Nat → Int) : List Value := (List.range n).map fun q => .int .u8 (c q)
theorem rowF_get (n : Nat) (c : Nat → Int) (i : Nat) (h : i < n) : (rowF n c)[i]? = some (.int .u8 (c i)) := by simp [rowF, h]
theorem rowF_length (n : Nat) (c : Nat → Int) : (rowF n c).length = n := by simp [rowF]
theorem rowF_congr {n : Nat} {c d : Nat → Int} (h : ∀ q, q < n → c q = d q) : rowF n c = rowF n d := by
  unfold rowF
  apply List.map_congr_left
  intro q hq
  rw [h q (by simpa using hq)]
theorem rowF_set (n : Nat) (c : Nat → Int) (k : Nat) (v : Int) : (rowF n c).set k (.int .u8 v) = rowF n (fun q => if q = k then v else c q) := by
  apply List.ext_getElem?
  intro i
  rw [List.getElem?_set]
  by_cases h : i < n
  · rw [rowF_get _ _ _ h, rowF_get _ _ _ h, rowF_length]
    by_cases hk : k = i
    · subst hk; simp [h]
    · rw [if_neg hk, if_neg (by omega)]
  · have e1 : (rowF n c)[i]? = none := List.getElem?_eq_none (by rw [rowF_length]; omega)
    have e2 : (rowF n (fun q => if q = k then v else c q))[i]? = none := List.getElem?_eq_none (by rw [rowF_length]; omega)
    rw [e1, e2, rowF_length]
    by_cases hk : k = i
    · subst hk; simp [h]
    · simp [hk]
end Go.Proofs.Qxb6630460a
