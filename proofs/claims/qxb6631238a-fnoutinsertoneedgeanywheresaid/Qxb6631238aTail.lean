/-
  WORDS for a walk that is cut into declarations: seat b6631238a.
-/
import Derived.Test.Qxb6631238aGraph
namespace Go.Proofs.Qxb6631238a
open Go.RowKit Go.Maps

/-- The region of that number on the top row of a body, and what stands behind it. -/
def regAt (N : Nat) : Code → Code
  | .seq (.region k ops d) b => if k = N then .region k ops d else regAt N b
  | .seq _ b => regAt N b
  | .scope c => regAt N c
  | .block _ c => regAt N c
  | _ => .skip
def restAt (N : Nat) : Code → Code
  | .seq (.region k _ _) b => if k = N then b else restAt N b
  | .seq _ b => restAt N b
  | .scope c => restAt N c
  | .block _ c => restAt N c
  | _ => .skip

def Yes (w : World) (e : Ending) (w' : World) : Prop := e = .returned (.bool true) ∧ Below w.heap.size w w'
theorem Yes.now {w : World} : Yes w (.returned (.bool true)) w := ⟨rfl, Below.refl _ _⟩
theorem gen_world {P : Program} {c : Code} {Q : Exit → Act → World → Prop} {a : Act} {w : World} (R : World → Prop) (h : R w) (k : ∀ W, R W → Code.wp P c Q a W) : Code.wp P c Q a w := k w h
noncomputable def body3 : Code := (Try.f3.body.getD .skip)

/-- A guard: the operation at hand writes that slot. -/
theorem at_dst {P : Program} {ops : Array Oper} {Q : Exit → Act → World → Prop} {o : Oper} {rest : List Oper} {a : Act} {W : World} (d : Nat) (_ : o.dst = some d) (h : wpList P ops Q (o :: rest) a W) : wpList P ops Q (o :: rest) a W := h

theorem cnt3 (W : World) (F1 F2 F3 : Nat → ByteArray) : Cnt (((W.alloc (.map #[] 0)).alloc (.map #[] 0)).alloc (.map #[] 0)) W.heap.size F1 0 ∧ Cnt (((W.alloc (.map #[] 0)).alloc (.map #[] 0)).alloc (.map #[] 0)) (W.heap.size + 1) F2 0 ∧
    Cnt (((W.alloc (.map #[] 0)).alloc (.map #[] 0)).alloc (.map #[] 0)) (W.heap.size + 1 + 1) F3 0 ∧ Below W.heap.size W (((W.alloc (.map #[] 0)).alloc (.map #[] 0)).alloc (.map #[] 0)) := by
  have h1 : Cnt (W.alloc (.map #[] 0)) W.heap.size F1 0 := Cnt.made W F1
  have h2 : Cnt ((W.alloc (.map #[] 0)).alloc (.map #[] 0)) (W.heap.size + 1) F2 0 := by have := Cnt.made (W.alloc (.map #[] 0)) F2; simpa using this
  have h3 : Cnt (((W.alloc (.map #[] 0)).alloc (.map #[] 0)).alloc (.map #[] 0)) (W.heap.size + 1 + 1) F3 0 := by have := Cnt.made ((W.alloc (.map #[] 0)).alloc (.map #[] 0)) F3; simpa using this
  have b : ∀ X : World, Below X.heap.size X (X.alloc (.map #[] 0)) := fun X => (Below.refl _ _).alloc (Nat.le_refl _) _
  exact ⟨(h1.below (b _) h1.lt).below (b _) (h1.below (b _) h1.lt).lt, h2.below (b _) h2.lt, h3, (((Below.refl _ _).alloc (Nat.le_refl _) _).alloc (by simp) _).alloc (by simp; omega) _⟩

end Go.Proofs.Qxb6631238a
