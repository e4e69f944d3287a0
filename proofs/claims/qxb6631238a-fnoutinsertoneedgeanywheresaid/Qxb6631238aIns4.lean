/-
  WORDS for the main walk of FnOutInsertOneEdgeAnywhere: seat b6631238a.
-/
import Derived.Test.Qxb6631238aIns
namespace Go.Proofs.Qxb6631238a
open Go.RowKit Go.Maps

noncomputable def body4 : Code := (Try.f4.body.getD .skip)

theorem build_step2 {wr w' w'' : World} {B k : Nat} {F T K V : Nat → ByteArray} {ms : Nat → Option Nat} {m : Option Nat} {x0 x1 x2 x3 : ByteArray} {v v' : Value}
    (h0 : x0 = F k) (h1 : x1 = T k) (h2 : x2 = K k) (h3 : x3 = V k)
    (hown : wr.ownsRow B 40 3 v k (ecells F T ms k)) (hat : ∀ j, j < k → Attr wr (ms j) (K j) (V j))
    (hatt : Attr w' m x2 x3) (hbm : Below wr.heap.size wr w') (hg : (w'.alloc (.cells #[.string x0, .string x1, .map m] 40)).grownBy w'' v.ownBlock)
    (hown' : w''.ownsRow B 40 3 v' (k + 1) (ecells F T ms k ++ [.string x0, .string x1, .map m])) :
    w''.ownsRow B 40 3 v' (k + 1) (ecells F T (fun j => if j = k then m else ms j) (k + 1)) ∧ ∀ j, j < k + 1 → Attr w'' ((fun j => if j = k then m else ms j) j) (K j) (V j) := by
  subst h0 h1 h2 h3
  have hrow : ∀ g, v.ownBlock = some g → ∃ c t f, (w'.alloc (.cells #[.string (F k), .string (T k), .map m] 40)).heap[g]? = some (.cells c t f) := ownsRow_cells ((ownsRow_below hown hbm).alloc _)
  have hal : Below w'.heap.size w' (w'.alloc (.cells #[.string (F k), .string (T k), .map m] 40)) := (Below.refl _ _).alloc (Nat.le_refl _) _
  constructor
  · rw [ecells]
    simp only [if_true]
    rw [ecells_congr (ms' := ms) (f' := F) (t' := T) k (fun j hj => ⟨rfl, rfl, by simp [show j ≠ k by omega]⟩)]
    exact hown'
  · intro j hj
    by_cases e : j = k
    · subst e
      simp only [if_true]
      exact (hatt.below hal).kept hg hrow
    · simp only [if_neg e]
      exact (((hat j (by omega)).below hbm).below hal).kept hg hrow

theorem ins_size {F : Nat → ByteArray} {c n : Nat} {x : ByteArray} (hF : ∀ j, j < n → (F j).size ≤ maxLen) (hx : x.size ≤ maxLen) (hc : c ≤ n) {j : Nat} (hj : j < n + 1) : (ins F c x j).size ≤ maxLen := by
  unfold ins
  split
  · exact hF j (by omega)
  · split
    · exact hx
    · exact hF (j - 1) (by omega)

end Go.Proofs.Qxb6631238a
