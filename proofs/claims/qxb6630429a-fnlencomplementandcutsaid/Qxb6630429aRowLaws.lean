/-
  ROWS OF THE CALL's OWN, of seat b6630429a: what a block of cells holds, and how make, copy and a store turn it. Nothing of the program here.
-/
import Derived.WalkKit
import Derived.Below
import Derived.Laws.CopyOwn
namespace Go.Proofs.Qxb6630429a
open Go.RowKit

/-- Block g is a row of the cells vs, of element type t, none frozen. -/
def Row (w : World) (g : Nat) (t : TypeId) (vs : List Value) : Prop := w.heap[g]? = some (.cells vs.toArray t (0, 0))

theorem Row.cell {w : World} {g : Nat} {t : TypeId} {vs : List Value} (h : Row w g t vs) (i : Nat) : w.cell? ⟨g, i, none⟩ = vs[i]? := by
  rw [cell_of_row w g i vs.toArray t (0, 0) h]; simp
theorem Row.frozen {w : World} {g : Nat} {t : TypeId} {vs : List Value} (h : Row w g t vs) (i : Nat) : w.frozen? ⟨g, i, none⟩ = false :=
  frozen_of_row w g i vs.toArray t h
theorem Row.lt {w : World} {g : Nat} {t : TypeId} {vs : List Value} (h : Row w g t vs) : g < w.heap.size := (Array.getElem?_eq_some_iff.1 h).1
theorem Row.below {w w' : World} {B g : Nat} {t : TypeId} {vs : List Value} (h : Row w g t vs) (hb : Below B w w') (hg : g < B) : Row w' g t vs := (hb.block g hg).trans h
theorem Row.set {w : World} {g : Nat} {t : TypeId} {vs : List Value} (h : Row w g t vs) (i : Nat) (u : Value) : Row (w.setCell ⟨g, i, none⟩ u) g t (vs.set i u) := by
  have := heap_setCell_same w g i vs.toArray t u h
  unfold Row
  rw [this]; simp
theorem Row.setOther {w : World} {g g' : Nat} {t : TypeId} {vs : List Value} (h : Row w g t vs) (i : Nat) (u : Value) (hne : g ≠ g') : Row (w.setCell ⟨g', i, none⟩ u) g t vs := by
  unfold Row
  rw [Below.heap_setCell _ _ _ _ hne]; exact h

theorem wpList_make_row {P : Program} {w : World} {ops : Array Oper} {rest : List Oper} {o : Oper} {a : Act} {Q : Exit → Act → World → Prop}
    (hg : o.guard = none) (l c : Operand) (t : TypeId) (hop : o.op = Op.makeSlice t l c)
    (e : TypeId) (i : TypeInfo) (z : Value) (h1 : P.underlying t = some (.slice e)) (h2 : P.info? e = some i) (h3 : i.zero = some z) (h4 : i.size = 1) (hz : z.cells = #[z])
    (kl kc : IntKind) (L C : Int) (n : Nat) (hl : a.eval l = .int kl L) (hc : a.eval c = .int kc C) (hL : L = (n : Int)) (hC : C = (n : Int)) (b2 : (i.bytes : Int) * n ≤ 281474976710656) (b3 : (n : Int) ≤ 9223372036854775807)
    (hK : ∀ w', Row w' w.heap.size e (List.replicate n z) → Below w.heap.size w w' → w.heap.size < w'.heap.size → wpList P ops Q rest (a.put o.dst (.slice (some ⟨w.heap.size, 0, none⟩) n n)) w') :
    wpList P ops Q (o :: rest) a w := by
  refine wpList_plain hg fun K hK' => ?_
  have hr := run_make (P := P) w t e i z h1 h2 h3 kl kc n n (by omega) (Int.le_refl _) b2 b3
  simp only [Int.toNat_natCast, h4, Nat.mul_one, hz] at hr
  subst hL
  subst hC
  unfold Oper.wp
  simp [execOp, hop, hl, hc, hr, Result.andThen]
  refine hK' _ _ (hK _ ?_ ((Below.refl _ _).alloc (Nat.le_refl _) _) (by simp))
  unfold Row
  rw [← toList_madeCells_one]
  simpa using heap_alloc_new w (.cells (madeCells #[z] n) e)

theorem splice_all {α : Type} (L cs : List α) (h : cs.length = L.length) : splice L 0 cs = cs := by
  unfold splice
  rw [List.take_zero, Nat.zero_add, h, List.drop_length]; simp

theorem wpList_copy_row {P : Program} {w : World} {ops : Array Oper} {rest : List Oper} {o : Oper} {a : Act} {Q : Exit → Act → World → Prop} (hgd : o.guard = none) (d s : Operand) (dT sT : TypeId)
    (ho : o.op = .call { callee := .builtin .copy, args := #[d, s], argTypes := #[dT, sT] }) (elem : TypeId) (hu : P.underlying dT = some (.slice elem)) (hsz : (P.info? elem).map (·.size) = some 1)
    (g n dCap sCap : Nat) (ad : Addr) (hd : a.eval d = .slice (some ⟨g, 0, none⟩) n dCap) (hs : a.eval s = .slice (some ad) n sCap)
    (cur : List Value) (t : TypeId) (hg : Row w g t cur) (cs : List Value) (hn : cs.length = n) (hcur : cur.length = n)
    (hsrc : ∀ j v, cs[j]? = some v → w.cell? (ad.add j) = some v)
    (h1 : ∀ v ∈ cs, v.oneCell' = true) (B : Nat) (w0 : World) (hb : Below B w0 w) (hBg : B ≤ g)
    (h : ∀ w', Row w' g t cs → Below B w0 w' → wpList P ops Q rest (a.put o.dst (goInt n)) w') :
    wpList P ops Q (o :: rest) a w := by
  refine wpList_copy_splice hgd d s dT sT ho elem hu hsz _ _ _ _ _ _ hd hs g 0 cur t hg cs (by rw [hn]; exact (Nat.min_self n).symm) (fun _ => ⟨rfl, ad, rfl, hsrc⟩) (by omega) h1 B w0 hb hBg ?_
  intro w' hw hb'
  have := h w' (by have := hw.out; rwa [splice_all _ _ (by omega)] at this) hb'
  rwa [hn]

/-- A row of n cells, the first k by f, the others by g. -/
def upto (f g : Nat → Value) (n k : Nat) : List Value := (List.range n).map fun i => if i < k then f i else g i
theorem upto_length (f g : Nat → Value) (n k : Nat) : (upto f g n k).length = n := by simp [upto]
theorem upto_get (f g : Nat → Value) (n k i : Nat) (h : i < n) : (upto f g n k)[i]? = some (if i < k then f i else g i) := by simp [upto, h]
theorem upto_set (f g : Nat → Value) (n k : Nat) : (upto f g n k).set k (f k) = upto f g n (k + 1) := by
  apply List.ext_getElem?
  intro i
  rw [List.getElem?_set]
  by_cases h : i < n
  · rw [upto_get _ _ _ _ _ h, upto_get _ _ _ _ _ h, upto_length]
    by_cases hk : k = i
    · subst hk; simp [h]
    · rw [if_neg hk]
      by_cases h2 : i < k
      · rw [if_pos h2, if_pos (by omega)]
      · rw [if_neg h2, if_neg (by omega)]
  · have e1 : (upto f g n k)[i]? = none := List.getElem?_eq_none (by rw [upto_length]; omega)
    have e2 : (upto f g n (k + 1))[i]? = none := List.getElem?_eq_none (by rw [upto_length]; omega)
    rw [e1, e2, upto_length]
    by_cases hk : k = i
    · subst hk; simp [h]
    · simp [hk]
theorem upto_zero (f : Nat → Value) (z : Value) (n : Nat) : List.replicate n z = upto f (fun _ => z) n 0 := by
  apply List.ext_getElem?
  intro i
  by_cases h : i < n
  · rw [upto_get _ _ _ _ _ h]; simp [h]
  · simp [upto, h]

theorem upto_full (h : Int → Int) (g : Nat → Value) (zs : List Int) : upto (fun i => .int .u64 (h (zs.getD i 0))) g zs.length zs.length = (zs.map h).map (Value.int .u64) := by
  apply List.ext_getElem?
  intro i
  by_cases hi : i < zs.length
  · rw [upto_get _ _ _ _ _ hi]; simp [hi]
  · simp [upto, hi]

end Go.Proofs.Qxb6630429a
