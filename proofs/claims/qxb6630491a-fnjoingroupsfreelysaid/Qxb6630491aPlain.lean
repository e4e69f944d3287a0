/-
  PLAIN LAWS of seat b6630491a: ranges of byte strings. Nothing of the program here.
-/
import Derived.Lib.MinMaxS
namespace Go.Proofs.Qxb6630491a
open Go.Lib (minS maxS)

/-- Go's '<' on strings. -/
def lt (a b : ByteArray) : Bool := Op.bytesLess a.toList b.toList
def emp (t : ByteArray) : Bool := t.toList.isEmpty

theorem lt_iff (a b : ByteArray) : lt a b = true ↔ a.toList < b.toList := by unfold lt; rw [Proofs.bytesLess_eq]; simp
theorem nlt_iff (a b : ByteArray) : lt a b = false ↔ ¬ a.toList < b.toList := by unfold lt; rw [Proofs.bytesLess_eq]; simp
theorem toList_inj {a b : ByteArray} (h : a.toList = b.toList) : a = b := by
  have := Lib.toList_data a
  have h2 := Lib.toList_data b
  rw [this, h2] at h
  cases a; cases b
  congr 1
  exact Array.toList_inj.1 h

theorem lt_irrefl (a : ByteArray) : lt a a = false := (nlt_iff a a).2 (List.lt_irrefl _)
/-- a ≤ b, b ≤ c: a ≤ c. -/
theorem le_trans {a b c : ByteArray} (h1 : lt b a = false) (h2 : lt c b = false) : lt c a = false := by
  rw [nlt_iff] at *
  exact List.not_lt.2 (List.le_trans (List.not_lt.1 h1) (List.not_lt.1 h2))
theorem le_antisymm {a b : ByteArray} (h1 : lt b a = false) (h2 : lt a b = false) : a = b := by
  rw [nlt_iff] at *
  exact toList_inj (List.le_antisymm (List.not_lt.1 h1) (List.not_lt.1 h2))
theorem lt_asymm {a b : ByteArray} (h : lt a b = true) : lt b a = false := by
  cases e : lt b a with
  | false => rfl
  | true =>
    rw [lt_iff] at h e
    exact absurd (List.lt_trans h e) (List.lt_irrefl _)
/-- The model's 'a ≤ b' and 'a > b'. -/
theorem le_or (a b : ByteArray) : (Op.bytesLess a.toList b.toList || a.toList == b.toList) = !lt b a := by
  cases h : lt b a with
  | true =>
    have h1 := lt_asymm h
    have h2 : ¬ a.toList = b.toList := fun e => by rw [toList_inj e, lt_irrefl] at h; cases h
    unfold lt at h1
    simp [h1, h2]
  | false =>
    cases h1 : lt a b with
    | true => unfold lt at h1; simp [h1]
    | false => rw [le_antisymm h h1]; simp

def minR (a b : ByteArray) : ByteArray := if lt b a then b else a
def maxR (a b : ByteArray) : ByteArray := if lt a b then b else a
theorem minS_eq (a b : ByteArray) : minS a b = minR a b := by
  unfold minS minR
  rw [← Lib.toList_data, ← Lib.toList_data]
  cases h : lt b a with
  | true =>
    have h1 := (nlt_iff a b).1 (lt_asymm h)
    have h2 : ¬ a.toList = b.toList := fun e => by rw [toList_inj e, lt_irrefl] at h; cases h
    simp [h1, h2]
  | false =>
    cases h1 : lt a b with
    | true => have := (lt_iff a b).1 h1; simp [this]
    | false => rw [le_antisymm h h1]; simp
theorem maxS_eq (a b : ByteArray) : maxS a b = maxR a b := by
  unfold maxS maxR
  rw [← Lib.toList_data, ← Lib.toList_data]
  cases h : lt a b with
  | true => have := (lt_iff a b).1 h; simp [this]
  | false => have := (nlt_iff a b).1 h; simp [this]

theorem minR_comm (a b : ByteArray) : minR a b = minR b a := by
  unfold minR
  cases h1 : lt b a <;> cases h2 : lt a b <;> simp
  · exact le_antisymm h1 h2
  · rw [lt_asymm h1] at h2; cases h2
theorem maxR_comm (a b : ByteArray) : maxR a b = maxR b a := by
  unfold maxR
  cases h1 : lt b a <;> cases h2 : lt a b <;> simp
  · exact le_antisymm h1 h2
  · rw [lt_asymm h1] at h2; cases h2
/-- min a b ≤ k: a ≤ k or b ≤ k. -/
theorem minR_le (a b k : ByteArray) : (!lt k (minR a b)) = (!lt k a || !lt k b) := by
  unfold minR
  cases h : lt b a with
  | true =>
    cases h1 : lt k a with
    | true => simp
    | false => simp [le_trans (lt_asymm h) h1]
  | false =>
    cases h1 : lt k b with
    | true => simp
    | false => simp [le_trans h h1]
theorem lt_maxR (a b k : ByteArray) : lt k (maxR a b) = (lt k a || lt k b) := by
  unfold maxR
  cases h : lt a b with
  | true =>
    cases h1 : lt k b with
    | true => simp [h1]
    | false => simp [h1, le_trans (lt_asymm h) h1]
  | false =>
    cases h1 : lt k a with
    | true => simp [h1]
    | false => simp [h1, le_trans h h1]
theorem maxR_assoc (a b c : ByteArray) : maxR (maxR a b) c = maxR a (maxR b c) := by
  cases h1 : lt (maxR a (maxR b c)) (maxR (maxR a b) c) with
  | true =>
    have := lt_irrefl (maxR a (maxR b c))
    simp only [lt_maxR, Bool.or_eq_false_iff] at this h1
    simp [this] at h1
  | false =>
    cases h2 : lt (maxR (maxR a b) c) (maxR a (maxR b c)) with
    | true =>
      have := lt_irrefl (maxR (maxR a b) c)
      simp only [lt_maxR, Bool.or_eq_false_iff] at this h2
      simp [this] at h2
    | false => exact le_antisymm h1 h2
theorem minR_assoc (a b c : ByteArray) : minR (minR a b) c = minR a (minR b c) := by
  have key : ∀ k, (!lt k (minR (minR a b) c)) = (!lt k (minR a (minR b c))) := by intro k; simp only [minR_le, Bool.or_assoc]
  have k1 := key (minR (minR a b) c)
  have k2 := key (minR a (minR b c))
  rw [lt_irrefl] at k1 k2
  exact le_antisymm (by simpa using k2) (by simpa using k1.symm)

/-! ### the ranges -/
def keyInB (f t k : ByteArray) : Bool := !lt k f && (emp t || lt k t)
def touchB (f t f' t' : ByteArray) : Bool := (emp t || (!lt t f && !lt t f')) && (emp t' || (!lt t' f && !lt t' f'))
def joinTo (t t' : ByteArray) : ByteArray := if emp t || emp t' then ByteArray.empty else maxR t t'

theorem emp_empty : emp ByteArray.empty = true := by unfold emp; rw [Lib.toList_data]; rfl
theorem emp_joinTo (t t' : ByteArray) : emp (joinTo t t') = (emp t || emp t') := by
  unfold joinTo
  cases h : emp t || emp t' with
  | true => simp [emp_empty]
  | false =>
    simp at h
    simp
    unfold maxR
    split
    · exact h.2
    · exact h.1
theorem joinTo_comm (t t' : ByteArray) : joinTo t t' = joinTo t' t := by
  unfold joinTo; rw [Bool.or_comm, maxR_comm]
theorem joinTo_assoc (a b c : ByteArray) : joinTo (joinTo a b) c = joinTo a (joinTo b c) := by
  have e1 := emp_joinTo a b
  have e2 := emp_joinTo b c
  rw [joinTo, e1]
  conv => rhs; rw [joinTo, e2]
  cases ha : emp a <;> cases hb : emp b <;> cases hc : emp c <;> simp
  simp [joinTo, ha, hb, hc, maxR_assoc]
theorem lt_joinTo (t t' k : ByteArray) : (emp (joinTo t t') || lt k (joinTo t t')) = ((emp t || lt k t) || (emp t' || lt k t')) := by
  rw [emp_joinTo]
  cases h1 : emp t <;> cases h2 : emp t' <;> simp
  simp [joinTo, h1, h2, lt_maxR]

theorem keyIn_join (f t f' t' k : ByteArray) : keyInB (minR f f') (joinTo t t') k = ((!lt k f || !lt k f') && ((emp t || lt k t) || (emp t' || lt k t'))) := by
  unfold keyInB
  rw [minR_le, lt_joinTo]

/-- Where t does not end above k, and the other range touches, the other begins at or below k. -/
theorem touch_le {f t f' t' k : ByteArray} (h : touchB f t f' t' = true) (he : emp t = false) (hk : lt k t = false) : lt k f' = false := by
  unfold touchB at h
  simp [he] at h
  exact le_trans h.1.2 hk
theorem touch_le' {f t f' t' k : ByteArray} (h : touchB f t f' t' = true) (he : emp t' = false) (hk : lt k t' = false) : lt k f = false := by
  unfold touchB at h
  simp [he] at h
  exact le_trans h.2.1 hk

theorem covers (f t f' t' k : ByteArray) (h : touchB f t f' t' = true) : keyInB (minR f f') (joinTo t t') k = (keyInB f t k || keyInB f' t' k) := by
  rw [keyIn_join]
  unfold keyInB
  have l1 := @touch_le f t f' t' k h
  have l2 := @touch_le' f t f' t' k h
  cases h1 : lt k f <;> cases h2 : lt k f' <;> cases e1 : emp t <;> cases e2 : emp t' <;> cases k1 : lt k t <;> cases k2 : lt k t' <;> simp_all

theorem covers3 (f t f' t' g u k : ByteArray) (h1 : touchB f t f' t' = true) (h2 : touchB f' t' g u = true) (h3 : touchB f t g u = true) :
    keyInB (minR (minR f f') g) (joinTo (joinTo t t') u) k = (keyInB f t k || keyInB f' t' k || keyInB g u k) := by
  rw [keyIn_join]
  rw [minR_le, lt_joinTo]
  unfold keyInB
  have a1 := @touch_le f t f' t' k h1
  have a2 := @touch_le' f t f' t' k h1
  have a3 := @touch_le f' t' g u k h2
  have a4 := @touch_le' f' t' g u k h2
  have a5 := @touch_le f t g u k h3
  have a6 := @touch_le' f t g u k h3
  clear h1 h2 h3
  generalize lt k f = p1 at *
  generalize lt k f' = p2 at *
  generalize lt k g = p3 at *
  generalize lt k t = q1 at *
  generalize lt k t' = q2 at *
  generalize lt k u = q3 at *
  generalize emp t = r1 at *
  generalize emp t' = r2 at *
  generalize emp u = r3 at *
  revert a1 a2 a3 a4 a5 a6
  revert p1 p2 p3 q1 q2 q3 r1 r2 r3
  decide
end Go.Proofs.Qxb6630491a
