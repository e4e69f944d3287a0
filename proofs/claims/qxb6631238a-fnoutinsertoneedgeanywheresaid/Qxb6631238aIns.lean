/-
  THE PLAIN LAWS of FnOutInsertOneEdgeAnywhere: seat b6631238a. A list of Froms with one more put in at place c: how the counts and the number of different keys turn. No walk here.
-/
import Derived.Test.Qxb6631238aTail
namespace Go.Proofs.Qxb6631238a
open Go.RowKit Go.Maps

/-- The list F with x put in at place c. -/
def ins (F : Nat → ByteArray) (c : Nat) (x : ByteArray) (j : Nat) : ByteArray := if j < c then F j else if j = c then x else F (j - 1)
theorem ins_lt {F : Nat → ByteArray} {c : Nat} {x : ByteArray} {j : Nat} (h : j < c) : ins F c x j = F j := by unfold ins; rw [if_pos h]
theorem ins_at (F : Nat → ByteArray) (c : Nat) (x : ByteArray) : ins F c x c = x := by unfold ins; rw [if_neg (Nat.lt_irrefl _), if_pos rfl]
theorem ins_gt {F : Nat → ByteArray} {c : Nat} {x : ByteArray} {j : Nat} (h : c ≤ j) : ins F c x (j + 1) = F j := by
  unfold ins; rw [if_neg (by omega), if_neg (by omega), Nat.add_sub_cancel]

theorem idx_congr {F G : Nat → ByteArray} (key : List UInt8) : ∀ n, (∀ j, j < n → F j = G j) → idx F n key = idx G n key
  | 0, _ => rfl
  | n + 1, h => by rw [idx_succ, idx_succ, idx_congr key n (fun j hj => h j (by omega)), h n (by omega)]
theorem cnt_congr {F G : Nat → ByteArray} (key : List UInt8) (n : Nat) (h : ∀ j, j < n → F j = G j) : cnt F n key = cnt G n key := by unfold cnt; rw [idx_congr key n h]
theorem dsz_succ (F : Nat → ByteArray) (n : Nat) : dsz F (n + 1) = if cnt F n (kof (F n)) = 0 then dsz F n + 1 else dsz F n := by
  rw [dsz]; unfold cnt
  cases idx F n (kof (F n)) <;> simp
theorem dsz_congr {F G : Nat → ByteArray} : ∀ n, (∀ j, j < n → F j = G j) → dsz F n = dsz G n
  | 0, _ => rfl
  | n + 1, h => by rw [dsz_succ, dsz_succ, dsz_congr n (fun j hj => h j (by omega)), h n (by omega), cnt_congr _ n (fun j hj => h j (by omega))]

theorem cnt_ins_le {F : Nat → ByteArray} {c : Nat} {x : ByteArray} {i : Nat} (key : List UInt8) (h : i ≤ c) : cnt (ins F c x) i key = cnt F i key := cnt_congr key i fun _ hj => ins_lt (by omega)
theorem cnt_ins (F : Nat → ByteArray) (c : Nat) (x : ByteArray) (key : List UInt8) : ∀ m, cnt (ins F c x) (c + m + 1) key = cnt F (c + m) key + if kof x = key then 1 else 0
  | 0 => by
    show cnt (ins F c x) (c + 1) key = cnt F c key + _
    rw [cnt_succ, ins_at, cnt_ins_le key (Nat.le_refl _)]
    split <;> omega
  | m + 1 => by
    rw [cnt_succ, ← Nat.add_assoc c m 1, cnt_ins F c x key m, ins_gt (by omega), cnt_succ]
    split <;> split <;> omega
theorem cnt_ins_gt {F : Nat → ByteArray} {c i : Nat} {x : ByteArray} (key : List UInt8) (h : c ≤ i) : cnt (ins F c x) (i + 1) key = cnt F i key + if kof x = key then 1 else 0 := by
  have := cnt_ins F c x key (i - c)
  rw [show c + (i - c) = i by omega] at this
  exact this
theorem cnt_pos_of {F : Nat → ByteArray} {n : Nat} {key : List UInt8} (hk : kof (F n) = key) : cnt F (n + 1) key ≠ 0 := by
  rw [cnt_succ, if_pos hk]; omega
theorem dsz_ins (F : Nat → ByteArray) (c : Nat) (x : ByteArray) : ∀ m, dsz (ins F c x) (c + m + 1) = dsz F (c + m) + if cnt F (c + m) (kof x) = 0 then 1 else 0
  | 0 => by
    show dsz (ins F c x) (c + 1) = dsz F c + if cnt F c (kof x) = 0 then 1 else 0
    rw [dsz_succ, ins_at, cnt_ins_le _ (Nat.le_refl _), dsz_congr (F := ins F c x) (G := F) c (fun j hj => ins_lt hj)]
    split <;> omega
  | m + 1 => by
    rw [dsz_succ, ← Nat.add_assoc c m 1, dsz_ins F c x m, ins_gt (by omega), cnt_ins_gt _ (by omega), dsz_succ F (c + m)]
    by_cases e : kof x = kof (F (c + m))
    · have := cnt_pos_of (F := F) (n := c + m) (key := kof x) e.symm
      rw [if_pos e, if_neg (by omega), if_neg this, e]
      split <;> omega
    · have e2 : ¬ kof (F (c + m)) = kof x := fun h => e h.symm
      have e3 : cnt F (c + m + 1) (kof x) = cnt F (c + m) (kof x) := by rw [cnt_succ, if_neg e2]
      rw [if_neg e, e3]
      simp only [Nat.add_zero]
      split <;> split <;> omega
theorem dsz_ins_gt {F : Nat → ByteArray} {c i : Nat} (x : ByteArray) (h : c ≤ i) : dsz (ins F c x) (i + 1) = dsz F i + if cnt F i (kof x) = 0 then 1 else 0 := by
  have := dsz_ins F c x (i - c)
  rw [show c + (i - c) = i by omega] at this
  exact this
end Go.Proofs.Qxb6631238a
