/-
  THE PLAIN LAWS of seat b6631238a: what the answer of Out holds at a key (Part), and the maps that count by From (Cnt). No walk here.
-/
import Derived.Test.Qxb6631238aBytes
namespace Go.Proofs.Qxb6631238a
open Go.RowKit Go.Maps

/-- How many places below n bear the key. -/
def cnt (F : Nat → ByteArray) (n : Nat) (key : List UInt8) : Nat := (idx F n key).length
theorem cnt_le (F : Nat → ByteArray) (n : Nat) (key : List UInt8) : cnt F n key ≤ n := idx_len F n key
theorem cnt_zero (F : Nat → ByteArray) (key : List UInt8) : cnt F 0 key = 0 := rfl
theorem cnt_succ (F : Nat → ByteArray) (n : Nat) (key : List UInt8) : cnt F (n + 1) key = if kof (F n) = key then cnt F n key + 1 else cnt F n key := by
  unfold cnt; rw [idx_succ]; split <;> simp
theorem cnt_add (F : Nat → ByteArray) (c : Nat) (key : List UInt8) : ∀ m, cnt F (c + m) key = cnt F c key + cnt (fun j => F (c + j)) m key
  | 0 => rfl
  | m + 1 => by
    rw [← Nat.add_assoc, cnt_succ, cnt_succ, cnt_add F c key m]
    split <;> omega
/-- The place of i among those that bear its key. -/
theorem idx_at (F : Nat → ByteArray) (key : List UInt8) : ∀ n i, i < n → kof (F i) = key → (idx F n key)[cnt F i key]? = some i
  | n + 1, i, h, hk => by
    rw [idx_succ]
    by_cases hi : i < n
    · have ih := idx_at F key n i hi hk
      have hlt : cnt F i key < (idx F n key).length := (List.getElem?_eq_some_iff.1 ih).1
      split
      · rw [List.getElem?_append_left hlt]; exact ih
      · exact ih
    · obtain rfl : i = n := by omega
      rw [if_pos hk]
      unfold cnt
      simp
theorem cnt_lt {F : Nat → ByteArray} {key : List UInt8} {n i : Nat} (h : i < n) (hk : kof (F i) = key) : cnt F i key < cnt F n key :=
  (List.getElem?_eq_some_iff.1 (idx_at F key n i h hk)).1

/-! ### the counting maps -/
def cf (F : Nat → ByteArray) (k : Nat) (key : List UInt8) : Option Value := if cnt F k key = 0 then none else some (.int .i64 (cnt F k key : Nat))
theorem cf_get (F : Nat → ByteArray) (k : Nat) (key : List UInt8) : (cf F k key).getD (.int .i64 0) = .int .i64 (cnt F k key : Nat) := by
  unfold cf; split
  · rename_i h; rw [h]; rfl
  · rfl
/-- Block b is a map that holds, for each key, how many of the first k places bear it. -/
def Cnt (W : World) (b : Nat) (F : Nat → ByteArray) (k : Nat) : Prop := OMap W b k (cf F k) (dsz F k)
theorem Cnt.made (W : World) (F : Nat → ByteArray) : Cnt (W.alloc (.map #[] 0)) W.heap.size F 0 := OMap.made W
theorem Cnt.below {W W' : World} {B b k : Nat} {F : Nat → ByteArray} (h : Cnt W b F k) (hb : Below B W W') (hlt : b < B) : Cnt W' b F k := OMap.below h hb hlt
theorem Cnt.lt {W : World} {b k : Nat} {F : Nat → ByteArray} (h : Cnt W b F k) : b < W.heap.size := OMap.lt h
theorem Cnt.kept {W W' : World} {b k : Nat} {F : Nat → ByteArray} {row : Option Nat} (h : Cnt W b F k) (hg : W.grownBy W' row) (hne : some b ≠ row) : Cnt W' b F k := OMap.kept h hg hne
theorem Cnt.step {W : World} {b k : Nat} {F : Nat → ByteArray} {key : List UInt8} {u : Value} {q : Nat} (hk : kof (F k) = key) (hq : q = cnt F k key) (hu : u = .int .i64 ((q + 1 : Nat) : Int))
    (h : OMap W b (k + 1) (upd (cf F k) key u) (if (cf F k key).isSome then dsz F k else dsz F k + 1)) : Cnt W b F (k + 1) := by
  subst hk hu hq
  refine OMap.congr h (fun x => ?_) ?_
  · unfold upd cf
    rw [cnt_succ]
    by_cases e : x = kof (F k)
    · subst e; simp
    · have e2 : ¬ kof (F k) = x := fun e' => e e'.symm
      simp only [if_neg e, if_neg e2]
  · rw [dsz]
    unfold cf
    cases hi : idx F k (kof (F k)) with
    | nil => simp [cnt, hi]
    | cons a l => simp [cnt, hi]

/-! ### the answer of Out -/
theorem Inv.below {W W' : World} {B : Nat} {F T : Nat → ByteArray} {ms : Nat → Option Nat} {k : Nat} {f : List UInt8 → Option Value} (h : Inv W B F T ms k f) (hb : Below W.heap.size W W') : Inv W' B F T ms k f where
  map := h.map.below hb h.map.lt
  no := h.no
  yes := fun key hk => by
    obtain ⟨v, hv, hg⟩ := h.yes key hk
    exact ⟨v, hv, ownsRow_below hg hb⟩
  apart := h.apart
  room := Nat.le_trans h.room hb.size

/-- Block B is the answer of Out on n edges with these Froms, Tos and attributes. -/
def Part (W : World) (B : Nat) (F T K V : Nat → ByteArray) (n : Nat) (f : List UInt8 → Option Value) : Prop :=
  ∃ ms, Inv W B F T ms n f ∧ ∀ j, j < n → Attr W (ms j) (K j) (V j)
theorem Part.below {W W' : World} {B n : Nat} {F T K V : Nat → ByteArray} {f : List UInt8 → Option Value} (h : Part W B F T K V n f) (hb : Below W.heap.size W W') : Part W' B F T K V n f := by
  obtain ⟨ms, h1, h2⟩ := h
  exact ⟨ms, h1.below hb, fun j hj => (h2 j hj).below hb⟩
theorem Part.map {W : World} {B n : Nat} {F T K V : Nat → ByteArray} {f : List UInt8 → Option Value} (h : Part W B F T K V n f) : OMap W B n f (dsz F n) := by
  obtain ⟨ms, h1, _⟩ := h; exact h1.map
theorem Part.lt {W : World} {B n : Nat} {F T K V : Nat → ByteArray} {f : List UInt8 → Option Value} (h : Part W B F T K V n f) : B < W.heap.size := h.map.lt

/-- The cells of a row of edges, opened. -/
theorem row_open {W : World} {base n : Nat} {v : Value} {f t : Nat → ByteArray} {ms : Nat → Option Nat} (h : W.ownsRow base 40 3 v n (ecells f t ms n)) (hv : v ≠ .slice none 0 0) :
    ∃ g cap, v = .slice (some ⟨g, 0, none⟩) n cap ∧ ∀ j, j < n → W.cell? ⟨g, j * 3, none⟩ = some (.string (f j)) ∧ W.cell? ⟨g, j * 3 + 1, none⟩ = some (.string (t j)) ∧ W.cell? ⟨g, j * 3 + 2, none⟩ = some (.map (ms j)) := by
  rcases h.2 with ⟨e, _⟩ | ⟨g, cap, cur, rfl, _⟩
  · exact absurd e hv
  · refine ⟨g, cap, rfl, fun j hj => ?_⟩
    have he := ecells_get f t ms n j hj
    refine ⟨?_, ?_, ?_⟩
    · rw [h.cellAt _ (by omega)]; exact he.1
    · rw [h.cellAt _ (by omega)]; exact he.2.1
    · rw [h.cellAt _ (by omega)]; exact he.2.2

/-- The row at the key of place i, and i's edge in it. -/
theorem Part.at {W : World} {B n i : Nat} {F T K V : Nat → ByteArray} {f : List UInt8 → Option Value} (h : Part W B F T K V n f) (hi : i < n) :
    ∃ g cap m, f (kof (F i)) = some (.slice (some ⟨g, 0, none⟩) (cnt F n (kof (F i))) cap) ∧
      W.cell? ⟨g, cnt F i (kof (F i)) * 3, none⟩ = some (.string (F i)) ∧ W.cell? ⟨g, cnt F i (kof (F i)) * 3 + 1, none⟩ = some (.string (T i)) ∧ W.cell? ⟨g, cnt F i (kof (F i)) * 3 + 2, none⟩ = some (.map m) ∧
      Attr W m (K i) (V i) := by
  obtain ⟨ms, hI, hA⟩ := h
  have hix := idx_at F (kof (F i)) n i hi rfl
  have hne : idx F n (kof (F i)) ≠ [] := fun e => by rw [e] at hix; cases hix
  obtain ⟨v, hv, hg⟩ := hI.yes _ hne
  have hlt : cnt F i (kof (F i)) < (idx F n (kof (F i))).length := (List.getElem?_eq_some_iff.1 hix).1
  have hL : (idx F n (kof (F i))).getD (cnt F i (kof (F i))) 0 = i := by rw [List.getD_eq_getElem?_getD, hix]; rfl
  have hnn : v ≠ .slice none 0 0 := by
    rintro rfl
    rcases hg.2 with ⟨_, e⟩ | ⟨g, cap, cur, e, _⟩
    · omega
    · cases e
  obtain ⟨g, cap, rfl, hc⟩ := row_open hg hnn
  have he := hc _ hlt
  simp only [hL] at he
  exact ⟨g, cap, _, hv, he.1, he.2.1, he.2.2, hA i hi⟩

/-- The same, told with the names that the walk has for i's edge. -/
theorem Part.at' {W : World} {B n i p c : Nat} {F T K V : Nat → ByteArray} {f : List UInt8 → Option Value} {xf xt xk xv : ByteArray} (h : Part W B F T K V n f) (hi : i < n)
    (hf : F i = xf) (ht : T i = xt) (hk : K i = xk) (hv : V i = xv) (hp : p = cnt F i (kof xf)) (hc : c = cnt F n (kof xf)) :
    p < c ∧ ∃ g cap m, f (kof xf) = some (.slice (some ⟨g, 0, none⟩) c cap) ∧
      W.cell? ⟨g, p * 3, none⟩ = some (.string xf) ∧ W.cell? ⟨g, p * 3 + 1, none⟩ = some (.string xt) ∧ W.cell? ⟨g, p * 3 + 2, none⟩ = some (.map m) ∧ Attr W m xk xv := by
  subst hf ht hk hv hp hc
  exact ⟨cnt_lt hi rfl, h.at hi⟩
end Go.Proofs.Qxb6631238a
