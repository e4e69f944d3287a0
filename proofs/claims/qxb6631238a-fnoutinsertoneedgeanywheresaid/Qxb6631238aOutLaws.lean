/-
  THE MAP OF EDGES BY THEIR From, AS IT GROWS: seat b6631238a. The plain lists of places, the relation of Out's loop, and its step. No walk here.
-/
import Derived.Test.Qxb6631238aBuild
namespace Go.Proofs.Qxb6631238a
open Go.RowKit Go.Maps

/-- The places below n whose From is the key, in order. -/
def idx (F : Nat → ByteArray) (n : Nat) (key : List UInt8) : List Nat := (List.range n).filter fun j => decide (kof (F j) = key)
theorem idx_succ (F : Nat → ByteArray) (n : Nat) (key : List UInt8) : idx F (n + 1) key = if kof (F n) = key then idx F n key ++ [n] else idx F n key := by
  unfold idx
  rw [List.range_succ, List.filter_append]
  by_cases h : kof (F n) = key
  · rw [if_pos h]; simp [h]
  · rw [if_neg h]; simp [h]
theorem idx_len (F : Nat → ByteArray) (n : Nat) (key : List UInt8) : (idx F n key).length ≤ n := by
  unfold idx
  have := List.length_filter_le (fun j => decide (kof (F j) = key)) (List.range n)
  simpa using this
/-- How many different Froms there are below n. -/
def dsz (F : Nat → ByteArray) : Nat → Nat
  | 0 => 0
  | n + 1 => if (idx F n (kof (F n))).isEmpty then dsz F n + 1 else dsz F n
theorem dsz_le (F : Nat → ByteArray) : ∀ n, dsz F n ≤ n
  | 0 => Nat.le_refl _
  | n + 1 => by have := dsz_le F n; simp only [dsz]; split <;> omega

/-- The slice v owns a row of the edges at the places L. -/
def GRow (W : World) (base : Nat) (F T : Nat → ByteArray) (ms : Nat → Option Nat) (L : List Nat) (v : Value) : Prop :=
  W.ownsRow base 40 3 v L.length (ecells (fun p => F (L.getD p 0)) (fun p => T (L.getD p 0)) (fun p => ms (L.getD p 0)) L.length)

theorem GRow.snoc {W : World} {base : Nat} {F T : Nat → ByteArray} {ms : Nat → Option Nat} {L : List Nat} {v : Value} {k : Nat}
    (h : W.ownsRow base 40 3 v (L.length + 1) (ecells (fun p => F (L.getD p 0)) (fun p => T (L.getD p 0)) (fun p => ms (L.getD p 0)) L.length ++ [.string (F k), .string (T k), .map (ms k)])) : GRow W base F T ms (L ++ [k]) v := by
  unfold GRow
  rw [show (L ++ [k]).length = L.length + 1 by simp]
  rw [ecells]
  have e : (L ++ [k]).getD L.length 0 = k := by simp
  rw [e, ecells_congr (f' := fun p => F (L.getD p 0)) (t' := fun p => T (L.getD p 0)) (ms' := fun p => ms (L.getD p 0)) L.length (fun j hj => by
    have : (L ++ [k]).getD j 0 = L.getD j 0 := by simp [List.getElem?_append_left hj]
    simp only [this]; exact ⟨trivial, trivial, trivial⟩)]
  exact h

/-- Out's relation behind k edges. -/
structure Inv (W : World) (B : Nat) (F T : Nat → ByteArray) (ms : Nat → Option Nat) (k : Nat) (f : List UInt8 → Option Value) : Prop where
  map : OMap W B k f (dsz F k)
  no : ∀ key, idx F k key = [] → f key = none
  yes : ∀ key, idx F k key ≠ [] → ∃ v, f key = some v ∧ GRow W (B + 1) F T ms (idx F k key) v
  apart : ∀ key key' v v', key ≠ key' → f key = some v → f key' = some v' → v.ownBlock ≠ v'.ownBlock
  room : B + 1 ≤ W.heap.size

theorem Inv.made (W : World) (F T : Nat → ByteArray) (ms : Nat → Option Nat) : Inv (W.alloc (.map #[] 0)) W.heap.size F T ms 0 (fun _ => none) where
  map := OMap.made W
  no := fun _ _ => rfl
  yes := fun _ h => absurd rfl h
  apart := fun _ _ _ _ _ h => by cases h
  room := by simp

theorem ownsRow_some {w : World} {base : Nat} {e : TypeId} {size : Nat} {v : Value} {n : Nat} {xs : List Value} (h : w.ownsRow base e size v n xs) (hn : 0 < n) : ∃ g, v.ownBlock = some g := by
  rcases h.2 with ⟨_, h0⟩ | ⟨g, cap, cur, rfl, _⟩
  · omega
  · exact ⟨g, rfl⟩

/-- What is at the key of edge k when it comes up. -/
theorem Inv.at_key {W : World} {B : Nat} {F T : Nat → ByteArray} {ms : Nat → Option Nat} {k : Nat} {f : List UInt8 → Option Value} (h : Inv W B F T ms k f) (key : List UInt8) :
    GRow W (B + 1) F T ms (idx F k key) ((f key).getD (.slice none 0 0)) := by
  by_cases e : idx F k key = []
  · rw [h.no key e, e]
    exact World.ownsRow_nil _ _ _ _
  · obtain ⟨v, hv, hg⟩ := h.yes key e
    rw [hv]; exact hg

theorem Inv.step {wr X w2 w3 : World} {B : Nat} {F T : Nat → ByteArray} {ms : Nat → Option Nat} {k : Nat} {f : List UInt8 → Option Value} {v' : Value}
    (h : Inv wr B F T ms k f) (hX : Below wr.heap.size wr X)
    (hown : w2.ownsRow (B + 1) 40 3 v' ((idx F k (kof (F k))).length + 1) (ecells (fun p => F ((idx F k (kof (F k))).getD p 0)) (fun p => T ((idx F k (kof (F k))).getD p 0)) (fun p => ms ((idx F k (kof (F k))).getD p 0)) (idx F k (kof (F k))).length ++ [.string (F k), .string (T k), .map (ms k)]))
    (hg : X.grownBy w2 ((f (kof (F k))).getD (.slice none 0 0)).ownBlock) (hloc : v'.ownBlock = ((f (kof (F k))).getD (.slice none 0 0)).ownBlock ∨ v'.ownBlock = some X.heap.size)
    (hm : OMap w3 B (k + 1) (upd f (kof (F k)) v') (if (f (kof (F k))).isSome then dsz F k else dsz F k + 1)) (hg3 : w2.grownBy w3 (some B)) :
    Inv w3 B F T ms (k + 1) (upd f (kof (F k)) v') := by
  obtain ⟨key, hkey⟩ : ∃ key, key = kof (F k) := ⟨_, rfl⟩
  rw [← hkey] at hown hg hloc hm ⊢
  have hs : ∀ key', idx F (k + 1) key' = if key = key' then idx F k key' ++ [k] else idx F k key' := fun key' => by rw [idx_succ, hkey]
  obtain ⟨gv, hgv⟩ := ownsRow_some hown (by omega)
  have hbgv := ownsRow_base hown gv hgv
  have hsz : wr.heap.size ≤ w3.heap.size := Nat.le_trans hX.size (Nat.le_trans hg.size hg3.size)
  -- what a row of another key turns into
  have keep : ∀ key' u L, key ≠ key' → f key' = some u → GRow wr (B + 1) F T ms L u → GRow w3 (B + 1) F T ms L u := by
    intro key' u L hne hu hr
    have r1 : GRow X (B + 1) F T ms L u := ownsRow_below hr hX
    have hne2 : u.ownBlock = none ∨ u.ownBlock ≠ ((f key).getD (.slice none 0 0)).ownBlock := by
      cases hf : f key with
      | none =>
        simp only [Option.getD_none]
        cases hub : u.ownBlock with
        | none => exact .inl rfl
        | some g => exact .inr (by simp [Value.ownBlock])
      | some v0 =>
        simp only [Option.getD_some]
        exact .inr (h.apart key' key u v0 (fun e => hne e.symm) hu hf)
    have r2 : GRow w2 (B + 1) F T ms L u := World.ownsRow.kept r1 hg hne2
    refine World.ownsRow.kept r2 hg3 ?_
    cases hub : u.ownBlock with
    | none => exact .inl rfl
    | some g =>
      refine .inr ?_
      intro e
      injection e with e
      have := ownsRow_base r2 g hub
      omega
  refine ⟨hm.congr (fun _ => rfl) ?_, ?_, ?_, ?_, ?_⟩
  · rw [dsz, ← hkey]
    by_cases e : idx F k key = []
    · rw [h.no key e, e]; simp
    · obtain ⟨v, hv, _⟩ := h.yes key e
      rw [hv]
      cases hi : idx F k key with
      | nil => exact absurd hi e
      | cons a l => simp
  · intro key' he
    rw [hs] at he
    by_cases hne : key = key'
    · rw [if_pos hne] at he; simp at he
    · rw [if_neg hne] at he
      simp only [upd]
      rw [if_neg (fun e => hne e.symm)]
      exact h.no key' he
  · intro key' he
    rw [hs] at he ⊢
    by_cases hne : key = key'
    · subst hne
      rw [if_pos rfl]
      refine ⟨v', by simp [upd], ?_⟩
      refine World.ownsRow.kept (GRow.snoc hown) hg3 (.inr ?_)
      rw [hgv]
      intro e
      injection e with e
      omega
    · rw [if_neg hne] at he ⊢
      obtain ⟨u, hu, hr⟩ := h.yes key' he
      exact ⟨u, by simp only [upd]; rw [if_neg (fun e => hne e.symm)]; exact hu, keep key' u _ hne hu hr⟩
  · -- no two rows in one block
    have new : ∀ key' u, key ≠ key' → f key' = some u → v'.ownBlock ≠ u.ownBlock := by
      intro key' u hne hu
      have he : idx F k key' ≠ [] := fun e => by rw [h.no key' e] at hu; cases hu
      obtain ⟨u', hu', hr⟩ := h.yes key' he
      rw [hu] at hu'
      injection hu' with hu'
      subst hu'
      rcases hloc with e | e
      · rw [e]
        cases hf : f key with
        | none =>
          rw [hf] at e
          simp only [Option.getD_none] at e
          rw [hgv] at e
          simp [Value.ownBlock] at e
        | some v0 =>
          simp only [Option.getD_some]
          exact h.apart key key' v0 u hne hf hu
      · rw [e]
        intro e2
        obtain ⟨g, hg0⟩ := ownsRow_some hr (by cases hL : idx F k key' with | nil => exact absurd hL he | cons a l => simp)
        rw [hg0] at e2
        injection e2 with e2
        have := (hr.lt g hg0).2
        have := hX.size
        omega
    intro k1 k2 u1 u2 hne h1 h2
    simp only [upd] at h1 h2
    by_cases e1 : k1 = key
    · rw [if_pos e1] at h1
      injection h1 with h1
      subst h1
      rw [if_neg (fun e => hne (e1.trans e.symm))] at h2
      exact new k2 u2 (fun e => hne (e1.trans e)) h2
    · rw [if_neg e1] at h1
      by_cases e2 : k2 = key
      · rw [if_pos e2] at h2
        injection h2 with h2
        subst h2
        exact fun e => new k1 u1 (fun e => e1 e.symm) h1 e.symm
      · rw [if_neg e2] at h2
        exact h.apart k1 k2 u1 u2 hne h1 h2
  · exact Nat.le_trans h.room hsz
end Go.Proofs.Qxb6631238a
