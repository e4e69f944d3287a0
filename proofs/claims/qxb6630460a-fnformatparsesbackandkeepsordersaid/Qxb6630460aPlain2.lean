/-
  PLAIN LAWS of seat b6630460a, for the first law: the text read back, and its order. Nothing of the program here.
-/
import Derived.Test.Qxb6630460aPlain
namespace Go.Proofs.Qxb6630460a

/-! ### comparing place by place -/
def cmpFrom (f g : Nat → Int) : Nat → Nat → Int
  | 0, _ => 0
  | m + 1, k => if f k < g k then -1 else if g k < f k then 1 else cmpFrom f g m (k + 1)

theorem cmp_eq (f g : Nat → Int) : ∀ (m k : Nat), (∀ j, j < m → f (k + j) = g (k + j)) → cmpFrom f g m k = 0
  | 0, _, _ => rfl
  | m + 1, k, h => by
    have h0 := h 0 (by omega)
    simp only [Nat.add_zero] at h0
    unfold cmpFrom
    rw [if_neg (by omega), if_neg (by omega)]
    exact cmp_eq f g m (k + 1) (fun j hj => by have := h (j + 1) (by omega); rwa [show k + 1 + j = k + (j + 1) by omega])
theorem cmp_lt (f g : Nat → Int) : ∀ (m k d : Nat), d < m → (∀ j, j < d → f (k + j) = g (k + j)) → f (k + d) < g (k + d) → cmpFrom f g m k = -1
  | m + 1, k, 0, _, _, hl => by
    simp only [Nat.add_zero] at hl
    unfold cmpFrom
    rw [if_pos hl]
  | m + 1, k, d + 1, hd, h, hl => by
    have h0 := h 0 (by omega)
    simp only [Nat.add_zero] at h0
    unfold cmpFrom
    rw [if_neg (by omega), if_neg (by omega)]
    exact cmp_lt f g m (k + 1) d (by omega) (fun j hj => by have := h (j + 1) (by omega); rwa [show k + 1 + j = k + (j + 1) by omega]) (by rwa [show k + 1 + d = k + (d + 1) by omega])
theorem cmp_gt (f g : Nat → Int) : ∀ (m k d : Nat), d < m → (∀ j, j < d → f (k + j) = g (k + j)) → g (k + d) < f (k + d) → cmpFrom f g m k = 1
  | m + 1, k, 0, _, _, hl => by
    simp only [Nat.add_zero] at hl
    unfold cmpFrom
    rw [if_neg (by omega), if_pos hl]
  | m + 1, k, d + 1, hd, h, hl => by
    have h0 := h 0 (by omega)
    simp only [Nat.add_zero] at h0
    unfold cmpFrom
    rw [if_neg (by omega), if_neg (by omega)]
    exact cmp_gt f g m (k + 1) d (by omega) (fun j hj => by have := h (j + 1) (by omega); rwa [show k + 1 + j = k + (j + 1) by omega]) (by rwa [show k + 1 + d = k + (d + 1) by omega])

theorem first_diff (a b : Nat → Int) : ∀ n, (∀ j, j < n → a j = b j) ∨ ∃ d, d < n ∧ (∀ j, j < d → a j = b j) ∧ a d ≠ b d
  | 0 => .inl (fun j hj => by omega)
  | n + 1 => by
    rcases first_diff a b n with h | ⟨d, hd, h1, h2⟩
    · by_cases e : a n = b n
      · exact .inl (fun j hj => by by_cases hjn : j = n; · subst hjn; exact e
                                   · exact h j (by omega))
      · exact .inr ⟨n, by omega, h, e⟩
    · exact .inr ⟨d, by omega, h1, h2⟩

theorem ahead : ∀ (d : Fin 16) (q : Fin 36), q.val < fdp d.val → dashB q.val = true ∨ bi q.val < d.val := by decide +kernel
theorem all_lt : ∀ q : Fin 36, dashB q.val = false → bi q.val < 16 := by decide +kernel

theorem hexd_lt (x y : Int) (h : x < y) : hexd x < hexd y := by unfold hexd; split <;> split <;> omega

theorem text_lt (a b : Nat → Int) (ha : ∀ i, i < 16 → 0 ≤ a i ∧ a i < 256) (hb : ∀ i, i < 16 → 0 ≤ b i ∧ b i < 256) (d : Nat) (hd : d < 16) (he : ∀ j, j < d → a j = b j) (hl : a d < b d) :
    ∃ p, p < 36 ∧ (∀ q, q < p → ch a q = ch b q) ∧ ch a p < ch b p := by
  have had := ha d hd
  have hbd := hb d hd
  obtain ⟨_, _, _, hp⟩ := places ⟨d, hd⟩ ⟨0, by omega⟩
  simp only at hp
  have eq : ∀ q, q < fdp d → ch a q = ch b q := by
    intro q hq
    rw [ch_eq, ch_eq]
    have := ahead ⟨d, hd⟩ ⟨q, by omega⟩ hq
    simp only at this
    by_cases hdash : dashB q = true
    · rw [if_pos hdash, if_pos hdash]
    · rw [if_neg hdash, if_neg hdash, he _ (by simpa [hdash] using this)]
  have p1 := (places ⟨d, hd⟩ ⟨fdp d, by omega⟩).1 rfl
  have p2 := (places ⟨d, hd⟩ ⟨fdp d + 1, by omega⟩).2.1 rfl
  simp only at p1 p2
  have c1 : ∀ b : Nat → Int, ch b (fdp d) = hexd (b d / 16) := by intro b; rw [ch_eq, p1.1, p1.2.1, p1.2.2]; simp [hx]
  have c2 : ∀ b : Nat → Int, ch b (fdp d + 1) = hexd (b d % 16) := by intro b; rw [ch_eq, p2.1, p2.2.1, p2.2.2]; simp [hx]
  by_cases hn : a d / 16 < b d / 16
  · exact ⟨fdp d, by omega, eq, by rw [c1, c1]; exact hexd_lt _ _ hn⟩
  · refine ⟨fdp d + 1, by omega, ?_, by rw [c2, c2]; exact hexd_lt _ _ (by omega)⟩
    intro q hq
    by_cases e : q = fdp d
    · subst e; rw [c1, c1, show a d / 16 = b d / 16 by omega]
    · exact eq q (by omega)

theorem order_law (a b : Nat → Int) (ha : ∀ i, i < 16 → 0 ≤ a i ∧ a i < 256) (hb : ∀ i, i < 16 → 0 ≤ b i ∧ b i < 256) :
    cmpFrom (ch a) (ch b) 36 0 = cmpFrom a b 16 0 := by
  rcases first_diff a b 16 with h | ⟨d, hd, he, hne⟩
  · rw [cmp_eq a b 16 0 (fun j hj => by rw [Nat.zero_add]; exact h j hj)]
    refine cmp_eq (ch a) (ch b) 36 0 (fun j hj => ?_)
    rw [Nat.zero_add, ch_eq, ch_eq]
    by_cases hdash : dashB j = true
    · rw [if_pos hdash, if_pos hdash]
    · rw [if_neg hdash, if_neg hdash, h _ (all_lt ⟨j, hj⟩ (by simpa using hdash))]
  · by_cases hl : a d < b d
    · obtain ⟨p, hp, h1, h2⟩ := text_lt a b ha hb d hd he hl
      rw [cmp_lt a b 16 0 d hd (fun j hj => by rw [Nat.zero_add]; exact he j hj) (by rwa [Nat.zero_add]),
        cmp_lt (ch a) (ch b) 36 0 p hp (fun j hj => by rw [Nat.zero_add]; exact h1 j hj) (by rwa [Nat.zero_add])]
    · obtain ⟨p, hp, h1, h2⟩ := text_lt b a hb ha d hd (fun j hj => (he j hj).symm) (by omega)
      rw [cmp_gt a b 16 0 d hd (fun j hj => by rw [Nat.zero_add]; exact he j hj) (by rw [Nat.zero_add]; omega),
        cmp_gt (ch a) (ch b) 36 0 p hp (fun j hj => by rw [Nat.zero_add]; exact (h1 j hj).symm) (by rwa [Nat.zero_add])]

theorem cmp_small (f g : Nat → Int) : ∀ m k, -1 ≤ cmpFrom f g m k ∧ cmpFrom f g m k ≤ 1
  | 0, _ => by simp [cmpFrom]
  | m + 1, k => by
    have := cmp_small f g m (k + 1)
    unfold cmpFrom
    split
    · omega
    · split
      · omega
      · exact this

/-! ### reading the text back -/
/-- How many digits stand ahead of place q. -/
def kd (q : Nat) : Nat := q - (if 8 < q then 1 else 0) - (if 13 < q then 1 else 0) - (if 18 < q then 1 else 0) - (if 23 < q then 1 else 0)
theorem kd_step : ∀ q : Fin 36, (dashB q.val = true → kd (q.val + 1) = kd q.val) ∧ (dashB q.val = false → kd (q.val + 1) = kd q.val + 1 ∧ kd q.val = 2 * bi q.val + ri q.val ∧ ri q.val < 2 ∧ bi q.val < 16) := by decide +kernel
/-- What the reader has gathered behind k digits. -/
def outF (b : Nat → Int) (k : Nat) : Nat → Int := fun j => if 2 * j + 1 < k then b j else if 2 * j < k then b j / 16 * 16 else 0
theorem outF_zero (b : Nat → Int) (j : Nat) : outF b 0 j = 0 := by unfold outF; rw [if_neg (by omega), if_neg (by omega)]
theorem outF_all (b : Nat → Int) (j : Nat) (h : j < 16) : outF b 32 j = b j := by unfold outF; rw [if_pos (by omega)]
theorem outF_hi (b : Nat → Int) (i j : Nat) : (if j = i then b i / 16 * 16 else outF b (2 * i) j) = outF b (2 * i + 1) j := by
  unfold outF
  by_cases h : j = i
  · subst h; rw [if_pos rfl, if_neg (by omega), if_pos (by omega)]
  · rw [if_neg h]
    by_cases h1 : 2 * j + 1 < 2 * i
    · rw [if_pos h1, if_pos (by omega)]
    · rw [if_neg h1, if_neg (by omega), if_neg (by omega), if_neg (by omega)]
theorem outF_lo (b : Nat → Int) (i j : Nat) : (if j = i then b i else outF b (2 * i + 1) j) = outF b (2 * i + 2) j := by
  unfold outF
  by_cases h : j = i
  · subst h; rw [if_pos rfl, if_pos (by omega)]
  · rw [if_neg h]
    by_cases h1 : 2 * j + 1 < 2 * i + 1
    · rw [if_pos h1, if_pos (by omega)]
    · rw [if_neg h1, if_neg (by omega), if_neg (by omega), if_neg (by omega)]
theorem outF_mid (b : Nat → Int) (i : Nat) : outF b (2 * i + 1) i = b i / 16 * 16 := by unfold outF; rw [if_neg (by omega), if_pos (by omega)]
end Go.Proofs.Qxb6630460a
