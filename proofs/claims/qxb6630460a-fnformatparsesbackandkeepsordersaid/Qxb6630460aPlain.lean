/-
  PLAIN LAWS of seat b6630460a: the text of an id. Nothing of the program here.
-/
namespace Go.Proofs.Qxb6630460a

/-- The lowercase hex digit of n (0 .. 15), as a byte. -/
def hexd (n : Int) : Int := if n < 10 then 48 + n else 87 + n
/-- The digit number r (0: the high one) of the byte v. -/
def hx (v : Int) (r : Nat) : Int := if r = 0 then hexd (v / 16) else hexd (v % 16)
/-- 2 n digits of the bytes b so, b (so + 1), .. laid over c from place d on. -/
def encF (c : Nat → Int) (d so n : Nat) (b : Nat → Int) : Nat → Int := fun q => if d ≤ q ∧ q < d + 2 * n then hx (b (so + (q - d) / 2)) ((q - d) % 2) else c q

theorem hexd_bounds (n : Int) (h : 0 ≤ n ∧ n < 16) : 48 ≤ hexd n ∧ hexd n ≤ 102 := by unfold hexd; split <;> omega
theorem hx_bounds (v : Int) (r : Nat) (h : 0 ≤ v ∧ v < 256) : 48 ≤ hx v r ∧ hx v r ≤ 102 := by
  unfold hx; split
  · exact hexd_bounds _ (by omega)
  · exact hexd_bounds _ (by omega)

theorem encF_zero (c : Nat → Int) (d so : Nat) (b : Nat → Int) (q : Nat) : encF c d so 0 b q = c q := by unfold encF; rw [if_neg (by omega)]
theorem encF_step (c : Nat → Int) (d so k : Nat) (b : Nat → Int) (q : Nat) :
    (if q = d + (2 * k + 1) then hexd (b (so + k) % 16) else if q = d + 2 * k then hexd (b (so + k) / 16) else encF c d so k b q) = encF c d so (k + 1) b q := by
  unfold encF
  by_cases h1 : q = d + (2 * k + 1)
  · subst h1
    rw [if_pos rfl, if_pos (by omega), show d + (2 * k + 1) - d = 2 * k + 1 by omega, show (2 * k + 1) / 2 = k by omega, show (2 * k + 1) % 2 = 1 by omega]
    rfl
  · rw [if_neg h1]
    by_cases h2 : q = d + 2 * k
    · subst h2
      rw [if_pos rfl, if_pos (by omega), show d + 2 * k - d = 2 * k by omega, show (2 * k) / 2 = k by omega, show (2 * k) % 2 = 0 by omega]
      rfl
    · rw [if_neg h2]
      by_cases h3 : d ≤ q ∧ q < d + 2 * k
      · rw [if_pos h3, if_pos (by omega)]
      · rw [if_neg h3, if_neg (by omega)]

/-- The byte at place q of the text of the id b. -/
def ch (b : Nat → Int) (q : Nat) : Int :=
  if q = 8 ∨ q = 13 ∨ q = 18 ∨ q = 23 then 45 else if q < 8 then hx (b (q / 2)) (q % 2) else if q < 13 then hx (b (4 + (q - 9) / 2)) ((q - 9) % 2)
  else if q < 18 then hx (b (6 + (q - 14) / 2)) ((q - 14) % 2) else if q < 23 then hx (b (8 + (q - 19) / 2)) ((q - 19) % 2) else hx (b (10 + (q - 24) / 2)) ((q - 24) % 2)

theorem ch_of (b : Nat → Int) (q : Nat) (hq : q < 36) :
    (if q = 23 then 45 else if q = 18 then 45 else if q = 13 then 45 else if q = 8 then 45 else encF (encF (encF (encF (encF (fun _ => 0) 0 0 4 b) 9 4 2 b) 14 6 2 b) 19 8 2 b) 24 10 6 b q) = ch b q := by
  unfold ch
  by_cases h1 : q = 23
  · rw [if_pos h1, if_pos (by omega)]
  by_cases h2 : q = 18
  · rw [if_neg h1, if_pos h2, if_pos (by omega)]
  by_cases h3 : q = 13
  · rw [if_neg h1, if_neg h2, if_pos h3, if_pos (by omega)]
  by_cases h4 : q = 8
  · rw [if_neg h1, if_neg h2, if_neg h3, if_pos h4, if_pos (by omega)]
  rw [if_neg h1, if_neg h2, if_neg h3, if_neg h4, if_neg (by omega)]
  unfold encF
  by_cases k1 : q < 8
  · rw [if_neg (by omega), if_neg (by omega), if_neg (by omega), if_neg (by omega), if_pos (by omega), if_pos k1]
    simp
  by_cases k2 : q < 13
  · rw [if_neg (by omega), if_neg (by omega), if_neg (by omega), if_pos (by omega), if_neg k1, if_pos k2]
  by_cases k3 : q < 18
  · rw [if_neg (by omega), if_neg (by omega), if_pos (by omega), if_neg k1, if_neg k2, if_pos k3]
  by_cases k4 : q < 23
  · rw [if_neg (by omega), if_pos (by omega), if_neg k1, if_neg k2, if_neg k3, if_pos k4]
  · rw [if_pos (by omega), if_neg k1, if_neg k2, if_neg k3, if_neg k4]

theorem ch_bounds (b : Nat → Int) (hb : ∀ i, i < 16 → 0 ≤ b i ∧ b i < 256) (q : Nat) (hq : q < 36) : 45 ≤ ch b q ∧ ch b q ≤ 102 := by
  have key : ∀ i r, i < 16 → 45 ≤ hx (b i) r ∧ hx (b i) r ≤ 102 := fun i r hi => by have := hx_bounds (b i) r (hb i hi); omega
  unfold ch
  by_cases h : q = 8 ∨ q = 13 ∨ q = 18 ∨ q = 23
  · rw [if_pos h]; omega
  rw [if_neg h]
  by_cases k1 : q < 8
  · rw [if_pos k1]; exact key _ _ (by omega)
  by_cases k2 : q < 13
  · rw [if_neg k1, if_pos k2]; exact key _ _ (by omega)
  by_cases k3 : q < 18
  · rw [if_neg k1, if_neg k2, if_pos k3]; exact key _ _ (by omega)
  by_cases k4 : q < 23
  · rw [if_neg k1, if_neg k2, if_neg k3, if_pos k4]; exact key _ _ (by omega)
  · rw [if_neg k1, if_neg k2, if_neg k3, if_neg k4]; exact key _ _ (by omega)

def dashB (q : Nat) : Bool := q == 8 || q == 13 || q == 18 || q == 23
/-- Which byte, and which of its two digits, stands at place q. -/
def bi (q : Nat) : Nat := if q < 8 then q / 2 else if q < 13 then 4 + (q - 9) / 2 else if q < 18 then 6 + (q - 14) / 2 else if q < 23 then 8 + (q - 19) / 2 else 10 + (q - 24) / 2
def ri (q : Nat) : Nat := if q < 8 then q % 2 else if q < 13 then (q - 9) % 2 else if q < 18 then (q - 14) % 2 else if q < 23 then (q - 19) % 2 else (q - 24) % 2
/-- The place of the first of byte i's two digits. -/
def fdp (i : Nat) : Nat := 2 * i + (if 4 ≤ i then 1 else 0) + (if 6 ≤ i then 1 else 0) + (if 8 ≤ i then 1 else 0) + (if 10 ≤ i then 1 else 0)

theorem ch_eq (b : Nat → Int) (q : Nat) : ch b q = if dashB q = true then 45 else hx (b (bi q)) (ri q) := by
  have hd : dashB q = true ↔ (q = 8 ∨ q = 13 ∨ q = 18 ∨ q = 23) := by simp [dashB, or_assoc]
  by_cases h : q = 8 ∨ q = 13 ∨ q = 18 ∨ q = 23
  · rw [if_pos (hd.2 h)]; unfold ch; rw [if_pos h]
  · rw [if_neg (fun e => h (hd.1 e))]
    unfold ch bi ri
    rw [if_neg h]
    by_cases k1 : q < 8
    · simp only [if_pos k1]
    by_cases k2 : q < 13
    · simp only [if_neg k1, if_pos k2]
    by_cases k3 : q < 18
    · simp only [if_neg k1, if_neg k2, if_pos k3]
    by_cases k4 : q < 23
    · simp only [if_neg k1, if_neg k2, if_neg k3, if_pos k4]
    · simp only [if_neg k1, if_neg k2, if_neg k3, if_neg k4]

theorem places : ∀ (i : Fin 16) (q : Fin 36), (q.val = fdp i.val → dashB q.val = false ∧ bi q.val = i.val ∧ ri q.val = 0) ∧ (q.val = fdp i.val + 1 → dashB q.val = false ∧ bi q.val = i.val ∧ ri q.val = 1) ∧
    (q.val ≠ fdp i.val → q.val ≠ fdp i.val + 1 → dashB q.val = false → bi q.val ≠ i.val) ∧ fdp i.val ≤ 34 := by decide +kernel

theorem ch_set (b : Nat → Int) (i : Nat) (v : Int) (hi : i < 16) (q : Nat) (hq : q < 36) :
    ch (fun j => if j = i then v else b j) q = if q = fdp i then hexd (v / 16) else if q = fdp i + 1 then hexd (v % 16) else ch b q := by
  obtain ⟨p1, p2, p3, _⟩ := places ⟨i, hi⟩ ⟨q, hq⟩
  simp only at p1 p2 p3
  rw [ch_eq, ch_eq]
  by_cases h1 : q = fdp i
  · obtain ⟨a1, a2, a3⟩ := p1 h1
    rw [if_pos h1, a1, a2, a3]; simp [hx]
  · rw [if_neg h1]
    by_cases h2 : q = fdp i + 1
    · obtain ⟨a1, a2, a3⟩ := p2 h2
      rw [if_pos h2, a1, a2, a3]; simp [hx]
    · rw [if_neg h2]
      by_cases hd : dashB q = true
      · rw [if_pos hd, if_pos hd]
      · rw [if_neg hd, if_neg hd, if_neg (p3 h1 h2 (by simpa using hd))]
end Go.Proofs.Qxb6630460a
