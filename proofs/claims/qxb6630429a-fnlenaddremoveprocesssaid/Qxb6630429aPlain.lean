/-
  PLAIN LAWS of seat b6630429a: the number of one bits of a 64-bit word; nothing of the program here.
-/
import Derived.Laws.Bits64
namespace Go.Proofs.Qxb6630429a

/-- How many of the low f bits of x are one. -/
def pc : Nat → Nat → Nat
  | 0, _ => 0
  | f + 1, x => x % 2 + pc f (x / 2)

theorem pc_le : ∀ (f x : Nat), pc f x ≤ f
  | 0, _ => Nat.le_refl _
  | f + 1, x => by have := pc_le f (x / 2); simp only [pc]; omega

theorem pc_compl : ∀ (f x : Nat), x < 2 ^ f → pc f x + pc f (2 ^ f - 1 - x) = f
  | 0, _, _ => rfl
  | f + 1, x, h => by
    have hp : 2 ^ (f + 1) = 2 * 2 ^ f := by rw [Nat.pow_succ]; omega
    have ih := pc_compl f (x / 2) (by omega)
    have e : (2 ^ (f + 1) - 1 - x) / 2 = 2 ^ f - 1 - x / 2 := by omega
    have e2 : (2 ^ (f + 1) - 1 - x) % 2 = 1 - x % 2 := by omega
    simp only [pc, e, e2]
    omega

theorem pc_split : ∀ (f g x : Nat), pc (f + g) x = pc f (x % 2 ^ f) + pc g (x / 2 ^ f)
  | 0, g, x => by simp [pc]
  | f + 1, g, x => by
    have hp : 2 ^ (f + 1) = 2 * 2 ^ f := by rw [Nat.pow_succ]; omega
    have ih := pc_split f g (x / 2)
    rw [show f + 1 + g = (f + g) + 1 by omega]
    simp only [pc]
    rw [ih, hp, Nat.mod_mul, Nat.div_div_eq_div_mul]
    have a1 : (x % 2 + 2 * (x / 2 % 2 ^ f)) % 2 = x % 2 := by omega
    have a2 : (x % 2 + 2 * (x / 2 % 2 ^ f)) / 2 = x / 2 % 2 ^ f := by omega
    rw [a1, a2]
    omega

/-! ### one bit set, one bit cleared -/
theorem or_low (x j : Nat) : (x ||| 2 ^ (j + 1)) % 2 = x % 2 := by
  have := Nat.or_mod_two_pow (a := x) (b := 2 ^ (j + 1)) (n := 1)
  simp only [Nat.pow_one] at this
  rw [this, Nat.pow_succ]; simp
theorem or_high (x j : Nat) : (x ||| 2 ^ (j + 1)) / 2 = x / 2 ||| 2 ^ j := by
  have := Nat.or_div_two_pow (a := x) (b := 2 ^ (j + 1)) (n := 1)
  simp only [Nat.pow_one] at this
  rw [this, Nat.pow_succ]; simp
theorem or_low0 (x : Nat) : (x ||| 2 ^ 0) % 2 = 1 := by
  have := Nat.or_mod_two_pow (a := x) (b := 1) (n := 1)
  simp only [Nat.pow_one] at this
  simp only [Nat.pow_zero, this]
  rcases Nat.mod_two_eq_zero_or_one x with h | h <;> rw [h] <;> rfl
theorem or_high0 (x : Nat) : (x ||| 2 ^ 0) / 2 = x / 2 := by
  have := Nat.or_div_two_pow (a := x) (b := 1) (n := 1)
  simp only [Nat.pow_one] at this
  simp only [Nat.pow_zero, this]; simp

theorem pc_or : ∀ (f j x : Nat), j < f → pc f (x ||| 2 ^ j) + x / 2 ^ j % 2 = pc f x + 1
  | f + 1, 0, x, _ => by simp only [pc, or_low0, or_high0]; omega
  | f + 1, j + 1, x, h => by
    have ih := pc_or f j (x / 2) (by omega)
    simp only [pc, or_low, or_high]
    rw [show 2 ^ (j + 1) = 2 * 2 ^ j by rw [Nat.pow_succ]; omega, ← Nat.div_div_eq_div_mul]
    omega

/-- Clearing bit j. -/
theorem pc_andNot : ∀ (f j x : Nat), j < f → x < 2 ^ f → pc f (x &&& (2 ^ f - 1 - 2 ^ j)) + x / 2 ^ j % 2 = pc f x
  | f + 1, 0, x, _, hx => by
    have hp : 2 ^ (f + 1) = 2 * 2 ^ f := by rw [Nat.pow_succ]; omega
    have hpos : 0 < 2 ^ f := Nat.pow_pos (by decide)
    have h1 := Nat.and_mod_two_pow (a := x) (b := 2 ^ (f + 1) - 1 - 2 ^ 0) (n := 1)
    have h2 := Nat.and_div_two_pow (a := x) (b := 2 ^ (f + 1) - 1 - 2 ^ 0) (n := 1)
    simp only [Nat.pow_one] at h1 h2
    rw [show (2 ^ (f + 1) - 1 - 2 ^ 0) % 2 = 0 by rw [hp, Nat.pow_zero]; omega, Nat.and_zero] at h1
    rw [show (2 ^ (f + 1) - 1 - 2 ^ 0) / 2 = 2 ^ f - 1 by rw [hp, Nat.pow_zero]; omega, Nat.and_two_pow_sub_one_eq_mod, Nat.mod_eq_of_lt (by omega)] at h2
    simp only [pc, h1, h2, Nat.pow_zero, Nat.div_one]
    omega
  | f + 1, j + 1, x, h, hx => by
    have hp : 2 ^ (f + 1) = 2 * 2 ^ f := by rw [Nat.pow_succ]; omega
    have hq : 2 ^ (j + 1) = 2 * 2 ^ j := by rw [Nat.pow_succ]; omega
    have hlt : 2 ^ j < 2 ^ f := Nat.pow_lt_pow_right (by decide) (by omega)
    have ih := pc_andNot f j (x / 2) (by omega) (by omega)
    have h1 := Nat.and_mod_two_pow (a := x) (b := 2 ^ (f + 1) - 1 - 2 ^ (j + 1)) (n := 1)
    have h2 := Nat.and_div_two_pow (a := x) (b := 2 ^ (f + 1) - 1 - 2 ^ (j + 1)) (n := 1)
    simp only [Nat.pow_one] at h1 h2
    rw [show (2 ^ (f + 1) - 1 - 2 ^ (j + 1)) % 2 = 1 by rw [hp, hq]; omega] at h1
    rw [show (2 ^ (f + 1) - 1 - 2 ^ (j + 1)) / 2 = 2 ^ f - 1 - 2 ^ j by rw [hp, hq]; omega] at h2
    have h3 : x % 2 &&& 1 = x % 2 := by rcases Nat.mod_two_eq_zero_or_one x with e | e <;> rw [e] <;> rfl
    rw [h3] at h1
    simp only [pc, h1, h2]
    rw [hq, ← Nat.div_div_eq_div_mul]
    omega

theorem and_bit : ∀ (j x : Nat), x &&& 2 ^ j = x / 2 ^ j % 2 * 2 ^ j
  | 0, x => by
    have := Nat.and_two_pow_sub_one_eq_mod x 1
    simp only [Nat.pow_one] at this
    simp [this]
  | j + 1, x => by
    have ih := and_bit j (x / 2)
    have hq : 2 ^ (j + 1) = 2 * 2 ^ j := by rw [Nat.pow_succ]; omega
    have h1 := Nat.and_mod_two_pow (a := x) (b := 2 ^ (j + 1)) (n := 1)
    have h2 := Nat.and_div_two_pow (a := x) (b := 2 ^ (j + 1)) (n := 1)
    simp only [Nat.pow_one] at h1 h2
    rw [show 2 ^ (j + 1) % 2 = 0 by rw [hq]; omega, Nat.and_zero] at h1
    rw [show 2 ^ (j + 1) / 2 = 2 ^ j by rw [hq]; omega, ih, Nat.div_div_eq_div_mul, ← hq] at h2
    have h3 : x / 2 ^ (j + 1) % 2 * 2 ^ (j + 1) = 2 * (x / 2 ^ (j + 1) % 2 * 2 ^ j) := by rw [hq, Nat.mul_left_comm]
    omega

/-! ### the word's bits, counted side by side -/
theorem and_bytes (a c m n : Nat) (hc : c < 256) (hn : n < 256) : (256 * a + c) &&& (256 * m + n) = 256 * (a &&& m) + (c &&& n) := by
  have h1 := Nat.and_mod_two_pow (a := 256 * a + c) (b := 256 * m + n) (n := 8)
  have h2 := Nat.and_div_two_pow (a := 256 * a + c) (b := 256 * m + n) (n := 8)
  simp only [show (2 : Nat) ^ 8 = 256 from rfl] at h1 h2
  rw [show (256 * a + c) % 256 = c by omega, show (256 * m + n) % 256 = n by omega] at h1
  rw [show (256 * a + c) / 256 = a by omega, show (256 * m + n) / 256 = m by omega] at h2
  omega

def msk (b : Nat) : Nat → Nat
  | 0 => 0
  | n + 1 => 256 * msk b n + b

def f1 (M x : Nat) : Nat := (x / 2 &&& M) + (x &&& M)
def f2 (M x : Nat) : Nat := (x / 4 &&& M) + (x &&& M)
def f3 (M x : Nat) : Nat := (x / 16 + x) &&& M

theorem byte1 : ∀ (b : Fin 256) (c : Fin 2), (b.val / 2 + 128 * c.val) &&& 85 = b.val / 2 &&& 85 := by decide +kernel
theorem byte2 : ∀ (b : Fin 256) (c : Fin 4), (b.val / 4 + 64 * c.val) &&& 51 = b.val / 4 &&& 51 := by decide +kernel
theorem byte3 : ∀ (b : Fin 137), b.val &&& 15 = b.val % 16 := by decide +kernel
theorem byteAll : ∀ b : Fin 256, f3 15 (f2 51 (f1 85 b.val)) = pc 8 b.val ∧ f1 85 b.val < 256 ∧ f2 51 (f1 85 b.val) ≤ 68 ∧ f2 51 (f1 85 b.val) % 16 ≤ 4 := by decide +kernel

theorem f1_step (M h b : Nat) (hb : b < 256) : f1 (256 * M + 85) (256 * h + b) = 256 * f1 M h + f1 85 b := by
  unfold f1
  rw [show (256 * h + b) / 2 = 256 * (h / 2) + (b / 2 + 128 * (h % 2)) by omega, and_bytes _ _ _ _ (by omega) (by omega), and_bytes _ _ _ _ hb (by omega)]
  have := byte1 ⟨b, hb⟩ ⟨h % 2, by omega⟩
  simp only at this
  rw [this]
  omega
theorem f2_step (M h b : Nat) (hb : b < 256) : f2 (256 * M + 51) (256 * h + b) = 256 * f2 M h + f2 51 b := by
  unfold f2
  rw [show (256 * h + b) / 4 = 256 * (h / 4) + (b / 4 + 64 * (h % 4)) by omega, and_bytes _ _ _ _ (by omega) (by omega), and_bytes _ _ _ _ hb (by omega)]
  have := byte2 ⟨b, hb⟩ ⟨h % 4, by omega⟩
  simp only at this
  rw [this]
  omega
theorem f3_step (M h b : Nat) (hb : b ≤ 68) (hh : h % 16 ≤ 4) : f3 (256 * M + 15) (256 * h + b) = 256 * f3 M h + f3 15 b := by
  unfold f3
  rw [show (256 * h + b) / 16 + (256 * h + b) = 256 * (h / 16 + h) + (b / 16 + b + 16 * (h % 16)) by omega, and_bytes _ _ _ _ (by omega) (by omega)]
  have a1 := byte3 ⟨b / 16 + b + 16 * (h % 16), by omega⟩
  have a2 := byte3 ⟨b / 16 + b, by omega⟩
  simp only at a1 a2
  rw [a1, a2]
  omega

/-- Eight bits a step: the counts of the bytes, each in its byte. -/
def bytesPc : Nat → Nat → Nat
  | 0, _ => 0
  | n + 1, x => 256 * bytesPc n (x / 256) + pc 8 (x % 256)

theorem f123 : ∀ (n x : Nat), x < 256 ^ n → f3 (msk 15 n) (f2 (msk 51 n) (f1 (msk 85 n) x)) = bytesPc n x ∧ f2 (msk 51 n) (f1 (msk 85 n) x) % 16 ≤ 4
  | 0, x, h => by
    have : x = 0 := by simpa using h
    subst this
    decide
  | n + 1, x, h => by
    have ih := f123 n (x / 256) (by rw [Nat.pow_succ] at h; omega)
    have hx : x = 256 * (x / 256) + x % 256 := by omega
    have hb : x % 256 < 256 := by omega
    generalize x / 256 = q at *
    generalize x % 256 = b at *
    subst hx
    have ba := byteAll ⟨b, hb⟩
    simp only at ba
    simp only [msk, bytesPc]
    rw [f1_step _ _ _ hb, f2_step _ _ _ ba.2.1, f3_step _ _ _ ba.2.2.1 ih.2, ih.1, ba.1]
    refine ⟨?_, by omega⟩
    rw [show (256 * q + b) / 256 = q by omega, show (256 * q + b) % 256 = b by omega]

theorem bytesPc_eight (x : Nat) : ∃ p0 p1 p2 p3 p4 p5 p6 p7 : Nat, p0 ≤ 8 ∧ p1 ≤ 8 ∧ p2 ≤ 8 ∧ p3 ≤ 8 ∧ p4 ≤ 8 ∧ p5 ≤ 8 ∧ p6 ≤ 8 ∧ p7 ≤ 8 ∧
    bytesPc 8 x = p0 + 256 * (p1 + 256 * (p2 + 256 * (p3 + 256 * (p4 + 256 * (p5 + 256 * (p6 + 256 * p7)))))) ∧
    pc 64 x = p0 + p1 + p2 + p3 + p4 + p5 + p6 + pc 8 (x / 256 / 256 / 256 / 256 / 256 / 256 / 256) ∧ p7 = pc 8 (x / 256 / 256 / 256 / 256 / 256 / 256 / 256 % 256) := by
  have s : ∀ g y, pc (8 + g) y = pc 8 (y % 256) + pc g (y / 256) := fun g y => pc_split 8 g y
  refine ⟨_, _, _, _, _, _, _, _, pc_le 8 (x % 256), pc_le 8 (x / 256 % 256), pc_le 8 (x / 256 / 256 % 256), pc_le 8 (x / 256 / 256 / 256 % 256), pc_le 8 (x / 256 / 256 / 256 / 256 % 256), pc_le 8 (x / 256 / 256 / 256 / 256 / 256 % 256), pc_le 8 (x / 256 / 256 / 256 / 256 / 256 / 256 % 256), pc_le 8 (x / 256 / 256 / 256 / 256 / 256 / 256 / 256 % 256), ?_, ?_, rfl⟩
  · simp only [bytesPc]; omega
  · rw [show (64 : Nat) = 8 + (8 + (8 + (8 + (8 + (8 + (8 + 8)))))) from rfl]
    simp only [s]
    omega

/-- What bits.OnesCount64 computes, on natural numbers. -/
def swar (x : Nat) : Nat :=
  let y1 := f1 6148914691236517205 x
  let y2 := f2 3689348814741910323 y1
  let y3 := f3 1085102592571150095 y2
  let y4 := y3 + y3 / 256
  let y5 := y4 + y4 / 65536
  let y6 := y5 + y5 / 4294967296
  y6 % 128

theorem fold_eq (y p0 p1 p2 p3 p4 p5 p6 p7 : Nat) (h0 : p0 ≤ 8) (h1 : p1 ≤ 8) (h2 : p2 ≤ 8) (h3 : p3 ≤ 8) (h4 : p4 ≤ 8) (h5 : p5 ≤ 8) (h6 : p6 ≤ 8) (h7 : p7 ≤ 8)
    (hy : y = p0 + 256 * (p1 + 256 * (p2 + 256 * (p3 + 256 * (p4 + 256 * (p5 + 256 * (p6 + 256 * p7))))))) :
    ((y + y / 256) + (y + y / 256) / 65536 + ((y + y / 256) + (y + y / 256) / 65536) / 4294967296) % 128 = p0 + p1 + p2 + p3 + p4 + p5 + p6 + p7 ∧ y ≤ 578721382704613384 := by
  refine ⟨?_, by omega⟩
  obtain ⟨q6, e6⟩ : ∃ q, q = p6 + 256 * p7 := ⟨_, rfl⟩
  obtain ⟨q5, e5⟩ : ∃ q, q = p5 + 256 * q6 := ⟨_, rfl⟩
  obtain ⟨q4, e4⟩ : ∃ q, q = p4 + 256 * q5 := ⟨_, rfl⟩
  obtain ⟨q3, e3⟩ : ∃ q, q = p3 + 256 * q4 := ⟨_, rfl⟩
  obtain ⟨q2, e2⟩ : ∃ q, q = p2 + 256 * q3 := ⟨_, rfl⟩
  obtain ⟨q1, e1⟩ : ∃ q, q = p1 + 256 * q2 := ⟨_, rfl⟩
  have e0 : y = p0 + 256 * q1 := by rw [hy, e1, e2, e3, e4, e5, e6]
  clear hy
  have d0 : y / 256 = q1 := by rw [e0, Nat.add_mul_div_left _ _ (by decide), Nat.div_eq_of_lt (by omega), Nat.zero_add]
  rw [d0]
  have d1 : (y + q1) / 65536 = q2 + q3 := by
    rw [show y + q1 = (p0 + 256 * p1 + p1 + 256 * p2) + 65536 * (q2 + q3) by omega, Nat.add_mul_div_left _ _ (by decide), Nat.div_eq_of_lt (by omega), Nat.zero_add]
  rw [d1]
  have d2 : (y + q1 + (q2 + q3)) / 4294967296 = q4 + q5 + q6 + p7 := by
    rw [show y + q1 + (q2 + q3) = ((p0 + p1 + p2 + p3) + 256 * (p1 + p2 + p3 + p4) + 65536 * (p2 + p3 + p4 + p5) + 16777216 * (p3 + p4 + p5 + p6)) + 4294967296 * (q4 + q5 + q6 + p7) by omega, Nat.add_mul_div_left _ _ (by decide), Nat.div_eq_of_lt (by omega), Nat.zero_add]
  rw [d2]
  have e : y + q1 + (q2 + q3) + (q4 + q5 + q6 + p7) = (p0 + p1 + p2 + p3 + p4 + p5 + p6 + p7) + 128 * (2 * (q1 + q2 + q3 + q4 + q5 + q6 + p7)) := by omega
  rw [e, Nat.add_mul_mod_self_left, Nat.mod_eq_of_lt (by omega)]

theorem swar_eq (x : Nat) (h : x < 18446744073709551616) : swar x = pc 64 x ∧ f3 1085102592571150095 (f2 3689348814741910323 (f1 6148914691236517205 x)) ≤ 578721382704613384 := by
  have hf := (f123 8 x (by rw [show (256 : Nat) ^ 8 = 18446744073709551616 from rfl]; exact h)).1
  rw [show msk 15 8 = 1085102592571150095 from rfl, show msk 51 8 = 3689348814741910323 from rfl, show msk 85 8 = 6148914691236517205 from rfl] at hf
  obtain ⟨p0, p1, p2, p3, p4, p5, p6, p7, h0, h1, h2, h3, h4, h5, h6, h7, hb, hp, hp7⟩ := bytesPc_eight x
  have := fold_eq (bytesPc 8 x) p0 p1 p2 p3 p4 p5 p6 p7 h0 h1 h2 h3 h4 h5 h6 h7 hb
  rw [hf]
  refine ⟨?_, this.2⟩
  unfold swar
  simp only [hf]
  rw [this.1, hp, hp7, Nat.mod_eq_of_lt (by omega)]

end Go.Proofs.Qxb6630429a
