/-
  WALKS of seat b6630429a: bits.OnesCount64, ZZnewSet, Set.Len, by contract.
-/
import Derived.Test.Qxb6630429aRows
import Derived.Test.Qxb6630429aPlain
import Derived.Test.Qxb6630429aRowLaws
import Derived.WalkKit
import Derived.ProofKit
import Derived.OpenShut
import Derived.ShutString
import Derived.ChangeOld
import Derived.Below
import Derived.Laws.BitsAllLaws
import Derived.Laws.Bits128
namespace Go.Proofs.Qxb6630429a
open Go.ChangeShapes Go.WideShapes Go.ChangeAt Go.RowKit

theorem wrap_nat (n : Nat) (h : n < 18446744073709551616) : IntKind.u64.wrap (n : Int) = (n : Int) := by
  rw [IntKind.wrap_u64]; omega

theorem ones_eq (x : Nat) (h : x < 18446744073709551616) (a1 a2 a3 a4 a5 a6 : Int)
    (e1 : a1 = IntKind.u64.wrap (bits .and .u64 ((x : Int) / 2) 6148914691236517205 + bits .and .u64 (x : Int) 6148914691236517205))
    (e2 : a2 = IntKind.u64.wrap (bits .and .u64 (a1 / 4) 3689348814741910323 + bits .and .u64 a1 3689348814741910323))
    (e3 : a3 = bits .and .u64 (IntKind.u64.wrap (a2 / 16 + a2)) 1085102592571150095)
    (e4 : a4 = IntKind.u64.wrap (a3 + a3 / 256))
    (e5 : a5 = IntKind.u64.wrap (a4 + a4 / 65536))
    (e6 : a6 = IntKind.u64.wrap (a5 + a5 / 4294967296)) :
    bits .and .i64 (wrap64 a6) 127 = (pc 64 x : Int) := by
  obtain ⟨hs, h3⟩ := swar_eq x h
  have k1 : a1 = (f1 6148914691236517205 x : Nat) := by
    have b1 : (x / 2 &&& 6148914691236517205) ≤ 6148914691236517205 := Nat.and_le_right
    have b2 : (x &&& 6148914691236517205) ≤ 6148914691236517205 := Nat.and_le_right
    rw [e1, show (6148914691236517205 : Int) = ((6148914691236517205 : Nat) : Int) from rfl, show (x : Int) / 2 = ((x / 2 : Nat) : Int) by omega, u64_and_nat _ _ (by omega) (by omega), u64_and_nat _ _ h (by omega), ← Int.natCast_add, wrap_nat _ (by omega)]
    rfl
  have l1 : f1 6148914691236517205 x ≤ 12297829382473034410 := by
    have b1 : (x / 2 &&& 6148914691236517205) ≤ 6148914691236517205 := Nat.and_le_right
    have b2 : (x &&& 6148914691236517205) ≤ 6148914691236517205 := Nat.and_le_right
    unfold f1; omega
  generalize hy1 : f1 6148914691236517205 x = y1 at *
  have b1 : (y1 / 4 &&& 3689348814741910323) ≤ 3689348814741910323 := Nat.and_le_right
  have b2 : (y1 &&& 3689348814741910323) ≤ 3689348814741910323 := Nat.and_le_right
  have k2 : a2 = (f2 3689348814741910323 y1 : Nat) := by
    rw [e2, k1, show (3689348814741910323 : Int) = ((3689348814741910323 : Nat) : Int) from rfl, show (y1 : Int) / 4 = ((y1 / 4 : Nat) : Int) by omega, u64_and_nat _ _ (by omega) (by omega), u64_and_nat _ _ (by omega) (by omega), ← Int.natCast_add, wrap_nat _ (by omega)]
    rfl
  have l2 : f2 3689348814741910323 y1 ≤ 7378697629483820646 := by unfold f2; omega
  have hs' : swar x = pc 64 x := hs
  have k3 : a3 = (f3 1085102592571150095 (f2 3689348814741910323 y1) : Nat) := by
    generalize f2 3689348814741910323 y1 = y2 at *
    rw [e3, k2, show (1085102592571150095 : Int) = ((1085102592571150095 : Nat) : Int) from rfl, show (y2 : Int) / 16 + (y2 : Int) = ((y2 / 16 + y2 : Nat) : Int) by omega, wrap_nat _ (by omega), u64_and_nat _ _ (by omega) (by omega)]
    rfl
  have hs2 : (let y3 := f3 1085102592571150095 (f2 3689348814741910323 y1); let y4 := y3 + y3 / 256; let y5 := y4 + y4 / 65536; let y6 := y5 + y5 / 4294967296; y6 % 128) = pc 64 x := by rw [← hs', ← hy1]; rfl
  clear hs hs'
  generalize f3 1085102592571150095 (f2 3689348814741910323 y1) = y3 at *
  simp only at hs2
  have k4 : a4 = ((y3 + y3 / 256 : Nat) : Int) := by rw [e4, k3, show (y3 : Int) + (y3 : Int) / 256 = ((y3 + y3 / 256 : Nat) : Int) by omega, wrap_nat _ (by omega)]
  have l4 : y3 + y3 / 256 ≤ 600000000000000000 := by omega
  generalize y3 + y3 / 256 = y4 at *
  have k5 : a5 = ((y4 + y4 / 65536 : Nat) : Int) := by rw [e5, k4, show (y4 : Int) + (y4 : Int) / 65536 = ((y4 + y4 / 65536 : Nat) : Int) by omega, wrap_nat _ (by omega)]
  have l5 : y4 + y4 / 65536 ≤ 700000000000000000 := by omega
  generalize y4 + y4 / 65536 = y5 at *
  have k6 : a6 = ((y5 + y5 / 4294967296 : Nat) : Int) := by rw [e6, k5, show (y5 : Int) + (y5 : Int) / 4294967296 = ((y5 + y5 / 4294967296 : Nat) : Int) by omega, wrap_nat _ (by omega)]
  have l6 : y5 + y5 / 4294967296 ≤ 800000000000000000 := by omega
  rw [i64_and127, k6, ← hs2]
  generalize y5 + y5 / 4294967296 = y6 at *
  rw [show wrap64 (y6 : Int) = (y6 : Int) by simp only [wrap64]; omega]
  omega

theorem ret_int {k : IntKind} {a b : Int} (h : a = b) : Ending.returned (.int k a) = .returned (.int k b) := by rw [h]

set_option maxHeartbeats 400000 in
theorem ones_any (x : Int) (w : World) (h0 : 0 ≤ x) (h1 : x < 18446744073709551616) :
    Calls Try.prog 9 #[.int .u64 x] w fun e w' => e = .returned (.int .i64 (pc 64 x.toNat)) ∧ w' = w := by
  obtain ⟨n, rfl⟩ : ∃ n : Nat, x = (n : Int) := ⟨x.toNat, by omega⟩
  go_enter Try.func9, Try.ntmps9
  go_wp2
  go_ret
  exact ⟨ret_int (ones_eq n (by omega) _ _ _ _ _ _ rfl rfl rfl rfl rfl rfl), rfl⟩

/-- The number of one bits of a row of words. -/
def sumPc : List Int → Nat
  | [] => 0
  | z :: zs => pc 64 z.toNat + sumPc zs
theorem sumPc_append : ∀ a b : List Int, sumPc (a ++ b) = sumPc a + sumPc b
  | [], b => by simp [sumPc]
  | z :: a, b => by simp only [List.cons_append, sumPc, sumPc_append a b]; omega
theorem sumPc_le : ∀ a : List Int, sumPc a ≤ 64 * a.length
  | [] => by simp [sumPc]
  | z :: a => by have := sumPc_le a; have := pc_le 64 z.toNat; simp only [sumPc, List.length_cons]; omega
theorem sumPc_snoc (zs : List Int) (k : Nat) (h : k < zs.length) : sumPc (zs.take (k + 1)) = sumPc (zs.take k) + pc 64 (zs.getD k 0).toNat := by
  rw [List.take_succ_eq_append_getElem h, sumPc_append]
  simp [sumPc, h]

set_option maxHeartbeats 400000 in
theorem newSet_any (a : Option Addr) (l c : Nat) (w : World) :
    Calls Try.prog 6 #[.slice a l c] w fun e w' => e = .returned (.agg #[.slice a l c]) ∧ Below w.heap.size w w' := by
  go_enter Try.func6, Try.ntmps6
  go_wp2
  exact bodyPost_ret (v := .agg #[.slice a l c]) (by simp [results, Try.results6, go_sem]) rfl ⟨rfl, (Below.refl _ _).alloc (Nat.le_refl _) _⟩

set_option maxHeartbeats 400000 in
theorem len_some (b off l c : Nat) (zs : List Int) (w : World) (hl : zs.length = l) (hm : l ≤ 131072)
    (hz : ∀ i, i < l → 0 ≤ zs.getD i 0 ∧ zs.getD i 0 < 18446744073709551616)
    (hc : ∀ i, i < l → w.cell? ⟨b, off + i, none⟩ = some (.int .u64 (zs.getD i 0))) :
    Calls Try.prog 7 #[.agg #[.slice (some ⟨b, off, none⟩) l c]] w fun e w' => e = .returned (.int .i64 (sumPc zs)) ∧ Below w.heap.size w w' := by
  go_enter Try.func7, Try.ntmps7
  go_wp2
  go_loop [3, 9] (fun n i => ∃ k : Nat, k ≤ l ∧ i = .int .i64 k ∧ n = .int .i64 (sumPc (zs.take k))) (fun _ i => l - (intOf i).toNat)
  case atStart => exact ⟨0, Nat.zero_le _, rfl, rfl⟩
  case round =>
    obtain ⟨k, hk, rfl, rfl⟩ := hrel
    have hs : sumPc (zs.take k) ≤ 64 * 131072 := by
      have := sumPc_le (zs.take k)
      have := List.length_take_le k zs
      omega
    by_cases hlt : k < l
    · have hcell : (w.alloc (.cells #[.slice (some ⟨b, off, none⟩) l c] 26)).cell? ⟨b, off + k, none⟩ = some (.int .u64 (zs.getD k 0)) := by
        have := hc k hlt
        have hb := World.block_lt_of_cell? w _ this
        rw [← this]
        exact ((Below.refl w.heap.size w).alloc (Nat.le_refl _) _).cell hb
      have hzk := hz k hlt
      have HS : Hid (sumPc (zs.take (k + 1)) = sumPc (zs.take k) + pc 64 (zs.getD k 0).toNat) := sumPc_snoc zs k (by omega)
      have hp := pc_le 64 (zs.getD k 0).toNat
      obtain ⟨z, hzz⟩ : ∃ z, z = zs.getD k 0 := ⟨_, rfl⟩
      rw [← hzz] at hcell hzk HS hp
      clear hzz hc hz
      go_wp2_with (go_at_call 9; refine (ones_any _ _ (by omega) (by omega)).mono ?_; rintro e w' ⟨rfl, rfl⟩)
      go_round
      case rel => exact ⟨k + 1, by omega, by go_num, by rw [HS.out]; go_num⟩
      case measure => simp [intOf]; omega
    · go_wp2
      go_ret
      exact ⟨ret_int (by rw [List.take_of_length_le (by omega)]), (Below.refl _ _).alloc (Nat.le_refl _) _⟩

set_option maxHeartbeats 400000 in
theorem len_nil (a : Option Addr) (c : Nat) (w : World) :
    Calls Try.prog 7 #[.agg #[.slice a 0 c]] w fun e w' => e = .returned (.int .i64 0) ∧ Below w.heap.size w w' := by
  go_enter Try.func7, Try.ntmps7
  go_wp2
  go_loop [3, 9] (fun n i => i = .int .i64 0 ∧ n = .int .i64 0) (fun _ _ => 0)
  case atStart => exact ⟨rfl, rfl⟩
  case round =>
    obtain ⟨rfl, rfl⟩ := hrel
    go_wp2
    go_ret
    exact ⟨rfl, (Below.refl _ _).alloc (Nat.le_refl _) _⟩

theorem len_any (a : Option Addr) (l c : Nat) (zs : List Int) (w : World) (hl : zs.length = l) (hm : l ≤ 131072)
    (hz : ∀ i, i < l → 0 ≤ zs.getD i 0 ∧ zs.getD i 0 < 18446744073709551616)
    (hc : 0 < l → ∃ b off, a = some ⟨b, off, none⟩ ∧ ∀ i, i < l → w.cell? ⟨b, off + i, none⟩ = some (.int .u64 (zs.getD i 0))) :
    Calls Try.prog 7 #[.agg #[.slice a l c]] w fun e w' => e = .returned (.int .i64 (sumPc zs)) ∧ Below w.heap.size w w' := by
  by_cases h0 : l = 0
  · subst h0
    obtain rfl : zs = [] := List.eq_nil_of_length_eq_zero hl
    exact len_nil a c w
  · obtain ⟨b, off, rfl, h⟩ := hc (by omega)
    exact len_some b off l c zs w hl hm hz h

theorem u64_not (z : Int) (h0 : 0 ≤ z) (h1 : z < 18446744073709551616) : bits .xor .u64 (if IntKind.u64.signed = true then -1 else IntKind.u64.max) z = 18446744073709551615 - z := by
  obtain ⟨a, rfl⟩ : ∃ n : Nat, z = (n : Int) := ⟨z.toNat, by omega⟩
  rw [if_neg (by decide), show IntKind.u64.max = 18446744073709551615 from by decide]
  show IntKind.u64.wrap ((BitVec.ofInt 64 18446744073709551615 ^^^ BitVec.ofInt 64 (a : Int)).toNat : Int) = _
  have e : BitVec.ofInt 64 18446744073709551615 = BitVec.allOnes 64 := by decide
  rw [e, BitVec.allOnes_xor, BitVec.toNat_not, ofInt_u64 a (by omega)]
  simp [IntKind.wrap, IntKind.bits, IntKind.signed]
  omega

/-- A row of words in memory serves the contract of Len at every cut of it. -/
theorem cut_cells {w : World} {g off l : Nat} {t : TypeId} {zs : List Int} (hr : Row w g t (zs.map (Value.int .u64))) (hl : off + l ≤ zs.length) :
    ∀ i, i < l → w.cell? ⟨g, off + i, none⟩ = some (.int .u64 (((zs.drop off).take l).getD i 0)) := by
  intro i hi
  rw [hr.cell, List.getElem?_map, List.getElem?_eq_getElem (by omega)]
  simp [hi]
  rw [List.getElem?_eq_getElem (by omega)]
  simp

theorem sumPc_compl : ∀ zs : List Int, (∀ i, i < zs.length → 0 ≤ zs.getD i 0 ∧ zs.getD i 0 < 18446744073709551616) → sumPc zs + sumPc (zs.map fun z => 18446744073709551615 - z) = 64 * zs.length
  | [], _ => rfl
  | z :: zs, h => by
    have h0 := h 0 (by simp)
    simp at h0
    have ih := sumPc_compl zs (fun i hi => by have := h (i + 1) (by simp; omega); simpa using this)
    have hc := pc_compl 64 z.toNat (by omega)
    simp only [List.map_cons, sumPc, List.length_cons]
    rw [show (18446744073709551615 - z).toNat = 2 ^ 64 - 1 - z.toNat by omega]
    omega

theorem sumPc_set : ∀ (zs : List Int) (n : Nat) (y : Int), n < zs.length → sumPc (zs.set n y) + pc 64 (zs.getD n 0).toNat = sumPc zs + pc 64 y.toNat
  | z :: zs, 0, y, _ => by simp only [List.set_cons_zero, sumPc, List.getD_cons_zero]; omega
  | z :: zs, n + 1, y, h => by
    have ih := sumPc_set zs n y (by simpa using h)
    simp only [List.set_cons_succ, sumPc, List.getD_cons_succ]
    omega

/-- The three operations on one bit of a word, as the walk spells them. -/
theorem bit_facts (z : Int) (j : Nat) (h0 : 0 ≤ z) (h1 : z < 18446744073709551616) (hj : j < 64) :
    ∃ c o a : Nat, c ≤ 1 ∧ (bits .and .u64 z (IntKind.u64.wrap (2 ^ j)) != 0) = decide (c = 1) ∧
      bits .or .u64 z (IntKind.u64.wrap (2 ^ j)) = (o : Int) ∧ o < 18446744073709551616 ∧ pc 64 o + c = pc 64 z.toNat + 1 ∧
      bits .andNot .u64 z (IntKind.u64.wrap (2 ^ j)) = (a : Int) ∧ a < 18446744073709551616 ∧ pc 64 a + c = pc 64 z.toNat := by
  obtain ⟨x, rfl⟩ : ∃ n : Nat, z = (n : Int) := ⟨z.toNat, by omega⟩
  have hlt : 2 ^ j < 18446744073709551616 := by
    have : 2 ^ j < 2 ^ 64 := Nat.pow_lt_pow_right (by decide) hj
    simpa using this
  have hpos : 0 < 2 ^ j := Nat.pow_pos (by decide)
  have hm : IntKind.u64.wrap (2 ^ j) = ((2 ^ j : Nat) : Int) := by
    rw [show ((2 : Int) ^ j) = ((2 ^ j : Nat) : Int) by simp, wrap_nat _ hlt]
  have hx : x < 18446744073709551616 := by omega
  rw [hm, u64_and_nat _ _ hx hlt, u64_or_nat _ _ hx hlt, u64_andNot_nat _ _ hx hlt]
  have ho : x ||| 2 ^ j < 2 ^ 64 := Nat.or_lt_two_pow (by omega) (by omega)
  refine ⟨x / 2 ^ j % 2, x ||| 2 ^ j, x &&& (18446744073709551615 - 2 ^ j), by omega, ?_, rfl, by omega, pc_or 64 j x hj, rfl, Nat.lt_of_le_of_lt Nat.and_le_left hx, pc_andNot 64 j x hj (by omega)⟩
  rw [and_bit]
  rcases Nat.mod_two_eq_zero_or_one (x / 2 ^ j) with e | e <;> rw [e]
  · simp
  · have : ((1 * 2 ^ j : Nat) : Int) ≠ 0 := by omega
    simp only [decide_true, bne_iff_ne]
    exact this
end Go.Proofs.Qxb6630429a
