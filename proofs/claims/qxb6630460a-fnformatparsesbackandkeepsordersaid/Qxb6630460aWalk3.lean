/-
  WALKS of seat b6630460a for the first law: the dash test, the digit's value, the two comparisons, by contract.
-/
import Derived.Test.Qxb6630460aWalk2
import Derived.Test.Qxb6630460aPlain2
import Derived.WalkSmall
import Derived.Deep.QuietTactic
import Derived.BigQuiet
namespace Go.Proofs.Qxb6630460a
open Go.ChangeShapes Go.WideShapes Go.ChangeAt Go.RowKit

set_option maxHeartbeats 400000 in
theorem dash_any (q : Nat) (w : World) : Calls Try.prog 12 #[.int .i64 q] w fun e w' => e = .returned (.bool (dashB q)) ∧ w' = w := by
  by_cases h1 : q = 8
  · subst h1
    go_enter Try.func12, Try.ntmps12
    go_wp2
    go_ret
    exact ⟨rfl, rfl⟩
  by_cases h2 : q = 13
  · subst h2
    go_enter Try.func12, Try.ntmps12
    go_wp2
    go_ret
    exact ⟨rfl, rfl⟩
  by_cases h3 : q = 18
  · subst h3
    go_enter Try.func12, Try.ntmps12
    go_wp2
    go_ret
    exact ⟨rfl, rfl⟩
  by_cases h4 : q = 23
  · subst h4
    go_enter Try.func12, Try.ntmps12
    go_wp2
    go_ret
    exact ⟨rfl, rfl⟩
  have e : dashB q = false := by simp [dashB, h1, h2, h3, h4]
  rw [e]
  have n1 : ((q : Int) == 8) = false := by simp; omega
  have n2 : ((q : Int) == 13) = false := by simp; omega
  have n3 : ((q : Int) == 18) = false := by simp; omega
  have n4 : ((q : Int) == 23) = false := by simp; omega
  clear e
  go_enter Try.func12, Try.ntmps12
  go_wp2
  go_ret
  exact ⟨rfl, rfl⟩

set_option maxHeartbeats 400000 in
theorem value_any (n c : Int) (w : World) (h0 : 0 ≤ n) (h1 : n < 16) (hc : c = hexd n) : Calls Try.prog 13 #[.int .u8 c] w fun e w' => e = .returned (.tuple #[.int .u8 n, .bool true]) ∧ w' = w := by
  unfold hexd at hc
  by_cases h : n < 10
  · rw [if_pos h] at hc
    have c1 : 48 ≤ c := by omega
    have c2 : c ≤ 57 := by omega
    have hn : n = c - 48 := by omega
    clear hc
    subst hn
    go_enter Try.func13, Try.ntmps13
    go_wp2
    go_ret2
    exact ⟨rfl, rfl⟩
  · rw [if_neg h] at hc
    have c1 : 97 ≤ c := by omega
    have c2 : c ≤ 102 := by omega
    have hn : n = c - 97 + 10 := by omega
    clear hc
    subst hn
    go_enter Try.func13, Try.ntmps13
    go_wp2
    go_ret2
    exact ⟨rfl, rfl⟩

set_option maxHeartbeats 1000000 in
theorem cmpText_any (S T : ByteArray) (f g : Nat → Int) (w : World) (sS : S.size = 36) (sT : T.size = 36)
    (hS : ∀ q (hq : q < S.size), ((S[q]'hq).toNat : Int) = f q) (hT : ∀ q (hq : q < T.size), ((T[q]'hq).toNat : Int) = g q) :
    Calls Try.prog 7 #[.string S, .string T] w fun e w' => e = .returned (.int .i64 (cmpFrom f g 36 0)) ∧ ∃ n, w' = w.drewN n := by
  have HS : Hid (∀ q (hq : q < S.size), ((S[q]'hq).toNat : Int) = f q) := hS
  have HT : Hid (∀ q (hq : q < T.size), ((T[q]'hq).toNat : Int) = g q) := hT
  clear hS hT
  obtain ⟨c, HC⟩ : ∃ c, Hid (c = cmpFrom f g 36 0) := ⟨_, rfl⟩
  rw [← HC.out]
  go_enter Try.func7, Try.ntmps7
  go_wp2
  go_loopw [6] (fun q wr => ∃ k : Nat, k ≤ 36 ∧ q = .int .i64 k ∧ Hid (cmpFrom f g (36 - k) k = c) ∧ ∃ n, wr = w.drewN n) (fun q _ => 36 - (intOf q).toNat)
  case atStart => exact ⟨0, by omega, rfl, HC.out.symm, 0, rfl⟩
  case round =>
    obtain ⟨k, hk, rfl, hc, n, rfl⟩ := hrel
    by_cases hlt : k < 36
    · have hkT : k < T.size := by omega
      have hkS : k < S.size := by omega
      have eT := HT.out k hkT
      have eS := HS.out k hkS
      have hc' := hc.out
      rw [show 36 - k = (36 - (k + 1)) + 1 by omega] at hc'
      unfold cmpFrom at hc'
      by_cases h1 : f k < g k
      · rw [if_pos h1] at hc'
        have HC' : Hid (-1 = c) := hc'
        clear hc' hc
        go_wp2
        go_quiet (fail)
        go_wp2
        go_ret
        exact ⟨ret_int HC'.out, _, World.drewN_drewN _ _ _⟩
      · rw [if_neg h1] at hc'
        by_cases h2 : g k < f k
        · rw [if_pos h2] at hc'
          have HC' : Hid (1 = c) := hc'
          clear hc' hc
          go_wp2
          go_quiet (fail)
          go_wp2
          go_quiet (fail)
          go_wp2
          go_ret
          exact ⟨ret_int HC'.out, _, by rw [World.drewN_drewN, World.drewN_drewN]⟩
        · rw [if_neg h2] at hc'
          have HC' : Hid (cmpFrom f g (36 - (k + 1)) (k + 1) = c) := hc'
          clear hc' hc
          go_wp2
          go_quiet (fail)
          go_wp2
          go_quiet (fail)
          go_wp2
          go_roundw
          case rel => exact ⟨k + 1, by omega, by go_num, HC', _, rfl⟩
          case measure => simp [intOf]; omega
    · obtain rfl : k = 36 := by omega
      have e := hc.out
      have HE : Hid (0 = c) := e
      clear e hc
      go_wp2
      go_ret
      exact ⟨ret_int HE.out, n, rfl⟩

set_option maxHeartbeats 1000000 in
theorem cmpId_any (f g : Nat → Int) (w : World) :
    Calls Try.prog 8 #[idV f, idV g] w fun e w' => e = .returned (.int .i64 (cmpFrom f g 16 0)) ∧ Below w.heap.size w w' := by
  obtain ⟨c, HC⟩ : ∃ c, Hid (c = cmpFrom f g 16 0) := ⟨_, rfl⟩
  rw [← HC.out]
  unfold idV
  go_enter Try.func8, Try.ntmps8
  go_upto_region 1 with fail
  refine gen_world (fun W => Row W w.heap.size 22 (rowF 16 f) ∧ Row W (w.heap.size + 1) 22 (rowF 16 g) ∧ Below w.heap.size w W) ⟨(Row.new w 22 (rowF 16 f)).alloc _, Row.new2 w _ 22 (rowF 16 g), ((Below.refl _ _).alloc (Nat.le_refl _) _).alloc (by simp) _⟩ ?_
  rintro W ⟨hr0, hr1, hbW⟩
  go_wp2
  go_loopw [5] (fun q wr => ∃ k : Nat, k ≤ 16 ∧ q = .int .i64 k ∧ Hid (cmpFrom f g (16 - k) k = c) ∧ ∃ n, wr = W.drewN n) (fun q _ => 16 - (intOf q).toNat)
  case atStart => exact ⟨0, by omega, rfl, HC.out.symm, 0, rfl⟩
  case round =>
    obtain ⟨k, hk, rfl, hc, n, rfl⟩ := hrel
    by_cases hlt : k < 16
    · have e0 : W.cell? ⟨w.heap.size, k, none⟩ = some (.int .u8 (f k)) := by rw [hr0.cell, rowF_get _ _ _ hlt]
      have e1 : W.cell? ⟨w.heap.size + 1, k, none⟩ = some (.int .u8 (g k)) := by rw [hr1.cell, rowF_get _ _ _ hlt]
      have hc' := hc.out
      rw [show 16 - k = (16 - (k + 1)) + 1 by omega] at hc'
      unfold cmpFrom at hc'
      by_cases h1 : f k < g k
      · rw [if_pos h1] at hc'
        have HC' : Hid (-1 = c) := hc'
        clear hc' hc
        go_wp2
        go_quiet (fail)
        go_wp2
        go_ret
        exact ⟨ret_int HC'.out, below_drewN (below_drewN hbW _) _⟩
      · rw [if_neg h1] at hc'
        by_cases h2 : g k < f k
        · rw [if_pos h2] at hc'
          have HC' : Hid (1 = c) := hc'
          clear hc' hc
          go_wp2
          go_quiet (fail)
          go_wp2
          go_quiet (fail)
          go_wp2
          go_ret
          exact ⟨ret_int HC'.out, below_drewN (below_drewN (below_drewN hbW _) _) _⟩
        · rw [if_neg h2] at hc'
          have HC' : Hid (cmpFrom f g (16 - (k + 1)) (k + 1) = c) := hc'
          clear hc' hc
          go_wp2
          go_quiet (fail)
          go_wp2
          go_quiet (fail)
          go_wp2
          go_roundw
          case rel => exact ⟨k + 1, by omega, by go_num, HC', _, rfl⟩
          case measure => simp [intOf]; omega
    · obtain rfl : k = 16 := by omega
      have HE : Hid (0 = c) := hc.out
      clear hc
      go_wp2
      go_ret
      exact ⟨ret_int HE.out, below_drewN hbW _⟩
end Go.Proofs.Qxb6630460a
