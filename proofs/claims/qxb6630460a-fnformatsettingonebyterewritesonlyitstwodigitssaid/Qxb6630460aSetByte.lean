/-
  THE WALK of FnFormatSettingOneByteRewritesOnlyItsTwoDigits, seat b6630460a.
-/
import Derived.Test.Qxb6630460aWalk2
import Derived.WalkSmall
import Derived.Deep.QuietTactic
import Derived.BigQuiet
namespace Go.Proofs.Qxb6630460a.setByte
open Go.ChangeShapes Go.WideShapes Go.ChangeAt Go.RowKit
theorem size22 : (Try.prog.info? 22).map (·.size) = some 16 := by kernel_rfl
theorem text_size (b : Nat → Int) : (textS b).size = 36 := by unfold textS; rw [strOfNums_size]; simp
theorem text_get (b : Nat → Int) (hb : ∀ i, i < 16 → 0 ≤ b i ∧ b i < 256) (q : Nat) (hq : q < 36) (h : q < (textS b).size) : (((textS b)[q]'h).toNat : Int) = ch b q := by
  have hc := ch_bounds b hb q hq
  have e : (textS b)[q]'h = UInt8.ofNat (ch b q).toNat := by
    show (textS b).data[q] = _
    unfold textS strOfNums
    simp
  rw [e, UInt8.toNat_ofNat']
  omega
theorem format_row (b : Nat → Int) (w : World) (hb : ∀ i, i < 16 → 0 ≤ b i ∧ b i < 256) :
    Calls Try.prog 5 #[.agg (rowF 16 b).toArray] w fun e w' => e = .returned (.string (textS b)) ∧ Below w.heap.size w w' := format_any b w hb

set_option maxHeartbeats 1000000 in
theorem walk_in (b : Nat → Int) (i : Nat) (v : Int) (w : World) (hb : ∀ i, i < 16 → 0 ≤ b i ∧ b i < 256) (hi : i < 16) (hv : 0 ≤ v ∧ v < 256) :
    Calls Try.prog 4 #[idV b, .int .i64 i, .int .u8 v] w fun e w' => e = .returned (.bool true) ∧ Below w.heap.size w w' := by
  unfold idV
  go_enter Try.func4, Try.ntmps4
  go_upto_region 4 with fail
  refine gen_world (fun W => Row W w.heap.size 22 (rowF 16 b) ∧ Row W (w.heap.size + 1) 22 (rowF 16 b) ∧ Below w.heap.size w W) ⟨(Row.new w 22 (rowF 16 b)).alloc _, Row.new2 w _ 22 (rowF 16 b), ((Below.refl _ _).alloc (Nat.le_refl _) _).alloc (by simp) _⟩ ?_
  rintro W ⟨hr0, hr1, hbW⟩
  have hcl : W.cell? ⟨w.heap.size + 1, i, none⟩ = some (.int .u8 (b i)) := by rw [hr1.cell, rowF_get _ _ _ hi]
  have hfr : W.frozen? ⟨w.heap.size + 1, i, none⟩ = false := hr1.frozen i
  go_upto_region 5 with fail
  refine gen_world (fun W => Row W w.heap.size 22 (rowF 16 b) ∧ Row W (w.heap.size + 1) 22 (rowF 16 (fun j => if j = i then v else b j)) ∧ Below w.heap.size w W) ⟨hr0.setOther _ _ (by omega), by rw [← rowF_set]; exact hr1.set i _, hbW.setCell (by show w.heap.size ≤ w.heap.size + 1; omega) _⟩ ?_
  clear hr0 hr1 hbW hcl hfr W
  rintro W ⟨hr0, hr1, hbW⟩
  go_wp2_with (refine wpList_load_row rfl (.tmp 3) 22 rfl w.heap.size 16 5 (rowF 16 b) rfl hr0 Try.underlying22 (by rw [rowF_length]; exact size22) ?_)
  refine (format_row b W hb).mono ?_
  rintro e w1 ⟨rfl, hb1⟩
  have hr1' := hr1.below hb1 hr1.lt
  have b1 : Below w.heap.size w w1 := hbW.trans (hb1.mono (by have := hr0.lt; omega))
  have hs1 := hr1'.lt
  clear hr0 hr1 hbW hb1
  obtain ⟨b', Hb'⟩ : ∃ b' : Nat → Int, Hid (b' = fun j => if j = i then v else b j) := ⟨fun j => if j = i then v else b j, show _ = _ from rfl⟩
  rw [← Hb'.out] at hr1'
  have hbb : ∀ i, i < 16 → 0 ≤ b' i ∧ b' i < 256 := by
    intro j hj
    rw [Hb'.out]
    simp only
    split
    · exact hv
    · exact hb j hj
  go_wp2_with (refine wpList_load_row rfl (.tmp 7) 22 rfl (w.heap.size + 1) 16 5 (rowF 16 b') rfl hr1' Try.underlying22 (by rw [rowF_length]; exact size22) ?_)
  refine (format_row b' w1 hbb).mono ?_
  rintro e w2 ⟨rfl, hb2⟩
  have b2 : Below w.heap.size w w2 := b1.trans (hb2.mono (by omega))
  clear hr1' b1 hb2 hs1
  have hT : Hid (∀ q (hq : q < (textS b').size), (((textS b')[q]'hq).toNat : Int) = if q = fdp i then hexd (v / 16) else if q = fdp i + 1 then hexd (v % 16) else ch b q) := by
    intro q hq
    have hq' : q < 36 := by rw [← text_size b']; exact hq
    rw [text_get b' hbb q hq' hq, Hb'.out, ch_set b i v hi q hq']
  have hS : Hid (∀ q (hq : q < (textS b).size), (((textS b)[q]'hq).toNat : Int) = ch b q) := by
    intro q hq
    have hq' : q < 36 := by rw [← text_size b]; exact hq
    exact text_get b hb q hq' hq
  have sT := text_size b'
  have sS := text_size b
  obtain ⟨_, _, _, hp⟩ := places ⟨i, hi⟩ ⟨0, by omega⟩
  have PL : Hid (∀ W, Calls Try.prog 9 #[.int .i64 i] W fun e w' => e = .returned (.int .i64 (fdp i)) ∧ w' = W) := fun W => place_any i W hi
  simp only at hp
  generalize textS b' = T at *
  generalize textS b = S at *
  generalize fdp i = p at *
  clear hbb Hb'
  go_wp2_with fail
  refine (PL.out _).mono ?_
  rintro e w3 ⟨rfl, rfl⟩
  go_wp2_with fail
  go_loopw [11] (fun q wr => ∃ k : Nat, k ≤ 36 ∧ q = .int .i64 k ∧ Below w.heap.size w wr) (fun q _ => 36 - (intOf q).toNat)
  case atStart => exact ⟨0, by omega, rfl, b2⟩
  case round =>
    obtain ⟨k, hk, rfl, hbw⟩ := hrel
    clear b2
    by_cases hlt : k < 36
    · have hkT : k < T.size := by omega
      have hkS : k < S.size := by omega
      have eT := hT.out k hkT
      have eS := hS.out k hkS
      by_cases h1 : k = p
      · subst h1
        rw [if_pos rfl] at eT
        clear eS
        have hbnd := hexd_bounds (v / 16) (by omega)
        go_wp2
        go_quiet ((go_at_call 10; exact Calls.quiet_of_same (digit_any _ _ (by omega) (by omega))))
        go_wp2
        go_roundw
        case rel => exact ⟨k + 1, by omega, by go_num, below_drewN hbw _⟩
        case measure => simp [intOf]; omega
      · rw [if_neg h1] at eT
        have n1 : ((k : Int) == (p : Int)) = false := by simp; omega
        by_cases h2 : k = p + 1
        · subst h2
          rw [if_pos rfl] at eT
          go_wp2
          go_quiet ((go_at_call 10; exact Calls.quiet_of_same (digit_any _ _ (by omega) (by omega))))
          go_wp2
          go_roundw
          case rel => exact ⟨p + 1 + 1, by omega, by go_num, below_drewN hbw _⟩
          case measure => simp [intOf]; omega
        · rw [if_neg h2] at eT
          have n2 : ((k : Int) == (p : Int) + 1) = false := by simp; omega
          go_wp2
          go_quiet (fail)
          go_wp2
          go_roundw
          case rel => exact ⟨k + 1, by omega, by go_num, below_drewN hbw _⟩
          case measure => simp [intOf]; omega
    · go_wp2
      go_ret
      exact ⟨rfl, hbw⟩

set_option maxHeartbeats 400000 in
theorem walk_early (b : Nat → Int) (i : Int) (v : Int) (w : World) (h : i < 0 ∨ 15 < i) :
    Calls Try.prog 4 #[idV b, .int .i64 i, .int .u8 v] w fun e w' => e = .returned (.bool true) ∧ Below w.heap.size w w' := by
  unfold idV
  by_cases h1 : i < 0
  · have h1' : decide (i < 0) = true := by simpa using h1
    go_enter Try.func4, Try.ntmps4
    go_wp2
    go_ret
    exact ⟨rfl, (Below.refl _ _).alloc (Nat.le_refl _) _⟩
  · have h1' : decide (i < 0) = false := by simpa using h1
    have h2 : 15 < i := by omega
    go_enter Try.func4, Try.ntmps4
    go_wp2
    go_ret
    exact ⟨rfl, (Below.refl _ _).alloc (Nat.le_refl _) _⟩
end Go.Proofs.Qxb6630460a.setByte
