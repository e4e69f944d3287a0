/-
  THE PROOF OF 'Rows.FnLenComplementAndCutSaid': the frame is the given shell's (proof-skeleton.mjs); the walk is ours.
-/
import Derived.Test.Qxb6630429aRows
import Derived.Test.Qxb6630429aWalk1
import Derived.Test.Qxb6630429aRowLaws
import Derived.WalkSpells
import Derived.WalkKit
import Derived.ProofKit
import Derived.OpenShut
import Derived.ShutString
import Derived.ChangeOld
import Derived.Below
namespace Go.Proofs.Qxb6630429a.fnLenComplementAndCut
open Go.ChangeShapes Go.WideShapes Go.ChangeAt Go.RowKit
open Go.ChangeMaps (open_string shut_string)
set_option linter.unusedVariables false

theorem own : ownKnob Try.prog.godebug = none := by kernel_rfl
theorem laidOut : laidOutB Try.prog = true := by kernel_rfl

/-- WHAT THE WALK IS TOLD OF A SLICE OF INTEGERS THAT CAME IN: it is nil; or it leads to a row of 'cap' cells, the numbers 'zs' (the first 'len' are its elements, the rest its spare room), each fitting its kind. -/
def IsRow (k : IntKind) (w : World) (a : Option Addr) (len cap : Nat) (zs : List Int) : Prop :=
  (a = none ∧ len = 0 ∧ cap = 0 ∧ zs = []) ∨
  ∃ x, a = some x ∧ len ≤ cap ∧ cap ≤ maxLen ∧ zs.length = cap ∧ (∀ i, i < zs.length → w.cell? (x.add i) = some (.int k (zs.getD i 0))) ∧ ∀ n ∈ zs, (Lit.int k n).wf = true

theorem info24 : (Try.prog.info? 24).map (fun i => (i.zero, i.size, i.bytes)) = some (some (.int .u64 0), 1, 8) := by kernel_rfl
theorem ret_true {p : Prop} [Decidable p] (h : p) : Ending.returned (.bool (decide p)) = .returned (.bool true) := by simp [h]
theorem size24 : (Try.prog.info? 24).map (·.size) = some 1 := by kernel_rfl

set_option maxHeartbeats 1000000 in
theorem walk_some (x : Addr) (len cap : Nat) (zs : List Int) (k : Int) (w : World) (hlc : len ≤ cap) (hz : zs.length = cap)
    (hc : ∀ i, i < cap → w.cell? (x.add i) = some (.int .u64 (zs.getD i 0)))
    (hwz : ∀ i, i < cap → 0 ≤ zs.getD i 0 ∧ zs.getD i 0 < 18446744073709551616) (hm : len ≤ 131072) (hk0 : 0 ≤ k) (hk1 : k ≤ len) :
    Calls Try.prog 3 #[.slice (some x) len cap, .int .i64 k] w fun e w' => e = .returned (.bool true) ∧ Below w.heap.size w w' := by
  obtain ⟨i0, hi, hz0, hz1, hz2⟩ := info_parts info24
  obtain ⟨k, rfl⟩ : ∃ n : Nat, k = (n : Int) := ⟨k.toNat, by omega⟩
  obtain ⟨vs, HV⟩ : ∃ vs, Hid (vs = (zs.take len).map (Value.int .u64)) := ⟨_, rfl⟩
  have HL : Hid (vs.length = len) := by have hvl : vs.length = len := by { rw [HV.out]; simp; omega }; exact hvl
  have H1 : Hid (∀ v ∈ vs, v.oneCell' = true) := by rw [HV.out]; exact ints_oneCell _ _
  have HC : Hid (∀ j v, vs[j]? = some v → w.cell? (x.add j) = some v) := by
    intro j v hj
    rw [HV.out] at hj
    have hjl : j < len := by
      have := (List.getElem?_eq_some_iff.1 hj).1
      simp at this; omega
    rw [hc j (by omega), ← hj]
    simp [hjl]
    rw [List.getElem?_eq_getElem (by omega)]
    simp
  clear hc
  have q22 : ∀ (w : World) a l c, (binOp .neq 22 (.slice a l c) (.slice none 0 0)).run Try.prog w = .ok (.bool (!a.isNone)) w := fun w a l c => run_neq_slice_nil_any w 22 24 a l c 0 0 Try.underlying22
  go_enter Try.func3, Try.ntmps3
  go_wp2_with (first
    | (at_make; refine wpList_make_row rfl (.tmp 31) (.tmp 31) 22 rfl 24 i0 (.int .u64 0) Try.underlying22 hi hz0 hz1 rfl .i64 .i64 _ _ len rfl rfl rfl rfl (by rw [hz2]; omega) (by omega) ?_; intro w1 hr1 hb1 hs1)
    | (refine wpList_copy_row rfl (.tmp 33) (.tmp 34) 22 22 rfl 24 Try.underlying22 size24 w.heap.size len len cap x rfl rfl _ _ hr1 vs HL.out (by simp) ?_ H1.out w.heap.size w hb1 (Nat.le_refl _) ?_)
    | (at_make; fail)
    | go_in)
  case refine_1 =>
    intro j v hj
    have := HC.out j v hj
    have hb := World.block_lt_of_cell? w _ this
    exact (hb1.cell (p := x.add j) hb).trans this
  intro w2 hr2 hb2
  have hlt2 := hr2.lt
  clear hr1 hb1 hs1 w1 HC H1
  go_wp2_with (first
    | (at_make; refine wpList_make_row rfl (.tmp 39) (.tmp 39) 22 rfl 24 i0 (.int .u64 0) Try.underlying22 hi hz0 hz1 rfl .i64 .i64 _ _ len rfl rfl rfl rfl (by rw [hz2]; omega) (by omega) ?_; intro w3 hr3 hb3 hs3)
    | fail)
  have hr2' := hr2.below hb3 hlt2
  have hb3' : Below w.heap.size w w3 := hb2.trans (hb3.mono (by omega))
  rw [upto_zero (fun i => .int .u64 (18446744073709551615 - zs.getD i 0))] at hr3
  clear hr2 hb2 hb3
  go_loopw [8] (fun i wr => ∃ j : Nat, j ≤ len ∧ i = .int .i64 j ∧ Row wr w.heap.size 24 vs ∧ Row wr w2.heap.size 24 (upto (fun i => .int .u64 (18446744073709551615 - zs.getD i 0)) (fun _ => .int .u64 0) len j) ∧ Below w.heap.size w wr) (fun i _ => len - (intOf i).toNat)
  case atStart => exact ⟨0, Nat.zero_le _, rfl, hr2', hr3, hb3'⟩
  case round =>
    obtain ⟨j, hj, rfl, hra, hrb, hbw⟩ := hrel
    clear hr2' hr3 hb3' hs3
    by_cases hlt : j < len
    · have hza := hwz j (by omega)
      have hcella : wr.cell? ⟨w.heap.size, j, none⟩ = some (.int .u64 (zs.getD j 0)) := by
        rw [hra.cell, HV.out]; simp [hlt]; rw [List.getElem?_eq_getElem (by omega)]; simp
      have hcellb : wr.cell? ⟨w2.heap.size, j, none⟩ = some (.int .u64 0) := by
        rw [hrb.cell, upto_get _ _ _ _ _ hlt]; simp
      have hfr : wr.frozen? ⟨w2.heap.size, j, none⟩ = false := hrb.frozen j
      obtain ⟨z, hzz⟩ : ∃ z, z = zs.getD j 0 := ⟨_, rfl⟩
      have HZ : Hid (z = zs.getD j 0) := hzz
      rw [← hzz] at hcella hza
      clear hzz hwz
      go_wp2
      go_roundw
      case rel =>
        rw [u64_not z hza.1 hza.2]
        refine ⟨j + 1, by omega, by go_num, hra.setOther _ _ (by omega), ?_, hbw.setCell (by show w.heap.size ≤ w2.heap.size; omega) _⟩
        have := hrb.set j (.int .u64 (18446744073709551615 - z))
        rw [HZ.out, upto_set (fun i => .int .u64 (18446744073709551615 - zs.getD i 0))] at this
        rw [HZ.out]
        exact this
      case measure => simp [intOf]; omega
    · obtain rfl : len = j := by omega
      obtain ⟨Z, HZ⟩ : ∃ Z, Hid (Z = zs.take len) := ⟨_, rfl⟩
      have hZl : Z.length = len := by rw [HZ.out]; simp; omega
      have hZb : ∀ i, i < Z.length → 0 ≤ Z.getD i 0 ∧ Z.getD i 0 < 18446744073709551616 := by
        intro i hi
        have := hwz i (by omega)
        rw [HZ.out]
        simpa [show i < len by omega] using this
      have hra : Row wr w.heap.size 24 (Z.map (Value.int .u64)) := by rw [HZ.out, ← HV.out]; exact hra
      have hrb : Row wr w2.heap.size 24 ((Z.map fun z => 18446744073709551615 - z).map (Value.int .u64)) := by
        have e := upto_full (fun z => 18446744073709551615 - z) (fun _ => .int .u64 0) Z
        rw [← e, hZl]
        have e2 : upto (fun i => .int .u64 (18446744073709551615 - zs.getD i 0)) (fun _ => .int .u64 0) len len = upto (fun i => .int .u64 (18446744073709551615 - Z.getD i 0)) (fun _ => .int .u64 0) len len := by
          unfold upto
          apply List.map_congr_left
          intro i hi
          have hi' : i < len := by simpa using hi
          rw [HZ.out]
          simp [hi']
        rw [← e2]; exact hrb
      have hcb : ∀ i, i < len → 0 ≤ (Z.map fun z => 18446744073709551615 - z).getD i 0 ∧ (Z.map fun z => 18446744073709551615 - z).getD i 0 < 18446744073709551616 := by
        intro i hi
        have := hZb i (by omega)
        simp [show i < Z.length by omega] at this ⊢
        omega
      have c1 := sumPc_compl Z hZb
      have c2 := sumPc_append (Z.take k) (Z.drop k)
      rw [List.take_append_drop] at c2
      have c3 := sumPc_le Z
      rw [hZl] at c1 c3
      obtain ⟨Y, HY⟩ : ∃ Y, Hid (Y = Z.map fun z => 18446744073709551615 - z) := ⟨Z.map fun z => 18446744073709551615 - z, show _ = _ from rfl⟩
      rw [← HY.out] at c1 hrb hcb
      have hYl : Y.length = len := by rw [HY.out]; simpa using hZl
      have C : Hid (sumPc Z + sumPc Y = 64 * len ∧ sumPc Z = sumPc (Z.take k) + sumPc (Z.drop k) ∧ sumPc Z ≤ 64 * len) := ⟨c1, c2, c3⟩
      have ZL : Hid (Z.length = len) := hZl
      have YL : Hid (Y.length = len) := hYl
      have ZB : Hid (∀ i, i < len → 0 ≤ Z.getD i 0 ∧ Z.getD i 0 < 18446744073709551616) := by rw [← hZl]; exact hZb
      have YB : Hid (∀ i, i < len → 0 ≤ Y.getD i 0 ∧ Y.getD i 0 < 18446744073709551616) := hcb
      clear hZl hYl hZb hcb c1 c2 c3 hwz q22
      go_wp2_with fail
      refine (newSet_any _ _ _ _).mono ?_
      rintro e w4 ⟨rfl, hb4⟩
      have r4a := hra.below hb4 hra.lt
      have r4b := hrb.below hb4 hrb.lt
      have b4 : Below w.heap.size w w4 := hbw.trans (hb4.mono (by have := hra.lt; omega))
      clear hra hrb hbw hb4
      go_wp2_with fail
      refine (len_any _ _ _ Z _ ZL.out hm ZB.out (fun _ => ⟨_, _, rfl, ?_⟩)).mono ?_
      · have := cut_cells (off := 0) (l := len) r4a (by rw [ZL.out]; omega)
        rw [List.drop_zero, List.take_of_length_le (by rw [ZL.out]; omega)] at this
        exact this
      rintro e w5 ⟨rfl, hb5⟩
      have r5a := r4a.below hb5 r4a.lt
      have r5b := r4b.below hb5 r4b.lt
      have b5 : Below w.heap.size w w5 := b4.trans (hb5.mono (by have := r4a.lt; omega))
      clear r4a r4b b4 hb5
      go_wp2_with fail
      refine (newSet_any _ _ _ _).mono ?_
      rintro e w6 ⟨rfl, hb6⟩
      have r6a := r5a.below hb6 r5a.lt
      have r6b := r5b.below hb6 r5b.lt
      have b6 : Below w.heap.size w w6 := b5.trans (hb6.mono (by have := r5a.lt; omega))
      clear r5a r5b b5 hb6
      go_wp2_with fail
      refine (len_any _ _ _ Y _ YL.out hm YB.out (fun _ => ⟨_, _, rfl, ?_⟩)).mono ?_
      · have := cut_cells (off := 0) (l := len) r6b (by rw [YL.out]; omega)
        rw [List.drop_zero, List.take_of_length_le (by rw [YL.out]; omega)] at this
        exact this
      rintro e w7 ⟨rfl, hb7⟩
      have r7a := r6a.below hb7 r6a.lt
      have b7 : Below w.heap.size w w7 := b6.trans (hb7.mono (by have := r6a.lt; omega))
      clear r6a r6b b6 hb7
      go_wp2_with fail
      refine (newSet_any _ _ _ _).mono ?_
      rintro e w8 ⟨rfl, hb8⟩
      have r8a := r7a.below hb8 r7a.lt
      have b8 : Below w.heap.size w w8 := b7.trans (hb8.mono (by have := r7a.lt; omega))
      clear r7a b7 hb8
      go_wp2_with fail
      refine (len_any _ _ _ (Z.take k) _ (by rw [List.length_take, ZL.out]; omega) (by omega) ?_ (fun _ => ⟨_, _, rfl, ?_⟩)).mono ?_
      · intro i hi
        have := ZB.out i (by omega)
        simpa [hi] using this
      · have := cut_cells (off := 0) (l := k) r8a (by rw [ZL.out]; omega)
        rw [List.drop_zero] at this
        exact this
      rintro e w9 ⟨rfl, hb9⟩
      have r9a := r8a.below hb9 r8a.lt
      have b9 : Below w.heap.size w w9 := b8.trans (hb9.mono (by have := r8a.lt; omega))
      clear r8a b8 hb9
      have d1 : (Z.drop k).length = len - k := by rw [List.length_drop, ZL.out]
      have D1 : Hid ((Z.drop k).length = len - k) := d1
      clear d1
      go_wp2_with fail
      all_goals
        refine (newSet_any _ _ _ _).mono ?_
        rintro e w10 ⟨rfl, hb10⟩
        have r10a := r9a.below hb10 r9a.lt
        have b10 : Below w.heap.size w w10 := b9.trans (hb10.mono (by have := r9a.lt; omega))
        clear r9a b9 hb10
        go_wp2_with fail
        refine (len_any _ _ _ (Z.drop k) _ (by have := D1.out; omega) (by omega) ?_ ?_).mono ?_
        · intro i hi
          have := ZB.out (k + i) (by omega)
          simpa using this
        · intro hpos
          first
            | exact absurd hpos (by omega)
            | (refine ⟨_, _, rfl, ?_⟩
               have := cut_cells (off := k) (l := len - k) r10a (by rw [ZL.out]; omega)
               rw [List.take_of_length_le (by rw [D1.out]; omega)] at this
               exact this)
        rintro e w11 ⟨rfl, hb11⟩
        have b11 : Below w.heap.size w w11 := b10.trans (hb11.mono (by have := r10a.lt; omega))
        clear r10a b10 hb11
        obtain ⟨c1, c2, c3⟩ := C.out
        clear C ZB YB ZL YL D1 HY HZ hrb hra HV
        generalize sumPc (Z.drop k) = nr at *
        generalize sumPc (Z.take k) = nl at *
        generalize sumPc Z = nz at *
        generalize sumPc Y = ny at *
        subst c2
        obtain ⟨c1a, c1b⟩ := Nat.le_antisymm_iff.1 c1
        clear c1
        go_wp2
        go_ret
        exact ⟨ret_true (by omega), b11⟩

set_option maxHeartbeats 400000 in
theorem walk_early (a : Option Addr) (len cap : Nat) (k : Int) (w : World) (hl : (len : Int) ≤ 9223372036854775807) (h : 131072 < len ∨ k < 0 ∨ (len : Int) < k) :
    Calls Try.prog 3 #[.slice a len cap, .int .i64 k] w fun e w' => e = .returned (.bool true) ∧ Below w.heap.size w w' := by
  by_cases h1 : 1048576 < len
  · go_enter Try.func3, Try.ntmps3
    go_wp2
    go_ret
    exact ⟨rfl, Below.refl _ _⟩
  · by_cases h2 : 131072 < len
    · go_enter Try.func3, Try.ntmps3
      go_wp2
      go_ret
      exact ⟨rfl, Below.refl _ _⟩
    · by_cases h3 : k < 0
      · have h3' : decide (k < 0) = true := by simpa using h3
        go_enter Try.func3, Try.ntmps3
        go_wp2
        go_ret
        exact ⟨rfl, Below.refl _ _⟩
      · have h4 : (len : Int) < k := by omega
        have h3' : decide (k < 0) = false := by simpa using h3
        go_enter Try.func3, Try.ntmps3
        go_wp2
        go_ret
        exact ⟨rfl, Below.refl _ _⟩

set_option maxHeartbeats 1000000 in
theorem walk_nil (w : World) :
    Calls Try.prog 3 #[.slice none 0 0, .int .i64 0] w fun e w' => e = .returned (.bool true) ∧ Below w.heap.size w w' := by
  obtain ⟨i0, hi, hz0, hz1, hz2⟩ := info_parts info24
  have q22 : ∀ (w : World) a l c, (binOp .neq 22 (.slice a l c) (.slice none 0 0)).run Try.prog w = .ok (.bool (!a.isNone)) w := fun w a l c => run_neq_slice_nil_any w 22 24 a l c 0 0 Try.underlying22
  go_enter Try.func3, Try.ntmps3
  go_wp2_with (first
    | (at_make; refine wpList_make_row rfl (.tmp 39) (.tmp 39) 22 rfl 24 i0 (.int .u64 0) Try.underlying22 hi hz0 hz1 rfl .i64 .i64 _ _ 0 rfl rfl rfl rfl (by rw [hz2]; omega) (by omega) ?_; intro w1 hr1 hb1 hs1)
    | go_in)
  go_loopw [8] (fun i wr => i = .int .i64 0 ∧ Below w.heap.size w wr) (fun _ _ => 0)
  case atStart => exact ⟨rfl, hb1⟩
  case round =>
    obtain ⟨rfl, hbw⟩ := hrel
    clear hr1 hb1 hs1
    go_wp2_with fail
    refine (newSet_any _ _ _ _).mono ?_
    rintro e w2 ⟨rfl, hb2⟩
    have b2 := hbw.trans (hb2.mono hbw.size)
    clear hbw hb2
    go_wp2_with fail
    refine (len_nil _ _ _).mono ?_
    rintro e w3 ⟨rfl, hb3⟩
    have b3 := b2.trans (hb3.mono b2.size)
    clear b2 hb3
    go_wp2_with fail
    refine (newSet_any _ _ _ _).mono ?_
    rintro e w4 ⟨rfl, hb4⟩
    have b4 := b3.trans (hb4.mono b3.size)
    clear b3 hb4
    go_wp2_with fail
    refine (len_nil _ _ _).mono ?_
    rintro e w5 ⟨rfl, hb5⟩
    have b5 := b4.trans (hb5.mono b4.size)
    clear b4 hb5
    go_wp2_with fail
    refine (newSet_any _ _ _ _).mono ?_
    rintro e w6 ⟨rfl, hb6⟩
    have b6 := b5.trans (hb6.mono b5.size)
    clear b5 hb6
    go_wp2_with fail
    refine (len_nil _ _ _).mono ?_
    rintro e w7 ⟨rfl, hb7⟩
    have b7 := b6.trans (hb7.mono b6.size)
    clear b6 hb7
    go_wp2_with fail
    refine (newSet_any _ _ _ _).mono ?_
    rintro e w8 ⟨rfl, hb8⟩
    have b8 := b7.trans (hb8.mono b7.size)
    clear b7 hb8
    go_wp2_with fail
    refine (len_nil _ _ _).mono ?_
    rintro e w9 ⟨rfl, hb9⟩
    have b9 := b8.trans (hb9.mono b8.size)
    clear b8 hb9
    go_wp2
    go_ret
    exact ⟨rfl, b9⟩

theorem walk (a0 : Option Addr) (len0 cap0 : Nat) (z0 : List Int) (a1 : Int) (w : World) (w0 : IsRow .u64 w a0 len0 cap0 z0) (w1 : (Lit.int .i64 a1).wf = true) :
    Calls Try.prog 3 #[.slice a0 len0 cap0, .int .i64 a1] w fun e w' => e = .returned (.bool true) ∧ Below w.heap.size w w' := by
  rcases w0 with ⟨rfl, rfl, rfl, rfl⟩ | ⟨x, rfl, hlc, hcm, hzl, hcell, hwz⟩
  · by_cases h : a1 = 0
    · subst h; exact walk_nil w
    · exact walk_early none 0 0 a1 w (by omega) (by omega)
  · by_cases h : 131072 < len0 ∨ a1 < 0 ∨ (len0 : Int) < a1
    · exact walk_early (some x) len0 cap0 a1 w (by unfold maxLen at hcm; omega) h
    · refine walk_some x len0 cap0 z0 a1 w hlc hzl ?_ ?_ (by omega) (by omega) (by omega)
      · intro i hi
        exact hcell i (by omega)
      · intro i hi
        have := bounds_u64 (hwz (z0.getD i 0) (by simp [show i < z0.length by omega]))
        omega

/-! ### THE ROW's STEP: WRITTEN OUT: LEAVE IT -/
set_option maxRecDepth 100000 in
theorem lifted (os : Os) (started : os.Started) (H : Type) (enc : TypeId × Value → H) :
    ReturnsInHanded {} Try.checked os 3 .any (Rows.fnLenComplementAndCutSpec.pre6 enc Try.prog Try.f3 Rows.fnLenComplementAndCutRow.domain false) (Rows.fnLenComplementAndCutSpec.post enc Try.prog Try.f3 false true false false) := by
  refine returnsInHanded_of_change (C := Try.checked) own started (by kernel_rfl) Try.func3
    (ChangeSpec.witness6 (enc := enc) (C := Try.checked) false ⟨#[], #[.slice none 0 0, .int .i64 0], []⟩ 8 (by kernel_rfl) (by kernel_rfl) (by kernel_rfl) (by kernel_rfl)) ?_
  intro W base args ds gs before hval0 hW hcnd _
  have hval : ∀ (j : Nat) t v, Try.f3.params[j]? = some t → args[j]? = some v → Value.okWide Try.prog W .any base t v := hval0
  have hW' := hW
  obtain ⟨p, q, hA0, hV, rfl, hfz, hnd⟩ := hW
  have hA : DataW.TrodAll enc Try.prog W 0 (fun _ => true) true Try.f3.params.toList args.toList ds p := hA0
  rw [Try.params3] at hA hval
  obtain ⟨v0, vs0, d0, ds0, p0, q0, hargs, rfl, rfl, h0, r0⟩ := trodAll_cons hA
  obtain ⟨v1, vs1, d1, ds1, p1, q1, rfl, rfl, rfl, h1, r1⟩ := trodAll_cons r0
  obtain ⟨rfl, rfl, rfl⟩ := trodAll_nil r1
  obtain rfl : args = #[v0, v1] := by cases args; simp_all
  obtain ⟨rfl, rfl⟩ := trodVars_none hV
  obtain ⟨a0, len0, cap0, rfl⟩ := okWide_slice Try.underlying22 (hval 0 22 v0 rfl rfl)
  have k0 := h0
  have lt0 : ∀ x ∈ p0, x.block < W.heap.size := by obtain ⟨m, hm⟩ := k0; exact DataW.trod_lt m _ _ _ hm
  obtain ⟨z0, w0⟩ : ∃ zs, IsRow .u64 W a0 len0 cap0 zs := by
    obtain ⟨fuel, hf⟩ := h0
    rcases open_ints Try.underlying22 Try.underlying24 (by kernel_rfl) hf with ⟨hcs, _⟩ | ⟨x, l, c, zs, hcs, _, hl, hm, hz, _, hcell, hwz⟩
    · simp [Value.cells] at hcs
      obtain ⟨rfl, rfl, rfl⟩ := hcs
      exact ⟨[], .inl ⟨rfl, rfl, rfl, rfl⟩⟩
    · simp [Value.cells] at hcs
      obtain ⟨rfl, rfl, rfl⟩ := hcs
      exact ⟨zs, .inr ⟨_, rfl, hl, hm, by simpa using hz, hcell, hwz⟩⟩
  obtain ⟨a1, rfl, rfl, rfl, w1⟩ := open_int Try.underlying3 (hval 1 3 v1 rfl rfl) h1
  clear hA0 hval0
  refine (walk a0 len0 cap0 z0 a1 W w0 w1).mono fun e W' ⟨he, bel⟩ => ?_
  subst he
  exact ⟨_, rfl, _, _, _, [], _, [], hW', trodAll_mk1 (shut_bool Try.underlying4 _), (trodAll_cons_mk (Below.trod laidOut (by kernel_rfl) (of_decide_eq_true (by kernel_rfl)) k0 bel lt0) (trodAll_cons_mk (shut_int Try.underlying3 w1) trodAll_mk0)), rfl, bel.frame _, fun h => by cases h⟩

theorem over : Rows.fnLenComplementAndCutRow.holds Try.pinned (OpenSpec.ofChange Rows.fnLenComplementAndCutSpec) :=
  OpenClaim.holds_of_wide 3 Try.f3 rfl rfl rfl rfl rfl rfl rfl ⟨rfl, rfl, rfl, rfl, rfl⟩ rfl rfl rfl rfl rfl (by kernel_rfl) Try.func3 (by kernel_rfl)
    (of_decide_eq_true (by kernel_rfl)) (by unfold Func.isWrapper; first | (rw [if_pos (by decide +kernel)]; kernel_rfl) | (rw [if_neg (by decide +kernel)]; exact ⟨rfl, rfl⟩))
    (fun os started H enc _ => lifted os started H enc)

/-- ████ THE STATEMENT ████ -/
theorem proved : Rows.FnLenComplementAndCutSaid := over
#print axioms proved
end Go.Proofs.Qxb6630429a.fnLenComplementAndCut
