/-
  THE PROOF OF 'Rows.FnLenAddRemoveProcessSaid': the frame is the given shell's (proof-skeleton.mjs); the walk is ours.
-/
import Derived.Test.Qxb6630429aRows
import Derived.Test.Qxb6630429aWalk1
import Derived.Test.Qxb6630429aRowLaws
import Derived.WalkSpells
import Derived.Deep.Cut
import Derived.WalkKit
import Derived.ProofKit
import Derived.OpenShut
import Derived.ShutString
import Derived.ChangeOld
import Derived.Below
namespace Go.Proofs.Qxb6630429a.fnLenAddRemoveProcess
open Go.ChangeShapes Go.WideShapes Go.ChangeAt Go.RowKit
open Go.ChangeMaps (open_string shut_string)
set_option linter.unusedVariables false

theorem own : ownKnob Try.prog.godebug = none := by kernel_rfl
theorem laidOut : laidOutB Try.prog = true := by kernel_rfl

/-- WHAT THE WALK IS TOLD OF A SLICE OF INTEGERS THAT CAME IN: it is nil; or it leads to a row of 'cap' cells, the numbers 'zs' (the first 'len' are its elements, the rest its spare room), each fitting its kind. -/
def IsRow (k : IntKind) (w : World) (a : Option Addr) (len cap : Nat) (zs : List Int) : Prop :=
  (a = none ∧ len = 0 ∧ cap = 0 ∧ zs = []) ∨
  ∃ x, a = some x ∧ len ≤ cap ∧ cap ≤ maxLen ∧ zs.length = cap ∧ (∀ i, i < zs.length → w.cell? (x.add i) = some (.int k (zs.getD i 0))) ∧ ∀ n ∈ zs, (Lit.int k n).wf = true

theorem info24 : (Try.prog.info? 24).map (fun i => (i.zero, i.size, i.bytes)) = some (some (.int .u64 0), 1, 8) := by kernel_rfl
theorem ret_true {p : Prop} [Decidable p] (h : p) : Ending.returned (.bool (decide p)) = .returned (.bool true) := by simp [h]
theorem set_bounds {Z : List Int} {len n : Nat} {v : Int} (hZ : ∀ i, i < len → 0 ≤ Z.getD i 0 ∧ Z.getD i 0 < 18446744073709551616) (hl : Z.length = len) (hv : 0 ≤ v ∧ v < 18446744073709551616) :
    ∀ i, i < len → 0 ≤ (Z.set n v).getD i 0 ∧ (Z.set n v).getD i 0 < 18446744073709551616 := by
  intro i hi
  have := hZ i hi
  rw [List.getD_eq_getElem?_getD, List.getElem?_set]
  by_cases h : n = i
  · subst h; simpa [hl, hi] using hv
  · rw [if_neg h]; simpa using this
theorem whole_cells {w : World} {g len : Nat} {t : TypeId} {zs : List Int} (hr : Row w g t (zs.map (Value.int .u64))) (hl : zs.length = len) :
    ∀ i, i < len → w.cell? ⟨g, 0 + i, none⟩ = some (.int .u64 (zs.getD i 0)) := by
  have := cut_cells (off := 0) (l := len) hr (by omega)
  rwa [List.drop_zero, List.take_of_length_le (by omega)] at this
theorem size24 : (Try.prog.info? 24).map (·.size) = some 1 := by kernel_rfl

set_option maxHeartbeats 800000 in
theorem walk_some (x : Addr) (len cap : Nat) (zs : List Int) (n j : Nat) (w : World) (hlc : len ≤ cap) (hz : zs.length = cap)
    (hc : ∀ i, i < cap → w.cell? (x.add i) = some (.int .u64 (zs.getD i 0)))
    (hwz : ∀ i, i < cap → 0 ≤ zs.getD i 0 ∧ zs.getD i 0 < 18446744073709551616) (hm : len ≤ 131072) (hn : n < len) (hj : j < 64) :
    Calls Try.prog 4 #[.slice (some x) len cap, .int .i64 n, .int .u64 j] w fun e w' => e = .returned (.bool true) ∧ Below w.heap.size w w' := by
  obtain ⟨i0, hi, hz0, hz1, hz2⟩ := info_parts info24
  obtain ⟨vs, HV⟩ : ∃ vs, Hid (vs = (zs.take len).map (Value.int .u64)) := ⟨_, rfl⟩
  have HL : Hid (vs.length = len) := by have hvl : vs.length = len := by { rw [HV.out]; simp; omega }; exact hvl
  have H1 : Hid (∀ v ∈ vs, v.oneCell' = true) := by rw [HV.out]; exact ints_oneCell _ _
  have HC : Hid (∀ j v, vs[j]? = some v → w.cell? (x.add j) = some v) := by
    intro j v hj
    rw [HV.out] at hj
    have hjl : j < len := by
      have := (List.getElem?_eq_some_iff.1 hj).1
      simp at this; omega
    rw [hc j (by omega), ← hj]
    simp [hjl]
    rw [List.getElem?_eq_getElem (by omega)]
    simp
  clear hc
  have q22 : ∀ (w : World) a l c, (binOp .neq 22 (.slice a l c) (.slice none 0 0)).run Try.prog w = .ok (.bool (!a.isNone)) w := fun w a l c => run_neq_slice_nil_any w 22 24 a l c 0 0 Try.underlying22
  go_enter Try.func4, Try.ntmps4
  go_wp2_with (first
    | (at_make; refine wpList_make_row rfl (.tmp 40) (.tmp 40) 22 rfl 24 i0 (.int .u64 0) Try.underlying22 hi hz0 hz1 rfl .i64 .i64 _ _ len rfl rfl rfl rfl (by rw [hz2]; omega) (by omega) ?_; intro w1 hr1 hb1 hs1)
    | (refine wpList_copy_row rfl (.tmp 42) (.tmp 43) 22 22 rfl 24 Try.underlying22 size24 w.heap.size len len cap x rfl rfl _ _ hr1 vs HL.out (by simp) ?_ H1.out w.heap.size w hb1 (Nat.le_refl _) ?_)
    | (at_make; fail)
    | go_in)
  case refine_1 =>
    intro j v hj
    have := HC.out j v hj
    have hb := World.block_lt_of_cell? w _ this
    exact (hb1.cell (p := x.add j) hb).trans this
  intro w2 hr2 hb2
  have hlt2 := hr2.lt
  clear hr1 hb1 hs1 w1 HC H1
  have hcella : w2.cell? ⟨w.heap.size, n, none⟩ = some (.int .u64 (zs.getD n 0)) := by
    rw [hr2.cell, HV.out]; simp [hn]; rw [List.getElem?_eq_getElem (by omega)]; simp
  obtain ⟨z, hzz⟩ : ∃ z, z = zs.getD n 0 := ⟨_, rfl⟩
  have HZ : Hid (z = zs.getD n 0) := hzz
  rw [← hzz] at hcella
  clear hzz
  have hzb := hwz n (by omega)
  rw [← HZ.out] at hzb
  obtain ⟨c, o, a, hc1, ht, ho, hol, hop, ha, hal, hap⟩ := bit_facts z j hzb.1 hzb.2 hj
  clear hzb
  have HO : Hid (pc 64 o + c = pc 64 z.toNat + 1) := hop
  have HA : Hid (pc 64 a + c = pc 64 z.toNat) := hap
  have HOL : Hid (o < 18446744073709551616) := hol
  have HAL : Hid (a < 18446744073709551616) := hal
  clear hop hap hol hal
  have hcc : c = 0 ∨ c = 1 := by omega
  clear hc1
  rcases hcc with rfl | rfl
  all_goals
    first | change _ = false at ht | change _ = true at ht
    go_wp2_with (first
      | (at_make; refine wpList_make_row rfl (.tmp 57) (.tmp 57) 22 rfl 24 i0 (.int .u64 0) Try.underlying22 hi hz0 hz1 rfl .i64 .i64 _ _ len rfl rfl rfl rfl (by rw [hz2]; omega) (by omega) ?_; intro w3 hr3 hb3 hs3)
      | (at_make; refine wpList_make_row rfl (.tmp 59) (.tmp 59) 22 rfl 24 i0 (.int .u64 0) Try.underlying22 hi hz0 hz1 rfl .i64 .i64 _ _ len rfl rfl rfl rfl (by rw [hz2]; omega) (by omega) ?_; intro w4 hr4 hb4 hs4)
      | fail)
    have r2' := (hr2.below hb3 hlt2).below hb4 (by omega)
    have r3' := hr3.below hb4 (by omega)
    have hb4' : Below w.heap.size w w4 := (hb2.trans (hb3.mono (by omega))).trans (hb4.mono (by omega))
    rw [upto_zero (fun i => .int .u64 (zs.getD i 0))] at r3' hr4
    have hg : w2.heap.size < w3.heap.size := by omega
    clear hr2 hb2 hb3 hr3 hb4 hcella hs3 hs4
    generalize IntKind.u64.wrap (2 ^ j) = M at *
    go_loopw [13] (fun i wr => ∃ k : Nat, k ≤ len ∧ i = .int .i64 k ∧ Row wr w.heap.size 24 vs ∧ Row wr w2.heap.size 24 (upto (fun i => .int .u64 (zs.getD i 0)) (fun _ => .int .u64 0) len k) ∧ Row wr w3.heap.size 24 (upto (fun i => .int .u64 (zs.getD i 0)) (fun _ => .int .u64 0) len k) ∧ Below w.heap.size w wr) (fun i _ => len - (intOf i).toNat)
    case atStart => exact ⟨0, Nat.zero_le _, rfl, r2', r3', hr4, hb4'⟩
    case round =>
      obtain ⟨k, hk, rfl, hra, hrb, hrc, hbw⟩ := hrel
      clear r2' r3' hr4 hb4'
      by_cases hlt : k < len
      · have hcella : wr.cell? ⟨w.heap.size, k, none⟩ = some (.int .u64 (zs.getD k 0)) := by
          rw [hra.cell, HV.out]; simp [hlt]; rw [List.getElem?_eq_getElem (by omega)]; simp
        have hcellb : wr.cell? ⟨w2.heap.size, k, none⟩ = some (.int .u64 0) := by
          rw [hrb.cell, upto_get _ _ _ _ _ hlt]; simp
        have hcellc : wr.cell? ⟨w3.heap.size, k, none⟩ = some (.int .u64 0) := by
          rw [hrc.cell, upto_get _ _ _ _ _ hlt]; simp
        have hfr : wr.frozen? ⟨w2.heap.size, k, none⟩ = false := hrb.frozen k
        have hfc : wr.frozen? ⟨w3.heap.size, k, none⟩ = false := hrc.frozen k
        obtain ⟨y, hyy⟩ : ∃ y, y = zs.getD k 0 := ⟨_, rfl⟩
        have HY : Hid (y = zs.getD k 0) := hyy
        rw [← hyy] at hcella
        clear hyy hwz ht ho ha
        have n12 : ¬ (w.heap.size = w2.heap.size) := by omega
        have n21 : ¬ (w2.heap.size = w.heap.size) := by omega
        have n23 : ¬ (w2.heap.size = w3.heap.size) := by omega
        have n32 : ¬ (w3.heap.size = w2.heap.size) := by omega
        go_upto_region 22 with fail
        have hra' := hra.setOther k (.int .u64 y) n12
        have hrb' := hrb.set k (.int .u64 y)
        have hrc' := hrc.setOther k (.int .u64 y) n32
        have hbw' : Below w.heap.size w (wr.setCell ⟨w2.heap.size, k, none⟩ (.int .u64 y)) := hbw.setCell (by show w.heap.size ≤ w2.heap.size; omega) _
        clear hra hrb hrc hbw hcella hcellb hcellc hfr hfc
        generalize wr.setCell ⟨w2.heap.size, k, none⟩ (.int .u64 y) = wm at *
        have hcella : wm.cell? ⟨w.heap.size, k, none⟩ = some (.int .u64 y) := by
          rw [hra'.cell, HV.out, HY.out]; simp [hlt]; rw [List.getElem?_eq_getElem (by omega)]; simp
        have hcellc : wm.cell? ⟨w3.heap.size, k, none⟩ = some (.int .u64 0) := by
          rw [hrc'.cell, upto_get _ _ _ _ _ hlt]; simp
        have hfc : wm.frozen? ⟨w3.heap.size, k, none⟩ = false := hrc'.frozen k
        go_wp2
        go_roundw
        case rel =>
          refine ⟨k + 1, by omega, by go_num, hra'.setOther _ _ (by omega), ?_, ?_, hbw'.setCell (by show w.heap.size ≤ w3.heap.size; omega) _⟩
          · rw [HY.out, upto_set (fun i => .int .u64 (zs.getD i 0))] at hrb'
            exact hrb'.setOther _ _ n23
          · have := hrc'.set k (.int .u64 y)
            rw [HY.out, upto_set (fun i => .int .u64 (zs.getD i 0))] at this
            rw [HY.out]
            exact this
        case measure => simp [intOf]; omega
      · obtain rfl : len = k := by omega
        obtain ⟨Z, HZZ⟩ : ∃ Z, Hid (Z = zs.take len) := ⟨_, rfl⟩
        have hZl : Z.length = len := by rw [HZZ.out]; simp; omega
        have ZB : Hid (∀ i, i < len → 0 ≤ Z.getD i 0 ∧ Z.getD i 0 < 18446744073709551616) := by
          intro i hi
          have := hwz i (by omega)
          rw [HZZ.out]
          simpa [hi] using this
        have hzn : z = Z.getD n 0 := by rw [HZ.out, HZZ.out]; simp [hn]
        have eU : upto (fun i => .int .u64 (zs.getD i 0)) (fun _ => .int .u64 0) len len = Z.map (Value.int .u64) := by
          have e := upto_full (fun z => z) (fun _ => .int .u64 0) Z
          rw [List.map_id', hZl] at e
          rw [← e]
          unfold upto
          apply List.map_congr_left
          intro i hi
          have hi' : i < len := by simpa using hi
          rw [HZZ.out]
          simp [hi']
        rw [eU] at hrb hrc
        have hra : Row wr w.heap.size 24 (Z.map (Value.int .u64)) := by rw [HZZ.out, ← HV.out]; exact hra
        have s1 := sumPc_set Z n o (by omega)
        have s2 := sumPc_set Z n a (by omega)
        have s3 := sumPc_le Z
        rw [← hzn, Int.toNat_natCast] at s1 s2
        have S : Hid (sumPc (Z.set n o) + pc 64 z.toNat = sumPc Z + pc 64 o ∧ sumPc (Z.set n a) + pc 64 z.toNat = sumPc Z + pc 64 a ∧ sumPc Z ≤ 64 * len) := ⟨s1, s2, by omega⟩
        have ZL : Hid (Z.length = len) := hZl
        have hcella : wr.cell? ⟨w.heap.size, n, none⟩ = some (.int .u64 z) := by
          rw [hra.cell, hzn]; simp [hZl, hn]
        have hcellb : wr.cell? ⟨w2.heap.size, n, none⟩ = some (.int .u64 z) := by
          rw [hrb.cell, hzn]; simp [hZl, hn]
        have hfb : wr.frozen? ⟨w2.heap.size, n, none⟩ = false := hrb.frozen n
        have HZn : Hid (z = Z.getD n 0) := hzn
        clear eU s1 s2 s3 hzn hZl HZ q22 hwz HV
        have n12 : ¬ (w.heap.size = w2.heap.size) := by omega
        have n13 : ¬ (w.heap.size = w3.heap.size) := by omega
        have n23 : ¬ (w2.heap.size = w3.heap.size) := by omega
        have n32 : ¬ (w3.heap.size = w2.heap.size) := by omega
        go_upto_region 24 with fail
        have hra' := hra.setOther n (.int .u64 o) n12
        have hrb' := hrb.set n (.int .u64 o)
        have hrc' := hrc.setOther n (.int .u64 o) n32
        have hbw' : Below w.heap.size w (wr.setCell ⟨w2.heap.size, n, none⟩ (.int .u64 o)) := hbw.setCell (by show w.heap.size ≤ w2.heap.size; omega) _
        clear hra hrb hrc hbw hcella hcellb hfb
        generalize wr.setCell ⟨w2.heap.size, n, none⟩ (.int .u64 o) = wm at *
        have hcella : wm.cell? ⟨w.heap.size, n, none⟩ = some (.int .u64 z) := by
          rw [hra'.cell, HZn.out]; simp [ZL.out, hn]
        have hcellc : wm.cell? ⟨w3.heap.size, n, none⟩ = some (.int .u64 z) := by
          rw [hrc'.cell, HZn.out]; simp [ZL.out, hn]
        have hfc : wm.frozen? ⟨w3.heap.size, n, none⟩ = false := hrc'.frozen n
        go_upto_region 25 with fail
        have hra := hra'.setOther n (.int .u64 a) n13
        have hrb := hrb'.setOther n (.int .u64 a) n23
        have hrc := hrc'.set n (.int .u64 a)
        have hbw : Below w.heap.size w (wm.setCell ⟨w3.heap.size, n, none⟩ (.int .u64 a)) := hbw'.setCell (by show w.heap.size ≤ w3.heap.size; omega) _
        clear hra' hrb' hrc' hbw' hcella hcellc hfc
        generalize wm.setCell ⟨w3.heap.size, n, none⟩ (.int .u64 a) = wn at *
        rw [← List.map_set] at hrb hrc
        have OB : Hid (∀ i, i < len → 0 ≤ (Z.set n (o : Int)).getD i 0 ∧ (Z.set n (o : Int)).getD i 0 < 18446744073709551616) := set_bounds ZB.out ZL.out (by have := HOL.out; omega)
        have AB : Hid (∀ i, i < len → 0 ≤ (Z.set n (a : Int)).getD i 0 ∧ (Z.set n (a : Int)).getD i 0 < 18446744073709551616) := set_bounds ZB.out ZL.out (by have := HAL.out; omega)
        obtain ⟨X, HX⟩ : ∃ X, Hid (X = Z.set n (o : Int)) := ⟨_, rfl⟩
        obtain ⟨Y, HY⟩ : ∃ Y, Hid (Y = Z.set n (a : Int)) := ⟨_, rfl⟩
        have XL : Hid (X.length = len) := by have := ZL.out; unfold Hid; rw [HX.out]; simpa using this
        have YL : Hid (Y.length = len) := by have := ZL.out; unfold Hid; rw [HY.out]; simpa using this
        rw [← HX.out] at hrb OB S
        rw [← HY.out] at hrc AB S
        go_wp2_with fail
        refine (newSet_any _ _ _ _).mono ?_
        rintro e w5 ⟨rfl, hb5⟩
        have r5a := hra.below hb5 hra.lt
        have r5b := hrb.below hb5 hrb.lt
        have r5c := hrc.below hb5 hrc.lt
        have b5 : Below w.heap.size w w5 := hbw.trans (hb5.mono (by have := hra.lt; omega))
        clear hra hrb hrc hbw hb5
        go_wp2_with fail
        refine (len_any _ _ _ Z _ ZL.out hm ZB.out (fun _ => ⟨_, _, rfl, whole_cells r5a ZL.out⟩)).mono ?_
        rintro e w6 ⟨rfl, hb6⟩
        have r6b := r5b.below hb6 r5b.lt
        have r6c := r5c.below hb6 r5c.lt
        have b6 : Below w.heap.size w w6 := b5.trans (hb6.mono (by have := r5a.lt; omega))
        clear r5a r5b r5c b5 hb6
        go_wp2_with fail
        refine (newSet_any _ _ _ _).mono ?_
        rintro e w7 ⟨rfl, hb7⟩
        have r7b := r6b.below hb7 r6b.lt
        have r7c := r6c.below hb7 r6c.lt
        have b7 : Below w.heap.size w w7 := b6.trans (hb7.mono (by have := r6b.lt; omega))
        clear r6b r6c b6 hb7
        go_wp2_with fail
        refine (len_any _ _ _ X _ XL.out hm OB.out (fun _ => ⟨_, _, rfl, whole_cells r7b XL.out⟩)).mono ?_
        rintro e w8 ⟨rfl, hb8⟩
        have r8c := r7c.below hb8 r7c.lt
        have b8 : Below w.heap.size w w8 := b7.trans (hb8.mono (by have := r7b.lt; omega))
        clear r7b r7c b7 hb8
        go_wp2_with fail
        refine (newSet_any _ _ _ _).mono ?_
        rintro e w9 ⟨rfl, hb9⟩
        have r9c := r8c.below hb9 r8c.lt
        have b9 : Below w.heap.size w w9 := b8.trans (hb9.mono (by have := r8c.lt; omega))
        clear r8c b8 hb9
        go_wp2_with fail
        refine (len_any _ _ _ Y _ YL.out hm AB.out (fun _ => ⟨_, _, rfl, whole_cells r9c YL.out⟩)).mono ?_
        rintro e w10 ⟨rfl, hb10⟩
        have b10 : Below w.heap.size w w10 := b9.trans (hb10.mono (by have := r9c.lt; omega))
        clear r9c b9 hb10
        obtain ⟨t1, t2, t3⟩ := S.out
        have t4 := HO.out
        have t5 := HA.out
        clear S HO HA OB AB ZB XL YL ZL HZn HX HY HOL HAL
        generalize sumPc X = nx at *
        generalize sumPc Y = ny at *
        generalize sumPc Z = nz at *
        generalize pc 64 z.toNat = pz at *
        generalize pc 64 o = po at *
        generalize pc 64 a = pa at *
        have d1 : nx = ny + 1 := by omega
        first
          | (have d2 : nz = ny := by omega
             subst d1 d2)
          | (have d2 : nz = ny + 1 := by omega
             subst d1 d2)
        clear t1 t2 t4 t5
        go_wp2
        go_ret
        exact ⟨rfl, b10⟩

set_option maxHeartbeats 400000 in
theorem walk_early (a : Option Addr) (len cap : Nat) (k j : Int) (w : World) (hl : (len : Int) ≤ 9223372036854775807) (h : 131072 < len ∨ k < 0 ∨ (len : Int) ≤ k ∨ 64 ≤ j) :
    Calls Try.prog 4 #[.slice a len cap, .int .i64 k, .int .u64 j] w fun e w' => e = .returned (.bool true) ∧ Below w.heap.size w w' := by
  by_cases h1 : 1048576 < len
  · go_enter Try.func4, Try.ntmps4
    go_wp2
    go_ret
    exact ⟨rfl, Below.refl _ _⟩
  · by_cases h2 : 131072 < len
    · go_enter Try.func4, Try.ntmps4
      go_wp2
      go_ret
      exact ⟨rfl, Below.refl _ _⟩
    · by_cases h3 : k < 0
      · have h3' : decide (k < 0) = true := by simpa using h3
        go_enter Try.func4, Try.ntmps4
        go_wp2
        go_ret
        exact ⟨rfl, Below.refl _ _⟩
      · have h3' : decide (k < 0) = false := by simpa using h3
        by_cases h4 : (len : Int) ≤ k
        · have h4' : decide ((len : Int) ≤ k) = true := by simpa using h4
          go_enter Try.func4, Try.ntmps4
          go_wp2
          go_ret
          exact ⟨rfl, Below.refl _ _⟩
        · have h4' : decide ((len : Int) ≤ k) = false := by simpa using h4
          have h5 : 64 ≤ j := by omega
          go_enter Try.func4, Try.ntmps4
          go_wp2
          go_ret
          exact ⟨rfl, Below.refl _ _⟩

theorem walk (a0 : Option Addr) (len0 cap0 : Nat) (z0 : List Int) (a1 : Int) (a2 : Int) (w : World) (w0 : IsRow .u64 w a0 len0 cap0 z0) (w1 : (Lit.int .i64 a1).wf = true) (w2 : (Lit.int .u64 a2).wf = true) :
    Calls Try.prog 4 #[.slice a0 len0 cap0, .int .i64 a1, .int .u64 a2] w fun e w' => e = .returned (.bool true) ∧ Below w.heap.size w w' := by
  have hj0 := (bounds_u64 w2).1
  rcases w0 with ⟨rfl, rfl, rfl, rfl⟩ | ⟨x, rfl, hlc, hcm, hzl, hcell, hwz⟩
  · exact walk_early none 0 0 a1 a2 w (by omega) (by omega)
  · by_cases h : 131072 < len0 ∨ a1 < 0 ∨ (len0 : Int) ≤ a1 ∨ 64 ≤ a2
    · exact walk_early (some x) len0 cap0 a1 a2 w (by unfold maxLen at hcm; omega) h
    · obtain ⟨n, rfl⟩ : ∃ n : Nat, a1 = (n : Int) := ⟨a1.toNat, by omega⟩
      obtain ⟨j, rfl⟩ : ∃ n : Nat, a2 = (n : Int) := ⟨a2.toNat, by omega⟩
      refine walk_some x len0 cap0 z0 n j w hlc hzl ?_ ?_ (by omega) (by omega) (by omega)
      · intro i hi
        exact hcell i (by omega)
      · intro i hi
        have := bounds_u64 (hwz (z0.getD i 0) (by simp [show i < z0.length by omega]))
        omega

/-! ### THE ROW's STEP: WRITTEN OUT: LEAVE IT -/
set_option maxRecDepth 100000 in
theorem lifted (os : Os) (started : os.Started) (H : Type) (enc : TypeId × Value → H) :
    ReturnsInHanded {} Try.checked os 4 .any (Rows.fnLenAddRemoveProcessSpec.pre6 enc Try.prog Try.f4 Rows.fnLenAddRemoveProcessRow.domain false) (Rows.fnLenAddRemoveProcessSpec.post enc Try.prog Try.f4 false true false false) := by
  refine returnsInHanded_of_change (C := Try.checked) own started (by kernel_rfl) Try.func4
    (ChangeSpec.witness6 (enc := enc) (C := Try.checked) false ⟨#[], #[.slice none 0 0, .int .i64 0, .int .u64 0], []⟩ 8 (by kernel_rfl) (by kernel_rfl) (by kernel_rfl) (by kernel_rfl)) ?_
  intro W base args ds gs before hval0 hW hcnd _
  have hval : ∀ (j : Nat) t v, Try.f4.params[j]? = some t → args[j]? = some v → Value.okWide Try.prog W .any base t v := hval0
  have hW' := hW
  obtain ⟨p, q, hA0, hV, rfl, hfz, hnd⟩ := hW
  have hA : DataW.TrodAll enc Try.prog W 0 (fun _ => true) true Try.f4.params.toList args.toList ds p := hA0
  rw [Try.params4] at hA hval
  obtain ⟨v0, vs0, d0, ds0, p0, q0, hargs, rfl, rfl, h0, r0⟩ := trodAll_cons hA
  obtain ⟨v1, vs1, d1, ds1, p1, q1, rfl, rfl, rfl, h1, r1⟩ := trodAll_cons r0
  obtain ⟨v2, vs2, d2, ds2, p2, q2, rfl, rfl, rfl, h2, r2⟩ := trodAll_cons r1
  obtain ⟨rfl, rfl, rfl⟩ := trodAll_nil r2
  obtain rfl : args = #[v0, v1, v2] := by cases args; simp_all
  obtain ⟨rfl, rfl⟩ := trodVars_none hV
  obtain ⟨a0, len0, cap0, rfl⟩ := okWide_slice Try.underlying22 (hval 0 22 v0 rfl rfl)
  have k0 := h0
  have lt0 : ∀ x ∈ p0, x.block < W.heap.size := by obtain ⟨m, hm⟩ := k0; exact DataW.trod_lt m _ _ _ hm
  obtain ⟨z0, w0⟩ : ∃ zs, IsRow .u64 W a0 len0 cap0 zs := by
    obtain ⟨fuel, hf⟩ := h0
    rcases open_ints Try.underlying22 Try.underlying24 (by kernel_rfl) hf with ⟨hcs, _⟩ | ⟨x, l, c, zs, hcs, _, hl, hm, hz, _, hcell, hwz⟩
    · simp [Value.cells] at hcs
      obtain ⟨rfl, rfl, rfl⟩ := hcs
      exact ⟨[], .inl ⟨rfl, rfl, rfl, rfl⟩⟩
    · simp [Value.cells] at hcs
      obtain ⟨rfl, rfl, rfl⟩ := hcs
      exact ⟨zs, .inr ⟨_, rfl, hl, hm, by simpa using hz, hcell, hwz⟩⟩
  obtain ⟨a1, rfl, rfl, rfl, w1⟩ := open_int Try.underlying3 (hval 1 3 v1 rfl rfl) h1
  obtain ⟨a2, rfl, rfl, rfl, w2⟩ := open_int Try.underlying29 (hval 2 29 v2 rfl rfl) h2
  clear hA0 hval0
  refine (walk a0 len0 cap0 z0 a1 a2 W w0 w1 w2).mono fun e W' ⟨he, bel⟩ => ?_
  subst he
  exact ⟨_, rfl, _, _, _, [], _, [], hW', trodAll_mk1 (shut_bool Try.underlying4 _), (trodAll_cons_mk (Below.trod laidOut (by kernel_rfl) (of_decide_eq_true (by kernel_rfl)) k0 bel lt0) (trodAll_cons_mk (shut_int Try.underlying3 w1) (trodAll_cons_mk (shut_int Try.underlying29 w2) trodAll_mk0))), rfl, bel.frame _, fun h => by cases h⟩

theorem over : Rows.fnLenAddRemoveProcessRow.holds Try.pinned (OpenSpec.ofChange Rows.fnLenAddRemoveProcessSpec) :=
  OpenClaim.holds_of_wide 4 Try.f4 rfl rfl rfl rfl rfl rfl rfl ⟨rfl, rfl, rfl, rfl, rfl⟩ rfl rfl rfl rfl rfl (by kernel_rfl) Try.func4 (by kernel_rfl)
    (of_decide_eq_true (by kernel_rfl)) (by unfold Func.isWrapper; first | (rw [if_pos (by decide +kernel)]; kernel_rfl) | (rw [if_neg (by decide +kernel)]; exact ⟨rfl, rfl⟩))
    (fun os started H enc _ => lifted os started H enc)

/-- ████ THE STATEMENT ████ -/
theorem proved : Rows.FnLenAddRemoveProcessSaid := over
#print axioms proved
end Go.Proofs.Qxb6630429a.fnLenAddRemoveProcess
