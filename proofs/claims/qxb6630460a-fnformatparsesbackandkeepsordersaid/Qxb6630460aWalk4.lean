/-
  WALKS of seat b6630460a for the first law: the strict reader of the text, by contract.
-/
import Derived.Test.Qxb6630460aWalk3
import Derived.Laws.ResultCell
import Derived.Laws.BitsAllLaws
namespace Go.Proofs.Qxb6630460a
open Go.ChangeShapes Go.WideShapes Go.ChangeAt Go.RowKit

theorem wpList_store_row {P : Program} {w : World} {ops : Array Oper} {rest : List Oper} {o : Oper} {a : Act} {Q : Exit → Act → World → Prop}
    (hg : o.guard = none) (hdst : o.dst = none) (p x : Operand) (t : TypeId) (hop : o.op = Op.store t p x) (g : Nat) (u : TypeId) (old vs : List Value) (hp : a.eval p = .pointer (some ⟨g, 0, none⟩)) (hx : a.eval x = .agg vs.toArray)
    (hr : Row w g u old) (hi : (P.info? t).map (·.size) = some vs.length) (ho : old.length = vs.length) (h1 : vs.all (·.oneCell') = true)
    (hK : ∀ w', Row w' g u vs → w.grownBy w' (some g) → wpList P ops Q rest a w') : wpList P ops Q (o :: rest) a w := by
  refine wpList_plain hg fun K hK' => ?_
  have hl := run_storeVar_row (P := P) w g u t old.toArray vs.toArray hr (by simpa using hi) (by simpa using ho) (by simpa using h1)
  have hrun : (Instr.storeAt t (.pointer (some ⟨g, 0, none⟩)) (.agg vs.toArray)).run P w = .ok () (w.setRow g vs.toArray) := by
    simp only [Instr.storeAt, Instr.sureAddr, Sem.run_bind, Sem.run_pure, Result.andThen]
    exact hl
  unfold Oper.wp
  simp [execOp, hop, hp, hx, hrun, Result.andThen]
  refine hK' _ _ ?_
  rw [hdst]
  exact (hK _ (setRow_heap w g _ _ u _ hr) ⟨rfl, rfl, rfl, by simp [World.setRow], fun k _ hne => setRow_other w g k _ (by intro e; exact hne (by rw [e]))⟩)

theorem size22 : (Try.prog.info? 22).map (·.size) = some 16 := by kernel_rfl

theorem or_nibs_all : ∀ x : Fin 256, (x.val / 16 * 16) ||| (x.val % 16) = x.val := by decide +kernel
theorem or_nibs (x : Int) (h0 : 0 ≤ x) (h1 : x < 256) : bits .or .u8 (x / 16 * 16) (x % 16) = x := by
  obtain ⟨n, rfl⟩ : ∃ n : Nat, x = (n : Int) := ⟨x.toNat, by omega⟩
  rw [u8_or _ _ (by omega) (by omega) (by omega) (by omega)]
  have := or_nibs_all ⟨n, by omega⟩
  simp only at this
  rw [show ((n : Int) / 16 * 16).toNat = n / 16 * 16 by omega, show ((n : Int) % 16).toNat = n % 16 by omega, this]

/-- The digit's value at place q. -/
def nib (b : Nat → Int) (q : Nat) : Int := if ri q = 0 then b (bi q) / 16 else b (bi q) % 16

/-- What the reader's world holds. -/
def Pst (w : World) (b : Nat → Int) (k : Nat) (W : World) : Prop := Row W w.heap.size 22 (rowF 16 (fun _ => 0)) ∧ Row W (w.heap.size + 1) 22 (rowF 16 (outF b k)) ∧ Below w.heap.size w W

set_option maxHeartbeats 1000000 in
theorem parse_any (b : Nat → Int) (S : ByteArray) (w : World) (hb : ∀ i, i < 16 → 0 ≤ b i ∧ b i < 256) (sS : S.size = 36)
    (hS : ∀ q (hq : q < S.size), ((S[q]'hq).toNat : Int) = ch b q) :
    Calls Try.prog 6 #[.string S] w fun e w' => e = .returned (.tuple #[.agg (rowF 16 b).toArray, .bool true]) ∧ Below w.heap.size w w' := by
  have HS : Hid (∀ q (hq : q < S.size), ((S[q]'hq).toNat : Int) = ch b q) := hS
  clear hS
  go_enter Try.func6, Try.ntmps6
  go_upto_region 4 with fail
  refine gen_world (Pst w b 0) ⟨(Row.new w 22 (rowF 16 (fun _ => 0))).alloc _, by rw [rowF_congr (fun q _ => outF_zero b q)]; exact Row.new2 w _ 22 (rowF 16 (fun _ => 0)), ((Below.refl _ _).alloc (Nat.le_refl _) _).alloc (by simp) _⟩ ?_
  intro W hW
  go_wp2
  go_loopw [5, 6] (fun k q wr => ∃ j : Nat, j ≤ 36 ∧ q = .int .i64 j ∧ k = .int .i64 (kd j) ∧ Pst w b (kd j) wr) (fun _ q _ => 36 - (intOf q).toNat)
  case atStart => exact ⟨0, by omega, rfl, rfl, hW⟩
  case round =>
    obtain ⟨j, hj, rfl, rfl, hP⟩ := hrel
    clear hW
    by_cases hlt : j < 36
    · have hkS : j < S.size := by omega
      have eS := HS.out j hkS
      have kst := kd_step ⟨j, hlt⟩
      simp only at kst
      by_cases hd : dashB j = true
      · have K1 : Hid (kd (j + 1) = kd j) := kst.1 hd
        have ec : ch b j = 45 := by rw [ch_eq, if_pos hd]
        rw [ec] at eS
        have D : Hid (∀ W, Calls Try.prog 12 #[.int .i64 j] W fun e w' => e = .returned (.bool true) ∧ w' = W) := fun W => by rw [← hd]; exact dash_any j W
        clear ec kst hd
        obtain ⟨k, hk⟩ : ∃ k, Hid (k = kd j) := ⟨_, rfl⟩
        rw [← hk.out] at hP ⊢
        go_wp2_with (go_at_call 12; refine (D.out _).mono ?_; rintro e w' ⟨rfl, rfl⟩)
        go_roundw
        case rel => exact ⟨j + 1, by omega, by go_num, by rw [K1.out, hk.out], by rw [K1.out, ← hk.out]; exact hP⟩
        case measure => simp [intOf]; omega
      · have hd' : dashB j = false := by simpa using hd
        obtain ⟨K1, K2, K3, K4⟩ := kst.2 hd'
        have D : Hid (∀ W, Calls Try.prog 12 #[.int .i64 j] W fun e w' => e = .returned (.bool false) ∧ w' = W) := fun W => by rw [← hd']; exact dash_any j W
        have hbi := hb (bi j) K4
        have en : ch b j = hexd (nib b j) := by rw [ch_eq, if_neg hd]; unfold hx nib; split <;> rfl
        by_cases hr : ri j = 0
        · have e1 : nib b j = b (bi j) / 16 := by unfold nib; rw [if_pos hr]
          rw [e1] at en
          rw [en] at eS
          rw [hr, Nat.add_zero] at K2
          rw [K2] at hP ⊢ K1
          have K1' : Hid (kd (j + 1) = 2 * bi j + 1) := K1
          have hv : Hid (∀ W, Calls Try.prog 13 #[.int .u8 (hexd (b (bi j) / 16))] W fun e w' => e = .returned (.tuple #[.int .u8 (b (bi j) / 16), .bool true]) ∧ w' = W) := fun W => value_any _ _ W (by omega) (by omega) rfl
          clear K1 K2 K3 hd hd' kst e1 en hr
          generalize bi j = i at *
          have hcl : wr.cell? ⟨w.heap.size + 1, i, none⟩ = some (.int .u8 (outF b (2 * i) i)) := by rw [hP.2.1.cell, rowF_get _ _ _ K4]
          have hfr : wr.frozen? ⟨w.heap.size + 1, i, none⟩ = false := hP.2.1.frozen i
          obtain ⟨x, HX⟩ : ∃ x, Hid (x = b i) := ⟨_, rfl⟩
          rw [← HX.out] at eS hv hbi
          generalize hexd (x / 16) = c at *
          go_wp2_with (first
            | (go_at_call 12; refine (D.out _).mono ?_; rintro e w' ⟨rfl, rfl⟩)
            | (go_at_call 13; refine (hv.out _).mono ?_; rintro e w' ⟨rfl, rfl⟩))
          go_roundw
          case rel =>
            refine ⟨j + 1, by omega, by go_num, by rw [K1'.out]; go_num, ?_⟩
            rw [K1'.out]
            refine ⟨hP.1.setOther _ _ (by omega), ?_, hP.2.2.setCell (by show w.heap.size ≤ w.heap.size + 1; omega) _⟩
            have hn := hP.2.1.set i (.int .u8 (b i / 16 * 16))
            rw [rowF_set, rowF_congr (fun q _ => outF_hi b i q)] at hn
            rw [HX.out]
            exact hn
          case measure => simp [intOf]; omega
        · have e1 : nib b j = b (bi j) % 16 := by unfold nib; rw [if_neg hr]
          rw [e1] at en
          rw [en] at eS
          rw [show ri j = 1 by omega] at K2
          rw [K2] at hP ⊢ K1
          have K1' : Hid (kd (j + 1) = 2 * bi j + 2) := K1
          have hv : Hid (∀ W, Calls Try.prog 13 #[.int .u8 (hexd (b (bi j) % 16))] W fun e w' => e = .returned (.tuple #[.int .u8 (b (bi j) % 16), .bool true]) ∧ w' = W) := fun W => value_any _ _ W (by omega) (by omega) rfl
          clear K1 K2 K3 hd hd' kst e1 en hr
          generalize bi j = i at *
          have hcl : wr.cell? ⟨w.heap.size + 1, i, none⟩ = some (.int .u8 (b i / 16 * 16)) := by rw [hP.2.1.cell, rowF_get _ _ _ K4, outF_mid]
          have hfr : wr.frozen? ⟨w.heap.size + 1, i, none⟩ = false := hP.2.1.frozen i
          obtain ⟨x, HX⟩ : ∃ x, Hid (x = b i) := ⟨_, rfl⟩
          rw [← HX.out] at eS hv hbi hcl
          have hor := or_nibs x hbi.1 hbi.2
          have i2 : (2 * (i : Int) + 1) / 2 = i := by omega
          have i3 : (2 * (i : Int) + 1) % 2 = 1 := by omega
          generalize hexd (x % 16) = c at *
          go_wp2_with (first
            | (go_at_call 12; refine (D.out _).mono ?_; rintro e w' ⟨rfl, rfl⟩)
            | (go_at_call 13; refine (hv.out _).mono ?_; rintro e w' ⟨rfl, rfl⟩))
          go_roundw
          case rel =>
            refine ⟨j + 1, by omega, by go_num, by rw [K1'.out]; go_num, ?_⟩
            rw [K1'.out]
            refine ⟨hP.1.setOther _ _ (by omega), ?_, hP.2.2.setCell (by show w.heap.size ≤ w.heap.size + 1; omega) _⟩
            have hn := hP.2.1.set i (.int .u8 (b i))
            rw [rowF_set, rowF_congr (fun q _ => outF_lo b i q)] at hn
            rw [HX.out]
            exact hn
          case measure => simp [intOf]; omega
    · obtain rfl : j = 36 := by omega
      have K : Hid (kd 36 = 32) := show kd 36 = 32 by decide
      rw [K.out] at hP ⊢
      rw [show Pst w b 32 wr = (Row wr w.heap.size 22 (rowF 16 (fun _ => 0)) ∧ Row wr (w.heap.size + 1) 22 (rowF 16 b) ∧ Below w.heap.size w wr) by unfold Pst; rw [rowF_congr (fun q hq => outF_all b q hq)]] at hP
      obtain ⟨r0, r1, hbw⟩ := hP
      go_wp2_with (first
        | (refine wpList_load_row rfl (.tmp 4) 22 rfl (w.heap.size + 1) 16 5 (rowF 16 b) rfl r1 Try.underlying22 (by rw [rowF_length]; exact size22) ?_)
        | (refine wpList_store_row rfl rfl (.tmp 2) (.tmp 53) 22 rfl w.heap.size 22 _ (rowF 16 b) rfl rfl r0 (by rw [rowF_length]; exact size22) (by rw [rowF_length, rowF_length]) (by simp [rowF, Value.oneCell']) ?_; intro w5 hr5 hg5))
      have hl := run_loadVar_row (P := Try.prog) w5 w.heap.size 22 22 (rowF 16 b).toArray (0, 0) _ hr5 Try.underlying22 rfl (by rw [List.size_toArray, rowF_length]; exact size22)
      refine bodyPost_ret (v := .tuple #[.agg (rowF 16 b).toArray, .bool true]) ?_ rfl ⟨rfl, hbw.grown hg5 (by have := r0.lt; omega) (by intro k e; injection e with e; omega)⟩
      rw [results_cell_tmp Try.results6]
      simp [asAddr, hl, Result.andThen]
end Go.Proofs.Qxb6630460a
