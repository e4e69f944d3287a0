/-
  WALKS of seat b6630460a: hex.Encode, uuid.Format, by contract.
-/
import Derived.Test.Qxb6630460aRows
import Derived.Test.Qxb6630460aPlain
import Derived.Test.Qxb6630460aRowLaws
import Derived.WalkKit
import Derived.ProofKit
import Derived.OpenShut
import Derived.Deep.Cut
import Derived.Laws.BytesArg
import Derived.Deep.CutRange
import Derived.Deep.RegionWith
namespace Go.Proofs.Qxb6630460a
open Go.ChangeShapes Go.WideShapes Go.ChangeAt Go.RowKit
theorem ret_int {k : IntKind} {a b : Int} (h : a = b) : Ending.returned (.int k a) = .returned (.int k b) := by rw [h]
theorem table_get : ∀ i : Fin 16, (((ByteArray.mk #[48, 49, 50, 51, 52, 53, 54, 55, 56, 57, 97, 98, 99, 100, 101, 102])[i.val]'i.isLt).toNat : Int) = hexd (i.val : Int) := by decide +kernel
theorem table_at (z : Int) (h0 : 0 ≤ z) (h1 : z < 16) (h : z.toNat < (ByteArray.mk #[48, 49, 50, 51, 52, 53, 54, 55, 56, 57, 97, 98, 99, 100, 101, 102]).size) :
    (((ByteArray.mk #[48, 49, 50, 51, 52, 53, 54, 55, 56, 57, 97, 98, 99, 100, 101, 102])[z.toNat]'h).toNat : Int) = hexd z := by
  have := table_get ⟨z.toNat, by omega⟩
  simp only [Int.toNat_of_nonneg h0] at this
  exact this

set_option maxHeartbeats 400000 in
theorem encode_any (g d l c1 s so n c2 N M : Nat) (t u : TypeId) (c b : Nat → Int) (w : World)
    (hr : Row w g t (rowF N c)) (hs : Row w s u (rowF M b)) (hgs : ¬ (s = g)) (hd : d + 2 * n ≤ N) (hso : so + n ≤ M) (hl : 2 * n ≤ l) (hn : n ≤ 16) (hlm : l ≤ 36)
    (hb : ∀ i, i < M → 0 ≤ b i ∧ b i < 256) :
    Calls Try.prog 11 #[.slice (some ⟨g, d, none⟩) l c1, .slice (some ⟨s, so, none⟩) n c2] w fun e w' => e = .returned (.int .i64 (2 * n : Nat)) ∧ Row w' g t (rowF N (encF c d so n b)) ∧ w.grownBy w' (some g) := by
  go_enter Try.func11, Try.ntmps11
  go_wp2
  go_loopw [5, 10] (fun j i wr => ∃ k : Nat, k ≤ n ∧ i = .int .i64 k ∧ j = .int .i64 (2 * k : Nat) ∧ Row wr g t (rowF N (encF c d so k b)) ∧ w.grownBy wr (some g)) (fun _ i _ => n - (intOf i).toNat)
  case atStart => exact ⟨0, Nat.zero_le _, rfl, rfl, by rw [rowF_congr (fun q _ => encF_zero c d so b q)]; exact hr, grown_refl _ _⟩
  case round =>
    obtain ⟨k, hk, rfl, rfl, hrk, hgr⟩ := hrel
    by_cases hlt : k < n
    · have hsk := hs.grown hgr (by intro e; exact hgs (by injection e))
      have hcell : wr.cell? ⟨s, so + k, none⟩ = some (.int .u8 (b (so + k))) := by rw [hsk.cell, rowF_get _ _ _ (by omega)]
      have hbk := hb (so + k) (by omega)
      obtain ⟨v, hv⟩ : ∃ v, v = b (so + k) := ⟨_, rfl⟩
      rw [← hv] at hcell hbk
      have HV : Hid (v = b (so + k)) := hv
      have hc1 : wr.cell? ⟨g, d + 2 * k, none⟩ = some (.int .u8 (encF c d so k b (d + 2 * k))) := by rw [hrk.cell, rowF_get _ _ _ (by omega)]
      have hf1 : wr.frozen? ⟨g, d + 2 * k, none⟩ = false := hrk.frozen _
      clear hv hb hr hs
      obtain ⟨x1, HX1⟩ : ∃ x, Hid (x = hexd (v / 16)) := ⟨_, rfl⟩
      obtain ⟨x2, HX2⟩ : ∃ x, Hid (x = hexd (v % 16)) := ⟨_, rfl⟩
      have k1 : ∀ h, (((ByteArray.mk #[48, 49, 50, 51, 52, 53, 54, 55, 56, 57, 97, 98, 99, 100, 101, 102])[(v / 16).toNat]'h).toNat : Int) = x1 := fun h => by rw [HX1.out]; exact table_at _ (by omega) (by omega) h
      have k2 : ∀ h, (((ByteArray.mk #[48, 49, 50, 51, 52, 53, 54, 55, 56, 57, 97, 98, 99, 100, 101, 102])[(v % 16).toNat]'h).toNat : Int) = x2 := fun h => by rw [HX2.out]; exact table_at _ (by omega) (by omega) h
      go_upto_region 6 with fail
      have hrk' := hrk.set (d + 2 * k) (.int .u8 x1)
      have hgr' := grown_set hgr (d + 2 * k) (.int .u8 x1)
      clear hrk hgr hc1 hf1 hsk hcell
      generalize wr.setCell ⟨g, d + 2 * k, none⟩ (.int .u8 x1) = wm at *
      rw [rowF_set] at hrk'
      have hc1 : wm.cell? ⟨g, d + (2 * k + 1), none⟩ = some (.int .u8 (encF c d so k b (d + (2 * k + 1)))) := by rw [hrk'.cell, rowF_get _ _ _ (by omega), if_neg (by omega)]
      have hf1 : wm.frozen? ⟨g, d + (2 * k + 1), none⟩ = false := hrk'.frozen _
      go_wp2
      go_roundw
      case rel =>
        have hrn := hrk'.set (d + (2 * k + 1)) (.int .u8 x2)
        rw [rowF_set, HX1.out, HX2.out, HV.out, rowF_congr (fun q _ => encF_step c d so k b q), ← HV.out, ← HX2.out] at hrn
        exact ⟨k + 1, by omega, by go_num, by go_num, hrn, grown_set hgr' _ _⟩
      case measure => simp [intOf]; omega
    · go_wp2
      go_ret
      obtain rfl : n = k := by omega
      exact ⟨ret_int (by omega), hrk, hgr⟩

/-- The id as the value of an array of 16 bytes. -/
def idV (b : Nat → Int) : Value := .agg #[.int .u8 (b 0), .int .u8 (b 1), .int .u8 (b 2), .int .u8 (b 3), .int .u8 (b 4), .int .u8 (b 5), .int .u8 (b 6), .int .u8 (b 7), .int .u8 (b 8), .int .u8 (b 9), .int .u8 (b 10), .int .u8 (b 11), .int .u8 (b 12), .int .u8 (b 13), .int .u8 (b 14), .int .u8 (b 15)]

/-- The text of the id b. -/
def textS (b : Nat → Int) : ByteArray := strOfNums ((List.range 36).map (ch b))

theorem gen_world {P : Program} {c : Code} {Q : Exit → Act → World → Prop} {a : Act} {w : World} (R : World → Prop) (h : R w) (k : ∀ W, R W → Code.wp P c Q a W) : Code.wp P c Q a w := k w h

/-- What Format's world holds: the id in its box, the text so far, nothing old turned. -/
def St (w : World) (b c : Nat → Int) (W : World) : Prop := Row W w.heap.size 22 (rowF 16 b) ∧ Row W (w.heap.size + 1) 33 (rowF 36 c) ∧ Below w.heap.size w W

theorem St.drew {w W : World} {b c : Nat → Int} (h : St w b c W) : St w b c W.drew := ⟨h.1, h.2.1, h.2.2.drew⟩

theorem enc_step {w W : World} {b c : Nat → Int} (h : St w b c W) (hb : ∀ i, i < 16 → 0 ≤ b i ∧ b i < 256) (d so n c1 c2 l : Nat) (hd : d + 2 * n ≤ 36) (hso : so + n ≤ 16) (hl : l = 2 * n) :
    Calls Try.prog 11 #[.slice (some ⟨w.heap.size + 1, d, none⟩) l c1, .slice (some ⟨w.heap.size, so, none⟩) n c2] W fun e w' => e = .returned (.int .i64 (2 * n : Nat)) ∧ St w b (encF c d so n b) w' := by
  refine (encode_any (w.heap.size + 1) d l c1 w.heap.size so n c2 36 16 33 22 c b W h.2.1 h.1 (by omega) hd hso (by omega) (by omega) (by omega) hb).mono ?_
  rintro e w' ⟨rfl, hr, hg⟩
  exact ⟨rfl, h.1.grown hg (by intro e; injection e with e; omega), hr, h.2.2.grown hg (by have := h.1.lt; omega) (by intro k e; injection e with e; omega)⟩

set_option maxHeartbeats 400000 in
theorem format_any (b : Nat → Int) (w : World) (hb : ∀ i, i < 16 → 0 ≤ b i ∧ b i < 256) :
    Calls Try.prog 5 #[idV b] w fun e w' => e = .returned (.string (textS b)) ∧ Below w.heap.size w w' := by
  unfold idV
  go_enter Try.func5, Try.ntmps5
  go_upto_region 2 with fail
  refine gen_world (St w b (fun _ => 0)) ⟨(Row.new w 22 (rowF 16 b)).alloc _, Row.new2 w _ 33 (rowF 36 (fun _ => 0)), ((Below.refl _ _).alloc (Nat.le_refl _) _).alloc (by simp) _⟩ ?_
  intro W0 h0
  obtain ⟨c0, hc0⟩ : ∃ c0 : Nat → Int, Hid (c0 = fun _ => 0) := ⟨_, rfl⟩
  rw [← hc0.out] at h0
  obtain ⟨c1, hc1⟩ : ∃ c : Nat → Int, Hid (c = encF c0 0 0 4 b) := ⟨_, rfl⟩
  go_cut [] from 4 to 6 (fun wx => St w b c1 wx)
  case first =>
    go_region_with (go_at_call 11; refine (enc_step h0.drew hb 0 0 4 _ _ _ (by omega) (by omega) (by omega)).mono ?_; rintro e w' ⟨rfl, h1⟩)
    all_goals (go_wp2_with fail; go_meet; rw [hc1.out]; exact h1)
  case rest =>
  have h1 := hcut
  clear hcut h0
  go_upto_region 3 with fail
  obtain ⟨c2, hc2⟩ : ∃ c : Nat → Int, Hid (c = encF c1 9 4 2 b) := ⟨_, rfl⟩
  go_cut [] from 7 to 9 (fun wx => St w b c2 wx)
  case first =>
    go_region_with (go_at_call 11; refine (enc_step h1.drew hb 9 4 2 _ _ _ (by omega) (by omega) (by omega)).mono ?_; rintro e w' ⟨rfl, h1⟩)
    all_goals (go_wp2_with fail; go_meet; rw [hc2.out]; exact h1)
  case rest =>
  have h2 := hcut
  clear hcut h1
  go_upto_region 4 with fail
  obtain ⟨c3, hc3⟩ : ∃ c : Nat → Int, Hid (c = encF c2 14 6 2 b) := ⟨_, rfl⟩
  go_cut [] from 10 to 12 (fun wx => St w b c3 wx)
  case first =>
    go_region_with (go_at_call 11; refine (enc_step h2.drew hb 14 6 2 _ _ _ (by omega) (by omega) (by omega)).mono ?_; rintro e w' ⟨rfl, h1⟩)
    all_goals (go_wp2_with fail; go_meet; rw [hc3.out]; exact h1)
  case rest =>
  have h3 := hcut
  clear hcut h2
  go_upto_region 5 with fail
  obtain ⟨c4, hc4⟩ : ∃ c : Nat → Int, Hid (c = encF c3 19 8 2 b) := ⟨_, rfl⟩
  go_cut [] from 13 to 15 (fun wx => St w b c4 wx)
  case first =>
    go_region_with (go_at_call 11; refine (enc_step h3.drew hb 19 8 2 _ _ _ (by omega) (by omega) (by omega)).mono ?_; rintro e w' ⟨rfl, h1⟩)
    all_goals (go_wp2_with fail; go_meet; rw [hc4.out]; exact h1)
  case rest =>
  have h4 := hcut
  clear hcut h3
  go_upto_region 6 with fail
  obtain ⟨c5, hc5⟩ : ∃ c : Nat → Int, Hid (c = encF c4 24 10 6 b) := ⟨_, rfl⟩
  go_cut [] from 16 to 18 (fun wx => St w b c5 wx)
  case first =>
    go_region_with (go_at_call 11; refine (enc_step h4.drew hb 24 10 6 _ _ _ (by omega) (by omega) (by omega)).mono ?_; rintro e w' ⟨rfl, h1⟩)
    all_goals (go_wp2_with fail; go_meet; rw [hc5.out]; exact h1)
  case rest =>
  have h5 := hcut
  clear hcut h4
  have hcell : ∀ i, i < 36 → wc.cell? ⟨w.heap.size + 1, i, none⟩ = some (.int .u8 (c5 i)) := fun i hi => by rw [h5.2.1.cell, rowF_get _ _ _ hi]
  have d8 := hcell 8 (by omega)
  have d13 := hcell 13 (by omega)
  have d18 := hcell 18 (by omega)
  have d23 := hcell 23 (by omega)
  have f8 := h5.2.1.frozen 8
  have f13 := h5.2.1.frozen 13
  have f18 := h5.2.1.frozen 18
  have f23 := h5.2.1.frozen 23
  clear hcell
  go_upto_region 8 with fail
  refine gen_world (fun W => Row W (w.heap.size + 1) 33 (rowF 36 (ch b)) ∧ Below w.heap.size w W) ⟨?_, ?_⟩ ?_
  · have r := (((h5.2.1.set 8 (.int .u8 45)).set 13 (.int .u8 45)).set 18 (.int .u8 45)).set 23 (.int .u8 45)
    rw [rowF_set, rowF_set, rowF_set, rowF_set, hc5.out, hc4.out, hc3.out, hc2.out, hc1.out, hc0.out, rowF_congr (fun q hq => ch_of b q hq)] at r
    exact r
  · have hh : w.heap.size ≤ w.heap.size + 1 := by omega
    exact (((h5.2.2.setCell hh _).setCell hh _).setCell hh _).setCell hh _
  rintro W ⟨hr, hbW⟩
  have hcv : (convert 35 9 (.slice (some ⟨w.heap.size + 1, 0, none⟩) 36 36)).run Try.prog W = .ok (.string (textS b)) W :=
    run_convert_bytes_arg W 35 5 Try.underlying35 Try.underlying5 (w.heap.size + 1) 0 36 36 _ (by simp) (fun i hi => by rw [Nat.zero_add, hr.cell, rowF_get _ _ _ hi]; simp [hi]) 9 Try.underlying9
  clear d8 d13 d18 d23 f8 f13 f18 f23 h5
  go_wp2
  go_ret
  exact ⟨rfl, hbW⟩
end Go.Proofs.Qxb6630460a
