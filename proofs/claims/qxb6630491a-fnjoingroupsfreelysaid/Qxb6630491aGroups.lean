/-
  THE WALK of FnJoinGroupsFreely, seat b6630491a.
-/
import Derived.Test.Qxb6630491aCovers
import Derived.Deep.CutRange
import Derived.Deep.RegionHeld3
namespace Go.Proofs.Qxb6630491a
open Go.ChangeShapes Go.WideShapes Go.ChangeAt Go.RowKit

theorem size_alloc1 (W : World) (o : Obj) : (W.alloc o).heap.size = W.heap.size + 1 := by simp
theorem At.stored {W : World} {g : Nat} {u v m x : ByteArray} (h : At W g u v) : At ((W.setCell ⟨g, 0, none⟩ (.string m)).setCell ⟨g, 1, none⟩ (.string x)) g m x := by
  have h1 : (W.setCell ⟨g, 0, none⟩ (.string m)).cell? ⟨g, 1, none⟩ = some (.string v) := (World.cell?_setCell_other W ⟨g, 0, none⟩ ⟨g, 1, none⟩ _ (by simp)).trans h.2
  exact ⟨(World.cell?_setCell_other _ ⟨g, 1, none⟩ ⟨g, 0, none⟩ _ (by simp)).trans (World.cell?_setCell_same _ _ _ h.1), World.cell?_setCell_same _ _ _ h1⟩
theorem bcell3 {W w1 : World} (hb : Below W.heap.size W w1) : (∀ b o, b < W.heap.size → w1.cell? ⟨b, o, none⟩ = W.cell? ⟨b, o, none⟩) ∧ (∀ b o, b < W.heap.size → w1.frozen? ⟨b, o, none⟩ = W.frozen? ⟨b, o, none⟩) ∧ (∀ b, b < W.heap.size → b < w1.heap.size) :=
  ⟨fun b o h => hb.cell (p := ⟨b, o, none⟩) h, fun b o h => hb.frozen (p := ⟨b, o, none⟩) h, fun _ h => Nat.lt_of_lt_of_le h hb.size⟩

/-- What stays through the two statements that join: four ranges in blocks below n0; nothing old turned. -/
abbrev S4 (w : World) (n0 g0 g1 g2 g3 : Nat) (rf rt sf st tf tt uf ut : ByteArray) (W : World) : Prop :=
  W.cell? ⟨g0, 0, none⟩ = some (.string rf) ∧ W.cell? ⟨g0, 1, none⟩ = some (.string rt) ∧ W.cell? ⟨g1, 0, none⟩ = some (.string sf) ∧ W.cell? ⟨g1, 1, none⟩ = some (.string st) ∧
  W.cell? ⟨g2, 0, none⟩ = some (.string tf) ∧ W.cell? ⟨g2, 1, none⟩ = some (.string tt) ∧ W.cell? ⟨g3, 0, none⟩ = some (.string uf) ∧ W.cell? ⟨g3, 1, none⟩ = some (.string ut) ∧ n0 ≤ W.heap.size ∧ Below w.heap.size w W

section
variable {w : World} {n0 g0 g1 g2 g3 : Nat} {rf rt sf st tf tt uf ut : ByteArray} {W W' : World}
theorem S4.turn (h : S4 w n0 g0 g1 g2 g3 rf rt sf st tf tt uf ut W) (hc : ∀ b o, b < n0 → W'.cell? ⟨b, o, none⟩ = W.cell? ⟨b, o, none⟩) (hs : n0 ≤ W'.heap.size) (hb : Below w.heap.size w W')
    (hg : Hid (g0 < n0 ∧ g1 < n0 ∧ g2 < n0 ∧ g3 < n0 ∧ w.heap.size ≤ n0)) : S4 w n0 g0 g1 g2 g3 rf rt sf st tf tt uf ut W' := by
  obtain ⟨a1, a2, a3, a4, a5, a6, a7, a8, _, _⟩ := h
  obtain ⟨k0, k1, k2, k3, _⟩ := hg.out
  exact ⟨(hc _ _ k0).trans a1, (hc _ _ k0).trans a2, (hc _ _ k1).trans a3, (hc _ _ k1).trans a4, (hc _ _ k2).trans a5, (hc _ _ k2).trans a6, (hc _ _ k3).trans a7, (hc _ _ k3).trans a8, hs, hb⟩
theorem S4.size (h : S4 w n0 g0 g1 g2 g3 rf rt sf st tf tt uf ut W) : n0 ≤ W.heap.size := h.2.2.2.2.2.2.2.2.1
theorem S4.bel (h : S4 w n0 g0 g1 g2 g3 rf rt sf st tf tt uf ut W) : Below w.heap.size w W := h.2.2.2.2.2.2.2.2.2
theorem S4.drew (h : S4 w n0 g0 g1 g2 g3 rf rt sf st tf tt uf ut W) (hg : Hid (g0 < n0 ∧ g1 < n0 ∧ g2 < n0 ∧ g3 < n0 ∧ w.heap.size ≤ n0)) : S4 w n0 g0 g1 g2 g3 rf rt sf st tf tt uf ut W.drew :=
  h.turn (fun _ _ _ => rfl) h.size h.bel.drew hg
theorem S4.step (h : S4 w n0 g0 g1 g2 g3 rf rt sf st tf tt uf ut W) (hb : Below W.heap.size W W') (hg : Hid (g0 < n0 ∧ g1 < n0 ∧ g2 < n0 ∧ g3 < n0 ∧ w.heap.size ≤ n0)) : S4 w n0 g0 g1 g2 g3 rf rt sf st tf tt uf ut W' :=
  h.turn (fun b o hlt => hb.cell (p := ⟨b, o, none⟩) (Nat.lt_of_lt_of_le hlt h.size)) (Nat.le_trans h.size hb.size) (h.bel.trans (hb.mono h.bel.size)) hg
theorem S4.size_step (h : S4 w n0 g0 g1 g2 g3 rf rt sf st tf tt uf ut W) (hb : Below W.heap.size W W') : n0 ≤ W'.heap.size := Nat.le_trans h.size hb.size
theorem S4.alloc (h : S4 w n0 g0 g1 g2 g3 rf rt sf st tf tt uf ut W) (o : Obj) (hg : Hid (g0 < n0 ∧ g1 < n0 ∧ g2 < n0 ∧ g3 < n0 ∧ w.heap.size ≤ n0)) : S4 w n0 g0 g1 g2 g3 rf rt sf st tf tt uf ut (W.alloc o) :=
  h.step ((Below.refl _ _).alloc (Nat.le_refl _) _) hg
theorem S4.realloc {o : Obj} (h : S4 w n0 g0 g1 g2 g3 rf rt sf st tf tt uf ut (W.alloc o)) (hn : n0 ≤ W.heap.size) (o' : Obj) (hg : Hid (g0 < n0 ∧ g1 < n0 ∧ g2 < n0 ∧ g3 < n0 ∧ w.heap.size ≤ n0)) :
    S4 w n0 g0 g1 g2 g3 rf rt sf st tf tt uf ut (W.alloc o') := by
  have c1 : ∀ o b i, b < n0 → (W.alloc o).cell? ⟨b, i, none⟩ = W.cell? ⟨b, i, none⟩ := fun o b i hlt => ((Below.refl W.heap.size W).alloc (Nat.le_refl _) o).cell (p := ⟨b, i, none⟩) (Nat.lt_of_lt_of_le hlt hn)
  refine h.turn (fun b i hlt => (c1 o' b i hlt).trans (c1 o b i hlt).symm) (by simp; omega) ?_ hg
  have hw := hg.out.2.2.2.2
  have e : Below w.heap.size w W := ⟨h.bel.os, h.bel.tape, h.bel.output, by omega, fun k hk => (Below.heap_alloc W o k (by omega)).symm.trans (h.bel.block k hk)⟩
  exact e.alloc (by omega) _
theorem S4.store {g : Nat} (h : S4 w n0 g0 g1 g2 g3 rf rt sf st tf tt uf ut W) (hn : n0 ≤ g) (a b : Value) (hg : Hid (g0 < n0 ∧ g1 < n0 ∧ g2 < n0 ∧ g3 < n0 ∧ w.heap.size ≤ n0)) :
    S4 w n0 g0 g1 g2 g3 rf rt sf st tf tt uf ut ((W.setCell ⟨g, 0, none⟩ a).setCell ⟨g, 1, none⟩ b) := by
  have hw := hg.out.2.2.2.2
  have hB : w.heap.size ≤ g := by omega
  refine h.turn (fun b' o hlt => ?_) (by simpa [World.setCell] using h.size) ((h.bel.setCell hB _).setCell hB _) hg
  have hne : b' ≠ g := by omega
  exact (World.cell?_of_block (Below.heap_setCell _ _ _ _ hne)).trans (World.cell?_of_block (Below.heap_setCell _ _ _ _ hne))
end

set_option maxHeartbeats 1000000 in
theorem walk4 (rf rt sf st tf tt k : ByteArray) (w : World) (h1 : rf.size ≤ maxLen) (h2 : rt.size ≤ maxLen) (h3 : sf.size ≤ maxLen) (h4 : st.size ≤ maxLen) (h5 : tf.size ≤ maxLen) (h6 : tt.size ≤ maxLen) (h7 : k.size ≤ maxLen) :
    Calls Try.prog 4 #[.string rf, .string rt, .string sf, .string st, .string tf, .string tt, .string k] w fun e w' => e = .returned (.bool true) ∧ Below w.heap.size w w' := by
  have HB : Hid (∀ W, Calls Try.prog 9 #[.string rf, .string rt, .string sf, .string st, .string tf, .string tt, .string k] W fun e w' => ∃ r, e = .returned (.bool r) ∧ w' = W) := fun W => bytes7_any _ _ _ _ _ _ _ W h1 h2 h3 h4 h5 h6 h7
  unfold maxLen at h1 h2 h3 h4 h5 h6 h7
  go_enter Try.func4, Try.ntmps4
  go_wp2_with fail
  refine (HB.out _).mono ?_
  rintro e w0 ⟨r, rfl, hw⟩
  subst w0
  cases r with
  | false =>
    go_wp2
    go_ret
    exact ⟨rfl, Below.refl _ _⟩
  | true =>
    go_wp2_with fail
    iterate 7
      go_ret
      exact ⟨rfl, Below.refl _ _⟩
    refine (touch_any _ _ _ _ _).mono ?_
    rintro e w0 ⟨rfl, hw⟩
    subst w0
    cases ht1 : touchB rf rt sf st with
    | false =>
      go_wp2
      go_ret
      exact ⟨rfl, Below.refl _ _⟩
    | true =>
    go_wp2_with fail
    refine (touch_any _ _ _ _ _).mono ?_
    rintro e w0 ⟨rfl, hw⟩
    subst w0
    cases ht2 : touchB sf st tf tt with
    | false =>
      go_wp2
      go_ret
      exact ⟨rfl, Below.refl _ _⟩
    | true =>
    go_wp2_with fail
    refine (touch_any _ _ _ _ _).mono ?_
    rintro e w0 ⟨rfl, hw⟩
    subst w0
    cases ht3 : touchB rf rt tf tt with
    | false =>
      go_wp2
      go_ret
      exact ⟨rfl, Below.refl _ _⟩
    | true =>
    have C : Hid (keyInB (minR (minR rf sf) tf) (joinTo (joinTo rt st) tt) k = (keyInB rf rt k || keyInB sf st k || keyInB tf tt k)) := covers3 rf rt sf st tf tt k ht1 ht2 ht3
    clear ht1 ht2 ht3 h1 h2 h3 h4 h5 h6 h7 HB
    obtain ⟨m1, hm1⟩ : ∃ m, Hid (m = minR rf sf) := ⟨_, rfl⟩
    obtain ⟨x1, hx1⟩ : ∃ x, Hid (x = joinTo rt st) := ⟨_, rfl⟩
    obtain ⟨m2, hm2⟩ : ∃ m, Hid (m = minR sf tf) := ⟨_, rfl⟩
    obtain ⟨x2, hx2⟩ : ∃ x, Hid (x = joinTo st tt) := ⟨_, rfl⟩
    obtain ⟨m, hm⟩ : ∃ m, Hid (m = minR (minR rf sf) tf) := ⟨_, rfl⟩
    obtain ⟨x, hx⟩ : ∃ x, Hid (x = joinTo (joinTo rt st) tt) := ⟨_, rfl⟩
    have J1 : Hid (∀ W, Calls Try.prog 7 #[.agg #[.string rf, .string rt], .agg #[.string sf, .string st]] W fun e w' => e = .returned (.agg #[.string m1, .string x1]) ∧ Below W.heap.size W w') := fun W => by
      rw [hm1.out, hx1.out]; exact join_any rf rt sf st W
    have J2 : Hid (∀ W, Calls Try.prog 7 #[.agg #[.string m1, .string x1], .agg #[.string tf, .string tt]] W fun e w' => e = .returned (.agg #[.string m, .string x]) ∧ Below W.heap.size W w') := fun W => by
      rw [hm.out, hx.out, hm1.out, hx1.out]; exact join_any _ _ tf tt W
    have J3 : Hid (∀ W, Calls Try.prog 7 #[.agg #[.string sf, .string st], .agg #[.string tf, .string tt]] W fun e w' => e = .returned (.agg #[.string m2, .string x2]) ∧ Below W.heap.size W w') := fun W => by
      rw [hm2.out, hx2.out]; exact join_any sf st tf tt W
    have J4 : Hid (∀ W, Calls Try.prog 7 #[.agg #[.string rf, .string rt], .agg #[.string m2, .string x2]] W fun e w' => e = .returned (.agg #[.string m, .string x]) ∧ Below W.heap.size W w') := fun W => by
      rw [hm.out, hx.out, hm2.out, hx2.out, minR_assoc, joinTo_assoc]; exact join_any rf rt _ _ W
    rw [← hm.out, ← hx.out] at C
    clear hm1 hx1 hm2 hx2 hm hx
    go_upto_region 26 with fail
    obtain ⟨n0, hn0⟩ : ∃ n, Hid (n = w.heap.size + 1 + 1 + 1) := ⟨_, rfl⟩
    have HG : Hid (w.heap.size < n0 ∧ w.heap.size + 1 < n0 ∧ w.heap.size + 1 + 1 < n0 ∧ w.heap.size < n0 ∧ w.heap.size ≤ n0) := by have := hn0.out; exact ⟨by omega, by omega, by omega, by omega, by omega⟩
    refine gen_world (S4 w n0 w.heap.size (w.heap.size + 1) (w.heap.size + 1 + 1) w.heap.size rf rt sf st tf tt rf rt) ?_ ?_
    · have a1 := ((At.new w rf rt).alloc (.cells #[.string sf, .string st] 25)).alloc (.cells #[.string tf, .string tt] 25)
      have a2 := (At.new (w.alloc (.cells #[.string rf, .string rt] 25)) sf st).alloc (.cells #[.string tf, .string tt] 25)
      have a3 := At.new ((w.alloc (.cells #[.string rf, .string rt] 25)).alloc (.cells #[.string sf, .string st] 25)) tf tt
      simp only [size_alloc1] at a2 a3
      exact ⟨a1.1, a1.2, a2.1, a2.2, a3.1, a3.2, a1.1, a1.2, by rw [hn0.out]; simp, (((Below.refl _ _).alloc (Nat.le_refl _) _).alloc (by simp) _).alloc (by simp; omega) _⟩
    intro W HS
    clear hn0
    generalize w.heap.size + 1 + 1 = g2 at *
    generalize w.heap.size + 1 = g1 at *
    have hn0 := S4.size HS
    go_cut [18] from 78 to 82 (fun s18 wx => ∃ g, s18 = .pointer (some ⟨g, 0, none⟩) ∧ At wx g m x ∧ n0 ≤ g ∧ S4 w n0 w.heap.size g1 g2 w.heap.size rf rt sf st tf tt rf rt wx)
    case first =>
      go_region_held3 (fun W => S4 w n0 w.heap.size g1 g2 w.heap.size rf rt sf st tf tt rf rt W)
        (first | exact S4.drew (by assumption) HG | exact S4.step (by assumption) (by assumption) HG | exact S4.alloc (by assumption) _ HG | exact S4.realloc (by assumption) (by assumption) _ HG | exact S4.store (by assumption) (by assumption) _ _ HG)
        (first
        | (go_at_call_of 7 (Value.string rf); refine (J1.out _).mono ?_; rintro e w' ⟨rfl, hb⟩; obtain ⟨hc, hf, hz⟩ := bcell3 hb; have hn := S4.size_step (by assumption) hb)
        | (go_at_call_of 7 (Value.string m1); refine (J2.out _).mono ?_; rintro e w' ⟨rfl, hb⟩; obtain ⟨hc, hf, hz⟩ := bcell3 hb; have hn := S4.size_step (by assumption) hb))
      all_goals
        go_wp2_with fail
        go_meet
        refine ⟨_, rfl, ?_, by assumption, by assumption⟩
        first
          | exact At.new _ _ _
          | exact At.stored ((At.new _ _ _).below (by assumption))
          | exact At.stored (((At.new W.drew _ _).below (by assumption)).below (by assumption))
    case rest =>
    obtain ⟨gl, rfl, hl, hgl, hS⟩ := hcut
    go_upto_region 27 with fail
    obtain ⟨n1, HG1, hn1⟩ : ∃ n1, Hid (w.heap.size < n1 ∧ g1 < n1 ∧ g2 < n1 ∧ gl < n1 ∧ w.heap.size ≤ n1) ∧ n1 ≤ wc.heap.size :=
      ⟨wc.heap.size, ⟨Nat.lt_of_lt_of_le HG.out.1 hS.size, Nat.lt_of_lt_of_le HG.out.2.1 hS.size, Nat.lt_of_lt_of_le HG.out.2.2.1 hS.size, hl.lt, hS.bel.size⟩, Nat.le_refl _⟩
    have HS1 : S4 w n1 w.heap.size g1 g2 gl rf rt sf st tf tt m x wc := ⟨hS.1, hS.2.1, hS.2.2.1, hS.2.2.2.1, hS.2.2.2.2.1, hS.2.2.2.2.2.1, hl.1, hl.2, hn1, hS.bel⟩
    clear hS hl hgl HG HS hn0
    obtain ⟨W1, hW1⟩ : ∃ W, W = wc := ⟨_, rfl⟩
    subst hW1
    go_cut [19] from 83 to 87 (fun s19 wx => ∃ g, s19 = .pointer (some ⟨g, 0, none⟩) ∧ At wx g m x ∧ n1 ≤ g ∧ S4 w n1 w.heap.size g1 g2 gl rf rt sf st tf tt m x wx)
    case first =>
      go_region_held3 (fun W => S4 w n1 w.heap.size g1 g2 gl rf rt sf st tf tt m x W)
        (first | exact S4.drew (by assumption) HG1 | exact S4.step (by assumption) (by assumption) HG1 | exact S4.alloc (by assumption) _ HG1 | exact S4.realloc (by assumption) (by assumption) _ HG1 | exact S4.store (by assumption) (by assumption) _ _ HG1)
        (first
        | (go_at_call_of 7 (Value.string sf); refine (J3.out _).mono ?_; rintro e w' ⟨rfl, hb⟩; obtain ⟨hc, hf, hz⟩ := bcell3 hb; have hn := S4.size_step (by assumption) hb)
        | (go_at_call_of 7 (Value.string m2); refine (J4.out _).mono ?_; rintro e w' ⟨rfl, hb⟩; obtain ⟨hc, hf, hz⟩ := bcell3 hb; have hn := S4.size_step (by assumption) hb))
      all_goals
        go_wp2_with fail
        go_meet
        refine ⟨_, rfl, ?_, by assumption, by assumption⟩
        first
          | exact At.new _ _ _
          | exact At.stored ((At.new _ _ _).below (by assumption))
          | exact At.stored (((At.new W1.drew _ _).below (by assumption)).below (by assumption))
    case rest =>
    obtain ⟨gr, rfl, hr, hgr, hS⟩ := hcut
    obtain ⟨W2, hW2⟩ : ∃ W, W = wc := ⟨_, rfl⟩
    subst hW2
    obtain ⟨r1, r2, s1, s2, t1, t2, l1, l2, _, b2⟩ := hS
    obtain ⟨q1, q2⟩ := hr
    obtain ⟨p, hp⟩ : ∃ p, Hid (p = keyInB rf rt k) := ⟨_, rfl⟩
    obtain ⟨q, hq⟩ : ∃ q, Hid (q = keyInB sf st k) := ⟨_, rfl⟩
    obtain ⟨o, ho⟩ : ∃ o, Hid (o = keyInB tf tt k) := ⟨_, rfl⟩
    have KR : Hid (∀ W, Calls Try.prog 8 #[.agg #[.string rf, .string rt], .string k] W fun e w' => e = .returned (.bool p) ∧ Below W.heap.size W w') := fun W => by rw [hp.out]; exact keyIn_any rf rt k W
    have KS : Hid (∀ W, Calls Try.prog 8 #[.agg #[.string sf, .string st], .string k] W fun e w' => e = .returned (.bool q) ∧ Below W.heap.size W w') := fun W => by rw [hq.out]; exact keyIn_any sf st k W
    have KT : Hid (∀ W, Calls Try.prog 8 #[.agg #[.string tf, .string tt], .string k] W fun e w' => e = .returned (.bool o) ∧ Below W.heap.size W w') := fun W => by rw [ho.out]; exact keyIn_any tf tt k W
    have KJ : Hid (∀ W, Calls Try.prog 8 #[.agg #[.string m, .string x], .string k] W fun e w' => e = .returned (.bool (p || q || o)) ∧ Below W.heap.size W w') := fun W => by rw [hp.out, hq.out, ho.out, ← C.out]; exact keyIn_any m x k W
    clear hp hq ho C J1 J2 J3 J4 hn1 HS1 HG1 hgr
    go_upto_region 30 with fail
    go_wp2_with fail
    refine (KR.out _).mono ?_
    rintro e w5 ⟨rfl, hb5⟩
    have s5 : At w5 g1 sf st := At.below ⟨s1, s2⟩ hb5
    have t5 : At w5 g2 tf tt := At.below ⟨t1, t2⟩ hb5
    have l5 : At w5 gl m x := At.below ⟨l1, l2⟩ hb5
    have b5 : Below w.heap.size w w5 := b2.trans (hb5.mono b2.size)
    clear r1 r2 s1 s2 t1 t2 l1 l2 q1 q2 b2 hb5
    cases p with
    | true =>
      obtain ⟨l5a, l5b⟩ := l5
      go_wp2_with fail
      refine (KJ.out _).mono ?_
      rintro e w6 ⟨rfl, hb6⟩
      have b6 : Below w.heap.size w w6 := b5.trans (hb6.mono b5.size)
      go_wp2
      go_ret
      exact ⟨rfl, b6⟩
    | false =>
      obtain ⟨s5a, s5b⟩ := s5
      go_wp2_with fail
      refine (KS.out _).mono ?_
      rintro e w6 ⟨rfl, hb6⟩
      have t6 : At w6 g2 tf tt := t5.below hb6
      have l6 : At w6 gl m x := l5.below hb6
      have b6 : Below w.heap.size w w6 := b5.trans (hb6.mono b5.size)
      clear s5a s5b t5 l5 b5 hb6
      cases q with
      | true =>
        obtain ⟨l6a, l6b⟩ := l6
        go_wp2_with fail
        refine (KJ.out _).mono ?_
        rintro e w7 ⟨rfl, hb7⟩
        have b7 : Below w.heap.size w w7 := b6.trans (hb7.mono b6.size)
        go_wp2
        go_ret
        exact ⟨rfl, b7⟩
      | false =>
        obtain ⟨t6a, t6b⟩ := t6
        go_wp2_with fail
        refine (KT.out _).mono ?_
        rintro e w7 ⟨rfl, hb7⟩
        have l7 : At w7 gl m x := l6.below hb7
        have b7 : Below w.heap.size w w7 := b6.trans (hb7.mono b6.size)
        clear t6a t6b l6 b6 hb7
        obtain ⟨l7a, l7b⟩ := l7
        go_wp2_with fail
        refine (KJ.out _).mono ?_
        rintro e w8 ⟨rfl, hb8⟩
        have b8 : Below w.heap.size w w8 := b7.trans (hb8.mono b7.size)
        go_wp2
        go_ret
        cases o <;> exact ⟨rfl, b8⟩
end Go.Proofs.Qxb6630491a
