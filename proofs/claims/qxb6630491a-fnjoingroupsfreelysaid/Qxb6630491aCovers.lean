/-
  THE WALK of FnJoinCoversExactlyTheUnion, seat b6630491a.
-/
import Derived.Test.Qxb6630491aWalk1
namespace Go.Proofs.Qxb6630491a
open Go.ChangeShapes Go.WideShapes Go.ChangeAt Go.RowKit

theorem gen_world {P : Program} {c : Code} {Q : Exit → Act → World → Prop} {a : Act} {w : World} (R : World → Prop) (h : R w) (k : ∀ W, R W → Code.wp P c Q a W) : Code.wp P c Q a w := k w h

/-- A range at the head of block g. -/
def At (W : World) (g : Nat) (x y : ByteArray) : Prop := W.cell? ⟨g, 0, none⟩ = some (.string x) ∧ W.cell? ⟨g, 1, none⟩ = some (.string y)
theorem At.lt {W : World} {g : Nat} {x y : ByteArray} (h : At W g x y) : g < W.heap.size := World.block_lt_of_cell? W _ h.1
theorem At.below {W W' : World} {g : Nat} {x y : ByteArray} (h : At W g x y) (hb : Below W.heap.size W W') : At W' g x y :=
  ⟨(hb.cell (p := ⟨g, 0, none⟩) h.lt).trans h.1, (hb.cell (p := ⟨g, 1, none⟩) h.lt).trans h.2⟩
theorem At.new (W : World) (x y : ByteArray) : At (W.alloc (.cells #[.string x, .string y] 25)) W.heap.size x y := by
  constructor
  · rw [cell_of_row _ _ 0 _ 25 (0, 0) (heap_alloc_new W _)]; rfl
  · rw [cell_of_row _ _ 1 _ 25 (0, 0) (heap_alloc_new W _)]; rfl
theorem At.alloc {W : World} {g : Nat} {x y : ByteArray} (h : At W g x y) (o : Obj) : At (W.alloc o) g x y := h.below ((Below.refl _ _).alloc (Nat.le_refl _) _)

set_option maxHeartbeats 1000000 in
theorem walk3 (rf rt sf st k : ByteArray) (w : World) (h1 : rf.size ≤ maxLen) (h2 : rt.size ≤ maxLen) (h3 : sf.size ≤ maxLen) (h4 : st.size ≤ maxLen) (h5 : k.size ≤ maxLen) :
    Calls Try.prog 3 #[.string rf, .string rt, .string sf, .string st, .string k] w fun e w' => e = .returned (.bool true) ∧ Below w.heap.size w w' := by
  have HB : Hid (∀ W, Calls Try.prog 5 #[.string rf, .string rt, .string sf, .string st, .string k] W fun e w' => ∃ r, e = .returned (.bool r) ∧ w' = W) := fun W => bytes_any _ _ _ _ _ W h1 h2 h3 h4 h5
  unfold maxLen at h1 h2 h3 h4 h5
  go_enter Try.func3, Try.ntmps3
  go_wp2_with fail
  refine (HB.out _).mono ?_
  rintro e w0 ⟨r, rfl, hw⟩
  subst w0
  cases r with
  | false =>
    go_wp2
    go_ret
    exact ⟨rfl, Below.refl _ _⟩
  | true =>
    go_wp2_with fail
    iterate 5
      go_ret
      exact ⟨rfl, Below.refl _ _⟩
    refine (touch_any _ _ _ _ _).mono ?_
    rintro e w0 ⟨rfl, hw⟩
    subst w0
    cases ht : touchB rf rt sf st with
    | false =>
      go_wp2
      go_ret
      exact ⟨rfl, Below.refl _ _⟩
    | true =>
      have C : Hid (keyInB (minR rf sf) (joinTo rt st) k = (keyInB rf rt k || keyInB sf st k)) := covers rf rt sf st k ht
      have M : Hid (minR sf rf = minR rf sf ∧ joinTo st rt = joinTo rt st) := ⟨minR_comm _ _, joinTo_comm _ _⟩
      clear ht
      go_upto_region 17 with fail
      refine gen_world (fun W => At W w.heap.size rf rt ∧ At W (w.heap.size + 1) sf st ∧ Below w.heap.size w W) ⟨(At.new w rf rt).alloc _, by simpa using At.new (w.alloc (.cells #[.string rf, .string rt] 25)) sf st, ((Below.refl _ _).alloc (Nat.le_refl _) _).alloc (by simp) _⟩ ?_
      rintro W ⟨r0, s0, b0⟩
      obtain ⟨r0a, r0b⟩ := r0
      obtain ⟨s0a, s0b⟩ := s0
      obtain ⟨m, hm⟩ : ∃ m, Hid (m = minR rf sf) := ⟨_, rfl⟩
      obtain ⟨x, hx⟩ : ∃ x, Hid (x = joinTo rt st) := ⟨_, rfl⟩
      have J1 : Hid (∀ W, Calls Try.prog 7 #[.agg #[.string rf, .string rt], .agg #[.string sf, .string st]] W fun e w' => e = .returned (.agg #[.string m, .string x]) ∧ Below W.heap.size W w') := fun W => by
        rw [hm.out, hx.out]; exact join_any rf rt sf st W
      have J2 : Hid (∀ W, Calls Try.prog 7 #[.agg #[.string sf, .string st], .agg #[.string rf, .string rt]] W fun e w' => e = .returned (.agg #[.string m, .string x]) ∧ Below W.heap.size W w') := fun W => by
        rw [hm.out, hx.out, ← M.out.1, ← M.out.2]; exact join_any sf st rf rt W
      rw [← hm.out, ← hx.out] at C
      clear hm hx M
      go_wp2_with fail
      refine (J1.out _).mono ?_
      rintro e w1 ⟨rfl, hb1⟩
      have r1 : At w1 w.heap.size rf rt := At.below ⟨r0a, r0b⟩ hb1
      have s1 : At w1 (w.heap.size + 1) sf st := At.below ⟨s0a, s0b⟩ hb1
      have b1 : Below w.heap.size w w1 := b0.trans (hb1.mono b0.size)
      clear r0a r0b s0a s0b b0 hb1
      go_upto_region 18 with fail
      refine gen_world (fun W => At W w.heap.size rf rt ∧ At W (w.heap.size + 1) sf st ∧ At W w1.heap.size m x ∧ Below w.heap.size w W) ⟨r1.alloc _, s1.alloc _, At.new w1 m x, b1.alloc b1.size _⟩ ?_
      rintro W2 ⟨r2, s2, j2, b2⟩
      obtain ⟨r2a, r2b⟩ := r2
      obtain ⟨s2a, s2b⟩ := s2
      clear r1 s1 b1
      go_wp2_with fail
      refine (J2.out _).mono ?_
      rintro e w3 ⟨rfl, hb3⟩
      have r3 : At w3 w.heap.size rf rt := At.below ⟨r2a, r2b⟩ hb3
      have s3 : At w3 (w.heap.size + 1) sf st := At.below ⟨s2a, s2b⟩ hb3
      have j3 : At w3 w1.heap.size m x := j2.below hb3
      have b3 : Below w.heap.size w w3 := b2.trans (hb3.mono b2.size)
      clear r2a r2b s2a s2b b2 hb3 j2
      go_upto_region 19 with fail
      refine gen_world (fun W => At W w.heap.size rf rt ∧ At W (w.heap.size + 1) sf st ∧ At W w1.heap.size m x ∧ At W w3.heap.size m x ∧ Below w.heap.size w W) ⟨r3.alloc _, s3.alloc _, j3.alloc _, At.new w3 m x, b3.alloc b3.size _⟩ ?_
      rintro W4 ⟨r4, s4, j4, i4, b4⟩
      clear r3 s3 j3 b3
      obtain ⟨r4a, r4b⟩ := r4
      obtain ⟨s4a, s4b⟩ := s4
      obtain ⟨j4a, j4b⟩ := j4
      obtain ⟨i4a, i4b⟩ := i4
      go_upto_region 21 with fail
      obtain ⟨p, hp⟩ : ∃ p, Hid (p = keyInB rf rt k) := ⟨_, rfl⟩
      obtain ⟨q, hq⟩ : ∃ q, Hid (q = keyInB sf st k) := ⟨_, rfl⟩
      have KR : Hid (∀ W, Calls Try.prog 8 #[.agg #[.string rf, .string rt], .string k] W fun e w' => e = .returned (.bool p) ∧ Below W.heap.size W w') := fun W => by rw [hp.out]; exact keyIn_any rf rt k W
      have KS : Hid (∀ W, Calls Try.prog 8 #[.agg #[.string sf, .string st], .string k] W fun e w' => e = .returned (.bool q) ∧ Below W.heap.size W w') := fun W => by rw [hq.out]; exact keyIn_any sf st k W
      have KJ : Hid (∀ W, Calls Try.prog 8 #[.agg #[.string m, .string x], .string k] W fun e w' => e = .returned (.bool (p || q)) ∧ Below W.heap.size W w') := fun W => by rw [hp.out, hq.out, ← C.out]; exact keyIn_any m x k W
      clear hp hq C J1 J2
      go_wp2_with fail
      refine (KR.out _).mono ?_
      rintro e w5 ⟨rfl, hb5⟩
      have s5 : At w5 (w.heap.size + 1) sf st := At.below ⟨s4a, s4b⟩ hb5
      have j5 : At w5 w1.heap.size m x := At.below ⟨j4a, j4b⟩ hb5
      have b5 : Below w.heap.size w w5 := b4.trans (hb5.mono b4.size)
      clear r4a r4b s4a s4b j4a j4b i4a i4b b4 hb5
      obtain ⟨j5a, j5b⟩ := j5
      cases p with
      | true =>
        go_wp2_with fail
        refine (KJ.out _).mono ?_
        rintro e w6 ⟨rfl, hb6⟩
        have b6 : Below w.heap.size w w6 := b5.trans (hb6.mono b5.size)
        go_wp2
        go_ret
        exact ⟨rfl, b6⟩
      | false =>
        obtain ⟨s5a, s5b⟩ := s5
        go_wp2_with fail
        refine (KS.out _).mono ?_
        rintro e w6 ⟨rfl, hb6⟩
        have j6 : At w6 w1.heap.size m x := At.below ⟨j5a, j5b⟩ hb6
        have b6 : Below w.heap.size w w6 := b5.trans (hb6.mono b5.size)
        clear s5a s5b j5a j5b b5 hb6
        obtain ⟨j6a, j6b⟩ := j6
        go_wp2_with fail
        refine (KJ.out _).mono ?_
        rintro e w7 ⟨rfl, hb7⟩
        have b7 : Below w.heap.size w w7 := b6.trans (hb7.mono b6.size)
        go_wp2
        go_ret
        cases q <;> exact ⟨rfl, b7⟩
end Go.Proofs.Qxb6630491a
