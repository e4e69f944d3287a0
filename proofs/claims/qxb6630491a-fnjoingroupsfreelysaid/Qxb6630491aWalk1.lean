/-
  WALKS of seat b6630491a: touchB1, Range.Join, keyInB1, by contract.
-/
import Derived.Test.Qxb6630491aRows
import Derived.Test.Qxb6630491aPlain
import Derived.WalkKit
import Derived.ProofKit
import Derived.OpenShut
import Derived.Deep.Cut
import Derived.WalkSpells
namespace Go.Proofs.Qxb6630491a
open Go.ChangeShapes Go.WideShapes Go.ChangeAt Go.RowKit

theorem run_le (w : World) (a b : ByteArray) : (binOp .leq 9 (.string a) (.string b)).run Try.prog w = .ok (.bool (!lt b a)) w := by
  rw [← le_or]; simp [binOp, Op.stringOp]
theorem run_gt (w : World) (a b : ByteArray) : (binOp .gtr 9 (.string a) (.string b)).run Try.prog w = .ok (.bool (lt b a)) w := by
  rw [show lt b a = !(Op.bytesLess a.toList b.toList || a.toList == b.toList) by rw [le_or]; simp]; simp [binOp, Op.stringOp]

theorem wpList_min {P : Program} {w : World} {ops : Array Oper} {rest : List Oper} {o : Oper} {a : Act} {Q : Exit → Act → World → Prop}
    (hg : o.guard = none) (x y : Operand) (t u : TypeId) (hop : o.op = .call { callee := .builtin .min, args := #[x, y], argTypes := #[t, u] }) (s s' : ByteArray) (hx : a.eval x = .string s) (hy : a.eval y = .string s')
    (hK : wpList P ops Q rest (a.put o.dst (.string (minR s s'))) w) : wpList P ops Q (o :: rest) a w := by
  refine wpList_plain hg fun K hK' => ?_
  have hrun := Lib.run_min_strs (P := P) w #[t, u] o.type s s'
  rw [minS_eq] at hrun
  unfold Oper.wp
  simp [execOp, hop, resolve, invoke, builtin, hx, hy, hrun, Result.andThen]
  exact hK' _ _ hK
theorem wpList_max {P : Program} {w : World} {ops : Array Oper} {rest : List Oper} {o : Oper} {a : Act} {Q : Exit → Act → World → Prop}
    (hg : o.guard = none) (x y : Operand) (t u : TypeId) (hop : o.op = .call { callee := .builtin .max, args := #[x, y], argTypes := #[t, u] }) (s s' : ByteArray) (hx : a.eval x = .string s) (hy : a.eval y = .string s')
    (hK : wpList P ops Q rest (a.put o.dst (.string (maxR s s'))) w) : wpList P ops Q (o :: rest) a w := by
  refine wpList_plain hg fun K hK' => ?_
  have hrun := Lib.run_max_strs (P := P) w #[t, u] o.type s s'
  rw [maxS_eq] at hrun
  unfold Oper.wp
  simp [execOp, hop, resolve, invoke, builtin, hx, hy, hrun, Result.andThen]
  exact hK' _ _ hK

theorem emp_eq {t : ByteArray} (h : emp t = true) : t = ⟨#[]⟩ := by
  apply toList_inj
  rw [Lib.toList_data ⟨#[]⟩]
  simpa [emp] using h
theorem emp_ne {t : ByteArray} (h : emp t = false) : ¬ t.toList = [] := by
  intro e; unfold emp at h; rw [e] at h; cases h

theorem ret_bool {a b : Bool} (h : a = b) : Ending.returned (.bool a) = .returned (.bool b) := by rw [h]

set_option maxHeartbeats 400000 in
theorem keyIn_any (f t k : ByteArray) (w : World) :
    Calls Try.prog 8 #[.agg #[.string f, .string t], .string k] w fun e w' => e = .returned (.bool (keyInB f t k)) ∧ Below w.heap.size w w' := by
  obtain ⟨c, hc⟩ : ∃ c, Hid (c = keyInB f t k) := ⟨_, rfl⟩
  rw [← hc.out]
  have hle := run_le
  cases h1 : lt k f with
  | true =>
    go_enter Try.func8, Try.ntmps8
    go_wp2
    go_ret
    exact ⟨ret_bool (by rw [hc.out]; simp [keyInB, h1]), (Below.refl _ _).alloc (Nat.le_refl _) _⟩
  | false =>
    cases h2 : emp t with
    | true =>
      obtain rfl := emp_eq h2
      go_enter Try.func8, Try.ntmps8
      go_wp2
      go_ret
      exact ⟨ret_bool (by rw [hc.out]; simp [keyInB, h1, h2]), (Below.refl _ _).alloc (Nat.le_refl _) _⟩
    | false =>
      have h3 := emp_ne h2
      have h4 : t.toList.isEmpty = false := h2
      cases h5 : Op.bytesLess k.toList t.toList with
      | true =>
        have h6 : lt k t = true := h5
        go_enter Try.func8, Try.ntmps8
        go_wp2
        go_ret
        exact ⟨ret_bool (by rw [hc.out]; simp [keyInB, h1, h2, h6]), (Below.refl _ _).alloc (Nat.le_refl _) _⟩
      | false =>
        have h6 : lt k t = false := h5
        go_enter Try.func8, Try.ntmps8
        go_wp2
        go_ret
        exact ⟨ret_bool (by rw [hc.out]; simp [keyInB, h1, h2, h6]), (Below.refl _ _).alloc (Nat.le_refl _) _⟩

set_option maxHeartbeats 400000 in
theorem join_any (f t f' t' : ByteArray) (w : World) :
    Calls Try.prog 7 #[.agg #[.string f, .string t], .agg #[.string f', .string t']] w fun e w' => e = .returned (.agg #[.string (minR f f'), .string (joinTo t t')]) ∧ Below w.heap.size w w' := by
  obtain ⟨c, hc⟩ : ∃ c, Hid (c = joinTo t t') := ⟨_, rfl⟩
  rw [← hc.out]
  generalize hm : minR f f' = m
  generalize hx : maxR t t' = x
  cases h1 : emp t with
  | true =>
    obtain rfl := emp_eq h1
    have e : c = ⟨#[]⟩ := by rw [hc.out]; simp [joinTo, h1]; rfl
    subst e
    go_enter Try.func7, Try.ntmps7
    go_wp2_with (first
      | (refine wpList_min rfl (.tmp 7) (.tmp 9) 9 9 rfl f f' rfl rfl ?_)
      | (refine wpList_max rfl (.tmp 12) (.tmp 14) 9 9 rfl ⟨#[]⟩ t' rfl rfl ?_))
    exact bodyPost_ret (v := .agg #[.string m, .string ⟨#[]⟩]) (by simp [results, Try.results7, go_sem]) rfl ⟨rfl, ((((Below.refl _ _).alloc (Nat.le_refl _) _).alloc (by simp) _).alloc (by simp; omega) _).alloc (by simp; omega) _⟩
  | false =>
    have h3 := emp_ne h1
    have h4 : t.toList.isEmpty = false := h1
    cases h2 : emp t' with
    | true =>
      obtain rfl := emp_eq h2
      have e : c = ⟨#[]⟩ := by rw [hc.out]; simp [joinTo, h1, h2]; rfl
      subst e
      go_enter Try.func7, Try.ntmps7
      go_wp2_with (first
        | (refine wpList_min rfl (.tmp 7) (.tmp 9) 9 9 rfl f f' rfl rfl ?_)
        | (refine wpList_max rfl (.tmp 12) (.tmp 14) 9 9 rfl t ⟨#[]⟩ rfl rfl ?_))
      exact bodyPost_ret (v := .agg #[.string m, .string ⟨#[]⟩]) (by simp [results, Try.results7, go_sem]) rfl ⟨rfl, ((((Below.refl _ _).alloc (Nat.le_refl _) _).alloc (by simp) _).alloc (by simp; omega) _).alloc (by simp; omega) _⟩
    | false =>
      have h5 := emp_ne h2
      have h6 : t'.toList.isEmpty = false := h2
      have e : c = x := by rw [hc.out, ← hx]; simp [joinTo, h1, h2]
      subst e
      go_enter Try.func7, Try.ntmps7
      go_wp2_with (first
        | (refine wpList_min rfl (.tmp 7) (.tmp 9) 9 9 rfl f f' rfl rfl ?_)
        | (refine wpList_max rfl (.tmp 12) (.tmp 14) 9 9 rfl t t' rfl rfl ?_))
      exact bodyPost_ret (v := .agg #[.string m, .string c]) (by simp [results, Try.results7, go_sem]) rfl ⟨rfl, ((((Below.refl _ _).alloc (Nat.le_refl _) _).alloc (by simp) _).alloc (by simp; omega) _).alloc (by simp; omega) _⟩

set_option maxHeartbeats 800000 in
theorem touch_any (f t f' t' : ByteArray) (w : World) :
    Calls Try.prog 6 #[.string f, .string t, .string f', .string t'] w fun e w' => e = .returned (.bool (touchB f t f' t')) ∧ w' = w := by
  obtain ⟨c, hc⟩ : ∃ c, Hid (c = touchB f t f' t') := ⟨_, rfl⟩
  rw [← hc.out]
  have hgt := run_gt
  cases h1 : emp t with
  | true =>
    obtain rfl := emp_eq h1
    cases h2 : emp t' with
    | true =>
      obtain rfl := emp_eq h2
      go_enter Try.func6, Try.ntmps6
      go_wp2
      go_ret
      exact ⟨ret_bool (by rw [hc.out]; simp [touchB, h1]), rfl⟩
    | false =>
      have g1 := emp_ne h2
      have g2 : t'.toList.isEmpty = false := h2
      cases h3 : lt t' f with
      | true =>
        go_enter Try.func6, Try.ntmps6
        go_wp2
        go_ret
        exact ⟨ret_bool (by rw [hc.out]; simp [touchB, h2, h3]), rfl⟩
      | false =>
        cases h4 : lt t' f' with
        | true =>
          go_enter Try.func6, Try.ntmps6
          go_wp2
          go_ret
          exact ⟨ret_bool (by rw [hc.out]; simp [touchB, h2, h4]), rfl⟩
        | false =>
          go_enter Try.func6, Try.ntmps6
          go_wp2
          go_ret
          exact ⟨ret_bool (by rw [hc.out]; simp [touchB, h1, h3, h4]), rfl⟩
  | false =>
    have e1 := emp_ne h1
    have e2 : t.toList.isEmpty = false := h1
    cases k1 : lt t f with
    | true =>
      go_enter Try.func6, Try.ntmps6
      go_wp2
      go_ret
      exact ⟨ret_bool (by rw [hc.out]; simp [touchB, h1, k1]), rfl⟩
    | false =>
      cases k2 : lt t f' with
      | true =>
        go_enter Try.func6, Try.ntmps6
        go_wp2
        go_ret
        exact ⟨ret_bool (by rw [hc.out]; simp [touchB, h1, k2]), rfl⟩
      | false =>
        cases h2 : emp t' with
        | true =>
          obtain rfl := emp_eq h2
          go_enter Try.func6, Try.ntmps6
          go_wp2
          go_ret
          exact ⟨ret_bool (by rw [hc.out]; simp [touchB, h2, k1, k2]), rfl⟩
        | false =>
          have g1 := emp_ne h2
          have g2 : t'.toList.isEmpty = false := h2
          cases h3 : lt t' f with
          | true =>
            go_enter Try.func6, Try.ntmps6
            go_wp2
            go_ret
            exact ⟨ret_bool (by rw [hc.out]; simp [touchB, h2, h3]), rfl⟩
          | false =>
            cases h4 : lt t' f' with
            | true =>
              go_enter Try.func6, Try.ntmps6
              go_wp2
              go_ret
              exact ⟨ret_bool (by rw [hc.out]; simp [touchB, h2, h4]), rfl⟩
            | false =>
              go_enter Try.func6, Try.ntmps6
              go_wp2
              go_ret
              exact ⟨ret_bool (by rw [hc.out]; simp [touchB, h3, h4, k1, k2]), rfl⟩

set_option maxHeartbeats 800000 in
theorem bytes_any (a b c d k : ByteArray) (w : World) (ha : a.size ≤ maxLen) (hb : b.size ≤ maxLen) (hc : c.size ≤ maxLen) (hd : d.size ≤ maxLen) (hk : k.size ≤ maxLen) :
    Calls Try.prog 5 #[.string a, .string b, .string c, .string d, .string k] w fun e w' => ∃ r, e = .returned (.bool r) ∧ w' = w := by
  unfold maxLen at ha hb hc hd hk
  go_enter Try.func5, Try.ntmps5
  go_wp2
  all_goals
    go_ret
    exact ⟨_, rfl, rfl⟩

set_option maxHeartbeats 800000 in
theorem bytes7_any (a b c d e f k : ByteArray) (w : World) (ha : a.size ≤ maxLen) (hb : b.size ≤ maxLen) (hc : c.size ≤ maxLen) (hd : d.size ≤ maxLen) (he : e.size ≤ maxLen) (hf : f.size ≤ maxLen) (hk : k.size ≤ maxLen) :
    Calls Try.prog 9 #[.string a, .string b, .string c, .string d, .string e, .string f, .string k] w fun e w' => ∃ r, e = .returned (.bool r) ∧ w' = w := by
  unfold maxLen at ha hb hc hd he hf hk
  go_enter Try.func9, Try.ntmps9
  go_wp2
  all_goals
    go_ret
    exact ⟨_, rfl, rfl⟩
end Go.Proofs.Qxb6630491a
