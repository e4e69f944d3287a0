/-
  WALKS of seat b6630460a: the law's own small helpers, by contract; whole arrays read and written at the head of a block.
-/
import Derived.Test.Qxb6630460aWalk1
import Derived.Laws.Rows
import Derived.Laws.Tables
namespace Go.Proofs.Qxb6630460a
open Go.ChangeShapes Go.WideShapes Go.ChangeAt Go.RowKit

theorem wpList_load_row {P : Program} {w : World} {ops : Array Oper} {rest : List Oper} {o : Oper} {a : Act} {Q : Exit → Act → World → Prop}
    (hg : o.guard = none) (p : Operand) (t : TypeId) (hop : o.op = Op.load t p) (g n : Nat) (e : TypeId) (vs : List Value) (hp : a.eval p = .pointer (some ⟨g, 0, none⟩)) (hr : Row w g t vs)
    (hu : P.underlying t = some (.array n e)) (hi : (P.info? t).map (·.size) = some vs.length)
    (hK : wpList P ops Q rest (a.put o.dst (.agg vs.toArray)) w) : wpList P ops Q (o :: rest) a w := by
  refine wpList_plain hg fun K hK' => ?_
  have hl := run_loadVar_row (P := P) w g t t vs.toArray (0, 0) _ hr hu rfl (by simpa using hi)
  have hrun : (Instr.loadAt t (.pointer (some ⟨g, 0, none⟩))).run P w = .ok (.agg vs.toArray) w := by
    simp only [Instr.loadAt, Instr.sureAddr, Sem.run_bind, Sem.run_pure, Result.andThen]
    exact hl
  unfold Oper.wp
  simp [execOp, hop, hp, hrun, Result.andThen]
  exact hK' _ _ hK

set_option maxHeartbeats 400000 in
theorem place_any (i : Nat) (w : World) (hi : i < 16) : Calls Try.prog 9 #[.int .i64 i] w fun e w' => e = .returned (.int .i64 (fdp i)) ∧ w' = w := by
  by_cases h4 : 4 ≤ i <;> by_cases h6 : 6 ≤ i <;> by_cases h8 : 8 ≤ i <;> by_cases h10 : 10 ≤ i
  all_goals first
    | (exfalso; omega)
    | (go_enter Try.func9, Try.ntmps9
       go_wp2
       go_ret
       exact ⟨ret_int (by unfold fdp; (repeat' split) <;> omega), rfl⟩)

set_option maxHeartbeats 400000 in
theorem digit_any (n : Int) (w : World) (h0 : 0 ≤ n) (h1 : n < 16) : Calls Try.prog 10 #[.int .u8 n] w fun e w' => e = .returned (.int .u8 (hexd n)) ∧ w' = w := by
  by_cases h : n < 10
  all_goals
    go_enter Try.func10, Try.ntmps10
    go_wp2
    go_ret
    exact ⟨ret_int (by unfold hexd; (repeat' split) <;> omega), rfl⟩
end Go.Proofs.Qxb6630460a
