/-
  No cell of these rows narrows 'for every input' (looked for: loops, veiled, ifaces, maps, wideKeys, modest, calm, conditions, laid).
  DERIVED. THE GIVEN ROWS OF THIS SEAT. 2 by the template 'for every input the law returns true; each argument reads behind the call as it read before'; 0 by the template 'total and deterministic' (their statements: Qxb6630429aTotals.lean).
  GIVEN WITH THE SEED: the statements are not yours to turn. If you find one false, say at which input.
  Laid BY PROGRAM, IN A SANDBOX (cutbox-rows.mjs): the forced cells as the released guide's own fill.sh prints them over the translation 76532e1c59024ffc… (all of the seat's roots in one cut). By AI agents, Wed Nov 11 2026. No macro, syntax, notation, axiom, sorry.
-/
import Derived.Test.Qxb6630429aChecked
import GoSem.Claim
import GoSem.ClaimJoined
import GoSem.ClaimMapViews
import Derived.JoinedTies
import Derived.KernelRfl
namespace Go.Proofs.Qxb6630429a
/- THE CELL 'sum', in the pinned program and in every row, IS THE sha256 OF THE DUMP (.gsa) THAT Qxb6630429aProg.lean LOADS. Nothing in Lean hashes anything: it is a label: what it is worth is what the hold of that sum in a sandbox is worth. -/
noncomputable def Try.pinned : Pinned := { name := "qxb6630429a", sum := "76532e1c59024ffc5973b5b24797b8da45dffbc305e4171d0c5351bd69df2e50", checked := Try.checked }
namespace Rows
def none {H : Type} : Left H := { results := [], args := [] }

/-- 'zzlaws_trust_b1.FnLenComplementAndCut': WHATEVER THE INPUT: true; the input reads as it did. -/
def fnLenComplementAndCutSpec : ChangeSpec := { name := "fnLenComplementAndCut", fn := fun _ => fun
  | [d1, d2] => { results := [.lit (.bool true)], args := [d1, d2] }
  | _ => none }
def fnLenComplementAndCutRow : OpenClaim := { program := "qxb6630429a", sum := "76532e1c59024ffc5973b5b24797b8da45dffbc305e4171d0c5351bd69df2e50", func := "example.com/polytrust/polytrust/zzlaws_trust_b1.FnLenComplementAndCut", spec := "fnLenComplementAndCut", apart := false }
def FnLenComplementAndCutSaid : Prop := fnLenComplementAndCutRow.holds Try.pinned (OpenSpec.ofChange fnLenComplementAndCutSpec)

/-- ITS FALSE NEIGHBOUR: 'it returns false'. Refute it at one input. -/
def fnLenComplementAndCutWrong : ChangeSpec := { name := "fnLenComplementAndCut", fn := fun _ => fun
  | [d1, d2] => { results := [.lit (.bool false)], args := [d1, d2] }
  | _ => none }
def FnLenComplementAndCutWrongFalsely : Prop := fnLenComplementAndCutRow.holds Try.pinned (OpenSpec.ofChange fnLenComplementAndCutWrong)

/-- 'zzlaws_trust_b1.FnLenAddRemoveProcess': WHATEVER THE INPUT: true; the input reads as it did. -/
def fnLenAddRemoveProcessSpec : ChangeSpec := { name := "fnLenAddRemoveProcess", fn := fun _ => fun
  | [d1, d2, d3] => { results := [.lit (.bool true)], args := [d1, d2, d3] }
  | _ => none }
def fnLenAddRemoveProcessRow : OpenClaim := { program := "qxb6630429a", sum := "76532e1c59024ffc5973b5b24797b8da45dffbc305e4171d0c5351bd69df2e50", func := "example.com/polytrust/polytrust/zzlaws_trust_b1.FnLenAddRemoveProcess", spec := "fnLenAddRemoveProcess", apart := false }
def FnLenAddRemoveProcessSaid : Prop := fnLenAddRemoveProcessRow.holds Try.pinned (OpenSpec.ofChange fnLenAddRemoveProcessSpec)

/-- ITS FALSE NEIGHBOUR: 'it returns false'. Refute it at one input. -/
def fnLenAddRemoveProcessWrong : ChangeSpec := { name := "fnLenAddRemoveProcess", fn := fun _ => fun
  | [d1, d2, d3] => { results := [.lit (.bool false)], args := [d1, d2, d3] }
  | _ => none }
def FnLenAddRemoveProcessWrongFalsely : Prop := fnLenAddRemoveProcessRow.holds Try.pinned (OpenSpec.ofChange fnLenAddRemoveProcessWrong)

end Rows
end Go.Proofs.Qxb6630429a
