/-
  No cell of these rows narrows 'for every input' (looked for: loops, veiled, ifaces, maps, wideKeys, modest, calm, conditions, laid).
  DERIVED. THE GIVEN ROWS OF THIS SEAT. 2 by the template 'for every input the law returns true; each argument reads behind the call as it read before'; 0 by the template 'total and deterministic' (their statements: Qxb6630491aTotals.lean).
  GIVEN WITH THE SEED: the statements are not yours to turn. If you find one false, say at which input.
  Laid BY PROGRAM, IN A SANDBOX (cutbox-rows.mjs): the forced cells as the released guide's own fill.sh prints them over the translation a6c5a47c3417d2d7… (all of the seat's roots in one cut). By AI agents, Wed Nov 11 2026. No macro, syntax, notation, axiom, sorry.
-/
import Derived.Test.Qxb6630491aChecked
import GoSem.Claim
import GoSem.ClaimJoined
import GoSem.ClaimMapViews
import Derived.JoinedTies
import Derived.KernelRfl
namespace Go.Proofs.Qxb6630491a
/- THE CELL 'sum', in the pinned program and in every row, IS THE sha256 OF THE DUMP (.gsa) THAT Qxb6630491aProg.lean LOADS. Nothing in Lean hashes anything: it is a label: what it is worth is what the hold of that sum in a sandbox is worth. -/
noncomputable def Try.pinned : Pinned := { name := "qxb6630491a", sum := "a6c5a47c3417d2d71a3d1a673c0c7c0809a7c4023aab890cc2b56addeb4fac62", checked := Try.checked }
namespace Rows
def none {H : Type} : Left H := { results := [], args := [] }

/-- 'zzlaws_internal_keyrange_b1.FnJoinCoversExactlyTheUnion': WHATEVER THE INPUT: true; the input reads as it did. -/
def fnJoinCoversExactlyTheUnionSpec : ChangeSpec := { name := "fnJoinCoversExactlyTheUnion", fn := fun _ => fun
  | [d1, d2, d3, d4, d5] => { results := [.lit (.bool true)], args := [d1, d2, d3, d4, d5] }
  | _ => none }
def fnJoinCoversExactlyTheUnionRow : OpenClaim := { program := "qxb6630491a", sum := "a6c5a47c3417d2d71a3d1a673c0c7c0809a7c4023aab890cc2b56addeb4fac62", func := "example.com/precedence/precedence/zzlaws_internal_keyrange_b1.FnJoinCoversExactlyTheUnion", spec := "fnJoinCoversExactlyTheUnion", apart := false }
def FnJoinCoversExactlyTheUnionSaid : Prop := fnJoinCoversExactlyTheUnionRow.holds Try.pinned (OpenSpec.ofChange fnJoinCoversExactlyTheUnionSpec)

/-- ITS FALSE NEIGHBOUR: 'it returns false'. Refute it at one input. -/
def fnJoinCoversExactlyTheUnionWrong : ChangeSpec := { name := "fnJoinCoversExactlyTheUnion", fn := fun _ => fun
  | [d1, d2, d3, d4, d5] => { results := [.lit (.bool false)], args := [d1, d2, d3, d4, d5] }
  | _ => none }
def FnJoinCoversExactlyTheUnionWrongFalsely : Prop := fnJoinCoversExactlyTheUnionRow.holds Try.pinned (OpenSpec.ofChange fnJoinCoversExactlyTheUnionWrong)

/-- 'zzlaws_internal_keyrange_b1.FnJoinGroupsFreely': WHATEVER THE INPUT: true; the input reads as it did. -/
def fnJoinGroupsFreelySpec : ChangeSpec := { name := "fnJoinGroupsFreely", fn := fun _ => fun
  | [d1, d2, d3, d4, d5, d6, d7] => { results := [.lit (.bool true)], args := [d1, d2, d3, d4, d5, d6, d7] }
  | _ => none }
def fnJoinGroupsFreelyRow : OpenClaim := { program := "qxb6630491a", sum := "a6c5a47c3417d2d71a3d1a673c0c7c0809a7c4023aab890cc2b56addeb4fac62", func := "example.com/precedence/precedence/zzlaws_internal_keyrange_b1.FnJoinGroupsFreely", spec := "fnJoinGroupsFreely", apart := false }
def FnJoinGroupsFreelySaid : Prop := fnJoinGroupsFreelyRow.holds Try.pinned (OpenSpec.ofChange fnJoinGroupsFreelySpec)

/-- ITS FALSE NEIGHBOUR: 'it returns false'. Refute it at one input. -/
def fnJoinGroupsFreelyWrong : ChangeSpec := { name := "fnJoinGroupsFreely", fn := fun _ => fun
  | [d1, d2, d3, d4, d5, d6, d7] => { results := [.lit (.bool false)], args := [d1, d2, d3, d4, d5, d6, d7] }
  | _ => none }
def FnJoinGroupsFreelyWrongFalsely : Prop := fnJoinGroupsFreelyRow.holds Try.pinned (OpenSpec.ofChange fnJoinGroupsFreelyWrong)

end Rows
end Go.Proofs.Qxb6630491a
