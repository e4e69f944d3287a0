/-
  No cell of these rows narrows 'for every input' (looked for: loops, veiled, ifaces, maps, wideKeys, modest, calm, conditions, laid).
  DERIVED. THE GIVEN ROWS OF THIS SEAT. 2 by the template 'for every input the law returns true; each argument reads behind the call as it read before'; 0 by the template 'total and deterministic' (their statements: Qxb6630460aTotals.lean).
  GIVEN WITH THE SEED: the statements are not yours to turn. If you find one false, say at which input.
  Laid BY PROGRAM, IN A SANDBOX (cutbox-rows.mjs): the forced cells as the released guide's own fill.sh prints them over the translation 6f69dd1cbcb840f6… (all of the seat's roots in one cut). By AI agents, Wed Nov 11 2026. No macro, syntax, notation, axiom, sorry.
-/
import Derived.Test.Qxb6630460aChecked
import GoSem.Claim
import GoSem.ClaimJoined
import GoSem.ClaimMapViews
import Derived.JoinedTies
import Derived.KernelRfl
namespace Go.Proofs.Qxb6630460a
/- THE CELL 'sum', in the pinned program and in every row, IS THE sha256 OF THE DUMP (.gsa) THAT Qxb6630460aProg.lean LOADS. Nothing in Lean hashes anything: it is a label: what it is worth is what the hold of that sum in a sandbox is worth. -/
noncomputable def Try.pinned : Pinned := { name := "qxb6630460a", sum := "6f69dd1cbcb840f6e65352663fc22ff6be9d5101c976132acd54dc8aebd4b94d", checked := Try.checked }
namespace Rows
def none {H : Type} : Left H := { results := [], args := [] }

/-- 'zzlaws_internal_uuid_b1.FnFormatParsesBackAndKeepsOrder': WHATEVER THE INPUT: true; the input reads as it did. -/
def fnFormatParsesBackAndKeepsOrderSpec : ChangeSpec := { name := "fnFormatParsesBackAndKeepsOrder", fn := fun _ => fun
  | [d1, d2] => { results := [.lit (.bool true)], args := [d1, d2] }
  | _ => none }
def fnFormatParsesBackAndKeepsOrderRow : OpenClaim := { program := "qxb6630460a", sum := "6f69dd1cbcb840f6e65352663fc22ff6be9d5101c976132acd54dc8aebd4b94d", func := "example.com/keyloom/keyloom/zzlaws_internal_uuid_b1.FnFormatParsesBackAndKeepsOrder", spec := "fnFormatParsesBackAndKeepsOrder", apart := false }
def FnFormatParsesBackAndKeepsOrderSaid : Prop := fnFormatParsesBackAndKeepsOrderRow.holds Try.pinned (OpenSpec.ofChange fnFormatParsesBackAndKeepsOrderSpec)

/-- ITS FALSE NEIGHBOUR: 'it returns false'. Refute it at one input. -/
def fnFormatParsesBackAndKeepsOrderWrong : ChangeSpec := { name := "fnFormatParsesBackAndKeepsOrder", fn := fun _ => fun
  | [d1, d2] => { results := [.lit (.bool false)], args := [d1, d2] }
  | _ => none }
def FnFormatParsesBackAndKeepsOrderWrongFalsely : Prop := fnFormatParsesBackAndKeepsOrderRow.holds Try.pinned (OpenSpec.ofChange fnFormatParsesBackAndKeepsOrderWrong)

/-- 'zzlaws_internal_uuid_b1.FnFormatSettingOneByteRewritesOnlyItsTwoDigits': WHATEVER THE INPUT: true; the input reads as it did. -/
def fnFormatSettingOneByteRewritesOnlyItsTwoDigitsSpec : ChangeSpec := { name := "fnFormatSettingOneByteRewritesOnlyItsTwoDigits", fn := fun _ => fun
  | [d1, d2, d3] => { results := [.lit (.bool true)], args := [d1, d2, d3] }
  | _ => none }
def fnFormatSettingOneByteRewritesOnlyItsTwoDigitsRow : OpenClaim := { program := "qxb6630460a", sum := "6f69dd1cbcb840f6e65352663fc22ff6be9d5101c976132acd54dc8aebd4b94d", func := "example.com/keyloom/keyloom/zzlaws_internal_uuid_b1.FnFormatSettingOneByteRewritesOnlyItsTwoDigits", spec := "fnFormatSettingOneByteRewritesOnlyItsTwoDigits", apart := false }
def FnFormatSettingOneByteRewritesOnlyItsTwoDigitsSaid : Prop := fnFormatSettingOneByteRewritesOnlyItsTwoDigitsRow.holds Try.pinned (OpenSpec.ofChange fnFormatSettingOneByteRewritesOnlyItsTwoDigitsSpec)

/-- ITS FALSE NEIGHBOUR: 'it returns false'. Refute it at one input. -/
def fnFormatSettingOneByteRewritesOnlyItsTwoDigitsWrong : ChangeSpec := { name := "fnFormatSettingOneByteRewritesOnlyItsTwoDigits", fn := fun _ => fun
  | [d1, d2, d3] => { results := [.lit (.bool false)], args := [d1, d2, d3] }
  | _ => none }
def FnFormatSettingOneByteRewritesOnlyItsTwoDigitsWrongFalsely : Prop := fnFormatSettingOneByteRewritesOnlyItsTwoDigitsRow.holds Try.pinned (OpenSpec.ofChange fnFormatSettingOneByteRewritesOnlyItsTwoDigitsWrong)

end Rows
end Go.Proofs.Qxb6630460a
