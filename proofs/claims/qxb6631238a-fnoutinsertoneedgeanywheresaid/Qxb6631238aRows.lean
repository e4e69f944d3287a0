/-
  No cell of these rows narrows 'for every input' (looked for: loops, veiled, ifaces, maps, wideKeys, modest, calm, conditions, laid).
  DERIVED. THE GIVEN ROWS OF THIS SEAT. 2 by the template 'for every input the law returns true; each argument reads behind the call as it read before'; 0 by the template 'total and deterministic' (their statements: Qxb6631238aTotals.lean).
  GIVEN WITH THE SEED: the statements are not yours to turn. If you find one false, say at which input.
  Laid BY PROGRAM, IN A SANDBOX (cutbox-rows.mjs): the forced cells as the released guide's own fill.sh prints them over the translation b75d1757fa4c99ed… (all of the seat's roots in one cut). By AI agents, Wed Nov 11 2026. No macro, syntax, notation, axiom, sorry.
-/
import Derived.Test.Qxb6631238aChecked
import GoSem.Claim
import GoSem.ClaimJoined
import GoSem.ClaimMapViews
import Derived.JoinedTies
import Derived.KernelRfl
namespace Go.Proofs.Qxb6631238a
/- THE CELL 'sum', in the pinned program and in every row, IS THE sha256 OF THE DUMP (.gsa) THAT Qxb6631238aProg.lean LOADS. Nothing in Lean hashes anything: it is a label: what it is worth is what the hold of that sum in a sandbox is worth. -/
noncomputable def Try.pinned : Pinned := { name := "qxb6631238a", sum := "b75d1757fa4c99ed637f4ef99878b3ae8fbe0f7da831f3859624a27af292bb55", checked := Try.checked }
namespace Rows
def none {H : Type} : Left H := { results := [], args := [] }

/-- 'zzlaws_pkg_graph_b1.FnOutSplitsAtAnyCut': WHATEVER THE INPUT: true; the input reads as it did. -/
def fnOutSplitsAtAnyCutSpec : ChangeSpec := { name := "fnOutSplitsAtAnyCut", fn := fun _ => fun
  | [d1, d2, d3, d4, d5, d6, d7, d8, d9, d10] => { results := [.lit (.bool true)], args := [d1, d2, d3, d4, d5, d6, d7, d8, d9, d10] }
  | _ => none }
def fnOutSplitsAtAnyCutRow : OpenClaim := { program := "qxb6631238a", sum := "b75d1757fa4c99ed637f4ef99878b3ae8fbe0f7da831f3859624a27af292bb55", func := "example.com/amber-loom/amber-loom/zzlaws_pkg_graph_b1.FnOutSplitsAtAnyCut", spec := "fnOutSplitsAtAnyCut", apart := false }
def FnOutSplitsAtAnyCutSaid : Prop := fnOutSplitsAtAnyCutRow.holds Try.pinned (OpenSpec.ofChange fnOutSplitsAtAnyCutSpec)

/-- ITS FALSE NEIGHBOUR: 'it returns false'. Refute it at one input. -/
def fnOutSplitsAtAnyCutWrong : ChangeSpec := { name := "fnOutSplitsAtAnyCut", fn := fun _ => fun
  | [d1, d2, d3, d4, d5, d6, d7, d8, d9, d10] => { results := [.lit (.bool false)], args := [d1, d2, d3, d4, d5, d6, d7, d8, d9, d10] }
  | _ => none }
def FnOutSplitsAtAnyCutWrongFalsely : Prop := fnOutSplitsAtAnyCutRow.holds Try.pinned (OpenSpec.ofChange fnOutSplitsAtAnyCutWrong)

/-- 'zzlaws_pkg_graph_b1.FnOutInsertOneEdgeAnywhere': WHATEVER THE INPUT: true; the input reads as it did. -/
def fnOutInsertOneEdgeAnywhereSpec : ChangeSpec := { name := "fnOutInsertOneEdgeAnywhere", fn := fun _ => fun
  | [d1, d2, d3, d4, d5, d6, d7, d8, d9, d10, d11] => { results := [.lit (.bool true)], args := [d1, d2, d3, d4, d5, d6, d7, d8, d9, d10, d11] }
  | _ => none }
def fnOutInsertOneEdgeAnywhereRow : OpenClaim := { program := "qxb6631238a", sum := "b75d1757fa4c99ed637f4ef99878b3ae8fbe0f7da831f3859624a27af292bb55", func := "example.com/amber-loom/amber-loom/zzlaws_pkg_graph_b1.FnOutInsertOneEdgeAnywhere", spec := "fnOutInsertOneEdgeAnywhere", apart := false }
def FnOutInsertOneEdgeAnywhereSaid : Prop := fnOutInsertOneEdgeAnywhereRow.holds Try.pinned (OpenSpec.ofChange fnOutInsertOneEdgeAnywhereSpec)

/-- ITS FALSE NEIGHBOUR: 'it returns false'. Refute it at one input. -/
def fnOutInsertOneEdgeAnywhereWrong : ChangeSpec := { name := "fnOutInsertOneEdgeAnywhere", fn := fun _ => fun
  | [d1, d2, d3, d4, d5, d6, d7, d8, d9, d10, d11] => { results := [.lit (.bool false)], args := [d1, d2, d3, d4, d5, d6, d7, d8, d9, d10, d11] }
  | _ => none }
def FnOutInsertOneEdgeAnywhereWrongFalsely : Prop := fnOutInsertOneEdgeAnywhereRow.holds Try.pinned (OpenSpec.ofChange fnOutInsertOneEdgeAnywhereWrong)

end Rows
end Go.Proofs.Qxb6631238a
