/-
  No cell of these rows narrows 'for every input' (looked for: loops, veiled, ifaces, maps, wideKeys, modest, calm, conditions, laid).
  DERIVED. THE GIVEN ROWS OF THIS SEAT. 2 by the template 'for every input the law returns true; each argument reads behind the call as it read before'; 0 by the template 'total and deterministic' (their statements: Qxb6619299aTotals.lean).
  GIVEN WITH THE SEED: the statements are not yours to turn. If you find one false, say at which input.
  Laid BY PROGRAM, IN A SANDBOX (cutbox-rows.mjs): the forced cells as the released guide's own fill.sh prints them over the translation e92f41b208f744f2… (all of the seat's roots in one cut). By AI agents, Wed Nov 11 2026. No macro, syntax, notation, axiom, sorry.
-/
import Derived.Test.Qxb6619299aChecked
import GoSem.Claim
import GoSem.ClaimJoined
import GoSem.ClaimMapViews
import Derived.JoinedTies
import Derived.KernelRfl
namespace Go.Proofs.Qxb6619299a
/- THE CELL 'sum', in the pinned program and in every row, IS THE sha256 OF THE DUMP (.gsa) THAT Qxb6619299aProg.lean LOADS. Nothing in Lean hashes anything: it is a label: what it is worth is what the hold of that sum in a sandbox is worth. -/
noncomputable def Try.pinned : Pinned := { name := "qxb6619299a", sum := "e92f41b208f744f20a9f75d49c71026372063927ce21ce224db32e8b3f43c841", checked := Try.checked }
namespace Rows
def none {H : Type} : Left H := { results := [], args := [] }

/-- 'zzlaws_pkg_policy_b1.FnRangeTestIsPlainestExactTest': WHATEVER THE INPUT: true; the input reads as it did. -/
def fnRangeTestIsPlainestExactTestSpec : ChangeSpec := { name := "fnRangeTestIsPlainestExactTest", fn := fun _ => fun
  | [d1, d2] => { results := [.lit (.bool true)], args := [d1, d2] }
  | _ => none }
def fnRangeTestIsPlainestExactTestRow : OpenClaim := { program := "qxb6619299a", sum := "e92f41b208f744f20a9f75d49c71026372063927ce21ce224db32e8b3f43c841", func := "example.com/sluicegate/sluicegate/zzlaws_pkg_policy_b1.FnRangeTestIsPlainestExactTest", spec := "fnRangeTestIsPlainestExactTest", apart := false }
def FnRangeTestIsPlainestExactTestSaid : Prop := fnRangeTestIsPlainestExactTestRow.holds Try.pinned (OpenSpec.ofChange fnRangeTestIsPlainestExactTestSpec)

/-- ITS FALSE NEIGHBOUR: 'it returns false'. Refute it at one input. -/
def fnRangeTestIsPlainestExactTestWrong : ChangeSpec := { name := "fnRangeTestIsPlainestExactTest", fn := fun _ => fun
  | [d1, d2] => { results := [.lit (.bool false)], args := [d1, d2] }
  | _ => none }
def FnRangeTestIsPlainestExactTestWrongFalsely : Prop := fnRangeTestIsPlainestExactTestRow.holds Try.pinned (OpenSpec.ofChange fnRangeTestIsPlainestExactTestWrong)

/-- 'zzlaws_pkg_policy_b1.FnRangeTestSplitsAtAnyCut': WHATEVER THE INPUT: true; the input reads as it did. -/
def fnRangeTestSplitsAtAnyCutSpec : ChangeSpec := { name := "fnRangeTestSplitsAtAnyCut", fn := fun _ => fun
  | [d1, d2, d3] => { results := [.lit (.bool true)], args := [d1, d2, d3] }
  | _ => none }
def fnRangeTestSplitsAtAnyCutRow : OpenClaim := { program := "qxb6619299a", sum := "e92f41b208f744f20a9f75d49c71026372063927ce21ce224db32e8b3f43c841", func := "example.com/sluicegate/sluicegate/zzlaws_pkg_policy_b1.FnRangeTestSplitsAtAnyCut", spec := "fnRangeTestSplitsAtAnyCut", apart := false }
def FnRangeTestSplitsAtAnyCutSaid : Prop := fnRangeTestSplitsAtAnyCutRow.holds Try.pinned (OpenSpec.ofChange fnRangeTestSplitsAtAnyCutSpec)

/-- ITS FALSE NEIGHBOUR: 'it returns false'. Refute it at one input. -/
def fnRangeTestSplitsAtAnyCutWrong : ChangeSpec := { name := "fnRangeTestSplitsAtAnyCut", fn := fun _ => fun
  | [d1, d2, d3] => { results := [.lit (.bool false)], args := [d1, d2, d3] }
  | _ => none }
def FnRangeTestSplitsAtAnyCutWrongFalsely : Prop := fnRangeTestSplitsAtAnyCutRow.holds Try.pinned (OpenSpec.ofChange fnRangeTestSplitsAtAnyCutWrong)

end Rows
end Go.Proofs.Qxb6619299a
