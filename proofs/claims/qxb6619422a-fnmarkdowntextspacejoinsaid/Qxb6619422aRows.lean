/-
  No cell of these rows narrows 'for every input' (looked for: loops, veiled, ifaces, maps, wideKeys, modest, calm, conditions, laid).
  DERIVED. THE GIVEN ROWS OF THIS SEAT. 2 by the template 'for every input the law returns true; each argument reads behind the call as it read before'; 0 by the template 'total and deterministic' (their statements: Qxb6619422aTotals.lean).
  GIVEN WITH THE SEED: the statements are not yours to turn. If you find one false, say at which input.
  Laid BY PROGRAM, IN A SANDBOX (cutbox-rows.mjs): the forced cells as the released guide's own fill.sh prints them over the translation 63c04c8ab3d097dd… (all of the seat's roots in one cut). By AI agents, Wed Nov 11 2026. No macro, syntax, notation, axiom, sorry.
-/
import Derived.Test.Qxb6619422aChecked
import GoSem.Claim
import GoSem.ClaimJoined
import GoSem.ClaimMapViews
import Derived.JoinedTies
import Derived.KernelRfl
namespace Go.Proofs.Qxb6619422a
/- THE CELL 'sum', in the pinned program and in every row, IS THE sha256 OF THE DUMP (.gsa) THAT Qxb6619422aProg.lean LOADS. Nothing in Lean hashes anything: it is a label: what it is worth is what the hold of that sum in a sandbox is worth. -/
noncomputable def Try.pinned : Pinned := { name := "qxb6619422a", sum := "63c04c8ab3d097ddc3ef2eac69e63a902b22350d032268006ac40f03c0d1b71c", checked := Try.checked }
namespace Rows
def none {H : Type} : Left H := { results := [], args := [] }

/-- 'zzlaws_pkg_report_b1.FnMarkdownTextEscapesExactlyMarkup': WHATEVER THE INPUT: true; the input reads as it did. -/
def fnMarkdownTextEscapesExactlyMarkupSpec : ChangeSpec := { name := "fnMarkdownTextEscapesExactlyMarkup", fn := fun _ => fun
  | [d] => { results := [.lit (.bool true)], args := [d] }
  | _ => none }
def fnMarkdownTextEscapesExactlyMarkupRow : OpenClaim := { program := "qxb6619422a", sum := "63c04c8ab3d097ddc3ef2eac69e63a902b22350d032268006ac40f03c0d1b71c", func := "example.com/vestline/vestline/zzlaws_pkg_report_b1.FnMarkdownTextEscapesExactlyMarkup", spec := "fnMarkdownTextEscapesExactlyMarkup", apart := false }
def FnMarkdownTextEscapesExactlyMarkupSaid : Prop := fnMarkdownTextEscapesExactlyMarkupRow.holds Try.pinned (OpenSpec.ofChange fnMarkdownTextEscapesExactlyMarkupSpec)

/-- ITS FALSE NEIGHBOUR: 'it returns false'. Refute it at one input. -/
def fnMarkdownTextEscapesExactlyMarkupWrong : ChangeSpec := { name := "fnMarkdownTextEscapesExactlyMarkup", fn := fun _ => fun
  | [d] => { results := [.lit (.bool false)], args := [d] }
  | _ => none }
def FnMarkdownTextEscapesExactlyMarkupWrongFalsely : Prop := fnMarkdownTextEscapesExactlyMarkupRow.holds Try.pinned (OpenSpec.ofChange fnMarkdownTextEscapesExactlyMarkupWrong)

/-- 'zzlaws_pkg_report_b1.FnMarkdownTextSpaceJoin': WHATEVER THE INPUT: true; the input reads as it did. -/
def fnMarkdownTextSpaceJoinSpec : ChangeSpec := { name := "fnMarkdownTextSpaceJoin", fn := fun _ => fun
  | [d1, d2] => { results := [.lit (.bool true)], args := [d1, d2] }
  | _ => none }
def fnMarkdownTextSpaceJoinRow : OpenClaim := { program := "qxb6619422a", sum := "63c04c8ab3d097ddc3ef2eac69e63a902b22350d032268006ac40f03c0d1b71c", func := "example.com/vestline/vestline/zzlaws_pkg_report_b1.FnMarkdownTextSpaceJoin", spec := "fnMarkdownTextSpaceJoin", apart := false }
def FnMarkdownTextSpaceJoinSaid : Prop := fnMarkdownTextSpaceJoinRow.holds Try.pinned (OpenSpec.ofChange fnMarkdownTextSpaceJoinSpec)

/-- ITS FALSE NEIGHBOUR: 'it returns false'. Refute it at one input. -/
def fnMarkdownTextSpaceJoinWrong : ChangeSpec := { name := "fnMarkdownTextSpaceJoin", fn := fun _ => fun
  | [d1, d2] => { results := [.lit (.bool false)], args := [d1, d2] }
  | _ => none }
def FnMarkdownTextSpaceJoinWrongFalsely : Prop := fnMarkdownTextSpaceJoinRow.holds Try.pinned (OpenSpec.ofChange fnMarkdownTextSpaceJoinWrong)

end Rows
end Go.Proofs.Qxb6619422a
