/-
  No cell of these rows narrows 'for every input' (looked for: loops, veiled, ifaces, maps, wideKeys, modest, calm, conditions, laid).
  DERIVED. THE GIVEN ROWS OF THIS SEAT. 1 by the template 'for every input the law returns true; each argument reads behind the call as it read before'; 0 by the template 'total and deterministic' (their statements: Qxb6619302aTotals.lean).
  GIVEN WITH THE SEED: the statements are not yours to turn. If you find one false, say at which input.
  Laid BY PROGRAM, IN A SANDBOX (cutbox-rows.mjs): the forced cells as the released guide's own fill.sh prints them over the translation c12c139f1112f2d8… (all of the seat's roots in one cut). By AI agents, Wed Nov 11 2026. No macro, syntax, notation, axiom, sorry.
-/
import Derived.Test.Qxb6619302aChecked
import GoSem.Claim
import GoSem.ClaimJoined
import GoSem.ClaimMapViews
import Derived.JoinedTies
import Derived.KernelRfl
namespace Go.Proofs.Qxb6619302a
/- THE CELL 'sum', in the pinned program and in every row, IS THE sha256 OF THE DUMP (.gsa) THAT Qxb6619302aProg.lean LOADS. Nothing in Lean hashes anything: it is a label: what it is worth is what the hold of that sum in a sandbox is worth. -/
noncomputable def Try.pinned : Pinned := { name := "qxb6619302a", sum := "c12c139f1112f2d823a49dbc1c870295c857a162b72ad321932ba96cd4260dad", checked := Try.checked }
namespace Rows
def none {H : Type} : Left H := { results := [], args := [] }

/-- 'zzlaws_root_b1.FnClaimedReaderArrivalCommutes': WHATEVER THE INPUT: true; the input reads as it did. -/
def fnClaimedReaderArrivalCommutesSpec : ChangeSpec := { name := "fnClaimedReaderArrivalCommutes", fn := fun _ => fun
  | [d] => { results := [.lit (.bool true)], args := [d] }
  | _ => none }
def fnClaimedReaderArrivalCommutesRow : OpenClaim := { program := "qxb6619302a", sum := "c12c139f1112f2d823a49dbc1c870295c857a162b72ad321932ba96cd4260dad", func := "example.com/latchwork/latchwork/zzlaws_root_b1.FnClaimedReaderArrivalCommutes", spec := "fnClaimedReaderArrivalCommutes", apart := false }
def FnClaimedReaderArrivalCommutesSaid : Prop := fnClaimedReaderArrivalCommutesRow.holds Try.pinned (OpenSpec.ofChange fnClaimedReaderArrivalCommutesSpec)

/-- ITS FALSE NEIGHBOUR: 'it returns false'. Refute it at one input. -/
def fnClaimedReaderArrivalCommutesWrong : ChangeSpec := { name := "fnClaimedReaderArrivalCommutes", fn := fun _ => fun
  | [d] => { results := [.lit (.bool false)], args := [d] }
  | _ => none }
def FnClaimedReaderArrivalCommutesWrongFalsely : Prop := fnClaimedReaderArrivalCommutesRow.holds Try.pinned (OpenSpec.ofChange fnClaimedReaderArrivalCommutesWrong)

end Rows
end Go.Proofs.Qxb6619302a
