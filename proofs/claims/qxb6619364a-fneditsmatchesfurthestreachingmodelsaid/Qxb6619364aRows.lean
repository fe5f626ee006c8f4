/-
  No cell of these rows narrows 'for every input' (looked for: loops, veiled, ifaces, maps, wideKeys, modest, calm, conditions, laid).
  DERIVED. THE GIVEN ROWS OF THIS SEAT. 3 by the template 'for every input the law returns true; each argument reads behind the call as it read before'; 0 by the template 'total and deterministic' (their statements: Qxb6619364aTotals.lean).
  GIVEN WITH THE SEED: the statements are not yours to turn. If you find one false, say at which input.
  Laid BY PROGRAM, IN A SANDBOX (cutbox-rows.mjs): the forced cells as the released guide's own fill.sh prints them over the translation 2e141ab576af3e3c… (all of the seat's roots in one cut). By AI agents, Wed Nov 11 2026. No macro, syntax, notation, axiom, sorry.
-/
import Derived.Test.Qxb6619364aChecked
import GoSem.Claim
import GoSem.ClaimJoined
import GoSem.ClaimMapViews
import Derived.JoinedTies
import Derived.KernelRfl
namespace Go.Proofs.Qxb6619364a
/- THE CELL 'sum', in the pinned program and in every row, IS THE sha256 OF THE DUMP (.gsa) THAT Qxb6619364aProg.lean LOADS. Nothing in Lean hashes anything: it is a label: what it is worth is what the hold of that sum in a sandbox is worth. -/
noncomputable def Try.pinned : Pinned := { name := "qxb6619364a", sum := "2e141ab576af3e3c2063594c10d949b74db0bf75005062eefab998d4e6d95006", checked := Try.checked }
namespace Rows
def none {H : Type} : Left H := { results := [], args := [] }

/-- 'zzlaws_internal_config_b1.FnEditsMatchesFurthestReachingModel': WHATEVER THE INPUT: true; the input reads as it did. -/
def fnEditsMatchesFurthestReachingModelSpec : ChangeSpec := { name := "fnEditsMatchesFurthestReachingModel", fn := fun _ => fun
  | [d1, d2] => { results := [.lit (.bool true)], args := [d1, d2] }
  | _ => none }
def fnEditsMatchesFurthestReachingModelRow : OpenClaim := { program := "qxb6619364a", sum := "2e141ab576af3e3c2063594c10d949b74db0bf75005062eefab998d4e6d95006", func := "example.com/stallwatch/stallwatch/zzlaws_internal_config_b1.FnEditsMatchesFurthestReachingModel", spec := "fnEditsMatchesFurthestReachingModel", apart := false }
def FnEditsMatchesFurthestReachingModelSaid : Prop := fnEditsMatchesFurthestReachingModelRow.holds Try.pinned (OpenSpec.ofChange fnEditsMatchesFurthestReachingModelSpec)

/-- ITS FALSE NEIGHBOUR: 'it returns false'. Refute it at one input. -/
def fnEditsMatchesFurthestReachingModelWrong : ChangeSpec := { name := "fnEditsMatchesFurthestReachingModel", fn := fun _ => fun
  | [d1, d2] => { results := [.lit (.bool false)], args := [d1, d2] }
  | _ => none }
def FnEditsMatchesFurthestReachingModelWrongFalsely : Prop := fnEditsMatchesFurthestReachingModelRow.holds Try.pinned (OpenSpec.ofChange fnEditsMatchesFurthestReachingModelWrong)

/-- 'zzlaws_internal_config_b1.FnEditsIgnoresCommonAffixes': WHATEVER THE INPUT: true; the input reads as it did. -/
def fnEditsIgnoresCommonAffixesSpec : ChangeSpec := { name := "fnEditsIgnoresCommonAffixes", fn := fun _ => fun
  | [d1, d2, d3, d4] => { results := [.lit (.bool true)], args := [d1, d2, d3, d4] }
  | _ => none }
def fnEditsIgnoresCommonAffixesRow : OpenClaim := { program := "qxb6619364a", sum := "2e141ab576af3e3c2063594c10d949b74db0bf75005062eefab998d4e6d95006", func := "example.com/stallwatch/stallwatch/zzlaws_internal_config_b1.FnEditsIgnoresCommonAffixes", spec := "fnEditsIgnoresCommonAffixes", apart := false }
def FnEditsIgnoresCommonAffixesSaid : Prop := fnEditsIgnoresCommonAffixesRow.holds Try.pinned (OpenSpec.ofChange fnEditsIgnoresCommonAffixesSpec)

/-- ITS FALSE NEIGHBOUR: 'it returns false'. Refute it at one input. -/
def fnEditsIgnoresCommonAffixesWrong : ChangeSpec := { name := "fnEditsIgnoresCommonAffixes", fn := fun _ => fun
  | [d1, d2, d3, d4] => { results := [.lit (.bool false)], args := [d1, d2, d3, d4] }
  | _ => none }
def FnEditsIgnoresCommonAffixesWrongFalsely : Prop := fnEditsIgnoresCommonAffixesRow.holds Try.pinned (OpenSpec.ofChange fnEditsIgnoresCommonAffixesWrong)

/-- 'zzlaws_internal_config_b1.FnCheckStringSplitsAtAnyCut': WHATEVER THE INPUT: true; the input reads as it did. -/
def fnCheckStringSplitsAtAnyCutSpec : ChangeSpec := { name := "fnCheckStringSplitsAtAnyCut", fn := fun _ => fun
  | [d1, d2, d3, d4] => { results := [.lit (.bool true)], args := [d1, d2, d3, d4] }
  | _ => none }
def fnCheckStringSplitsAtAnyCutRow : OpenClaim := { program := "qxb6619364a", sum := "2e141ab576af3e3c2063594c10d949b74db0bf75005062eefab998d4e6d95006", func := "example.com/stallwatch/stallwatch/zzlaws_internal_config_b1.FnCheckStringSplitsAtAnyCut", spec := "fnCheckStringSplitsAtAnyCut", inPlace := ["internal/abi.NoEscape", "internal/bytealg.MakeNoZero"], apart := false }
def FnCheckStringSplitsAtAnyCutSaid : Prop := fnCheckStringSplitsAtAnyCutRow.holds Try.pinned (OpenSpec.ofChange fnCheckStringSplitsAtAnyCutSpec)

/-- ITS FALSE NEIGHBOUR: 'it returns false'. Refute it at one input. -/
def fnCheckStringSplitsAtAnyCutWrong : ChangeSpec := { name := "fnCheckStringSplitsAtAnyCut", fn := fun _ => fun
  | [d1, d2, d3, d4] => { results := [.lit (.bool false)], args := [d1, d2, d3, d4] }
  | _ => none }
def FnCheckStringSplitsAtAnyCutWrongFalsely : Prop := fnCheckStringSplitsAtAnyCutRow.holds Try.pinned (OpenSpec.ofChange fnCheckStringSplitsAtAnyCutWrong)

end Rows
end Go.Proofs.Qxb6619364a
