/-
  No cell of these rows narrows 'for every input' (looked for: loops, veiled, ifaces, maps, wideKeys, modest, calm, conditions, laid).
  DERIVED. THE GIVEN ROWS OF THIS SEAT. 2 by the template 'for every input the law returns true; each argument reads behind the call as it read before'; 0 by the template 'total and deterministic' (their statements: Qxb6613533aTotals.lean).
  GIVEN WITH THE SEED: the statements are not yours to turn. If you find one false, say at which input.
  Laid BY PROGRAM, IN A SANDBOX (cutbox-rows.mjs): the forced cells as the released guide's own fill.sh prints them over the translation 98d108066360f9d6… (all of the seat's roots in one cut). By AI agents, Wed Nov 11 2026. No macro, syntax, notation, axiom, sorry.
-/
import Derived.Test.Qxb6613533aChecked
import GoSem.Claim
import GoSem.ClaimJoined
import GoSem.ClaimMapViews
import Derived.JoinedTies
import Derived.KernelRfl
namespace Go.Proofs.Qxb6613533a
/- THE CELL 'sum', in the pinned program and in every row, IS THE sha256 OF THE DUMP (.gsa) THAT Qxb6613533aProg.lean LOADS. Nothing in Lean hashes anything: it is a label: what it is worth is what the hold of that sum in a sandbox is worth. -/
noncomputable def Try.pinned : Pinned := { name := "qxb6613533a", sum := "98d108066360f9d6268908c2747392f3793f5b809701bed1235d92f3d1257361", checked := Try.checked }
namespace Rows
def none {H : Type} : Left H := { results := [], args := [] }

/-- 'zzlaws_internal_condition_b1.FnSomeListedSplitsAtAnyCut': WHATEVER THE INPUT: true; the input reads as it did. -/
def fnSomeListedSplitsAtAnyCutSpec : ChangeSpec := { name := "fnSomeListedSplitsAtAnyCut", fn := fun _ => fun
  | [d1, d2, d3, d4] => { results := [.lit (.bool true)], args := [d1, d2, d3, d4] }
  | _ => none }
def fnSomeListedSplitsAtAnyCutRow : OpenClaim := { program := "qxb6613533a", sum := "98d108066360f9d6268908c2747392f3793f5b809701bed1235d92f3d1257361", func := "example.com/bowerbird/bowerbird/zzlaws_internal_condition_b1.FnSomeListedSplitsAtAnyCut", spec := "fnSomeListedSplitsAtAnyCut", unfollowed := true, recurses := true, apart := false }
def FnSomeListedSplitsAtAnyCutSaid : Prop := fnSomeListedSplitsAtAnyCutRow.holds Try.pinned (OpenSpec.ofChange fnSomeListedSplitsAtAnyCutSpec)

/-- ITS FALSE NEIGHBOUR: 'it returns false'. Refute it at one input. -/
def fnSomeListedSplitsAtAnyCutWrong : ChangeSpec := { name := "fnSomeListedSplitsAtAnyCut", fn := fun _ => fun
  | [d1, d2, d3, d4] => { results := [.lit (.bool false)], args := [d1, d2, d3, d4] }
  | _ => none }
def FnSomeListedSplitsAtAnyCutWrongFalsely : Prop := fnSomeListedSplitsAtAnyCutRow.holds Try.pinned (OpenSpec.ofChange fnSomeListedSplitsAtAnyCutWrong)

/-- 'zzlaws_internal_condition_b1.FnSomeListedOverASuperset': WHATEVER THE INPUT: true; the input reads as it did. -/
def fnSomeListedOverASupersetSpec : ChangeSpec := { name := "fnSomeListedOverASuperset", fn := fun _ => fun
  | [d1, d2, d3] => { results := [.lit (.bool true)], args := [d1, d2, d3] }
  | _ => none }
def fnSomeListedOverASupersetRow : OpenClaim := { program := "qxb6613533a", sum := "98d108066360f9d6268908c2747392f3793f5b809701bed1235d92f3d1257361", func := "example.com/bowerbird/bowerbird/zzlaws_internal_condition_b1.FnSomeListedOverASuperset", spec := "fnSomeListedOverASuperset", unfollowed := true, recurses := true, apart := false }
def FnSomeListedOverASupersetSaid : Prop := fnSomeListedOverASupersetRow.holds Try.pinned (OpenSpec.ofChange fnSomeListedOverASupersetSpec)

/-- ITS FALSE NEIGHBOUR: 'it returns false'. Refute it at one input. -/
def fnSomeListedOverASupersetWrong : ChangeSpec := { name := "fnSomeListedOverASuperset", fn := fun _ => fun
  | [d1, d2, d3] => { results := [.lit (.bool false)], args := [d1, d2, d3] }
  | _ => none }
def FnSomeListedOverASupersetWrongFalsely : Prop := fnSomeListedOverASupersetRow.holds Try.pinned (OpenSpec.ofChange fnSomeListedOverASupersetWrong)

end Rows
end Go.Proofs.Qxb6613533a
