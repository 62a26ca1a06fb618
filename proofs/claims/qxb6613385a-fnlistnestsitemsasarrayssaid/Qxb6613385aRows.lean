/-
  No cell of these rows narrows 'for every input' (looked for: loops, veiled, ifaces, maps, wideKeys, modest, calm, conditions, laid).
  DERIVED. THE GIVEN ROWS OF THIS SEAT. 3 by the template 'for every input the law returns true; each argument reads behind the call as it read before'; 0 by the template 'total and deterministic' (their statements: Qxb6613385aTotals.lean).
  GIVEN WITH THE SEED: the statements are not yours to turn. If you find one false, say at which input.
  Laid BY PROGRAM, IN A SANDBOX (cutbox-rows.mjs): the forced cells as the released guide's own fill.sh prints them over the translation 6e801576d1f430ef… (all of the seat's roots in one cut). By AI agents, Wed Nov 11 2026. No macro, syntax, notation, axiom, sorry.
-/
import Derived.Test.Qxb6613385aChecked
import GoSem.Claim
import GoSem.ClaimJoined
import GoSem.ClaimMapViews
import Derived.JoinedTies
import Derived.KernelRfl
namespace Go.Proofs.Qxb6613385a
/- THE CELL 'sum', in the pinned program and in every row, IS THE sha256 OF THE DUMP (.gsa) THAT Qxb6613385aProg.lean LOADS. Nothing in Lean hashes anything: it is a label: what it is worth is what the hold of that sum in a sandbox is worth. -/
noncomputable def Try.pinned : Pinned := { name := "qxb6613385a", sum := "6e801576d1f430ef06e3abc9aa1ea1408c59c287dddf948a3ea77f0b18b2ebb8", checked := Try.checked }
namespace Rows
def none {H : Type} : Left H := { results := [], args := [] }

/-- 'zzlaws_pkg_manifest_b1.FnImageNameShiftsWithName': WHATEVER THE INPUT: true; the input reads as it did. -/
def fnImageNameShiftsWithNameSpec : ChangeSpec := { name := "fnImageNameShiftsWithName", fn := fun _ => fun
  | [d1, d2, d3, d4] => { results := [.lit (.bool true)], args := [d1, d2, d3, d4] }
  | _ => none }
def fnImageNameShiftsWithNameRow : OpenClaim := { program := "qxb6613385a", sum := "6e801576d1f430ef06e3abc9aa1ea1408c59c287dddf948a3ea77f0b18b2ebb8", func := "example.com/workcrate/workcrate/zzlaws_pkg_manifest_b1.FnImageNameShiftsWithName", spec := "fnImageNameShiftsWithName", apart := false }
def FnImageNameShiftsWithNameSaid : Prop := fnImageNameShiftsWithNameRow.holds Try.pinned (OpenSpec.ofChange fnImageNameShiftsWithNameSpec)

/-- ITS FALSE NEIGHBOUR: 'it returns false'. Refute it at one input. -/
def fnImageNameShiftsWithNameWrong : ChangeSpec := { name := "fnImageNameShiftsWithName", fn := fun _ => fun
  | [d1, d2, d3, d4] => { results := [.lit (.bool false)], args := [d1, d2, d3, d4] }
  | _ => none }
def FnImageNameShiftsWithNameWrongFalsely : Prop := fnImageNameShiftsWithNameRow.holds Try.pinned (OpenSpec.ofChange fnImageNameShiftsWithNameWrong)

/-- 'zzlaws_pkg_manifest_b1.FnImageNameSeparatesPackageVersions': WHATEVER THE INPUT: true; the input reads as it did. -/
def fnImageNameSeparatesPackageVersionsSpec : ChangeSpec := { name := "fnImageNameSeparatesPackageVersions", fn := fun _ => fun
  | [d1, d2, d3, d4] => { results := [.lit (.bool true)], args := [d1, d2, d3, d4] }
  | _ => none }
def fnImageNameSeparatesPackageVersionsRow : OpenClaim := { program := "qxb6613385a", sum := "6e801576d1f430ef06e3abc9aa1ea1408c59c287dddf948a3ea77f0b18b2ebb8", func := "example.com/workcrate/workcrate/zzlaws_pkg_manifest_b1.FnImageNameSeparatesPackageVersions", spec := "fnImageNameSeparatesPackageVersions", apart := false }
def FnImageNameSeparatesPackageVersionsSaid : Prop := fnImageNameSeparatesPackageVersionsRow.holds Try.pinned (OpenSpec.ofChange fnImageNameSeparatesPackageVersionsSpec)

/-- ITS FALSE NEIGHBOUR: 'it returns false'. Refute it at one input. -/
def fnImageNameSeparatesPackageVersionsWrong : ChangeSpec := { name := "fnImageNameSeparatesPackageVersions", fn := fun _ => fun
  | [d1, d2, d3, d4] => { results := [.lit (.bool false)], args := [d1, d2, d3, d4] }
  | _ => none }
def FnImageNameSeparatesPackageVersionsWrongFalsely : Prop := fnImageNameSeparatesPackageVersionsRow.holds Try.pinned (OpenSpec.ofChange fnImageNameSeparatesPackageVersionsWrong)

/-- 'zzlaws_pkg_manifest_b1.FnListNestsItemsAsArrays': WHATEVER THE INPUT: true; the input reads as it did. -/
def fnListNestsItemsAsArraysSpec : ChangeSpec := { name := "fnListNestsItemsAsArrays", fn := fun _ => fun
  | [d1, d2] => { results := [.lit (.bool true)], args := [d1, d2] }
  | _ => none }
def fnListNestsItemsAsArraysRow : OpenClaim := { program := "qxb6613385a", sum := "6e801576d1f430ef06e3abc9aa1ea1408c59c287dddf948a3ea77f0b18b2ebb8", func := "example.com/workcrate/workcrate/zzlaws_pkg_manifest_b1.FnListNestsItemsAsArrays", spec := "fnListNestsItemsAsArrays", apart := false }
def FnListNestsItemsAsArraysSaid : Prop := fnListNestsItemsAsArraysRow.holds Try.pinned (OpenSpec.ofChange fnListNestsItemsAsArraysSpec)

/-- ITS FALSE NEIGHBOUR: 'it returns false'. Refute it at one input. -/
def fnListNestsItemsAsArraysWrong : ChangeSpec := { name := "fnListNestsItemsAsArrays", fn := fun _ => fun
  | [d1, d2] => { results := [.lit (.bool false)], args := [d1, d2] }
  | _ => none }
def FnListNestsItemsAsArraysWrongFalsely : Prop := fnListNestsItemsAsArraysRow.holds Try.pinned (OpenSpec.ofChange fnListNestsItemsAsArraysWrong)

end Rows
end Go.Proofs.Qxb6613385a
