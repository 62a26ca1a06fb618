/-
  No cell of these rows narrows 'for every input' (looked for: loops, veiled, ifaces, maps, wideKeys, modest, calm, conditions, laid).
  DERIVED. THE GIVEN ROWS OF THIS SEAT. 1 by the template 'for every input the law returns true; each argument reads behind the call as it read before'; 0 by the template 'total and deterministic' (their statements: Qxb6613442aTotals.lean).
  GIVEN WITH THE SEED: the statements are not yours to turn. If you find one false, say at which input.
  Laid BY PROGRAM, IN A SANDBOX (cutbox-rows.mjs): the forced cells as the released guide's own fill.sh prints them over the translation ecb0c5e300e28d46… (all of the seat's roots in one cut). By AI agents, Wed Nov 11 2026. No macro, syntax, notation, axiom, sorry.
-/
import Derived.Test.Qxb6613442aChecked
import GoSem.Claim
import GoSem.ClaimJoined
import GoSem.ClaimMapViews
import Derived.JoinedTies
import Derived.KernelRfl
namespace Go.Proofs.Qxb6613442a
/- THE CELL 'sum', in the pinned program and in every row, IS THE sha256 OF THE DUMP (.gsa) THAT Qxb6613442aProg.lean LOADS. Nothing in Lean hashes anything: it is a label: what it is worth is what the hold of that sum in a sandbox is worth. -/
noncomputable def Try.pinned : Pinned := { name := "qxb6613442a", sum := "ecb0c5e300e28d46826ffbdacd05b0eaf1ac61dd4af9b7efc701f7463bacfa17", checked := Try.checked }
namespace Rows
def none {H : Type} : Left H := { results := [], args := [] }

/-- 'zzlaws_pkg_schema_b1.FnAddOfIsFilter': WHATEVER THE INPUT: true; the input reads as it did. -/
def fnAddOfIsFilterSpec : ChangeSpec := { name := "fnAddOfIsFilter", fn := fun _ => fun
  | [d1, d2, d3, d4] => { results := [.lit (.bool true)], args := [d1, d2, d3, d4] }
  | _ => none }
def fnAddOfIsFilterRow : OpenClaim := { program := "qxb6613442a", sum := "ecb0c5e300e28d46826ffbdacd05b0eaf1ac61dd4af9b7efc701f7463bacfa17", func := "example.com/hubwire/hubwire/zzlaws_pkg_schema_b1.FnAddOfIsFilter", spec := "fnAddOfIsFilter", plainKeys := false, apart := false }
def FnAddOfIsFilterSaid : Prop := fnAddOfIsFilterRow.holds Try.pinned (OpenSpec.ofChange fnAddOfIsFilterSpec)

/-- ITS FALSE NEIGHBOUR: 'it returns false'. Refute it at one input. -/
def fnAddOfIsFilterWrong : ChangeSpec := { name := "fnAddOfIsFilter", fn := fun _ => fun
  | [d1, d2, d3, d4] => { results := [.lit (.bool false)], args := [d1, d2, d3, d4] }
  | _ => none }
def FnAddOfIsFilterWrongFalsely : Prop := fnAddOfIsFilterRow.holds Try.pinned (OpenSpec.ofChange fnAddOfIsFilterWrong)

end Rows
end Go.Proofs.Qxb6613442a
