/-
  No cell of these rows narrows 'for every input' (looked for: loops, veiled, ifaces, maps, wideKeys, modest, calm, conditions, laid).
  DERIVED. THE GIVEN ROWS OF THIS SEAT. 2 by the template 'for every input the law returns true; each argument reads behind the call as it read before'; 0 by the template 'total and deterministic' (their statements: Qxb6613603aTotals.lean).
  GIVEN WITH THE SEED: the statements are not yours to turn. If you find one false, say at which input.
  Laid BY PROGRAM, IN A SANDBOX (cutbox-rows.mjs): the forced cells as the released guide's own fill.sh prints them over the translation 8150442df04f6608… (all of the seat's roots in one cut). By AI agents, Wed Nov 11 2026. No macro, syntax, notation, axiom, sorry.
-/
import Derived.Test.Qxb6613603aChecked
import GoSem.Claim
import GoSem.ClaimJoined
import GoSem.ClaimMapViews
import Derived.JoinedTies
import Derived.KernelRfl
namespace Go.Proofs.Qxb6613603a
/- THE CELL 'sum', in the pinned program and in every row, IS THE sha256 OF THE DUMP (.gsa) THAT Qxb6613603aProg.lean LOADS. Nothing in Lean hashes anything: it is a label: what it is worth is what the hold of that sum in a sandbox is worth. -/
noncomputable def Try.pinned : Pinned := { name := "qxb6613603a", sum := "8150442df04f6608018ab67e9e7576a17b97ac944b1f9519c1b43897e85df21d", checked := Try.checked }
namespace Rows
def none {H : Type} : Left H := { results := [], args := [] }

/-- 'zzlaws_sim_b1.FnNoVoterAtMatchesLastMentionModel': WHATEVER THE INPUT: true; the input reads as it did. -/
def fnNoVoterAtMatchesLastMentionModelSpec : ChangeSpec := { name := "fnNoVoterAtMatchesLastMentionModel", fn := fun _ => fun
  | [d1, d2] => { results := [.lit (.bool true)], args := [d1, d2] }
  | _ => none }
def fnNoVoterAtMatchesLastMentionModelRow : OpenClaim := { program := "qxb6613603a", sum := "8150442df04f6608018ab67e9e7576a17b97ac944b1f9519c1b43897e85df21d", func := "example.com/coxswain/coxswain/zzlaws_sim_b1.FnNoVoterAtMatchesLastMentionModel", spec := "fnNoVoterAtMatchesLastMentionModel", unfollowed := true, recurses := true, apart := false }
def FnNoVoterAtMatchesLastMentionModelSaid : Prop := fnNoVoterAtMatchesLastMentionModelRow.holds Try.pinned (OpenSpec.ofChange fnNoVoterAtMatchesLastMentionModelSpec)

/-- ITS FALSE NEIGHBOUR: 'it returns false'. Refute it at one input. -/
def fnNoVoterAtMatchesLastMentionModelWrong : ChangeSpec := { name := "fnNoVoterAtMatchesLastMentionModel", fn := fun _ => fun
  | [d1, d2] => { results := [.lit (.bool false)], args := [d1, d2] }
  | _ => none }
def FnNoVoterAtMatchesLastMentionModelWrongFalsely : Prop := fnNoVoterAtMatchesLastMentionModelRow.holds Try.pinned (OpenSpec.ofChange fnNoVoterAtMatchesLastMentionModelWrong)

/-- 'zzlaws_sim_b1.FnNoVoterAtFindsClosingRemoval': WHATEVER THE INPUT: true; the input reads as it did. -/
def fnNoVoterAtFindsClosingRemovalSpec : ChangeSpec := { name := "fnNoVoterAtFindsClosingRemoval", fn := fun _ => fun
  | [d1, d2] => { results := [.lit (.bool true)], args := [d1, d2] }
  | _ => none }
def fnNoVoterAtFindsClosingRemovalRow : OpenClaim := { program := "qxb6613603a", sum := "8150442df04f6608018ab67e9e7576a17b97ac944b1f9519c1b43897e85df21d", func := "example.com/coxswain/coxswain/zzlaws_sim_b1.FnNoVoterAtFindsClosingRemoval", spec := "fnNoVoterAtFindsClosingRemoval", unfollowed := true, recurses := true, apart := false }
def FnNoVoterAtFindsClosingRemovalSaid : Prop := fnNoVoterAtFindsClosingRemovalRow.holds Try.pinned (OpenSpec.ofChange fnNoVoterAtFindsClosingRemovalSpec)

/-- ITS FALSE NEIGHBOUR: 'it returns false'. Refute it at one input. -/
def fnNoVoterAtFindsClosingRemovalWrong : ChangeSpec := { name := "fnNoVoterAtFindsClosingRemoval", fn := fun _ => fun
  | [d1, d2] => { results := [.lit (.bool false)], args := [d1, d2] }
  | _ => none }
def FnNoVoterAtFindsClosingRemovalWrongFalsely : Prop := fnNoVoterAtFindsClosingRemovalRow.holds Try.pinned (OpenSpec.ofChange fnNoVoterAtFindsClosingRemovalWrong)

end Rows
end Go.Proofs.Qxb6613603a
