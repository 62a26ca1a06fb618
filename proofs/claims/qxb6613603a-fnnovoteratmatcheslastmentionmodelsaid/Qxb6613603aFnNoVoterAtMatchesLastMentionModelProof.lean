/- 'Rows.FnNoVoterAtMatchesLastMentionModelSaid': the row's step, after the guide's shell for a law over slices; the walk lies in Qxb6613603aLaw3. -/
import Derived.Test.Qxb6613603aRows
import Derived.WalkKit
import Derived.ProofKit
import Derived.Test.Qxb6613603aOpen
import Derived.Test.Qxb6613603aLaw3
namespace Go.Proofs.Qxb6613603a.fnNoVoterAtMatchesLastMentionModel
open Go.ChangeShapes Go.WideShapes Go.ChangeAt Go.RowKit

theorem own : ownKnob Try.prog.godebug = none := by kernel_rfl
theorem laidOut : laidOutB Try.prog = true := by kernel_rfl

/-! ### THE ROW's STEP -/
set_option maxRecDepth 100000 in
theorem lifted (os : Os) (started : os.Started) (H : Type) (enc : TypeId × Value → H) :
    ReturnsInHanded {} Try.checked os 3 .any (Rows.fnNoVoterAtMatchesLastMentionModelSpec.pre6 enc Try.prog Try.f3 Rows.fnNoVoterAtMatchesLastMentionModelRow.domain false) (Rows.fnNoVoterAtMatchesLastMentionModelSpec.post enc Try.prog Try.f3 false true false false) := by
  refine returnsInHanded_of_change (C := Try.checked) own started (by kernel_rfl) Try.func3
    (ChangeSpec.witness6 (enc := enc) (C := Try.checked) false ⟨#[], #[.int .i64 0, .slice none 0 0], []⟩ 8 (by kernel_rfl) (by kernel_rfl) (by kernel_rfl) (by kernel_rfl)) ?_
  intro W base args ds gs before hval0 hW hcnd _
  have hval : ∀ (j : Nat) t v, Try.f3.params[j]? = some t → args[j]? = some v → Value.okWide Try.prog W .any base t v := hval0
  have hW' := hW
  obtain ⟨p, q, hA0, hV, rfl, hfz, hnd⟩ := hW
  have hA : DataW.TrodAll enc Try.prog W 0 (fun _ => true) true Try.f3.params.toList args.toList ds p := hA0
  rw [Try.params3] at hA hval
  obtain ⟨v0, vs0, d0, ds0, p0, q0, hargs, rfl, rfl, h0, r0⟩ := trodAll_cons hA
  obtain ⟨v1, vs1, d1, ds1, p1, q1, rfl, rfl, rfl, h1, r1⟩ := trodAll_cons r0
  obtain ⟨rfl, rfl, rfl⟩ := trodAll_nil r1
  obtain rfl : args = #[v0, v1] := by cases args; simp_all
  obtain ⟨rfl, rfl⟩ := trodVars_none hV
  obtain ⟨N, rfl, rfl, rfl, hwf⟩ := open_int Try.underlying3 (hval 0 3 v0 rfl rfl) h0
  obtain ⟨a1, len1, cap1, rfl⟩ := okWide_slice Try.underlying22 (hval 1 22 v1 rfl rfl)
  have k1 := h1
  have lt1 : ∀ x ∈ p1, x.block < W.heap.size := by obtain ⟨m, hm⟩ := k1; exact DataW.trod_lt m _ _ _ hm
  obtain ⟨el, F, hS, hn, hl, _⟩ : ∃ (el : Nat → El) (F : Nat → Nat → Int × Int), SrcR W a1 len1 el F ∧ len1 ≤ maxLen ∧ (∀ i, i < len1 → (el i).l ≤ maxLen) ∧ ∀ i, i < len1 → -9223372036854775808 ≤ (el i).k ∧ (el i).k ≤ 9223372036854775807 := by
    obtain ⟨fuel, hf⟩ := h1
    exact open_src hf
  clear hA0 hval0
  refine (law3 el len1 cap1 N a1 F W hS hn hl).mono fun e W' ⟨he, bel⟩ => ?_
  subst he
  exact ⟨_, rfl, _, _, _, [], _, [], hW', trodAll_mk1 (shut_bool Try.underlying4 _), (trodAll_cons_mk (shut_int Try.underlying3 hwf) (trodAll_cons_mk (Below.trod laidOut (by kernel_rfl) (of_decide_eq_true (by kernel_rfl)) k1 bel lt1) trodAll_mk0)), rfl, bel.frame _, fun h => by cases h⟩

theorem over : Rows.fnNoVoterAtMatchesLastMentionModelRow.holds Try.pinned (OpenSpec.ofChange Rows.fnNoVoterAtMatchesLastMentionModelSpec) :=
  OpenClaim.holds_of_wide 3 Try.f3 rfl rfl rfl rfl rfl rfl rfl ⟨rfl, rfl, rfl, rfl, rfl⟩ rfl rfl rfl rfl rfl (by kernel_rfl) Try.func3 (by kernel_rfl)
    (of_decide_eq_true (by kernel_rfl)) (by unfold Func.isWrapper; first | (rw [if_pos (by decide +kernel)]; kernel_rfl) | (rw [if_neg (by decide +kernel)]; exact ⟨rfl, rfl⟩))
    (fun os started H enc _ => lifted os started H enc)

/-- The statement. -/
theorem proved : Rows.FnNoVoterAtMatchesLastMentionModelSaid := over
end Go.Proofs.Qxb6613603a.fnNoVoterAtMatchesLastMentionModel
namespace Go.Proofs.Qxb6613603a
theorem fnNoVoterAtMatchesLastMentionModel_proved : Rows.FnNoVoterAtMatchesLastMentionModelSaid :=
  fnNoVoterAtMatchesLastMentionModel.proved
end Go.Proofs.Qxb6613603a
