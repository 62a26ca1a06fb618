/- 'Rows.FnSomeListedSplitsAtAnyCutSaid': the row's step, after the guide's shell for a law over slices; the walk lies in Qxb6613533aSplitsWalk. -/
import Derived.Test.Qxb6613533aRows
import Derived.WalkKit
import Derived.ProofKit
import Derived.OpenShut
import Derived.ShutString
import Derived.ChangeOld
import Derived.Below
import Derived.SliceStrings
import Derived.Test.Qxb6613533aSplitsWalk
namespace Go.Proofs.Qxb6613533a.fnSomeListedSplitsAtAnyCut
open Go.ChangeShapes Go.WideShapes Go.ChangeAt Go.RowKit
open Go.ChangeMaps (open_string shut_string)
set_option linter.unusedVariables false

theorem own : ownKnob Try.prog.godebug = none := by kernel_rfl
theorem laidOut : laidOutB Try.prog = true := by kernel_rfl

/-- A slice of strings that came in, as the walk wants it. -/
theorem open_ss {H : Type} {enc : TypeId × Value → H} {W : World} {base : Nat} {sp : Nat → Bool} {held : Bool} {a : Option Addr} {len cap fuel : Nat} {x : DataW H × List MemPlace}
    (hf : DataW.trod enc Try.prog W base sp held fuel 22 (Value.slice a len cap).cells.toList = some x) :
    ∃ ss, SS W a ss ∧ len = ss.length ∧ (∀ k, (ss.getD k ByteArray.empty).size ≤ maxLen) ∧ len ≤ maxLen ∧ (a = none → len = 0 ∧ cap = 0) := by
  rcases open_strings Try.underlying22 Try.underlying9 (by kernel_rfl) hf with ⟨hcs, _⟩ | ⟨y, l, c, ss, hcs, _, hl, hm, hz, hx, hcell, hws⟩
  · simp [Value.cells] at hcs
    obtain ⟨rfl, rfl, rfl⟩ := hcs
    exact ⟨[], SS.nil _ _, rfl, fun k => by simp [maxLen], by simp [maxLen], fun _ => ⟨rfl, rfl⟩⟩
  · simp [Value.cells] at hcs
    obtain ⟨rfl, rfl, rfl⟩ := hcs
    have hle : len ≤ ss.length := by rw [hz]; split <;> omega
    have hlen : (ss.take len).length = len := by rw [List.length_take]; omega
    have hget : ∀ k, k < len → (ss.take len).getD k ByteArray.empty = ss.getD k ByteArray.empty := fun k hk => by simp only [List.getD, List.getElem?_take, if_pos hk]
    refine ⟨ss.take len, fun h => ?_, hlen.symm, fun k => ?_, by omega, fun h => by cases h⟩
    · rw [hlen] at h
      have h0 := hcell 0 (by omega)
      obtain ⟨b, off, spot⟩ := y
      have hspot : spot = none := by simpa [Addr.add] using World.cell?_spot h0
      subst hspot
      refine ⟨b, off, rfl, fun k hk => ?_⟩
      rw [hlen] at hk
      rw [← add_plain, hget k hk]; exact hcell k (by omega)
    · by_cases hk : k < len
      · rw [hget k hk]
        have e : ss.getD k ByteArray.empty = ss[k] := by simp [List.getD, List.getElem?_eq_getElem (show k < ss.length by omega)]
        rw [e]; exact hws _ (List.getElem_mem _)
      · have e : (ss.take len).getD k ByteArray.empty = ByteArray.empty := by simp [List.getD, List.getElem?_eq_none (show (ss.take len).length ≤ k by omega)]
        rw [e]; exact Nat.zero_le _

/-! ### THE ROW's STEP: WRITTEN OUT: LEAVE IT -/
set_option maxRecDepth 100000 in
theorem lifted (os : Os) (started : os.Started) (H : Type) (enc : TypeId × Value → H) :
    ReturnsInHanded {} Try.checked os 3 .any (Rows.fnSomeListedSplitsAtAnyCutSpec.pre6 enc Try.prog Try.f3 Rows.fnSomeListedSplitsAtAnyCutRow.domain false) (Rows.fnSomeListedSplitsAtAnyCutSpec.post enc Try.prog Try.f3 false true false false) := by
  refine returnsInHanded_of_change (C := Try.checked) own started (by kernel_rfl) Try.func3
    (ChangeSpec.witness6 (enc := enc) (C := Try.checked) false ⟨#[], #[.slice none 0 0, .slice none 0 0, .bool false, .int .i64 0], []⟩ 8 (by kernel_rfl) (by kernel_rfl) (by kernel_rfl) (by kernel_rfl)) ?_
  intro W base args ds gs before hval0 hW hcnd _
  have hval : ∀ (j : Nat) t v, Try.f3.params[j]? = some t → args[j]? = some v → Value.okWide Try.prog W .any base t v := hval0
  have hW' := hW
  obtain ⟨p, q, hA0, hV, rfl, hfz, hnd⟩ := hW
  have hA : DataW.TrodAll enc Try.prog W 0 (fun _ => true) true Try.f3.params.toList args.toList ds p := hA0
  rw [Try.params3] at hA hval
  obtain ⟨v0, vs0, d0, ds0, p0, q0, hargs, rfl, rfl, h0, r0⟩ := trodAll_cons hA
  obtain ⟨v1, vs1, d1, ds1, p1, q1, rfl, rfl, rfl, h1, r1⟩ := trodAll_cons r0
  obtain ⟨v2, vs2, d2, ds2, p2, q2, rfl, rfl, rfl, h2, r2⟩ := trodAll_cons r1
  obtain ⟨v3, vs3, d3, ds3, p3, q3, rfl, rfl, rfl, h3, r3⟩ := trodAll_cons r2
  obtain ⟨rfl, rfl, rfl⟩ := trodAll_nil r3
  obtain rfl : args = #[v0, v1, v2, v3] := by cases args; simp_all
  obtain ⟨rfl, rfl⟩ := trodVars_none hV
  obtain ⟨a0, len0, cap0, rfl⟩ := okWide_slice Try.underlying22 (hval 0 22 v0 rfl rfl)
  have k0 := h0
  have lt0 : ∀ x ∈ p0, x.block < W.heap.size := by obtain ⟨m, hm⟩ := k0; exact DataW.trod_lt m _ _ _ hm
  obtain ⟨z0, w0, e0, u0, m0, n0⟩ : ∃ ss, SS W a0 ss ∧ len0 = ss.length ∧ (∀ k, (ss.getD k ByteArray.empty).size ≤ maxLen) ∧ len0 ≤ maxLen ∧ (a0 = none → len0 = 0 ∧ cap0 = 0) := by
    obtain ⟨fuel, hf⟩ := h0
    exact open_ss hf
  obtain ⟨a1, len1, cap1, rfl⟩ := okWide_slice Try.underlying22 (hval 1 22 v1 rfl rfl)
  have k1 := h1
  have lt1 : ∀ x ∈ p1, x.block < W.heap.size := by obtain ⟨m, hm⟩ := k1; exact DataW.trod_lt m _ _ _ hm
  obtain ⟨z1, w1, e1, u1, m1, n1⟩ : ∃ ss, SS W a1 ss ∧ len1 = ss.length ∧ (∀ k, (ss.getD k ByteArray.empty).size ≤ maxLen) ∧ len1 ≤ maxLen ∧ (a1 = none → len1 = 0 ∧ cap1 = 0) := by
    obtain ⟨fuel, hf⟩ := h1
    exact open_ss hf
  obtain ⟨a2, rfl, rfl, rfl⟩ := open_bool Try.underlying4 (hval 2 4 v2 rfl rfl) h2
  obtain ⟨a3, rfl, rfl, rfl, w3⟩ := open_int Try.underlying3 (hval 3 3 v3 rfl rfl) h3
  clear hA0 hval0
  refine (walk3 a0 a1 len0 cap0 len1 cap1 z0 z1 a2 a3 W e0 e1 m0 m1 w0 w1 u0 u1 n0 n1).mono fun e W' ⟨he, bel⟩ => ?_
  subst he
  exact ⟨_, rfl, _, _, _, [], _, [], hW', trodAll_mk1 (shut_bool Try.underlying4 _), (trodAll_cons_mk (Below.trod laidOut (by kernel_rfl) (of_decide_eq_true (by kernel_rfl)) k0 bel lt0) (trodAll_cons_mk (Below.trod laidOut (by kernel_rfl) (of_decide_eq_true (by kernel_rfl)) k1 bel lt1) (trodAll_cons_mk (shut_bool Try.underlying4 _) (trodAll_cons_mk (shut_int Try.underlying3 w3) trodAll_mk0)))), rfl, bel.frame _, fun h => by cases h⟩

theorem over : Rows.fnSomeListedSplitsAtAnyCutRow.holds Try.pinned (OpenSpec.ofChange Rows.fnSomeListedSplitsAtAnyCutSpec) :=
  OpenClaim.holds_of_wide 3 Try.f3 rfl rfl rfl rfl rfl rfl rfl ⟨rfl, rfl, rfl, rfl, rfl⟩ rfl rfl rfl rfl rfl (by kernel_rfl) Try.func3 (by kernel_rfl)
    (of_decide_eq_true (by kernel_rfl)) (by unfold Func.isWrapper; first | (rw [if_pos (by decide +kernel)]; kernel_rfl) | (rw [if_neg (by decide +kernel)]; exact ⟨rfl, rfl⟩))
    (fun os started H enc _ => lifted os started H enc)

/-- The statement. -/
theorem proved : Rows.FnSomeListedSplitsAtAnyCutSaid := over
end Go.Proofs.Qxb6613533a.fnSomeListedSplitsAtAnyCut
namespace Go.Proofs.Qxb6613533a
theorem fnSomeListedSplitsAtAnyCut_proved : Rows.FnSomeListedSplitsAtAnyCutSaid :=
  fnSomeListedSplitsAtAnyCut.proved
end Go.Proofs.Qxb6613533a
