/- The changes that came in, as the walks want them. -/
import Derived.Test.Qxb6613603aZz
import Derived.OpenShut
import Derived.ShutString
import Derived.ChangeOld
import Derived.Below
import Derived.SliceStrings
import Derived.Deep.SlicePairs
import Derived.Lib.SmallJoins
namespace Go.Proofs.Qxb6613603a
open Go.ChangeShapes Go.WideShapes Go.ChangeAt Go.RowKit Go.Deep

theorem cells48 : Try.prog.cellsOf 48 = 2 := by kernel_rfl
theorem cells26 : Try.prog.cellsOf 26 = 4 := by kernel_rfl
theorem cells24 : Try.prog.cellsOf 24 = 1 := by kernel_rfl
theorem cells21 : Try.prog.cellsOf 21 = 1 := by kernel_rfl
theorem cells30 : Try.prog.cellsOf 30 = 1 := by kernel_rfl
theorem cells4 : Try.prog.cellsOf 4 = 1 := by kernel_rfl
theorem cells3 : Try.prog.cellsOf 3 = 1 := by kernel_rfl
theorem wf_u64_inv {n : Int} (h : (Lit.int .u64 n).wf = true) : 0 ≤ n ∧ n ≤ 18446744073709551615 := by
  simp [Lit.wf, IntKind.min, IntKind.max, IntKind.signed, IntKind.bits] at h
  omega
theorem wf_i64_inv {n : Int} (h : (Lit.int .i64 n).wf = true) : -9223372036854775808 ≤ n ∧ n ≤ 9223372036854775807 := by
  simp [Lit.wf, IntKind.min, IntKind.max, IntKind.signed, IntKind.bits] at h
  omega

theorem open_sg {H : Type} {enc : TypeId × Value → H} {W : World} {base : Nat} {sp : Nat → Bool} {held : Bool} {v : Value} {fuel : Nat} {x : DataW H × List MemPlace}
    (hf : DataW.trod enc Try.prog W base sp held fuel 24 [v] = some x) : ∃ (a : Option Addr) (l c : Nat) (f : Nat → Int × Int), v = .slice a l c ∧ l ≤ maxLen ∧ ∀ (b : Bool) (t k : Int), SgR W ⟨a, l, c, b, t, k⟩ f := by
  rcases open_slice_pairs Try.underlying24 Try.underlying48 cells48 rfl rfl cells21 cells30 hf with ⟨hcs, _⟩ | ⟨a, len, cap, m, n, V0, V1, D0, D1, P0, P1, hcs, _, hl, hm, hmm, _, hx⟩
  · simp only [List.cons.injEq, and_true] at hcs
    exact ⟨none, 0, 0, fun _ => (0, 0), hcs, by simp [maxLen], fun b t k => ⟨fun _ => rfl, fun j hj => by change j < 0 at hj; omega⟩⟩
  · simp only [List.cons.injEq, and_true] at hcs
    have hlm : len ≤ m := by rw [hmm]; split <;> omega
    have each : ∀ i, i < len → ∃ q : Int × Int, W.cell? (a.add (i * 2)) = some (.int .i32 q.1) ∧ W.cell? (a.add (i * 2 + 1)) = some (.int .u64 q.2) ∧ 0 ≤ q.2 ∧ q.2 ≤ 18446744073709551615 := fun i hi => by
      obtain ⟨k0, k1, k2, k3⟩ := hx i (by omega)
      obtain ⟨n0, e0, _, _⟩ := DataW.trod_int (k := .i32) Try.underlying21 k2
      obtain ⟨n1, e1, _, w1⟩ := DataW.trod_int (k := .u64) Try.underlying30 k3
      simp only [List.cons.injEq, and_true] at e0 e1
      rw [e0] at k0
      rw [e1] at k1
      exact ⟨(n0, n1), k0, k1, wf_u64_inv w1⟩
    obtain ⟨f, hf'⟩ := choose_lt each
    refine ⟨some a, len, cap, f, hcs, by omega, fun b t k => ⟨fun h => (by cases h), fun j hj => ?_⟩⟩
    change j < len at hj
    obtain ⟨k0, k1, k2⟩ := hf' j hj
    obtain ⟨b', off, spot⟩ := a
    have hspot : spot = none := by
      have z0 := (hf' 0 (by omega)).1
      simpa [Addr.add] using World.cell?_spot z0
    subst hspot
    rw [Addr.add_lit] at k0 k1
    exact ⟨b', off, rfl, k0, k1, k2⟩

theorem open_src {H : Type} {enc : TypeId × Value → H} {W : World} {base : Nat} {sp : Nat → Bool} {held : Bool} {a : Option Addr} {len cap fuel : Nat} {x : DataW H × List MemPlace}
    (hf : DataW.trod enc Try.prog W base sp held fuel 22 (Value.slice a len cap).cells.toList = some x) :
    ∃ (el : Nat → El) (F : Nat → Nat → Int × Int), SrcR W a len el F ∧ len ≤ maxLen ∧ (∀ i, i < len → (el i).l ≤ maxLen) ∧ ∀ i, i < len → -9223372036854775808 ≤ (el i).k ∧ (el i).k ≤ 9223372036854775807 := by
  rcases open_slice Try.underlying22 hf with ⟨hcs, _⟩ | ⟨y, l, c, m, n, D, Pl, hcs, _, hl, hm, hmm, _, hx⟩
  · simp [Value.cells] at hcs
    obtain ⟨rfl, rfl, rfl⟩ := hcs
    exact ⟨fun _ => zEl, fun _ _ => (0, 0), fun i hi => by omega, by simp [maxLen], fun i hi => by omega, fun i hi => by omega⟩
  · simp [Value.cells] at hcs
    obtain ⟨rfl, rfl, rfl⟩ := hcs
    have hlm : len ≤ m := by rw [hmm]; split <;> omega
    have each : ∀ i, i < len → ∃ q : (Option Addr × Nat × Nat × Bool × Int × Int) × (Nat → Int × Int), (W.cell? (y.add (i * 4)) = some (.slice q.1.1 q.1.2.1 q.1.2.2.1) ∧ W.cell? (y.add (i * 4 + 1)) = some (.bool q.1.2.2.2.1) ∧ W.cell? (y.add (i * 4 + 2)) = some (.int .i32 q.1.2.2.2.2.1) ∧
        W.cell? (y.add (i * 4 + 3)) = some (.int .i64 q.1.2.2.2.2.2)) ∧ SgR W ⟨q.1.1, q.1.2.1, q.1.2.2.1, q.1.2.2.2.1, q.1.2.2.2.2.1, q.1.2.2.2.2.2⟩ q.2 ∧ q.1.2.1 ≤ maxLen ∧ -9223372036854775808 ≤ q.1.2.2.2.2.2 ∧ q.1.2.2.2.2.2 ≤ 9223372036854775807 := fun i hi => by
      obtain ⟨cs', h1, h2⟩ := hx i (by omega)
      rw [cells26] at h1
      obtain ⟨_, hlen, hcell⟩ := World.cells?_some h1
      obtain ⟨y0, y1, y2, y3, k, _, _, g0, g1, g2, g3⟩ := Joins.trod_struct4 Try.underlying26 h2
      match cs', hlen with
      | [v0, v1, v2, v3], _ =>
        simp [cells24, cells4, cells21, cells3] at g0 g1 g2 g3
        obtain ⟨aa, ll, cc, f, rfl, hll, hsg⟩ := open_sg g0
        obtain ⟨b, e1, _⟩ := DataW.trod_bool Try.underlying4 g1
        obtain ⟨t, e2, _, _⟩ := DataW.trod_int (k := .i32) Try.underlying21 g2
        obtain ⟨kk, e3, _, wk⟩ := DataW.trod_int (k := .i64) Try.underlying3 g3
        simp only [List.cons.injEq, and_true] at e1 e2 e3
        subst e1 e2 e3
        have q0 := hcell 0 (by omega)
        have q1 := hcell 1 (by omega)
        have q2 := hcell 2 (by omega)
        have q3 := hcell 3 (by omega)
        rw [add_add] at q0 q1 q2 q3
        exact ⟨((aa, ll, cc, b, t, kk), f), ⟨q0, q1, q2, q3⟩, hsg b t kk, hll, wf_i64_inv wk⟩
    obtain ⟨q, hq⟩ := choose_lt each
    refine ⟨fun i => ⟨(q i).1.1, (q i).1.2.1, (q i).1.2.2.1, (q i).1.2.2.2.1, (q i).1.2.2.2.2.1, (q i).1.2.2.2.2.2⟩, fun i => (q i).2, fun i hi => ?_, by omega, fun i hi => (hq i hi).2.2.1, fun i hi => (hq i hi).2.2.2⟩
    obtain ⟨⟨k0, k1, k2, k3⟩, hsg, _⟩ := hq i hi
    obtain ⟨b', off, spot⟩ := y
    have hspot : spot = none := by
      have z0 := (hq 0 (by omega)).1.1
      simpa [Addr.add] using World.cell?_spot z0
    subst hspot
    rw [Addr.add_lit] at k0 k1 k2 k3
    exact ⟨⟨b', off, rfl, k0, k1, k2, k3⟩, hsg⟩
end Go.Proofs.Qxb6613603a
