import Derived.Test.Qxb6613603aStable
import Derived.OwnWalk
import Derived.Lib.SliceRun
import Derived.Maps.OwnSet
namespace Go.Proofs.Qxb6613603a
open Go.ChangeShapes Go.WideShapes Go.ChangeAt Go.RowKit

theorem info51 : (Try.prog.info? 51).map (fun i => (i.zero, i.size, i.bytes)) = some (some (.agg #[.slice none 0 0, .bool false, .int .i32 0, .int .i64 0]), 4, 40) := by kernel_rfl
/-- The cells of one element, of the first n elements. -/
def e4 (x : El) : List Value := [.slice x.a x.l x.c, .bool x.v, .int .i32 x.t, .int .i64 x.k]
def c4 (E : Nat → El) : Nat → List Value
  | 0 => []
  | n + 1 => c4 E n ++ e4 (E n)
theorem c4_len (E : Nat → El) : ∀ n, (c4 E n).length = n * 4
  | 0 => rfl
  | n + 1 => by show (c4 E n ++ e4 (E n)).length = _; rw [List.length_append, c4_len E n]; simp [e4]; omega
theorem c4_at (E : Nat → El) : ∀ n i, i < n → ∀ r, r < 4 → (c4 E n)[i * 4 + r]? = (e4 (E i))[r]?
  | n + 1, i, hi, r, hr => by
    show (c4 E n ++ e4 (E n))[i * 4 + r]? = _
    by_cases c : i < n
    · rw [List.getElem?_append_left (by rw [c4_len]; omega)]
      exact c4_at E n i c r hr
    · obtain rfl : i = n := by omega
      rw [List.getElem?_append_right (by rw [c4_len]; omega), c4_len]
      congr 1
      omega
theorem c4_cells {E : Nat → El} {n g : Nat} {w : World} (h : RwE E n g w) : ∀ j u, (c4 E n)[j]? = some u → w.cell? ⟨g, j, none⟩ = some u := by
  intro j u hj
  have hlt : j < n * 4 := by have := (List.getElem?_eq_some_iff.1 hj).1; rw [c4_len] at this; exact this
  have hi : j / 4 < n := by omega
  have hr : j % 4 < 4 := by omega
  have e : j / 4 * 4 + j % 4 = j := by omega
  have h1 := c4_at E n (j / 4) hi (j % 4) hr
  rw [e, hj] at h1
  obtain ⟨k0, k1, k2, k3⟩ := h.1 (j / 4) hi
  have hcase : j % 4 = 0 ∨ j % 4 = 1 ∨ j % 4 = 2 ∨ j % 4 = 3 := by omega
  rcases hcase with c | c | c | c <;> rw [c] at h1 e <;> simp [e4] at h1 <;> subst h1
  · rw [← k0]; congr 1; simp
  · rw [← k1]; congr 1; simp
  · rw [← k2]; congr 1; simp
  · rw [← k3]; congr 1; simp
theorem c4_one (E : Nat → El) : ∀ n, ∀ u ∈ c4 E n, u.oneCell' = true
  | 0, u, h => by cases h
  | n + 1, u, h => by
    rcases List.mem_append.1 h with h | h
    · exact c4_one E n u h
    · simp [e4] at h
      rcases h with rfl | rfl | rfl | rfl <;> rfl
theorem rw_of_owns {E : Nat → El} {n base : Nat} {w : World} {v : Value} (h : w.ownsRow base 51 4 v n (c4 E n)) (hv : v ≠ .slice none 0 0) : ∃ g cap, v = .slice (some ⟨g, 0, none⟩) n cap ∧ base ≤ g ∧ g < w.heap.size ∧ RwE E n g w := by
  have hh := h
  obtain ⟨_, h | ⟨g, cap, cur, rfl, hb, hg, h1, h2, h3, h4⟩⟩ := h
  · exact (hv h.1).elim
  · refine ⟨g, cap, rfl, hb, ?_, fun i hi => ?_, fun o => ?_⟩
    · have := (Array.getElem?_eq_some_iff.1 hg).1; exact this
    · have hc := hh.cells (g := g) rfl
      have q := c4_at E n i hi
      have k0 := hc (i * 4) _ (by have := q 0 (by omega); rw [Nat.add_zero] at this; rw [this]; rfl)
      have k1 := hc (i * 4 + 1) _ (by rw [q 1 (by omega)]; rfl)
      have k2 := hc (i * 4 + 2) _ (by rw [q 2 (by omega)]; rfl)
      have k3 := hc (i * 4 + 3) _ (by rw [q 3 (by omega)]; rfl)
      rw [Addr.add_lit, Nat.zero_add] at k0 k1 k2 k3
      exact ⟨k0, k1, k2, k3⟩
    · simp [World.frozen?, hg]

set_option maxRecDepth 100000 in
set_option maxHeartbeats 1600000 in
theorem clone12 (el : Nat → El) (g0 n c : Nat) (w : World) (hR : Hid (RwE el n g0 w)) (hn : n ≤ 1000000) :
    Calls Try.prog 12 #[.slice (some ⟨g0, 0, none⟩) n c] w fun e w' => ∃ g cap, e = .returned (.slice (some ⟨g, 0, none⟩) n cap) ∧ w.heap.size ≤ g ∧ g < w'.heap.size ∧ RwE el n g w' ∧ Below w.heap.size w w' := by
  obtain ⟨i0, hi0, hz0, hz1, hz2⟩ := info_parts info51
  have q28 : ∀ (w : World) (a : Option Addr) (n c n' c' : Nat), (binOp .eql 28 (.slice a n c) (.slice none n' c')).run Try.prog w = .ok (.bool a.isNone) w := fun w a n c n' c' => Lib.run_eql_slice_nil w _ _ a n c n' c' Try.underlying28
  have u28 : ∀ w, Sem.run Try.prog (underlying 28) w = .ok (TypeDesc.slice 51) w := run_underlying Try.underlying28
  go_enter Try.func12, Try.ntmps12
  go_wp2_with (at_builtin; refine wpList_append_own _ rfl _ _ 28 rfl w.heap.size 51 i0 _ 4 40 Try.underlying28 hi0 hz0 hz1 hz2 rfl (by decide) _ _ _ rfl (World.ownsRow_made w #[] 0 (Nat.le_refl _) (Nat.zero_le _) rfl) ⟨g0, 0, none⟩ n c (c4 el n) rfl ?qc1 ?qc2 ?qc3 ?qc4 ?qc5 ?qc6 ?_)
  case qc1 => exact c4_len el n
  case qc2 =>
    intro j u hj
    rw [Addr.add_lit, Nat.zero_add]
    exact Lib.cell?_alloc_some _ (c4_cells hR.out j u hj)
  case qc3 => exact c4_one el n
  case qc4 => unfold maxLen; omega
  case qc5 => omega
  case qc6 => simp
  intro v' w1 hown hgrow hnil
  obtain ⟨g, cap, hv, hb, hgs, hr⟩ := rw_of_owns (E := el) (by simpa using hown) hnil
  subst hv
  have HR1 : Hid (RwE el n g w1) := hr
  have HB1 : Hid (Below w.heap.size w w1) := ((Below.refl _ w).alloc (Nat.le_refl _) _).grown hgrow (by simp) (by intro k hk; simp [Value.ownBlock] at hk; omega)
  clear hown hgrow hnil hr
  go_wp2
  go_ret
  exact ⟨g, cap, rfl, hb, hgs, HR1.out, HB1.out⟩
end Go.Proofs.Qxb6613603a
