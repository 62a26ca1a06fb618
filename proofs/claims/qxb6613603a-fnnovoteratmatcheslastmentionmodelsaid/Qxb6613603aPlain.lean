/- The plain laws of the stable sort: no Go in sight. An array is a function 's' from places to the numbers of its elements; K: an element's key. -/
import Derived.KernelRfl
namespace Go.Proofs.Qxb6613603a

/-- The exchange of two places. -/
def sw (s : Nat → Nat) (i j : Nat) : Nat → Nat := fun k => if k = j then s i else if k = i then s j else s k
/-- x stands ahead of y: a lesser key, or the same key and the lesser number. -/
def Lx (K : Nat → Int) (x y : Nat) : Prop := K x < K y ∨ (K x = K y ∧ x < y)
theorem Lx.trans {K : Nat → Int} {x y z : Nat} (h : Lx K x y) (g : Lx K y z) : Lx K x z := by unfold Lx at *; omega
theorem Lx.le {K : Nat → Int} {x y : Nat} (h : Lx K x y) : K x ≤ K y := by unfold Lx at h; omega
theorem Lx.ne {K : Nat → Int} {x y : Nat} (h : Lx K x y) : x ≠ y := by
  intro e; subst e; unfold Lx at h; omega
theorem Lx.asymm {K : Nat → Int} {x y : Nat} (h : Lx K x y) (g : Lx K y x) : False := (h.trans g).ne rfl

/-- Places a .. b-1 stand in order. -/
def Srt (K : Nat → Int) (a b : Nat) (s : Nat → Nat) : Prop := ∀ i j, a ≤ i → i < j → j < b → Lx K (s i) (s j)
theorem Srt.mono {K : Nat → Int} {a b a' b' : Nat} {s : Nat → Nat} (h : Srt K a b s) (ha : a ≤ a') (hb : b' ≤ b) : Srt K a' b' s := fun i j h1 h2 h3 => h i j (by omega) h2 (by omega)
theorem Srt.key {K : Nat → Int} {a b : Nat} {s : Nat → Nat} (h : Srt K a b s) {i j : Nat} (ha : a ≤ i) (hij : i ≤ j) (hb : j < b) : K (s i) ≤ K (s j) := by
  by_cases e : i = j
  · subst e; exact Int.le_refl _
  · exact (h i j ha (by omega) hb).le
theorem Srt.congr {K : Nat → Int} {a b : Nat} {s s' : Nat → Nat} (h : Srt K a b s) (he : ∀ k, a ≤ k → k < b → s' k = s k) : Srt K a b s' := fun i j h1 h2 h3 => by
  rw [he i h1 (by omega), he j (by omega) h3]; exact h i j h1 h2 h3

/-- s' is s but for an order of places a .. b-1. -/
def Win (a b : Nat) (s s' : Nat → Nat) : Prop :=
  (∀ k, (k < a ∨ b ≤ k) → s' k = s k) ∧ (∀ k, a ≤ k → k < b → ∃ j, a ≤ j ∧ j < b ∧ s' k = s j) ∧ (∀ k, a ≤ k → k < b → ∃ j, a ≤ j ∧ j < b ∧ s k = s' j)
theorem Win.refl (a b : Nat) (s : Nat → Nat) : Win a b s s := ⟨fun _ _ => rfl, fun k h1 h2 => ⟨k, h1, h2, rfl⟩, fun k h1 h2 => ⟨k, h1, h2, rfl⟩⟩
theorem Win.trans {a b : Nat} {s t u : Nat → Nat} (h : Win a b s t) (g : Win a b t u) : Win a b s u := by
  refine ⟨fun k hk => (g.1 k hk).trans (h.1 k hk), fun k h1 h2 => ?_, fun k h1 h2 => ?_⟩
  · obtain ⟨j, j1, j2, e⟩ := g.2.1 k h1 h2
    obtain ⟨i, i1, i2, e2⟩ := h.2.1 j j1 j2
    exact ⟨i, i1, i2, e.trans e2⟩
  · obtain ⟨j, j1, j2, e⟩ := h.2.2 k h1 h2
    obtain ⟨i, i1, i2, e2⟩ := g.2.2 j j1 j2
    exact ⟨i, i1, i2, e.trans e2⟩
theorem Win.mono {a b a' b' : Nat} {s t : Nat → Nat} (h : Win a b s t) (ha : a' ≤ a) (hb : b ≤ b') : Win a' b' s t := by
  refine ⟨fun k hk => h.1 k (by omega), fun k h1 h2 => ?_, fun k h1 h2 => ?_⟩
  · by_cases hk : a ≤ k ∧ k < b
    · obtain ⟨j, j1, j2, e⟩ := h.2.1 k hk.1 hk.2
      exact ⟨j, by omega, by omega, e⟩
    · exact ⟨k, h1, h2, h.1 k (by omega)⟩
  · by_cases hk : a ≤ k ∧ k < b
    · obtain ⟨j, j1, j2, e⟩ := h.2.2 k hk.1 hk.2
      exact ⟨j, by omega, by omega, e⟩
    · exact ⟨k, h1, h2, (h.1 k (by omega)).symm⟩
theorem Win.sw {a b i j : Nat} (s : Nat → Nat) (hi : a ≤ i ∧ i < b) (hj : a ≤ j ∧ j < b) : Win a b s (sw s i j) := by
  refine ⟨fun k hk => ?_, fun k h1 h2 => ?_, fun k h1 h2 => ?_⟩
  · unfold Go.Proofs.Qxb6613603a.sw
    rw [if_neg (by omega), if_neg (by omega)]
  · unfold Go.Proofs.Qxb6613603a.sw
    by_cases e1 : k = j
    · exact ⟨i, hi.1, hi.2, by rw [if_pos e1]⟩
    · by_cases e2 : k = i
      · exact ⟨j, hj.1, hj.2, by rw [if_neg e1, if_pos e2]⟩
      · exact ⟨k, h1, h2, by rw [if_neg e1, if_neg e2]⟩
  · unfold Go.Proofs.Qxb6613603a.sw
    by_cases e1 : k = i
    · exact ⟨j, hj.1, hj.2, by rw [if_pos rfl, e1]⟩
    · by_cases e2 : k = j
      · refine ⟨i, hi.1, hi.2, ?_⟩
        by_cases e3 : i = j
        · omega
        · rw [if_neg e3, if_pos rfl, e2]
      · exact ⟨k, h1, h2, by rw [if_neg e2, if_neg e1]⟩
/-- What all of places a .. b-1 have in s, they have in s'. -/
theorem Win.all {a b : Nat} {s s' : Nat → Nat} (h : Win a b s s') (p : Nat → Prop) (hp : ∀ k, a ≤ k → k < b → p (s k)) : ∀ k, a ≤ k → k < b → p (s' k) := fun k h1 h2 => by
  obtain ⟨j, j1, j2, e⟩ := h.2.1 k h1 h2
  rw [e]; exact hp j j1 j2

/-! ### swapRange and rotate -/
def sr (s : Nat → Nat) (a b m : Nat) : Nat → Nat := fun k => if a ≤ k ∧ k < a + m then s (k - a + b) else if b ≤ k ∧ k < b + m then s (k - b + a) else s k
theorem sr_zero (s : Nat → Nat) (a b : Nat) : sr s a b 0 = s := by
  funext k; unfold sr; rw [if_neg (by omega), if_neg (by omega)]
theorem at_eq {s : Nat → Nat} {i j : Nat} (h : i = j) : s i = s j := by rw [h]
theorem sr_step (s : Nat → Nat) (a b m k : Nat) (hab : a + m ≤ b) (hk : k < m) : sw (sr s a b k) (a + k) (b + k) = sr s a b (k + 1) := by
  funext x
  unfold sw sr
  repeat' split
  all_goals first | (exfalso; omega) | (apply at_eq; omega) | rfl
/-- 'u v' to 'v u': places a .. m-1 and m .. b-1. -/
def rot (s : Nat → Nat) (a m b : Nat) : Nat → Nat := fun k => if a ≤ k ∧ k < a + (b - m) then s (k - a + m) else if a + (b - m) ≤ k ∧ k < b then s (k - (b - m)) else s k
theorem rot_left (s : Nat → Nat) (m i j : Nat) (h : j < i) (him : i ≤ m) : rot (sr s (m - i) m j) (m - (i - j)) m (m + j) = rot s (m - i) m (m + j) := by
  funext x
  unfold rot sr
  repeat' split
  all_goals first | (exfalso; omega) | (apply at_eq; omega) | rfl
theorem rot_right (s : Nat → Nat) (m i j : Nat) (h : i < j) (him : i ≤ m) : rot (sr s (m - i) (m + j - i) i) (m - i) m (m + (j - i)) = rot s (m - i) m (m + j) := by
  funext x
  unfold rot sr
  repeat' split
  all_goals first | (exfalso; omega) | (apply at_eq; omega) | rfl
theorem rot_end (s : Nat → Nat) (m i : Nat) (him : i ≤ m) : sr s (m - i) m i = rot s (m - i) m (m + i) := by
  funext x
  unfold rot sr
  repeat' split
  all_goals first | (exfalso; omega) | (apply at_eq; omega) | rfl
theorem rot_none1 (s : Nat → Nat) (a m : Nat) : rot s a m m = s := by
  funext x; unfold rot
  repeat' split
  all_goals first | (exfalso; omega) | (apply at_eq; omega) | rfl
theorem rot_none2 (s : Nat → Nat) (m b : Nat) (h : m ≤ b) : rot s m m b = s := by
  funext x; unfold rot
  repeat' split
  all_goals first | (exfalso; omega) | (apply at_eq; omega) | rfl
theorem rot_up (s : Nat → Nat) (a k : Nat) (h : a ≤ k) : sw (rot s a (a + 1) (k + 1)) k (k + 1) = rot s a (a + 1) (k + 2) := by
  funext x; unfold sw rot
  repeat' split
  all_goals first | (exfalso; omega) | (apply at_eq; omega) | rfl
theorem rot_down (s : Nat → Nat) (m k : Nat) (h : k + 1 ≤ m) : sw (rot s (k + 1) m (m + 1)) (k + 1) k = rot s k m (m + 1) := by
  funext x; unfold sw rot
  repeat' split
  all_goals first | (exfalso; omega) | (apply at_eq; omega) | rfl
theorem Win.rot {a b x m y : Nat} (s : Nat → Nat) (h1 : a ≤ x) (h2 : x ≤ m) (h3 : m ≤ y) (h4 : y ≤ b) : Win a b s (rot s x m y) := by
  refine ⟨fun k hk => ?_, fun k k1 k2 => ?_, fun k k1 k2 => ?_⟩
  · unfold Go.Proofs.Qxb6613603a.rot
    rw [if_neg (by omega), if_neg (by omega)]
  · unfold Go.Proofs.Qxb6613603a.rot
    split
    · exact ⟨k - x + m, by omega, by omega, rfl⟩
    · split
      · exact ⟨k - (y - m), by omega, by omega, rfl⟩
      · exact ⟨k, k1, k2, rfl⟩
  · by_cases c1 : x ≤ k ∧ k < m
    · refine ⟨k + (y - m), by omega, by omega, ?_⟩
      unfold Go.Proofs.Qxb6613603a.rot
      rw [if_neg (by omega), if_pos (by omega)]
      apply at_eq; omega
    · by_cases c2 : m ≤ k ∧ k < y
      · refine ⟨k - m + x, by omega, by omega, ?_⟩
        unfold Go.Proofs.Qxb6613603a.rot
        rw [if_pos (by omega)]
        apply at_eq; omega
      · refine ⟨k, k1, k2, ?_⟩
        unfold Go.Proofs.Qxb6613603a.rot
        rw [if_neg (by omega), if_neg (by omega)]
theorem rot_lo {s : Nat → Nat} {a m b k : Nat} (h1 : a ≤ k) (h2 : k < a + (b - m)) : rot s a m b k = s (k - a + m) := if_pos ⟨h1, h2⟩
theorem rot_hi {s : Nat → Nat} {a m b k : Nat} (h1 : a + (b - m) ≤ k) (h2 : k < b) : rot s a m b k = s (k - (b - m)) := by unfold rot; rw [if_neg (by omega), if_pos ⟨h1, h2⟩]
theorem rot_out {s : Nat → Nat} {a m b k : Nat} (hm : m ≤ b) (ham : a ≤ m) (h : k < a ∨ b ≤ k) : rot s a m b k = s k := by unfold rot; rw [if_neg (by omega), if_neg (by omega)]
end Go.Proofs.Qxb6613603a
