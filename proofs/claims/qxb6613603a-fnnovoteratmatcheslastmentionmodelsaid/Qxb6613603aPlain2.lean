/- The plain laws of the stable sort: insertion and merging. -/
import Derived.Test.Qxb6613603aPlain
namespace Go.Proofs.Qxb6613603a

/-! ### insertion -/
/-- While the element of place j is carried down: all else in order, it stands ahead of what it has passed, and has the greatest number. -/
def InsInv (K : Nat → Int) (a i j : Nat) (u : Nat → Nat) : Prop :=
  (∀ p q, a ≤ p → p < q → q ≤ i → q ≠ j → Lx K (u p) (u q)) ∧ (∀ p, a ≤ p → p ≤ i → p ≠ j → u p < u j)
theorem ins_start {K : Nat → Int} {a i : Nat} {u : Nat → Nat} (h : Srt K a i u) (ht : ∀ p, a ≤ p → p < i → u p < u i) : InsInv K a i i u :=
  ⟨fun p q h1 h2 h3 h4 => h p q h1 h2 (by omega), fun p h1 h2 h3 => ht p h1 (by omega)⟩
theorem sw_l (u : Nat → Nat) (i j : Nat) (h : i ≠ j) : sw u i j i = u j := by unfold sw; rw [if_neg h, if_pos rfl]
theorem sw_r (u : Nat → Nat) (i j : Nat) : sw u i j j = u i := by unfold sw; rw [if_pos rfl]
theorem sw_o (u : Nat → Nat) {i j k : Nat} (hi : k ≠ i) (hj : k ≠ j) : sw u i j k = u k := by unfold sw; rw [if_neg hj, if_neg hi]
theorem ins_move {K : Nat → Int} {a i j : Nat} {u : Nat → Nat} (h : InsInv K a i (j + 1) u) (ha : a ≤ j) (hj : j + 1 ≤ i) (hk : K (u (j + 1)) < K (u j)) : InsInv K a i j (sw u (j + 1) j) := by
  obtain ⟨h1, h2⟩ := h
  refine ⟨fun p q p1 p2 p3 p4 => ?_, fun p p1 p2 p3 => ?_⟩
  · by_cases q1 : q = j + 1
    · subst q1
      rw [sw_l u _ _ (by omega)]
      by_cases e : p = j
      · subst e
        rw [sw_r]
        exact Or.inl hk
      · rw [sw_o u (by omega) e]
        exact h1 p j p1 (by omega) (by omega) (by omega)
    · rw [sw_o u q1 p4]
      by_cases e : p = j
      · subst e
        rw [sw_r]
        exact h1 (p + 1) q (by omega) (by omega) p3 q1
      · by_cases e2 : p = j + 1
        · subst e2
          rw [sw_l u _ _ (by omega)]
          exact h1 j q ha (by omega) p3 q1
        · rw [sw_o u e2 e]
          exact h1 p q p1 p2 p3 q1
  · rw [sw_r]
    by_cases e2 : p = j + 1
    · subst e2
      rw [sw_l u _ _ (by omega)]
      exact h2 j ha (by omega) (by omega)
    · rw [sw_o u e2 p3]
      exact h2 p p1 p2 e2
theorem ins_stop {K : Nat → Int} {a i j : Nat} {u : Nat → Nat} (h : InsInv K a i j u) (hji : j ≤ i) (hs : j = a ∨ (a < j ∧ ¬ K (u j) < K (u (j - 1)))) : Srt K a (i + 1) u := by
  obtain ⟨h1, h2⟩ := h
  intro p q p1 p2 p3
  by_cases e : q = j
  · subst e
    rcases hs with hs | ⟨hs, hk⟩
    · omega
    · have g : Lx K (u (q - 1)) (u q) := by
        have := h2 (q - 1) (by omega) (by omega) (by omega)
        unfold Lx; omega
      by_cases e2 : p = q - 1
      · rw [e2]; exact g
      · exact (h1 p (q - 1) p1 (by omega) (by omega) (by omega)).trans g
  · exact h1 p q p1 p2 (by omega) e

/-! ### merging -/
theorem merge1 {K : Nat → Int} {a b i : Nat} {s : Nat → Nat} (hs : Srt K (a + 1) b s) (ht : ∀ q, a + 1 ≤ q → q < b → s a < s q) (hi : a + 1 ≤ i) (hib : i ≤ b)
    (hl : ∀ q, a + 1 ≤ q → q < i → K (s q) < K (s a)) (hg : ∀ q, i ≤ q → q < b → ¬ K (s q) < K (s a)) : Srt K a b (rot s a (a + 1) i) := by
  have lo : ∀ k, a ≤ k → k + 1 < i → rot s a (a + 1) i k = s (k + 1) := fun k h1 h2 => by rw [rot_lo h1 (by omega)]; apply at_eq; omega
  have mi : rot s a (a + 1) i (i - 1) = s a := by rw [rot_hi (by omega) (by omega)]; apply at_eq; omega
  have hi' : ∀ k, i ≤ k → rot s a (a + 1) i k = s k := fun k h1 => rot_out hi (by omega) (Or.inr h1)
  intro p q p1 p2 p3
  by_cases c1 : q + 1 < i
  · rw [lo p p1 (by omega), lo q (by omega) c1]
    exact hs _ _ (by omega) (by omega) (by omega)
  · by_cases c2 : q = i - 1
    · subst c2
      rw [mi, lo p p1 (by omega)]
      exact Or.inl (hl _ (by omega) (by omega))
    · rw [hi' q (by omega)]
      by_cases c3 : p + 1 < i
      · rw [lo p p1 c3]
        exact hs _ _ (by omega) (by omega) p3
      · by_cases c4 : p = i - 1
        · subst c4
          rw [mi]
          have h1 := hg q (by omega) p3
          have h2 := ht q (by omega) p3
          unfold Lx; omega
        · rw [hi' p (by omega)]
          exact hs p q (by omega) p2 p3
theorem merge2 {K : Nat → Int} {a m i : Nat} {s : Nat → Nat} (hs : Srt K a m s) (ht : ∀ q, a ≤ q → q < m → s q < s m) (hi : a ≤ i) (him : i ≤ m)
    (hl : ∀ q, a ≤ q → q < i → ¬ K (s m) < K (s q)) (hg : ∀ q, i ≤ q → q < m → K (s m) < K (s q)) : Srt K a (m + 1) (rot s i m (m + 1)) := by
  have lo : ∀ k, k < i → rot s i m (m + 1) k = s k := fun k h1 => rot_out (by omega) him (Or.inl h1)
  have mi : rot s i m (m + 1) i = s m := by rw [rot_lo (by omega) (by omega)]; apply at_eq; omega
  have hi' : ∀ k, i < k → k ≤ m → rot s i m (m + 1) k = s (k - 1) := fun k h1 h2 => by rw [rot_hi (by omega) (by omega)]; apply at_eq; omega
  intro p q p1 p2 p3
  by_cases c1 : q < i
  · rw [lo p (by omega), lo q c1]
    exact hs _ _ p1 p2 (by omega)
  · by_cases c2 : q = i
    · subst c2
      rw [mi, lo p (by omega)]
      have h1 := hl p p1 (by omega)
      have h2 := ht p p1 (by omega)
      unfold Lx; omega
    · rw [hi' q (by omega) (by omega)]
      by_cases c3 : p < i
      · rw [lo p c3]
        exact hs _ _ p1 (by omega) (by omega)
      · by_cases c4 : p = i
        · subst c4
          rw [mi]
          exact Or.inl (hg _ (by omega) (by omega))
        · rw [hi' p (by omega) (by omega)]
          exact hs _ _ (by omega) (by omega) (by omega)
/-- The exchange in the midst: what comes of it. -/
theorem merge3 {K : Nat → Int} {a m b x y mid : Nat} {s : Nat → Nat} (h1 : a ≤ x) (h2 : x ≤ m) (h3 : m ≤ y) (h4 : y ≤ b) (hm : x + (y - m) = mid) (sl : Srt K a m s) (sr : Srt K m b s)
    (ht : ∀ p q, a ≤ p → p < m → m ≤ q → q < b → s p < s q)
    (hAB : ∀ p q, m ≤ p → p < y → x ≤ q → q < m → Lx K (s p) (s q)) (hCD : ∀ p q, a ≤ p → p < x → y ≤ q → q < b → Lx K (s p) (s q)) :
    (∀ p q, a ≤ p → p < mid → mid ≤ q → q < b → Lx K (rot s x m y p) (rot s x m y q)) ∧ Srt K a x (rot s x m y) ∧ Srt K x mid (rot s x m y) ∧ Srt K mid y (rot s x m y) ∧ Srt K y b (rot s x m y) ∧
    (∀ p q, a ≤ p → p < x → x ≤ q → q < mid → rot s x m y p < rot s x m y q) ∧ (∀ p q, mid ≤ p → p < y → y ≤ q → q < b → rot s x m y p < rot s x m y q) := by
  have e1 : ∀ k, k < x → rot s x m y k = s k := fun k h => rot_out h3 h2 (Or.inl h)
  have e2 : ∀ k, x ≤ k → k < mid → rot s x m y k = s (k - x + m) := fun k g1 g2 => rot_lo g1 (by omega)
  have e3 : ∀ k, mid ≤ k → k < y → rot s x m y k = s (k - (y - m)) := fun k g1 g2 => rot_hi (by omega) g2
  have e4 : ∀ k, y ≤ k → rot s x m y k = s k := fun k h => rot_out h3 h2 (Or.inr h)
  refine ⟨fun p q p1 p2 p3 p4 => ?_, fun p q p1 p2 p3 => ?_, fun p q p1 p2 p3 => ?_, fun p q p1 p2 p3 => ?_, fun p q p1 p2 p3 => ?_, fun p q p1 p2 p3 p4 => ?_, fun p q p1 p2 p3 p4 => ?_⟩
  · by_cases c : p < x
    · rw [e1 p c]
      by_cases d : q < y
      · rw [e3 q p3 d]; exact sl _ _ p1 (by omega) (by omega)
      · rw [e4 q (by omega)]; exact hCD _ _ p1 c (by omega) p4
    · rw [e2 p (by omega) p2]
      by_cases d : q < y
      · rw [e3 q p3 d]; exact hAB _ _ (by omega) (by omega) (by omega) (by omega)
      · rw [e4 q (by omega)]; exact sr _ _ (by omega) (by omega) p4
  · rw [e1 p (by omega), e1 q p3]; exact sl _ _ p1 p2 (by omega)
  · rw [e2 p p1 (by omega), e2 q (by omega) p3]; exact sr _ _ (by omega) (by omega) (by omega)
  · rw [e3 p p1 (by omega), e3 q (by omega) p3]; exact sl _ _ (by omega) (by omega) (by omega)
  · rw [e4 p p1, e4 q (by omega)]; exact sr _ _ (by omega) p2 p3
  · rw [e1 p p2, e2 q p3 p4]; exact ht _ _ p1 (by omega) (by omega) (by omega)
  · rw [e3 p p1 p2, e4 q p3]; exact ht _ _ (by omega) (by omega) (by omega) p4
theorem srt_join {K : Nat → Int} {a mid b : Nat} {u : Nat → Nat} (h1 : Srt K a mid u) (h2 : Srt K mid b u) (h : ∀ p q, a ≤ p → p < mid → mid ≤ q → q < b → Lx K (u p) (u q)) : Srt K a b u := fun p q p1 p2 p3 => by
  by_cases c : q < mid
  · exact h1 p q p1 p2 c
  · by_cases d : p < mid
    · exact h p q p1 d (by omega) p3
    · exact h2 p q (by omega) p2 p3
/-- Behind the two merges of the halves. -/
theorem merge_end {K : Nat → Int} {a mid b : Nat} {u v w : Nat → Nat} (hm : a ≤ mid) (hb : mid ≤ b) (hx : ∀ p q, a ≤ p → p < mid → mid ≤ q → q < b → Lx K (u p) (u q)) (w1 : Win a mid u v) (s1 : Srt K a mid v) (w2 : Win mid b v w) (s2 : Srt K mid b w) :
    Win a b u w ∧ Srt K a b w := by
  refine ⟨(w1.mono (Nat.le_refl _) hb).trans (w2.mono hm (Nat.le_refl _)), srt_join (s1.congr fun k _ k2 => w2.1 k (Or.inl k2)) s2 fun p q p1 p2 p3 p4 => ?_⟩
  rw [w2.1 p (Or.inl p2)]
  obtain ⟨p', a1, a2, e⟩ := w1.2.1 p p1 p2
  obtain ⟨q', b1, b2, e'⟩ := w2.2.1 q p3 p4
  rw [e, e', w1.1 q' (Or.inr b1)]
  exact hx p' q' a1 a2 b1 b2

/-! ### the blocks -/
/-- All numbers ahead of place x are less than all behind it. -/
def OrdAt (n x : Nat) (s : Nat → Nat) : Prop := ∀ i j, i < x → x ≤ j → j < n → s i < s j
theorem OrdAt.win {n x a b : Nat} {s t : Nat → Nat} (h : OrdAt n x s) (w : Win a b s t) (hb : b ≤ n) (hx : x ≤ a ∨ b ≤ x) : OrdAt n x t := by
  intro i j hi hj hjn
  obtain ⟨i', hi', e1⟩ : ∃ i', i' < x ∧ t i = s i' := by
    by_cases c : a ≤ i ∧ i < b
    · obtain ⟨k, k1, k2, e⟩ := w.2.1 i c.1 c.2
      exact ⟨k, by omega, e⟩
    · exact ⟨i, hi, w.1 i (by omega)⟩
  obtain ⟨j', hj1, hj2, e2⟩ : ∃ j', x ≤ j' ∧ j' < n ∧ t j = s j' := by
    by_cases c : a ≤ j ∧ j < b
    · obtain ⟨k, k1, k2, e⟩ := w.2.1 j c.1 c.2
      exact ⟨k, by omega, by omega, e⟩
    · exact ⟨j, hj, hjn, w.1 j (by omega)⟩
  rw [e1, e2]
  exact h i' j' hi' hj1 hj2
/-- From place x to place y the blocks of bs places are each in order, and their heads part the numbers. -/
def SB (K : Nat → Int) (n bs x y : Nat) (s : Nat → Nat) : Prop := ∀ p, x ≤ p * bs → p * bs < y → (∀ e, e ≤ p * bs + bs → e ≤ n → Srt K (p * bs) e s) ∧ OrdAt n (p * bs) s
theorem mul_gap {p q bs : Nat} (h : p * bs < q * bs) : p * bs + bs ≤ q * bs := by
  have h1 : p < q := Nat.lt_of_mul_lt_mul_right h
  have h2 := Nat.mul_le_mul_right bs (show p + 1 ≤ q from h1)
  rw [Nat.add_mul, Nat.one_mul] at h2
  exact h2
/-- One block more. -/
theorem SB.step {K : Nat → Int} {n bs q e : Nat} {s t : Nat → Nat} (h : SB K n bs 0 (q * bs) s) (hq : OrdAt n (q * bs) s) (w : Win (q * bs) e s t) (he : e ≤ n) (hs : Srt K (q * bs) e t) (hfull : e = q * bs + bs ∨ e = n) : SB K n bs 0 (q * bs + 1) t := by
  intro p _ hp
  by_cases c : p * bs < q * bs
  · have g := mul_gap c
    obtain ⟨h1, h2⟩ := h p (Nat.zero_le _) c
    exact ⟨fun e' e1 e2 => (h1 e' e1 e2).congr fun k _ k2 => w.1 k (Or.inl (by omega)), h2.win w he (Or.inl (by omega))⟩
  · have e0 : p * bs = q * bs := by omega
    rw [e0]
    exact ⟨fun e' e1 e2 => hs.mono (Nat.le_refl _) (by omega), hq.win w he (Or.inl (Nat.le_refl _))⟩
theorem SB.win {K : Nat → Int} {n bs x y a b : Nat} {s t : Nat → Nat} (h : SB K n bs x y s) (w : Win a b s t) (hb : b ≤ n) (hx : b ≤ x) : SB K n bs x y t := fun p p1 p2 => by
  obtain ⟨h1, h2⟩ := h p p1 p2
  exact ⟨fun e' e1 e2 => (h1 e' e1 e2).congr fun k k1 _ => w.1 k (Or.inr (by omega)), h2.win w hb (Or.inr (by omega))⟩
theorem SB.mono {K : Nat → Int} {n bs x y x' y' : Nat} {s : Nat → Nat} (h : SB K n bs x y s) (hx : x ≤ x') (hy : ∀ p, p * bs < y' → p * bs < y) : SB K n bs x' y' s := fun p p1 p2 => h p (by omega) (hy p p2)

/-! ### one order only -/
theorem srt_unique {K : Nat → Int} {n : Nat} {s t : Nat → Nat} (hs : Srt K 0 n s) (ht : Srt K 0 n t) (st : ∀ k, k < n → ∃ j, j < n ∧ s k = t j) (ts : ∀ k, k < n → ∃ j, j < n ∧ t k = s j) : ∀ k, k < n → s k = t k := by
  intro k
  induction k using Nat.strongRecOn with
  | _ k ih =>
    intro hk
    have le : ∀ {x y : Nat → Nat} (_ : Srt K 0 n x) (_ : Srt K 0 n y) (_ : ∀ i, i < k → x i = y i), (∃ j, j < n ∧ x k = y j) → y k = x k ∨ Lx K (y k) (x k) := by
      intro x y hx hy hi hj
      obtain ⟨j, j1, e⟩ := hj
      by_cases c : j < k
      · have h1 := hi j c
        have h2 := hx j k (Nat.zero_le _) c hk
        rw [h1, ← e] at h2
        exact (h2.ne rfl).elim
      · by_cases d : j = k
        · left; rw [e, d]
        · right; rw [e]; exact hy k j (Nat.zero_le _) (by omega) j1
    have h1 := le hs ht (fun i hi => ih i hi (by omega)) (st k hk)
    have h2 := le ht hs (fun i hi => (ih i hi (by omega)).symm) (ts k hk)
    rcases h1 with h1 | h1
    · exact h1.symm
    · rcases h2 with h2 | h2
      · exact h2
      · exact (h1.asymm h2).elim
end Go.Proofs.Qxb6613603a
