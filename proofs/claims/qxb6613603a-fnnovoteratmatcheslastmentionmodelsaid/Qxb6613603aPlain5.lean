/- The plain law of the closing removal. -/
import Derived.Test.Qxb6613603aPlain4
namespace Go.Proofs.Qxb6613603a

theorem runS_congr {V : Int → Bool} {f g : Nat → Int × Int} : ∀ {l : Nat}, (∀ j, j < l → f j = g j) → runS V f l = runS V g l
  | 0, _ => rfl
  | l + 1, h => by
    show upd _ _ _ = upd _ _ _
    rw [runS_congr (l := l) fun j hj => h j (by omega), h l (by omega)]
theorem runS_false {V : Int → Bool} {f : Nat → Int × Int} {x : Int} : ∀ {l : Nat}, (∀ j, j < l → (f j).1 ≠ 0) → runS V f l x = true → V x = true ∧ ∀ j, j < l → (f j).2 ≠ x
  | 0, _, h => ⟨h, fun j hj => by omega⟩
  | l + 1, ht, h => by
    change upd _ _ _ x = true at h
    unfold upd at h
    by_cases c : x = (f l).2
    · rw [if_pos c, decide_eq_false (ht l (by omega))] at h
      cases h
    · rw [if_neg c] at h
      obtain ⟨h1, h2⟩ := runS_false (l := l) (fun j hj => ht j (by omega)) h
      refine ⟨h1, fun j hj => ?_⟩
      by_cases d : j < l
      · exact h2 j d
      · obtain rfl : j = l := by omega
        exact fun e => c e.symm
theorem runS_true {V : Int → Bool} {f : Nat → Int × Int} {x : Int} : ∀ {l : Nat}, runS V f l x = true → V x = true ∨ ∃ j, j < l ∧ (f j).2 = x
  | 0, h => Or.inl h
  | l + 1, h => by
    change upd _ _ _ x = true at h
    unfold upd at h
    by_cases c : x = (f l).2
    · exact Or.inr ⟨l, by omega, c.symm⟩
    · rw [if_neg c] at h
      rcases runS_true (l := l) h with h | ⟨j, j1, j2⟩
      · exact Or.inl h
      · exact Or.inr ⟨j, by omega, j2⟩
theorem Vs_true {N n : Nat} {L : Nat → Nat} {F : Nat → Nat → Int × Int} {s : Nat → Nat} {x : Int} (hs : ∀ k, k < n → s k < n) : ∀ {k : Nat}, k ≤ n → Vs N L F s k x = true → (1 ≤ x ∧ x ≤ (N : Int)) ∨ ∃ i j, i < n ∧ j < L i ∧ (F i j).2 = x
  | 0, _, h => by
    change base N x = true at h
    exact Or.inl (of_decide_eq_true h)
  | k + 1, hk, h => by
    change runS _ _ _ x = true at h
    rcases runS_true h with h | ⟨j, j1, j2⟩
    · exact Vs_true hs (k := k) (by omega) h
    · exact Or.inr ⟨s k, j, hs k (by omega), j1, j2⟩

theorem closing_law {n N m : Nat} {last : Int} {K1 K2 : Nat → Int} {L1 L2 : Nat → Nat} {F1 F2 : Nat → Nat → Int × Int} {s1 s2 : Nat → Nat} {T1 T2 : Int} {ok1 ok2 : Bool}
    (hK : ∀ i, i < n → K2 i = K1 i) (hL : ∀ i, i < n → L2 i = L1 i) (hF : ∀ i, i < n → ∀ j, j < L1 i → F2 i j = F1 i j) (hlast : K2 n = last) (hlt : ∀ i, i < n → K1 i < last) (hm : L2 n = m)
    (hT : ∀ j, j < m → (F2 n j).1 ≠ 0) (hc1 : ∀ x : Int, 1 ≤ x → x ≤ (N : Int) → ∃ j, j < m ∧ (F2 n j).2 = x) (hc2 : ∀ i j, i < n → j < L1 i → ∃ j', j' < m ∧ (F2 n j').2 = (F1 i j).2)
    (w1 : Win 0 n (fun k => k) s1) (r1 : Srt K1 0 n s1) (w2 : Win 0 (n + 1) (fun k => k) s2) (r2 : Srt K2 0 (n + 1) s2)
    (a1 : Ans n K1 (Vs N L1 F1 s1) s1 T1 ok1) (a2 : Ans (n + 1) K2 (Vs N L2 F2 s2) s2 T2 ok2) : (ok1 = true → ok2 = true ∧ T2 = T1) ∧ (ok1 = false → T1 = 0 ∧ ok2 = true ∧ T2 = last) := by
  have b1 : ∀ k, k < n → s1 k < n := fun k hk => by obtain ⟨j, _, j2, e⟩ := w1.2.1 k (Nat.zero_le _) hk; rw [e]; exact j2
  have ht : Srt K2 0 (n + 1) (fun k => if k < n then s1 k else n) := by
    intro i j _ h2 h3
    dsimp only
    rw [if_pos (show i < n by omega)]
    have hi := b1 i (by omega)
    by_cases c : j < n
    · rw [if_pos c]
      have hj := b1 j c
      have := r1 i j (Nat.zero_le _) h2 c
      unfold Lx at this ⊢
      rw [hK _ hi, hK _ hj]
      exact this
    · rw [if_neg c]
      left
      rw [hK _ hi, hlast]
      exact hlt _ hi
  have heq := srt_unique r2 ht (fun k hk => by
      obtain ⟨j, _, j2, e⟩ := w2.2.1 k (Nat.zero_le _) hk
      change s2 k = j at e
      by_cases c : j < n
      · obtain ⟨i, _, i2, e'⟩ := w1.2.2 j (Nat.zero_le _) c
        change j = s1 i at e'
        exact ⟨i, by omega, by rw [if_pos i2, e, e']⟩
      · exact ⟨n, by omega, by rw [if_neg (by omega), e]; omega⟩) (fun k hk => by
      have hb : (if k < n then s1 k else n) < n + 1 := by
        by_cases c : k < n
        · rw [if_pos c]; have := b1 k c; omega
        · rw [if_neg c]; omega
      obtain ⟨i, _, i2, e'⟩ := w2.2.2 _ (Nat.zero_le _) hb
      exact ⟨i, i2, e'⟩)
  have e1 : ∀ k, k < n → s2 k = s1 k := fun k hk => by have := heq k (by omega); rw [if_pos hk] at this; exact this
  have e2 : s2 n = n := by have := heq n (by omega); rw [if_neg (by omega)] at this; exact this
  have hV : ∀ k, k ≤ n → Vs N L2 F2 s2 k = Vs N L1 F1 s1 k := by
    intro k
    induction k with
    | zero => intro _; rfl
    | succ k ih =>
      intro hk
      show runS _ _ _ = runS _ _ _
      have hb := b1 k (by omega)
      rw [ih (by omega), e1 k (by omega), hL _ hb]
      exact runS_congr fun j hj => hF _ hb j hj
  have hE : Emp (Vs N L2 F2 s2 (n + 1)) := by
    intro x
    cases hx : Vs N L2 F2 s2 (n + 1) x
    · rfl
    · change runS (Vs N L2 F2 s2 n) (F2 (s2 n)) (L2 (s2 n)) x = true at hx
      rw [e2, hm, hV n (Nat.le_refl _)] at hx
      obtain ⟨h1, h2⟩ := runS_false hT hx
      rcases Vs_true b1 (Nat.le_refl n) h1 with ⟨h3, h4⟩ | ⟨i, j, h3, h4, h5⟩
      · obtain ⟨j, j1, j2⟩ := hc1 x h3 h4
        exact (h2 j j1 j2).elim
      · obtain ⟨j', j1, j2⟩ := hc2 i j h3 h4
        exact (h2 j' j1 (j2.trans h5)).elim
  rcases a1 with ⟨k, k1, k2, k3, k4, k5⟩ | ⟨k1, k2, k3⟩
  · have : Ans (n + 1) K2 (Vs N L2 F2 s2) s2 T1 true := Or.inl ⟨k, by omega, by rw [hV _ (by omega)]; exact k2, fun j hj => by rw [hV _ (by omega)]; exact k3 j hj, by rw [e1 k k1, hK _ (b1 k k1)]; exact k4, rfl⟩
    obtain ⟨q1, q2⟩ := ans_unique a2 this
    exact ⟨fun _ => ⟨q2, q1⟩, fun h => (by rw [k5] at h; cases h)⟩
  · have : Ans (n + 1) K2 (Vs N L2 F2 s2) s2 last true := Or.inl ⟨n, by omega, hE, fun j hj => by rw [hV _ (by omega)]; exact k1 j hj, by rw [e2]; exact hlast.symm, rfl⟩
    obtain ⟨q1, q2⟩ := ans_unique a2 this
    exact ⟨fun h => (by rw [k3] at h; cases h), fun _ => ⟨k2, q2, q1⟩⟩
end Go.Proofs.Qxb6613603a
