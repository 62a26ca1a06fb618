/- The plain law of the model: the last mention tells who is a voter. -/
import Derived.Test.Qxb6613603aPlain5
namespace Go.Proofs.Qxb6613603a

theorem run_none {V : Int → Bool} {f : Nat → Int × Int} {x : Int} : ∀ {l : Nat}, (∀ b, b < l → (f b).2 ≠ x) → runS V f l x = V x
  | 0, _ => rfl
  | l + 1, h => by
    show upd _ _ _ x = _
    unfold upd
    rw [if_neg (fun e => h l (by omega) e.symm)]
    exact run_none fun b hb => h b (by omega)
theorem run_last {V : Int → Bool} {f : Nat → Int × Int} {x : Int} : ∀ {l a : Nat}, a < l → (f a).2 = x → (∀ b, a < b → b < l → (f b).2 ≠ x) → runS V f l x = decide ((f a).1 = 0)
  | l + 1, a, ha, he, h => by
    show upd _ _ _ x = _
    unfold upd
    by_cases c : a = l
    · subst c
      rw [if_pos he.symm]
    · rw [if_neg (fun e => h l (by omega) (by omega) e.symm)]
      exact run_last (l := l) (by omega) he fun b h1 h2 => h b h1 (by omega)
theorem last_mention {f : Nat → Int × Int} {x : Int} : ∀ {e : Nat}, (∃ a, a < e ∧ (f a).2 = x) → ∃ a, a < e ∧ (f a).2 = x ∧ ∀ b, a < b → b < e → (f b).2 ≠ x
  | 0, h => by obtain ⟨a, h, _⟩ := h; omega
  | e + 1, h => by
    by_cases c : (f e).2 = x
    · exact ⟨e, by omega, c, fun b h1 h2 => by omega⟩
    · have : ∃ a, a < e ∧ (f a).2 = x := by
        obtain ⟨a, h1, h2⟩ := h
        have : a ≠ e := fun q => c (by rw [← q]; exact h2)
        exact ⟨a, by omega, h2⟩
      obtain ⟨a, h1, h2, h3⟩ := last_mention this
      refine ⟨a, by omega, h2, fun b b1 b2 => ?_⟩
      by_cases d : b = e
      · subst d; exact c
      · exact h3 b b1 (by omega)
theorem runS_add {V : Int → Bool} {f : Nat → Int × Int} (a : Nat) : ∀ b, runS V f (a + b) = runS (runS V f a) (fun j => f (a + j)) b
  | 0 => rfl
  | b + 1 => by
    show upd (runS V f (a + b)) _ _ = upd _ _ _
    rw [runS_add a b]
    rfl

/-! ### how many of 1 .. N -/
def cm (P : Nat → Bool) : Nat → Nat
  | 0 => 0
  | m + 1 => cm P m + if P (m + 1) then 1 else 0
theorem cm_le (P : Nat → Bool) : ∀ N, cm P N ≤ N
  | 0 => Nat.le_refl _
  | m + 1 => by
    have := cm_le P m
    show cm P m + _ ≤ _
    split <;> omega
theorem cm_lt {P : Nat → Bool} : ∀ {N : Nat}, cm P N < N ↔ ∃ x, 1 ≤ x ∧ x ≤ N ∧ P x = false
  | 0 => ⟨fun h => by omega, fun ⟨x, h1, h2, _⟩ => by omega⟩
  | m + 1 => by
    have ih := cm_lt (P := P) (N := m)
    have hle := cm_le P m
    show cm P m + (if P (m + 1) then 1 else 0) < m + 1 ↔ _
    cases hp : P (m + 1)
    · simp
      constructor
      · intro _; exact ⟨m + 1, by omega, by omega, hp⟩
      · intro _; omega
    · simp
      rw [ih]
      constructor
      · rintro ⟨x, h1, h2, h3⟩; exact ⟨x, h1, by omega, h3⟩
      · rintro ⟨x, h1, h2, h3⟩
        have : x ≠ m + 1 := fun e => by rw [e, hp] at h3; cases h3
        exact ⟨x, h1, by omega, h3⟩
theorem cm_congr {P Q : Nat → Bool} : ∀ {N : Nat}, (∀ x, 1 ≤ x → x ≤ N → P x = Q x) → cm P N = cm Q N
  | 0, _ => rfl
  | m + 1, h => by
    show cm P m + _ = cm Q m + _
    rw [cm_congr fun x h1 h2 => h x h1 (by omega), h (m + 1) (by omega) (by omega)]
theorem cm_add {P : Nat → Bool} {y : Int} : ∀ {N : Nat}, cm (fun x => P x || decide (y = (x : Int))) N = cm P N + if 1 ≤ y ∧ y ≤ (N : Int) ∧ P y.toNat = false then 1 else 0
  | 0 => by
    rw [if_neg (by omega)]
    rfl
  | m + 1 => by
    show cm _ m + (if (P (m + 1) || decide (y = ((m + 1 : Nat) : Int))) then 1 else 0) = (cm P m + if P (m + 1) then 1 else 0) + _
    rw [cm_add (N := m)]
    by_cases c : y = ((m + 1 : Nat) : Int)
    · have e : y.toNat = m + 1 := by omega
      rw [decide_eq_true c, Bool.or_true, if_pos rfl, e, if_neg (by omega)]
      cases hp : P (m + 1)
      · rw [if_neg (by simp), if_pos ⟨by omega, by omega, rfl⟩]
      · rw [if_pos rfl, if_neg (by simp)]
    · rw [decide_eq_false c, Bool.or_false]
      have : (1 ≤ y ∧ y ≤ ((m + 1 : Nat) : Int) ∧ P y.toNat = false) ↔ (1 ≤ y ∧ y ≤ (m : Int) ∧ P y.toNat = false) := by
        constructor
        · rintro ⟨h1, h2, h3⟩; exact ⟨h1, by omega, h3⟩
        · rintro ⟨h1, h2, h3⟩; exact ⟨h1, by omega, h3⟩
      simp only [this]
      omega

/-- Is x among the first e names? -/
def men (Q : Nat → Int × Int) : Nat → Nat → Bool
  | 0, _ => false
  | e + 1, x => men Q e x || decide ((Q e).2 = (x : Int))
theorem men_false {Q : Nat → Int × Int} {x : Nat} : ∀ {e : Nat}, men Q e x = false ↔ ∀ b, b < e → (Q b).2 ≠ (x : Int)
  | 0 => ⟨fun _ b hb => by omega, fun _ => rfl⟩
  | e + 1 => by
    show (men Q e x || decide ((Q e).2 = (x : Int))) = false ↔ _
    rw [Bool.or_eq_false_iff, men_false (e := e), decide_eq_false_iff_not]
    constructor
    · rintro ⟨h1, h2⟩ b hb
      by_cases c : b = e
      · subst c; exact h2
      · exact h1 b (by omega)
    · intro h
      exact ⟨fun b hb => h b (by omega), h e (by omega)⟩
/-- What the model counts. -/
def nbc (fb : Nat → Bool) (Q : Nat → Int × Int) (N : Nat) : Nat → Nat
  | 0 => 0
  | a + 1 => nbc fb Q N a + if fb a = true ∧ 1 ≤ (Q a).2 ∧ (Q a).2 ≤ (N : Int) then 1 else 0
def IsFi (Q : Nat → Int × Int) (a : Nat) (b : Bool) : Prop := b = true ↔ ∀ c, c < a → (Q c).2 ≠ (Q a).2
def IsNx (Q : Nat → Int × Int) (tot a nx : Nat) : Prop := a < nx ∧ nx ≤ tot ∧ (∀ b, a < b → b < nx → (Q b).2 ≠ (Q a).2) ∧ (nx = tot ∨ (Q nx).2 = (Q a).2)
theorem nbc_eq {fb : Nat → Bool} {Q : Nat → Int × Int} {N : Nat} : ∀ {e : Nat}, (∀ a, a < e → IsFi Q a (fb a)) → nbc fb Q N e = cm (men Q e) N
  | 0, _ => by
    show 0 = _
    have : ∀ N, cm (men Q 0) N = 0 := fun N => by
      induction N with
      | zero => rfl
      | succ m ih => show cm (men Q 0) m + 0 = 0; rw [ih]
    rw [this]
  | e + 1, h => by
    show nbc fb Q N e + _ = cm (fun x => men Q e x || decide ((Q e).2 = (x : Int))) N
    rw [cm_add, nbc_eq fun a ha => h a (by omega)]
    congr 1
    have hf := h e (by omega)
    have : (fb e = true ∧ 1 ≤ (Q e).2 ∧ (Q e).2 ≤ (N : Int)) ↔ (1 ≤ (Q e).2 ∧ (Q e).2 ≤ (N : Int) ∧ men Q e (Q e).2.toNat = false) := by
      constructor
      · rintro ⟨h1, h2, h3⟩
        refine ⟨h2, h3, men_false.2 fun b hb => ?_⟩
        rw [show (((Q e).2.toNat : Nat) : Int) = (Q e).2 by omega]
        exact hf.1 h1 b hb
      · rintro ⟨h2, h3, h4⟩
        refine ⟨hf.2 fun c hc => ?_, h2, h3⟩
        have := men_false.1 h4 c hc
        rw [show (((Q e).2.toNat : Nat) : Int) = (Q e).2 by omega] at this
        exact this
    simp only [this]
theorem nx_ge {Q : Nat → Int × Int} {tot a nx e : Nat} (h : IsNx Q tot a nx) (_ : a < e) (he : e ≤ tot) : e ≤ nx ↔ ∀ b, a < b → b < e → (Q b).2 ≠ (Q a).2 := by
  obtain ⟨h1, h2, h3, h4⟩ := h
  constructor
  · intro h b b1 b2; exact h3 b b1 (by omega)
  · intro h
    rcases h4 with h4 | h4
    · omega
    · by_cases c : e ≤ nx
      · exact c
      · exact (h nx h1 (by omega) h4).elim
theorem model_law {fb : Nat → Bool} {nx : Nat → Nat} {Q : Nat → Int × Int} {N tot e : Nat} (he : e ≤ tot) (hf : ∀ a, a < tot → IsFi Q a (fb a)) (hn : ∀ a, a < tot → IsNx Q tot a (nx a)) :
    ((∃ a, a < e ∧ (Q a).1 = 0 ∧ e ≤ nx a) ∨ nbc fb Q N e < N) ↔ ¬ Emp (runS (base N) Q e) := by
  rw [nbc_eq fun a ha => hf a (by omega), cm_lt]
  constructor
  · rintro (⟨a, h1, h2, h3⟩ | ⟨x, h1, h2, h3⟩) hE
    · have := run_last (V := base N) h1 rfl ((nx_ge (hn a (by omega)) h1 he).1 h3)
      rw [hE _, h2] at this
      simp at this
    · have := run_none (V := base N) (men_false.1 h3)
      rw [hE _] at this
      have hb : base N (x : Int) = true := decide_eq_true ⟨by omega, by omega⟩
      rw [hb] at this
      cases this
  · intro hE
    have : ∃ x, runS (base N) Q e x = true := by
      apply Classical.byContradiction
      intro h
      exact hE fun x => by
        cases hx : runS (base N) Q e x
        · rfl
        · exact (h ⟨x, hx⟩).elim
    obtain ⟨x, hx⟩ := this
    by_cases c : ∃ a, a < e ∧ (Q a).2 = x
    · obtain ⟨a, h1, h2, h3⟩ := last_mention c
      rw [run_last h1 h2 h3] at hx
      exact Or.inl ⟨a, h1, of_decide_eq_true hx, (nx_ge (hn a (by omega)) h1 he).2 (by rw [h2]; exact h3)⟩
    · rw [run_none fun b hb e => c ⟨b, hb, e⟩] at hx
      have hb : 1 ≤ x ∧ x ≤ (N : Int) := of_decide_eq_true hx
      refine Or.inr ⟨x.toNat, by omega, by omega, men_false.2 fun b hb' => ?_⟩
      rw [show ((x.toNat : Nat) : Int) = x by omega]
      exact fun e => c ⟨b, hb', e⟩

/-! ### the changes laid end to end -/
def off (L : Nat → Nat) (s : Nat → Nat) : Nat → Nat
  | 0 => 0
  | k + 1 => off L s k + L (s k)
theorem off_le {L : Nat → Nat} {s : Nat → Nat} {k n : Nat} (h : k ≤ n) : off L s k ≤ off L s n := by
  induction n with
  | zero => obtain rfl : k = 0 := by omega
            exact Nat.le_refl _
  | succ n ih =>
    by_cases c : k = n + 1
    · subst c; exact Nat.le_refl _
    · have := ih (by omega)
      show _ ≤ off L s n + _
      omega
theorem off_congr {L : Nat → Nat} {s t : Nat → Nat} : ∀ {m : Nat}, (∀ k, k < m → s k = t k) → off L s m = off L t m
  | 0, _ => rfl
  | m + 1, h => by
    show off L s m + _ = off L t m + _
    rw [off_congr fun k hk => h k (by omega), h m (by omega)]
theorem off_rot_part {L : Nat → Nat} {u : Nat → Nat} {i j : Nat} (hj : j ≤ i) : ∀ d, j + d ≤ i → off L (rot u j i (i + 1)) (j + d + 1) = off L u (j + d) + L (u i)
  | 0, _ => by
    show off L (rot u j i (i + 1)) j + L (rot u j i (i + 1) j) = _
    rw [off_congr (t := u) fun k hk => rot_out (by omega) (by omega) (Or.inl hk), rot_lo (Nat.le_refl _) (by omega)]
    rw [show j - j + i = i by omega]
    rfl
  | d + 1, h => by
    show off L (rot u j i (i + 1)) (j + d + 1) + L (rot u j i (i + 1) (j + d + 1)) = (off L u (j + d) + L (u (j + d))) + _
    rw [off_rot_part hj d (by omega), rot_hi (by omega) (by omega), show j + d + 1 - (i + 1 - i) = j + d by omega]
    omega
theorem off_rot {L : Nat → Nat} {u : Nat → Nat} {i j : Nat} (hj : j ≤ i) : off L (rot u j i (i + 1)) (i + 1) = off L u i + L (u i) := by
  have := off_rot_part (L := L) (u := u) hj (i - j) (by omega)
  rw [show j + (i - j) = i by omega] at this
  exact this
theorem Vs_flat {N n : Nat} {L : Nat → Nat} {F : Nat → Nat → Int × Int} {s : Nat → Nat} {Q : Nat → Int × Int} (hQ : ∀ k j, k < n → j < L (s k) → Q (off L s k + j) = F (s k) j) : ∀ {k : Nat}, k ≤ n → Vs N L F s k = runS (base N) Q (off L s k)
  | 0, _ => rfl
  | k + 1, hk => by
    show runS (Vs N L F s k) (F (s k)) (L (s k)) = runS (base N) Q (off L s k + L (s k))
    rw [Vs_flat hQ (k := k) (by omega), runS_add]
    exact runS_congr fun j hj => (hQ k j (by omega) hj).symm
end Go.Proofs.Qxb6613603a
