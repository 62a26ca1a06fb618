/- The plain laws of the stable sort: the two phases. -/
import Derived.Test.Qxb6613603aPlain2
namespace Go.Proofs.Qxb6613603a

/-- The first phase: blocks of twenty, the first A places done, the rest untouched. -/
def Ph1 (K : Nat → Int) (n A : Nat) (s : Nat → Nat) : Prop := (∃ q, A = q * 20) ∧ SB K n 20 0 A s ∧ Win 0 A (fun k => k) s
theorem ord_id (n x : Nat) : OrdAt n x (fun k => k) := fun i j h1 h2 _ => by show i < j; omega
theorem ph1_start (K : Nat → Int) (n : Nat) : Ph1 K n 0 (fun k => k) := ⟨⟨0, rfl⟩, fun p _ h => by omega, Win.refl _ _ _⟩
theorem ph1_tags {K : Nat → Int} {n A : Nat} {s : Nat → Nat} (h : Ph1 K n A s) (b : Nat) : ∀ p q, A ≤ p → p < q → q < b → s p < s q := fun p q h1 h2 _ => by
  rw [h.2.2.1 p (Or.inr h1), h.2.2.1 q (Or.inr (by omega))]; exact h2
theorem ph1_ord {K : Nat → Int} {n A : Nat} {s : Nat → Nat} (h : Ph1 K n A s) (ha : A ≤ n) : OrdAt n A s := (ord_id n A).win h.2.2 ha (Or.inr (Nat.le_refl _))
theorem ph1_step {K : Nat → Int} {n A : Nat} {s t : Nat → Nat} (h : Ph1 K n A s) (hn : A + 20 ≤ n) (hw : Win A (A + 20) s t) (hs : Srt K A (A + 20) t) : Ph1 K n (A + 20) t := by
  have ho := ph1_ord h (by omega)
  obtain ⟨⟨q, rfl⟩, h2, h3⟩ := h
  refine ⟨⟨q + 1, by omega⟩, (h2.step ho hw hn hs (Or.inl rfl)).mono (Nat.le_refl _) fun p hp => by omega, (h3.mono (Nat.le_refl _) (by omega)).trans (hw.mono (by omega) (Nat.le_refl _))⟩
theorem ph1_end {K : Nat → Int} {n A : Nat} {s t : Nat → Nat} (h : Ph1 K n A s) (ha : A < n) (hn : n < A + 20) (hw : Win A n s t) (hs : Srt K A n t) : SB K n 20 0 n t ∧ Win 0 n (fun k => k) t := by
  have ho := ph1_ord h (by omega)
  obtain ⟨⟨q, rfl⟩, h2, h3⟩ := h
  exact ⟨(h2.step ho hw (Nat.le_refl _) hs (Or.inr rfl)).mono (Nat.le_refl _) fun p hp => by omega, (h3.mono (Nat.le_refl _) (by omega)).trans (hw.mono (by omega) (Nat.le_refl _))⟩

/-- A later phase: the first A places lie in blocks of twice the size, the rest in blocks of the old. -/
def Ph2 (K : Nat → Int) (n bs A : Nat) (s : Nat → Nat) : Prop := (∃ q, A = q * (2 * bs)) ∧ SB K n (2 * bs) 0 A s ∧ SB K n bs A n s
theorem ph2_start {K : Nat → Int} {n bs : Nat} {s : Nat → Nat} (h : SB K n bs 0 n s) : Ph2 K n bs 0 s := ⟨⟨0, by omega⟩, fun p _ h => by omega, h⟩
theorem mul_two (q bs : Nat) : q * (2 * bs) = (2 * q) * bs := by rw [← Nat.mul_assoc, Nat.mul_comm q 2]
theorem mul_two1 (q bs : Nat) : q * (2 * bs) + bs = (2 * q + 1) * bs := by rw [mul_two, Nat.add_mul, Nat.one_mul]
theorem ph2_one {K : Nat → Int} {n bs A : Nat} {s : Nat → Nat} (h : Ph2 K n bs A s) (ha : A < n) : (∀ e, e ≤ A + bs → e ≤ n → Srt K A e s) ∧ OrdAt n A s := by
  obtain ⟨⟨q, e⟩, _, h3⟩ := h
  have := h3 (2 * q) (by rw [← mul_two]; omega) (by rw [← mul_two]; omega)
  rw [← mul_two, ← e] at this
  exact this
theorem ph2_two {K : Nat → Int} {n bs A : Nat} {s : Nat → Nat} (h : Ph2 K n bs A s) (ha : A + bs < n) : (∀ e, e ≤ A + bs + bs → e ≤ n → Srt K (A + bs) e s) ∧ OrdAt n (A + bs) s := by
  obtain ⟨⟨q, e⟩, _, h3⟩ := h
  have := h3 (2 * q + 1) (by rw [← mul_two1]; omega) (by rw [← mul_two1]; omega)
  rw [← mul_two1, ← e] at this
  exact this
theorem mul_low {p q B : Nat} (h : p * B < (q + 1) * B) : p * B < q * B + 1 := by
  have h1 : p < q + 1 := Nat.lt_of_mul_lt_mul_right h
  have h2 := Nat.mul_le_mul_right B (show p ≤ q by omega)
  omega
theorem ph2_step {K : Nat → Int} {n bs A : Nat} {s t : Nat → Nat} (h : Ph2 K n bs A s) (hbs : 0 < bs) (hn : A + 2 * bs ≤ n) (hw : Win A (A + 2 * bs) s t) (hs : Srt K A (A + 2 * bs) t) : Ph2 K n bs (A + 2 * bs) t := by
  have ho := (ph2_one h (by omega)).2
  obtain ⟨⟨q, rfl⟩, h2, h3⟩ := h
  have e : q * (2 * bs) + 2 * bs = (q + 1) * (2 * bs) := by rw [Nat.add_mul, Nat.one_mul]
  exact ⟨⟨q + 1, e⟩, (h2.step ho hw hn hs (Or.inl rfl)).mono (Nat.le_refl _) fun p hp => mul_low (by rw [e] at hp; exact hp),
    (h3.mono (by omega) fun p hp => hp).win hw hn (Nat.le_refl _)⟩
theorem ph2_end {K : Nat → Int} {n bs A : Nat} {s t : Nat → Nat} (h : Ph2 K n bs A s) (ha : A < n) (hn : n < A + 2 * bs) (hw : Win A n s t) (hs : Srt K A n t) : SB K n (2 * bs) 0 n t := by
  have ho := (ph2_one h ha).2
  obtain ⟨⟨q, rfl⟩, h2, h3⟩ := h
  exact (h2.step ho hw (Nat.le_refl _) hs (Or.inr rfl)).mono (Nat.le_refl _) fun p hp => mul_low (by rw [Nat.add_mul, Nat.one_mul]; omega)
theorem sb_all {K : Nat → Int} {n bs : Nat} {s : Nat → Nat} (h : SB K n bs 0 n s) (hn : n ≤ bs) : Srt K 0 n s := by
  by_cases c : 0 < n
  · have := (h 0 (Nat.zero_le _) (by omega)).1 n (by omega) (Nat.le_refl _)
    rw [Nat.zero_mul] at this
    exact this
  · intro i j h1 h2 h3; omega
end Go.Proofs.Qxb6613603a
