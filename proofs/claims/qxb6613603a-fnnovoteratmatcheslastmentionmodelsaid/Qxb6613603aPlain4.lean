/- The plain model of noVoterAt: who is a voter behind each change. -/
import Derived.Test.Qxb6613603aPlain3
namespace Go.Proofs.Qxb6613603a

/-- One single change: type nought makes a voter, any other type unmakes one. -/
def upd (V : Int → Bool) (t id : Int) : Int → Bool := fun x => if x = id then decide (t = 0) else V x
def runS (V : Int → Bool) (f : Nat → Int × Int) : Nat → Int → Bool
  | 0 => V
  | j + 1 => upd (runS V f j) (f j).1 (f j).2
def base (N : Nat) : Int → Bool := fun x => decide (1 ≤ x ∧ x ≤ (N : Int))
/-- Who is a voter behind the first k changes in the order s. -/
def Vs (N : Nat) (L : Nat → Nat) (F : Nat → Nat → Int × Int) (s : Nat → Nat) : Nat → Int → Bool
  | 0 => base N
  | k + 1 => runS (Vs N L F s k) (F (s k)) (L (s k))
def Emp (V : Int → Bool) : Prop := ∀ x, V x = false
/-- What noVoterAt answers. -/
def Ans (n : Nat) (At : Nat → Int) (V : Nat → Int → Bool) (s : Nat → Nat) (T : Int) (ok : Bool) : Prop :=
  (∃ k, k < n ∧ Emp (V (k + 1)) ∧ (∀ j, j < k → ¬ Emp (V (j + 1))) ∧ T = At (s k) ∧ ok = true) ∨ ((∀ k, k < n → ¬ Emp (V (k + 1))) ∧ T = 0 ∧ ok = false)
theorem base_zero : base 0 = fun _ => false := by funext x; simp [base]; omega
theorem base_succ (k : Nat) : base (k + 1) = upd (base k) 0 ((k : Int) + 1) := by
  funext x
  unfold base upd
  by_cases c : x = (k : Int) + 1
  · rw [if_pos c]; simp; omega
  · rw [if_neg c]
    have : (1 ≤ x ∧ x ≤ ((k + 1 : Nat) : Int)) ↔ (1 ≤ x ∧ x ≤ (k : Int)) := by omega
    simp only [this]
theorem ans_unique {n : Nat} {At : Nat → Int} {V : Nat → Int → Bool} {s : Nat → Nat} {T T' : Int} {ok ok' : Bool} (h : Ans n At V s T ok) (h' : Ans n At V s T' ok') : T = T' ∧ ok = ok' := by
  rcases h with ⟨k, k1, k2, k3, k4, k5⟩ | ⟨k1, k2, k3⟩
  · rcases h' with ⟨j, j1, j2, j3, j4, j5⟩ | ⟨j1, j2, j3⟩
    · have e : k = j := by
        by_cases c : k < j
        · exact (j3 k c k2).elim
        · by_cases d : j < k
          · exact (k3 j d j2).elim
          · omega
      subst e
      exact ⟨k4.trans j4.symm, k5.trans j5.symm⟩
    · exact (j1 k k1 k2).elim
  · rcases h' with ⟨j, j1, j2, j3, j4, j5⟩ | ⟨j1, j2, j3⟩
    · exact (k1 j j1 j2).elim
    · exact ⟨k2.trans j2.symm, k3.trans j3.symm⟩
end Go.Proofs.Qxb6613603a
