import Derived.Test.Qxb6613603aParts
import Derived.Test.Qxb6613603aPlain2
namespace Go.Proofs.Qxb6613603a
open Go.ChangeShapes Go.WideShapes Go.ChangeAt Go.RowKit

set_option maxRecDepth 100000 in
set_option maxHeartbeats 3200000 in
theorem swapr21 (el : Nat → El) (n c g a b m : Nat) (s : Nat → Nat) (w : World) (hR : Hid (Rw el n s g w)) (hn : n ≤ 1000000) (hab : a + m ≤ b) (hb : b + m ≤ n) :
    Calls Try.prog 21 #[.slice (some ⟨g, 0, none⟩) n c, .int .i64 a, .int .i64 b, .int .i64 m, .func (.func 14) #[] #[]] w
      fun e w' => e = .returned (.tuple #[]) ∧ Rw el n (sr s a b m) g w' ∧ Below g w w' := by
  go_enter Try.func21, Try.ntmps21
  go_wp2
  go_loopw [10] (fun i wr => ∃ k : Nat, k ≤ m ∧ i = .int .i64 k ∧ Rw el n (sr s a b k) g wr ∧ Below g w wr) (fun i _ => m - (intOf i).toNat)
  case atStart => exact ⟨0, by omega, rfl, by rw [sr_zero]; exact hR.out, Below.refl _ _⟩
  case round =>
    obtain ⟨k, hk, rfl, hr, hbw⟩ := hrel
    have HR : Hid (Rw el n (sr s a b k) g wr) := hr
    have HB : Hid (Below g w wr) := hbw
    clear hr hbw
    by_cases hlt : k < m
    · obtain ⟨x, hx⟩ : ∃ x, x = el (sr s a b k (a + k)) := ⟨_, rfl⟩
      obtain ⟨y, hy⟩ : ∃ y, y = el (sr s a b k (b + k)) := ⟨_, rfl⟩
      obtain ⟨x0, x1, x2, x3, y0, y1, y2, y3⟩ := HR.out.c8 (i := a + k) (j := b + k) (by omega) (by omega)
      rw [← hx] at x0 x1 x2 x3
      rw [← hy] at y0 y1 y2 y3
      have fz := HR.out.2
      have HSW : Hid (Rw el n (sr s a b (k + 1)) g (put4 (put4 wr g (a + k) y) g (b + k) x).drew) := by
        have := HR.out.swap (i := a + k) (j := b + k) (by omega) (by omega) hx hy
        rw [sr_step s a b m k hab hlt] at this
        exact this
      clear hx hy
      have q0 : (0 : Int) ≤ (a : Int) + (k : Int) := by omega
      have q1 : (a : Int) + (k : Int) < (n : Int) := by omega
      have q2 : (0 : Int) ≤ (b : Int) + (k : Int) := by omega
      have q3 : (b : Int) + (k : Int) < (n : Int) := by omega
      have t0 : ((a : Int) + (k : Int)).toNat = a + k := by omega
      have t1 : ((b : Int) + (k : Int)).toNat = b + k := by omega
      go_wp2_with fail
      go_region
      go_wp2
      go_roundw
      case rel => exact ⟨k + 1, by omega, by go_num, HSW.out, (below_put4 (below_put4 HB.out (Nat.le_refl _) _ _) (Nat.le_refl _) _ _).drew⟩
      case measure => simp [intOf]; omega
    · obtain rfl : k = m := by omega
      go_wp2
      go_end0
      exact ⟨rfl, HR.out, HB.out⟩

set_option maxRecDepth 100000 in
theorem rot20 (el : Nat → El) (n c g a m b : Nat) (s : Nat → Nat) (w : World) (hR : Hid (Rw el n s g w)) (hn : n ≤ 1000000) (ham : a < m) (hmb : m < b) (hb : b ≤ n) :
    Calls Try.prog 20 #[.slice (some ⟨g, 0, none⟩) n c, .int .i64 a, .int .i64 m, .int .i64 b, .func (.func 14) #[] #[]] w
      fun e w' => e = .returned (.tuple #[]) ∧ Rw el n (rot s a m b) g w' ∧ Below g w w' := by
  go_enter Try.func20, Try.ntmps20
  go_wp2
  go_loopw [10, 11] (fun vi vj wr => ∃ (i j : Nat) (t : Nat → Nat), vi = .int .i64 i ∧ vj = .int .i64 j ∧ 0 < i ∧ 0 < j ∧ i ≤ m - a ∧ j ≤ b - m ∧ rot t (m - i) m (m + j) = rot s a m b ∧ Rw el n t g wr ∧ Below g w wr) (fun vi vj _ => (intOf vi).toNat + (intOf vj).toNat)
  case atStart => exact ⟨m - a, b - m, s, by go_num, by go_num, by omega, by omega, by omega, by omega, by rw [show m - (m - a) = a by omega, show m + (b - m) = b by omega], hR.out, Below.refl _ _⟩
  case round =>
    obtain ⟨i, j, t, rfl, rfl, hi0, hj0, hi, hj, hrt, hr, hbw⟩ := hrel
    have HRT : Hid (rot t (m - i) m (m + j) = rot s a m b) := hrt
    have HR : Hid (Rw el n t g wr) := hr
    have HB : Hid (Below g w wr) := hbw
    clear hrt hr hbw
    have e1 : (m : Int) - (i : Int) = ((m - i : Nat) : Int) := by omega
    by_cases hlt : j < i
    · have hne : ((i : Int) == (j : Int)) = false := beq_eq_false_iff_ne.2 (by omega)
      go_wp2_with fail
      refine (swapr21 el n c g (m - i) m j t _ HR hn (by omega) (by omega)).mono ?_
      rintro e w2 ⟨rfl, hr2, hb2⟩
      have HR2 : Hid (Rw el n (sr t (m - i) m j) g w2) := hr2
      have HB2 : Hid (Below g w w2) := HB.out.trans hb2
      clear hr2 hb2
      go_wp2
      go_roundw
      case rel => exact ⟨i - j, j, sr t (m - i) m j, by go_num, rfl, by omega, hj0, by omega, hj, by rw [rot_left t m i j hlt (by omega)]; exact HRT.out, HR2.out, HB2.out⟩
      case measure => simp [intOf]; omega
    · by_cases hlt2 : i < j
      · have hne : ((i : Int) == (j : Int)) = false := beq_eq_false_iff_ne.2 (by omega)
        have e2 : (m : Int) + (j : Int) - (i : Int) = ((m + j - i : Nat) : Int) := by omega
        go_wp2_with fail
        refine (swapr21 el n c g (m - i) (m + j - i) i t _ HR hn (by omega) (by omega)).mono ?_
        rintro e w2 ⟨rfl, hr2, hb2⟩
        have HR2 : Hid (Rw el n (sr t (m - i) (m + j - i) i) g w2) := hr2
        have HB2 : Hid (Below g w w2) := HB.out.trans hb2
        clear hr2 hb2
        go_wp2
        go_roundw
        case rel => exact ⟨i, j - i, sr t (m - i) (m + j - i) i, rfl, by go_num, hi0, by omega, hi, by omega, by rw [rot_right t m i j hlt2 (by omega)]; exact HRT.out, HR2.out, HB2.out⟩
        case measure => simp [intOf]; omega
      · obtain rfl : i = j := by omega
        go_wp2_with fail
        refine (swapr21 el n c g (m - i) m i t _ HR hn (by omega) (by omega)).mono ?_
        rintro e w2 ⟨rfl, hr2, hb2⟩
        have HR2 : Hid (Rw el n (rot s a m b) g w2) := by
          have := hr2
          rw [rot_end t m i (by omega), HRT.out] at this
          exact this
        have HB2 : Hid (Below g w w2) := HB.out.trans hb2
        clear hr2 hb2
        go_wp2
        go_end0
        exact ⟨rfl, HR2.out, HB2.out⟩
end Go.Proofs.Qxb6613603a
