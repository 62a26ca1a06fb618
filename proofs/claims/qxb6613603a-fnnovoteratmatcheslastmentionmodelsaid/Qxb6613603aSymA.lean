import Derived.Test.Qxb6613603aIns
namespace Go.Proofs.Qxb6613603a
open Go.ChangeShapes Go.WideShapes Go.ChangeAt Go.RowKit

/-- The first search: what lies ahead of i is less than the element of place a, what lies from j on is not. -/
def InvA (el : Nat → El) (n g a b : Nat) (s : Nat → Nat) (w : World) (vi vj : Value) (wr : World) : Prop := ∃ i j : Nat, vi = .int .i64 i ∧ vj = .int .i64 j ∧ a + 1 ≤ i ∧ i ≤ j ∧ j ≤ b ∧ Rw el n s g wr ∧ Below g w wr ∧ g < wr.heap.size ∧ Hid (∀ q, a + 1 ≤ q → q < i → (el (s q)).k < (el (s a)).k) ∧ Hid (∀ q, j ≤ q → q < b → (el (s a)).k ≤ (el (s q)).k)

set_option maxRecDepth 100000 in
set_option maxHeartbeats 3200000 in
theorem sym19a (el : Nat → El) (n c g a b : Nat) (s : Nat → Nat) (w : World) (hR : Hid (Rw el n s g w)) (hg : g < w.heap.size) (hn : n ≤ 1000000) (m : Nat) (hm1 : m ≤ a + 1) (hm2 : a + 1 ≤ m) (hab : a + 1 < b) (hb : b ≤ n)
    (hs : Hid (Srt (fun x => (el x).k) (a + 1) b s)) (ht : Hid (∀ q, a + 1 ≤ q → q < b → s a < s q)) :
    Calls Try.prog 19 #[.slice (some ⟨g, 0, none⟩) n c, .int .i64 a, .int .i64 m, .int .i64 b, .func (.func 14) #[] #[]] w
      fun e w' => e = .returned (.tuple #[]) ∧ (∃ s', Rw el n s' g w' ∧ Win a b s s' ∧ Srt (fun x => (el x).k) a b s') ∧ Below g w w' := by
  go_enter Try.func19, Try.ntmps19
  have e1 : ((m : Int) - (a : Int) == 1) = true := by rw [beq_iff_eq]; omega
  go_wp2
  go_loopw [10, 11] (fun vi vj wr => InvA el n g a b s w vi vj wr) (fun vi vj _ => (intOf vj).toNat - (intOf vi).toNat)
  case atStart => exact ⟨m, b, rfl, rfl, hm2, by omega, Nat.le_refl _, hR.out, Below.refl _ _, hg, fun q h1 h2 => by omega, fun q h1 h2 => by omega⟩
  case round =>
    obtain ⟨i, j, rfl, rfl, hai, hij, hjb, hr, hbw, hgs, hl, hh⟩ := hrel
    have HR : Hid (Rw el n s g wr) := hr
    have HB : Hid (Below g w wr) := hbw
    have HH : Hid (∀ q, j ≤ q → q < b → (el (s a)).k ≤ (el (s q)).k) := hh
    clear hr hbw hh
    by_cases hlt : i < j
    · obtain ⟨h, eh⟩ : ∃ h : Nat, h = (i + j) / 2 := ⟨_, rfl⟩
      have dh : ((i : Int) + (j : Int)) / 2 = (h : Int) := by omega
      have h1 : i ≤ h := by omega
      have h2 : h < j := by omega
      clear eh
      obtain ⟨x, hx⟩ : ∃ x, x = el (s h) := ⟨_, rfl⟩
      obtain ⟨y, hy⟩ : ∃ y, y = el (s a) := ⟨_, rfl⟩
      have HX : Hid (x = el (s h)) := hx
      have HY : Hid (y = el (s a)) := hy
      have c8 := HR.out.c8 (i := h) (j := a) (by omega) (by omega)
      rw [← hx, ← hy] at c8
      obtain ⟨x0, x1, x2, x3, y0, y1, y2, y3⟩ := c8
      clear hx hy
      have q0 : (h : Int) < (n : Int) := by omega
      have q1 : (a : Int) < (n : Int) := by omega
      by_cases hk : x.k < y.k
      · have hc := cmp_lt hk
        go_wp2_with fail
        go_region_held3 (fun w2 => w2.cell? ⟨g, h * 4, none⟩ = some (.slice x.a x.l x.c) ∧ w2.cell? ⟨g, h * 4 + 1, none⟩ = some (.bool x.v) ∧ w2.cell? ⟨g, h * 4 + 2, none⟩ = some (.int .i32 x.t) ∧ w2.cell? ⟨g, h * 4 + 3, none⟩ = some (.int .i64 x.k) ∧
            w2.cell? ⟨g, a * 4, none⟩ = some (.slice y.a y.l y.c) ∧ w2.cell? ⟨g, a * 4 + 1, none⟩ = some (.bool y.v) ∧ w2.cell? ⟨g, a * 4 + 2, none⟩ = some (.int .i32 y.t) ∧ w2.cell? ⟨g, a * 4 + 3, none⟩ = some (.int .i64 y.k))
            (first
              | go_keep
              | (have k8 := (HR.out.drew.kept hb2 hgs).c8 (i := h) (j := a) (by omega) (by omega); rw [← HX.out, ← HY.out] at k8; exact k8))
            ((go_at_call 14; refine (clos14 x y _).mono ?_; rintro e w2 ⟨rfl, hb2⟩))
        have HR3 : Hid (Rw el n s g w2) := HR.out.drew.kept hb2 hgs
        have HB3 : Hid (Below g w w2) := HB.out.drew.trans (hb2.mono (B' := g) (by show g ≤ wr.heap.size; omega))
        have hgs3 : g < w2.heap.size := by have := hb2.size; simp at this; omega
        clear hb2 HR HB
        have HL : Hid (∀ q, a + 1 ≤ q → q < h + 1 → (el (s q)).k < (el (s a)).k) := fun q p1 p2 => by
          have := hs.out.key (i := q) (j := h) p1 (by omega) (by omega)
          rw [← HY.out]
          rw [← HX.out] at this
          exact Int.lt_of_le_of_lt this hk
        go_wp2
        go_roundw
        case rel => exact ⟨h + 1, j, by go_num, rfl, by omega, by omega, hjb, HR3.out, HB3.out, hgs3, HL, HH⟩
        case measure => simp [intOf]; omega
      · have hc := cmp_ge hk
        go_wp2_with fail
        go_region_held3 (fun w2 => w2.cell? ⟨g, h * 4, none⟩ = some (.slice x.a x.l x.c) ∧ w2.cell? ⟨g, h * 4 + 1, none⟩ = some (.bool x.v) ∧ w2.cell? ⟨g, h * 4 + 2, none⟩ = some (.int .i32 x.t) ∧ w2.cell? ⟨g, h * 4 + 3, none⟩ = some (.int .i64 x.k) ∧
            w2.cell? ⟨g, a * 4, none⟩ = some (.slice y.a y.l y.c) ∧ w2.cell? ⟨g, a * 4 + 1, none⟩ = some (.bool y.v) ∧ w2.cell? ⟨g, a * 4 + 2, none⟩ = some (.int .i32 y.t) ∧ w2.cell? ⟨g, a * 4 + 3, none⟩ = some (.int .i64 y.k))
            (first
              | go_keep
              | (have k8 := (HR.out.drew.kept hb2 hgs).c8 (i := h) (j := a) (by omega) (by omega); rw [← HX.out, ← HY.out] at k8; exact k8))
            ((go_at_call 14; refine (clos14 x y _).mono ?_; rintro e w2 ⟨rfl, hb2⟩))
        have HR3 : Hid (Rw el n s g w2) := HR.out.drew.kept hb2 hgs
        have HB3 : Hid (Below g w w2) := HB.out.drew.trans (hb2.mono (B' := g) (by show g ≤ wr.heap.size; omega))
        have hgs3 : g < w2.heap.size := by have := hb2.size; simp at this; omega
        clear hb2 HR HB
        have HL : Hid (∀ q, h ≤ q → q < b → (el (s a)).k ≤ (el (s q)).k) := fun q p1 p2 => by
          have := hs.out.key (i := h) (j := q) (by omega) p1 p2
          rw [← HY.out]
          rw [← HX.out] at this
          omega
        go_wp2
        go_roundw
        case rel => exact ⟨i, h, rfl, rfl, hai, by omega, by omega, HR3.out, HB3.out, hgs3, hl, HL⟩
        case measure => simp [intOf]; omega
    · obtain rfl : i = j := by omega
      have HM : Hid (Srt (fun x => (el x).k) a b (rot s a (a + 1) i)) := merge1 hs.out ht.out hai hjb hl.out fun q p1 p2 => Int.not_lt.2 (HH.out q p1 p2)
      clear hl HH
      go_wp2
      go_loopw [13] (fun vk wx => ∃ k : Nat, vk = .int .i64 k ∧ a ≤ k ∧ k + 1 ≤ i ∧ Rw el n (rot s a (a + 1) (k + 1)) g wx ∧ Below g w wx ∧ g < wx.heap.size) (fun vk _ => i - (intOf vk).toNat)
      case atStart => exact ⟨a, rfl, Nat.le_refl _, hai, by rw [rot_none1]; exact HR.out, HB.out, hgs⟩
      case round =>
        obtain ⟨k, rfl, hak, hki, hr, hbw, hgs2⟩ := hrel
        have HR2 : Hid (Rw el n (rot s a (a + 1) (k + 1)) g wr) := hr
        have HB2 : Hid (Below g w wr) := hbw
        clear hr hbw HR HB hgs
        by_cases hlt2 : k + 1 < i
        · have q0 : (k : Int) < (i : Int) - 1 := by omega
          obtain ⟨x, hx⟩ : ∃ x, x = el (rot s a (a + 1) (k + 1) k) := ⟨_, rfl⟩
          obtain ⟨y, hy⟩ : ∃ y, y = el (rot s a (a + 1) (k + 1) (k + 1)) := ⟨_, rfl⟩
          obtain ⟨x0, x1, x2, x3, y0, y1, y2, y3⟩ := HR2.out.c8 (i := k) (j := k + 1) (by omega) (by omega)
          rw [← hx] at x0 x1 x2 x3
          rw [← hy] at y0 y1 y2 y3
          have fz := HR2.out.2
          have HSW : Hid (Rw el n (rot s a (a + 1) (k + 2)) g (put4 (put4 wr g k y) g (k + 1) x).drew) := by
            have := HR2.out.swap (i := k) (j := k + 1) (by omega) (by omega) hx hy
            rw [rot_up s a k hak] at this
            exact this
          clear hx hy
          have q1 : (0 : Int) ≤ (k : Int) + 1 := by omega
          have q2 : (k : Int) + 1 < (n : Int) := by omega
          have q3 : (k : Int) < (n : Int) := by omega
          have t0 : ((k : Int) + 1).toNat = k + 1 := by omega
          go_wp2_with fail
          go_region
          go_wp2
          go_roundw
          case rel => exact ⟨k + 1, by go_num, by omega, by omega, HSW.out, (below_put4 (below_put4 HB2.out (Nat.le_refl _) _ _) (Nat.le_refl _) _ _).drew, Nat.lt_of_lt_of_eq hgs2 (by simp)⟩
          case measure => simp [intOf]; omega
        · obtain rfl : i = k + 1 := by omega
          have q0 : ¬ (k : Int) < ((k + 1 : Nat) : Int) - 1 := by omega
          go_wp2
          refine bodyPost_ret (results_none rfl _ _ _) rfl ?_
          exact ⟨rfl, ⟨_, HR2.out, Win.rot s (Nat.le_refl _) (by omega) (by omega) hjb, HM.out⟩, HB2.out⟩
end Go.Proofs.Qxb6613603a
