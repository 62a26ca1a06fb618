import Derived.Test.Qxb6613603aSwap
namespace Go.Proofs.Qxb6613603a
open Go.ChangeShapes Go.WideShapes Go.ChangeAt Go.RowKit

theorem cmp_lt {x y : Int} (h : x < y) : cmpI x y < 0 := by unfold cmpI; rw [if_pos h]; omega
theorem cmp_ge {x y : Int} (h : ¬ x < y) : ¬ cmpI x y < 0 := by
  unfold cmpI; rw [if_neg h]; split <;> omega

theorem size_put4 (w : World) (g i j : Nat) (x y : El) : (put4 (put4 w g i y) g j x).drew.heap.size = w.heap.size := by simp [put4]
theorem below_drawn {B : Nat} {a w : World} (h : Below B a w) (n : Nat) : Below B a (w.drewN n) := ⟨h.os, h.tape, h.output, h.size, h.block⟩

set_option maxRecDepth 100000 in
set_option maxHeartbeats 3200000 in
theorem ins18 (el : Nat → El) (n c g a b : Nat) (s : Nat → Nat) (w : World) (hR : Hid (Rw el n s g w)) (hg : g < w.heap.size) (hn : n ≤ 1000000) (hab : a < b) (hb : b ≤ n)
    (ht : Hid (∀ p q, a ≤ p → p < q → q < b → s p < s q)) :
    Calls Try.prog 18 #[.slice (some ⟨g, 0, none⟩) n c, .int .i64 a, .int .i64 b, .func (.func 14) #[] #[]] w
      fun e w' => e = .returned (.tuple #[]) ∧ (∃ s', Rw el n s' g w' ∧ Win a b s s' ∧ Srt (fun x => (el x).k) a b s') ∧ Below g w w' := by
  go_enter Try.func18, Try.ntmps18
  go_wp2
  go_loopw [8] (fun vi wr => ∃ (i : Nat) (u : Nat → Nat), vi = .int .i64 i ∧ a < i ∧ i ≤ b ∧ Rw el n u g wr ∧ Win a i s u ∧ Srt (fun x => (el x).k) a i u ∧ Below g w wr ∧ g < wr.heap.size) (fun vi _ => b - (intOf vi).toNat)
  case atStart => exact ⟨a + 1, s, by go_num, by omega, by omega, hR.out, Win.refl _ _ _, fun p q h1 h2 h3 => by omega, Below.refl _ _, hg⟩
  case round =>
    obtain ⟨i, u, rfl, hai, hib, hr, hw, hs, hbw, hgs⟩ := hrel
    have HR : Hid (Rw el n u g wr) := hr
    have HW : Hid (Win a i s u) := hw
    have HS : Hid (Srt (fun x => (el x).k) a i u) := hs
    have HB : Hid (Below g w wr) := hbw
    clear hr hw hs hbw
    by_cases hlt : i < b
    · go_wp2
      go_loopw [9] (fun vj wx => ∃ (j : Nat) (v : Nat → Nat), vj = .int .i64 j ∧ a ≤ j ∧ j ≤ i ∧ Rw el n v g wx ∧ Win a (i + 1) s v ∧ InsInv (fun x => (el x).k) a i j v ∧ Below g w wx ∧ g < wx.heap.size) (fun vj _ => (intOf vj).toNat)
      case atStart =>
        refine ⟨i, u, rfl, by omega, Nat.le_refl _, HR.out, HW.out.mono (Nat.le_refl _) (by omega), ins_start HS.out fun p h1 h2 => ?_, HB.out, hgs⟩
        obtain ⟨p', h3, h4, e⟩ := HW.out.2.1 p h1 h2
        rw [e, HW.out.1 i (Or.inr (Nat.le_refl _))]
        exact ht.out p' i h3 h4 hlt
      case round =>
        obtain ⟨j, v, rfl, haj, hji, hr2, hw2, hi2, hbw2, hgs2⟩ := hrel
        have HR2 : Hid (Rw el n v g wr) := hr2
        have HW2 : Hid (Win a (i + 1) s v) := hw2
        have HI2 : Hid (InsInv (fun x => (el x).k) a i j v) := hi2
        have HB2 : Hid (Below g w wr) := hbw2
        clear hr2 hw2 hi2 hbw2 HR HW HS HB hgs
        by_cases hja : a < j
        · obtain ⟨p, rfl⟩ : ∃ p, j = p + 1 := ⟨j - 1, by omega⟩
          obtain ⟨x, hx⟩ : ∃ x, x = el (v (p + 1)) := ⟨_, rfl⟩
          obtain ⟨y, hy⟩ : ∃ y, y = el (v p) := ⟨_, rfl⟩
          have HX : Hid (x = el (v (p + 1))) := hx
          have HY : Hid (y = el (v p)) := hy
          have c8 := HR2.out.c8 (i := p + 1) (j := p) (by omega) (by omega)
          rw [← hx, ← hy] at c8
          obtain ⟨x0, x1, x2, x3, y0, y1, y2, y3⟩ := c8
          clear hx hy
          have q0 : (0 : Int) ≤ (p : Int) + 1 := by omega
          have q1 : (p : Int) + 1 < (n : Int) := by omega
          have q2 : (0 : Int) ≤ (p : Int) := by omega
          have q3 : (p : Int) < (n : Int) := by omega
          have q4 : (a : Int) < (p : Int) + 1 := by omega
          have t0 : ((p : Int) + 1).toNat = p + 1 := by omega
          have hwp : IntKind.i64.wrap (p : Int) = (p : Int) := by rw [IntKind.wrap_i64]; omega
          by_cases hk : x.k < y.k
          · have hc := cmp_lt hk
            go_wp2_with fail
            go_region_held3 (fun w2 => w2.cell? ⟨g, (p + 1) * 4, none⟩ = some (.slice x.a x.l x.c) ∧ w2.cell? ⟨g, (p + 1) * 4 + 1, none⟩ = some (.bool x.v) ∧ w2.cell? ⟨g, (p + 1) * 4 + 2, none⟩ = some (.int .i32 x.t) ∧ w2.cell? ⟨g, (p + 1) * 4 + 3, none⟩ = some (.int .i64 x.k) ∧
              w2.cell? ⟨g, p * 4, none⟩ = some (.slice y.a y.l y.c) ∧ w2.cell? ⟨g, p * 4 + 1, none⟩ = some (.bool y.v) ∧ w2.cell? ⟨g, p * 4 + 2, none⟩ = some (.int .i32 y.t) ∧ w2.cell? ⟨g, p * 4 + 3, none⟩ = some (.int .i64 y.k))
              (first
                | go_keep
                | (have k8 := (HR2.out.drew.kept hb2 hgs2).c8 (i := p + 1) (j := p) (by omega) (by omega); rw [← HX.out, ← HY.out] at k8; exact k8))
              ((go_at_call 14; refine (clos14 x y _).mono ?_; rintro e w2 ⟨rfl, hb2⟩))
            have HR3 : Hid (Rw el n v g w2) := HR2.out.drew.kept hb2 hgs2
            have HB3 : Hid (Below g w w2) := HB2.out.drew.trans (hb2.mono (B' := g) (by show g ≤ wr.heap.size; omega))
            have hgs3 : g < w2.heap.size := by have := hb2.size; simp at this; omega
            clear hb2 HR2 HB2
            obtain ⟨x0', x1', x2', x3', y0', y1', y2', y3'⟩ : C8 g (p + 1) p x y w2 := by
              have k8 := HR3.out.c8 (i := p + 1) (j := p) (by omega) (by omega)
              rw [← HX.out, ← HY.out] at k8
              exact k8
            clear x0 x1 x2 x3 y0 y1 y2 y3
            have fz := HR3.out.2
            have HSW : Hid (Rw el n (sw v (p + 1) p) g (put4 (put4 w2 g (p + 1) y) g p x).drew) := HR3.out.swap (i := p + 1) (j := p) (by omega) (by omega) HX.out HY.out
            have HIN : Hid (InsInv (fun x => (el x).k) a i p (sw v (p + 1) p)) := ins_move HI2.out (by omega) hji (by rw [← HX.out, ← HY.out]; exact hk)
            have HWN : Hid (Win a (i + 1) s (sw v (p + 1) p)) := HW2.out.trans (Win.sw v ⟨by omega, by omega⟩ ⟨by omega, by omega⟩)
            go_wp2_with fail
            go_region
            go_wp2
            go_roundw
            case rel => exact ⟨p, sw v (p + 1) p, rfl, by omega, by omega, HSW.out, HWN.out, HIN.out, (below_put4 (below_put4 HB3.out (Nat.le_refl _) _ _) (Nat.le_refl _) _ _).drew, Nat.lt_of_lt_of_eq hgs3 (by simp)⟩
            case measure => simp [intOf]
          · have hc := cmp_ge hk
            go_wp2_with fail
            go_region_held3 (fun w2 => w2.cell? ⟨g, (p + 1) * 4, none⟩ = some (.slice x.a x.l x.c) ∧ w2.cell? ⟨g, (p + 1) * 4 + 1, none⟩ = some (.bool x.v) ∧ w2.cell? ⟨g, (p + 1) * 4 + 2, none⟩ = some (.int .i32 x.t) ∧ w2.cell? ⟨g, (p + 1) * 4 + 3, none⟩ = some (.int .i64 x.k) ∧
              w2.cell? ⟨g, p * 4, none⟩ = some (.slice y.a y.l y.c) ∧ w2.cell? ⟨g, p * 4 + 1, none⟩ = some (.bool y.v) ∧ w2.cell? ⟨g, p * 4 + 2, none⟩ = some (.int .i32 y.t) ∧ w2.cell? ⟨g, p * 4 + 3, none⟩ = some (.int .i64 y.k))
              (first
                | go_keep
                | (have k8 := (HR2.out.drew.kept hb2 hgs2).c8 (i := p + 1) (j := p) (by omega) (by omega); rw [← HX.out, ← HY.out] at k8; exact k8))
              ((go_at_call 14; refine (clos14 x y _).mono ?_; rintro e w2 ⟨rfl, hb2⟩))
            have HR3 : Hid (Rw el n v g w2) := HR2.out.drew.kept hb2 hgs2
            have HB3 : Hid (Below g w w2) := HB2.out.drew.trans (hb2.mono (B' := g) (by show g ≤ wr.heap.size; omega))
            have hgs3 : g < w2.heap.size := by have := hb2.size; simp at this; omega
            clear hb2 HR2 HB2
            have HSR : Hid (Srt (fun x => (el x).k) a (i + 1) v) := ins_stop HI2.out hji (Or.inr ⟨by omega, by show ¬ (el (v (p + 1))).k < (el (v p)).k; rw [← HX.out, ← HY.out]; omega⟩)
            go_wp2
            go_roundw
            case rel => exact ⟨i + 1, v, by go_num, by omega, by omega, HR3.out, HW2.out, HSR.out, HB3.out, hgs3⟩
            case measure => simp [intOf]; omega
        · obtain rfl : j = a := by omega
          have hd : decide ((j : Int) < (j : Int)) = false := decide_eq_false (by omega)
          have HSR : Hid (Srt (fun x => (el x).k) j (i + 1) v) := ins_stop HI2.out hji (Or.inl rfl)
          go_wp2_with fail
          go_quiet (fail)
          go_wp2
          go_roundw
          case rel => exact ⟨i + 1, v, by go_num, by omega, by omega, HR2.out, HW2.out, HSR.out, below_drawn HB2.out _, hgs2⟩
          case measure => simp [intOf]; omega
    · obtain rfl : i = b := by omega
      go_wp2
      go_end0
      exact ⟨rfl, ⟨u, HR.out, HW.out, HS.out⟩, HB.out⟩
end Go.Proofs.Qxb6613603a
