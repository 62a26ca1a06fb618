import Derived.Test.Qxb6613603aSymB
import Derived.Deep.DeepCutAuto
namespace Go.Proofs.Qxb6613603a
open Go.ChangeShapes Go.WideShapes Go.ChangeAt Go.RowKit

/-- What a merge of [a, m) with [m, b) brings. -/
def Merges (el : Nat → El) (n c g a m b : Nat) : Prop := ∀ (s : Nat → Nat) (w : World), Rw el n s g w → g < w.heap.size → Srt (fun x => (el x).k) a m s → Srt (fun x => (el x).k) m b s → (∀ p q, a ≤ p → p < m → m ≤ q → q < b → s p < s q) →
    Calls Try.prog 19 #[.slice (some ⟨g, 0, none⟩) n c, .int .i64 a, .int .i64 m, .int .i64 b, .func (.func 14) #[] #[]] w
      fun e w' => e = .returned (.tuple #[]) ∧ (∃ s', Rw el n s' g w' ∧ Win a b s s' ∧ Srt (fun x => (el x).k) a b s') ∧ Below g w w'

/-- The third search: of each place c ahead of st the twin P - c is not less, of each from r on it is. -/
def InvC (el : Nat → El) (n g P x0 r0 : Nat) (s : Nat → Nat) (w : World) (vi vj : Value) (wr : World) : Prop := ∃ st r : Nat, vi = .int .i64 st ∧ vj = .int .i64 r ∧ x0 ≤ st ∧ st ≤ r ∧ r ≤ r0 ∧ Rw el n s g wr ∧ Below g w wr ∧ g < wr.heap.size ∧
  Hid (st = x0 ∨ (0 < st ∧ (el (s (st - 1))).k ≤ (el (s (P - (st - 1)))).k)) ∧ Hid (r = r0 ∨ (el (s (P - r))).k < (el (s r)).k)

theorem sym_facts {K : Nat → Int} {a m b mid P x0 r0 x y : Nat} {s : Nat → Nat} (ham : a + 2 ≤ m) (hmb : m + 2 ≤ b) (sl : Srt K a m s) (sr : Srt K m b s) (ht : ∀ p q, a ≤ p → p < m → m ≤ q → q < b → s p < s q)
    (hm1 : a + b ≤ 2 * mid + 1) (hm2 : 2 * mid ≤ a + b) (hP : P + 1 = mid + m) (hX : (mid < m ∧ x0 + b = mid + m ∧ r0 = mid) ∨ (m ≤ mid ∧ x0 = a ∧ r0 = m)) (hx0 : x0 ≤ x) (hxr : x ≤ r0)
    (hl : x = x0 ∨ (0 < x ∧ K (s (x - 1)) ≤ K (s (P - (x - 1))))) (hh : x = r0 ∨ K (s (P - x)) < K (s x)) (ey : y + x = mid + m) :
    (a ≤ x ∧ x ≤ m ∧ m ≤ y ∧ y ≤ b ∧ x ≤ mid ∧ mid ≤ y) ∧
    (∀ p q, a ≤ p → p < mid → mid ≤ q → q < b → Lx K (rot s x m y p) (rot s x m y q)) ∧ Srt K a x (rot s x m y) ∧ Srt K x mid (rot s x m y) ∧ Srt K mid y (rot s x m y) ∧ Srt K y b (rot s x m y) ∧
    (∀ p q, a ≤ p → p < x → x ≤ q → q < mid → rot s x m y p < rot s x m y q) ∧ (∀ p q, mid ≤ p → p < y → y ≤ q → q < b → rot s x m y p < rot s x m y q) := by
  have b1 : a ≤ x ∧ x ≤ m ∧ m ≤ y ∧ y ≤ b ∧ x ≤ mid ∧ mid ≤ y := by omega
  refine ⟨b1, merge3 b1.1 b1.2.1 b1.2.2.1 b1.2.2.2.1 (by omega) sl sr ht (fun p q p1 p2 p3 p4 => ?_) fun p q p1 p2 p3 p4 => ?_⟩
  · rcases hh with hh | hh
    · omega
    · have h1 := sl.key (i := x) (j := q) (by omega) p3 p4
      have h2 := sr.key (i := p) (j := P - x) p1 (by omega) (by omega)
      left; omega
  · have h0 := ht p q p1 (by omega) (by omega) p4
    rcases hl with hl | ⟨_, hl⟩
    · omega
    · have h1 := sl.key (i := p) (j := x - 1) p1 (by omega) (by omega)
      have h2 := sr.key (i := P - (x - 1)) (j := q) (by omega) (by omega) p4
      unfold Lx; omega

set_option maxRecDepth 100000 in
set_option maxHeartbeats 3200000 in
theorem sym19c (el : Nat → El) (n c g a m b : Nat) (hn : n ≤ 1000000) (ham : a + 2 ≤ m) (hmb : m + 2 ≤ b) (hb : b ≤ n) (hIH : Hid (∀ a' m' b', b' - a' < b - a → a' < m' → m' < b' → b' ≤ n → Merges el n c g a' m' b')) : Merges el n c g a m b := by
  intro s w hR hg hs1 hs2 ht
  have HR0 : Hid (Rw el n s g w) := hR
  have HS1 : Hid (Srt (fun x => (el x).k) a m s) := hs1
  have HS2 : Hid (Srt (fun x => (el x).k) m b s) := hs2
  have HT : Hid (∀ p q, a ≤ p → p < m → m ≤ q → q < b → s p < s q) := ht
  clear hR hs1 hs2 ht
  go_enter Try.func19, Try.ntmps19
  have e0 : ((m : Int) - (a : Int) == 1) = false := beq_eq_false_iff_ne.2 (by omega)
  have e1 : ((b : Int) - (m : Int) == 1) = false := beq_eq_false_iff_ne.2 (by omega)
  obtain ⟨mid, emid⟩ : ∃ mid : Nat, mid = (a + b) / 2 := ⟨_, rfl⟩
  have dm : ((a : Int) + (b : Int)) / 2 = (mid : Int) := by omega
  have hm1 : a + b ≤ 2 * mid + 1 := by omega
  have hm2 : 2 * mid ≤ a + b := by omega
  clear emid
  obtain ⟨P, eP⟩ : ∃ P : Nat, P + 1 = mid + m := ⟨mid + m - 1, by omega⟩
  have HP : Hid (P + 1 = mid + m) := eP
  clear eP
  obtain ⟨x0, r0, hxr⟩ : ∃ x0 r0 : Nat, (mid < m ∧ x0 + b = mid + m ∧ r0 = mid) ∨ (m ≤ mid ∧ x0 = a ∧ r0 = m) := by
    by_cases c : mid < m
    · exact ⟨mid + m - b, mid, Or.inl ⟨c, by omega, rfl⟩⟩
    · exact ⟨a, m, Or.inr ⟨by omega, rfl, rfl⟩⟩
  have HX : Hid ((mid < m ∧ x0 + b = mid + m ∧ r0 = mid) ∨ (m ≤ mid ∧ x0 = a ∧ r0 = m)) := hxr
  clear hxr
  go_upto_if 140 with fail
  go_cut [20, 21] (fun v0 v1 wx => v0 = .int .i64 x0 ∧ v1 = .int .i64 r0 ∧ wx = w)
  case first =>
    rcases HX.out with ⟨h1, h2, h3⟩ | ⟨h1, h2, h3⟩
    · have k1 : (mid : Int) + (m : Int) - (b : Int) = (x0 : Int) := by omega
      subst h3
      clear h2
      go_wp2_with fail
      go_meet
      case rel => exact ⟨by go_num, by go_num, rfl⟩
    · subst h2 h3
      go_wp2_with fail
      go_meet
      case rel => exact ⟨rfl, rfl, rfl⟩
  case rest =>
    obtain ⟨rfl, rfl, hwc⟩ := hcut
    obtain rfl : w = wc := hwc.symm
    have dP : (mid : Int) + (m : Int) - 1 = (P : Int) := by have := HP.out; omega
    have hr0 : r0 ≤ m ∧ r0 ≤ mid ∧ a ≤ x0 ∧ mid + m ≤ x0 + b ∧ x0 ≤ r0 := by have := HX.out; omega
    obtain ⟨z1, z2, z3, z4, z5⟩ := hr0
    go_wp2
    go_loopw [20, 21] (fun vi vj wr => InvC el n g P x0 r0 s w vi vj wr) (fun vi vj _ => (intOf vj).toNat - (intOf vi).toNat)
    case atStart => exact ⟨x0, r0, rfl, rfl, Nat.le_refl _, z5, Nat.le_refl _, HR0.out, Below.refl _ _, hg, Or.inl rfl, Or.inl rfl⟩
    case round =>
      obtain ⟨i, j, rfl, rfl, hai, hij, hjb, hr, hbw, hgs, hl, hh⟩ := hrel
      have HR : Hid (Rw el n s g wr) := hr
      have HB : Hid (Below g w wr) := hbw
      clear hr hbw HR0
      by_cases hlt : i < j
      · obtain ⟨h, eh⟩ : ∃ h : Nat, h = (i + j) / 2 := ⟨_, rfl⟩
        have dh : ((i : Int) + (j : Int)) / 2 = (h : Int) := by omega
        have h1 : i ≤ h := by omega
        have h2 : h < j := by omega
        clear eh
        obtain ⟨d, ed⟩ : ∃ d : Nat, d + h = P := ⟨P - h, by have := HP.out; omega⟩
        have dd : (P : Int) - (h : Int) = (d : Int) := by omega
        have HD : Hid (d = P - h) := by show d = P - h; omega
        have hdn : d < n := by have := HP.out; omega
        clear ed
        obtain ⟨x, hx⟩ : ∃ x, x = el (s d) := ⟨_, rfl⟩
        obtain ⟨y, hy⟩ : ∃ y, y = el (s h) := ⟨_, rfl⟩
        have HXX : Hid (x = el (s d)) := hx
        have HYY : Hid (y = el (s h)) := hy
        have c8 := HR.out.c8 (i := d) (j := h) (by omega) (by omega)
        rw [← hx, ← hy] at c8
        obtain ⟨x0', x1, x2, x3, y0, y1, y2, y3⟩ := c8
        clear hx hy
        have q0 : (h : Int) < (n : Int) := by omega
        have q1 : (d : Int) < (n : Int) := by omega
        have hwp : IntKind.i64.wrap (d : Int) = (d : Int) := by rw [IntKind.wrap_i64]; omega
        by_cases hk : x.k < y.k
        · have hc := cmp_lt hk
          go_wp2_with fail
          go_region_held3 (fun w2 => w2.cell? ⟨g, d * 4, none⟩ = some (.slice x.a x.l x.c) ∧ w2.cell? ⟨g, d * 4 + 1, none⟩ = some (.bool x.v) ∧ w2.cell? ⟨g, d * 4 + 2, none⟩ = some (.int .i32 x.t) ∧ w2.cell? ⟨g, d * 4 + 3, none⟩ = some (.int .i64 x.k) ∧
              w2.cell? ⟨g, h * 4, none⟩ = some (.slice y.a y.l y.c) ∧ w2.cell? ⟨g, h * 4 + 1, none⟩ = some (.bool y.v) ∧ w2.cell? ⟨g, h * 4 + 2, none⟩ = some (.int .i32 y.t) ∧ w2.cell? ⟨g, h * 4 + 3, none⟩ = some (.int .i64 y.k))
              (first
                | go_keep
                | (have k8 := (HR.out.drew.kept hb2 hgs).c8 (i := d) (j := h) (by omega) (by omega); rw [← HXX.out, ← HYY.out] at k8; exact k8))
              ((go_at_call 14; refine (clos14 x y _).mono ?_; rintro e w2 ⟨rfl, hb2⟩))
          have HR3 : Hid (Rw el n s g w2) := HR.out.drew.kept hb2 hgs
          have HB3 : Hid (Below g w w2) := HB.out.drew.trans (hb2.mono (B' := g) (by show g ≤ wr.heap.size; omega))
          have hgs3 : g < w2.heap.size := by have := hb2.size; simp at this; omega
          clear hb2 HR HB
          have HL : Hid (h = r0 ∨ (el (s (P - h))).k < (el (s h)).k) := Or.inr (by rw [← HD.out, ← HXX.out, ← HYY.out]; exact hk)
          go_wp2
          go_roundw
          case rel => exact ⟨i, h, rfl, rfl, hai, h1, by omega, HR3.out, HB3.out, hgs3, hl, HL⟩
          case measure => simp [intOf]; omega
        · have hc := cmp_ge hk
          have hd : decide (cmpI x.k y.k < 0) = false := decide_eq_false hc
          go_wp2_with fail
          go_region_held3 (fun w2 => w2.cell? ⟨g, d * 4, none⟩ = some (.slice x.a x.l x.c) ∧ w2.cell? ⟨g, d * 4 + 1, none⟩ = some (.bool x.v) ∧ w2.cell? ⟨g, d * 4 + 2, none⟩ = some (.int .i32 x.t) ∧ w2.cell? ⟨g, d * 4 + 3, none⟩ = some (.int .i64 x.k) ∧
              w2.cell? ⟨g, h * 4, none⟩ = some (.slice y.a y.l y.c) ∧ w2.cell? ⟨g, h * 4 + 1, none⟩ = some (.bool y.v) ∧ w2.cell? ⟨g, h * 4 + 2, none⟩ = some (.int .i32 y.t) ∧ w2.cell? ⟨g, h * 4 + 3, none⟩ = some (.int .i64 y.k))
              (first
                | go_keep
                | (have k8 := (HR.out.drew.kept hb2 hgs).c8 (i := d) (j := h) (by omega) (by omega); rw [← HXX.out, ← HYY.out] at k8; exact k8))
              ((go_at_call 14; refine (clos14 x y _).mono ?_; rintro e w2 ⟨rfl, hb2⟩))
          have HR3 : Hid (Rw el n s g w2) := HR.out.drew.kept hb2 hgs
          have HB3 : Hid (Below g w w2) := HB.out.drew.trans (hb2.mono (B' := g) (by show g ≤ wr.heap.size; omega))
          have hgs3 : g < w2.heap.size := by have := hb2.size; simp at this; omega
          clear hb2 HR HB
          have HL : Hid (h + 1 = x0 ∨ (0 < h + 1 ∧ (el (s (h + 1 - 1))).k ≤ (el (s (P - (h + 1 - 1)))).k)) := Or.inr ⟨by omega, by
            rw [Nat.add_sub_cancel, ← HD.out, ← HXX.out, ← HYY.out]; omega⟩
          go_wp2
          go_roundw
          case rel => exact ⟨h + 1, j, by go_num, rfl, by omega, by omega, hjb, HR3.out, HB3.out, hgs3, HL, hh⟩
          case measure => simp [intOf]; omega
      · obtain rfl : i = j := by omega
        obtain ⟨y, ey⟩ : ∃ y : Nat, y + i = mid + m := ⟨mid + m - i, by omega⟩
        have dy : (mid : Int) + (m : Int) - (i : Int) = (y : Int) := by omega
        have HF := sym_facts ham hmb HS1.out HS2.out HT.out hm1 hm2 HP.out HX.out hai hjb hl.out hh.out ey
        obtain ⟨⟨b1, b2, b3, b4, b5, b6⟩, F1, F2, F3, F4, F5, F6, F7⟩ := HF
        have G1 : Hid (∀ p q, a ≤ p → p < mid → mid ≤ q → q < b → Lx (fun x => (el x).k) (rot s i m y p) (rot s i m y q)) := F1
        have G2 : Hid (Srt (fun x => (el x).k) a i (rot s i m y)) := F2
        have G3 : Hid (Srt (fun x => (el x).k) i mid (rot s i m y)) := F3
        have G4 : Hid (Srt (fun x => (el x).k) mid y (rot s i m y)) := F4
        have G5 : Hid (Srt (fun x => (el x).k) y b (rot s i m y)) := F5
        have G6 : Hid (∀ p q, a ≤ p → p < i → i ≤ q → q < mid → rot s i m y p < rot s i m y q) := F6
        have G7 : Hid (∀ p q, mid ≤ p → p < y → y ≤ q → q < b → rot s i m y p < rot s i m y q) := F7
        have HEY : Hid (y + i = mid + m) := ey
        clear F1 F2 F3 F4 F5 F6 F7 ey hl hh
        have hmida : a + 2 ≤ mid := by omega
        have hey := HEY.out
        by_cases cA : i < m
        · by_cases cB : i < mid
          · have cB' : m < y := by omega
            have cA' : mid < y := by omega
            clear hey
            by_cases cC : a < i
            · by_cases cD : y < b
              · as_aux_lemma =>
                  go_wp2_with fail
                  refine (rot20 el n c g i m y s _ HR hn (by omega) (by omega) (by omega)).mono ?_
                  rintro e w1 ⟨rfl, hr2, hb2⟩
                  have HR1 : Hid (Rw el n (rot s i m y) g w1) := hr2
                  have HB1 : Hid (Below g w w1) := HB.out.trans hb2
                  have hgs1 : g < w1.heap.size := by have := hb2.size; omega
                  clear hr2 hb2 HR HB hgs
                  go_wp2_with fail
                  refine (hIH.out a i mid (by omega) (by omega) (by omega) (by omega) _ _ HR1.out hgs1 G2.out G3.out G6.out).mono ?_
                  rintro e w2 ⟨rfl, ⟨v, hr2, hw2, hs2⟩, hb2⟩
                  have HR2 : Hid (Rw el n v g w2) := hr2
                  have HW2 : Hid (Win a mid (rot s i m y) v) := hw2
                  have HV2 : Hid (Srt (fun x => (el x).k) a mid v) := hs2
                  have HB2 : Hid (Below g w w2) := HB1.out.trans hb2
                  have hgs2 : g < w2.heap.size := by have := hb2.size; omega
                  clear hr2 hw2 hs2 hb2 HR1 HB1 hgs1
                  have J4 : Hid (Srt (fun x => (el x).k) mid y v) := G4.out.congr fun k k1 _ => HW2.out.1 k (Or.inr k1)
                  have J5 : Hid (Srt (fun x => (el x).k) y b v) := G5.out.congr fun k k1 _ => HW2.out.1 k (Or.inr (by omega))
                  have J7 : Hid (∀ p q, mid ≤ p → p < y → y ≤ q → q < b → v p < v q) := fun p q p1 p2 p3 p4 => by rw [HW2.out.1 p (Or.inr p1), HW2.out.1 q (Or.inr (by omega))]; exact G7.out p q p1 p2 p3 p4
                  go_wp2_with fail
                  refine (hIH.out mid y b (by omega) (by omega) (by omega) (by omega) _ _ HR2.out hgs2 J4.out J5.out J7.out).mono ?_
                  rintro e w3 ⟨rfl, ⟨v3, hr3, hw3, hs3⟩, hb3⟩
                  have HR3 : Hid (Rw el n v3 g w3) := hr3
                  have HW3 : Hid (Win mid b v v3) := hw3
                  have HV3 : Hid (Srt (fun x => (el x).k) mid b v3) := hs3
                  have HB3 : Hid (Below g w w3) := HB2.out.trans hb3
                  clear hr3 hw3 hs3 hb3
                  have HE := merge_end (by omega) (by omega) G1.out HW2.out HV2.out HW3.out HV3.out
                  have HE1 : Hid (Win a b s _) := (Win.rot s b1 b2 b3 b4).trans HE.1
                  have HE2 : Hid (Srt (fun x => (el x).k) a b _) := HE.2
                  clear HE
                  go_wp2
                  go_end0
                  exact ⟨rfl, ⟨_, HR3.out, HE1.out, HE2.out⟩, HB3.out⟩
              · as_aux_lemma =>
                  go_wp2_with fail
                  refine (rot20 el n c g i m y s _ HR hn (by omega) (by omega) (by omega)).mono ?_
                  rintro e w1 ⟨rfl, hr2, hb2⟩
                  have HR1 : Hid (Rw el n (rot s i m y) g w1) := hr2
                  have HB1 : Hid (Below g w w1) := HB.out.trans hb2
                  have hgs1 : g < w1.heap.size := by have := hb2.size; omega
                  clear hr2 hb2 HR HB hgs
                  go_wp2_with fail
                  refine (hIH.out a i mid (by omega) (by omega) (by omega) (by omega) _ _ HR1.out hgs1 G2.out G3.out G6.out).mono ?_
                  rintro e w2 ⟨rfl, ⟨v, hr2, hw2, hs2⟩, hb2⟩
                  have HR2 : Hid (Rw el n v g w2) := hr2
                  have HW2 : Hid (Win a mid (rot s i m y) v) := hw2
                  have HV2 : Hid (Srt (fun x => (el x).k) a mid v) := hs2
                  have HB2 : Hid (Below g w w2) := HB1.out.trans hb2
                  have hgs2 : g < w2.heap.size := by have := hb2.size; omega
                  clear hr2 hw2 hs2 hb2 HR1 HB1 hgs1
                  have HR3 : Hid (Rw el n v g w2) := HR2
                  have HW3 : Hid (Win mid b v v) := Win.refl _ _ _
                  have HV3 : Hid (Srt (fun x => (el x).k) mid b v) := by
                    have h0 : Srt (fun x => (el x).k) mid b (rot s i m y) := by
                      have hor : y = b ∨ y = mid := by omega
                      rcases hor with hor | hor
                      · have := G4.out; rw [hor] at this; rw [hor]; exact this
                      · have := G5.out; rw [hor] at this; rw [hor]; exact this
                    exact h0.congr fun k k1 _ => HW2.out.1 k (Or.inr k1)
                  have HB3 : Hid (Below g w w2) := HB2
                  have HE := merge_end (by omega) (by omega) G1.out HW2.out HV2.out HW3.out HV3.out
                  have HE1 : Hid (Win a b s _) := (Win.rot s b1 b2 b3 b4).trans HE.1
                  have HE2 : Hid (Srt (fun x => (el x).k) a b _) := HE.2
                  clear HE
                  go_wp2
                  go_end0
                  exact ⟨rfl, ⟨_, HR3.out, HE1.out, HE2.out⟩, HB3.out⟩
            · by_cases cD : y < b
              · as_aux_lemma =>
                  go_wp2_with fail
                  refine (rot20 el n c g i m y s _ HR hn (by omega) (by omega) (by omega)).mono ?_
                  rintro e w1 ⟨rfl, hr2, hb2⟩
                  have HR1 : Hid (Rw el n (rot s i m y) g w1) := hr2
                  have HB1 : Hid (Below g w w1) := HB.out.trans hb2
                  have hgs1 : g < w1.heap.size := by have := hb2.size; omega
                  clear hr2 hb2 HR HB hgs
                  have HR2 : Hid (Rw el n (rot s i m y) g w1) := HR1
                  obtain ⟨v, hv⟩ : ∃ v, v = rot s i m y := ⟨_, rfl⟩
                  have HR2 : Hid (Rw el n v g w1) := by rw [hv]; exact HR1
                  have HW2 : Hid (Win a mid (rot s i m y) v) := by rw [hv]; exact Win.refl _ _ _
                  have HV2 : Hid (Srt (fun x => (el x).k) a mid v) := by
                    rw [hv]
                    have hor : i = a ∨ i = mid := by omega
                    rcases hor with hor | hor
                    · have := G3.out; rw [hor] at this; rw [hor]; exact this
                    · have := G2.out; rw [hor] at this; rw [hor]; exact this
                  have HB2 : Hid (Below g w w1) := HB1
                  have hgs2 := hgs1
                  clear hv HR1 HB1 hgs1
                  have J4 : Hid (Srt (fun x => (el x).k) mid y v) := G4.out.congr fun k k1 _ => HW2.out.1 k (Or.inr k1)
                  have J5 : Hid (Srt (fun x => (el x).k) y b v) := G5.out.congr fun k k1 _ => HW2.out.1 k (Or.inr (by omega))
                  have J7 : Hid (∀ p q, mid ≤ p → p < y → y ≤ q → q < b → v p < v q) := fun p q p1 p2 p3 p4 => by rw [HW2.out.1 p (Or.inr p1), HW2.out.1 q (Or.inr (by omega))]; exact G7.out p q p1 p2 p3 p4
                  go_wp2_with fail
                  refine (hIH.out mid y b (by omega) (by omega) (by omega) (by omega) _ _ HR2.out hgs2 J4.out J5.out J7.out).mono ?_
                  rintro e w3 ⟨rfl, ⟨v3, hr3, hw3, hs3⟩, hb3⟩
                  have HR3 : Hid (Rw el n v3 g w3) := hr3
                  have HW3 : Hid (Win mid b v v3) := hw3
                  have HV3 : Hid (Srt (fun x => (el x).k) mid b v3) := hs3
                  have HB3 : Hid (Below g w w3) := HB2.out.trans hb3
                  clear hr3 hw3 hs3 hb3
                  have HE := merge_end (by omega) (by omega) G1.out HW2.out HV2.out HW3.out HV3.out
                  have HE1 : Hid (Win a b s _) := (Win.rot s b1 b2 b3 b4).trans HE.1
                  have HE2 : Hid (Srt (fun x => (el x).k) a b _) := HE.2
                  clear HE
                  go_wp2
                  go_end0
                  exact ⟨rfl, ⟨_, HR3.out, HE1.out, HE2.out⟩, HB3.out⟩
              · as_aux_lemma =>
                  go_wp2_with fail
                  refine (rot20 el n c g i m y s _ HR hn (by omega) (by omega) (by omega)).mono ?_
                  rintro e w1 ⟨rfl, hr2, hb2⟩
                  have HR1 : Hid (Rw el n (rot s i m y) g w1) := hr2
                  have HB1 : Hid (Below g w w1) := HB.out.trans hb2
                  have hgs1 : g < w1.heap.size := by have := hb2.size; omega
                  clear hr2 hb2 HR HB hgs
                  have HR2 : Hid (Rw el n (rot s i m y) g w1) := HR1
                  obtain ⟨v, hv⟩ : ∃ v, v = rot s i m y := ⟨_, rfl⟩
                  have HR2 : Hid (Rw el n v g w1) := by rw [hv]; exact HR1
                  have HW2 : Hid (Win a mid (rot s i m y) v) := by rw [hv]; exact Win.refl _ _ _
                  have HV2 : Hid (Srt (fun x => (el x).k) a mid v) := by
                    rw [hv]
                    have hor : i = a ∨ i = mid := by omega
                    rcases hor with hor | hor
                    · have := G3.out; rw [hor] at this; rw [hor]; exact this
                    · have := G2.out; rw [hor] at this; rw [hor]; exact this
                  have HB2 : Hid (Below g w w1) := HB1
                  have hgs2 := hgs1
                  clear hv HR1 HB1 hgs1
                  have HR3 : Hid (Rw el n v g w1) := HR2
                  have HW3 : Hid (Win mid b v v) := Win.refl _ _ _
                  have HV3 : Hid (Srt (fun x => (el x).k) mid b v) := by
                    have h0 : Srt (fun x => (el x).k) mid b (rot s i m y) := by
                      have hor : y = b ∨ y = mid := by omega
                      rcases hor with hor | hor
                      · have := G4.out; rw [hor] at this; rw [hor]; exact this
                      · have := G5.out; rw [hor] at this; rw [hor]; exact this
                    exact h0.congr fun k k1 _ => HW2.out.1 k (Or.inr k1)
                  have HB3 : Hid (Below g w w1) := HB2
                  have HE := merge_end (by omega) (by omega) G1.out HW2.out HV2.out HW3.out HV3.out
                  have HE1 : Hid (Win a b s _) := (Win.rot s b1 b2 b3 b4).trans HE.1
                  have HE2 : Hid (Srt (fun x => (el x).k) a b _) := HE.2
                  clear HE
                  go_wp2
                  go_end0
                  exact ⟨rfl, ⟨_, HR3.out, HE1.out, HE2.out⟩, HB3.out⟩
          · have cB' : ¬ m < y := by omega
            have cA' : mid < y := by omega
            have cD : y < b := by omega
            have cC : a < i := by omega
            clear hey
            as_aux_lemma =>
              have HR1 : Hid (Rw el n (rot s i m y) g wr) := by
                have hor : i = m ∨ y = m := by omega
                rcases hor with hor | hor
                · have e : rot s i m y = s := by rw [hor]; exact rot_none2 s m y b3
                  rw [e]; exact HR.out
                · have e : rot s i m y = s := by rw [hor]; exact rot_none1 s i m
                  rw [e]; exact HR.out
              have HB1 : Hid (Below g w wr) := HB.out
              have hgs1 := hgs
              clear HR HB
              have HR2 : Hid (Rw el n (rot s i m y) g wr) := HR1
              obtain ⟨v, hv⟩ : ∃ v, v = rot s i m y := ⟨_, rfl⟩
              have HR2 : Hid (Rw el n v g wr) := by rw [hv]; exact HR1
              have HW2 : Hid (Win a mid (rot s i m y) v) := by rw [hv]; exact Win.refl _ _ _
              have HV2 : Hid (Srt (fun x => (el x).k) a mid v) := by
                rw [hv]
                have hor : i = a ∨ i = mid := by omega
                rcases hor with hor | hor
                · have := G3.out; rw [hor] at this; rw [hor]; exact this
                · have := G2.out; rw [hor] at this; rw [hor]; exact this
              have HB2 : Hid (Below g w wr) := HB1
              have hgs2 := hgs1
              clear hv HR1 HB1 hgs1
              have J4 : Hid (Srt (fun x => (el x).k) mid y v) := G4.out.congr fun k k1 _ => HW2.out.1 k (Or.inr k1)
              have J5 : Hid (Srt (fun x => (el x).k) y b v) := G5.out.congr fun k k1 _ => HW2.out.1 k (Or.inr (by omega))
              have J7 : Hid (∀ p q, mid ≤ p → p < y → y ≤ q → q < b → v p < v q) := fun p q p1 p2 p3 p4 => by rw [HW2.out.1 p (Or.inr p1), HW2.out.1 q (Or.inr (by omega))]; exact G7.out p q p1 p2 p3 p4
              go_wp2_with fail
              refine (hIH.out mid y b (by omega) (by omega) (by omega) (by omega) _ _ HR2.out hgs2 J4.out J5.out J7.out).mono ?_
              rintro e w3 ⟨rfl, ⟨v3, hr3, hw3, hs3⟩, hb3⟩
              have HR3 : Hid (Rw el n v3 g w3) := hr3
              have HW3 : Hid (Win mid b v v3) := hw3
              have HV3 : Hid (Srt (fun x => (el x).k) mid b v3) := hs3
              have HB3 : Hid (Below g w w3) := HB2.out.trans hb3
              clear hr3 hw3 hs3 hb3
              have HE := merge_end (by omega) (by omega) G1.out HW2.out HV2.out HW3.out HV3.out
              have HE1 : Hid (Win a b s _) := (Win.rot s b1 b2 b3 b4).trans HE.1
              have HE2 : Hid (Srt (fun x => (el x).k) a b _) := HE.2
              clear HE
              go_wp2
              go_end0
              exact ⟨rfl, ⟨_, HR3.out, HE1.out, HE2.out⟩, HB3.out⟩
        · have cA' : ¬ mid < y := by omega
          have cC : a < i := by omega
          by_cases cB : i < mid
          · have cD : y < b := by omega
            clear hey
            as_aux_lemma =>
              have HR1 : Hid (Rw el n (rot s i m y) g wr) := by
                have hor : i = m ∨ y = m := by omega
                rcases hor with hor | hor
                · have e : rot s i m y = s := by rw [hor]; exact rot_none2 s m y b3
                  rw [e]; exact HR.out
                · have e : rot s i m y = s := by rw [hor]; exact rot_none1 s i m
                  rw [e]; exact HR.out
              have HB1 : Hid (Below g w wr) := HB.out
              have hgs1 := hgs
              clear HR HB
              go_wp2_with fail
              refine (hIH.out a i mid (by omega) (by omega) (by omega) (by omega) _ _ HR1.out hgs1 G2.out G3.out G6.out).mono ?_
              rintro e w2 ⟨rfl, ⟨v, hr2, hw2, hs2⟩, hb2⟩
              have HR2 : Hid (Rw el n v g w2) := hr2
              have HW2 : Hid (Win a mid (rot s i m y) v) := hw2
              have HV2 : Hid (Srt (fun x => (el x).k) a mid v) := hs2
              have HB2 : Hid (Below g w w2) := HB1.out.trans hb2
              have hgs2 : g < w2.heap.size := by have := hb2.size; omega
              clear hr2 hw2 hs2 hb2 HR1 HB1 hgs1
              have HR3 : Hid (Rw el n v g w2) := HR2
              have HW3 : Hid (Win mid b v v) := Win.refl _ _ _
              have HV3 : Hid (Srt (fun x => (el x).k) mid b v) := by
                have h0 : Srt (fun x => (el x).k) mid b (rot s i m y) := by
                  have hor : y = b ∨ y = mid := by omega
                  rcases hor with hor | hor
                  · have := G4.out; rw [hor] at this; rw [hor]; exact this
                  · have := G5.out; rw [hor] at this; rw [hor]; exact this
                exact h0.congr fun k k1 _ => HW2.out.1 k (Or.inr k1)
              have HB3 : Hid (Below g w w2) := HB2
              have HE := merge_end (by omega) (by omega) G1.out HW2.out HV2.out HW3.out HV3.out
              have HE1 : Hid (Win a b s _) := (Win.rot s b1 b2 b3 b4).trans HE.1
              have HE2 : Hid (Srt (fun x => (el x).k) a b _) := HE.2
              clear HE
              go_wp2
              go_end0
              exact ⟨rfl, ⟨_, HR3.out, HE1.out, HE2.out⟩, HB3.out⟩
          · clear hey
            as_aux_lemma =>
              have HR1 : Hid (Rw el n (rot s i m y) g wr) := by
                have hor : i = m ∨ y = m := by omega
                rcases hor with hor | hor
                · have e : rot s i m y = s := by rw [hor]; exact rot_none2 s m y b3
                  rw [e]; exact HR.out
                · have e : rot s i m y = s := by rw [hor]; exact rot_none1 s i m
                  rw [e]; exact HR.out
              have HB1 : Hid (Below g w wr) := HB.out
              have hgs1 := hgs
              clear HR HB
              have HR2 : Hid (Rw el n (rot s i m y) g wr) := HR1
              obtain ⟨v, hv⟩ : ∃ v, v = rot s i m y := ⟨_, rfl⟩
              have HR2 : Hid (Rw el n v g wr) := by rw [hv]; exact HR1
              have HW2 : Hid (Win a mid (rot s i m y) v) := by rw [hv]; exact Win.refl _ _ _
              have HV2 : Hid (Srt (fun x => (el x).k) a mid v) := by
                rw [hv]
                have hor : i = a ∨ i = mid := by omega
                rcases hor with hor | hor
                · have := G3.out; rw [hor] at this; rw [hor]; exact this
                · have := G2.out; rw [hor] at this; rw [hor]; exact this
              have HB2 : Hid (Below g w wr) := HB1
              have hgs2 := hgs1
              clear hv HR1 HB1 hgs1
              have HR3 : Hid (Rw el n v g wr) := HR2
              have HW3 : Hid (Win mid b v v) := Win.refl _ _ _
              have HV3 : Hid (Srt (fun x => (el x).k) mid b v) := by
                have h0 : Srt (fun x => (el x).k) mid b (rot s i m y) := by
                  have hor : y = b ∨ y = mid := by omega
                  rcases hor with hor | hor
                  · have := G4.out; rw [hor] at this; rw [hor]; exact this
                  · have := G5.out; rw [hor] at this; rw [hor]; exact this
                exact h0.congr fun k k1 _ => HW2.out.1 k (Or.inr k1)
              have HB3 : Hid (Below g w wr) := HB2
              have HE := merge_end (by omega) (by omega) G1.out HW2.out HV2.out HW3.out HV3.out
              have HE1 : Hid (Win a b s _) := (Win.rot s b1 b2 b3 b4).trans HE.1
              have HE2 : Hid (Srt (fun x => (el x).k) a b _) := HE.2
              clear HE
              go_wp2
              go_end0
              exact ⟨rfl, ⟨_, HR3.out, HE1.out, HE2.out⟩, HB3.out⟩
end Go.Proofs.Qxb6613603a
