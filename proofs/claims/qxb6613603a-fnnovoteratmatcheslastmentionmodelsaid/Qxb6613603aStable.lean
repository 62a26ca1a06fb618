import Derived.Test.Qxb6613603aSymC
import Derived.Test.Qxb6613603aPlain3
namespace Go.Proofs.Qxb6613603a
open Go.ChangeShapes Go.WideShapes Go.ChangeAt Go.RowKit

theorem sym19 (el : Nat → El) (n c g : Nat) (hn : n ≤ 1000000) : ∀ d a m b, b - a < d → a < m → m < b → b ≤ n → Merges el n c g a m b := by
  intro d
  induction d with
  | zero => intro a m b h; omega
  | succ d ih =>
    intro a m b hd ham hmb hb
    by_cases c1 : m = a + 1
    · intro s w hR hg _ hs2 ht
      subst c1
      exact sym19a el n c g a b s w hR hg hn (a + 1) (Nat.le_refl _) (Nat.le_refl _) hmb hb hs2 fun q h1 h2 => ht a q (Nat.le_refl _) (by omega) h1 h2
    · by_cases c2 : b = m + 1
      · intro s w hR hg hs1 _ ht
        subst c2
        exact sym19b el n c g a (m + 1) s w hR hg hn m (Nat.le_refl _) (Nat.le_refl _) (by omega) hb hs1 fun q h1 h2 => ht q m h1 h2 (Nat.le_refl _) (by omega)
      · exact sym19c el n c g a m b hn (by omega) (by omega) hb fun a' m' b' h1 h2 h3 h4 => ih a' m' b' (by omega) h2 h3 h4

theorem ins18e (v : Value) (a : Nat) (w : World) (ha : a ≤ 1000000) :
    Calls Try.prog 18 #[v, .int .i64 a, .int .i64 a, .func (.func 14) #[] #[]] w fun e w' => e = .returned (.tuple #[]) ∧ w' = w := by
  go_enter Try.func18, Try.ntmps18
  go_wp2
  go_loopw [8] (fun vi wr => vi = .int .i64 (a + 1 : Nat) ∧ wr = w) (fun _ _ => 0)
  case atStart => exact ⟨by go_num, rfl⟩
  case round =>
    obtain ⟨rfl, rfl⟩ := hrel
    have h : ¬ (((a + 1 : Nat) : Int) < (a : Int)) := by omega
    go_wp2
    go_end0
    exact ⟨rfl, rfl⟩

theorem hid_of {p : Prop} (h : p) : Hid p := h
theorem win_none {a : Nat} {s t : Nat → Nat} (h : Win a a s t) : t = s := funext fun k => h.1 k (by omega)
theorem ins18x (el : Nat → El) (n c g a b : Nat) (s : Nat → Nat) (w : World) (hR : Rw el n s g w) (hg : g < w.heap.size) (hn : n ≤ 1000000) (hab : a ≤ b) (hb : b ≤ n) (ht : ∀ p q, a ≤ p → p < q → q < b → s p < s q) :
    Calls Try.prog 18 #[.slice (some ⟨g, 0, none⟩) n c, .int .i64 a, .int .i64 b, .func (.func 14) #[] #[]] w
      fun e w' => e = .returned (.tuple #[]) ∧ (∃ s', Rw el n s' g w' ∧ Win a b s s' ∧ Srt (fun x => (el x).k) a b s') ∧ Below g w w' := by
  by_cases c : a < b
  · exact ins18 el n _ g a b s w hR hg hn c hb ht
  · obtain rfl : a = b := by omega
    refine (ins18e _ a w (by omega)).mono ?_
    rintro e w' ⟨rfl, rfl⟩
    exact ⟨rfl, ⟨s, hR, Win.refl _ _ _, fun i j h1 h2 h3 => by omega⟩, Below.refl _ _⟩
theorem ph1_end' {K : Nat → Int} {n A : Nat} {s t : Nat → Nat} (h : Ph1 K n A s) (ha : A ≤ n) (hn : n < A + 20) (hw : Win A n s t) (hs : Srt K A n t) : SB K n 20 0 n t ∧ Win 0 n (fun k => k) t := by
  by_cases c : A < n
  · exact ph1_end h c hn hw hs
  · obtain rfl : A = n := by omega
    rw [win_none hw]
    exact ⟨h.2.1, h.2.2⟩
theorem ph2_end' {K : Nat → Int} {n bs A : Nat} {s t : Nat → Nat} (h : Ph2 K n bs A s) (ha : A ≤ n) (hn : n < A + 2 * bs) (hw : Win A n s t) (hs : Srt K A n t) : SB K n (2 * bs) 0 n t := by
  by_cases c : A < n
  · exact ph2_end h c hn hw hs
  · obtain rfl : A = n := by omega
    rw [win_none hw]
    exact h.2.1

/-- The second phase's round. -/
def InvP (el : Nat → El) (n g bs : Nat) (w : World) (va vb : Value) (wr : World) : Prop := ∃ (A B : Nat) (s : Nat → Nat), va = .int .i64 A ∧ vb = .int .i64 B ∧ A ≤ n ∧ B ≤ A + 2 * bs ∧ A + 2 * bs ≤ B ∧ Hid (Rw el n s g wr) ∧ Hid (Win 0 n (fun k => k) s) ∧ Hid (Ph2 (fun x => (el x).k) n bs A s) ∧ Hid (Below g w wr) ∧ g < wr.heap.size
def InvQ (el : Nat → El) (n g : Nat) (w : World) (vb : Value) (wr : World) : Prop := ∃ (bs : Nat) (s : Nat → Nat), vb = .int .i64 bs ∧ 20 ≤ bs ∧ bs ≤ 2000020 ∧ Hid (Rw el n s g wr) ∧ Hid (Win 0 n (fun k => k) s) ∧ Hid (SB (fun x => (el x).k) n bs 0 n s) ∧ Hid (Below g w wr) ∧ g < wr.heap.size
def InvR (el : Nat → El) (n g : Nat) (w : World) (va vb : Value) (wr : World) : Prop := ∃ (A B : Nat) (s : Nat → Nat), va = .int .i64 A ∧ vb = .int .i64 B ∧ A ≤ n ∧ B ≤ A + 20 ∧ A + 20 ≤ B ∧ Hid (Rw el n s g wr) ∧ Hid (Ph1 (fun x => (el x).k) n A s) ∧ Hid (Below g w wr) ∧ g < wr.heap.size
/-- What the sorting brings. -/
def Sorted (el : Nat → El) (n g : Nat) (w w' : World) : Prop := ∃ s, Rw el n s g w' ∧ Win 0 n (fun k => k) s ∧ Srt (fun x => (el x).k) 0 n s ∧ Below g w w'

set_option maxRecDepth 100000 in
set_option maxHeartbeats 3200000 in
theorem stable16 (el : Nat → El) (n c g : Nat) (w : World) (hR : Hid (Rw el n (fun k => k) g w)) (hg : g < w.heap.size) (hn : n ≤ 1000000) :
    Calls Try.prog 16 #[.slice (some ⟨g, 0, none⟩) n c, .int .i64 n, .func (.func 14) #[] #[]] w
      fun e w' => e = .returned (.tuple #[]) ∧ Sorted el n g w w' := by
  go_enter Try.func16, Try.ntmps16
  go_wp2
  go_loopw [7, 8] (fun va vb wr => InvR el n g w va vb wr) (fun va _ _ => n - (intOf va).toNat)
  case atStart => exact ⟨0, 20, _, by go_num, by go_num, by omega, by omega, by omega, hR, ph1_start _ _, Below.refl _ _, hg⟩
  case round =>
    obtain ⟨A, B, s, rfl, rfl, hAn, hB1, hB2, HR, HP, HB, hgs⟩ := hrel
    by_cases hlt : B ≤ n
    · go_wp2_with fail
      refine (ins18 el n c g A B s _ HR hgs hn (by omega) (by omega) (ph1_tags HP.out B)).mono ?_
      rintro e w2 ⟨rfl, ⟨s2, hr2, hw2, hs2⟩, hb2⟩
      have HR2 : Hid (Rw el n s2 g w2) := hr2
      have HP2 : Hid (Ph1 (fun x => (el x).k) n (A + 20) s2) := by
        have e : B = A + 20 := by omega
        rw [e] at hw2 hs2
        exact ph1_step HP.out (by omega) hw2 hs2
      have HB2 : Hid (Below g w w2) := HB.out.trans hb2
      have hgs2 : g < w2.heap.size := by have := hb2.size; omega
      clear hr2 hw2 hs2 hb2 HR HP HB hgs
      go_wp2
      go_roundw
      case rel =>
        have e : B = A + 20 := by omega
        exact ⟨A + 20, B + 20, s2, by rw [e], by go_num, by omega, by omega, by omega, HR2, HP2, HB2, hgs2⟩
      case measure => simp [intOf]; omega
    · go_wp2_with fail
      refine (ins18x el n c g A n s _ HR.out hgs hn hAn (Nat.le_refl _) (ph1_tags HP.out n)).mono ?_
      rintro e w2 ⟨rfl, ⟨s2, hr2, hw2, hs2⟩, hb2⟩
      have HR2 : Hid (Rw el n s2 g w2) := hr2
      obtain ⟨hsb, hwn⟩ := ph1_end' HP.out hAn (by omega) hw2 hs2
      have HS2 : Hid (SB (fun x => (el x).k) n 20 0 n s2) := hsb
      have HW2 : Hid (Win 0 n (fun k => k) s2) := hwn
      have HB2 : Hid (Below g w w2) := HB.out.trans hb2
      have hgs2 : g < w2.heap.size := by have := hb2.size; omega
      clear hr2 hw2 hs2 hb2 HR HP HB hgs hsb hwn
      go_wp2
      go_loopw [6] (fun vb wr => InvQ el n g w vb wr) (fun vb _ => n - (intOf vb).toNat)
      case atStart => exact ⟨20, s2, by go_num, by omega, by omega, HR2, HW2, HS2, HB2, hgs2⟩
      case round =>
        clear HR2 HW2 HS2 HB2 hgs2
        obtain ⟨bs, u, rfl, hbs1, hbs2, HR3, HW3, HS3, HB3, hgs3⟩ := hrel
        by_cases hlt2 : bs < n
        · go_wp2
          go_loopw [7, 8] (fun va vb wr => InvP el n g bs w va vb wr) (fun va _ _ => n - (intOf va).toNat)
          case atStart => exact ⟨0, 2 * bs, u, by go_num, by go_num, by omega, by omega, by omega, HR3, HW3, ph2_start HS3.out, HB3, hgs3⟩
          case round =>
            clear HR3 HW3 HS3 HB3 hgs3
            obtain ⟨A', B', v, rfl, rfl, hAn', hB1', hB2', HR4, HW4, HP4, HB4, hgs4⟩ := hrel
            obtain ⟨M, hM1, hM2⟩ : ∃ M : Nat, M ≤ A' + bs ∧ A' + bs ≤ M := ⟨A' + bs, Nat.le_refl _, Nat.le_refl _⟩
            have dM : (A' : Int) + (bs : Int) = (M : Int) := by omega
            by_cases hlt3 : B' ≤ n
            · have F := sym19 el n c g hn (B' - A' + 1) A' M B' (by omega) (by omega) (by omega) hlt3 v wr HR4.out hgs4
                ((ph2_one HP4.out (by omega)).1 M (by omega) (by omega))
                (by have e : M = A' + bs := by omega
                    rw [e]; exact (ph2_two HP4.out (by omega)).1 B' (by omega) hlt3)
                (by have e : M = A' + bs := by omega
                    rw [e]; exact fun p q p1 p2 p3 p4 => (ph2_two HP4.out (by omega)).2 p q p2 p3 (by omega))
              have HF := hid_of F
              clear F
              go_wp2_with fail
              refine HF.out.mono ?_
              rintro e w5 ⟨rfl, ⟨v5, hr5, hw5, hs5⟩, hb5⟩
              have HR5 : Hid (Rw el n v5 g w5) := hr5
              have HW5 : Hid (Win 0 n (fun k => k) v5) := HW4.out.trans (hw5.mono (by omega) hlt3)
              have HP5 : Hid (Ph2 (fun x => (el x).k) n bs (A' + 2 * bs) v5) := by
                have e : B' = A' + 2 * bs := by omega
                rw [e] at hw5 hs5
                exact ph2_step HP4.out (by omega) (by omega) hw5 hs5
              have HB5 : Hid (Below g w w5) := HB4.out.trans hb5
              have hgs5 : g < w5.heap.size := by have := hb5.size; omega
              clear hr5 hw5 hs5 hb5 HR4 HW4 HP4 HB4 hgs4 HF
              go_wp2
              go_roundw
              case rel =>
                have e : B' = A' + 2 * bs := by omega
                exact ⟨A' + 2 * bs, B' + 2 * bs, v5, by rw [e], by go_num, by omega, by omega, by omega, HR5, HW5, HP5, HB5, hgs5⟩
              case measure => simp [intOf]; omega
            · by_cases hlt4 : M < n
              · have F := sym19 el n c g hn (n - A' + 1) A' M n (by omega) (by omega) (by omega) (Nat.le_refl _) v wr HR4.out hgs4
                  ((ph2_one HP4.out (by omega)).1 M (by omega) (by omega))
                  (by have e : M = A' + bs := by omega
                      rw [e]; exact (ph2_two HP4.out (by omega)).1 n (by omega) (Nat.le_refl _))
                  (by have e : M = A' + bs := by omega
                      rw [e]; exact fun p q p1 p2 p3 p4 => (ph2_two HP4.out (by omega)).2 p q p2 p3 (by omega))
                have HF := hid_of F
                clear F
                go_wp2_with fail
                refine HF.out.mono ?_
                rintro e w5 ⟨rfl, ⟨v5, hr5, hw5, hs5⟩, hb5⟩
                have HR5 : Hid (Rw el n v5 g w5) := hr5
                have HW5 : Hid (Win 0 n (fun k => k) v5) := HW4.out.trans (hw5.mono (by omega) (Nat.le_refl _))
                have HP5 : Hid (SB (fun x => (el x).k) n (2 * bs) 0 n v5) := ph2_end' HP4.out hAn' (by omega) hw5 hs5
                have HB5 : Hid (Below g w w5) := HB4.out.trans hb5
                have hgs5 : g < w5.heap.size := by have := hb5.size; omega
                clear hr5 hw5 hs5 hb5 HR4 HW4 HP4 HB4 hgs4 HF
                go_wp2
                go_roundw
                case rel => exact ⟨2 * bs, v5, by go_num, by omega, by omega, HR5, HW5, HP5, HB5, hgs5⟩
                case measure => simp [intOf]; omega
              · have HP5 : Hid (SB (fun x => (el x).k) n (2 * bs) 0 n v) := by
                  refine ph2_end' HP4.out hAn' (by omega) (Win.refl _ _ _) ?_
                  by_cases hc : A' < n
                  · exact (ph2_one HP4.out hc).1 n (by omega) (Nat.le_refl _)
                  · intro i j h1 h2 h3; omega
                go_wp2
                go_roundw
                case rel => exact ⟨2 * bs, v, by go_num, by omega, by omega, HR4, HW4, HP5, HB4, hgs4⟩
                case measure => simp [intOf]; omega
        · have HE : Hid (Srt (fun x => (el x).k) 0 n u) := sb_all HS3.out (by omega)
          go_wp2
          go_end0
          exact ⟨rfl, ⟨u, HR3.out, HW3.out, HE.out, HB3.out⟩⟩

theorem stable16e (v : Value) (w : World) : Calls Try.prog 16 #[v, .int .i64 0, .func (.func 14) #[] #[]] w fun e w' => e = .returned (.tuple #[]) ∧ w' = w := by
  go_enter Try.func16, Try.ntmps16
  go_wp2
  go_loopw [7, 8] (fun va vb wr => va = .int .i64 0 ∧ vb = .int .i64 20 ∧ wr = w) (fun _ _ _ => 0)
  case atStart => exact ⟨rfl, rfl, rfl⟩
  case round =>
    obtain ⟨rfl, rfl, rfl⟩ := hrel
    go_wp2_with fail
    refine (ins18e v 0 _ (by omega)).mono ?_
    rintro e w2 ⟨rfl, rfl⟩
    go_wp2
    go_loopw [6] (fun vb wx => vb = .int .i64 20 ∧ wx = w2) (fun _ _ => 0)
    case atStart => exact ⟨rfl, rfl⟩
    case round =>
      obtain ⟨rfl, rfl⟩ := hrel
      go_wp2
      go_end0
      exact ⟨rfl, rfl⟩

theorem sort13 (el : Nat → El) (n c g : Nat) (w : World) (hR : Hid (Rw el n (fun k => k) g w)) (hg : g < w.heap.size) (hn : n ≤ 1000000) :
    Calls Try.prog 13 #[.slice (some ⟨g, 0, none⟩) n c, .func (.func 14) #[] #[]] w
      fun e w' => e = .returned (.tuple #[]) ∧ Sorted el n g w w' := by
  go_enter Try.func13, Try.ntmps13
  go_wp2_with fail
  refine (stable16 el n c g w hR hg hn).mono ?_
  rintro e w2 ⟨rfl, hs⟩
  go_wp2
  go_end0
  exact ⟨rfl, hs⟩
theorem sort13e (a : Option Addr) (c : Nat) (w : World) : Calls Try.prog 13 #[.slice a 0 c, .func (.func 14) #[] #[]] w fun e w' => e = .returned (.tuple #[]) ∧ w' = w := by
  go_enter Try.func13, Try.ntmps13
  go_wp2_with fail
  refine (stable16e _ w).mono ?_
  rintro e w2 ⟨rfl, rfl⟩
  go_wp2
  go_end0
  exact ⟨rfl, rfl⟩
end Go.Proofs.Qxb6613603a
