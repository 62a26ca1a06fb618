import Derived.Test.Qxb6613603aOwn
import Derived.Test.Qxb6613603aPlain6
import Derived.Laws.OwnMore
namespace Go.Proofs.Qxb6613603a
open Go.ChangeShapes Go.WideShapes Go.ChangeAt Go.RowKit Go.Maps

theorem info3 : (Try.prog.info? 3).map (fun i => (i.zero, i.size, i.bytes)) = some (some (.int .i64 0), 1, 8) := by kernel_rfl

/-! ### rows of one-cell elements -/
def RwV (h : Nat → Value) (n g : Nat) (w : World) : Prop := (∀ k, k < n → w.cell? ⟨g, k, none⟩ = some (h k)) ∧ (∀ o, w.frozen? ⟨g, o, none⟩ = false)
theorem RwV.put {h : Nat → Value} {n g j : Nat} {w : World} (H : RwV h n g w) (hj : j < n) (v : Value) : RwV (fun k => if k = j then v else h k) n g (w.setCell ⟨g, j, none⟩ v) := by
  refine ⟨fun k hk => ?_, fun o => by rw [World.frozen?_setCell]; exact H.2 o⟩
  rw [set_cell ⟨_, H.1 j hj⟩]
  dsimp only
  by_cases c : k = j
  · rw [if_pos c, if_pos c]
  · rw [if_neg c, if_neg c]; exact H.1 k hk
theorem RwV.congr {h h' : Nat → Value} {n g : Nat} {w : World} (H : RwV h n g w) (he : ∀ k, k < n → h' k = h k) : RwV h' n g w := ⟨fun k hk => by rw [he k hk]; exact H.1 k hk, H.2⟩
theorem RwV.block {h : Nat → Value} {n g : Nat} {w w' : World} (H : RwV h n g w) (hb : w'.heap[g]? = w.heap[g]?) : RwV h n g w' :=
  ⟨fun k hk => by rw [World.cell?_of_block (a := ⟨g, k, none⟩) hb]; exact H.1 k hk, fun o => (World.frozen?_of_block (a := ⟨g, o, none⟩) hb).trans (H.2 o)⟩
theorem RwV.drewN {h : Nat → Value} {n g : Nat} {w : World} (H : RwV h n g w) (k : Nat) : RwV h n g (w.drewN k) := ⟨H.1, H.2⟩
theorem rwv_of_owns {z : Value} {n base g : Nat} {e : TypeId} {w : World} (h : w.ownsRow base e 1 (.slice (some ⟨g, 0, none⟩) n n) n (madeCells #[z] (n * 1)).toList) : RwV (fun _ => z) n g w := by
  have hh := h
  rw [Nat.mul_one, toList_madeCells_one] at hh
  obtain ⟨_, h | ⟨g', cap, cur, h0, hb, hg, h1, h2, h3, h4⟩⟩ := h
  · simp at h
  · simp only [Value.slice.injEq, Option.some.injEq, Addr.mk.injEq, and_true, true_and] at h0
    obtain ⟨rfl, rfl⟩ := h0
    refine ⟨fun k hk => ?_, fun o => by simp [World.frozen?, hg]⟩
    have := hh.cells (g := g) rfl k z (by simp [hk])
    rw [Addr.add_lit, Nat.zero_add] at this
    exact this

/-! ### chgOrder -/
def ChgPost (el : Nat → El) (n : Nat) (w : World) (e : Ending) (w' : World) : Prop := ∃ (g : Nat) (s : Nat → Nat), e = .returned (.slice (some ⟨g, 0, none⟩) n n) ∧ w.heap.size ≤ g ∧ g < w'.heap.size ∧ RwV (fun k => .int .i64 (s k)) n g w' ∧
  Win 0 n (fun k => k) s ∧ Srt (fun x => (el x).k) 0 n s ∧ off (fun i => (el i).l) s n = sumL el n ∧ Below w.heap.size w w'
def InvG (el : Nat → El) (n g : Nat) (w : World) (vi : Value) (wr : World) : Prop := ∃ (i : Nat) (u : Nat → Nat) (h : Nat → Int), vi = .int .i64 i ∧ i ≤ n ∧ Hid (RwV (fun k => .int .i64 (h k)) n g wr) ∧ Hid (∀ k, k < i → h k = (u k : Int)) ∧
  Hid (Win 0 i (fun k => k) u) ∧ Hid (Srt (fun x => (el x).k) 0 i u) ∧ Hid (off (fun i => (el i).l) u i = sumL el i) ∧ Hid (Below g w wr) ∧ g < wr.heap.size
def InvH (el : Nat → El) (n g i : Nat) (u : Nat → Nat) (w : World) (vj : Value) (wr : World) : Prop := ∃ (j : Nat) (h : Nat → Int), vj = .int .i64 j ∧ j ≤ i ∧ Hid (RwV (fun k => .int .i64 (h k)) n g wr) ∧ Hid (∀ k, k < j → h k = (u k : Int)) ∧
  Hid (∀ k, j < k → k ≤ i → h k = (u (k - 1) : Int)) ∧ Hid (∀ q, j ≤ q → q < i → (el i).k < (el (u q)).k) ∧ Hid (Below g w wr) ∧ g < wr.heap.size

theorem ord_step {el : Nat → El} {n g i j : Nat} {u : Nat → Nat} {h : Nat → Int} {w wr : World} (HR : RwV (fun k => .int .i64 (h k)) n g wr) (H1 : ∀ k, k < j → h k = (u k : Int)) (H2 : ∀ k, j < k → k ≤ i → h k = (u (k - 1) : Int)) (H3 : ∀ q, j ≤ q → q < i → (el i).k < (el (u q)).k)
    (HB : Below g w wr) (hg : g < wr.heap.size) (HW : Win 0 i (fun k => k) u) (HS : Srt (fun x => (el x).k) 0 i u) (HO : off (fun i => (el i).l) u i = sumL el i) (hj : j ≤ i) (hi : i < n) (hst : j = 0 ∨ (0 < j ∧ ¬ (el i).k < (el (u (j - 1))).k)) :
    InvG el n g w (.int .i64 ((i : Int) + 1)) (wr.setCell ⟨g, j, none⟩ (.int .i64 i)) := by
  have hui : u i = i := HW.1 i (Or.inr (Nat.le_refl _))
  refine ⟨i + 1, rot u j i (i + 1), fun k => if k = j then (i : Int) else h k, by go_num, hi, ?_, fun k hk => ?_, (HW.mono (Nat.le_refl _) (by omega)).trans (Win.rot u (Nat.zero_le _) hj (by omega) (Nat.le_refl _)), ?_, ?_, HB.setCell (Nat.le_refl _) _, by simp; exact hg⟩
  · refine RwV.congr (HR.put (j := j) (by omega) _) fun k _ => ?_
    dsimp only
    by_cases c : k = j
    · rw [if_pos c, if_pos c]
    · rw [if_neg c, if_neg c]
  · dsimp only
    by_cases c : k = j
    · subst c
      rw [if_pos rfl, rot_lo (Nat.le_refl _) (by omega), show k - k + i = i by omega, hui]
    · rw [if_neg c]
      by_cases d : k < j
      · rw [rot_out (by omega) hj (Or.inl d)]; exact H1 k d
      · rw [rot_hi (by omega) hk, show k - (i + 1 - i) = k - 1 by omega]; exact H2 k (by omega) (by omega)
  · refine merge2 HS (fun q _ q2 => ?_) (Nat.zero_le _) hj (fun q _ q2 => ?_) fun q q1 q2 => ?_
    · obtain ⟨p, _, p2, e⟩ := HW.2.1 q (Nat.zero_le _) q2
      rw [e, hui]; exact p2
    · skip
      rw [hui]
      rcases hst with hst | ⟨h0, hst⟩
      · omega
      · have := HS.key (i := q) (j := j - 1) (Nat.zero_le _) (by omega) (by omega)
        omega
    · skip
      rw [hui]; exact H3 q q1 q2
  · show _ = sumL el i + (el i).l
    rw [off_rot hj, HO, hui]

theorem ord_shift {el : Nat → El} {n g i p q : Nat} {u : Nat → Nat} {h : Nat → Int} {w wr : World} (HR : RwV (fun k => .int .i64 (h k)) n g wr) (H1 : ∀ k, k < p + 1 → h k = (u k : Int)) (H2 : ∀ k, p + 1 < k → k ≤ i → h k = (u (k - 1) : Int)) (H3 : ∀ m, p + 1 ≤ m → m < i → (el i).k < (el (u m)).k)
    (HB : Below g w wr) (hg : g < wr.heap.size) (hq : q = u p) (hp : p + 1 ≤ i) (hn : p + 1 < n) (hk : (el i).k < (el q).k) : InvH el n g i u w (.int .i64 p) (wr.setCell ⟨g, p + 1, none⟩ (.int .i64 q)) := by
  refine ⟨p, fun k => if k = p + 1 then (q : Int) else h k, rfl, by omega, ?_, fun k hk' => ?_, fun k k1 k2 => ?_, fun m m1 m2 => ?_, HB.setCell (Nat.le_refl _) _, by simp; exact hg⟩
  · refine RwV.congr (HR.put (j := p + 1) hn (.int .i64 q)) fun k _ => ?_
    dsimp only
    by_cases c : k = p + 1
    · rw [if_pos c, if_pos c]
    · rw [if_neg c, if_neg c]
  · dsimp only
    rw [if_neg (by omega)]; exact H1 k (by omega)
  · dsimp only
    by_cases c : k = p + 1
    · rw [if_pos c, c, Nat.add_sub_cancel, hq]
    · rw [if_neg c]; exact H2 k (by omega) k2
  · by_cases c : m = p
    · rw [c, ← hq]; exact hk
    · exact H3 m (by omega) m2

set_option maxRecDepth 100000 in
set_option maxHeartbeats 3200000 in
theorem chg11 (el : Nat → El) (n c : Nat) (a : Option Addr) (F : Nat → Nat → Int × Int) (w : World) (hS : Hid (Src w a n el F)) (hn : n ≤ 10000) :
    Calls Try.prog 11 #[.slice a n c] w fun e w' => ChgPost el n w e w' := by
  obtain ⟨i0, hi0, hz0, hz1, hz2⟩ := info_parts info3
  go_enter Try.func11, Try.ntmps11
  go_wp2_with (first | (at_make; refine wpList_make_full _ rfl _ _ 53 rfl w.heap.size 3 i0 _ 1 Try.underlying53 hi0 hz0 hz1 _ _ _ _ n rfl rfl (by omega) (by omega) (by rw [hz2]; omega) (by unfold maxLen; omega) (by omega) ?_; intro w1 hown hgrow) | go_in)
  have HR1 : Hid (RwV (fun _ => .int .i64 0) n w.heap.size w1) := rwv_of_owns hown
  have hg1 : w.heap.size < w1.heap.size := (hown.lt _ rfl).2
  have HB1 : Hid (Below w.heap.size w w1) := (Below.refl _ _).grown hgrow (Nat.le_refl _) (by simp)
  clear hown hgrow
  go_loopw [4] (fun vi wr => InvG el n w.heap.size w vi wr) (fun vi _ => n - (intOf vi).toNat)
  case atStart => exact ⟨0, fun k => k, fun _ => 0, rfl, by omega, HR1, fun k hk => by omega, Win.refl _ _ _, fun i j h1 h2 h3 => by omega, rfl, HB1, hg1⟩
  case round =>
    clear HR1 HB1 hg1
    obtain ⟨i, u, h, rfl, hin, HR, H1, HW, HS, HO, HB, hgs⟩ := hrel
    by_cases hi : i < n
    · go_wp2
      go_loopw [5] (fun vj wr => InvH el n w.heap.size i u w vj wr) (fun vj _ => (intOf vj).toNat)
      case atStart => exact ⟨i, h, rfl, Nat.le_refl _, HR, H1, fun k h1 h2 => by omega, fun q h1 h2 => by omega, HB, hgs⟩
      case round =>
        clear HR H1 HB hgs
        clear h
        obtain ⟨j, h, rfl, hji, HR, H1, H2, H3, HB, hgs⟩ := hrel
        obtain ⟨⟨b, o, ha, _, _, _, x3⟩, _⟩ := (hS.out.kept HB.out) i hi
        subst ha
        obtain ⟨xk, hxk⟩ : ∃ xk, xk = (el i).k := ⟨_, rfl⟩
        rw [← hxk] at x3
        have HXK : Hid (xk = (el i).k) := hxk
        clear hxk
        have hii : (i : Int) < (n : Int) := by omega
        have fz := HR.out.2
        by_cases hj0 : j < 1
        · have hd' : decide (0 < j) = false := decide_eq_false (by omega)
          have hd : decide ((0 : Int) < (j : Int)) = false := decide_eq_false (by omega)
          have HJ : Hid (j = 0) := by show j = 0; omega
          have z0 := HR.out.1 j (by omega)
          have hjn : (j : Int) < (n : Int) := by omega
          clear hj0
          go_wp2_with fail
          go_quiet (fail)
          go_wp2
          go_roundw
          case rel => exact ord_step (HR.out.drewN _) H1.out H2.out H3.out (below_drawn HB.out _) hgs HW.out HS.out HO.out hji hi (Or.inl HJ.out)
          case measure => simp [intOf]; omega
        · obtain ⟨p, rfl⟩ : ∃ p, j = p + 1 := ⟨j - 1, by omega⟩
          have hup : u p < i := by
            obtain ⟨q, _, q2, e⟩ := HW.out.2.1 p (Nat.zero_le _) (by omega)
            rw [e]; exact q2
          obtain ⟨q, hq⟩ : ∃ q, q = u p := ⟨_, rfl⟩
          have z0 := HR.out.1 p (by omega)
          have z1 := HR.out.1 (p + 1) (by omega)
          dsimp only at z0 z1
          rw [H1.out p (by omega), ← hq] at z0
          obtain ⟨zz, hzz⟩ : ∃ zz, zz = h (p + 1) := ⟨_, rfl⟩
          rw [← hzz] at z1
          clear hzz
          rw [← hq] at hup
          have HQ : Hid (q = u p) := hq
          clear hq
          obtain ⟨⟨b', o', ha, _, _, _, y3⟩, _⟩ := (hS.out.kept HB.out) q (by omega)
          simp only [Option.some.injEq, Addr.mk.injEq, and_true] at ha
          obtain ⟨rfl, rfl⟩ := ha
          obtain ⟨yk, hyk⟩ : ∃ yk, yk = (el q).k := ⟨_, rfl⟩
          rw [← hyk] at y3
          have HYK : Hid (yk = (el q).k) := hyk
          clear hyk
          have hwp : IntKind.i64.wrap (p : Int) = (p : Int) := by rw [IntKind.wrap_i64]; omega
          have hpn : (p : Int) < (n : Int) := by omega
          have hpn1 : (p : Int) + 1 < (n : Int) := by omega
          have hpp : (0 : Int) ≤ (p : Int) + 1 := by omega
          have hp0 : (0 : Int) < (p : Int) + 1 := by omega
          have ht1 : ((p : Int) + 1).toNat = p + 1 := by omega
          have hqn : (q : Int) < (n : Int) := by omega
          by_cases hk : xk < yk
          · have HK : Hid (xk < yk) := hk
            go_wp2_with fail
            go_quiet (fail)
            go_wp2
            go_roundw
            case rel => exact ord_shift (HR.out.drewN _) H1.out H2.out H3.out (below_drawn HB.out _) hgs HQ.out (by omega) (by omega) (by rw [← HYK.out, ← HXK.out]; exact HK.out)
            case measure => simp [intOf]
          · have hd : decide (xk < yk) = false := decide_eq_false hk
            have HK : Hid (yk ≤ xk) := Int.not_lt.1 hk
            go_wp2_with fail
            go_quiet (fail)
            go_wp2
            go_roundw
            case rel => exact ord_step (HR.out.drewN _) H1.out H2.out H3.out (below_drawn HB.out _) hgs HW.out HS.out HO.out hji hi (Or.inr ⟨by omega, by rw [Nat.add_sub_cancel, ← HQ.out, ← HYK.out, ← HXK.out]; exact Int.not_lt.2 HK.out⟩)
            case measure => simp [intOf]; omega
    · obtain rfl : n = i := by omega
      go_wp2
      go_ret
      exact ⟨w.heap.size, u, rfl, Nat.le_refl _, hgs, HR.out.congr (fun k hk => by rw [H1.out k hk]), HW.out, HS.out, HO.out, HB.out⟩
end Go.Proofs.Qxb6613603a
