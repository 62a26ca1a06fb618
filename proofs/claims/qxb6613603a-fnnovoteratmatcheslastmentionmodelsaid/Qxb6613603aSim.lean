import Derived.Test.Qxb6613603aRow2
import Derived.Laws.Cover3
namespace Go.Proofs.Qxb6613603a
open Go.ChangeShapes Go.WideShapes Go.ChangeAt Go.RowKit Go.Maps

/-- What toSimChanges brings: new elements E with el's lengths and ticks and F's singles. -/
def SimPost (el : Nat → El) (n : Nat) (F : Nat → Nat → Int × Int) (w : World) (e : Ending) (w' : World) : Prop :=
  ∃ (g : Nat) (E : Nat → El), e = .returned (.slice (some ⟨g, 0, none⟩) n n) ∧ w.heap.size ≤ g ∧ g < w'.heap.size ∧ RwE E n g w' ∧ (∀ i, i < n → SgB g w' (E i) (F i) ∧ (E i).l = (el i).l ∧ (E i).k = (el i).k) ∧ Below w.heap.size w w'
def InvO (el : Nat → El) (n : Nat) (F : Nat → Nat → Int × Int) (g : Nat) (w : World) (v : Value) (wr : World) : Prop :=
  ∃ (k : Nat) (E : Nat → El), v = .int .i64 k ∧ k ≤ n ∧ Hid (RwE E n g wr) ∧ Hid (∀ i, i < k → SgB g wr (E i) (F i) ∧ (E i).l = (el i).l ∧ (E i).k = (el i).k) ∧ Hid (Below g w wr) ∧ g < wr.heap.size
def InvI (l p : Nat) (f : Nat → Int × Int) (w1 : World) (v : Value) (wx : World) : Prop :=
  ∃ j : Nat, v = .int .i64 j ∧ j ≤ l ∧ Hid (RwS (upto f j) l p wx) ∧ Hid (Below p w1 wx) ∧ p < wx.heap.size

theorem neq24 (a : Option Addr) (n c : Nat) (wx : World) : (binOp .neq 24 (.slice a n c) (.slice none 0 0)).run Try.prog wx = .ok (.bool (!a.isNone)) wx := run_neq_slice_nil _ _ _ _ _ _ Try.underlying24

theorem invo_step {el : Nat → El} {n : Nat} {F : Nat → Nat → Int × Int} {g k : Nat} {E : Nat → El} {w wr : World} (HR : RwE E n g wr) (HS : ∀ i, i < k → SgB g wr (E i) (F i) ∧ (E i).l = (el i).l ∧ (E i).k = (el i).k) (HB : Below g w wr) (hgs : g < wr.heap.size) (hk : k < n)
    (x : El) (hx : SgB g wr x (F k)) (hl : x.l = (el k).l) (ht : x.k = (el k).k) : InvO el n F g w (.int .i64 ((k : Int) + 1)) (put4 wr g k x).drew := by
  refine ⟨k + 1, fun i => if i = k then x else E i, by go_num, hk, (HR.put4 hk x).drew, fun i hi => ?_, (below_put4 HB (Nat.le_refl _) _ _).drew, ?_⟩
  · dsimp only
    by_cases c : i = k
    · subst c
      rw [if_pos rfl]
      exact ⟨hx.kept fun q q1 _ => heap_put4 _ _ _ _ q (by omega), hl, ht⟩
    · rw [if_neg c]
      obtain ⟨s1, s2⟩ := HS i (by omega)
      exact ⟨s1.kept fun q q1 _ => heap_put4 _ _ _ _ q (by omega), s2⟩
  · show g < (put4 wr g k x).heap.size
    unfold put4
    simp
    exact hgs
theorem invo_kept {el : Nat → El} {n : Nat} {F : Nat → Nat → Int × Int} {g k : Nat} {E : Nat → El} {w wr wx : World} (HR : RwE E n g wr) (HS : ∀ i, i < k → SgB g wr (E i) (F i) ∧ (E i).l = (el i).l ∧ (E i).k = (el i).k) (HB : Below g w wr) (hgs : g < wr.heap.size) (hb : Below wr.heap.size wr wx) :
    RwE E n g wx ∧ (∀ i, i < k → SgB g wx (E i) (F i) ∧ (E i).l = (el i).l ∧ (E i).k = (el i).k) ∧ Below g w wx ∧ g < wx.heap.size :=
  ⟨HR.block (hb.block g hgs), fun i hi => ⟨(HS i hi).1.kept fun q _ q2 => hb.block q q2, (HS i hi).2⟩, HB.trans (hb.mono (Nat.le_of_lt hgs)), Nat.lt_of_lt_of_le hgs hb.size⟩
theorem sgb_of_rws {f : Nat → Int × Int} {l g p c : Nat} {v : Bool} {t k : Int} {w wx : World} {x : El} (h : RwS (upto f l) l p wx) (hg : g < p) (hx : SgIn w x f) (hxl : x.l = l) : SgB g wx ⟨some ⟨p, 0, none⟩, l, c, v, t, k⟩ f := by
  subst hxl
  refine ⟨hx.1, fun j hj => ?_⟩
  obtain ⟨h1, h2⟩ := h.1 j hj
  obtain ⟨_, _, _, _, _, h3⟩ := hx.2.2 j hj
  unfold upto at h1 h2
  rw [if_pos hj] at h1 h2
  exact ⟨p, hg, rfl, h1, h2, h3⟩

set_option maxRecDepth 100000 in
set_option maxHeartbeats 3200000 in
theorem sim6 (el : Nat → El) (n c : Nat) (a : Option Addr) (F : Nat → Nat → Int × Int) (w : World) (hS : Hid (Src w a n el F)) (hn : n ≤ 10000) :
    Calls Try.prog 6 #[.slice a n c] w fun e w' => SimPost el n F w e w' := by
  obtain ⟨i0, hi0, hz0, hz1, hz2⟩ := info_parts info51
  obtain ⟨j0, hj0, hy0, hy1, hy2⟩ := info_parts info46
  have hq := neq24
  go_enter Try.func6, Try.ntmps6
  go_wp2_with (first | (at_make; refine wpList_make_full _ rfl _ _ 28 rfl w.heap.size 51 i0 _ 4 Try.underlying28 hi0 hz0 hz1 _ _ _ _ n rfl rfl (by omega) (by omega) (by rw [hz2]; omega) (by unfold maxLen; omega) (by omega) ?_; intro w1 hown hgrow) | go_in)
  rw [made4] at hown
  obtain ⟨g', cap', hv, _, hgs, hr⟩ := rw_of_owns hown (by simp)
  simp only [Value.slice.injEq, Option.some.injEq, Addr.mk.injEq, and_true, true_and] at hv
  obtain ⟨rfl, rfl⟩ := hv
  have HR1 : Hid (RwE (fun _ => zEl) n w.heap.size w1) := hr
  have HB1 : Hid (Below w.heap.size w w1) := (Below.refl _ _).grown hgrow (Nat.le_refl _) (by simp)
  clear hown hgrow hr
  go_loopw [4] (fun v wr => InvO el n F w.heap.size w v wr) (fun v _ => n - (intOf v).toNat)
  case atStart => exact ⟨0, _, rfl, by omega, HR1, fun i hi => by omega, HB1, hgs⟩
  case round =>
    clear HR1 HB1 hgs
    obtain ⟨k, E, rfl, hkn, HR, HS, HB, hgs⟩ := hrel
    obtain ⟨wo, hwo⟩ : ∃ wo, wo = wr := ⟨_, rfl⟩
    subst hwo
    by_cases hk : k < n
    · obtain ⟨⟨b, o, ha, x0, x1, x2, x3⟩, hg0⟩ := (hS.out.kept HB.out) k hk
      subst ha
      obtain ⟨x, hx⟩ : ∃ x, x = el k := ⟨_, rfl⟩
      rw [← hx] at x0 x1 x2 x3 hg0
      have HX : Hid (x = el k) := hx
      have HG : Hid (SgIn wo x (F k)) := hg0
      clear hx hg0
      obtain ⟨d0, d1, d2, d3⟩ := HR.out.1 k hk
      obtain ⟨y, hy⟩ : ∃ y, y = E k := ⟨_, rfl⟩
      rw [← hy] at d0 d1 d2 d3
      clear hy
      obtain ⟨xa, xl, xc, xv, xt, xk⟩ := x
      dsimp only at x0 x1 x2 x3
      have hkk : (k : Int) < (n : Int) := by omega
      have fz := HR.out.2
      cases xa with
      | none =>
        have hxl : xl = 0 := HG.out.2.1 rfl
        subst hxl
        have HI : Hid (InvO el n F w.heap.size w (.int .i64 ((k : Int) + 1)) (put4 wo w.heap.size k ⟨none, 0, 0, xv, xt, xk⟩).drew) :=
          invo_step HR.out HS.out HB.out hgs hk _ ⟨by simp, fun j hj => by simp at hj⟩ (by rw [← HX.out]) (by rw [← HX.out])
        go_wp2_with fail
        go_region
        go_wp2
        go_roundw
        case rel => exact HI.out
        case measure => simp [intOf]; omega
      | some ad =>
        have HXL : Hid (SgIn wo ⟨some ad, xl, xc, xv, xt, xk⟩ (F k)) := HG
        have hxl : xl ≤ 1000000 := HG.out.1
        go_wp2_with (first | (at_make; refine wpList_make_full _ rfl _ _ 43 rfl wo.heap.size 46 j0 _ 2 Try.underlying43 hj0 hy0 hy1 _ _ _ _ xl rfl rfl (by omega) (by omega) (by rw [hy2]; omega) (by unfold maxLen; omega) (by omega) ?_; intro w2 hown2 hgrow2) | go_in)
        have HR2 : Hid (RwS (upto (F k) 0) xl wo.heap.size w2) := rws_of_owns hown2
        have HB2 : Hid (Below wo.heap.size wo w2) := (Below.refl _ _).grown hgrow2 (Nat.le_refl _) (by simp)
        have hgs2 : wo.heap.size < w2.heap.size := by
          rcases hown2.lt _ rfl with ⟨_, h⟩
          exact h
        clear hown2 hgrow2
        go_loopw [6] (fun v wx => InvI xl wo.heap.size (F k) wo v wx) (fun v _ => xl - (intOf v).toNat)
        case atStart => exact ⟨0, rfl, by omega, HR2, HB2, hgs2⟩
        case round =>
          clear HR2 HB2 hgs2
          obtain ⟨j, rfl, hjl, HR3, HB3, hgs3⟩ := hrel
          have hbl : b < wo.heap.size := cell_lt x0
          have e0 : wr.cell? ⟨b, o + k * 4, none⟩ = some (.slice (some ad) xl xc) := by rw [HB3.out.cell (p := ⟨b, o + k * 4, none⟩) hbl]; exact x0
          by_cases hj : j < xl
          · obtain ⟨b2, o2, ha, y0, y1, _⟩ := (HG.out.kept HB3.out).2.2 j hj
            simp only [Option.some.injEq] at ha
            subst ha
            obtain ⟨t, ht⟩ : ∃ t, t = (F k j).1 := ⟨_, rfl⟩
            obtain ⟨id, hid⟩ : ∃ id, id = (F k j).2 := ⟨_, rfl⟩
            rw [← ht] at y0
            rw [← hid] at y1
            have HST : Hid (RwS (upto (F k) (j + 1)) xl wo.heap.size (put2 wr wo.heap.size j t id).drew) := by rw [ht, hid]; exact HR3.out.step hj
            clear ht hid
            obtain ⟨z0, z1⟩ := HR3.out.1 j hj
            obtain ⟨z, hz⟩ : ∃ z, z = upto (F k) j j := ⟨_, rfl⟩
            rw [← hz] at z0 z1
            clear hz
            have fz3 := HR3.out.2
            have hjj : (j : Int) < (xl : Int) := by omega
            clear d0 d1 d2 d3 x0 x1 x2 x3 fz
            go_wp2_with fail
            go_region
            go_wp2
            go_roundw
            case rel => exact ⟨j + 1, by go_num, by omega, HST, (below_put2 HB3.out (Nat.le_refl _) _ _ _).drew, by simp; exact hgs3⟩
            case measure => simp [intOf]; omega
          · obtain rfl : j = xl := by omega
            obtain ⟨K1, K2, K3, K4⟩ := invo_kept HR.out HS.out HB.out hgs HB3.out
            have HI : Hid (InvO el n F w.heap.size w (.int .i64 ((k : Int) + 1)) (put4 wr w.heap.size k ⟨some ⟨wo.heap.size, 0, none⟩, j, j, xv, xt, xk⟩).drew) :=
              invo_step K1 K2 K3 K4 hk _ (sgb_of_rws HR3.out hgs HG.out rfl) (by rw [← HX.out]) (by rw [← HX.out])
            obtain ⟨q0, q1, q2, q3⟩ := K1.1 k hk
            obtain ⟨y', hy'⟩ : ∃ y', y' = E k := ⟨_, rfl⟩
            rw [← hy'] at q0 q1 q2 q3
            clear hy'
            have fz2 := K1.2
            have e1 : wr.cell? ⟨b, o + k * 4 + 1, none⟩ = some (.bool xv) := by rw [HB3.out.cell (p := ⟨b, o + k * 4 + 1, none⟩) hbl]; exact x1
            have e2 : wr.cell? ⟨b, o + k * 4 + 2, none⟩ = some (.int .i32 xt) := by rw [HB3.out.cell (p := ⟨b, o + k * 4 + 2, none⟩) hbl]; exact x2
            have e3 : wr.cell? ⟨b, o + k * 4 + 3, none⟩ = some (.int .i64 xk) := by rw [HB3.out.cell (p := ⟨b, o + k * 4 + 3, none⟩) hbl]; exact x3
            clear K1 K2 K3 K4 d0 d1 d2 d3 x0 x1 x2 x3 fz
            go_wp2_with fail
            go_region
            go_wp2
            go_roundw
            case rel => exact HI.out
            case measure => simp [intOf]; omega
    · obtain rfl : k = n := by omega
      go_wp2
      go_ret
      exact ⟨w.heap.size, E, rfl, Nat.le_refl _, hgs, HR.out, HS.out, HB.out⟩
end Go.Proofs.Qxb6613603a
