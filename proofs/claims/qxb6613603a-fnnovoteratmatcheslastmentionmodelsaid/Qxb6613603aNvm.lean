import Derived.Test.Qxb6613603aFlat
namespace Go.Proofs.Qxb6613603a
open Go.ChangeShapes Go.WideShapes Go.ChangeAt Go.RowKit Go.Maps

theorem sumL_le' {el : Nat → El} {i n : Nat} (h : i ≤ n) : sumL el i ≤ sumL el n := by
  induction n with
  | zero => obtain rfl : i = 0 := by omega
            exact Nat.le_refl _
  | succ n ih =>
    by_cases c : i = n + 1
    · subst c; exact Nat.le_refl _
    · have := ih (by omega)
      show _ ≤ sumL el n + _
      omega
def InvM1 (el : Nat → El) (n : Nat) (w : World) (vs vi : Value) (wr : World) : Prop := ∃ (z k : Nat), vs = .int .i64 z ∧ vi = .int .i64 k ∧ k ≤ n ∧ Hid (z = sumL el k) ∧ wr = w
def InvM2 (el : Nat → El) (n T go gi ga ge : Nat) (s : Nat → Nat) (Q : Nat → Int × Int) (B : Nat) (w : World) (vp vk : Value) (wr : World) : Prop := ∃ (k pk : Nat) (hi : Nat → Int) (ha : Nat → Bool) (he : Nat → Int), vp = .int .i64 pk ∧ vk = .int .i64 k ∧ k ≤ n ∧ Hid (pk = off (fun i => (el i).l) s k) ∧
  Hid (Fl n T go gi ga ge s hi ha he B w wr) ∧ Hid (∀ p, p < pk → hi p = (Q p).2 ∧ ha p = ((Q p).1 == 0)) ∧ Hid (∀ k', k' < k → he k' = (off (fun i => (el i).l) s (k' + 1) : Int))
def InvM3 (n T go gi ga ge : Nat) (s : Nat → Nat) (Q : Nat → Int × Int) (B pk l : Nat) (he : Nat → Int) (w : World) (vp vj : Value) (wr : World) : Prop := ∃ (j pj : Nat) (hi : Nat → Int) (ha : Nat → Bool), vp = .int .i64 pj ∧ vj = .int .i64 j ∧ j ≤ l ∧ pj ≤ pk + j ∧ pk + j ≤ pj ∧
  Hid (Fl n T go gi ga ge s hi ha he B w wr) ∧ Hid (∀ p, p < pj → hi p = (Q p).2 ∧ ha p = ((Q p).1 == 0))

theorem m3_step {n T go gi ga ge : Nat} {s : Nat → Nat} {Q : Nat → Int × Int} {B pk l j pj : Nat} {hi : Nat → Int} {ha : Nat → Bool} {he : Nat → Int} {w wr : World} {t id : Int} (HFL : Fl n T go gi ga ge s hi ha he B w wr) (HD : ∀ p, p < pj → hi p = (Q p).2 ∧ ha p = ((Q p).1 == 0)) (hj : j < l) (h1 : pj ≤ pk + j) (h2 : pk + j ≤ pj) (hp : pj < T) (hQ : Q pj = (t, id)) :
    InvM3 n T go gi ga ge s Q B pk l he w (.int .i64 ((pj : Int) + 1)) (.int .i64 ((j : Int) + 1)) ((wr.setCell ⟨gi, pj, none⟩ (.int .u64 id)).setCell ⟨ga, pj, none⟩ (.bool (t == 0))) := by
  refine ⟨j + 1, pj + 1, _, _, by go_num, by go_num, hj, by omega, by omega, (HFL.setI hp id).setA hp (t == 0), fun p hp' => ?_⟩
  by_cases c : p = pj
  · subst c
    rw [if_pos rfl, if_pos rfl, hQ]
    exact ⟨rfl, rfl⟩
  · rw [if_neg c, if_neg c]
    exact HD p (by omega)
theorem m2_step {el : Nat → El} {n T go gi ga ge : Nat} {s : Nat → Nat} {Q : Nat → Int × Int} {B k pk pj : Nat} {hi : Nat → Int} {ha : Nat → Bool} {he : Nat → Int} {w wr : World} (HFL : Fl n T go gi ga ge s hi ha he B w wr) (HD : ∀ p, p < pj → hi p = (Q p).2 ∧ ha p = ((Q p).1 == 0)) (HEN : ∀ k', k' < k → he k' = (off (fun i => (el i).l) s (k' + 1) : Int)) (hk : k < n)
    (hpk : pk = off (fun i => (el i).l) s k) (hpj : pj = pk + (el (s k)).l) : InvM2 el n T go gi ga ge s Q B w (.int .i64 pj) (.int .i64 ((k : Int) + 1)) (wr.setCell ⟨ge, k, none⟩ (.int .i64 pj)) := by
  have e : pj = off (fun i => (el i).l) s (k + 1) := by rw [hpj, hpk]; rfl
  refine ⟨k + 1, pj, _, _, _, rfl, by go_num, hk, e, HFL.setE hk pj, HD, fun k' hk' => ?_⟩
  by_cases c : k' = k
  · subst c
    rw [if_pos rfl, ← e]
  · rw [if_neg c]
    exact HEN k' (by omega)

def InvM4 (n T go gi ga ge gn gf : Nat) (s : Nat → Nat) (Q : Nat → Int × Int) (he : Nat → Int) (B : Nat) (w : World) (va : Value) (wr : World) : Prop := ∃ (a : Nat) (hn : Nat → Nat) (hf : Nat → Bool), va = .int .i64 a ∧ a ≤ T ∧ Hid (Fl2 n T go gi ga ge gn gf s Q hn hf he B w wr) ∧ Hid (∀ a', a' < a → IsNx Q T a' (hn a') ∧ IsFi Q a' (hf a'))
def InvM5 (n T go gi ga ge gn gf : Nat) (s : Nat → Nat) (Q : Nat → Int × Int) (hn : Nat → Nat) (hf : Nat → Bool) (he : Nat → Int) (B a : Nat) (w : World) (vb : Value) (wr : World) : Prop := ∃ b : Nat, vb = .int .i64 b ∧ a + 1 ≤ b ∧ b ≤ T ∧ Hid (Fl2 n T go gi ga ge gn gf s Q hn hf he B w wr) ∧ Hid (∀ c, a < c → c < b → (Q c).2 ≠ (Q a).2)
def InvM6 (n T go gi ga ge gn gf : Nat) (s : Nat → Nat) (Q : Nat → Int × Int) (hn : Nat → Nat) (hf : Nat → Bool) (he : Nat → Int) (B a : Nat) (w : World) (vb : Value) (wr : World) : Prop := ∃ b : Nat, vb = .int .i64 b ∧ b ≤ a ∧ Hid (Fl2 n T go gi ga ge gn gf s Q hn hf he B w wr) ∧ Hid (∀ c, c < b → (Q c).2 ≠ (Q a).2)
theorem m4_step {n T go gi ga ge gn gf : Nat} {s : Nat → Nat} {Q : Nat → Int × Int} {hn0 hn : Nat → Nat} {hf0 hf : Nat → Bool} {he : Nat → Int} {B a : Nat} {w wr : World} (HF : Fl2 n T go gi ga ge gn gf s Q hn hf he B w wr) (HA : ∀ a', a' < a → IsNx Q T a' (hn0 a') ∧ IsFi Q a' (hf0 a')) (h1 : ∀ k, k ≠ a → hn k = hn0 k) (h2 : ∀ k, k ≠ a → hf k = hf0 k) (ha : a < T) (hx : IsNx Q T a (hn a)) (hi : IsFi Q a (hf a)) :
    InvM4 n T go gi ga ge gn gf s Q he B w (.int .i64 ((a : Int) + 1)) wr := by
  refine ⟨a + 1, hn, hf, by go_num, ha, HF, fun a' ha' => ?_⟩
  by_cases c : a' = a
  · subst c; exact ⟨hx, hi⟩
  · rw [h1 a' c, h2 a' c]; exact HA a' (by omega)

def InvM7 (el : Nat → El) (n N : Nat) (F : Nat → Nat → Int × Int) (s : Nat → Nat) (w : World) (vk : Value) (wr : World) : Prop := ∃ k : Nat, vk = .int .i64 k ∧ k ≤ n ∧ Hid (∀ k', k' < k → ¬ Emp (Vs N (fun i => (el i).l) F s (k' + 1))) ∧ wr = w
def InvM8 (N e : Nat) (Q : Nat → Int × Int) (hn : Nat → Nat) (hf : Nat → Bool) (w : World) (vv vb va : Value) (wr : World) : Prop := ∃ (a nb : Nat) (vt : Bool), vv = .bool vt ∧ vb = .int .i64 nb ∧ va = .int .i64 a ∧ a ≤ e ∧ nb ≤ a ∧ Hid (vt = true ↔ ∃ a', a' < a ∧ (Q a').1 = 0 ∧ e ≤ hn a') ∧ Hid (nb = nbc hf Q N a) ∧ wr = w
theorem m8_step {N e a nb nb' : Nat} {Q : Nat → Int × Int} {hn : Nat → Nat} {hf : Nat → Bool} {w : World} {vt vt' : Bool} (ha : a < e) (hnb : nb ≤ a) (H1 : vt = true ↔ ∃ a', a' < a ∧ (Q a').1 = 0 ∧ e ≤ hn a') (H2 : nb = nbc hf Q N a) (h1 : vt' = true ↔ vt = true ∨ ((Q a).1 = 0 ∧ e ≤ hn a))
    (h2 : nb' = nb + if hf a = true ∧ 1 ≤ (Q a).2 ∧ (Q a).2 ≤ (N : Int) then 1 else 0) : InvM8 N e Q hn hf w (.bool vt') (.int .i64 nb') (.int .i64 ((a : Int) + 1)) w := by
  refine ⟨a + 1, nb', vt', rfl, rfl, by go_num, ha, by rw [h2]; split <;> omega, ?_, by rw [h2, H2]; rfl, rfl⟩
  show vt' = true ↔ _
  rw [h1, H1]
  constructor
  · rintro (⟨a', q1, q2⟩ | q)
    · exact ⟨a', by omega, q2⟩
    · exact ⟨a, by omega, q⟩
  · rintro ⟨a', q1, q2⟩
    by_cases c : a' = a
    · subst c; exact Or.inr q2
    · exact Or.inl ⟨a', by omega, q2⟩

set_option maxRecDepth 100000 in
set_option maxHeartbeats 3200000 in
theorem nvm8 (el : Nat → El) (n c N : Nat) (a : Option Addr) (F : Nat → Nat → Int × Int) (w : World) (hS : Hid (Src w a n el F)) (hn : n ≤ 4096) (hN : N ≤ 65536) (hT : Hid (sumL el n ≤ 4096)) :
    Calls Try.prog 8 #[.int .i64 N, .slice a n c] w fun e w' => NvaPost el n N F w e w' := by
  obtain ⟨i3, hi3, hz30, hz31, hz32⟩ := info_parts info3
  obtain ⟨i30, hi30, hu0, hu1, hu2⟩ := info_parts info30
  obtain ⟨i4, hi4, hb0, hb1, hb2⟩ := info_parts info4
  go_enter Try.func8, Try.ntmps8
  go_wp2_with fail
  refine (chg11 el n c a F w hS (by omega)).mono ?_
  rintro e w1 ⟨go, s, rfl, hgo1, hgo2, hro, hw, hs, hoff, hb⟩
  have HRO := hid_of hro
  have HW := hid_of hw
  have HSR := hid_of hs
  have HOF := hid_of hoff
  have HB1 := hid_of hb
  clear hro hw hs hoff hb
  have HQ : Hid (∀ k j, k < n → j < (el (s k)).l → flat (fun i => (el i).l) F s n (off (fun i => (el i).l) s k + j) = F (s k) j) := fun k j h1 h2 => flat_at (L := fun i => (el i).l) h1 h2
  obtain ⟨Q, hQe⟩ : ∃ Q, Q = flat (fun i => (el i).l) F s n := ⟨_, rfl⟩
  rw [← hQe] at HQ
  clear hQe
  have HS1 : Hid (Src w1 a n el F) := hS.out.kept HB1.out
  go_wp2
  go_loopw [7, 8] (fun vs vi wr => InvM1 el n w1 vs vi wr) (fun _ vi _ => n - (intOf vi).toNat)
  case atStart => exact ⟨0, 0, rfl, rfl, by omega, rfl, rfl⟩
  case round =>
    obtain ⟨z, k, rfl, rfl, hkn, HZ, hwr⟩ := hrel
    obtain rfl : w1 = wr := hwr.symm
    have hz4 : z ≤ 4096 := by
      have h1 := HZ.out
      have h2 := sumL_le' (el := el) hkn
      have h3 := hT.out
      omega
    by_cases hk : k < n
    · obtain ⟨⟨b, o, ha, x0, _⟩, _⟩ := HS1.out k hk
      subst ha
      obtain ⟨l, hll⟩ : ∃ l, l = (el k).l := ⟨_, rfl⟩
      have hlb : z + l ≤ 4096 := by
        have h1 := HZ.out
        have h2 := sumL_le' (el := el) (i := k + 1) hk
        have h3 := hT.out
        have h4 : sumL el (k + 1) = sumL el k + (el k).l := rfl
        omega
      rw [← hll] at x0
      have HLE : Hid (l = (el k).l) := hll
      clear hll
      have hkk : (k : Int) < (n : Int) := by omega
      go_wp2
      go_roundw
      case rel => exact ⟨z + l, k + 1, by go_num, by go_num, hk, by rw [HZ.out, HLE.out]; rfl, rfl⟩
      case measure => simp [intOf]; omega
    · obtain rfl : n = k := by omega
      clear hwr hk hkn
      obtain ⟨T, hTe⟩ : ∃ T, T = z := ⟨_, rfl⟩
      have HTE : Hid (T = off (fun i => (el i).l) s n) := by rw [hTe, HOF.out]; exact HZ.out
      rw [← hTe] at hz4 ⊢
      clear hTe HZ
      go_wp2_with (first
        | (at_make; refine wpList_make_full _ rfl _ _ 55 rfl 0 30 i30 _ 1 Try.underlying55 hi30 hu0 hu1 _ _ _ _ T rfl rfl (by omega) (by omega) (by rw [hu2]; omega) (by unfold maxLen; omega) (Nat.zero_le _) ?_; intro w2 hown2 hgrow2)
        | (at_make; refine wpList_make_full _ rfl _ _ 56 rfl 0 4 i4 _ 1 Try.underlying56 hi4 hb0 hb1 _ _ _ _ T rfl rfl (by omega) (by omega) (by rw [hb2]; omega) (by unfold maxLen; omega) (Nat.zero_le _) ?_; intro w3 hown3 hgrow3)
        | (at_make; refine wpList_make_full _ rfl _ _ 53 rfl 0 3 i3 _ 1 Try.underlying53 hi3 hz30 hz31 _ _ _ _ n rfl rfl (by omega) (by omega) (by rw [hz32]; omega) (by unfold maxLen; omega) (Nat.zero_le _) ?_; intro w4 hown4 hgrow4)
        | go_in)
      have b12 : Below w1.heap.size w1 w2 := (Below.refl _ _).grown hgrow2 (Nat.le_refl _) (by simp)
      have b23 : Below w2.heap.size w2 w3 := (Below.refl _ _).grown hgrow3 (Nat.le_refl _) (by simp)
      have b34 : Below w3.heap.size w3 w4 := (Below.refl _ _).grown hgrow4 (Nat.le_refl _) (by simp)
      have l12 : w1.heap.size < w2.heap.size := (hown2.lt _ rfl).2
      have l23 : w2.heap.size < w3.heap.size := (hown3.lt _ rfl).2
      have l34 : w3.heap.size < w4.heap.size := (hown4.lt _ rfl).2
      have l01 : w.heap.size ≤ w1.heap.size := HB1.out.size
      have HFL : Hid (Fl n T go w1.heap.size w2.heap.size w3.heap.size s (fun _ => 0) (fun _ => false) (fun _ => 0) w.heap.size w w4) := by
        have r2 := rwv_of_owns hown2
        have r3 := rwv_of_owns hown3
        have r4 := rwv_of_owns hown4
        refine ⟨((HRO.out.block (b12.block _ (by omega))).block (b23.block _ (by omega))).block (b34.block _ (by omega)), (r2.block (b23.block _ (by omega))).block (b34.block _ (by omega)), r3.block (b34.block _ (by omega)), r4, ?_, hgo1, hgo2, l12, l23, l34⟩
        exact ((HB1.out.trans (b12.mono l01)).trans (b23.mono (by omega))).trans (b34.mono (by omega))
      clear hown2 hown3 hown4 hgrow2 hgrow3 hgrow4 b12 b23 b34 HRO HS1
      go_loopw [12, 13] (fun vp vk wr => InvM2 el n T go w1.heap.size w2.heap.size w3.heap.size s Q w.heap.size w vp vk wr) (fun _ vk _ => n - (intOf vk).toNat)
      case atStart => exact ⟨0, 0, _, _, _, rfl, rfl, by omega, rfl, HFL, fun p hp => by omega, fun k' hk' => by omega⟩
      case round =>
        clear HFL
        obtain ⟨k, pk, hi, ha, he, rfl, rfl, hkn, HPK, HFL, HD, HEN⟩ := hrel
        by_cases hk : k < n
        · have hsk : s k < n := by
            obtain ⟨j, _, j2, e⟩ := HW.out.2.1 k (Nat.zero_le _) hk
            rw [e]; exact j2
          have z0 := HFL.out.ro.1 k hk
          dsimp only at z0
          have hpk : pk + (el (s k)).l ≤ T := by
            have h1 := HPK.out
            have h2 := off_le (L := fun i => (el i).l) (s := s) (show k + 1 ≤ n from hk)
            have h3 : off (fun i => (el i).l) s (k + 1) = off (fun i => (el i).l) s k + (el (s k)).l := rfl
            have h4 := HTE.out
            omega
          obtain ⟨q, hq⟩ : ∃ q, q = s k := ⟨_, rfl⟩
          rw [← hq] at hsk z0 hpk
          have HQK : Hid (q = s k) := hq
          clear hq
          obtain ⟨⟨b, o, hab, x0, _⟩, hsg⟩ := (hS.out.kept HFL.out.below) q hsk
          subst hab
          obtain ⟨x, hx⟩ : ∃ x, x = el q := ⟨_, rfl⟩
          rw [← hx] at x0 hpk hsg
          have HX : Hid (x = el q) := hx
          have HG : Hid (SgIn wr x (F q)) := hsg
          clear hx hsg
          obtain ⟨xa, xl, xc, xv, xt, xk⟩ := x
          dsimp only at x0 hpk
          have hkk : (k : Int) < (n : Int) := by omega
          have hqn : (q : Int) < (n : Int) := by omega
          go_wp2
          go_loopw [12, 15] (fun vp vj wr => InvM3 n T go w1.heap.size w2.heap.size w3.heap.size s Q w.heap.size pk xl he w vp vj wr) (fun _ vj _ => xl - (intOf vj).toNat)
          case atStart => exact ⟨0, pk, hi, ha, rfl, rfl, by omega, by omega, by omega, HFL, HD⟩
          case round =>
            clear HFL HD HG x0 z0
            clear hi ha
            obtain ⟨j, pj, hi, ha, rfl, rfl, hjl, hp1, hp2, HFL, HD⟩ := hrel
            by_cases hj : j < xl
            · have hpT : pj < T := by omega
              have hsgw := (hS.out q hsk).2
              rw [← HX.out] at hsgw
              obtain ⟨b2, o2, hab, y0w, y1w, _⟩ := hsgw.2.2 j hj
              dsimp only at hab
              subst hab
              have hbw := cell_lt y0w
              have y0 : wr.cell? ⟨b2, o2 + j * 2, none⟩ = some (.int .i32 (F q j).1) := by rw [HFL.out.below.cell (p := ⟨b2, o2 + j * 2, none⟩) hbw]; exact y0w
              have y1 : wr.cell? ⟨b2, o2 + j * 2 + 1, none⟩ = some (.int .u64 (F q j).2) := by rw [HFL.out.below.cell (p := ⟨b2, o2 + j * 2 + 1, none⟩) hbw]; exact y1w
              clear hsgw y0w y1w
              have HQP : Hid (Q pj = ((F q j).1, (F q j).2)) := by
                have h1 := HQ.out k j hk (by rw [← HQK.out, ← HX.out]; exact hj)
                rw [← HPK.out, show pk + j = pj by omega, ← HQK.out] at h1
                exact h1
              obtain ⟨t, ht⟩ : ∃ t, t = (F q j).1 := ⟨_, rfl⟩
              obtain ⟨id, hid⟩ : ∃ id, id = (F q j).2 := ⟨_, rfl⟩
              rw [← ht] at y0 HQP
              rw [← hid] at y1 HQP
              clear ht hid
              have d0 := HFL.out.ri.1 pj hpT
              have d1 := HFL.out.ra.1 pj hpT
              dsimp only at d0 d1
              have f0 := HFL.out.ri.2
              have f1 := HFL.out.ra.2
              have e0 : (wr.setCell ⟨w1.heap.size, pj, none⟩ (.int .u64 id)).cell? ⟨b2, o2 + j * 2, none⟩ = some (.int .i32 t) := by
                rw [World.cell?_setCell_other _ _ _ _ (fun e => by cases e; omega)]; exact y0
              have e1 : (wr.setCell ⟨w1.heap.size, pj, none⟩ (.int .u64 id)).cell? ⟨w2.heap.size, pj, none⟩ = some (.bool (ha pj)) := by
                rw [World.cell?_setCell_other _ _ _ _ (fun e => by injection e with e1; omega)]; exact d1
              have hjj : (j : Int) < (xl : Int) := by omega
              have hpp : (pj : Int) < (T : Int) := by omega
              go_wp2
              go_roundw
              case rel => exact m3_step HFL.out HD.out hj hp1 hp2 hpT HQP.out
              case measure => simp [intOf]; omega
            · obtain rfl : j = xl := by omega
              have d0 := HFL.out.re.1 k hk
              dsimp only at d0
              have f0 := HFL.out.re.2
              go_wp2
              go_roundw
              case rel => exact m2_step HFL.out HD.out HEN.out hk HPK.out (by rw [← HQK.out, ← HX.out]; show pj = pk + j; omega)
              case measure => simp [intOf]; omega
        · obtain rfl : n = k := by omega
          have HFQ : Hid (Fl n T go w1.heap.size w2.heap.size w3.heap.size s (fun p => (Q p).2) (fun p => (Q p).1 == 0) (fun k => (off (fun i => (el i).l) s (k + 1) : Int)) w.heap.size w wr) := by
            have hpT : pk = T := by rw [HPK.out, HTE.out]
            have f := HFL.out
            refine ⟨f.ro, f.ri.congr fun p hp => ?_, f.ra.congr fun p hp => ?_, f.re.congr fun k' hk' => ?_, f.below, f.o0, f.o1, f.o2, f.o3, f.o4⟩
            · rw [(HD.out p (by omega)).1]
            · rw [(HD.out p (by omega)).2]
            · rw [HEN.out k' hk']
          clear HFL HD HEN hk hkn
          obtain ⟨wA, hwA⟩ : ∃ wA, wA = wr := ⟨_, rfl⟩
          subst hwA
          go_wp2_with (first
            | (at_make; refine wpList_make_full _ rfl _ _ 53 rfl 0 3 i3 _ 1 Try.underlying53 hi3 hz30 hz31 _ _ _ _ T rfl rfl (by omega) (by omega) (by rw [hz32]; omega) (by unfold maxLen; omega) (Nat.zero_le _) ?_; intro w5 hown5 hgrow5)
            | (at_make; refine wpList_make_full _ rfl _ _ 56 rfl 0 4 i4 _ 1 Try.underlying56 hi4 hb0 hb1 _ _ _ _ T rfl rfl (by omega) (by omega) (by rw [hb2]; omega) (by unfold maxLen; omega) (Nat.zero_le _) ?_; intro w6 hown6 hgrow6)
            | go_in)
          have b5 : Below wA.heap.size wA w5 := (Below.refl _ _).grown hgrow5 (Nat.le_refl _) (by simp)
          have b6 : Below w5.heap.size w5 w6 := (Below.refl _ _).grown hgrow6 (Nat.le_refl _) (by simp)
          have l5 : wA.heap.size < w5.heap.size := (hown5.lt _ rfl).2
          have l6 : w5.heap.size < w6.heap.size := (hown6.lt _ rfl).2
          have HF2 : Hid (Fl2 n T go w1.heap.size w2.heap.size w3.heap.size wA.heap.size w5.heap.size s Q (fun _ => 0) (fun _ => false) (fun k => (off (fun i => (el i).l) s (k + 1) : Int)) w.heap.size w w6) :=
            ⟨(HFQ.out.kept b5).kept b6, (rwv_of_owns hown5).block (b6.block _ l5), rwv_of_owns hown6, HFQ.out.o4, l5, l6⟩
          clear hown5 hown6 hgrow5 hgrow6 b5 b6 HFQ
          go_loopw [18] (fun va wr => InvM4 n T go w1.heap.size w2.heap.size w3.heap.size wA.heap.size w5.heap.size s Q (fun k => (off (fun i => (el i).l) s (k + 1) : Int)) w.heap.size w va wr) (fun va _ => T - (intOf va).toNat)
          case atStart => exact ⟨0, _, _, rfl, by omega, HF2, fun a' ha' => by omega⟩
          case round =>
            clear HF2
            obtain ⟨a, hn, hf, rfl, haT', HF, HA⟩ := hrel
            by_cases ha : a < T
            · have c0 := HF.out.rn.1 a ha
              dsimp only at c0
              have f0 := HF.out.rn.2
              have HF5 := hid_of (HF.out.setN ha T)
              have haI : (a : Int) < (T : Int) := by omega
              clear HF
              go_wp2
              go_loopw [19] (fun vb wr => InvM5 n T go w1.heap.size w2.heap.size w3.heap.size wA.heap.size w5.heap.size s Q (fun k => if k = a then T else hn k) hf (fun k => (off (fun i => (el i).l) s (k + 1) : Int)) w.heap.size a w vb wr) (fun vb _ => T - (intOf vb).toNat)
              case atStart => exact ⟨a + 1, by go_num, Nat.le_refl _, by omega, HF5, fun c h1 h2 => by omega⟩
              case round =>
                clear HF5 c0 f0
                obtain ⟨b, rfl, hab, hbT', HF6, HC6⟩ := hrel
                by_cases hb : b < T
                · have y0 := HF6.out.fl.ri.1 b hb
                  have y1 := HF6.out.fl.ri.1 a ha
                  dsimp only at y0 y1
                  obtain ⟨xb, hxb⟩ : ∃ xb, xb = (Q b).2 := ⟨_, rfl⟩
                  obtain ⟨xa, hxa⟩ : ∃ xa, xa = (Q a).2 := ⟨_, rfl⟩
                  rw [← hxb] at y0
                  rw [← hxa] at y1
                  have HXB : Hid (xb = (Q b).2) := hxb
                  have HXA : Hid (xa = (Q a).2) := hxa
                  clear hxb hxa
                  have hbT : (b : Int) < (T : Int) := by omega
                  by_cases heq : xb = xa
                  · have HEQ : Hid ((Q b).2 = (Q a).2) := by rw [← HXB.out, ← HXA.out]; exact heq
                    subst heq
                    have d0 := HF6.out.rn.1 a ha
                    dsimp only at d0
                    have f1 := HF6.out.rn.2
                    go_wp2_with fail
                    go_quiet (fail)
                    obtain ⟨hn7, hhn⟩ : ∃ hn7 : Nat → Nat, hn7 = fun k => if k = a then b else if k = a then T else hn k := ⟨_, rfl⟩
                    have H7 : Hid (∀ k, k ≠ a → hn7 k = hn k) := fun k hk => by rw [hhn]; exact (if_neg hk).trans (if_neg hk)
                    have HX7 : Hid (IsNx Q T a (hn7 a)) := by
                      have e : hn7 a = b := by rw [hhn]; exact if_pos rfl
                      rw [e]
                      exact ⟨by omega, by omega, HC6.out, Or.inr HEQ.out⟩
                    have HF7 := hid_of ((HF6.out.drewN nq).setN ha b)
                    rw [← hhn] at HF7
                    clear HF6 hhn
                    have c0 := HF7.out.rf.1 a ha
                    dsimp only at c0
                    have f0 := HF7.out.rf.2
                    have HF8 := hid_of (HF7.out.setF ha true)
                    clear HF7
                    go_wp2
                    go_loopw [20] (fun vb wr => InvM6 n T go w1.heap.size w2.heap.size w3.heap.size wA.heap.size w5.heap.size s Q hn7 (fun k => if k = a then true else hf k) (fun k => (off (fun i => (el i).l) s (k + 1) : Int)) w.heap.size a w vb wr) (fun vb _ => a - (intOf vb).toNat)
                    case atStart => exact ⟨0, rfl, by omega, HF8, fun c hc => by omega⟩
                    case round =>
                      clear HF8 c0 f0
                      obtain ⟨b9, rfl, hba, HF9, HC9⟩ := hrel
                      by_cases hb : b9 < a
                      · have y0 := HF9.out.fl.ri.1 b9 (by omega)
                        have y1 := HF9.out.fl.ri.1 a ha
                        dsimp only at y0 y1
                        obtain ⟨xb, hxb⟩ : ∃ xb, xb = (Q b9).2 := ⟨_, rfl⟩
                        obtain ⟨xa, hxa⟩ : ∃ xa, xa = (Q a).2 := ⟨_, rfl⟩
                        rw [← hxb] at y0
                        rw [← hxa] at y1
                        have HXB : Hid (xb = (Q b9).2) := hxb
                        have HXA : Hid (xa = (Q a).2) := hxa
                        clear hxb hxa
                        have hbT : (b9 : Int) < (T : Int) := by omega
                        have haT : (a : Int) < (T : Int) := by omega
                        by_cases heq : xb = xa
                        · have HEQ : Hid ((Q b9).2 = (Q a).2) := by rw [← HXB.out, ← HXA.out]; exact heq
                          subst heq
                          have d0 := HF9.out.rf.1 a ha
                          dsimp only at d0
                          have f1 := HF9.out.rf.2
                          go_wp2_with fail
                          go_quiet (fail)
                          go_wp2
                          go_roundw
                          case rel => exact m4_step ((HF9.out.drewN _).setF ha false) HA.out H7.out (fun k hk => by rw [if_neg hk, if_neg hk]) ha HX7.out (by rw [if_pos rfl]; exact ⟨fun h => (by cases h), fun h => (h b9 hb HEQ.out).elim⟩)
                          case measure => simp [intOf]; omega
                        · have hbe : (xb == xa) = false := beq_eq_false_iff_ne.2 heq
                          have HNE : Hid ((Q b9).2 ≠ (Q a).2) := by rw [← HXB.out, ← HXA.out]; exact heq
                          go_wp2_with fail
                          go_quiet (fail)
                          go_wp2
                          go_roundw
                          case rel => exact ⟨b9 + 1, by go_num, by omega, HF9.out.drewN _, fun c hc => by
                            by_cases d : c = b9
                            · subst d; exact HNE.out
                            · exact HC9.out c (by omega)⟩
                          case measure => simp [intOf]; omega
                      · obtain rfl : b9 = a := by omega
                        go_wp2
                        go_roundw
                        case rel => exact m4_step HF9.out HA.out H7.out (fun k hk => by rw [if_neg hk]) ha HX7.out (by rw [if_pos rfl]; exact ⟨fun _ => HC9.out, fun _ => rfl⟩)
                        case measure => simp [intOf]; omega
                  · have hbe : (xb == xa) = false := beq_eq_false_iff_ne.2 heq
                    have HNE : Hid ((Q b).2 ≠ (Q a).2) := by rw [← HXB.out, ← HXA.out]; exact heq
                    go_wp2_with fail
                    go_quiet (fail)
                    go_wp2
                    go_roundw
                    case rel => exact ⟨b + 1, by go_num, by omega, by omega, HF6.out.drewN _, fun c h1 h2 => by
                      by_cases d : c = b
                      · subst d; exact HNE.out
                      · exact HC6.out c h1 (by omega)⟩
                    case measure => simp [intOf]; omega
                · obtain rfl : b = T := by omega
                  obtain ⟨hn7, hhn⟩ : ∃ hn7 : Nat → Nat, hn7 = fun k => if k = a then b else hn k := ⟨_, rfl⟩
                  have H7 : Hid (∀ k, k ≠ a → hn7 k = hn k) := fun k hk => by rw [hhn]; exact if_neg hk
                  have HX7 : Hid (IsNx Q b a (hn7 a)) := by
                    have e : hn7 a = b := by rw [hhn]; exact if_pos rfl
                    rw [e]
                    exact ⟨ha, Nat.le_refl _, HC6.out, Or.inl rfl⟩
                  have HF7 := HF6
                  rw [← hhn] at HF7
                  clear HF6 hhn
                  have c0 := HF7.out.rf.1 a ha
                  dsimp only at c0
                  have f0 := HF7.out.rf.2
                  have HF8 := hid_of (HF7.out.setF ha true)
                  clear HF7
                  go_wp2
                  go_loopw [20] (fun vb wr => InvM6 n b go w1.heap.size w2.heap.size w3.heap.size wA.heap.size w5.heap.size s Q hn7 (fun k => if k = a then true else hf k) (fun k => (off (fun i => (el i).l) s (k + 1) : Int)) w.heap.size a w vb wr) (fun vb _ => a - (intOf vb).toNat)
                  case atStart => exact ⟨0, rfl, by omega, HF8, fun c hc => by omega⟩
                  case round =>
                    clear HF8 c0 f0
                    obtain ⟨b9, rfl, hba, HF9, HC9⟩ := hrel
                    by_cases hb : b9 < a
                    · have y0 := HF9.out.fl.ri.1 b9 (by omega)
                      have y1 := HF9.out.fl.ri.1 a ha
                      dsimp only at y0 y1
                      obtain ⟨xb, hxb⟩ : ∃ xb, xb = (Q b9).2 := ⟨_, rfl⟩
                      obtain ⟨xa, hxa⟩ : ∃ xa, xa = (Q a).2 := ⟨_, rfl⟩
                      rw [← hxb] at y0
                      rw [← hxa] at y1
                      have HXB : Hid (xb = (Q b9).2) := hxb
                      have HXA : Hid (xa = (Q a).2) := hxa
                      clear hxb hxa
                      have hbT : (b9 : Int) < (b : Int) := by omega
                      have haT : (a : Int) < (b : Int) := by omega
                      by_cases heq : xb = xa
                      · have HEQ : Hid ((Q b9).2 = (Q a).2) := by rw [← HXB.out, ← HXA.out]; exact heq
                        subst heq
                        have d0 := HF9.out.rf.1 a ha
                        dsimp only at d0
                        have f1 := HF9.out.rf.2
                        go_wp2_with fail
                        go_quiet (fail)
                        go_wp2
                        go_roundw
                        case rel => exact m4_step ((HF9.out.drewN _).setF ha false) HA.out H7.out (fun k hk => by rw [if_neg hk, if_neg hk]) ha HX7.out (by rw [if_pos rfl]; exact ⟨fun h => (by cases h), fun h => (h b9 hb HEQ.out).elim⟩)
                        case measure => simp [intOf]; omega
                      · have hbe : (xb == xa) = false := beq_eq_false_iff_ne.2 heq
                        have HNE : Hid ((Q b9).2 ≠ (Q a).2) := by rw [← HXB.out, ← HXA.out]; exact heq
                        go_wp2_with fail
                        go_quiet (fail)
                        go_wp2
                        go_roundw
                        case rel => exact ⟨b9 + 1, by go_num, by omega, HF9.out.drewN _, fun c hc => by
                          by_cases d : c = b9
                          · subst d; exact HNE.out
                          · exact HC9.out c (by omega)⟩
                        case measure => simp [intOf]; omega
                    · obtain rfl : b9 = a := by omega
                      go_wp2
                      go_roundw
                      case rel => exact m4_step HF9.out HA.out H7.out (fun k hk => by rw [if_neg hk]) ha HX7.out (by rw [if_pos rfl]; exact ⟨fun _ => HC9.out, fun _ => rfl⟩)
                      case measure => simp [intOf]; omega
            · obtain rfl : T = a := by omega
              obtain ⟨wF, hwF⟩ : ∃ wF, wF = wr := ⟨_, rfl⟩
              subst hwF
              have HVS : Hid (∀ k, k ≤ n → Vs N (fun i => (el i).l) F s k = runS (base N) Q (off (fun i => (el i).l) s k)) := fun k hk => Vs_flat (L := fun i => (el i).l) HQ.out hk
              clear ha haT'
              go_wp2
              go_loopw [21] (fun vk wr => InvM7 el n N F s wF vk wr) (fun vk _ => n - (intOf vk).toNat)
              case atStart => exact ⟨0, rfl, by omega, fun k' h => by omega, rfl⟩
              case round =>
                obtain ⟨k, rfl, hkn, HNE, hwr⟩ := hrel
                obtain rfl : wF = wr := hwr.symm
                clear hwr
                by_cases hk : k < n
                · have c0 := HF.out.fl.re.1 k hk
                  have z0 := HF.out.fl.ro.1 k hk
                  dsimp only at c0 z0
                  have hsk : s k < n := by
                    obtain ⟨j, _, j2, e⟩ := HW.out.2.1 k (Nat.zero_le _) hk
                    rw [e]; exact j2
                  obtain ⟨e, hee⟩ : ∃ e, e = off (fun i => (el i).l) s (k + 1) := ⟨_, rfl⟩
                  have heT : e ≤ T := by rw [hee, HTE.out]; exact off_le hk
                  rw [← hee] at c0
                  have HEE : Hid (e = off (fun i => (el i).l) s (k + 1)) := hee
                  clear hee
                  have HLAW : Hid (((∃ a, a < e ∧ (Q a).1 = 0 ∧ e ≤ hn a) ∨ nbc hf Q N e < N) ↔ ¬ Emp (Vs N (fun i => (el i).l) F s (k + 1))) := by
                    rw [HVS.out (k + 1) hk, ← HEE.out]
                    exact model_law heT (fun a ha => (HA.out a ha).2) fun a ha => (HA.out a ha).1
                  obtain ⟨q, hq⟩ : ∃ q, q = s k := ⟨_, rfl⟩
                  rw [← hq] at hsk z0
                  have HQK : Hid (q = s k) := hq
                  clear hq
                  obtain ⟨⟨b, o, hab, _, _, _, x3⟩, _⟩ := (hS.out.kept HF.out.fl.below) q hsk
                  subst hab
                  obtain ⟨xk, hxk⟩ : ∃ xk, xk = (el q).k := ⟨_, rfl⟩
                  rw [← hxk] at x3
                  have HXK : Hid (xk = (el q).k) := hxk
                  clear hxk
                  have hkk : (k : Int) < (n : Int) := by omega
                  have hqn : (q : Int) < (n : Int) := by omega
                  go_wp2
                  go_loopw [23, 24, 25] (fun vv vb va wr => InvM8 N e Q hn hf wF vv vb va wr) (fun _ _ va _ => e - (intOf va).toNat)
                  case atStart => exact ⟨0, 0, false, rfl, rfl, rfl, by omega, by omega, ⟨fun h => (by cases h), fun h => by obtain ⟨a', h, _⟩ := h; omega⟩, rfl, rfl⟩
                  case round =>
                    obtain ⟨a, nb, vt, rfl, rfl, rfl, hae', hnb, H1, H2, hwr⟩ := hrel
                    obtain rfl : wF = wr := hwr.symm
                    clear hwr
                    by_cases hae : a < e
                    · have y0 := HF.out.fl.ra.1 a (by omega)
                      have y1 := HF.out.rn.1 a (by omega)
                      have y2 := HF.out.rf.1 a (by omega)
                      have y3 := HF.out.fl.ri.1 a (by omega)
                      dsimp only at y0 y1 y2 y3
                      obtain ⟨ad, had⟩ : ∃ ad, ad = ((Q a).1 == 0) := ⟨_, rfl⟩
                      obtain ⟨nx, hnx⟩ : ∃ nx, nx = hn a := ⟨_, rfl⟩
                      obtain ⟨fb, hfb⟩ : ∃ fb, fb = hf a := ⟨_, rfl⟩
                      obtain ⟨id, hid⟩ : ∃ id, id = (Q a).2 := ⟨_, rfl⟩
                      rw [← had] at y0
                      rw [← hnx] at y1
                      rw [← hfb] at y2
                      rw [← hid] at y3
                      have HAD : Hid (ad = ((Q a).1 == 0)) := had
                      have HNX : Hid (nx = hn a) := hnx
                      have HFB : Hid (fb = hf a) := hfb
                      have HID : Hid (id = (Q a).2) := hid
                      clear had hnx hfb hid
                      have haT : (a : Int) < (T : Int) := by omega
                      have haE : (a : Int) < (e : Int) := by omega
                      cases ad with
                      | false =>
                        cases fb with
                        | false =>
                          have HADQ : Hid ((Q a).1 ≠ 0) := fun e0 => by have := HAD.out; rw [e0] at this; cases this
                          go_wp2
                          go_roundw
                          case rel => exact m8_step (vt' := vt) (nb' := nb) hae hnb H1.out H2.out ⟨Or.inl, fun h => h.elim (fun h => h) fun h => (HADQ.out h.1).elim⟩ (by rw [if_neg (fun h => by have h1 := h.1; rw [← HFB.out] at h1; cases h1)]; rfl)
                          case measure => simp [intOf]; omega
                        | true =>
                          by_cases hi1 : 1 ≤ id
                          · have HI1 : Hid (1 ≤ id) := hi1
                            by_cases hi2 : id ≤ (N : Int)
                            · have HI2 : Hid (id ≤ (N : Int)) := hi2
                              have HADQ : Hid ((Q a).1 ≠ 0) := fun e0 => by have := HAD.out; rw [e0] at this; cases this
                              go_wp2
                              go_roundw
                              case rel => exact m8_step (vt' := vt) (nb' := nb + 1) hae hnb H1.out H2.out ⟨Or.inl, fun h => h.elim (fun h => h) fun h => (HADQ.out h.1).elim⟩ (by rw [if_pos ⟨HFB.out.symm, by rw [← HID.out]; exact HI1.out, by rw [← HID.out]; exact HI2.out⟩])
                              case measure => simp [intOf]; omega
                            · have HI2 : Hid (¬ id ≤ (N : Int)) := hi2
                              have hd2 : decide (id ≤ (N : Int)) = false := decide_eq_false hi2
                              have HADQ : Hid ((Q a).1 ≠ 0) := fun e0 => by have := HAD.out; rw [e0] at this; cases this
                              go_wp2
                              go_roundw
                              case rel => exact m8_step (vt' := vt) (nb' := nb) hae hnb H1.out H2.out ⟨Or.inl, fun h => h.elim (fun h => h) fun h => (HADQ.out h.1).elim⟩ (by rw [if_neg (fun h => HI2.out (by rw [HID.out]; exact h.2.2))]; rfl)
                              case measure => simp [intOf]; omega
                          · have HI1 : Hid (¬ 1 ≤ id) := hi1
                            have hd1 : decide (1 ≤ id) = false := decide_eq_false hi1
                            have HADQ : Hid ((Q a).1 ≠ 0) := fun e0 => by have := HAD.out; rw [e0] at this; cases this
                            go_wp2
                            go_roundw
                            case rel => exact m8_step (vt' := vt) (nb' := nb) hae hnb H1.out H2.out ⟨Or.inl, fun h => h.elim (fun h => h) fun h => (HADQ.out h.1).elim⟩ (by rw [if_neg (fun h => HI1.out (by rw [HID.out]; exact h.2.1))]; rfl)
                            case measure => simp [intOf]; omega
                      | true =>
                        by_cases hle : (e : Int) ≤ (nx : Int)
                        · have HLE : Hid (e ≤ nx) := by show e ≤ nx; omega
                          cases fb with
                          | false =>
                            have HADQ : Hid ((Q a).1 = 0) := by have := HAD.out; exact (beq_iff_eq.1 this.symm)
                            go_wp2
                            go_roundw
                            case rel => exact m8_step (vt' := true) (nb' := nb) hae hnb H1.out H2.out ⟨fun _ => Or.inr ⟨HADQ.out, by rw [← HNX.out]; exact HLE.out⟩, fun _ => rfl⟩ (by rw [if_neg (fun h => by have h1 := h.1; rw [← HFB.out] at h1; cases h1)]; rfl)
                            case measure => simp [intOf]; omega
                          | true =>
                            by_cases hi1 : 1 ≤ id
                            · have HI1 : Hid (1 ≤ id) := hi1
                              by_cases hi2 : id ≤ (N : Int)
                              · have HI2 : Hid (id ≤ (N : Int)) := hi2
                                have HADQ : Hid ((Q a).1 = 0) := by have := HAD.out; exact (beq_iff_eq.1 this.symm)
                                go_wp2
                                go_roundw
                                case rel => exact m8_step (vt' := true) (nb' := nb + 1) hae hnb H1.out H2.out ⟨fun _ => Or.inr ⟨HADQ.out, by rw [← HNX.out]; exact HLE.out⟩, fun _ => rfl⟩ (by rw [if_pos ⟨HFB.out.symm, by rw [← HID.out]; exact HI1.out, by rw [← HID.out]; exact HI2.out⟩])
                                case measure => simp [intOf]; omega
                              · have HI2 : Hid (¬ id ≤ (N : Int)) := hi2
                                have hd2 : decide (id ≤ (N : Int)) = false := decide_eq_false hi2
                                have HADQ : Hid ((Q a).1 = 0) := by have := HAD.out; exact (beq_iff_eq.1 this.symm)
                                go_wp2
                                go_roundw
                                case rel => exact m8_step (vt' := true) (nb' := nb) hae hnb H1.out H2.out ⟨fun _ => Or.inr ⟨HADQ.out, by rw [← HNX.out]; exact HLE.out⟩, fun _ => rfl⟩ (by rw [if_neg (fun h => HI2.out (by rw [HID.out]; exact h.2.2))]; rfl)
                                case measure => simp [intOf]; omega
                            · have HI1 : Hid (¬ 1 ≤ id) := hi1
                              have hd1 : decide (1 ≤ id) = false := decide_eq_false hi1
                              have HADQ : Hid ((Q a).1 = 0) := by have := HAD.out; exact (beq_iff_eq.1 this.symm)
                              go_wp2
                              go_roundw
                              case rel => exact m8_step (vt' := true) (nb' := nb) hae hnb H1.out H2.out ⟨fun _ => Or.inr ⟨HADQ.out, by rw [← HNX.out]; exact HLE.out⟩, fun _ => rfl⟩ (by rw [if_neg (fun h => HI1.out (by rw [HID.out]; exact h.2.1))]; rfl)
                              case measure => simp [intOf]; omega
                        · have HLE : Hid (¬ e ≤ nx) := by show ¬ e ≤ nx; omega
                          have hd0 : decide ((e : Int) ≤ (nx : Int)) = false := decide_eq_false hle
                          cases fb with
                          | false =>
                            have HADQ : Hid ((Q a).1 = 0) := by have := HAD.out; exact (beq_iff_eq.1 this.symm)
                            go_wp2
                            go_roundw
                            case rel => exact m8_step (vt' := vt) (nb' := nb) hae hnb H1.out H2.out ⟨Or.inl, fun h => h.elim (fun h => h) fun h => by have h2 := h.2; rw [← HNX.out] at h2; exact (HLE.out h2).elim⟩ (by rw [if_neg (fun h => by have h1 := h.1; rw [← HFB.out] at h1; cases h1)]; rfl)
                            case measure => simp [intOf]; omega
                          | true =>
                            by_cases hi1 : 1 ≤ id
                            · have HI1 : Hid (1 ≤ id) := hi1
                              by_cases hi2 : id ≤ (N : Int)
                              · have HI2 : Hid (id ≤ (N : Int)) := hi2
                                have HADQ : Hid ((Q a).1 = 0) := by have := HAD.out; exact (beq_iff_eq.1 this.symm)
                                go_wp2
                                go_roundw
                                case rel => exact m8_step (vt' := vt) (nb' := nb + 1) hae hnb H1.out H2.out ⟨Or.inl, fun h => h.elim (fun h => h) fun h => by have h2 := h.2; rw [← HNX.out] at h2; exact (HLE.out h2).elim⟩ (by rw [if_pos ⟨HFB.out.symm, by rw [← HID.out]; exact HI1.out, by rw [← HID.out]; exact HI2.out⟩])
                                case measure => simp [intOf]; omega
                              · have HI2 : Hid (¬ id ≤ (N : Int)) := hi2
                                have hd2 : decide (id ≤ (N : Int)) = false := decide_eq_false hi2
                                have HADQ : Hid ((Q a).1 = 0) := by have := HAD.out; exact (beq_iff_eq.1 this.symm)
                                go_wp2
                                go_roundw
                                case rel => exact m8_step (vt' := vt) (nb' := nb) hae hnb H1.out H2.out ⟨Or.inl, fun h => h.elim (fun h => h) fun h => by have h2 := h.2; rw [← HNX.out] at h2; exact (HLE.out h2).elim⟩ (by rw [if_neg (fun h => HI2.out (by rw [HID.out]; exact h.2.2))]; rfl)
                                case measure => simp [intOf]; omega
                            · have HI1 : Hid (¬ 1 ≤ id) := hi1
                              have hd1 : decide (1 ≤ id) = false := decide_eq_false hi1
                              have HADQ : Hid ((Q a).1 = 0) := by have := HAD.out; exact (beq_iff_eq.1 this.symm)
                              go_wp2
                              go_roundw
                              case rel => exact m8_step (vt' := vt) (nb' := nb) hae hnb H1.out H2.out ⟨Or.inl, fun h => h.elim (fun h => h) fun h => by have h2 := h.2; rw [← HNX.out] at h2; exact (HLE.out h2).elim⟩ (by rw [if_neg (fun h => HI1.out (by rw [HID.out]; exact h.2.1))]; rfl)
                              case measure => simp [intOf]; omega
                    · obtain rfl : e = a := by omega
                      have HNX1 : Hid (¬ Emp (Vs N (fun i => (el i).l) F s (k + 1)) → ∀ k', k' < k + 1 → ¬ Emp (Vs N (fun i => (el i).l) F s (k' + 1))) := fun h k' hk' => by
                        by_cases c : k' = k
                        · subst c; exact h
                        · exact HNE.out k' (by omega)
                      by_cases hlt : (nb : Int) < (N : Int)
                      · have HNB : Hid (¬ Emp (Vs N (fun i => (el i).l) F s (k + 1))) := HLAW.out.1 (Or.inr (by rw [← H2.out]; omega))
                        go_wp2
                        go_roundw
                        case rel => exact ⟨k + 1, by go_num, hk, HNX1.out HNB.out, rfl⟩
                        case measure => simp [intOf]; omega
                      · have hd : decide ((nb : Int) < (N : Int)) = false := decide_eq_false hlt
                        have HGE : Hid (¬ nbc hf Q N e < N) := by rw [← H2.out]; show ¬ nb < N; omega
                        cases vt with
                        | true =>
                          have HNB : Hid (¬ Emp (Vs N (fun i => (el i).l) F s (k + 1))) := HLAW.out.1 (Or.inl (H1.out.1 rfl))
                          go_wp2
                          go_roundw
                          case rel => exact ⟨k + 1, by go_num, hk, HNX1.out HNB.out, rfl⟩
                          case measure => simp [intOf]; omega
                        | false =>
                          have HEM : Hid (Emp (Vs N (fun i => (el i).l) F s (k + 1))) := Classical.byContradiction fun h => by
                            rcases HLAW.out.2 h with h1 | h1
                            · have := H1.out.2 h1
                              cases this
                            · exact HGE.out h1
                          go_wp2
                          go_ret2
                          exact ⟨xk, true, s, rfl, HW.out, HSR.out, Or.inl ⟨k, hk, HEM.out, HNE.out, by rw [HXK.out, HQK.out], rfl⟩, HF.out.fl.below⟩
                · obtain rfl : n = k := by omega
                  go_wp2
                  go_ret2
                  exact ⟨0, false, s, rfl, HW.out, HSR.out, Or.inr ⟨HNE.out, rfl, rfl⟩, HF.out.fl.below⟩
end Go.Proofs.Qxb6613603a
