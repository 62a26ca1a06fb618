import Derived.Test.Qxb6613603aCfg
import Derived.Deep.DeepCutAuto
namespace Go.Proofs.Qxb6613603a
open Go.ChangeShapes Go.WideShapes Go.ChangeAt Go.RowKit Go.Maps

def LawPost (w : World) (e : Ending) (w' : World) : Prop := e = .returned (.bool true) ∧ Below w.heap.size w w'
def InvA4 (el : Nat → El) (n : Nat) (w : World) (vs vi : Value) (wr : World) : Prop := ∃ k : Nat, vs = .int .i64 (sumL el k) ∧ vi = .int .i64 k ∧ k ≤ n ∧ sumL el k ≤ 4096 ∧ Hid (∀ i, i < k → (el i).l ≤ 4096) ∧ wr = w
def InvB4 (el : Nat → El) (n : Nat) (w : World) (vi : Value) (wr : World) : Prop := ∃ k : Nat, vi = .int .i64 k ∧ k ≤ n ∧ Hid (∀ i, i < k → (el i).k ≠ 9223372036854775807) ∧ wr = w
def InvC4 (el : Nat → El) (n : Nat) (w : World) (vm vi : Value) (wr : World) : Prop := ∃ (m : Int) (k : Nat), vm = .int .i64 m ∧ vi = .int .i64 k ∧ 1 ≤ k ∧ k ≤ n ∧ Hid (∀ i, i < k → (el i).k ≤ m) ∧ Hid (∃ i, i < n ∧ m = (el i).k) ∧ wr = w

def InvD4 (B M : Nat) (w : World) (v vi : Value) (wr : World) : Prop := ∃ (L : List Int) (k : Nat), vi = .int .i64 ((k : Int) + 1) ∧ k ≤ M ∧ L.length = k ∧ Hid (Own B w wr v L) ∧ Hid (∀ x : Int, 1 ≤ x → x ≤ (k : Int) → x ∈ L)
def InvE4 (el : Nat → El) (n : Nat) (F : Nat → Nat → Int × Int) (B M : Nat) (w : World) (v vi : Value) (wr : World) : Prop := ∃ (L : List Int) (i : Nat), vi = .int .i64 i ∧ i ≤ n ∧ L.length = M + sumL el i ∧ Hid (Own B w wr v L) ∧ Hid (∀ x : Int, 1 ≤ x → x ≤ (M : Int) → x ∈ L) ∧
  Hid (∀ i' j, i' < i → j < (el i').l → (F i' j).2 ∈ L)
def InvF4 (el : Nat → El) (F : Nat → Nat → Int × Int) (B M i : Nat) (w : World) (v vj : Value) (wr : World) : Prop := ∃ (L : List Int) (j : Nat), vj = .int .i64 j ∧ j ≤ (el i).l ∧ L.length = M + sumL el i + j ∧ Hid (Own B w wr v L) ∧ Hid (∀ x : Int, 1 ≤ x → x ≤ (M : Int) → x ∈ L) ∧
  Hid (∀ i' j, i' < i → j < (el i').l → (F i' j).2 ∈ L) ∧ Hid (∀ j', j' < j → (F i j').2 ∈ L)

theorem sumL_le {el : Nat → El} {i n : Nat} (h : i ≤ n) : sumL el i ≤ sumL el n := by
  induction n with
  | zero => obtain rfl : i = 0 := by omega
            exact Nat.le_refl _
  | succ n ih =>
    by_cases c : i = n + 1
    · subst c; exact Nat.le_refl _
    · have := ih (by omega)
      show _ ≤ sumL el n + _
      omega

theorem law4_end {el E1 E2 : Nat → El} {n M m : Nat} {last : Int} {X : El} {F : Nat → Nat → Int × Int} {L : List Int} {s1 s2 : Nat → Nat} {T1 T2 : Int} {ok1 ok2 : Bool} (h1 : ∀ i, i < n → (E1 i).l = (el i).l ∧ (E1 i).k = (el i).k) (h2 : ∀ i, i < n → (E2 i).l = (el i).l ∧ (E2 i).k = (el i).k)
    (hXl : X.l = m) (hXk : X.k = last) (hm : m = L.length) (hla : ∀ i, i < n → (el i).k < last) (hA : ∀ x : Int, 1 ≤ x → x ≤ (M : Int) → x ∈ L) (hF : ∀ i j, i < n → j < (el i).l → (F i j).2 ∈ L)
    (w1 : Win 0 n (fun k => k) s1) (r1 : Srt (fun x => (E1 x).k) 0 n s1) (a1 : Ans n (fun i => (E1 i).k) (Vs M (fun i => (E1 i).l) F s1) s1 T1 ok1)
    (w2 : Win 0 (n + 1) (fun k => k) s2) (r2 : Srt (fun x => (if x < n then E2 x else X).k) 0 (n + 1) s2) (a2 : Ans (n + 1) (fun i => (if i < n then E2 i else X).k) (Vs M (fun i => (if i < n then E2 i else X).l) (fun i => if i < n then F i else fun j => (3, L.getD j 0)) s2) s2 T2 ok2) :
    (ok1 = true → ok2 = true ∧ T2 = T1) ∧ (ok1 = false → T1 = 0 ∧ ok2 = true ∧ T2 = last) := by
  refine closing_law (m := m) (fun i hi => ?_) (fun i hi => ?_) (fun i hi j hj => ?_) ?_ (fun i hi => ?_) ?_ (fun j hj => ?_) (fun x x1 x2 => ?_) (fun i j hi hj => ?_) w1 r1 w2 r2 a1 a2
  · rw [if_pos hi, (h2 i hi).2, (h1 i hi).2]
  · rw [if_pos hi, (h2 i hi).1, (h1 i hi).1]
  · rw [if_pos hi]
  · rw [if_neg (Nat.lt_irrefl n)]; exact hXk
  · rw [(h1 i hi).2]; exact hla i hi
  · rw [if_neg (Nat.lt_irrefl n)]; exact hXl
  · rw [if_neg (Nat.lt_irrefl n)]; show (3 : Int) ≠ 0; omega
  · obtain ⟨j, j1, j2⟩ := mem_at (hA x x1 x2)
    exact ⟨j, by omega, by rw [if_neg (Nat.lt_irrefl n)]; exact j2⟩
  · rw [(h1 i hi).1] at hj
    obtain ⟨j', j1, j2⟩ := mem_at (hF i j hi hj)
    exact ⟨j', by omega, by rw [if_neg (Nat.lt_irrefl n)]; exact j2⟩

set_option maxRecDepth 100000 in
set_option maxHeartbeats 3200000 in
theorem law4 (el : Nat → El) (n c : Nat) (N : Int) (a : Option Addr) (F : Nat → Nat → Int × Int) (w : World) (hS : Hid (SrcR w a n el F)) (hn : n ≤ 9223372036854775807) (hl : Hid (∀ i, i < n → (el i).l ≤ 9223372036854775807))
    (hK : Hid (∀ i, i < n → -9223372036854775808 ≤ (el i).k ∧ (el i).k ≤ 9223372036854775807)) :
    Calls Try.prog 4 #[.int .i64 N, .slice a n c] w fun e w' => LawPost w e w' := by
  go_enter Try.func4, Try.ntmps4
  go_wp2_with fail
  refine (zz9 el n c N a F w hS hn hl).mono ?_
  rintro e w0 ⟨hw0, hor⟩
  obtain rfl : w = w0 := hw0.symm
  rcases hor with ⟨rfl, hn1, hl1⟩ | rfl
  rotate_left
  · go_wp2
    go_ret
    exact ⟨rfl, Below.refl _ _⟩
  have HL1 : Hid (∀ i, i < n → (el i).l ≤ 1048576) := hl1
  clear hl1 hw0
  by_cases h0 : N < 0
  · go_wp2
    go_ret
    exact ⟨rfl, Below.refl _ _⟩
  by_cases h1 : 65536 < N
  · go_wp2
    go_ret
    exact ⟨rfl, Below.refl _ _⟩
  obtain ⟨M, rfl⟩ := Int.eq_ofNat_of_zero_le (show 0 ≤ N by omega)
  by_cases h2 : 4096 < n
  · go_wp2
    go_ret
    exact ⟨rfl, Below.refl _ _⟩
  have hM : M ≤ 65536 := by omega
  have hn4 : n ≤ 4096 := by omega
  go_wp2
  go_loopw [5, 6] (fun vs vi wr => InvA4 el n w vs vi wr) (fun _ vi _ => n - (intOf vi).toNat)
  case atStart => exact ⟨0, rfl, rfl, by omega, by show 0 ≤ 4096; omega, fun i hi => by omega, rfl⟩
  case round =>
    obtain ⟨k, rfl, rfl, hkn, hs, HL, hwr⟩ := hrel
    obtain rfl : w = wr := hwr.symm
    by_cases hk : k < n
    · obtain ⟨⟨b, o, ha, x0, _⟩, _⟩ := hS.out k hk
      subst ha
      obtain ⟨l, hll⟩ : ∃ l, l = (el k).l := ⟨_, rfl⟩
      have hlb := HL1.out k hk
      rw [← hll] at x0 hlb
      have HLL : Hid (sumL el (k + 1) = sumL el k + l) := by rw [hll]; rfl
      have HLE : Hid (l = (el k).l) := hll
      clear hll
      obtain ⟨z, hz⟩ : ∃ z, z = sumL el k := ⟨_, rfl⟩
      rw [← hz] at hs ⊢
      have HZ : Hid (z = sumL el k) := hz
      clear hz
      by_cases hb : 4096 < z + l
      · go_wp2
        go_ret
        exact ⟨rfl, Below.refl _ _⟩
      · go_wp2
        go_roundw
        case rel =>
          have e := HLL.out
          rw [← HZ.out] at e
          exact ⟨k + 1, by rw [e]; go_num, by go_num, hk, by omega, fun i hi => by
            by_cases c : i < k
            · exact HL.out i c
            · obtain rfl : i = k := by omega
              rw [← HLE.out]; omega, rfl⟩
        case measure => simp [intOf]; omega
    · obtain rfl : n = k := by omega
      clear hwr hk hkn
      obtain ⟨S, hSS⟩ : ∃ S, S = sumL el n := ⟨_, rfl⟩
      rw [← hSS] at hs ⊢
      have HSS : Hid (S = sumL el n) := hSS
      clear hSS
      go_wp2
      go_loopw [7] (fun vi wr => InvB4 el n w vi wr) (fun vi _ => n - (intOf vi).toNat)
      case atStart => exact ⟨0, rfl, by omega, fun i hi => by omega, rfl⟩
      case round =>
        obtain ⟨k, rfl, hkn, HX, hwr⟩ := hrel
        obtain rfl : w = wr := hwr.symm
        by_cases hk : k < n
        · obtain ⟨⟨b, o, ha, _, _, _, x3⟩, _⟩ := hS.out k hk
          subst ha
          obtain ⟨t, ht⟩ : ∃ t, t = (el k).k := ⟨_, rfl⟩
          rw [← ht] at x3
          have HTT : Hid (t = (el k).k) := ht
          clear ht
          by_cases hb : t = 9223372036854775807
          · have hb' : (t == 9223372036854775807) = true := by rw [hb]; rfl
            go_wp2
            go_ret
            exact ⟨rfl, Below.refl _ _⟩
          · have hb' : (t == 9223372036854775807) = false := beq_eq_false_iff_ne.2 hb
            go_wp2
            go_roundw
            case rel =>
              exact ⟨k + 1, by go_num, hk, fun i hi => by
                by_cases c : i < k
                · exact HX.out i c
                · obtain rfl : i = k := by omega
                  rw [← HTT.out]; exact hb, rfl⟩
            case measure => simp [intOf]; omega
        · obtain rfl : n = k := by omega
          clear hwr hk hkn
          go_upto_if 62 with fail
          go_cut [8, 9] (fun v8 v9 wx => ∃ last : Int, v8 = .int .i64 last ∧ Hid (∀ i, i < n → (el i).k < last) ∧ -9223372036854775808 ≤ last ∧ last ≤ 9223372036854775807 ∧ wx = w)
          case first =>
            by_cases hn0 : n < 1
            · have hn0' : ¬ (0 : Int) < (n : Int) := by omega
              go_wp2_with fail
              go_meet
              case rel => exact ⟨1, rfl, fun i hi => by omega, by omega, by omega, rfl⟩
            · have hn0' : (0 : Int) < (n : Int) := by omega
              obtain ⟨⟨b, o, ha, _, _, _, x3⟩, _⟩ := hS.out 0 (by omega)
              subst ha
              obtain ⟨t, ht⟩ : ∃ t, t = (el 0).k := ⟨_, rfl⟩
              rw [← ht] at x3
              have HTT : Hid (t = (el 0).k) := ht
              clear ht
              go_wp2
              go_loopw [8, 9] (fun vm vi wr => InvC4 el n w vm vi wr) (fun _ vi _ => n - (intOf vi).toNat)
              case atStart => exact ⟨t, 1, rfl, rfl, Nat.le_refl _, by omega, fun i hi => by
                obtain rfl : i = 0 := by omega
                rw [HTT.out]; exact Int.le_refl _, ⟨0, by omega, HTT.out⟩, rfl⟩
              case round =>
                obtain ⟨m, k, rfl, rfl, hk1, hkn, HM, HE, hwr⟩ := hrel
                obtain rfl : w = wr := hwr.symm
                clear x3 HTT
                have hmr : -9223372036854775808 ≤ m ∧ m < 9223372036854775807 := by
                  obtain ⟨i, i1, e⟩ := HE.out
                  have h1 := hK.out i i1
                  have h2 := HX.out i i1
                  rw [← e] at h1 h2
                  omega
                obtain ⟨hm1, hm2⟩ := hmr
                by_cases hk : k < n
                · obtain ⟨⟨b', o', ha, _, _, _, x3⟩, _⟩ := hS.out k hk
                  simp only [Option.some.injEq, Addr.mk.injEq, and_true] at ha
                  obtain ⟨rfl, rfl⟩ := ha
                  obtain ⟨t', ht⟩ : ∃ t', t' = (el k).k := ⟨_, rfl⟩
                  rw [← ht] at x3
                  have HTT : Hid (t' = (el k).k) := ht
                  clear ht
                  by_cases hb : m < t'
                  · go_wp2
                    go_roundw
                    case rel =>
                      exact ⟨t', k + 1, rfl, by go_num, by omega, hk, fun i hi => by
                        by_cases c : i < k
                        · have := HM.out i c; omega
                        · obtain rfl : i = k := by omega
                          rw [← HTT.out]; exact Int.le_refl _, ⟨k, hk, HTT.out⟩, rfl⟩
                    case measure => simp [intOf]; omega
                  · go_wp2
                    go_roundw
                    case rel =>
                      exact ⟨m, k + 1, rfl, by go_num, by omega, hk, fun i hi => by
                        by_cases c : i < k
                        · exact HM.out i c
                        · obtain rfl : i = k := by omega
                          rw [← HTT.out]; omega, HE, rfl⟩
                    case measure => simp [intOf]; omega
                · obtain rfl : n = k := by omega
                  go_wp2_with fail
                  go_meet
                  case rel => exact ⟨m + 1, rfl, fun i hi => by have := HM.out i hi; omega, by omega, by omega, rfl⟩
          case rest =>
            obtain ⟨last, rfl, HLA, hla1, hla2, hwc⟩ := hcut
            obtain rfl : w = wc := hwc.symm
            clear hwc
            obtain ⟨j0, hj0, hy0, hy1, hy2⟩ := info_parts info46
            have HSrc : Hid (Src w a n el F) := hS.out.src (fun i hi => by have := HL.out i hi; omega)
            clear hS hl HL1
            go_wp2_with (first | (at_make; refine wpList_make_own _ rfl _ _ 43 rfl w.heap.size 46 j0 _ 2 Try.underlying43 hj0 hy0 hy1 _ _ _ (M + S) rfl rfl (by go_num) (by rw [hy2]; omega) (by unfold maxLen; omega) (by omega) ?_; intro w1 hown hgrow) | go_in)
            have HO1 : Hid (Own w.heap.size w w1 (.slice (some ⟨w.heap.size, 0, none⟩) 0 (M + S)) []) :=
              ⟨hown, by simp, fun x hx => by simp at hx, (Below.refl _ _).grown hgrow (Nat.le_refl _) (by simp), hgrow.size⟩
            clear hown hgrow
            go_loopw [10, 11] (fun v vi wr => InvD4 w.heap.size M w v vi wr) (fun _ vi _ => M + 1 - (intOf vi).toNat)
            case atStart => exact ⟨[], 0, rfl, by omega, rfl, HO1, fun x h1 h2 => by omega⟩
            case round =>
              clear HO1
              obtain ⟨L, k, rfl, hkM, hLk, HO, HA⟩ := hrel
              by_cases hk : k < M
              · have hlk : (k : Int) + 1 ≤ (M : Int) := by omega
                go_wp2_with (first | (at_builtin; refine wpList_append_own _ rfl _ _ 43 rfl w.heap.size 46 j0 _ 2 16 Try.underlying43 hj0 hy0 hy1 hy2 rfl (by decide) _ _ _ rfl (HO.out.row.alloc _) ⟨wr.heap.size, 0, none⟩ 1 1 [.int .i32 3, .int .u64 ((k : Int) + 1)] rfl rfl (cells_new2 _ _ _ _) (by intro u hu; simp at hu; rcases hu with rfl | rfl <;> rfl) (by unfold maxLen; omega) (by omega) (by have := HO.out.size; simp; omega) ?_; intro v3 w3 hown3 hgrow3 hnil3) | go_in)
                have HO3 : Hid (Own w.heap.size w w3 v3 (L ++ [(k : Int) + 1])) := HO.out.step (by omega) hown3 hgrow3 hnil3
                have HA3 : Hid (∀ x : Int, 1 ≤ x → x ≤ ((k + 1 : Nat) : Int) → x ∈ L ++ [(k : Int) + 1]) := fun x h1 h2 => by
                  by_cases c : x ≤ (k : Int)
                  · exact List.mem_append_left _ (HA.out x h1 c)
                  · have : x = (k : Int) + 1 := by omega
                    subst this
                    simp
                clear hown3 hgrow3 hnil3 HO HA
                go_wp2
                go_roundw
                case rel => exact ⟨L ++ [(k : Int) + 1], k + 1, by go_num, hk, by simp; omega, HO3, HA3⟩
                case measure => simp [intOf]; omega
              · have hlk : ¬ (k : Int) + 1 ≤ (M : Int) := by omega
                obtain rfl : M = k := by omega
                go_wp2
                go_loopw [10, 12] (fun v vi wr => InvE4 el n F w.heap.size M w v vi wr) (fun _ vi _ => n - (intOf vi).toNat)
                case atStart => exact ⟨L, 0, rfl, by omega, by show _ = M + 0; omega, HO, HA, fun i' j h => by omega⟩
                case round =>
                  clear HO HA hLk
                  clear L
                  obtain ⟨L, i, rfl, hin, hLi, HO, HA, HF⟩ := hrel
                  by_cases hi : i < n
                  · have hsl : sumL el i ≤ 4096 := by
                      have h1 := sumL_le (el := el) hin
                      have h2 := HSS.out
                      omega
                    have hlb : (el i).l ≤ 4096 := HL.out i hi
                    obtain ⟨⟨b, o, ha, _⟩, _⟩ := HSrc.out i hi
                    subst ha
                    go_wp2
                    go_loopw [10, 13] (fun v vj wr => InvF4 el F w.heap.size M i w v vj wr) (fun _ vj _ => (el i).l - (intOf vj).toNat)
                    case atStart => exact ⟨L, 0, rfl, by omega, by omega, HO, HA, HF, fun j' h => by omega⟩
                    case round =>
                      clear HO HA HF hLi
                      clear L
                      obtain ⟨L, j, rfl, hjl, hLj, HO, HA, HF, HG⟩ := hrel
                      obtain ⟨⟨b', o', ha, x0, _⟩, hsg⟩ := (HSrc.out.kept HO.out.below) i hi
                      simp only [Option.some.injEq, Addr.mk.injEq, and_true] at ha
                      obtain ⟨rfl, rfl⟩ := ha
                      have HSG : Hid (SgIn wr (el i) (F i)) := hsg
                      clear hsg
                      obtain ⟨x, hx⟩ : ∃ x, x = el i := ⟨_, rfl⟩
                      rw [← hx] at x0
                      have HXE : Hid (x = el i) := hx
                      obtain ⟨xa, xl, xc, xv, xt, xk⟩ := x
                      have hxl : xl = (el i).l := by rw [← hx]
                      rw [← hxl] at hjl hlb ⊢
                      have HXL : Hid (xl = (el i).l) := hxl
                      dsimp only at x0
                      clear hx hxl
                      by_cases hj : j < xl
                      · have hsg := HSG.out
                        rw [← HXE.out] at hsg
                        obtain ⟨b2, o2, ha, _, y1, y2, y3⟩ := hsg.2.2 j hj
                        dsimp only at ha
                        subst ha
                        clear hsg
                        obtain ⟨id, hid⟩ : ∃ id, id = (F i j).2 := ⟨_, rfl⟩
                        rw [← hid] at y1 y2 y3
                        have HID : Hid (id = (F i j).2) := hid
                        clear hid
                        have hjj : (j : Int) < (xl : Int) := by omega
                        have hii : (i : Int) < (n : Int) := by omega
                        go_wp2_with (first | (at_builtin; refine wpList_append_own _ rfl _ _ 43 rfl w.heap.size 46 j0 _ 2 16 Try.underlying43 hj0 hy0 hy1 hy2 rfl (by decide) _ _ _ rfl (HO.out.row.alloc _) ⟨wr.heap.size, 0, none⟩ 1 1 [.int .i32 3, .int .u64 id] rfl rfl (cells_new2 _ _ _ _) (by intro u hu; simp at hu; rcases hu with rfl | rfl <;> rfl) (by unfold maxLen; omega) (by omega) (by have := HO.out.size; simp; omega) ?_; intro v3 w3 hown3 hgrow3 hnil3) | go_in)
                        have HO3 : Hid (Own w.heap.size w w3 v3 (L ++ [id])) := HO.out.step ⟨y2, y3⟩ hown3 hgrow3 hnil3
                        clear hown3 hgrow3 hnil3 HO x0 y1 y2 y3
                        go_wp2
                        go_roundw
                        case rel =>
                          exact ⟨L ++ [id], j + 1, by go_num, by rw [← HXL.out]; omega, by simp; omega, HO3, fun x h1 h2 => List.mem_append_left _ (HA.out x h1 h2), fun i' j' h1 h2 => List.mem_append_left _ (HF.out i' j' h1 h2), fun j' h => by
                            by_cases c : j' < j
                            · exact List.mem_append_left _ (HG.out j' c)
                            · obtain rfl : j' = j := by omega
                              rw [← HID.out]; simp⟩
                        case measure => simp [intOf]; omega
                      · obtain rfl : j = xl := by omega
                        have hii : (i : Int) < (n : Int) := by omega
                        go_wp2
                        go_roundw
                        case rel =>
                          exact ⟨L, i + 1, by go_num, hi, by show _ = M + (sumL el i + (el i).l); rw [← HXL.out]; omega, HO, HA, fun i' j' h1 h2 => by
                            by_cases c : i' < i
                            · exact HF.out i' j' c h2
                            · obtain rfl : i' = i := by omega
                              rw [← HXL.out] at h2
                              exact HG.out j' h2⟩
                        case measure => simp [intOf]; omega
                  · obtain rfl : n = i := by omega
                    obtain ⟨gc, cc, hv, hgc, hcr⟩ := HO.out.shut
                    subst hv
                    have HIDS : Hid (∀ x, x ∈ L → 0 ≤ x ∧ x ≤ 18446744073709551615) := HO.out.ids
                    have HB : Hid (Below w.heap.size w wr) := HO.out.below
                    have hsz := HO.out.size
                    obtain ⟨m, hm⟩ : ∃ m, m = L.length := ⟨_, rfl⟩
                    rw [← hm] at hLi ⊢
                    have HCR : Hid (CloseRow gc m L wr) := by rw [hm]; exact hcr
                    have HM : Hid (m = L.length) := hm
                    have hmb : m ≤ 100000 := by have := HSS.out; omega
                    clear hcr HO hLi hm
                    go_wp2_with fail
                    refine (sim6 el n c a F wr (HSrc.out.kept HB.out) (by omega)).mono ?_
                    rintro e w2 ⟨g1, E1, rfl, hg1, hg1', hr1, hs1, hb1⟩
                    have HR1 : Hid (RwE E1 n g1 w2) := hr1
                    have HS1 : Hid (∀ i, i < n → SgB g1 w2 (E1 i) (F i) ∧ (E1 i).l = (el i).l ∧ (E1 i).k = (el i).k) := hs1
                    have HCR2 : Hid (CloseRow gc m L w2) := HCR.out.kept hgc hb1
                    have HB2 : Hid (Below w.heap.size w w2) := HB.out.trans (hb1.mono hsz)
                    have hsz2 : w.heap.size ≤ w2.heap.size := by have := hb1.size; omega
                    have hgc2 : gc < w2.heap.size := by have := hb1.size; omega
                    clear hr1 hs1 hb1 HCR HB
                    go_wp2_with (first | (refine wpList_build39 rfl _ _ rfl _ _ _ _ rfl rfl ?_) | fail)
                    have hbA : Below w2.heap.size w2 (w2.alloc (Obj.cells (cfg Try.prog (M : Int) (some ⟨g1, 0, none⟩) n n) 39)) := (Below.refl _ _).alloc (Nat.le_refl _) _
                    refine (zz7 E1 n M g1 n w2.heap.size F _ (cfg_c0 _ _ _ _ _) (cfg_c35 _ _ _ _ _) (HR1.out.block (hbA.block g1 hg1')) (by simp; omega) (fun i hi => (HS1.out i hi).1.sg.kept hbA) hM (by omega)).mono ?_
                    rintro e w4 ⟨T1, ok1, s1, rfl, hw1, hs1, ha1, hb4⟩
                    have HW1 := hid_of hw1
                    have HSR1 := hid_of hs1
                    have HA1 := hid_of ha1
                    have HL1 : Hid (∀ i, i < n → (E1 i).l = (el i).l ∧ (E1 i).k = (el i).k) := fun i hi => (HS1.out i hi).2
                    have hb24 : Below w2.heap.size w2 w4 := hbA.trans (hb4.mono (by simp))
                    have HCR4 : Hid (CloseRow gc m L w4) := HCR2.out.kept hgc2 hb24
                    have HB4 : Hid (Below w.heap.size w w4) := HB2.out.trans (hb24.mono hsz2)
                    have hsz4 : w.heap.size ≤ w4.heap.size := by have := hb24.size; omega
                    have hgc4 : gc < w4.heap.size := by have := hb24.size; omega
                    clear hw1 hs1 ha1 hb4 hb24 hbA HCR2 HB2 HR1 HS1 hg1 hg1' hsz2 hgc2 hsz hgc
                    go_wp2_with fail
                    refine (sim6 el n c a F w4 (HSrc.out.kept HB4.out) (by omega)).mono ?_
                    rintro e w5 ⟨g2, E2, rfl, hg2, hg2', hr2, hs2, hb5⟩
                    have HS2 : Hid (∀ i, i < n → SgB g2 w5 (E2 i) (F i) ∧ (E2 i).l = (el i).l ∧ (E2 i).k = (el i).k) := hs2
                    have HCR5 : Hid (CloseRow gc m L w5) := HCR4.out.kept hgc4 hb5
                    have HB5 : Hid (Below w.heap.size w w5) := HB4.out.trans (hb5.mono hsz4)
                    have hsz5 : w.heap.size ≤ w5.heap.size := by have := hb5.size; omega
                    have hgc5 : gc < w5.heap.size := by have := hb5.size; omega
                    obtain ⟨cap3, w6, hrun6, hr6, hg6, hb6⟩ := app28 ⟨some ⟨gc, 0, none⟩, m, cc, false, 0, last⟩ 28 hr2 (by omega)
                    have HRUN := hid_of hrun6
                    have HR6 := hid_of hr6
                    have HCR6 : Hid (CloseRow gc m L w6) := HCR5.out.kept hgc5 hb6
                    have HB6 : Hid (Below w.heap.size w w6) := HB5.out.trans (hb6.mono hsz5)
                    have hsz6 : w.heap.size ≤ w6.heap.size := by have := hb6.size; omega
                    have hgc6 : gc < w6.heap.size := by have := hb6.size; omega
                    have HS6 : Hid (∀ i, i < n → Sg w6 (E2 i) (F i)) := fun i hi => (HS2.out i hi).1.sg.kept hb6
                    clear hr2 hs2 hb5 hrun6 hr6 hb6 HCR4 HB4 HCR5 HB5
                    go_wp2_with (first | (at_builtin; refine wpList_append_run rfl _ _ 28 rfl _ _ _ rfl rfl HRUN.out ?_) | (refine wpList_build39 rfl _ _ rfl _ _ _ _ rfl rfl ?_) | fail)
                    have hbA : Below w6.heap.size w6 (w6.alloc (Obj.cells (cfg Try.prog (M : Int) (some ⟨w5.heap.size + 1, 0, none⟩) (n + 1) cap3) 39)) := (Below.refl _ _).alloc (Nat.le_refl _) _
                    refine (zz7 (fun i => if i < n then E2 i else ⟨some ⟨gc, 0, none⟩, m, cc, false, 0, last⟩) (n + 1) M (w5.heap.size + 1) cap3 w6.heap.size (fun i => if i < n then F i else fun j => (3, L.getD j 0)) _ (cfg_c0 _ _ _ _ _) (cfg_c35 _ _ _ _ _)
                      (HR6.out.block (hbA.block _ hg6)) (by simp; omega) (fun i hi => ?_) hM (by omega)).mono ?_
                    · by_cases c : i < n
                      · rw [if_pos c, if_pos c]
                        exact (HS6.out i c).kept hbA
                      · rw [if_neg c, if_neg c]
                        exact (HCR6.out.kept hgc6 hbA).sg (by omega) HIDS.out
                    rintro e w7 ⟨T2, ok2, s2, rfl, hw2, hs2, ha2, hb7⟩
                    have HE := law4_end HL1.out (fun i hi => (HS2.out i hi).2) rfl rfl HM.out HLA.out HA.out HF.out HW1.out HSR1.out HA1.out hw2 hs2 ha2
                    have HB7 : Hid (Below w.heap.size w w7) := (HB6.out.trans (hbA.mono hsz6)).trans (hb7.mono (by simp; omega))
                    clear hw2 hs2 ha2 hb7 hbA HW1 HSR1 HA1 HB6 HCR6 HR6 HS6 HS2 HRUN
                    cases ok1 with
                    | true =>
                      obtain ⟨rfl, rfl⟩ := HE.1 rfl
                      clear HE
                      go_wp2
                      go_ret
                      exact ⟨rfl, HB7.out⟩
                    | false =>
                      obtain ⟨rfl, rfl, rfl⟩ := HE.2 rfl
                      clear HE
                      go_wp2
                      go_ret
                      exact ⟨rfl, HB7.out⟩
end Go.Proofs.Qxb6613603a
