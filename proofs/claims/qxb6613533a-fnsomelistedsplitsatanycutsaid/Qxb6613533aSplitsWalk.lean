import Derived.Test.Qxb6613533aZz
import Derived.Laws.CopyOwn
import Derived.Deep.DeepCutAuto
namespace Go.Proofs.Qxb6613533a
open Go.ChangeShapes Go.WideShapes Go.ChangeAt Go.RowKit

theorem info9 : (Try.prog.info? 9).map (fun i => (i.zero, i.size, i.bytes)) = some (some (.string ⟨#[]⟩), 1, 16) := by kernel_rfl
theorem size9 : (Try.prog.info? 9).map (·.size) = some 1 := by kernel_rfl
theorem neq_nil (a : Option Addr) (n c : Nat) (wx : World) : (binOp .neq 22 (.slice a n c) (.slice none 0 0)).run Try.prog wx = .ok (.bool (!a.isNone)) wx := run_neq_slice_nil_any (P := Try.prog) wx 22 9 a n c 0 0 Try.underlying22

/-- A row that the call made and copied ss into. -/
theorem ss_of_row {w : World} {g : Nat} {ss : List ByteArray} {cur : List Value} (hc : cur = ss.map Value.string) (h : w.heap[g]? = some (.cells cur.toArray 9 (0, 0))) : SS w (some ⟨g, 0, none⟩) ss := fun _ => by
  refine ⟨g, 0, rfl, fun k hk => ?_⟩
  have e : w.cell? ⟨g, 0 + k, none⟩ = cur.toArray[0 + k]? := by simp [World.cell?, h]
  rw [e, hc]
  simp [List.getD, List.getElem?_eq_getElem hk]

theorem made_heap {w : World} {base g n : Nat} {xs : List Value} (h : w.ownsRow base 9 1 (.slice (some ⟨g, 0, none⟩) n n) n xs) : ∃ cur : List Value, w.heap[g]? = some (.cells cur.toArray 9 (0, 0)) ∧ cur.length = n := by
  rcases h.2 with ⟨h', _⟩ | ⟨g', cap', cur, h', _, hg, _, _, hs, _⟩
  · simp at h'
  · simp only [Value.slice.injEq, Option.some.injEq, Addr.mk.injEq, and_true, true_and] at h'
    obtain ⟨rfl, rfl⟩ := h'
    exact ⟨cur.toList, by simpa using hg, by simp; omega⟩
theorem splice_whole {α : Type} (L cs : List α) (h : cs.length = L.length) : splice L 0 cs = cs := by
  unfold splice
  rw [List.drop_eq_nil_of_le (by omega)]
  simp
/-- 'copy' of what holds ss into a row of the call's own that is as long. -/
theorem copy_run {w w1 : World} {B g n : Nat} (c : Nat) {x : Addr} {ss : List ByteArray} {cur : List Value} (hn : n = ss.length) (h : SS w (some x) ss) (hb : Below w.heap.size w w1) (hB : Below B w w1) (hBg : B ≤ g) (hg : w1.heap[g]? = some (.cells cur.toArray 9 (0, 0))) (hcl : cur.length = n) :
    ∃ w2, (Builtin.copy_ #[22, 22] 3 #[.slice (some ⟨g, 0, none⟩) n n, .slice (some x) n c]).run Try.prog w1 = .ok (.int .i64 n) w2 ∧ SS w2 (some ⟨g, 0, none⟩) ss ∧ Below B w w2 := by
  by_cases h0 : ss.length = 0
  · have hrun := run_copy_none (P := Try.prog) w1 22 22 3 9 (some ⟨g, 0, none⟩) (some x) n n n c Try.underlying22 size9 (by rw [hn, h0]; rfl)
    refine ⟨w1, ?_, fun hp => absurd hp (by omega), hB⟩
    rw [hrun, hn, h0]; rfl
  · have hsrc : ∀ j v, (ss.map Value.string)[j]? = some v → w1.cell? (x.add j) = some v := fun j v hj => by
      obtain ⟨b, off, ha, hc⟩ := h.kept hb (by omega)
      cases ha
      have hjl : j < ss.length := by
        have := (List.getElem?_eq_some_iff.1 hj).1
        simpa using this
      rw [add_plain, hc j hjl]
      rw [List.getElem?_map, List.getElem?_eq_getElem hjl] at hj
      simp only [Option.map_some, Option.some.injEq] at hj
      rw [← hj]
      simp [List.getD, List.getElem?_eq_getElem hjl]
    have hrun := run_copy_row (P := Try.prog) w1 22 22 3 9 g 0 n n x n c cur.toArray 9 (ss.map Value.string) Try.underlying22 size9 hg (by rw [List.length_map, hn]; exact (Nat.min_self _).symm) hsrc (by simp; omega) (by simp [Value.oneCell'])
    have hsp : cur.toArray.toList.take 0 ++ ss.map Value.string ++ cur.toArray.toList.drop (0 + (ss.map Value.string).length) = splice cur 0 (ss.map Value.string) := by simp [splice]
    rw [hsp] at hrun
    refine ⟨w1.setRow g (splice cur 0 (ss.map Value.string)).toArray, hrun.trans ?_, ss_of_row (cur := splice cur 0 (ss.map Value.string)) (splice_whole _ _ (by rw [List.length_map]; omega)) (setRow_heap w1 g _ _ 9 _ hg), below_setRow hB hBg _⟩
    rw [List.length_map, ← hn]; rfl

theorem SS.take {w : World} {b : Option Addr} {ts : List ByteArray} (h : SS w b ts) (k : Nat) : SS w b (ts.take k) := fun hp => by
  have hl : (ts.take k).length ≤ ts.length := by rw [List.length_take]; omega
  obtain ⟨q, off, ha, hc⟩ := h (by omega)
  refine ⟨q, off, ha, fun j hj => ?_⟩
  have hjk : j < k := by have := List.length_take_le k ts; omega
  have e : (ts.take k).getD j ByteArray.empty = ts.getD j ByteArray.empty := by simp only [List.getD, List.getElem?_take, if_pos hjk]
  rw [e]; exact hc j (by omega)

theorem SS.drop {w : World} {b : Option Addr} {ts : List ByteArray} (h : SS w b ts) (k : Nat) : SS w (b.map fun x => x.add k) (ts.drop k) := fun hp => by
  rw [List.length_drop] at hp
  obtain ⟨q, off, ha, hc⟩ := h (by omega)
  subst ha
  refine ⟨q, off + k, by simp [add_plain], fun j hj => ?_⟩
  rw [List.length_drop] at hj
  have e : (ts.drop k).getD j ByteArray.empty = ts.getD (k + j) ByteArray.empty := by simp only [List.getD, List.getElem?_drop]
  rw [e, Nat.add_assoc]; exact hc (k + j) (by omega)

/-- The plain law of the split. -/
theorem sl_split (ss ts : List ByteArray) (m : Bool) (k : Nat) : sl ss ts m = (sl ss (ts.take k) m || sl ss (ts.drop k) m) := by
  unfold sl
  rw [← List.any_append, List.take_append_drop]
theorem sl_both (ss ts : List ByteArray) (m : Bool) : (sl ss ts m || sl ss ts !m) = decide (0 < ts.length) := by
  cases ts with
  | nil => rfl
  | cons t r =>
    have h : (has ss t == m || has ss t == !m) = true := by cases has ss t <;> cases m <;> rfl
    have e : (sl ss (t :: r) m || sl ss (t :: r) !m) = true := by
      unfold sl
      simp only [List.any_cons]
      cases h1 : (has ss t == m) <;> cases h2 : (has ss t == !m) <;> simp_all
    rw [e]; simp

set_option maxRecDepth 100000 in
set_option maxHeartbeats 1600000 in
theorem walk3 (a b : Option Addr) (n c l d : Nat) (ss ts : List ByteArray) (m : Bool) (cut : Int) (w : World) (hn : Hid (n = ss.length)) (hl : Hid (l = ts.length)) (hnm : n ≤ maxLen) (hlm : l ≤ maxLen)
    (h0 : Hid (SS w a ss)) (h1 : Hid (SS w b ts)) (g0 : Hid (∀ k, (ss.getD k ByteArray.empty).size ≤ maxLen)) (g1 : Hid (∀ k, (ts.getD k ByteArray.empty).size ≤ maxLen))
    (na : a = none → n = 0 ∧ c = 0) (nb : b = none → l = 0 ∧ d = 0) :
    Calls Try.prog 3 #[.slice a n c, .slice b l d, .bool m, .int .i64 cut] w fun e w' => e = .returned (.bool true) ∧ Below w.heap.size w w' := by
  obtain ⟨i0, hi0, hz0, hz1, hz2⟩ := info_parts info9
  have NA : Hid (a = none → n = 0 ∧ c = 0) := na
  have NB : Hid (b = none → l = 0 ∧ d = 0) := nb
  clear na nb
  have hq := neq_nil
  go_enter Try.func3, Try.ntmps3
  go_wp2_with fail
  refine (zz5 a b n c l d ss ts m cut _ hn hl hnm hlm h0 h1 g0 g1).mono ?_
  rintro e w' ⟨⟨z, rfl⟩, hw⟩
  subst hw
  cases z with
  | false =>
    go_wp2
    go_ret
    exact ⟨rfl, Below.refl _ _⟩
  | true =>
  go_wp2_with fail
  refine (add6 0 a n c ss _ (by omega) hn hnm h0 g0).mono ?_
  rintro e w1 ⟨⟨r1, rfl, hr1, hr1'⟩, hw⟩
  subst hw
  go_wp2_with fail
  refine (add6 r1 b l d ts _ hr1 hl hlm h1 g1).mono ?_
  rintro e w' ⟨⟨r2, rfl, hr2, hr2'⟩, hw⟩
  subst hw
  by_cases c0 : 1048576 < r2
  · go_wp2
    go_ret
    exact ⟨rfl, Below.refl _ _⟩
  have hl4 : l ≤ 4096 := (hr2' (by omega)).2
  have hn4 : n ≤ 4096 := (hr1' (hr2' (by omega)).1).2
  clear hr2' hr1' hr1 hr2
  unfold maxLen at hnm hlm
  by_cases c1 : cut < 0
  · go_wp2
    go_ret
    exact ⟨rfl, Below.refl _ _⟩
  by_cases c2 : (l : Int) < cut
  · go_wp2
    go_ret
    exact ⟨rfl, Below.refl _ _⟩
  obtain ⟨k, rfl⟩ := Int.eq_ofNat_of_zero_le (show 0 ≤ cut by omega)
  have hkl : k ≤ l := by omega
  go_upto_if 35 with fail
  go_cut [0, 9] (fun v0 v9 wx => ∃ a' c', v0 = .slice a' n c' ∧ SS wx a' ss ∧ Below w'.heap.size w' wx)
  case first =>
    cases a with
    | none =>
      go_wp2_with fail
      go_meet
      case rel => exact ⟨none, c, rfl, h0.out, Below.refl _ _⟩
    | some x =>
      go_wp2_with (at_make; refine wpList_make_full _ rfl _ _ 22 rfl w'.heap.size 9 i0 _ 1 Try.underlying22 hi0 hz0 hz1 _ _ _ _ n rfl rfl (by omega) (by omega) (by rw [hz2]; omega) (by unfold maxLen; omega) (by omega) ?_; intro w1 hown hgrow; have hB1 : Below w'.heap.size w' w1 := (Below.refl _ _).grown hgrow (Nat.le_refl _) (by simp); obtain ⟨cur, hcur, hcl⟩ := made_heap hown; obtain ⟨w2, hrun, hS2, hB2⟩ := copy_run c hn.out h0.out hB1 hB1 (Nat.le_refl _) hcur hcl; have HS2 : Hid (SS w2 (some ⟨w'.heap.size, 0, none⟩) ss) := hS2; clear hown hgrow hcur hcl hS2)
      go_meet
      case rel => exact ⟨_, _, rfl, HS2.out, hB2⟩
  case rest =>
    rename World => W1
    obtain ⟨a', c', hv0, hs0, hb0⟩ := hcut
    have HS0 : Hid (SS W1 a' ss) := hs0
    have HB0 : Hid (Below w'.heap.size w' W1) := hb0
    subst hv0
    clear hs0 hb0
    have H1 : Hid (SS W1 b ts) := h1.out.kept HB0.out
    go_upto_if 44 with fail
    go_cut [1, 10] (fun v0 v9 wx => ∃ b' d', v0 = .slice b' l d' ∧ SS wx b' ts ∧ l ≤ d' ∧ Below W1.heap.size W1 wx)
    case first =>
      cases b with
      | none =>
        have hl0 := (NB.out rfl).1
        have hd0 := (NB.out rfl).2
        go_wp2_with fail
        go_meet
        case rel => exact ⟨none, 0, by rw [hl0], H1.out, by omega, Below.refl _ _⟩
      | some x =>
        go_wp2_with (at_make; refine wpList_make_full _ rfl _ _ 22 rfl W1.heap.size 9 i0 _ 1 Try.underlying22 hi0 hz0 hz1 _ _ _ _ l rfl rfl (by omega) (by omega) (by rw [hz2]; omega) (by unfold maxLen; omega) (by omega) ?_; intro w1 hown hgrow; have hB1 : Below W1.heap.size W1 w1 := (Below.refl _ _).grown hgrow (Nat.le_refl _) (by simp); obtain ⟨cur, hcur, hcl⟩ := made_heap hown; obtain ⟨w2, hrun, hS2, hB2⟩ := copy_run d hl.out H1.out hB1 hB1 (Nat.le_refl _) hcur hcl; have HS2 : Hid (SS w2 (some ⟨W1.heap.size, 0, none⟩) ts) := hS2; clear hown hgrow hcur hcl hS2)
        go_meet
        case rel => exact ⟨_, _, rfl, HS2.out, Nat.le_refl _, hB2⟩
    case rest =>
      obtain ⟨b', d', hv1, hs1, hld, hb1⟩ := hcut
      have HS1 : Hid (SS wc b' ts) := hs1
      have HB1 : Hid (Below w'.heap.size w' wc) := HB0.out.trans (hb1.mono HB0.out.size)
      have HS0' : Hid (SS wc a' ss) := HS0.out.kept hb1
      subst hv1
      clear hs1 hb1
      have HT1 : Hid (k = (ts.take k).length) := by
        show k = _
        rw [List.length_take]; have := hl.out; omega
      go_wp2_with fail
      refine (zzsome7 a' b' n c' l d' ss ts m _ hl (by omega) hn hnm HS0' HS1).mono ?_
      rintro e w2 ⟨rfl, hb2⟩
      have HB2 : Hid (Below w'.heap.size w' w2) := HB1.out.trans (hb2.mono HB1.out.size)
      have HS02 : Hid (SS w2 a' ss) := HS0'.out.kept hb2
      have HS12 : Hid (SS w2 b' ts) := HS1.out.kept hb2
      clear hb2 HB1 HS0' HS1
      go_wp2_with fail
      refine (zzsome7 a' b' n c' k d' ss (ts.take k) m _ HT1 (by omega) hn hnm HS02 (by exact HS12.out.take k)).mono ?_
      rintro e w3 ⟨rfl, hb3⟩
      have HB3 : Hid (Below w'.heap.size w' w3) := HB2.out.trans (hb3.mono HB2.out.size)
      have HS03 : Hid (SS w3 a' ss) := HS02.out.kept hb3
      have HS13 : Hid (SS w3 b' ts) := HS12.out.kept hb3
      clear hb3 HB2 HS02 HS12 HT1
      have HT2 : Hid (l - k = (ts.drop k).length) := by
        show l - k = _
        rw [List.length_drop, ← hl.out]
      go_wp2_with fail
      · have hd0 : ts.drop k = [] := List.drop_eq_nil_of_le (by have := hl.out; omega)
        refine (zzsome7 a' b' n c' (l - k) 0 ss (ts.drop k) m _ HT2 (by omega) hn hnm HS03 (by rw [hd0]; exact SS.nil _ _)).mono ?_
        clear hd0
        rintro e w4 ⟨rfl, hb4⟩
        have HB4 : Hid (Below w'.heap.size w' w4) := HB3.out.trans (hb4.mono HB3.out.size)
        have HS04 : Hid (SS w4 a' ss) := HS03.out.kept hb4
        have HS14 : Hid (SS w4 b' ts) := HS13.out.kept hb4
        clear hb4 HB3 HS03 HS13 HT2
        have hA := sl_split ss ts m k
        have hB : (sl ss ts m || sl ss ts !m) = decide (0 < l) := by
          rw [sl_both, ← hl.out]
        generalize sl ss (ts.take k) m = left at hA ⊢
        generalize sl ss (ts.drop k) m = right at hA ⊢
        have HA : Hid (sl ss ts m = (left || right)) := hA
        have HBB : Hid ((sl ss ts m || sl ss ts !m) = decide (0 < l)) := hB
        clear hA hB
        go_wp2_with fail
        refine (zzsome7 a' b' n c' l k ss ts (!m) _ hl (by omega) hn hnm HS04 HS14).mono ?_
        rintro e w5 ⟨rfl, hb5⟩
        have HB5 : Hid (Below w'.heap.size w' w5) := HB4.out.trans (hb5.mono HB4.out.size)
        clear hb5 HB4 HS04 HS14
        have hA := HA.out
        have hB := HBB.out
        generalize sl ss ts m = whole at hA hB ⊢
        generalize (sl ss ts (!m)) = other at hB ⊢
        subst hA
        clear HA HBB
        by_cases hpos : 0 < l
        all_goals cases left <;> cases right <;> cases other
        all_goals first
          | (exfalso; revert hB; simp [hpos]; done)
          | (clear hB; go_wp2; go_ret; exact ⟨rfl, HB5.out⟩)
      · refine (zzsome7 a' (b'.map fun x => x.add k) n c' (l - k) (d' - k) ss (ts.drop k) m _ HT2 (by omega) hn hnm HS03 (by exact HS13.out.drop k)).mono ?_
        rintro e w4 ⟨rfl, hb4⟩
        have HB4 : Hid (Below w'.heap.size w' w4) := HB3.out.trans (hb4.mono HB3.out.size)
        have HS04 : Hid (SS w4 a' ss) := HS03.out.kept hb4
        have HS14 : Hid (SS w4 b' ts) := HS13.out.kept hb4
        clear hb4 HB3 HS03 HS13 HT2
        have hA := sl_split ss ts m k
        have hB : (sl ss ts m || sl ss ts !m) = decide (0 < l) := by
          rw [sl_both, ← hl.out]
        generalize sl ss (ts.take k) m = left at hA ⊢
        generalize sl ss (ts.drop k) m = right at hA ⊢
        have HA : Hid (sl ss ts m = (left || right)) := hA
        have HBB : Hid ((sl ss ts m || sl ss ts !m) = decide (0 < l)) := hB
        clear hA hB
        go_wp2_with fail
        refine (zzsome7 a' b' n c' l d' ss ts (!m) _ hl (by omega) hn hnm HS04 HS14).mono ?_
        rintro e w5 ⟨rfl, hb5⟩
        have HB5 : Hid (Below w'.heap.size w' w5) := HB4.out.trans (hb5.mono HB4.out.size)
        clear hb5 HB4 HS04 HS14
        have hA := HA.out
        have hB := HBB.out
        generalize sl ss ts m = whole at hA hB ⊢
        generalize (sl ss ts (!m)) = other at hB ⊢
        subst hA
        clear HA HBB
        by_cases hpos : 0 < l
        all_goals cases left <;> cases right <;> cases other
        all_goals first
          | (exfalso; revert hB; simp [hpos]; done)
          | (clear hB; go_wp2; go_ret; exact ⟨rfl, HB5.out⟩)
end Go.Proofs.Qxb6613533a
