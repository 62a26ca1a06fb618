import Derived.Test.Qxb6613533aSplitsWalk
namespace Go.Proofs.Qxb6613533a
open Go.ChangeShapes Go.WideShapes Go.ChangeAt Go.RowKit

/-- What an append reads. -/
theorem ss_src {w : World} {ao : Option Addr} {ss : List ByteArray} (h : SS w ao ss) : ∀ ad, ao = some ad → ∀ j u, (ss.map Value.string)[j]? = some u → w.cell? (ad.add j) = some u := fun ad ha j u hj => by
  have hjl : j < ss.length := by
    have := (List.getElem?_eq_some_iff.1 hj).1
    simpa using this
  obtain ⟨b, off, hb, hc⟩ := h (by omega)
  rw [ha] at hb
  cases hb
  rw [add_plain, hc j hjl]
  rw [List.getElem?_map, List.getElem?_eq_getElem hjl] at hj
  simp only [Option.map_some, Option.some.injEq] at hj
  rw [← hj]
  simp [List.getD, List.getElem?_eq_getElem hjl]
/-- A row of the call's own that holds them. -/
theorem ss_own {w : World} {base g n cap : Nat} {ss : List ByteArray} (h : w.ownsRow base 9 1 (.slice (some ⟨g, 0, none⟩) n cap) n (ss.map Value.string)) : SS w (some ⟨g, 0, none⟩) ss := fun _ => by
  refine ⟨g, 0, rfl, fun k hk => ?_⟩
  have hl := h.1
  rw [List.length_map] at hl
  rw [Nat.zero_add, h.cellAt k (by omega), List.getElem?_map, List.getElem?_eq_getElem hk]
  simp [List.getD, List.getElem?_eq_getElem hk]

theorem has_sup (ss ts : List ByteArray) (t : ByteArray) (h : t ∈ ts) : has (ss ++ ts) t = true := by
  unfold has
  rw [List.any_eq_true]
  exact ⟨t, List.mem_append_right _ h, by simp⟩
theorem sl_sup (ss ts : List ByteArray) (m : Bool) : sl (ss ++ ts) ts m = (m && decide (0 < ts.length)) := by
  have h : ∀ rs : List ByteArray, (∀ t ∈ rs, t ∈ ts) → sl (ss ++ ts) rs m = (m && decide (0 < rs.length)) := by
    intro rs hr
    cases m with
    | true =>
      cases rs with
      | nil => rfl
      | cons t r =>
        have : has (ss ++ ts) t = true := has_sup ss ts t (hr t (by simp))
        simp [sl, this]
    | false =>
      simp only [Bool.false_and]
      unfold sl
      rw [List.any_eq_false]
      intro t ht
      rw [has_sup ss ts t (hr t ht)]
      simp
  exact h ts (fun _ h => h)
theorem sl_none (ts : List ByteArray) (m : Bool) : sl [] ts m = (!m && decide (0 < ts.length)) := by
  cases ts with
  | nil => cases m <;> rfl
  | cons t r => cases m <;> simp [sl, has]

set_option maxRecDepth 100000 in
set_option maxHeartbeats 1600000 in
theorem walk4 (a b : Option Addr) (n c l d : Nat) (ss ts : List ByteArray) (m : Bool) (w : World) (hn : Hid (n = ss.length)) (hl : Hid (l = ts.length)) (hnm : n ≤ maxLen) (hlm : l ≤ maxLen)
    (h0 : Hid (SS w a ss)) (h1 : Hid (SS w b ts)) (g0 : Hid (∀ k, (ss.getD k ByteArray.empty).size ≤ maxLen)) (g1 : Hid (∀ k, (ts.getD k ByteArray.empty).size ≤ maxLen))
    (na : a = none → n = 0 ∧ c = 0) (nb : b = none → l = 0 ∧ d = 0) :
    Calls Try.prog 4 #[.slice a n c, .slice b l d, .bool m] w fun e w' => e = .returned (.bool true) ∧ Below w.heap.size w w' := by
  obtain ⟨i0, hi0, hz0, hz1, hz2⟩ := info_parts info9
  have NA : Hid (a = none → n = 0 ∧ c = 0) := na
  have NB : Hid (b = none → l = 0 ∧ d = 0) := nb
  clear na nb
  have hq := neq_nil
  go_enter Try.func4, Try.ntmps4
  go_wp2_with fail
  refine (zz8 a b n c l d ss ts m _ hn hl hnm hlm h0 h1 g0 g1).mono ?_
  rintro e w' ⟨⟨z, rfl⟩, hw⟩
  subst hw
  cases z with
  | false =>
    go_wp2
    go_ret
    exact ⟨rfl, Below.refl _ _⟩
  | true =>
  go_wp2_with fail
  refine (add6 0 a n c ss _ (by omega) hn hnm h0 g0).mono ?_
  rintro e w1 ⟨⟨r1, rfl, hr1, hr1'⟩, hw⟩
  subst hw
  go_wp2_with fail
  refine (add6 r1 b l d ts _ hr1 hl hlm h1 g1).mono ?_
  rintro e w' ⟨⟨r2, rfl, hr2, hr2'⟩, hw⟩
  subst hw
  by_cases c0 : 1048576 < r2
  · go_wp2
    go_ret
    exact ⟨rfl, Below.refl _ _⟩
  have hl4 : l ≤ 4096 := (hr2' (by omega)).2
  have hn4 : n ≤ 4096 := (hr1' (hr2' (by omega)).1).2
  clear hr2' hr1' hr1 hr2
  unfold maxLen at hnm hlm
  go_upto_if 23 with fail
  go_cut [1, 7] (fun v0 v9 wx => ∃ b' d', v0 = .slice b' l d' ∧ SS wx b' ts ∧ (b' = none → l = 0 ∧ d' = 0) ∧ Below w'.heap.size w' wx)
  case first =>
    cases b with
    | none =>
      have hl0 := (NB.out rfl).1
      have hd0 := (NB.out rfl).2
      go_wp2_with fail
      go_meet
      case rel => exact ⟨none, 0, by rw [hl0], h1.out, fun _ => ⟨hl0, rfl⟩, Below.refl _ _⟩
    | some x =>
      go_wp2_with (at_make; refine wpList_make_full _ rfl _ _ 22 rfl w'.heap.size 9 i0 _ 1 Try.underlying22 hi0 hz0 hz1 _ _ _ _ l rfl rfl (by omega) (by omega) (by rw [hz2]; omega) (by unfold maxLen; omega) (by omega) ?_; intro w1 hown hgrow; have hB1 : Below w'.heap.size w' w1 := (Below.refl _ _).grown hgrow (Nat.le_refl _) (by simp); obtain ⟨cur, hcur, hcl⟩ := made_heap hown; obtain ⟨w2, hrun, hS2, hB2⟩ := copy_run d hl.out h1.out hB1 hB1 (Nat.le_refl _) hcur hcl; have HS2 : Hid (SS w2 (some ⟨w'.heap.size, 0, none⟩) ts) := hS2; clear hown hgrow hcur hcl hS2)
      go_meet
      case rel => exact ⟨_, _, rfl, HS2.out, (fun h => by cases h), hB2⟩
  case rest =>
    rename World => W1
    obtain ⟨b', d', hv0, hs0, hbn, hb0⟩ := hcut
    have HS1 : Hid (SS W1 b' ts) := hs0
    have HBN : Hid (b' = none → l = 0 ∧ d' = 0) := hbn
    have HB1 : Hid (Below w'.heap.size w' W1) := hb0
    have HS0 : Hid (SS W1 a ss) := h0.out.kept hb0
    subst hv0
    clear hs0 hb0 hbn
    go_wp2_with (first
      | (at_make; refine wpList_make_own _ rfl _ _ 22 rfl W1.heap.size 9 i0 _ 1 Try.underlying22 hi0 hz0 hz1 _ _ _ (n + l) rfl rfl (by omega) (by rw [hz2]; omega) (by unfold maxLen; omega) (by omega) ?_; intro w1 hown1 hgrow1; have hB1 : Below W1.heap.size W1 w1 := (Below.refl _ _).grown hgrow1 (Nat.le_refl _) (by simp); have HSa : Hid (SS w1 a ss) := HS0.out.kept hB1; have HSb : Hid (SS w1 b' ts) := HS1.out.kept hB1)
      | (at_builtin; refine wpList_append_fits_any _ rfl (.tmp 37) (.tmp 38) 22 rfl W1.heap.size 9 i0 1 Try.underlying22 hi0 hz1 W1.heap.size 0 (n + l) [] rfl hown1 a n c (ss.map Value.string) rfl (by rw [List.length_map, Nat.mul_one]; exact hn.out.symm) NA.out (ss_src HSa.out) (by simp [Value.oneCell']) (by omega) ?_; intro w2 hown2 hgrow2; simp only [Nat.zero_add, List.nil_append] at hown2; have hB2 : Below W1.heap.size W1 w2 := hB1.grown hgrow2 hB1.size (fun k h => by cases h; exact Nat.le_refl _); have HSb2 : Hid (SS w2 b' ts) := HS1.out.kept hB2)
      | (at_builtin; refine wpList_append_fits_any _ rfl (.tmp 40) (.tmp 41) 22 rfl W1.heap.size 9 i0 1 Try.underlying22 hi0 hz1 W1.heap.size n (n + l) (ss.map Value.string) rfl hown2 b' l d' (ts.map Value.string) rfl (by rw [List.length_map, Nat.mul_one]; exact hl.out.symm) HBN.out (ss_src HSb2.out) (by simp [Value.oneCell']) (by omega) ?_; intro w3 hown3 hgrow3))
    have hB3 : Below W1.heap.size W1 w3 := hB2.grown hgrow3 hB2.size (fun k h => by cases h; exact Nat.le_refl _)
    rw [← List.map_append] at hown3
    have HSS : Hid (SS w3 (some ⟨W1.heap.size, 0, none⟩) (ss ++ ts)) := ss_own hown3
    have HST : Hid (SS w3 b' ts) := HS1.out.kept hB3
    have HB3 : Hid (Below w'.heap.size w' w3) := HB1.out.trans (hB3.mono HB1.out.size)
    have HNL : Hid (n + l = (ss ++ ts).length) := by
      show n + l = _
      rw [List.length_append, ← hn.out, ← hl.out]
    clear hown1 hown2 hown3 hgrow1 hgrow2 hgrow3 hB1 hB2 hB3 HSa HSb HSb2
    refine (zzsome7 (some ⟨W1.heap.size, 0, none⟩) b' (n + l) (n + l) l d' (ss ++ ts) ts m _ hl (by omega) HNL (by unfold maxLen; omega) HSS HST).mono ?_
    rintro e w4 ⟨rfl, hb4⟩
    have HST4 : Hid (SS w4 b' ts) := HST.out.kept hb4
    have HB4 : Hid (Below w'.heap.size w' w4) := HB3.out.trans (hb4.mono HB3.out.size)
    clear hb4 HST HB3 HSS
    rw [sl_sup, ← hl.out]
    go_wp2_with fail
    refine (zzsome7 none b' 0 0 l d' [] ts m _ hl (by omega) (by exact rfl) (by unfold maxLen; omega) (by exact SS.nil _ _) HST4).mono ?_
    rintro e w5 ⟨rfl, hb5⟩
    have HB5 : Hid (Below w'.heap.size w' w5) := HB4.out.trans (hb5.mono HB4.out.size)
    clear hb5 HST4 HB4
    rw [sl_none, ← hl.out]
    by_cases hpos : 0 < l
    all_goals cases m
    all_goals (go_wp2; go_ret; exact ⟨rfl, HB5.out⟩)
end Go.Proofs.Qxb6613533a
