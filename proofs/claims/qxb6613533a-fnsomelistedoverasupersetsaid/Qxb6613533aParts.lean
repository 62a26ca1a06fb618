import Derived.Test.Qxb6613533aRows
import Derived.WalkKit
import Derived.ProofKit
import Derived.WalkSpells
import Derived.Deep.RegionHeld3
import Derived.Deep.QuietTactic
import Derived.BigQuiet
namespace Go.Proofs.Qxb6613533a
open Go.ChangeShapes Go.WideShapes Go.ChangeAt Go.RowKit

/-- A slice value that holds the strings ss. -/
def SS (w : World) (a : Option Addr) (ss : List ByteArray) : Prop :=
  0 < ss.length → ∃ b off, a = some ⟨b, off, none⟩ ∧ ∀ k, k < ss.length → w.cell? ⟨b, off + k, none⟩ = some (.string (ss.getD k ByteArray.empty))
theorem SS.kept {w w' : World} {a : Option Addr} {ss : List ByteArray} (h : SS w a ss) (hb : Below w.heap.size w w') : SS w' a ss := fun h0 => by
  obtain ⟨b, off, ha, hc⟩ := h h0
  exact ⟨b, off, ha, fun k hk => by
    have h1 := hc k hk
    have hlt := World.block_lt_of_cell? w _ h1
    rw [hb.cell (p := ⟨b, off + k, none⟩) hlt]; exact h1⟩
theorem SS.nil (w : World) (a : Option Addr) : SS w a [] := fun h => absurd h (by simp)

/-- Is x one of ss? -/
def has (ss : List ByteArray) (x : ByteArray) : Bool := ss.any fun s => x.toList == s.toList
theorem has_no {ss : List ByteArray} {x : ByteArray} (h : ∀ k, k < ss.length → (x.toList == (ss.getD k ByteArray.empty).toList) = false) : has ss x = false := by
  unfold has
  rw [List.any_eq_false]
  intro s hs
  obtain ⟨k, hk, rfl⟩ := List.getElem_of_mem hs
  have := h k hk
  simp only [List.getD, List.getElem?_eq_getElem hk, Option.getD_some] at this
  simp [this]
theorem has_yes {ss : List ByteArray} {x : ByteArray} {k : Nat} (hk : k < ss.length) (h : (x.toList == (ss.getD k ByteArray.empty).toList) = true) : has ss x = true := by
  unfold has
  rw [List.any_eq_true]
  refine ⟨ss[k], List.getElem_mem _, ?_⟩
  simpa only [List.getD, List.getElem?_eq_getElem hk, Option.getD_some] using h

/-- slices.Index over strings. -/
theorem index15 (a : Option Addr) (n c : Nat) (ss : List ByteArray) (x : ByteArray) (w : World) (hn : n = ss.length) (hm : n ≤ maxLen) (h : SS w a ss) :
    Calls Try.prog 15 #[.slice a n c, .string x] w fun e w' => (∃ r : Int, e = .returned (.int .i64 r) ∧ -1 ≤ r ∧ has ss x = decide (0 ≤ r)) ∧ w' = w := by
  have H0 : Hid (SS w a ss) := h
  have HN : Hid (n = ss.length) := hn
  clear h hn
  unfold maxLen at hm
  go_enter Try.func15, Try.ntmps15
  go_wp2
  go_loop [8] (fun i => ∃ k : Nat, k ≤ n ∧ i = .int .i64 k ∧ ∀ j, j < k → (x.toList == (ss.getD j ByteArray.empty).toList) = false) (fun i => n - (intOf i).toNat)
  case atStart => exact ⟨0, by omega, rfl, fun j hj => absurd hj (by omega)⟩
  case round =>
    obtain ⟨k, hk, rfl, hno⟩ := hrel
    have HNO : Hid (∀ j, j < k → (x.toList == (ss.getD j ByteArray.empty).toList) = false) := hno
    clear hno
    by_cases hlt : k < n
    · obtain ⟨b, off, ha, hc⟩ := H0.out (by have := HN.out; omega)
      have hck := hc k (by have := HN.out; omega)
      clear hc
      subst ha
      by_cases hq : (x.toList == (ss.getD k ByteArray.empty).toList) = true
      · have HY : Hid (has ss x = true) := has_yes (by have := HN.out; omega) hq
        generalize ss.getD k ByteArray.empty = s at hck hq
        go_wp2
        go_ret
        exact ⟨⟨k, rfl, by omega, by rw [HY.out]; simp⟩, rfl⟩
      · have hq' : (x.toList == (ss.getD k ByteArray.empty).toList) = false := by simpa using hq
        have HNO2 : Hid (∀ j, j < k + 1 → (x.toList == (ss.getD j ByteArray.empty).toList) = false) := fun j hj => by
          by_cases hj2 : j < k
          · exact HNO.out j hj2
          · obtain rfl : j = k := by omega
            exact hq'
        generalize ss.getD k ByteArray.empty = s at hck hq'
        clear hq
        go_wp2
        go_round
        case rel => exact ⟨k + 1, by omega, by go_num, HNO2.out⟩
        case measure => simp [intOf]; omega
    · have HY : Hid (has ss x = false) := has_no (fun j hj => HNO.out j (by have := HN.out; omega))
      go_wp2
      go_ret
      exact ⟨⟨-1, rfl, by omega, by rw [HY.out]; simp⟩, rfl⟩

theorem ret_bool {a b : Bool} (h : a = b) : Ending.returned (.bool a) = .returned (.bool b) := by rw [h]

/-- slices.Contains over strings. -/
theorem contains13 (a : Option Addr) (n c : Nat) (ss : List ByteArray) (x : ByteArray) (w : World) (hn : n = ss.length) (hm : n ≤ maxLen) (h : SS w a ss) :
    Calls Try.prog 13 #[.slice a n c, .string x] w fun e w' => e = .returned (.bool (has ss x)) ∧ w' = w := by
  have H0 : Hid (SS w a ss) := h
  have HN : Hid (n = ss.length) := hn
  clear h hn
  go_enter Try.func13, Try.ntmps13
  go_wp2_with fail
  refine (index15 a n c ss x _ HN.out hm H0.out).mono ?_
  rintro e w' ⟨⟨r, rfl, hr, hh⟩, hw⟩
  subst hw
  have HH : Hid (has ss x = decide (0 ≤ r)) := hh
  clear hh
  go_wp2
  go_ret
  exact ⟨ret_bool HH.out.symm, rfl⟩

/-- The closure in someListed: is the token's text among 'in', as asked? -/
theorem clos12 (X Y n c : Nat) (a : Option Addr) (ss : List ByteArray) (m : Bool) (t : ByteArray) (k p : Int) (w : World) (hn : n = ss.length) (hm : n ≤ maxLen) (h : SS w a ss)
    (hX : w.cell? ⟨X, 0, none⟩ = some (.slice a n c)) (hY : w.cell? ⟨Y, 0, none⟩ = some (.bool m)) :
    Calls Try.prog 12 #[.agg #[.int .i64 k, .string t, .int .i64 p], .pointer (some ⟨X, 0, none⟩), .pointer (some ⟨Y, 0, none⟩)] w fun e w' => e = .returned (.bool (has ss t == m)) ∧ Below w.heap.size w w' := by
  have H0 : Hid (SS w a ss) := h
  have HN : Hid (n = ss.length) := hn
  clear h hn
  have hXl : X < w.heap.size := World.block_lt_of_cell? w _ hX
  have hYl : Y < w.heap.size := World.block_lt_of_cell? w _ hY
  go_enter Try.func12, Try.ntmps12
  go_wp2_with fail
  have HSS : Hid (SS (w.alloc (.cells #[.int .i64 k, .string t, .int .i64 p] 32)) a ss) := H0.out.kept ((Below.refl _ _).alloc (Nat.le_refl _) _)
  go_region_held3 (fun w2 => w2.cell? ⟨X, 0, none⟩ = some (.slice a n c) ∧ w2.cell? ⟨Y, 0, none⟩ = some (.bool m) ∧ w2.cell? ⟨w.heap.size, 1, none⟩ = some (.string t))
    (go_keep)
    ((go_at_call 13; refine (contains13 a n c ss t _ HN.out hm (by exact HSS.out)).mono ?_; rintro e w2 ⟨rfl, hw2⟩; subst hw2))
  go_wp2
  go_ret
  exact ⟨rfl, ((Below.refl _ _).alloc (Nat.le_refl _) _).drew⟩

/-- A slice of tokens that hold the texts ts. -/
def TT (w : World) (g : Nat) (ts : List ByteArray) : Prop :=
  ∀ k, k < ts.length → w.cell? ⟨g, k * 3, none⟩ = some (.int .i64 3) ∧ w.cell? ⟨g, k * 3 + 1, none⟩ = some (.string (ts.getD k ByteArray.empty)) ∧ w.cell? ⟨g, k * 3 + 2, none⟩ = some (.int .i64 k)
theorem TT.kept {w w' : World} {g : Nat} {ts : List ByteArray} (h : TT w g ts) (hb : Below w.heap.size w w') : TT w' g ts := fun k hk => by
  obtain ⟨h0, h1, h2⟩ := h k hk
  have hlt := World.block_lt_of_cell? w _ h0
  exact ⟨by rw [hb.cell (p := ⟨g, k * 3, none⟩) hlt]; exact h0, by rw [hb.cell (p := ⟨g, k * 3 + 1, none⟩) hlt]; exact h1, by rw [hb.cell (p := ⟨g, k * 3 + 2, none⟩) hlt]; exact h2⟩

/-- Is some listed one as asked? -/
def sl (ss ts : List ByteArray) (m : Bool) : Bool := ts.any fun t => has ss t == m
theorem sl_no {ss ts : List ByteArray} {m : Bool} (h : ∀ k, k < ts.length → (has ss (ts.getD k ByteArray.empty) == m) = false) : sl ss ts m = false := by
  unfold sl
  rw [List.any_eq_false]
  intro s hs
  obtain ⟨k, hk, rfl⟩ := List.getElem_of_mem hs
  have := h k hk
  simp only [List.getD, List.getElem?_eq_getElem hk, Option.getD_some] at this
  simp [this]
theorem sl_yes {ss ts : List ByteArray} {m : Bool} {k : Nat} (hk : k < ts.length) (h : (has ss (ts.getD k ByteArray.empty) == m) = true) : sl ss ts m = true := by
  unfold sl
  rw [List.any_eq_true]
  refine ⟨ts[k], List.getElem_mem _, ?_⟩
  simpa only [List.getD, List.getElem?_eq_getElem hk, Option.getD_some] using h

set_option maxRecDepth 100000 in
/-- slices.IndexFunc over the tokens, at that closure. -/
theorem indexf14 (g l d X Y n c : Nat) (a : Option Addr) (ss ts : List ByteArray) (m : Bool) (w : World) (hl : Hid (l = ts.length)) (hlm : l ≤ 100000) (hn : Hid (n = ss.length)) (hm : n ≤ maxLen) (h : Hid (SS w a ss)) (ht : Hid (TT w g ts))
    (hX : w.cell? ⟨X, 0, none⟩ = some (.slice a n c)) (hY : w.cell? ⟨Y, 0, none⟩ = some (.bool m)) :
    Calls Try.prog 14 #[.slice (some ⟨g, 0, none⟩) l d, .func (.func 12) #[] #[.pointer (some ⟨X, 0, none⟩), .pointer (some ⟨Y, 0, none⟩)]] w
      fun e w' => (∃ r : Int, e = .returned (.int .i64 r) ∧ -1 ≤ r ∧ sl ss ts m = decide (0 ≤ r)) ∧ Below w.heap.size w w' := by
  have hXl : X < w.heap.size := World.block_lt_of_cell? w _ hX
  have hYl : Y < w.heap.size := World.block_lt_of_cell? w _ hY
  go_enter Try.func14, Try.ntmps14
  go_wp2
  go_loopw [8] (fun i wr => ∃ k : Nat, k ≤ l ∧ i = .int .i64 k ∧ (∀ j, j < k → (has ss (ts.getD j ByteArray.empty) == m) = false) ∧ Below w.heap.size w wr) (fun i _ => l - (intOf i).toNat)
  case atStart => exact ⟨0, by omega, rfl, fun j hj => absurd hj (by omega), Below.refl _ _⟩
  case round =>
    obtain ⟨k, hk, rfl, hno, hbw⟩ := hrel
    have HNO : Hid (∀ j, j < k → (has ss (ts.getD j ByteArray.empty) == m) = false) := hno
    have HBW : Hid (Below w.heap.size w wr) := hbw
    clear hno hbw
    by_cases hlt : k < l
    · obtain ⟨t0, t1, t2⟩ := ht.out.kept HBW.out k (by have := hl.out; omega)
      have gX : wr.cell? ⟨X, 0, none⟩ = some (.slice a n c) := by rw [HBW.out.cell (p := ⟨X, 0, none⟩) hXl]; exact hX
      have gY : wr.cell? ⟨Y, 0, none⟩ = some (.bool m) := by rw [HBW.out.cell (p := ⟨Y, 0, none⟩) hYl]; exact hY
      have HSR : Hid (SS wr a ss) := h.out.kept HBW.out
      obtain ⟨t, hte⟩ : ∃ t, t = ts.getD k ByteArray.empty := ⟨_, rfl⟩
      rw [← hte] at t1
      have HTE : Hid (t = ts.getD k ByteArray.empty) := hte
      clear hte
      go_wp2_with fail
      refine (clos12 X Y n c a ss m t 3 k _ hn.out hm HSR.out gX gY).mono ?_
      rintro e w2 ⟨rfl, hb2⟩
      have HB2 : Hid (Below w.heap.size w w2) := HBW.out.trans (hb2.mono HBW.out.size)
      clear hb2
      by_cases hq : (has ss t == m) = true
      · have HY : Hid (sl ss ts m = true) := sl_yes (k := k) (by have := hl.out; omega) (by rw [← HTE.out]; exact hq)
        rw [hq]
        go_wp2
        go_ret
        exact ⟨⟨k, rfl, by omega, by rw [HY.out]; simp⟩, HB2.out⟩
      · have hq' : (has ss t == m) = false := by simpa using hq
        have HNO2 : Hid (∀ j, j < k + 1 → (has ss (ts.getD j ByteArray.empty) == m) = false) := fun j hj => by
          by_cases hj2 : j < k
          · exact HNO.out j hj2
          · obtain rfl : j = k := by omega
            rw [← HTE.out]; exact hq'
        rw [hq']
        clear hq hq'
        go_wp2
        go_roundw
        case rel => exact ⟨k + 1, by omega, by go_num, HNO2.out, HB2.out⟩
        case measure => simp [intOf]; omega
    · have HY : Hid (sl ss ts m = false) := sl_no (fun j hj => HNO.out j (by have := hl.out; omega))
      go_wp2
      go_ret
      exact ⟨⟨-1, rfl, by omega, by rw [HY.out]; simp⟩, HBW.out⟩

theorem containsf11 (g l d X Y n c : Nat) (a : Option Addr) (ss ts : List ByteArray) (m : Bool) (w : World) (hl : Hid (l = ts.length)) (hlm : l ≤ 100000) (hn : Hid (n = ss.length)) (hm : n ≤ maxLen) (h : Hid (SS w a ss)) (ht : Hid (TT w g ts))
    (hX : w.cell? ⟨X, 0, none⟩ = some (.slice a n c)) (hY : w.cell? ⟨Y, 0, none⟩ = some (.bool m)) :
    Calls Try.prog 11 #[.slice (some ⟨g, 0, none⟩) l d, .func (.func 12) #[] #[.pointer (some ⟨X, 0, none⟩), .pointer (some ⟨Y, 0, none⟩)]] w
      fun e w' => e = .returned (.bool (sl ss ts m)) ∧ Below w.heap.size w w' := by
  go_enter Try.func11, Try.ntmps11
  go_wp2_with fail
  refine (indexf14 g l d X Y n c a ss ts m _ hl hlm hn hm h ht hX hY).mono ?_
  rintro e w2 ⟨⟨r, rfl, hr, hh⟩, hb⟩
  have HH : Hid (sl ss ts m = decide (0 ≤ r)) := hh
  clear hh
  go_wp2
  go_ret
  exact ⟨ret_bool HH.out.symm, hb⟩

theorem some9 (g l d n c : Nat) (a : Option Addr) (ss ts : List ByteArray) (m : Bool) (w : World) (hl : Hid (l = ts.length)) (hlm : l ≤ 100000) (hn : Hid (n = ss.length)) (hm : n ≤ maxLen) (h : Hid (SS w a ss)) (ht : Hid (TT w g ts)) :
    Calls Try.prog 9 #[.slice a n c, .slice (some ⟨g, 0, none⟩) l d, .bool m] w fun e w' => e = .returned (.bool (sl ss ts m)) ∧ Below w.heap.size w w' := by
  go_enter Try.func9, Try.ntmps9
  go_wp2_with fail
  have HB : Hid (Below w.heap.size w ((w.alloc (.cells #[.slice a n c] 22)).alloc (.cells #[.bool m] 4))) := ((Below.refl _ _).alloc (Nat.le_refl _) _).alloc (by simp) _
  refine (containsf11 g l d w.heap.size (w.heap.size + 1) n c a ss ts m _ hl hlm hn hm (by exact h.out.kept HB.out) (by exact ht.out.kept HB.out) (by go_simp) (by go_simp)).mono ?_
  rintro e w2 ⟨rfl, hb⟩
  go_wp2
  go_ret
  exact ⟨rfl, HB.out.trans (hb.mono (by simp; omega))⟩

theorem info32 : (Try.prog.info? 32).map (fun i => (i.zero, i.size, i.bytes)) = some (some (.agg #[.int .i64 0, .string ⟨#[]⟩, .int .i64 0]), 3, 32) := by kernel_rfl

/-- N cells lie in block g and may be written. -/
def There (w : World) (g N : Nat) : Prop := ∀ o, o < N → (∃ v, w.cell? ⟨g, o, none⟩ = some v) ∧ w.frozen? ⟨g, o, none⟩ = false

theorem set_cell {w : World} {g o : Nat} (h : ∃ v, w.cell? ⟨g, o, none⟩ = some v) (x : Nat) (v : Value) : (w.setCell ⟨g, o, none⟩ v).cell? ⟨g, x, none⟩ = if x = o then some v else w.cell? ⟨g, x, none⟩ := by
  obtain ⟨v0, h0⟩ := h
  by_cases hx : x = o
  · subst hx
    rw [if_pos rfl, World.cell?_setCell_same _ _ _ h0]
  · rw [if_neg hx, World.cell?_setCell_other _ _ _ _ (fun e => hx (by cases e; rfl))]
theorem There.set {w : World} {g N o : Nat} (h : There w g N) (ho : o < N) (v : Value) : There (w.setCell ⟨g, o, none⟩ v) g N := fun x hx => by
  refine ⟨?_, by rw [World.frozen?_setCell]; exact (h x hx).2⟩
  rw [set_cell (h o ho).1]
  by_cases hq : x = o
  · exact ⟨v, if_pos hq⟩
  · rw [if_neg hq]; exact (h x hx).1
theorem tt_step {wr : World} {G n k : Nat} {t : ByteArray} {ts : List ByteArray} (hT : TT wr G (ts.take k)) (hTh : There wr G (n * 3)) (hk : k < n) (hn : n = ts.length) (ht : t = ts.getD k ByteArray.empty) :
    TT (((wr.setCell ⟨G, k * 3, none⟩ (.int .i64 3)).setCell ⟨G, k * 3 + 1, none⟩ (.string t)).setCell ⟨G, k * 3 + 2, none⟩ (.int .i64 k)) G (ts.take (k + 1)) ∧
    There (((wr.setCell ⟨G, k * 3, none⟩ (.int .i64 3)).setCell ⟨G, k * 3 + 1, none⟩ (.string t)).setCell ⟨G, k * 3 + 2, none⟩ (.int .i64 k)) G (n * 3) := by
  have t1 := hTh.set (o := k * 3) (by omega) (.int .i64 3)
  have t2 := t1.set (o := k * 3 + 1) (by omega) (.string t)
  have t3 := t2.set (o := k * 3 + 2) (by omega) (.int .i64 k)
  refine ⟨fun j hj => ?_, t3⟩
  have hj' : j < k + 1 := by have := List.length_take_le (k + 1) ts; omega
  have e : ∀ x, ((((wr.setCell ⟨G, k * 3, none⟩ (.int .i64 3)).setCell ⟨G, k * 3 + 1, none⟩ (.string t)).setCell ⟨G, k * 3 + 2, none⟩ (.int .i64 k))).cell? ⟨G, x, none⟩ =
      if x = k * 3 + 2 then some (.int .i64 k) else if x = k * 3 + 1 then some (.string t) else if x = k * 3 then some (.int .i64 3) else wr.cell? ⟨G, x, none⟩ := fun x => by
    rw [set_cell (t2 _ (by omega)).1, set_cell (t1 _ (by omega)).1, set_cell (hTh _ (by omega)).1]
  by_cases hjk : j < k
  · have hl : j < (ts.take k).length := by rw [List.length_take]; omega
    obtain ⟨h0, h1, h2⟩ := hT j hl
    have eg : (ts.take (k + 1)).getD j ByteArray.empty = (ts.take k).getD j ByteArray.empty := by
      simp only [List.getD, List.getElem?_take, if_pos hjk, if_pos hj']
    rw [eg, e, e, e, if_neg (by omega), if_neg (by omega), if_neg (by omega), if_neg (by omega), if_neg (by omega), if_neg (by omega), if_neg (by omega), if_neg (by omega), if_neg (by omega)]
    exact ⟨h0, h1, h2⟩
  · obtain rfl : j = k := by omega
    have eg : (ts.take (j + 1)).getD j ByteArray.empty = ts.getD j ByteArray.empty := by
      simp only [List.getD, List.getElem?_take, if_pos hj']
    rw [eg, e, e, e, if_neg (by omega), if_neg (by omega), if_pos rfl, if_neg (by omega), if_pos rfl, if_pos rfl, ← ht]
    exact ⟨rfl, rfl, rfl⟩

set_option maxRecDepth 100000 in
theorem tok10 (a : Option Addr) (n c : Nat) (ts : List ByteArray) (w : World) (hn : Hid (n = ts.length)) (hnm : n ≤ 100000) (h : Hid (SS w a ts)) :
    Calls Try.prog 10 #[.slice a n c] w fun e w' => e = .returned (.slice (some ⟨w.heap.size, 0, none⟩) n n) ∧ TT w' w.heap.size ts ∧ Below w.heap.size w w' := by
  obtain ⟨i0, hi0, hz0, hz1, hz2⟩ := info_parts info32
  go_enter Try.func10, Try.ntmps10
  go_wp2_with (at_make; refine wpList_make_full _ rfl _ _ 27 rfl w.heap.size 32 i0 _ 3 Try.underlying27 hi0 hz0 hz1 _ _ _ _ n rfl rfl (by omega) (by omega) (by rw [hz2]; omega) (by unfold maxLen; omega) (by omega) ?_; intro w1 hown hgrow)
  have HTH : Hid (There w1 w.heap.size (n * 3)) := fun o ho => ⟨⟨_, by rw [hown.cellAt o ho, List.getElem?_eq_getElem (by rw [hown.1]; exact ho)]⟩, hown.frozenAt o⟩
  have HBW : Hid (Below w.heap.size w w1) := (Below.refl _ _).grown hgrow (Nat.le_refl _) (by simp)
  clear hown hgrow
  generalize hG : w.heap.size = G at HTH HBW ⊢
  have HG : Hid (w.heap.size = G) := hG
  clear hG
  go_loopw [4] (fun i wr => ∃ k : Nat, k ≤ n ∧ i = .int .i64 k ∧ TT wr G (ts.take k) ∧ There wr G (n * 3) ∧ Below G w wr) (fun i _ => n - (intOf i).toNat)
  case atStart => exact ⟨0, by omega, rfl, fun j hj => absurd hj (by simp), HTH.out, HBW.out⟩
  case round =>
    clear HTH HBW
    obtain ⟨k, hk, rfl, hT, hTh, hB⟩ := hrel
    have HT : Hid (TT wr G (ts.take k)) := hT
    have HTH : Hid (There wr G (n * 3)) := hTh
    have HB : Hid (Below G w wr) := hB
    clear hT hTh hB
    by_cases hlt : k < n
    · obtain ⟨b, off, ha, hc⟩ := h.out (by have := hn.out; omega)
      have hck := hc k (by have := hn.out; omega)
      have hbl : b < G := by have := World.block_lt_of_cell? w _ hck; rw [HG.out] at this; exact this
      rw [← HB.out.cell (p := ⟨b, off + k, none⟩) hbl] at hck
      clear hc
      subst ha
      obtain ⟨t, hte⟩ : ∃ t, t = ts.getD k ByteArray.empty := ⟨_, rfl⟩
      rw [← hte] at hck
      have HTE : Hid (t = ts.getD k ByteArray.empty) := hte
      clear hte
      obtain ⟨⟨v0, e0⟩, f0⟩ := HTH.out (k * 3) (by omega)
      obtain ⟨⟨v1, e1⟩, f1⟩ := HTH.out (k * 3 + 1) (by omega)
      obtain ⟨⟨v2, e2⟩, f2⟩ := HTH.out (k * 3 + 2) (by omega)
      have HS := tt_step HT.out HTH.out hlt hn.out HTE.out
      have HS1 : Hid (_ ∧ _) := HS
      clear HS
      go_wp2
      go_roundw
      case rel => exact ⟨k + 1, by omega, by go_num, HS1.out.1, HS1.out.2, ((HB.out.setCell (Nat.le_refl _) _).setCell (Nat.le_refl _) _).setCell (Nat.le_refl _) _⟩
      case measure => simp [intOf]; omega
    · have HT2 : Hid (TT wr G ts) := by
        have h1 := HT.out
        rw [List.take_of_length_le (by have := hn.out; omega)] at h1
        exact h1
      go_wp2
      go_ret
      rw [HG.out]
      exact ⟨rfl, HT2.out, HB.out⟩

/-- ZZsomeListed. -/
theorem zzsome7 (a b : Option Addr) (n c l d : Nat) (ss ts : List ByteArray) (m : Bool) (w : World) (hl : Hid (l = ts.length)) (hlm : l ≤ 100000) (hn : Hid (n = ss.length)) (hm : n ≤ maxLen) (h : Hid (SS w a ss)) (ht : Hid (SS w b ts)) :
    Calls Try.prog 7 #[.slice a n c, .slice b l d, .bool m] w fun e w' => e = .returned (.bool (sl ss ts m)) ∧ Below w.heap.size w w' := by
  go_enter Try.func7, Try.ntmps7
  go_wp2_with fail
  refine (tok10 b l d ts _ hl hlm ht).mono ?_
  rintro e w1 ⟨rfl, hT, hb1⟩
  have HT : Hid (TT w1 w.heap.size ts) := hT
  have HB1 : Hid (Below w.heap.size w w1) := hb1
  have HS : Hid (SS w1 a ss) := h.out.kept hb1
  clear hT hb1
  go_wp2_with fail
  refine (some9 w.heap.size l l n c a ss ts m _ hl hlm hn hm HS HT).mono ?_
  rintro e w2 ⟨rfl, hb2⟩
  go_wp2
  go_ret
  exact ⟨rfl, HB1.out.trans (hb2.mono HB1.out.size)⟩
end Go.Proofs.Qxb6613533a
