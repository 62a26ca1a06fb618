import Derived.Test.Qxb6613533aParts
namespace Go.Proofs.Qxb6613533a
open Go.ChangeShapes Go.WideShapes Go.ChangeAt Go.RowKit

/-- It ends by returning a bool. -/
def IsB (e : Ending) : Prop := ∃ z : Bool, e = .returned (.bool z)
theorem IsB.mk (z : Bool) : IsB (.returned (.bool z)) := ⟨z, rfl⟩
/-- It ends by returning a number from 0 to 2^22; at most 2^20 only where t is so and n is at most 4096. -/
def Sum (t n : Nat) (e : Ending) : Prop := ∃ r : Nat, e = .returned (.int .i64 r) ∧ r ≤ 4194304 ∧ (r ≤ 1048576 → t ≤ 1048576 ∧ n ≤ 4096)
theorem Sum.mk {t n : Nat} (r : Nat) {x : Int} (hx : x = r) (h : r ≤ 4194304) (h2 : r ≤ 1048576 → t ≤ 1048576 ∧ n ≤ 4096) : Sum t n (.returned (.int .i64 x)) := ⟨r, by rw [hx], h, h2⟩

set_option maxRecDepth 100000 in
theorem zz5 (a b : Option Addr) (n c l d : Nat) (ss ts : List ByteArray) (m : Bool) (cut : Int) (w : World) (hn : Hid (n = ss.length)) (hl : Hid (l = ts.length)) (hnm : n ≤ maxLen) (hlm : l ≤ maxLen)
    (h0 : Hid (SS w a ss)) (h1 : Hid (SS w b ts)) (g0 : Hid (∀ k, (ss.getD k ByteArray.empty).size ≤ maxLen)) (g1 : Hid (∀ k, (ts.getD k ByteArray.empty).size ≤ maxLen)) :
    Calls Try.prog 5 #[.slice a n c, .slice b l d, .bool m, .int .i64 cut] w fun e w' => IsB e ∧ w' = w := by
  unfold maxLen at hnm hlm
  by_cases b0 : 1048576 < n
  · go_enter Try.func5, Try.ntmps5
    go_wp2
    go_ret
    exact ⟨IsB.mk _, rfl⟩
  go_enter Try.func5, Try.ntmps5
  go_wp2
  go_loop [9, 10] (fun z i => ∃ k t : Nat, k ≤ n ∧ t ≤ 1048576 ∧ i = .int .i64 k ∧ z = .int .i64 t) (fun _ i => n - (intOf i).toNat)
  case atStart => exact ⟨0, n, by omega, by omega, rfl, by go_num⟩
  case round =>
    obtain ⟨k, t, hk, ht, rfl, rfl⟩ := hrel
    by_cases hlt : k < n
    · obtain ⟨q, off, ha, hc⟩ := h0.out (by have := hn.out; omega)
      have hck := hc k (by have := hn.out; omega)
      have hsk := g0.out k
      clear hc
      subst ha
      generalize ss.getD k ByteArray.empty = s at hck hsk
      unfold maxLen at hsk
      by_cases hb1 : 1048576 < s.size
      · go_wp2
        go_ret
        exact ⟨IsB.mk _, rfl⟩
      by_cases hb2 : 1048576 < t + s.size
      · go_wp2
        go_ret
        exact ⟨IsB.mk _, rfl⟩
      go_wp2
      go_round
      case rel => exact ⟨k + 1, t + s.size, by omega, by omega, by go_num, by go_num⟩
      case measure => simp [intOf]; omega
    · by_cases b1 : 1048576 < l
      · go_wp2
        go_ret
        exact ⟨IsB.mk _, rfl⟩
      by_cases b1' : 1048576 < t + l
      · go_wp2
        go_ret
        exact ⟨IsB.mk _, rfl⟩
      go_wp2
      go_loop [9, 11] (fun z i => ∃ k t : Nat, k ≤ l ∧ t ≤ 1048576 ∧ i = .int .i64 k ∧ z = .int .i64 t) (fun _ i => l - (intOf i).toNat)
      case atStart => exact ⟨0, t + l, by omega, by omega, rfl, by go_num⟩
      case round =>
        clear b1' ht
        obtain ⟨k2, t, hk2, ht, rfl, rfl⟩ := hrel
        by_cases hlt2 : k2 < l
        · obtain ⟨q, off, ha, hc⟩ := h1.out (by have := hl.out; omega)
          have hck := hc k2 (by have := hl.out; omega)
          have hsk := g1.out k2
          clear hc
          subst ha
          generalize ts.getD k2 ByteArray.empty = s at hck hsk
          unfold maxLen at hsk
          by_cases hb1 : 1048576 < s.size
          · go_wp2
            go_ret
            exact ⟨IsB.mk _, rfl⟩
          by_cases hb2 : 1048576 < t + s.size
          · go_wp2
            go_ret
            exact ⟨IsB.mk _, rfl⟩
          go_wp2
          go_round
          case rel => exact ⟨k2 + 1, t + s.size, by omega, by omega, by go_num, by go_num⟩
          case measure => simp [intOf]; omega
        · go_wp2
          go_ret
          exact ⟨IsB.mk _, rfl⟩

set_option maxRecDepth 100000 in
theorem zz8 (a b : Option Addr) (n c l d : Nat) (ss ts : List ByteArray) (m : Bool) (w : World) (hn : Hid (n = ss.length)) (hl : Hid (l = ts.length)) (hnm : n ≤ maxLen) (hlm : l ≤ maxLen)
    (h0 : Hid (SS w a ss)) (h1 : Hid (SS w b ts)) (g0 : Hid (∀ k, (ss.getD k ByteArray.empty).size ≤ maxLen)) (g1 : Hid (∀ k, (ts.getD k ByteArray.empty).size ≤ maxLen)) :
    Calls Try.prog 8 #[.slice a n c, .slice b l d, .bool m] w fun e w' => IsB e ∧ w' = w := by
  unfold maxLen at hnm hlm
  by_cases b0 : 1048576 < n
  · go_enter Try.func8, Try.ntmps8
    go_wp2
    go_ret
    exact ⟨IsB.mk _, rfl⟩
  go_enter Try.func8, Try.ntmps8
  go_wp2
  go_loop [7, 8] (fun z i => ∃ k t : Nat, k ≤ n ∧ t ≤ 1048576 ∧ i = .int .i64 k ∧ z = .int .i64 t) (fun _ i => n - (intOf i).toNat)
  case atStart => exact ⟨0, n, by omega, by omega, rfl, by go_num⟩
  case round =>
    obtain ⟨k, t, hk, ht, rfl, rfl⟩ := hrel
    by_cases hlt : k < n
    · obtain ⟨q, off, ha, hc⟩ := h0.out (by have := hn.out; omega)
      have hck := hc k (by have := hn.out; omega)
      have hsk := g0.out k
      clear hc
      subst ha
      generalize ss.getD k ByteArray.empty = s at hck hsk
      unfold maxLen at hsk
      by_cases hb1 : 1048576 < s.size
      · go_wp2
        go_ret
        exact ⟨IsB.mk _, rfl⟩
      by_cases hb2 : 1048576 < t + s.size
      · go_wp2
        go_ret
        exact ⟨IsB.mk _, rfl⟩
      go_wp2
      go_round
      case rel => exact ⟨k + 1, t + s.size, by omega, by omega, by go_num, by go_num⟩
      case measure => simp [intOf]; omega
    · by_cases b1 : 1048576 < l
      · go_wp2
        go_ret
        exact ⟨IsB.mk _, rfl⟩
      by_cases b1' : 1048576 < t + l
      · go_wp2
        go_ret
        exact ⟨IsB.mk _, rfl⟩
      go_wp2
      go_loop [7, 9] (fun z i => ∃ k t : Nat, k ≤ l ∧ t ≤ 1048576 ∧ i = .int .i64 k ∧ z = .int .i64 t) (fun _ i => l - (intOf i).toNat)
      case atStart => exact ⟨0, t + l, by omega, by omega, rfl, by go_num⟩
      case round =>
        clear b1' ht
        obtain ⟨k2, t, hk2, ht, rfl, rfl⟩ := hrel
        by_cases hlt2 : k2 < l
        · obtain ⟨q, off, ha, hc⟩ := h1.out (by have := hl.out; omega)
          have hck := hc k2 (by have := hl.out; omega)
          have hsk := g1.out k2
          clear hc
          subst ha
          generalize ts.getD k2 ByteArray.empty = s at hck hsk
          unfold maxLen at hsk
          by_cases hb1 : 1048576 < s.size
          · go_wp2
            go_ret
            exact ⟨IsB.mk _, rfl⟩
          by_cases hb2 : 1048576 < t + s.size
          · go_wp2
            go_ret
            exact ⟨IsB.mk _, rfl⟩
          go_wp2
          go_round
          case rel => exact ⟨k2 + 1, t + s.size, by omega, by omega, by go_num, by go_num⟩
          case measure => simp [intOf]; omega
        · go_wp2
          go_ret
          exact ⟨IsB.mk _, rfl⟩


set_option maxRecDepth 100000 in
theorem add6 (t : Nat) (a : Option Addr) (n c : Nat) (ss : List ByteArray) (w : World) (ht : t ≤ 4194304) (hn : Hid (n = ss.length)) (hnm : n ≤ maxLen) (h0 : Hid (SS w a ss)) (g0 : Hid (∀ k, (ss.getD k ByteArray.empty).size ≤ maxLen)) :
    Calls Try.prog 6 #[.int .i64 t, .slice a n c] w fun e w' => Sum t n e ∧ w' = w := by
  unfold maxLen at hnm
  by_cases b0 : 1048576 < t
  · have hd : decide ((1048576 : Int) < (t : Int)) = true := decide_eq_true (by omega)
    go_enter Try.func6, Try.ntmps6
    go_wp2
    go_ret
    exact ⟨Sum.mk 1048577 rfl (by omega) (by omega), rfl⟩
  by_cases b1 : 4096 < n
  · go_enter Try.func6, Try.ntmps6
    go_wp2
    go_ret
    exact ⟨Sum.mk 1048577 rfl (by omega) (by omega), rfl⟩
  go_enter Try.func6, Try.ntmps6
  go_wp2
  go_loop [0, 5] (fun z i => ∃ k t : Nat, k ≤ n ∧ t ≤ 2097152 ∧ i = .int .i64 k ∧ z = .int .i64 t) (fun _ i => n - (intOf i).toNat)
  case atStart => exact ⟨0, t + 16 * n, by omega, by omega, rfl, by go_num⟩
  case round =>
    obtain ⟨k, t2, hk, ht2, rfl, rfl⟩ := hrel
    by_cases hlt : k < n
    · obtain ⟨q, off, ha, hc⟩ := h0.out (by have := hn.out; omega)
      have hck := hc k (by have := hn.out; omega)
      have hsk := g0.out k
      clear hc
      subst ha
      generalize ss.getD k ByteArray.empty = s at hck hsk
      unfold maxLen at hsk
      by_cases hb1 : 1048576 < t2
      · go_wp2
        go_ret
        exact ⟨Sum.mk 1048577 rfl (by omega) (by omega), rfl⟩
      by_cases hb2 : 1048576 < s.size
      · go_wp2
        go_ret
        exact ⟨Sum.mk 1048577 rfl (by omega) (by omega), rfl⟩
      go_wp2
      go_round
      case rel => exact ⟨k + 1, t2 + s.size, by omega, by omega, by go_num, by go_num⟩
      case measure => simp [intOf]; omega
    · go_wp2
      go_ret
      exact ⟨Sum.mk t2 rfl (by omega) (by omega), rfl⟩
end Go.Proofs.Qxb6613533a
