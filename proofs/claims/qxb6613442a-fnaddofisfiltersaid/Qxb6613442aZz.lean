import Derived.Test.Qxb6613442aParts
import Derived.Deep.QuietTactic
import Derived.BigQuiet
import Derived.Laws.Pointers
namespace Go.Proofs.Qxb6613442a
open Go.ChangeShapes Go.WideShapes Go.ChangeAt Go.RowKit Go.Maps Go.WideMaps

/-- A slice of strings as the walks see it: where it is not empty its cells lie in old memory and hold ss. -/
def SS (w : World) (a : Option Addr) (n : Nat) (ss : List ByteArray) : Prop :=
  0 < n → ∃ b off, a = some ⟨b, off, none⟩ ∧ b < w.heap.size ∧ ∀ k, k < n → w.cell? ⟨b, off + k, none⟩ = some (.string (ss.getD k ByteArray.empty))
/-- A slice of ints. -/
def SI (w : World) (a : Option Addr) (n : Nat) (zs : List Int) : Prop :=
  0 < n → ∃ b off, a = some ⟨b, off, none⟩ ∧ b < w.heap.size ∧ ∀ k, k < n → w.cell? ⟨b, off + k, none⟩ = some (.int .i64 (zs.getD k 0))

/-- The first n strings have at most 2^20 bytes each. -/
def Small (n : Nat) (ss : List ByteArray) : Prop := ∀ k, k < n → (ss.getD k ByteArray.empty).size ≤ 1048576
theorem Small.zero (ss : List ByteArray) : Small 0 ss := fun k h => absurd h (by omega)
theorem Small.succ {n : Nat} {ss : List ByteArray} {s : ByteArray} (h : Small n ss) (hs : s = ss.getD n ByteArray.empty) (hb : s.size ≤ 1048576) : Small (n + 1) ss := fun k hk => by
  by_cases hk2 : k < n
  · exact h k hk2
  · obtain rfl : k = n := by omega
    rw [← hs]; exact hb
/-- It ends by returning a bool; true only where P. -/
def IsB (P : Prop) (e : Ending) : Prop := ∃ z : Bool, e = .returned (.bool z) ∧ (z = true → P)
theorem IsB.no {P : Prop} : IsB P (.returned (.bool false)) := ⟨false, rfl, by simp⟩
theorem IsB.yes {P : Prop} (h : P) : IsB P (.returned (.bool true)) := ⟨true, rfl, fun _ => h⟩

theorem getD_le {ss : List ByteArray} (h : ∀ s ∈ ss, s.size ≤ maxLen) (k : Nat) : (ss.getD k ByteArray.empty).size ≤ maxLen := by
  by_cases hk : k < ss.length
  · have e : ss.getD k ByteArray.empty = ss[k] := by simp [List.getD, hk]
    rw [e]; exact h _ (List.getElem_mem _)
  · have e : ss.getD k ByteArray.empty = ByteArray.empty := by simp [List.getD, List.getElem?_eq_none (by omega : ss.length ≤ k)]
    rw [e]; exact Nat.zero_le _

set_option maxRecDepth 100000 in
theorem zz4 (a0 a1 a2 : Option Addr) (n0 c0 n1 c1 n2 c2 : Nat) (ss0 ss2 : List ByteArray) (p : ByteArray) (w : World) (hn0 : n0 ≤ maxLen) (hn1 : n1 ≤ maxLen) (hn2 : n2 ≤ maxLen) (hp : p.size ≤ maxLen)
    (h0 : SS w a0 n0 ss0) (h2 : SS w a2 n2 ss2) (hs0 : ∀ s ∈ ss0, s.size ≤ maxLen) (hs2 : ∀ s ∈ ss2, s.size ≤ maxLen) :
    Calls Try.prog 4 #[.slice a0 n0 c0, .slice a1 n1 c1, .slice a2 n2 c2, .string p] w fun e w' => IsB (Small n0 ss0 ∧ Small n2 ss2) e ∧ w' = w := by
  have hg0 := getD_le hs0
  have hg2 := getD_le hs2
  have H0 : Hid (SS w a0 n0 ss0) := h0
  have H2 : Hid (SS w a2 n2 ss2) := h2
  have G0 : Hid (∀ k, (ss0.getD k ByteArray.empty).size ≤ maxLen) := hg0
  have G2 : Hid (∀ k, (ss2.getD k ByteArray.empty).size ≤ maxLen) := hg2
  clear h0 h2 hg0 hg2 hs0 hs2
  unfold maxLen at hn0 hn1 hn2 hp
  by_cases b0 : 1048576 < n0
  · go_enter Try.func4, Try.ntmps4
    go_wp2
    go_ret
    exact ⟨IsB.no, rfl⟩
  go_enter Try.func4, Try.ntmps4
  go_wp2
  go_loop [9, 10] (fun z i => ∃ k t : Nat, k ≤ n0 ∧ t ≤ 1048576 ∧ i = .int .i64 k ∧ z = .int .i64 t ∧ Small k ss0) (fun _ i => n0 - (intOf i).toNat)
  case atStart => exact ⟨0, n0, by omega, by omega, rfl, by go_num, Small.zero _⟩
  case round =>
    obtain ⟨k, t, hk, ht, rfl, rfl, hsm0⟩ := hrel
    by_cases hlt : k < n0
    · obtain ⟨b, off, ha, -, hc⟩ := H0.out (by omega)
      have hck := hc k hlt
      have hsk := G0.out k
      clear hc
      subst ha
      obtain ⟨s, hs⟩ : ∃ s, s = ss0.getD k ByteArray.empty := ⟨_, rfl⟩
      rw [← hs] at hck hsk
      have HS : Hid (s = ss0.getD k ByteArray.empty) := hs
      clear hs
      unfold maxLen at hsk
      by_cases hb1 : 1048576 < s.size
      · go_wp2
        go_ret
        exact ⟨IsB.no, rfl⟩
      by_cases hb2 : 1048576 < t + s.size
      · go_wp2
        go_ret
        exact ⟨IsB.no, rfl⟩
      go_wp2
      go_round
      case rel => exact ⟨k + 1, t + s.size, by omega, by omega, by go_num, by go_num, hsm0.succ HS.out (by omega)⟩
      case measure => simp [intOf]; omega
    · by_cases b1 : 1048576 < n1
      · go_wp2
        go_ret
        exact ⟨IsB.no, rfl⟩
      by_cases b1' : 1048576 < t + n1
      · go_wp2
        go_ret
        exact ⟨IsB.no, rfl⟩
      by_cases b2 : 1048576 < n2
      · go_wp2
        go_ret
        exact ⟨IsB.no, rfl⟩
      by_cases b2' : 1048576 < t + n1 + n2
      · go_wp2
        go_ret
        exact ⟨IsB.no, rfl⟩
      go_wp2
      go_loop [9, 11] (fun z i => ∃ k t : Nat, k ≤ n2 ∧ t ≤ 1048576 ∧ i = .int .i64 k ∧ z = .int .i64 t ∧ Small k ss2) (fun _ i => n2 - (intOf i).toNat)
      case atStart => exact ⟨0, t + n1 + n2, by omega, by omega, rfl, by go_num, Small.zero _⟩
      case round =>
        clear b2' b1' ht
        obtain ⟨k2, t, hk2, ht, rfl, rfl, hsm2⟩ := hrel
        by_cases hlt : k2 < n2
        · obtain ⟨b, off, ha, -, hc⟩ := H2.out (by omega)
          have hck := hc k2 hlt
          have hsk := G2.out k2
          clear hc
          subst ha
          obtain ⟨s, hs⟩ : ∃ s, s = ss2.getD k2 ByteArray.empty := ⟨_, rfl⟩
          rw [← hs] at hck hsk
          have HS : Hid (s = ss2.getD k2 ByteArray.empty) := hs
          clear hs
          unfold maxLen at hsk
          by_cases hb1 : 1048576 < s.size
          · go_wp2
            go_ret
            exact ⟨IsB.no, rfl⟩
          by_cases hb2 : 1048576 < t + s.size
          · go_wp2
            go_ret
            exact ⟨IsB.no, rfl⟩
          go_wp2
          go_round
          case rel => exact ⟨k2 + 1, t + s.size, by omega, by omega, by go_num, by go_num, hsm2.succ HS.out (by omega)⟩
          case measure => simp [intOf]; omega
        · by_cases hb1 : 1048576 < p.size
          · go_wp2
            go_ret
            exact ⟨IsB.no, rfl⟩
          by_cases hb2 : 1048576 < t + p.size
          · go_wp2
            go_ret
            exact ⟨IsB.no, rfl⟩
          go_wp2
          go_ret
          obtain rfl : k = n0 := by omega
          obtain rfl : k2 = n2 := by omega
          exact ⟨IsB.yes ⟨hsm0, hsm2⟩, rfl⟩

/-- 'of' and 'ZZof': where nothing was added, nil. -/
theorem of_none (F : Nat) (p : ByteArray) (w : World) (hF : w.cell? ⟨F, 0, none⟩ = some (.map none)) (hp : p.size ≤ maxLen) :
    Calls Try.prog 6 #[.pointer (some ⟨F, 0, none⟩), .string p] w fun e w' => e = .returned nilS ∧ w' = w := by
  have hl : ∀ wx, (Instr.lookup 25 (.map none) (.string p) false).run Try.prog wx = .ok nilS wx := fun wx => Maps.look_nil false law Try.underlying25 (zero32 wx) (keyOf_string_mk Try.underlying9 hp)
  go_enter Try.func6, Try.ntmps6
  go_wp2
  go_ret
  exact ⟨rfl, rfl⟩
theorem of_some (F M : Nat) (p : ByteArray) (v : Value) (w : World) (hF : w.cell? ⟨F, 0, none⟩ = some (.map (some M))) (hl : (Instr.lookup 25 (.map (some M)) (.string p) false).run Try.prog w = .ok v w) :
    Calls Try.prog 6 #[.pointer (some ⟨F, 0, none⟩), .string p] w fun e w' => e = .returned v ∧ w' = w := by
  go_enter Try.func6, Try.ntmps6
  go_wp2
  go_ret
  exact ⟨rfl, rfl⟩

/-- zzIsAdded of a violation as it was handed: true. -/
theorem added7 (s : ByteArray) (i : Int) (m : ByteArray) (w : World) :
    Calls Try.prog 7 #[.agg #[.string s, .slice none 0 0, .int .i64 i, .string ⟨#[]⟩, .string m, .slice none 0 0, .pointer none], .string s, .int .i64 i, .string m] w
      fun e w' => e = .returned (.bool true) ∧ ∃ o, w' = w.alloc o := by
  have h1 : ∀ wx, (binOp .eql 30 (.slice none 0 0) (.slice none 0 0)).run Try.prog wx = .ok (.bool true) wx := fun wx => by simpa using Lib.run_eql_slice_nil (P := Try.prog) wx 30 _ none 0 0 0 0 Try.underlying30
  have h2 : ∀ wx, (binOp .eql 32 (.slice none 0 0) (.slice none 0 0)).run Try.prog wx = .ok (.bool true) wx := fun wx => by simpa using Lib.run_eql_slice_nil (P := Try.prog) wx 32 _ none 0 0 0 0 Try.underlying32
  go_enter Try.func7, Try.ntmps7
  go_wp2
  go_ret
  exact ⟨rfl, _, rfl⟩
end Go.Proofs.Qxb6613442a
