import Derived.Test.Qxb6613603aSim
namespace Go.Proofs.Qxb6613603a
open Go.ChangeShapes Go.WideShapes Go.ChangeAt Go.RowKit Go.Maps

/-- What came in, whatever its lengths. -/
def SgR (w : World) (x : El) (f : Nat → Int × Int) : Prop := (x.a = none → x.l = 0) ∧ ∀ j, j < x.l → ∃ b o, x.a = some ⟨b, o, none⟩ ∧ w.cell? ⟨b, o + j * 2, none⟩ = some (.int .i32 (f j).1) ∧ w.cell? ⟨b, o + j * 2 + 1, none⟩ = some (.int .u64 (f j).2) ∧ 0 ≤ (f j).2 ∧ (f j).2 ≤ 18446744073709551615
def SrcR (w : World) (a : Option Addr) (n : Nat) (el : Nat → El) (F : Nat → Nat → Int × Int) : Prop := ∀ i, i < n → (∃ b o, a = some ⟨b, o, none⟩ ∧ w.cell? ⟨b, o + i * 4, none⟩ = some (.slice (el i).a (el i).l (el i).c) ∧ w.cell? ⟨b, o + i * 4 + 1, none⟩ = some (.bool (el i).v) ∧
    w.cell? ⟨b, o + i * 4 + 2, none⟩ = some (.int .i32 (el i).t) ∧ w.cell? ⟨b, o + i * 4 + 3, none⟩ = some (.int .i64 (el i).k)) ∧ SgR w (el i) (F i)
theorem SrcR.src {w : World} {a : Option Addr} {n : Nat} {el : Nat → El} {F : Nat → Nat → Int × Int} (h : SrcR w a n el F) (hl : ∀ i, i < n → (el i).l ≤ 1000000) : Src w a n el F := fun i hi => ⟨(h i hi).1, hl i hi, (h i hi).2⟩
def ZzPost (el : Nat → El) (n : Nat) (w : World) (e : Ending) (w' : World) : Prop := w' = w ∧ ((e = .returned (.bool true) ∧ n ≤ 1048576 ∧ ∀ i, i < n → (el i).l ≤ 1048576) ∨ e = .returned (.bool false))
def InvZ (el : Nat → El) (n : Nat) (w : World) (vz vi : Value) (wr : World) : Prop := ∃ (z k : Nat), vz = .int .i64 z ∧ vi = .int .i64 k ∧ z ≤ 1048576 ∧ k ≤ n ∧ Hid (∀ i, i < k → (el i).l ≤ 1048576) ∧ wr = w

set_option maxRecDepth 100000 in
theorem zz9 (el : Nat → El) (n c : Nat) (N : Int) (a : Option Addr) (F : Nat → Nat → Int × Int) (w : World) (hS : Hid (SrcR w a n el F)) (hn : n ≤ 9223372036854775807) (hl : Hid (∀ i, i < n → (el i).l ≤ 9223372036854775807)) :
    Calls Try.prog 9 #[.int .i64 N, .slice a n c] w fun e w' => ZzPost el n w e w' := by
  go_enter Try.func9, Try.ntmps9
  by_cases hbig : n ≤ 1048576
  · go_wp2
    go_loopw [5, 6] (fun vz vi wr => InvZ el n w vz vi wr) (fun _ vi _ => n - (intOf vi).toNat)
    case atStart => exact ⟨n, 0, by go_num, rfl, hbig, by omega, fun i hi => by omega, rfl⟩
    case round =>
      obtain ⟨z, k, rfl, rfl, hz, hkn, HL, hwr⟩ := hrel
      obtain rfl : w = wr := hwr.symm
      by_cases hk : k < n
      · obtain ⟨⟨b, o, ha, x0, _⟩, _⟩ := hS.out k hk
        subst ha
        obtain ⟨l, hll⟩ : ∃ l, l = (el k).l := ⟨_, rfl⟩
        have hlb := hl.out k hk
        rw [← hll] at x0 hlb
        have HLL : Hid (l = (el k).l) := hll
        clear hll
        by_cases hb : l ≤ 1048576
        · by_cases hs : z + l ≤ 1048576
          · go_wp2
            go_roundw
            case rel => exact ⟨z + l, k + 1, by go_num, by go_num, hs, hk, fun i hi => by
              by_cases c : i < k
              · exact HL.out i c
              · obtain rfl : i = k := by omega
                rw [← HLL.out]; exact hb, rfl⟩
            case measure => simp [intOf]; omega
          · go_wp2
            go_ret
            exact ⟨rfl, Or.inr rfl⟩
        · go_wp2
          go_ret
          exact ⟨rfl, Or.inr rfl⟩
      · obtain rfl : k = n := by omega
        go_wp2
        go_ret
        exact ⟨rfl, Or.inl ⟨rfl, hbig, HL.out⟩⟩
  · go_wp2
    go_ret
    exact ⟨rfl, Or.inr rfl⟩
end Go.Proofs.Qxb6613603a
