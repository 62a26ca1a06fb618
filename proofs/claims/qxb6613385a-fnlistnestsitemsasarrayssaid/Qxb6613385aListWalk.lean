import Derived.Test.Qxb6613385aRows
import Derived.WalkKit
import Derived.ProofKit
import Derived.OpenShut
import Derived.ShutString
import Derived.Deep.QuietTactic
import Derived.BigQuiet
import Derived.WalkSpells
import Derived.Laws.Pointers
import Derived.LaidEqlPtr
namespace Go.Proofs.Qxb6613385a.fnListNestsItemsAsArrays
open Go.ChangeShapes Go.WideShapes Go.ChangeAt Go.RowKit

theorem zz9 (a : ByteArray) (d : Int) (wa : a.size ≤ maxLen) (w : World) :
    Calls Try.prog 9 #[.string a, .int .i64 d] w fun e w' => (∃ z : Bool, e = .returned (.bool z)) ∧ w' = w := by
  unfold maxLen at wa
  go_enter Try.func9, Try.ntmps9
  go_wp2
  all_goals go_ret
  all_goals exact ⟨⟨_, rfl⟩, rfl⟩

def leafCells (t : ByteArray) : Array Value :=
  #[.string t, .map none, .pointer none, .slice none 0 0, .string ⟨#[]⟩, .slice none 0 0, .pointer none, .pointer none, .slice none 0 0, .nilFunc]
def listCells (p : Value) : Array Value :=
  #[.string ⟨#[97, 114, 114, 97, 121]⟩, .map none, .pointer none, .slice none 0 0, .string ⟨#[]⟩, .slice none 0 0, p, .pointer none, .slice none 0 0, .nilFunc]

/-- The chain: block B is the leaf, blocks B+1 .. B+k are arrays, each of the block before. -/
def Chain (t : ByteArray) (B k : Nat) (w : World) : Prop :=
  w.heap.size = B + k + 1 ∧ w.heap[B]? = some (.cells (leafCells t) 55 (0, 0)) ∧
  ∀ j, j < k → w.heap[B + j + 1]? = some (.cells (listCells (.pointer (some ⟨B + j, 0, none⟩))) 55 (0, 0))

theorem cell_block {w : World} {b o : Nat} {cs : Array Value} {t : TypeId} (h : w.heap[b]? = some (.cells cs t (0, 0))) : w.cell? ⟨b, o, none⟩ = cs[o]? := by
  simp [World.cell?, h]

theorem leaf10 (t : ByteArray) (w : World) :
    Calls Try.prog 10 #[.string t] w fun e w' => e = .returned (.pointer (some ⟨w.heap.size, 0, none⟩)) ∧ w' = w.alloc (.cells (leafCells t) 55) := by
  go_enter Try.func10, Try.ntmps10
  go_wp2
  go_ret
  exact ⟨rfl, rfl⟩
theorem list11 (b : Nat) (w : World) :
    Calls Try.prog 11 #[.pointer (some ⟨b, 0, none⟩)] w fun e w' => e = .returned (.pointer (some ⟨w.heap.size, 0, none⟩)) ∧ w' = w.alloc (.cells (listCells (.pointer (some ⟨b, 0, none⟩))) 55) := by
  go_enter Try.func11, Try.ntmps11
  go_wp2
  go_ret
  exact ⟨rfl, rfl⟩
theorem type12 (b : Nat) (t : ByteArray) (w : World) (h : w.cell? ⟨b, 0, none⟩ = some (.string t)) :
    Calls Try.prog 12 #[.pointer (some ⟨b, 0, none⟩)] w fun e w' => e = .returned (.string t) ∧ w' = w := by
  go_enter Try.func12, Try.ntmps12
  go_wp2
  go_ret
  exact ⟨rfl, rfl⟩
theorem items13 (b : Nat) (p : Option Addr) (w : World) (h : w.cell? ⟨b, 6, none⟩ = some (.pointer p)) :
    Calls Try.prog 13 #[.pointer (some ⟨b, 0, none⟩)] w fun e w' => e = .returned (.pointer p) ∧ w' = w := by
  go_enter Try.func13, Try.ntmps13
  go_wp2
  go_ret
  exact ⟨rfl, rfl⟩

theorem chain_leaf (t : ByteArray) (w : World) : Chain t w.heap.size 0 (w.alloc (.cells (leafCells t) 55)) :=
  ⟨by simp, (MapKept.heap_alloc w _).1, fun j hj => absurd hj (by omega)⟩
theorem chain_list {t : ByteArray} {B k : Nat} {w : World} (h : Chain t B k w) : Chain t B (k + 1) (w.alloc (.cells (listCells (.pointer (some ⟨B + k, 0, none⟩))) 55)) := by
  obtain ⟨hs, h0, hc⟩ := h
  have old : ∀ b, b < w.heap.size → (w.alloc (.cells (listCells (.pointer (some ⟨B + k, 0, none⟩))) 55)).heap[b]? = w.heap[b]? := by
    intro b hb
    show (w.heap.push _)[b]? = _
    rw [Array.getElem?_push, if_neg (by omega)]
  refine ⟨by simp [hs]; omega, by rw [old _ (by omega)]; exact h0, fun j hj => ?_⟩
  by_cases hjk : j < k
  · rw [old _ (by omega)]
    exact hc j hjk
  · obtain rfl : j = k := by omega
    have e : B + j + 1 = w.heap.size := by omega
    rw [e]
    exact (MapKept.heap_alloc w _).1

theorem info55 : (Try.prog.info? 55).map (fun i => i.size) = some 10 := by kernel_rfl

set_option maxRecDepth 100000 in
theorem walk (a0 : ByteArray) (a1 : Int) (w0 : a0.size ≤ maxLen) (w1 : (Lit.int .i64 a1).wf = true) (w : World) :
    Calls Try.prog 5 #[.string a0, .int .i64 a1] w fun e w' => e = .returned (.bool true) ∧ Grown w w' := by
  obtain ⟨i55, hj55, hz55⟩ : ∃ i, Try.prog.info? 55 = some i ∧ i.size ≠ 0 := by
    have h := info55
    cases hh : Try.prog.info? 55 with
    | none => rw [hh] at h; simp at h
    | some i => rw [hh] at h; simp at h; exact ⟨i, rfl, by omega⟩
  have HJ : Hid (Try.prog.info? 55 = some i55) := hj55
  clear hj55
  go_enter Try.func5, Try.ntmps5
  go_wp2_with fail
  refine (zz9 a0 a1 w0 _).mono ?_
  rintro e w' ⟨⟨z, rfl⟩, hw⟩
  subst hw
  unfold maxLen at w0
  cases z with
  | false =>
    go_wp2
    go_ret
    exact ⟨rfl, Grown.refl _⟩
  | true =>
  by_cases c0 : 65536 < a0.size
  · go_wp2
    go_ret
    exact ⟨rfl, Grown.refl _⟩
  by_cases c1 : a1 < 0
  · go_wp2
    go_ret
    exact ⟨rfl, Grown.refl _⟩
  by_cases c2 : 65536 < a1
  · go_wp2
    go_ret
    exact ⟨rfl, Grown.refl _⟩
  have c1' : 0 ≤ a1 := by omega
  obtain ⟨d, rfl⟩ := Int.eq_ofNat_of_zero_le c1'
  have hd : d ≤ 65536 := by omega
  clear c1 c2 c1' w1
  have HG : Hid (Grown w' w') := Grown.refl _
  go_wp2_with fail
  refine (leaf10 a0 _).mono ?_
  rintro e w1 ⟨rfl, rfl⟩
  have HC : Hid (Chain a0 w'.heap.size 0 (w'.alloc (.cells (leafCells a0) 55))) := chain_leaf a0 w'
  have HG : Hid (Grown w' (w'.alloc (.cells (leafCells a0) 55))) := (Grown.refl _).alloc _ _
  generalize hB : w'.heap.size = B at HC ⊢
  generalize w'.alloc (.cells (leafCells a0) 55) = W1 at HC HG ⊢
  clear hB
  go_wp2
  go_loopw [6, 7] (fun s i wr => ∃ k : Nat, k ≤ d ∧ i = .int .i64 k ∧ s = .pointer (some ⟨B + k, 0, none⟩) ∧ Chain a0 B k wr ∧ Grown w' wr) (fun _ i _ => d - (intOf i).toNat)
  case atStart => exact ⟨0, Nat.zero_le _, rfl, rfl, HC.out, HG.out⟩
  case round =>
    obtain ⟨k, hk, rfl, rfl, hch, hgr⟩ := hrel
    by_cases hlt : k < d
    · have HC2 : Hid (Chain a0 B k wr) := hch
      clear hch
      have HG2 : Hid (Grown w' wr) := hgr
      clear hgr
      go_wp2_with fail
      refine (list11 (B + k) _).mono ?_
      rintro e w2 ⟨rfl, rfl⟩
      have HC3 : Hid (Chain a0 B (k + 1) (wr.alloc (.cells (listCells (.pointer (some ⟨B + k, 0, none⟩))) 55))) := chain_list HC2.out
      have HG3 : Hid (Grown w' (wr.alloc (.cells (listCells (.pointer (some ⟨B + k, 0, none⟩))) 55))) := HG2.out.alloc _ _
      have HP : Hid (wr.heap.size = B + (k + 1)) := HC2.out.1
      generalize wr.alloc (.cells (listCells (.pointer (some ⟨B + k, 0, none⟩))) 55) = W2 at HC3 HG3 ⊢
      go_wp2
      go_roundw
      case rel => exact ⟨k + 1, by omega, by go_num, by rw [HP.out], HC3.out, HG3.out⟩
      case measure => simp [intOf]; omega
    · obtain rfl : k = d := by omega
      have HC2 : Hid (Chain a0 B k wr) := hch
      clear hch
      have HG2 : Hid (Grown w' wr) := hgr
      clear hgr
      go_wp2
      go_loop [6, 8] (fun s i => ∃ j m : Nat, j + m = k ∧ i = .int .i64 j ∧ s = .pointer (some ⟨B + m, 0, none⟩)) (fun _ i => k - (intOf i).toNat)
      case atStart => exact ⟨0, k, by omega, rfl, rfl⟩
      case round =>
        obtain ⟨j, m, hjm, rfl, rfl⟩ := hrel
        have HJM : Hid (j + m = k) := hjm
        have hjm2 : j + m ≤ k := by omega
        clear hjm
        by_cases hlt : j < k
        · obtain ⟨n, rfl⟩ : ∃ n, m = n + 1 := ⟨m - 1, by have := HJM.out; omega⟩
          have hb := HC2.out.2.2 n (by omega)
          have hl := HC2.out.2.1
          have hneq := run_eql_ptr_other (P := Try.prog) wr (tp := 45) (te := 55) (a := ⟨B + (n + 1), 0, none⟩) (b := ⟨B, 0, none⟩) Try.underlying45 HJ.out hz55 (by simp) hb hl
          have g0 : wr.cell? ⟨B + (n + 1), 0, none⟩ = some (.string ⟨#[97, 114, 114, 97, 121]⟩) := cell_block hb
          have g6 : wr.cell? ⟨B + (n + 1), 6, none⟩ = some (.pointer (some ⟨B + n, 0, none⟩)) := cell_block hb
          clear hb hl
          go_wp2_with (first | (go_at_call 12; refine (type12 _ _ _ g0).mono ?_; rintro e w2 ⟨rfl, rfl⟩) | (go_at_call 13; refine (items13 _ _ _ g6).mono ?_; rintro e w2 ⟨rfl, rfl⟩))
          go_round
          case rel => exact ⟨j + 1, n, by have := HJM.out; omega, by go_num, rfl⟩
          case measure => simp [intOf]; omega
        · obtain rfl : m = 0 := by omega
          have hl := HC2.out.2.1
          have heq := run_eql_ptr_same (P := Try.prog) wr (tp := 45) (te := 55) ⟨B, 0, none⟩ Try.underlying45 HJ.out
          have g0 : wr.cell? ⟨B, 0, none⟩ = some (.string a0) := cell_block hl
          have g6 : wr.cell? ⟨B, 6, none⟩ = some (.pointer none) := cell_block hl
          clear hl
          go_wp2_with (first | (go_at_call 12; refine (type12 _ _ _ g0).mono ?_; rintro e w2 ⟨rfl, rfl⟩) | (go_at_call 13; refine (items13 _ _ _ g6).mono ?_; rintro e w2 ⟨rfl, rfl⟩))
          go_ret
          exact ⟨rfl, HG2.out⟩
end Go.Proofs.Qxb6613385a.fnListNestsItemsAsArrays
