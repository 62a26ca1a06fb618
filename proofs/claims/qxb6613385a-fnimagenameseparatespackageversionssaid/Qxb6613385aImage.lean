import Derived.Test.Qxb6613385aRows
import Derived.WalkKit
import Derived.ProofKit
import Derived.OpenShut
import Derived.ShutString
import Derived.Deep.QuietTactic
import Derived.BigQuiet
import Derived.WalkSpells
namespace Go.Proofs.Qxb6613385a
open Go.ChangeShapes Go.WideShapes Go.ChangeAt Go.RowKit

/-- zzBytes of the first law: it answers whether the four lengths sum to at most 2^20. -/
theorem zz6 (a b c d : ByteArray) (wa : a.size ≤ maxLen) (wb : b.size ≤ maxLen) (wc : c.size ≤ maxLen) (wd : d.size ≤ maxLen) (w : World) :
    Calls Try.prog 6 #[.string a, .string b, .string c, .string d] w fun e w' => (∃ z : Bool, e = .returned (.bool z)) ∧ w' = w := by
  unfold maxLen at wa wb wc wd
  go_enter Try.func6, Try.ntmps6
  go_wp2
  all_goals go_ret
  all_goals exact ⟨⟨_, rfl⟩, rfl⟩

theorem Grown_drewN {W w : World} (h : Grown W w) (n : Nat) : Grown W (w.drewN n) := h
theorem ret_bool {a b : Bool} (h : a = b) : Ending.returned (.bool a) = .returned (.bool b) := by rw [h]

/-- The image name. -/
def imgName (n j p : ByteArray) : ByteArray := n ++ ⟨#[45]⟩ ++ j ++ ⟨#[45, 115, 101, 101, 100, 58]⟩ ++ p
theorem imgName_size (n j p : ByteArray) : (imgName n j p).size = n.size + j.size + p.size + 7 := by
  simp only [imgName, ByteArray.size_append]
  show n.size + 1 + j.size + 6 + p.size = _
  omega
theorem imgName_cut (a n j p : ByteArray) : imgName (a ++ n) j p = a ++ imgName n j p := by
  simp only [imgName, ByteArray.append_assoc]

theorem img (bl : Nat) (n j p : ByteArray) (wn : n.size ≤ 1000000) (wj : j.size ≤ 1000000) (wp : p.size ≤ 1000000) (w : World)
    (h0 : w.cell? ⟨bl, 0, none⟩ = some (.string n)) (h1 : w.cell? ⟨bl, 1, none⟩ = some (.string j)) (h2 : w.cell? ⟨bl, 2, none⟩ = some (.string p)) :
    Calls Try.prog 7 #[.pointer (some ⟨bl, 0, none⟩)] w fun e w' => e = .returned (.string (imgName n j p)) ∧ ∃ nq, w' = w.drewN nq := by
  go_enter Try.func7, Try.ntmps7
  go_wp2
  go_quiet (fail)
  go_wp2
  go_ret
  exact ⟨rfl, nq, rfl⟩
end Go.Proofs.Qxb6613385a
