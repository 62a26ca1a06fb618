import Derived.Test.Qxb6613385aImage
namespace Go.Proofs.Qxb6613385a.fnImageNameShiftsWithName
open Go.ChangeShapes Go.WideShapes Go.ChangeAt Go.RowKit

theorem walk (a0 : ByteArray) (a1 : ByteArray) (a2 : ByteArray) (a3 : ByteArray) (w0 : a0.size ≤ maxLen) (w1 : a1.size ≤ maxLen) (w2 : a2.size ≤ maxLen) (w3 : a3.size ≤ maxLen) (w : World) :
    Calls Try.prog 3 #[.string a0, .string a1, .string a2, .string a3] w fun e w' => e = .returned (.bool true) ∧ Grown w w' := by
  go_enter Try.func3, Try.ntmps3
  go_wp2_with fail
  refine (zz6 a0 a1 a2 a3 w0 w1 w2 w3 _).mono ?_
  rintro e w' ⟨⟨z, rfl⟩, hw⟩
  subst hw
  unfold maxLen at w0 w1 w2 w3
  cases z with
  | false =>
    go_wp2
    go_ret
    exact ⟨rfl, Grown.refl _⟩
  | true =>
  by_cases c0 : 262144 < a0.size
  · go_wp2
    go_ret
    exact ⟨rfl, Grown.refl _⟩
  by_cases c1 : 262144 < a1.size
  · go_wp2
    go_ret
    exact ⟨rfl, Grown.refl _⟩
  by_cases c2 : 262144 < a2.size
  · go_wp2
    go_ret
    exact ⟨rfl, Grown.refl _⟩
  by_cases c3 : 262144 < a3.size
  · go_wp2
    go_ret
    exact ⟨rfl, Grown.refl _⟩
  have s01 : (a0 ++ a1).size ≤ 1000000 := by rw [ByteArray.size_append]; omega
  have sp : (imgName a1 a2 a3).size ≤ 1000000 := by rw [imgName_size]; omega
  have s0 : a0.size ≤ 1000000 := by omega
  have s1 : a1.size ≤ 1000000 := by omega
  have s2 : a2.size ≤ 1000000 := by omega
  have s3 : a3.size ≤ 1000000 := by omega
  have hq : Hid ((imgName (a0 ++ a1) a2 a3) = a0 ++ imgName a1 a2 a3) := imgName_cut _ _ _ _
  have hsz : Hid ((imgName (a0 ++ a1) a2 a3).size = a0.size + a1.size + a2.size + a3.size + 7) := by
    show _ = _
    rw [imgName_size, ByteArray.size_append]
  go_wp2_with fail
  refine (img _ (a0 ++ a1) a2 a3 s01 s2 s3 _ (by go_simp) (by go_simp) (by go_simp)).mono ?_
  rintro e w1 ⟨rfl, n1, hw1⟩
  subst hw1
  go_wp2_with fail
  refine (img _ a1 a2 a3 s1 s2 s3 _ (by go_simp) (by go_simp) (by go_simp)).mono ?_
  rintro e w1 ⟨rfl, n2, hw1⟩
  subst hw1
  rw [hq.out]
  go_wp2
  go_ret
  refine ⟨ret_bool ?_, Grown_drewN (((Grown.refl _).alloc _ _).alloc _ _) _⟩
  rw [beq_iff_eq]
  have := hsz.out
  have h2 := hq.out
  rw [h2, ByteArray.size_append] at this
  omega
end Go.Proofs.Qxb6613385a.fnImageNameShiftsWithName
