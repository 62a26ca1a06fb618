import Derived.Test.Qxb6613385aImage
namespace Go.Proofs.Qxb6613385a.fnImageNameSeparatesPackageVersions
open Go.ChangeShapes Go.WideShapes Go.ChangeAt Go.RowKit

/-- zzBytes of the second law: it answers a bool. -/
theorem zz8 (a b c d : ByteArray) (wa : a.size ≤ maxLen) (wb : b.size ≤ maxLen) (wc : c.size ≤ maxLen) (wd : d.size ≤ maxLen) (w : World) :
    Calls Try.prog 8 #[.string a, .string b, .string c, .string d] w fun e w' => (∃ z : Bool, e = .returned (.bool z)) ∧ w' = w := by
  unfold maxLen at wa wb wc wd
  go_enter Try.func8, Try.ntmps8
  go_wp2
  all_goals go_ret
  all_goals exact ⟨⟨_, rfl⟩, rfl⟩

theorem img_end (n j p q : ByteArray) : imgName n j (p ++ q) = imgName n j p ++ q := by
  simp only [imgName, ByteArray.append_assoc]
theorem img_inj (n j p q : ByteArray) (h : imgName n j p = imgName n j q) : p = q := by
  unfold imgName at h
  have h2 := congrArg (fun b : ByteArray => b.data.toList) h
  simp only [ByteArray.data_append, Array.toList_append] at h2
  have h3 := List.append_cancel_left h2
  cases p; cases q
  simp_all

theorem toList_inj (a b : ByteArray) (h : a.toList = b.toList) : a = b := by
  rw [ByteArray.toList_eq, ByteArray.toList_eq] at h
  cases a; cases b
  simp_all
theorem same_iff (n j p q : ByteArray) : ((imgName n j p).toList == (imgName n j q).toList) = (p.toList == q.toList) := by
  by_cases h : p = q
  · subst h; simp
  · have h2 : ¬ imgName n j p = imgName n j q := fun e => h (img_inj _ _ _ _ e)
    rw [beq_eq_false_iff_ne.2 (fun e => h (toList_inj _ _ e)), beq_eq_false_iff_ne.2 (fun e => h2 (toList_inj _ _ e))]

theorem walk (a0 : ByteArray) (a1 : ByteArray) (a2 : ByteArray) (a3 : ByteArray) (w0 : a0.size ≤ maxLen) (w1 : a1.size ≤ maxLen) (w2 : a2.size ≤ maxLen) (w3 : a3.size ≤ maxLen) (w : World) :
    Calls Try.prog 4 #[.string a0, .string a1, .string a2, .string a3] w fun e w' => e = .returned (.bool true) ∧ Grown w w' := by
  go_enter Try.func4, Try.ntmps4
  go_wp2_with fail
  refine (zz8 a0 a1 a2 a3 w0 w1 w2 w3 _).mono ?_
  rintro e w' ⟨⟨z, rfl⟩, hw⟩
  subst hw
  unfold maxLen at w0 w1 w2 w3
  cases z with
  | false =>
    go_wp2
    go_ret
    exact ⟨rfl, Grown.refl _⟩
  | true =>
  by_cases c0 : 262144 < a0.size
  · go_wp2
    go_ret
    exact ⟨rfl, Grown.refl _⟩
  by_cases c1 : 262144 < a1.size
  · go_wp2
    go_ret
    exact ⟨rfl, Grown.refl _⟩
  by_cases c2 : 262144 < a2.size
  · go_wp2
    go_ret
    exact ⟨rfl, Grown.refl _⟩
  by_cases c3 : 262144 < a3.size
  · go_wp2
    go_ret
    exact ⟨rfl, Grown.refl _⟩
  have s0 : a0.size ≤ 1000000 := by omega
  have s1 : a1.size ≤ 1000000 := by omega
  have s2 : a2.size ≤ 1000000 := by omega
  have s3 : a3.size ≤ 1000000 := by omega
  have s23 : (a2 ++ a3).size ≤ 1000000 := by rw [ByteArray.size_append]; omega
  have sp : (imgName a0 a1 a2).size ≤ 2000000 := by rw [imgName_size]; omega
  have hq : Hid (imgName a0 a1 (a2 ++ a3) = imgName a0 a1 a2 ++ a3) := img_end _ _ _ _
  have hz := same_iff a0 a1 a2 a3
  go_wp2_with fail
  refine (img _ a0 a1 a2 s0 s1 s2 _ (by go_simp) (by go_simp) (by go_simp)).mono ?_
  rintro e w1 ⟨rfl, n1, hw1⟩
  subst hw1
  go_wp2_with fail
  refine (img _ a0 a1 a3 s0 s1 s3 _ (by go_simp) (by go_simp) (by go_simp)).mono ?_
  rintro e w1 ⟨rfl, n2, hw1⟩
  subst hw1
  go_wp2_with fail
  refine (img _ a0 a1 (a2 ++ a3) s0 s1 s23 _ (by go_simp) (by go_simp) (by go_simp)).mono ?_
  rintro e w1 ⟨rfl, n3, hw1⟩
  subst hw1
  rw [hq.out]
  go_wp2
  go_ret
  exact ⟨rfl, Grown_drewN ((((Grown.refl _).alloc _ _).alloc _ _).alloc _ _) _⟩
end Go.Proofs.Qxb6613385a.fnImageNameSeparatesPackageVersions
