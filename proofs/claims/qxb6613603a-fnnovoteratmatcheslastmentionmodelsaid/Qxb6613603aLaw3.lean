import Derived.Test.Qxb6613603aNvm
import Derived.Test.Qxb6613603aCfg
namespace Go.Proofs.Qxb6613603a
open Go.ChangeShapes Go.WideShapes Go.ChangeAt Go.RowKit Go.Maps

set_option maxRecDepth 100000 in
theorem zz5 (el : Nat → El) (n c : Nat) (N : Int) (a : Option Addr) (F : Nat → Nat → Int × Int) (w : World) (hS : Hid (SrcR w a n el F)) (hn : n ≤ 9223372036854775807) (hl : Hid (∀ i, i < n → (el i).l ≤ 9223372036854775807)) :
    Calls Try.prog 5 #[.int .i64 N, .slice a n c] w fun e w' => ZzPost el n w e w' := by
  go_enter Try.func5, Try.ntmps5
  by_cases hbig : n ≤ 1048576
  · go_wp2
    go_loopw [5, 6] (fun vz vi wr => InvZ el n w vz vi wr) (fun _ vi _ => n - (intOf vi).toNat)
    case atStart => exact ⟨n, 0, by go_num, rfl, hbig, by omega, fun i hi => by omega, rfl⟩
    case round =>
      obtain ⟨z, k, rfl, rfl, hz, hkn, HL, hwr⟩ := hrel
      obtain rfl : w = wr := hwr.symm
      by_cases hk : k < n
      · obtain ⟨⟨b, o, ha, x0, _⟩, _⟩ := hS.out k hk
        subst ha
        obtain ⟨l, hll⟩ : ∃ l, l = (el k).l := ⟨_, rfl⟩
        have hlb := hl.out k hk
        rw [← hll] at x0 hlb
        have HLL : Hid (l = (el k).l) := hll
        clear hll
        by_cases hb : l ≤ 1048576
        · by_cases hs : z + l ≤ 1048576
          · go_wp2
            go_roundw
            case rel => exact ⟨z + l, k + 1, by go_num, by go_num, hs, hk, fun i hi => by
              by_cases c : i < k
              · exact HL.out i c
              · obtain rfl : i = k := by omega
                rw [← HLL.out]; exact hb, rfl⟩
            case measure => simp [intOf]; omega
          · go_wp2
            go_ret
            exact ⟨rfl, Or.inr rfl⟩
        · go_wp2
          go_ret
          exact ⟨rfl, Or.inr rfl⟩
      · obtain rfl : k = n := by omega
        go_wp2
        go_ret
        exact ⟨rfl, Or.inl ⟨rfl, hbig, HL.out⟩⟩
  · go_wp2
    go_ret
    exact ⟨rfl, Or.inr rfl⟩

def Law3Post (w : World) (e : Ending) (w' : World) : Prop := e = .returned (.bool true) ∧ Below w.heap.size w w'
def InvA3 (el : Nat → El) (n : Nat) (w : World) (vs vi : Value) (wr : World) : Prop := ∃ (z k : Nat), vs = .int .i64 z ∧ vi = .int .i64 k ∧ k ≤ n ∧ z ≤ 4096 ∧ Hid (z = sumL el k) ∧ Hid (∀ i, i < k → (el i).l ≤ 4096) ∧ wr = w

theorem law3_end {el E1 : Nat → El} {n M : Nat} {F : Nat → Nat → Int × Int} {s1 s2 : Nat → Nat} {T1 T2 : Int} {ok1 ok2 : Bool} (h1 : ∀ i, i < n → (E1 i).l = (el i).l ∧ (E1 i).k = (el i).k)
    (w1 : Win 0 n (fun k => k) s1) (r1 : Srt (fun x => (E1 x).k) 0 n s1) (a1 : Ans n (fun i => (E1 i).k) (Vs M (fun i => (E1 i).l) F s1) s1 T1 ok1)
    (w2 : Win 0 n (fun k => k) s2) (r2 : Srt (fun x => (el x).k) 0 n s2) (a2 : Ans n (fun i => (el i).k) (Vs M (fun i => (el i).l) F s2) s2 T2 ok2) : T1 = T2 ∧ ok1 = ok2 := by
  have b1 : ∀ k, k < n → s1 k < n := fun k hk => by obtain ⟨j, _, j2, e⟩ := w1.2.1 k (Nat.zero_le _) hk; rw [e]; exact j2
  have r1' : Srt (fun x => (el x).k) 0 n s1 := fun i j p1 p2 p3 => by
    have := r1 i j p1 p2 p3
    unfold Lx at this ⊢
    dsimp only at this ⊢
    rw [(h1 _ (b1 i (by omega))).2, (h1 _ (b1 j p3)).2] at this
    exact this
  have heq := srt_unique r1' r2 (fun k hk => by
      obtain ⟨i, _, i2, e⟩ := w2.2.2 (s1 k) (Nat.zero_le _) (b1 k hk)
      exact ⟨i, i2, e⟩) (fun k hk => by
      obtain ⟨j, _, j2, e⟩ := w2.2.1 k (Nat.zero_le _) hk
      obtain ⟨i, _, i2, e'⟩ := w1.2.2 j (Nat.zero_le _) j2
      exact ⟨i, i2, e.trans e'⟩)
  have hV : ∀ k, k ≤ n → Vs M (fun i => (E1 i).l) F s1 k = Vs M (fun i => (el i).l) F s2 k := by
    intro k
    induction k with
    | zero => intro _; rfl
    | succ k ih =>
      intro hk
      show runS _ (F (s1 k)) (E1 (s1 k)).l = runS _ (F (s2 k)) (el (s2 k)).l
      rw [ih (by omega), (h1 _ (b1 k (by omega))).1, heq k (by omega)]
  have a1' : Ans n (fun i => (el i).k) (Vs M (fun i => (el i).l) F s2) s2 T1 ok1 := by
    rcases a1 with ⟨k, k1, k2, k3, k4, k5⟩ | ⟨k1, k2, k3⟩
    · exact Or.inl ⟨k, k1, by rw [← hV _ (by omega)]; exact k2, fun j hj => by rw [← hV _ (by omega)]; exact k3 j hj, by rw [k4, ← heq k k1]; exact (h1 _ (b1 k k1)).2, k5⟩
    · exact Or.inr ⟨fun k hk => by rw [← hV _ (by omega)]; exact k1 k hk, k2, k3⟩
  exact ans_unique a1' a2

set_option maxRecDepth 100000 in
set_option maxHeartbeats 3200000 in
theorem law3 (el : Nat → El) (n c : Nat) (N : Int) (a : Option Addr) (F : Nat → Nat → Int × Int) (w : World) (hS : Hid (SrcR w a n el F)) (hn : n ≤ 9223372036854775807) (hl : Hid (∀ i, i < n → (el i).l ≤ 9223372036854775807)) :
    Calls Try.prog 3 #[.int .i64 N, .slice a n c] w fun e w' => Law3Post w e w' := by
  go_enter Try.func3, Try.ntmps3
  go_wp2_with fail
  refine (zz5 el n c N a F w hS hn hl).mono ?_
  rintro e w0 ⟨hw0, hor⟩
  obtain rfl : w = w0 := hw0.symm
  rcases hor with ⟨rfl, hn1, hl1⟩ | rfl
  rotate_left
  · go_wp2
    go_ret
    exact ⟨rfl, Below.refl _ _⟩
  have HL1 : Hid (∀ i, i < n → (el i).l ≤ 1048576) := hl1
  clear hl1 hw0
  by_cases h0 : N < 0
  · go_wp2
    go_ret
    exact ⟨rfl, Below.refl _ _⟩
  by_cases h1 : 65536 < N
  · go_wp2
    go_ret
    exact ⟨rfl, Below.refl _ _⟩
  obtain ⟨M, rfl⟩ := Int.eq_ofNat_of_zero_le (show 0 ≤ N by omega)
  by_cases h2 : 4096 < n
  · go_wp2
    go_ret
    exact ⟨rfl, Below.refl _ _⟩
  have hM : M ≤ 65536 := by omega
  have hn4 : n ≤ 4096 := by omega
  go_wp2
  go_loopw [5, 6] (fun vs vi wr => InvA3 el n w vs vi wr) (fun _ vi _ => n - (intOf vi).toNat)
  case atStart => exact ⟨0, 0, rfl, rfl, by omega, by omega, rfl, fun i hi => by omega, rfl⟩
  case round =>
    obtain ⟨z, k, rfl, rfl, hkn, hs, HZ, HL, hwr⟩ := hrel
    obtain rfl : w = wr := hwr.symm
    by_cases hk : k < n
    · obtain ⟨⟨b, o, ha, x0, _⟩, _⟩ := hS.out k hk
      subst ha
      obtain ⟨l, hll⟩ : ∃ l, l = (el k).l := ⟨_, rfl⟩
      have hlb := HL1.out k hk
      rw [← hll] at x0 hlb
      have HLE : Hid (l = (el k).l) := hll
      clear hll
      by_cases hb : 4096 < z + l
      · go_wp2
        go_ret
        exact ⟨rfl, Below.refl _ _⟩
      · go_wp2
        go_roundw
        case rel =>
          exact ⟨z + l, k + 1, by go_num, by go_num, hk, by omega, by rw [HZ.out, HLE.out]; rfl, fun i hi => by
            by_cases c : i < k
            · exact HL.out i c
            · obtain rfl : i = k := by omega
              rw [← HLE.out]; omega, rfl⟩
        case measure => simp [intOf]; omega
    · obtain rfl : n = k := by omega
      clear hwr hk hkn
      have HSrc : Hid (Src w a n el F) := hS.out.src (fun i hi => by have := HL.out i hi; omega)
      have HT : Hid (sumL el n ≤ 4096) := by rw [← HZ.out]; exact hs
      clear hS hl HL1 HZ HL
      go_wp2_with fail
      refine (sim6 el n c a F w HSrc (by omega)).mono ?_
      rintro e w2 ⟨g1, E1, rfl, hg1, hg1', hr1, hs1, hb1⟩
      have HR1 : Hid (RwE E1 n g1 w2) := hr1
      have HS1 : Hid (∀ i, i < n → SgB g1 w2 (E1 i) (F i) ∧ (E1 i).l = (el i).l ∧ (E1 i).k = (el i).k) := hs1
      have HB2 : Hid (Below w.heap.size w w2) := hb1
      have hsz2 := hb1.size
      clear hr1 hs1 hb1
      go_wp2_with (first | (refine wpList_build39 rfl _ _ rfl _ _ _ _ rfl rfl ?_) | fail)
      have hbA : Below w2.heap.size w2 (w2.alloc (Obj.cells (cfg Try.prog (M : Int) (some ⟨g1, 0, none⟩) n n) 39)) := (Below.refl _ _).alloc (Nat.le_refl _) _
      refine (zz7 E1 n M g1 n w2.heap.size F _ (cfg_c0 _ _ _ _ _) (cfg_c35 _ _ _ _ _) (HR1.out.block (hbA.block g1 hg1')) (by simp; omega) (fun i hi => (HS1.out i hi).1.sg.kept hbA) hM (by omega)).mono ?_
      rintro e w4 ⟨T1, ok1, s1, rfl, hw1, hs1, ha1, hb4⟩
      have HW1 := hid_of hw1
      have HSR1 := hid_of hs1
      have HA1 := hid_of ha1
      have HL1 : Hid (∀ i, i < n → (E1 i).l = (el i).l ∧ (E1 i).k = (el i).k) := fun i hi => (HS1.out i hi).2
      have HB4 : Hid (Below w.heap.size w w4) := (HB2.out.trans (hbA.mono hsz2)).trans (hb4.mono (by simp; omega))
      have hsz4 := HB4.out.size
      clear hw1 hs1 ha1 hb4 hbA HB2 HR1 HS1 hg1 hg1' hsz2
      go_wp2_with fail
      refine (nvm8 el n c M a F w4 (HSrc.out.kept HB4.out) hn4 hM HT).mono ?_
      rintro e w5 ⟨T2, ok2, s2, rfl, hw2, hs2, ha2, hb5⟩
      obtain ⟨rfl, rfl⟩ := law3_end HL1.out HW1.out HSR1.out HA1.out hw2 hs2 ha2
      have HB5 : Hid (Below w.heap.size w w5) := HB4.out.trans (hb5.mono hsz4)
      clear hw2 hs2 ha2 hb5 HW1 HSR1 HA1 HB4 HSrc
      go_wp2
      go_ret
      exact ⟨rfl, HB5.out⟩
end Go.Proofs.Qxb6613603a
