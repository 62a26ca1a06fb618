import Derived.Test.Qxb6613442aLogs
namespace Go.Proofs.Qxb6613442a
open Go.ChangeShapes Go.WideShapes Go.ChangeAt Go.RowKit Go.Maps Go.WideMaps

set_option maxRecDepth 100000 in
set_option maxHeartbeats 1600000 in
theorem walk (a0 a1 a2 : Option Addr) (n0 c0 n1 c1 n2 c2 : Nat) (ss0 ss2 : List ByteArray) (zs : List Int) (p : ByteArray) (w : World) (hn0 : n0 ≤ maxLen) (hn1 : n1 ≤ maxLen) (hn2 : n2 ≤ maxLen) (hp : p.size ≤ maxLen)
    (h0 : SS w a0 n0 ss0) (h1 : SI w a1 n1 zs) (h2 : SS w a2 n2 ss2) (hs0 : ∀ s ∈ ss0, s.size ≤ maxLen) (hs2 : ∀ s ∈ ss2, s.size ≤ maxLen) :
    Calls Try.prog 3 #[.slice a0 n0 c0, .slice a1 n1 c1, .slice a2 n2 c2, .string p] w fun e w' => e = .returned (.bool true) ∧ Below w.heap.size w w' := by
  have H0 : Hid (SS w a0 n0 ss0) := h0
  have H1 : Hid (SI w a1 n1 zs) := h1
  have H2 : Hid (SS w a2 n2 ss2) := h2
  have G0 : Hid (∀ k, (ss0.getD k ByteArray.empty).size ≤ maxLen) := getD_le hs0
  have G2 : Hid (∀ k, (ss2.getD k ByteArray.empty).size ≤ maxLen) := getD_le hs2
  go_enter Try.func3, Try.ntmps3
  go_wp2_with fail
  refine (zz4 a0 a1 a2 n0 c0 n1 c1 n2 c2 ss0 ss2 p _ hn0 hn1 hn2 hp h0 h2 hs0 hs2).mono ?_
  rintro e w' ⟨⟨z, rfl, hz⟩, hw⟩
  subst hw
  clear h0 h1 h2 hs0 hs2
  unfold maxLen at hn0 hn1 hn2 hp
  cases z with
  | false =>
    go_wp2
    go_ret
    exact ⟨rfl, Below.refl _ _⟩
  | true =>
  have S0 : Hid (Small n0 ss0) := (hz rfl).1
  have S2 : Hid (Small n2 ss2) := (hz rfl).2
  clear hz
  by_cases b0 : 65536 < n0
  · go_wp2
    go_ret
    exact ⟨rfl, Below.refl _ _⟩
  by_cases b1 : 65536 < n1
  · go_wp2
    go_ret
    exact ⟨rfl, Below.refl _ _⟩
  by_cases b2 : 65536 < n2
  · go_wp2
    go_ret
    exact ⟨rfl, Below.refl _ _⟩
  by_cases b3 : 1048576 < p.size
  · go_wp2
    go_ret
    exact ⟨rfl, Below.refl _ _⟩
  by_cases b4 : 1048576 < p.size + 8 * n1 + 16 * n0 + 16 * n2
  · go_wp2
    go_ret
    exact ⟨rfl, Below.refl _ _⟩
  go_wp2
  go_loop [9, 61] (fun z i => ∃ k t : Nat, k ≤ n0 ∧ t ≤ 1048576 ∧ i = .int .i64 k ∧ z = .int .i64 t) (fun _ i => n0 - (intOf i).toNat)
  case atStart => exact ⟨0, p.size + 8 * n1 + 16 * n0 + 16 * n2, by omega, by omega, rfl, by go_num⟩
  case round =>
    obtain ⟨k, t, hk, ht, rfl, rfl⟩ := hrel
    by_cases hlt : k < n0
    · obtain ⟨b, off, ha, -, hc⟩ := H0.out (by omega)
      have hck := hc k hlt
      have hsk := S0.out k hlt
      clear hc
      subst ha
      obtain ⟨s, hs⟩ : ∃ s, s = ss0.getD k ByteArray.empty := ⟨_, rfl⟩
      rw [← hs] at hck hsk
      clear hs
      by_cases hb2 : 1048576 < t + s.size
      · go_wp2
        go_ret
        exact ⟨rfl, Below.refl _ _⟩
      go_wp2
      go_round
      case rel => exact ⟨k + 1, t + s.size, by omega, by omega, by go_num, by go_num⟩
      case measure => simp [intOf]; omega
    · clear b4
      go_wp2
      go_loop [9, 74] (fun z i => ∃ k t : Nat, k ≤ n2 ∧ t ≤ 1048576 ∧ i = .int .i64 k ∧ z = .int .i64 t) (fun _ i => n2 - (intOf i).toNat)
      case atStart => exact ⟨0, t, by omega, by omega, rfl, by go_num⟩
      case round =>
        clear ht hk hlt
        obtain ⟨k, t, hk, ht, rfl, rfl⟩ := hrel
        by_cases hlt : k < n2
        · obtain ⟨b, off, ha, -, hc⟩ := H2.out (by omega)
          have hck := hc k hlt
          have hsk := S2.out k hlt
          clear hc
          subst ha
          obtain ⟨s, hs⟩ : ∃ s, s = ss2.getD k ByteArray.empty := ⟨_, rfl⟩
          rw [← hs] at hck hsk
          clear hs
          by_cases hb2 : 1048576 < t + s.size
          · go_wp2
            go_ret
            exact ⟨rfl, Below.refl _ _⟩
          go_wp2
          go_round
          case rel => exact ⟨k + 1, t + s.size, by omega, by omega, by go_num, by go_num⟩
          case measure => simp [intOf]; omega
        · clear hk ht
          by_cases e1 : n1 = n0
          · by_cases e2 : n2 = n0
            · subst e1
              subst e2
              go_wp2
              have HSt : Hid (St w'.heap.size w'.heap.size (lg ss0 zs ss2 0) 0 w' (w'.alloc (.cells #[.map none, .map none, .int .i64 0] 28))) :=
                ⟨(Below.refl _ _).alloc (Nat.le_refl _) _, by simp, Or.inl ⟨rfl, by simp, by rw [frozen?_alloc_cells]; simp [World.frozen?]⟩⟩
              generalize w'.alloc (.cells #[.map none, .map none, .int .i64 0] 28) = W1 at HSt ⊢
              generalize hB : w'.heap.size = B at HSt ⊢
              have HB : Hid (w'.heap.size = B) := hB
              clear hB
              go_loopw [99] (fun i wr => ∃ k : Nat, k ≤ n2 ∧ i = .int .i64 k ∧ St B B (lg ss0 zs ss2 k) k w' wr) (fun i _ => n2 - (intOf i).toNat)
              case atStart => exact ⟨0, by omega, rfl, HSt.out⟩
              case round =>
                clear HSt
                obtain ⟨k, hk, rfl, hst⟩ := hrel
                have HST : Hid (St B B (lg ss0 zs ss2 k) k w' wr) := hst
                clear hst
                by_cases hlt : k < n2
                · obtain ⟨q0, o0, ha0, hq0, hc0⟩ := H0.out (by omega)
                  obtain ⟨q1, o1, ha1, hq1, hc1⟩ := H1.out (by omega)
                  obtain ⟨q2, o2, ha2, hq2, hc2⟩ := H2.out (by omega)
                  have d0 := hc0 k hlt
                  have d1 := hc1 k hlt
                  have d2 := hc2 k hlt
                  clear hc0 hc1 hc2
                  rw [HB.out] at hq0 hq1 hq2
                  have hsk := G0.out k
                  rw [← HST.out.old hq0] at d0
                  rw [← HST.out.old hq1] at d1
                  rw [← HST.out.old hq2] at d2
                  have HE : Hid (lg ss0 zs ss2 (k + 1) = lg ss0 zs ss2 k ++ [(ss0.getD k ByteArray.empty, zs.getD k 0, ss2.getD k ByteArray.empty)]) := lg_succ k
                  generalize ss0.getD k ByteArray.empty = s at d0 hsk HE
                  generalize zs.getD k 0 = z at d1 HE
                  generalize ss2.getD k ByteArray.empty = m at d2 HE
                  subst ha0
                  subst ha1
                  subst ha2
                  have hk0 : (0 : Int) ≤ (k : Int) := by omega
                  have hk1 : (k : Int) < (n2 : Int) := by omega
                  go_wp2_with fail
                  go_region_held3 (fun w2 => w2.cell? ⟨q0, o0 + k, none⟩ = some (.string s) ∧ w2.cell? ⟨q1, o1 + k, none⟩ = some (.int .i64 z) ∧ w2.cell? ⟨q2, o2 + k, none⟩ = some (.string m))
                    (first
                      | go_keep
                      | (go_split_ands
                         rw [HST.out.old hq0] at d0
                         rw [HST.out.old hq1] at d1
                         rw [HST.out.old hq2] at d2
                         exact ⟨by rw [HST2.out.old hq0]; exact d0, by rw [HST2.out.old hq1]; exact d1, by rw [HST2.out.old hq2]; exact d2⟩))
                    ((go_at_call 5; refine (add_st B B _ k s z m w' _ HST.out.drew (by omega) (lg_len k) (Nat.le_refl _) hsk).mono ?_; rintro e w2 ⟨rfl, hst2⟩; have HST2 : Hid (St B B (lg ss0 zs ss2 k ++ [(s, z, m)]) (k + 1) w' w2) := hst2; clear hst2))
                  go_wp2
                  go_roundw
                  case rel => exact ⟨k + 1, by omega, by go_num, by rw [HE.out]; exact HST2.out⟩
                  case measure => simp [intOf]; omega
                · obtain rfl : k = n2 := by omega
                  obtain ⟨ao, cap, hgot, hof⟩ := of_st B B _ k p w' wr HST.out (by omega) (lg_len k) (by unfold maxLen; omega)
                  have HOF : Hid (Calls Try.prog 6 #[.pointer (some ⟨B, 0, none⟩), .string p] wr fun e w' => e = .returned (.slice ao (grp p (lg ss0 zs ss2 k)).length cap) ∧ w' = wr) := hof
                  have HGT : Hid (Got wr ao (grp p (lg ss0 zs ss2 k)).length (vcs (grp p (lg ss0 zs ss2 k)))) := hgot
                  have hgl : (grp p (lg ss0 zs ss2 k)).length ≤ 65536 := by
                    have := grp_len p (lg ss0 zs ss2 k)
                    rw [lg_len] at this
                    omega
                  clear hof hgot
                  go_wp2_with fail
                  refine HOF.out.mono ?_
                  rintro e w2 ⟨rfl, rfl⟩
                  clear HOF
                  obtain ⟨gn, hgn⟩ : ∃ gn, gn = (grp p (lg ss0 zs ss2 k)).length := ⟨_, rfl⟩
                  rw [← hgn] at HGT hgl ⊢
                  have HGN : Hid (gn = (grp p (lg ss0 zs ss2 k)).length) := hgn
                  clear hgn
                  have HBW : Hid (Below B w' w2) := HST.out.1
                  have hBs : B < w2.heap.size := HST.out.2.1
                  clear HST
                  go_wp2
                  go_loopw [17, 121] (fun ps i wr => ∃ j q : Nat, j ≤ k ∧ i = .int .i64 j ∧ ps = .int .i64 q ∧ q ≤ 65536 ∧ q = (grp p (lg ss0 zs ss2 j)).length ∧ Below w2.heap.size w2 wr) (fun _ i _ => k - (intOf i).toNat)
                  case atStart => exact ⟨0, 0, by omega, rfl, rfl, by omega, rfl, Below.refl _ _⟩
                  case round =>
                    obtain ⟨j, q, hj, rfl, rfl, hq, hqg, hbw⟩ := hrel
                    have HQ : Hid (q = (grp p (lg ss0 zs ss2 j)).length) := hqg
                    clear hqg
                    have HBR : Hid (Below w2.heap.size w2 wr) := hbw
                    clear hbw
                    by_cases hlt : j < k
                    · obtain ⟨q0, o0, ha0, hq0, hc0⟩ := H0.out (by omega)
                      obtain ⟨q1, o1, ha1, hq1, hc1⟩ := H1.out (by omega)
                      obtain ⟨q2, o2, ha2, hq2, hc2⟩ := H2.out (by omega)
                      have d0 := hc0 j hlt
                      have d1 := hc1 j hlt
                      have d2 := hc2 j hlt
                      clear hc0 hc1 hc2
                      rw [HB.out] at hq0 hq1 hq2
                      rw [← HBW.out.cell (p := ⟨q0, o0 + j, none⟩) hq0, ← HBR.out.cell (p := ⟨q0, o0 + j, none⟩) (by simp; omega)] at d0
                      rw [← HBW.out.cell (p := ⟨q1, o1 + j, none⟩) hq1, ← HBR.out.cell (p := ⟨q1, o1 + j, none⟩) (by simp; omega)] at d1
                      rw [← HBW.out.cell (p := ⟨q2, o2 + j, none⟩) hq2, ← HBR.out.cell (p := ⟨q2, o2 + j, none⟩) (by simp; omega)] at d2
                      obtain ⟨z, hz⟩ : ∃ z, zs.getD j 0 = z := ⟨_, rfl⟩
                      obtain ⟨m, hm⟩ : ∃ m, ss2.getD j ByteArray.empty = m := ⟨_, rfl⟩
                      rw [hz] at d1
                      rw [hm] at d2
                      subst ha0
                      subst ha1
                      subst ha2
                      have hk0 : (0 : Int) ≤ (j : Int) := by omega
                      have hk1 : (j : Int) < (k : Int) := by omega
                      by_cases hit : ss0.getD j ByteArray.empty = p
                      · obtain ⟨hqn, g, hao, k0, k1, k2, k3, k4, k5, k6⟩ := got_at HGT.out HGN.out HQ.out hlt hit HBR.out hz hm
                        have HQ2 : Hid (q + 1 = (grp p (lg ss0 zs ss2 (j + 1))).length) := by
                          show _ = _
                          rw [gp_hit hit, HQ.out]; simp
                        rw [hit] at d0
                        clear hit hz hm HQ
                        subst hao
                        have hq0' : (0 : Int) ≤ (q : Int) := by omega
                        have hq1' : (q : Int) < (gn : Int) := by omega
                        go_wp2_with fail
                        go_region_held3 (fun w3 => w3.cell? ⟨q0, o0 + j, none⟩ = some (.string p) ∧ w3.cell? ⟨q1, o1 + j, none⟩ = some (.int .i64 z) ∧ w3.cell? ⟨q2, o2 + j, none⟩ = some (.string m) ∧
                            w3.cell? ⟨g, q * 7, none⟩ = some (.string p) ∧ w3.cell? ⟨g, q * 7 + 1, none⟩ = some (.slice none 0 0) ∧ w3.cell? ⟨g, q * 7 + 2, none⟩ = some (.int .i64 z) ∧ w3.cell? ⟨g, q * 7 + 3, none⟩ = some (.string ⟨#[]⟩) ∧
                            w3.cell? ⟨g, q * 7 + 4, none⟩ = some (.string m) ∧ w3.cell? ⟨g, q * 7 + 5, none⟩ = some (.slice none 0 0) ∧ w3.cell? ⟨g, q * 7 + 6, none⟩ = some (.pointer none))
                          (go_keep)
                          ((go_at_call 7; refine (added7 p z m _).mono ?_; rintro e w3 ⟨rfl, o, hw3⟩; subst hw3))
                        go_wp2
                        go_roundw
                        case rel => exact ⟨j + 1, q + 1, by omega, by go_num, by go_num, by omega, HQ2.out, HBR.out.trans (((Below.refl _ _).alloc HBR.out.size _).drew)⟩
                        case measure => simp [intOf]; omega
                      · have HQ2 : Hid (q = (grp p (lg ss0 zs ss2 (j + 1))).length) := by
                          show _ = _
                          rw [gp_miss hit, HQ.out]
                        clear hz hm HQ
                        have hne : ((ss0.getD j ByteArray.empty).toList == p.toList) = false := beq_eq_false_iff_ne.2 (fun h => hit (toList_inj h))
                        clear hit
                        generalize ss0.getD j ByteArray.empty = s at d0 hne
                        go_wp2
                        go_roundw
                        case rel => exact ⟨j + 1, q, by omega, by go_num, rfl, hq, HQ2.out, HBR.out⟩
                        case measure => simp [intOf]; omega
                    · obtain rfl : j = k := by omega
                      have hqg : q = gn := HQ.out.trans HGN.out.symm
                      subst hqg
                      go_wp2
                      go_ret
                      exact ⟨rfl, by rw [HB.out]; exact HBW.out.trans (HBR.out.mono (by omega))⟩
            · have e2' : ((n2 : Int) == (n0 : Int)) = false := beq_eq_false_iff_ne.2 (by omega)
              subst e1
              go_wp2
              go_ret
              exact ⟨rfl, Below.refl _ _⟩
          · have e1' : ((n1 : Int) == (n0 : Int)) = false := beq_eq_false_iff_ne.2 (by omega)
            go_wp2
            go_ret
            exact ⟨rfl, Below.refl _ _⟩
end Go.Proofs.Qxb6613442a
