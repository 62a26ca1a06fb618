import Derived.Test.Qxb6613603aMap
namespace Go.Proofs.Qxb6613603a
open Go.ChangeShapes Go.WideShapes Go.ChangeAt Go.RowKit Go.Maps

theorem cell_new4 (w : World) (a b c d : Value) (t : TypeId) : (w.alloc (Obj.cells #[a, b, c, d] t)).cell? ⟨w.heap.size, 3, none⟩ = some d := by
  simp only [World.cell?, World.alloc, Array.getElem?_push_size]
  rfl
def NvaPost (el : Nat → El) (n N : Nat) (sg : Nat → Nat → Int × Int) (w : World) (e : Ending) (w' : World) : Prop :=
  ∃ (T : Int) (ok : Bool) (s : Nat → Nat), e = .returned (.tuple #[.int .i64 T, .bool ok]) ∧ Win 0 n (fun k => k) s ∧ Srt (fun x => (el x).k) 0 n s ∧ Ans n (fun i => (el i).k) (Vs N (fun i => (el i).l) sg s) s T ok ∧ Below w.heap.size w w'
def InvV (M N : Nat) (w : World) (v : Value) (wr : World) : Prop := ∃ k : Nat, v = .int .u64 k ∧ k ≤ N ∧ Hid (MapV wr M k (base k)) ∧ Hid (Below M w wr)

def InvW (el : Nat → El) (n : Nat) (s : Nat → Nat) (g M N : Nat) (sg : Nat → Nat → Int × Int) (w : World) (v : Value) (wr : World) : Prop := ∃ k cp : Nat, v = .int .i64 k ∧ k ≤ n ∧ cp ≤ 65536 + k * 1000000 ∧
  Hid (St el n s g M cp (Vs N (fun i => (el i).l) sg s k) w wr) ∧ Hid (∀ j, j < k → ¬ Emp (Vs N (fun i => (el i).l) sg s (j + 1)))
def InvX (el : Nat → El) (n : Nat) (s : Nat → Nat) (g M cap l p : Nat) (xk : Int) (V : Int → Bool) (f : Nat → Int × Int) (w : World) (v : Value) (wx : World) : Prop := ∃ j cp : Nat, v = .int .i64 j ∧ j ≤ l ∧ cp ≤ cap + j ∧
  Hid (St el n s g M cp (runS V f j) w wx) ∧ Hid (wx.cell? ⟨p, 3, none⟩ = some (.int .i64 xk)) ∧ Hid (p ≠ M)

set_option maxRecDepth 100000 in
set_option maxHeartbeats 3200000 in
theorem nva10 (el : Nat → El) (n N gs c cb : Nat) (sg : Nat → Nat → Int × Int) (w : World) (c0 : w.cell? ⟨cb, 0, none⟩ = some (.int .i64 N)) (c35 : w.cell? ⟨cb, 35, none⟩ = some (.slice (some ⟨gs, 0, none⟩) n c))
    (hR : Hid (RwE el n gs w)) (hgs : gs < w.heap.size) (hS : Hid (∀ i, i < n → Sg w (el i) (sg i))) (hN : N ≤ 65536) (hn : n ≤ 10000) :
    Calls Try.prog 10 #[.pointer (some ⟨cb, 0, none⟩)] w fun e w' => NvaPost el n N sg w e w' := by
  have hmm := @run_makeMap Try.prog
  have hcb := cell_lt c0
  go_enter Try.func10, Try.ntmps10
  go_wp2
  go_loopw [17] (fun v wr => InvV w.heap.size N w v wr) (fun v _ => N - (intOf v).toNat)
  case atStart => exact ⟨0, rfl, by omega, ⟨_, World.ownsMap_made _ _ _ _, by rw [base_zero]; exact vmap_made⟩, (Below.refl _ _).alloc (Nat.le_refl _) _⟩
  case round =>
    obtain ⟨k, rfl, hk, HM, HB⟩ := hrel
    by_cases hlt : k < N
    · obtain ⟨D, hown, hv⟩ := HM.out
      have hkey : keyOf Try.prog 30 (.int .u64 ((k : Int) + 1)) = some (.int .u64 ((k : Int) + 1)) := keyOf_int_mk Try.underlying30 (WalkArith.wf_u64 (by omega))
      have HV : Hid (VMap (base k) D) := hv
      clear hv
      go_wp2_with (first | (at_mapUpdate; refine wpList_mapUpdate_own _ rfl _ _ _ 57 rfl 30 4 law Try.underlying57 _ w.heap.size k D rfl hown (by unfold maxLen; omega) _ _ _ rfl rfl hkey _ [] (plainElem_bool Try.underlying4 true) ?_; intro w1 hown1 hgrow1) | go_in)
      have HM1 : Hid (MapV w1 w.heap.size (k + 1) (base (k + 1))) := ⟨_, hown1, by rw [base_succ]; exact HV.out.put _ _⟩
      have HB1 : Hid (Below w.heap.size w w1) := HB.out.grown hgrow1 HB.out.size (fun j e => by cases e; exact Nat.le_refl _)
      clear hown1 hgrow1 hown HV HM HB hkey
      go_wp2
      go_roundw
      case rel => exact ⟨k + 1, by go_num, hlt, HM1, HB1⟩
      case measure => simp [intOf]; omega
    · obtain rfl : N = k := by omega
      have d0 : wr.cell? ⟨cb, 35, none⟩ = some (.slice (some ⟨gs, 0, none⟩) n c) := by rw [HB.out.cell (p := ⟨cb, 35, none⟩) hcb]; exact c35
      go_wp2_with fail
      have hRk : Hid (RwE el n gs wr) := RwE.block hR.out (HB.out.block gs hgs)
      refine (clone12 el gs n c wr hRk (by omega)).mono ?_
      rintro e w1 ⟨g, cap, rfl, hg1, hg2, hr1, hb1⟩
      have hMl := HM.out.lt
      have HR1 : Hid (Rw el n (fun k => k) g w1) := hr1
      have HM1 : Hid (MapV w1 w.heap.size N (base N)) := HM.out.block (hb1.block _ hMl)
      have HB1 : Hid (Below w.heap.size w w1) := HB.out.trans (hb1.mono (Nat.le_of_lt hMl))
      clear hr1 hb1 HM HB hRk d0
      go_wp2_with fail
      refine (sort13 el n cap g w1 HR1 hg2 (by omega)).mono ?_
      rintro e w2 ⟨rfl, s, hr2, hw2, hs2, hb2⟩
      have HW : Hid (Win 0 n (fun k => k) s) := hw2
      have HS : Hid (Srt (fun x => (el x).k) 0 n s) := hs2
      have HT : Hid (St el n s g w.heap.size N (Vs N (fun i => (el i).l) sg s 0) w w2) :=
        ⟨hr2, HM1.out.block (hb2.block _ (by omega)), HB1.out.trans (hb2.mono (by omega)), by omega, by have := hb2.size; omega⟩
      clear hr2 hw2 hs2 hb2 HR1 HM1 HB1
      go_wp2
      go_loopw [33] (fun v wr => InvW el n s g w.heap.size N sg w v wr) (fun v _ => n - (intOf v).toNat)
      case atStart => exact ⟨0, N, rfl, by omega, by omega, HT, fun j hj => by omega⟩
      case round =>
        clear HT
        obtain ⟨q, cp, rfl, hqn, hcp, HT, HE⟩ := hrel
        by_cases hq : q < n
        · obtain ⟨x, hx⟩ : ∃ x, x = el (s q) := ⟨_, rfl⟩
          obtain ⟨x0, x1, x2, x3⟩ := HT.out.row.1 q hq
          have hsq : s q < n := by
            obtain ⟨j, _, j2, e⟩ := HW.out.2.1 q (Nat.zero_le _) hq
            rw [e]; exact j2
          have HG : Hid (Sg w x (sg (s q))) := by rw [hx]; exact hS.out _ hsq
          dsimp only at x0 x1 x2 x3
          rw [← hx] at x0 x1 x2 x3
          have HX : Hid (x = el (s q)) := hx
          clear hx
          obtain ⟨xa, xl, xc, xv, xt, xk⟩ := x
          dsimp only at x0 x1 x2 x3
          have hqq : (q : Int) < (n : Int) := by omega
          have HP3 : Hid ((wr.alloc (Obj.cells #[.slice xa xl xc, .bool xv, .int .i32 xt, .int .i64 xk] 51)).cell? ⟨wr.heap.size, 3, none⟩ = some (.int .i64 xk)) := cell_new4 _ _ _ _ _ _
          have HPM : Hid (wr.heap.size ≠ w.heap.size) := by
            have h1 := HT.out.hM
            have h2 := HT.out.hg
            show wr.heap.size ≠ w.heap.size
            omega
          have HT0 := hid_of (HT.out.alloc (Obj.cells #[.slice xa xl xc, .bool xv, .int .i32 xt, .int .i64 xk] 51))
          clear HT
          go_wp2
          clear x0 x1 x2 x3
          go_loopw [40] (fun v wx => InvX el n s g w.heap.size cp xl wr.heap.size xk (Vs N (fun i => (el i).l) sg s q) (sg (s q)) w v wx) (fun v _ => xl - (intOf v).toNat)
          case atStart => exact ⟨0, cp, rfl, by omega, by omega, HT0, HP3, HPM⟩
          case round =>
            clear HT0 HP3 HPM
            obtain ⟨j, cj, rfl, hjl, hcj, HT1, HP1, HPM1⟩ := hrel
            have hxl : xl ≤ 1000000 := HG.out.1
            by_cases hj : j < xl
            · obtain ⟨b, ha, y0, y1, y2, y3⟩ := (HG.out.kept HT1.out.below).2 j hj
              dsimp only at ha
              subst ha
              obtain ⟨D, hown, hv⟩ := HT1.out.map
              obtain ⟨t, ht⟩ : ∃ t, t = (sg (s q) j).1 := ⟨_, rfl⟩
              obtain ⟨id, hid⟩ : ∃ id, id = (sg (s q) j).2 := ⟨_, rfl⟩
              rw [← ht] at y0
              rw [← hid] at y1 y2 y3
              have HV : Hid (VMap (runS (Vs N (fun i => (el i).l) sg s q) (sg (s q)) j) D) := hv
              have HST : Hid (runS (Vs N (fun i => (el i).l) sg s q) (sg (s q)) (j + 1) = upd (runS (Vs N (fun i => (el i).l) sg s q) (sg (s q)) j) t id) := by
                show upd _ _ _ = _
                rw [ht, hid]
              clear hv ht hid
              have hkey : keyOf Try.prog 30 (.int .u64 id) = some (.int .u64 id) := keyOf_int_mk Try.underlying30 (WalkArith.wf_u64 ⟨y2, y3⟩)
              have hjj : (j : Int) < (xl : Int) := by omega
              have HA := hid_of (HT1.out.alloc (Obj.cells #[.int .i32 t, .int .u64 id] 46))
              have HPA : Hid ((wr.alloc (Obj.cells #[.int .i32 t, .int .u64 id] 46)).cell? ⟨_, 3, none⟩ = some (.int .i64 xk)) := Lib.cell?_alloc_some _ HP1.out
              have hown1 := hown.alloc (Obj.cells #[.int .i32 t, .int .u64 id] 46)
              clear hown
              by_cases h0 : t = 0
              · subst h0
                go_wp2_with (first | (at_mapUpdate; refine wpList_mapUpdate_own _ rfl _ _ _ 57 rfl 30 4 law Try.underlying57 _ w.heap.size cj D rfl hown1 (by unfold maxLen; omega) _ _ _ rfl rfl hkey _ [] (plainElem_bool Try.underlying4 true) ?_; intro w3 hown3 hgrow3) | go_in)
                have HT3 : Hid (St el n s g w.heap.size (cj + 1) (runS (Vs N (fun i => (el i).l) sg s q) (sg (s q)) (j + 1)) w w3) := HA.out.turn hgrow3 ⟨_, hown3, by rw [HST.out]; exact HV.out.put _ _⟩
                have HP3 : Hid (w3.cell? ⟨_, 3, none⟩ = some (.int .i64 xk)) := hgrow3.cell HPA.out (fun e => HPM1.out (Option.some.inj e))
                clear hown3 hgrow3 hown1 hkey HV HST HA HPA HT1 HP1 y0 y1 y2 y3
                go_wp2
                go_roundw
                case rel => exact ⟨j + 1, cj + 1, by go_num, by omega, by omega, HT3, HP3, HPM1⟩
                case measure => simp [intOf]; omega
              · have hb0 : (t == 0) = false := beq_eq_false_iff_ne.2 h0
                go_wp2_with (first | (at_delete; refine wpList_delete_own _ rfl _ _ 57 30 rfl 4 law Try.underlying57 _ w.heap.size cj D rfl hown1 _ _ rfl hkey ?_; intro w3 hown3 hturn3) | go_in)
                have HT3 : Hid (St el n s g w.heap.size cj (runS (Vs N (fun i => (el i).l) sg s q) (sg (s q)) (j + 1)) w w3) := HA.out.turn hturn3.grown ⟨_, hown3, by rw [HST.out]; exact HV.out.del h0 _⟩
                have HP3 : Hid (w3.cell? ⟨_, 3, none⟩ = some (.int .i64 xk)) := hturn3.grown.cell HPA.out (fun e => HPM1.out (Option.some.inj e))
                clear hown3 hturn3 hown1 hkey HV HST HA HPA HT1 HP1 y0 y1 y2 y3
                go_wp2
                go_roundw
                case rel => exact ⟨j + 1, cj, by go_num, by omega, by omega, HT3, HP3, HPM1⟩
                case measure => simp [intOf]; omega
            · obtain rfl : j = xl := by omega
              obtain ⟨D, hown, hv⟩ := HT1.out.map
              have HVE : Hid (Vs N (fun i => (el i).l) sg s (q + 1) = runS (Vs N (fun i => (el i).l) sg s q) (sg (s q)) j) := by
                show runS _ _ (el (s q)).l = _
                rw [← HX.out]
              have p3 := HP1.out
              by_cases hE : Emp (Vs N (fun i => (el i).l) sg s (q + 1))
              · have hz : ((Maps.size D : Int) == 0) = true := by
                  have := hv.emp.2 (by rw [← HVE.out]; exact hE)
                  rw [this]; rfl
                have HEE : Hid (Emp (Vs N (fun i => (el i).l) sg s (q + 1))) := hE
                clear hE hv
                go_wp2_with (first | (at_len; refine wpList_len_own _ rfl _ 57 rfl 30 4 Try.underlying57 _ w.heap.size cj D rfl hown ?_) | go_in)
                go_ret2
                refine ⟨xk, true, s, rfl, HW.out, HS.out, Or.inl ⟨q, hq, HEE.out, HE.out, ?_, rfl⟩, HT1.out.below⟩
                show xk = (el (s q)).k
                rw [← HX.out]
              · have hz : ((Maps.size D : Int) == 0) = false := beq_eq_false_iff_ne.2 fun e => hE (by rw [HVE.out]; exact hv.emp.1 (by omega))
                have HEE : Hid (∀ i, i < q + 1 → ¬ Emp (Vs N (fun i => (el i).l) sg s (i + 1))) := fun i hi => by
                  by_cases c : i < q
                  · exact HE.out i c
                  · obtain rfl : i = q := by omega
                    exact hE
                have HT3 : Hid (St el n s g w.heap.size cj (Vs N (fun i => (el i).l) sg s (q + 1)) w wr) := by rw [HVE.out]; exact HT1
                clear hE hv
                go_wp2_with (first | (at_len; refine wpList_len_own _ rfl _ 57 rfl 30 4 Try.underlying57 _ w.heap.size cj D rfl hown ?_) | go_in)
                go_roundw
                case rel => exact ⟨q + 1, cj, by go_num, by omega, by omega, HT3, HEE⟩
                case measure => simp [intOf]; omega
        · obtain rfl : q = n := by omega
          go_wp2
          go_ret2
          exact ⟨0, false, s, rfl, HW.out, HS.out, Or.inr ⟨HE.out, rfl, rfl⟩, HT.out.below⟩

theorem zz7 (el : Nat → El) (n N gs c cb : Nat) (sg : Nat → Nat → Int × Int) (w : World) (c0 : w.cell? ⟨cb, 0, none⟩ = some (.int .i64 N)) (c35 : w.cell? ⟨cb, 35, none⟩ = some (.slice (some ⟨gs, 0, none⟩) n c))
    (hR : Hid (RwE el n gs w)) (hgs : gs < w.heap.size) (hS : Hid (∀ i, i < n → Sg w (el i) (sg i))) (hN : N ≤ 65536) (hn : n ≤ 10000) :
    Calls Try.prog 7 #[.pointer (some ⟨cb, 0, none⟩)] w fun e w' => NvaPost el n N sg w e w' := by
  have F := hid_of (nva10 el n N gs c cb sg w c0 c35 hR hgs hS hN hn)
  clear c0 c35 hR hS
  go_enter Try.func7, Try.ntmps7
  go_wp2_with fail
  refine F.out.mono ?_
  rintro e w' ⟨T, ok, s, rfl, h1, h2, h3, h4⟩
  have H1 := hid_of h1
  have H2 := hid_of h2
  have H3 := hid_of h3
  have H4 := hid_of h4
  clear h1 h2 h3 h4 F
  go_wp2
  go_ret2
  exact ⟨T, ok, s, rfl, H1.out, H2.out, H3.out, H4.out⟩
end Go.Proofs.Qxb6613603a
