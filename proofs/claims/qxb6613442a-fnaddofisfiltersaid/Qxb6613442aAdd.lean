import Derived.Test.Qxb6613442aParts
import Derived.Deep.RegionHeld3
import Derived.StillTactics
import Derived.Laws.Pointers
namespace Go.Proofs.Qxb6613442a
open Go.ChangeShapes Go.WideShapes Go.ChangeAt Go.RowKit Go.Maps Go.WideMaps

theorem info35 : (Try.prog.info? 35).map (fun i => (i.zero, i.size, i.bytes)) = some (some (.agg #[.string ⟨#[]⟩, .slice none 0 0, .int .i64 0, .string ⟨#[]⟩, .string ⟨#[]⟩, .slice none 0 0, .pointer none]), 7, 112) := by kernel_rfl

theorem gdrew {w w' : World} {row : Option Nat} (h : w.grownBy w' row) : w.grownBy w'.drew row := ⟨h.os, h.tape, h.output, h.size, h.block⟩
theorem gto {w w' : World} {row : Option Nat} (h : w.grownBy w' none) : w.grownBy w' row := ⟨h.os, h.tape, h.output, h.size, fun k hk _ => h.block k hk (by simp)⟩

set_option maxRecDepth 100000 in
set_option maxHeartbeats 3200000 in
theorem add_some (B F M base n : Nat) (s : ByteArray) (i : Int) (m : ByteArray) (log : List Ent) (w : World) (hF : w.cell? ⟨F, 0, none⟩ = some (.map (some M))) (hG : Hid (Grps w M base n log)) (hn : n ≤ 1000000) (hlog : log.length ≤ n)
    (hFb : F < base) (hMb : M < base) (hbase : base ≤ w.heap.size) (hs : s.size ≤ maxLen) (hBF : B ≤ F) (hBM : B ≤ M) (hFM : F ≠ M) :
    Calls Try.prog 5 #[.pointer (some ⟨F, 0, none⟩), .agg #[.string s, .slice none 0 0, .int .i64 i, .string ⟨#[]⟩, .string m, .slice none 0 0, .pointer none]] w
      fun e' w' => e' = .returned (.tuple #[]) ∧ Grps w' M base (n + 1) (log ++ [(s, i, m)]) ∧ w'.cell? ⟨F, 0, none⟩ = some (.map (some M)) ∧ Below B w w' := by
  obtain ⟨i0, hi0, hz0, hz1, hz2⟩ := info_parts info35
  have hlt : F < w.heap.size := by omega
  have hen : ∀ wx, (binOp .eql 25 (.map (some M)) (.map none)).run Try.prog wx = .ok (.bool false) wx := fun wx => run_eql_map_nil (P := Try.prog) wx 25 9 32 (some M) Try.underlying25
  go_enter Try.func5, Try.ntmps5
  go_wp2_with fail
  have HgW : Hid (w.grownBy (w.alloc (.cells #[.string s, .slice none 0 0, .int .i64 i, .string ⟨#[]⟩, .string m, .slice none 0 0, .pointer none] 35)) none) := World.grownBy_alloc _ _ _
  have HBW : Hid (Below B w (w.alloc (.cells #[.string s, .slice none 0 0, .int .i64 i, .string ⟨#[]⟩, .string m, .slice none 0 0, .pointer none] 35))) := (Below.refl _ _).alloc (by omega) _
  have hWF : (w.alloc (.cells #[.string s, .slice none 0 0, .int .i64 i, .string ⟨#[]⟩, .string m, .slice none 0 0, .pointer none] 35)).cell? ⟨F, 0, none⟩ = some (.map (some M)) := by go_simp
  have hWX : ∀ j, (w.alloc (.cells #[.string s, .slice none 0 0, .int .i64 i, .string ⟨#[]⟩, .string m, .slice none 0 0, .pointer none] 35)).cell? ⟨w.heap.size, j, none⟩ = (#[.string s, .slice none 0 0, .int .i64 i, .string ⟨#[]⟩, .string m, .slice none 0 0, .pointer none] : Array Value)[j]? := by intro j; go_simp
  have hWs : (w.alloc (.cells #[.string s, .slice none 0 0, .int .i64 i, .string ⟨#[]⟩, .string m, .slice none 0 0, .pointer none] 35)).heap.size = w.heap.size + 1 := by simp
  have c0 := hWX 0
  have c1 := hWX 1
  have c2 := hWX 2
  have c3 := hWX 3
  have c4 := hWX 4
  have c5 := hWX 5
  have c6 := hWX 6
  simp only [List.getElem?_toArray, List.getElem?_cons_zero, List.getElem?_cons_succ] at c0 c1 c2 c3 c4 c5 c6
  clear hWX
  generalize hWd : w.alloc (.cells #[.string s, .slice none 0 0, .int .i64 i, .string ⟨#[]⟩, .string m, .slice none 0 0, .pointer none] 35) = W at *
  generalize hXd : w.heap.size = X at *
  clear hWd
  have hwX : w.heap.size ≤ X := by omega
  have hWs1 : X < W.heap.size := by omega
  have hWF1 : F < W.heap.size := by omega
  have hWb1 : base ≤ W.heap.size := by omega
  clear hWs hXd hF
  have hgW : w.grownBy W none := HgW.out
  obtain ⟨v, hlook, hrow, hvM, hback⟩ := hG.out.look (by unfold maxLen; omega) (s, i, m) hs
  have HL : Hid (∀ w1, w.grownBy w1 none → (Instr.lookup 25 (.map (some M)) (.string s) false).run Try.prog w1 = .ok v w1) := hlook
  have HB : Hid (∀ w1 v', w.grownBy w1 v.ownBlock → w1.ownsRow base 35 7 v' ((grp s log).length + 1) (vcs (grp s log) ++ vc (s, i, m)) → (v'.ownBlock = v.ownBlock ∨ ∃ g, v'.ownBlock = some g ∧ w.heap.size ≤ g) →
        ∃ w2, (Instr.mapUpdate 25 (.map (some M)) (.string s) v').run Try.prog w1 = .ok () w2 ∧ Grps w2 M base (n + 1) (log ++ [(s, i, m)]) ∧ w1.grownBy w2 (some M)) := hback
  have hvX : some X ≠ v.ownBlock := fun h1 => by have := ownBlock_lt hrow h1.symm; omega
  have hvF : some F ≠ v.ownBlock := fun h1 => by have := ownBlock_lt hrow h1.symm; omega
  have hvB : ∀ j, v.ownBlock = some j → B ≤ j := fun j h1 => by have := ownBlock_lt hrow h1; omega
  have hMX : some X ≠ some M := fun h1 => by cases h1; omega
  have hMF : some F ≠ some M := fun h1 => by cases h1; omega
  have HR : Hid (W.ownsRow base 35 7 v (grp s log).length (vcs (grp s log))) := hrow.kept hgW (by cases hv : v.ownBlock <;> simp)
  have hgl := grp_len s log
  generalize (grp s log).length = gn at HB HR hgl
  generalize vcs (grp s log) = gc at HB HR
  have hl1 : (Instr.lookup 25 (.map (some M)) (.string s) false).run Try.prog W.drew = .ok v W.drew := HL.out _ (gdrew hgW)
  have hl2 : ∀ o, (Instr.lookup 25 (.map (some M)) (.string s) false).run Try.prog (W.alloc o).drew = .ok v (W.alloc o).drew := fun o => HL.out _ (gdrew (hgW.trans (World.grownBy_alloc W o none)))
  clear hlook hback hrow HL
  go_region_held3 (fun w' => w'.cell? ⟨F, 0, none⟩ = some (.map (some M)) ∧ w'.cell? ⟨X, 0, none⟩ = some (.string s) ∧ w'.cell? ⟨X, 1, none⟩ = some (.slice none 0 0) ∧ w'.cell? ⟨X, 2, none⟩ = some (.int .i64 i) ∧
      w'.cell? ⟨X, 3, none⟩ = some (.string ⟨#[]⟩) ∧ w'.cell? ⟨X, 4, none⟩ = some (.string m) ∧ w'.cell? ⟨X, 5, none⟩ = some (.slice none 0 0) ∧ w'.cell? ⟨X, 6, none⟩ = some (.pointer none))
    (first
      | go_keep
      | (go_split_ands
         refine ⟨?_, ?_, ?_, ?_, ?_, ?_, ?_, ?_⟩
         · (rw [hgrow.cell_far _ (by simp; omega) hvF]; assumption)
         · (rw [hgrow.cell_far _ (by simp; omega) hvX]; assumption)
         · (rw [hgrow.cell_far _ (by simp; omega) hvX]; assumption)
         · (rw [hgrow.cell_far _ (by simp; omega) hvX]; assumption)
         · (rw [hgrow.cell_far _ (by simp; omega) hvX]; assumption)
         · (rw [hgrow.cell_far _ (by simp; omega) hvX]; assumption)
         · (rw [hgrow.cell_far _ (by simp; omega) hvX]; assumption)
         · (rw [hgrow.cell_far _ (by simp; omega) hvX]; assumption))
      | (go_split_ands
         refine ⟨?_, ?_, ?_, ?_, ?_, ?_, ?_, ?_⟩
         · (rw [hg2.cell_far _ (by simp; omega) hMF]; assumption)
         · (rw [hg2.cell_far _ (by simp; omega) hMX]; assumption)
         · (rw [hg2.cell_far _ (by simp; omega) hMX]; assumption)
         · (rw [hg2.cell_far _ (by simp; omega) hMX]; assumption)
         · (rw [hg2.cell_far _ (by simp; omega) hMX]; assumption)
         · (rw [hg2.cell_far _ (by simp; omega) hMX]; assumption)
         · (rw [hg2.cell_far _ (by simp; omega) hMX]; assumption)
         · (rw [hg2.cell_far _ (by simp; omega) hMX]; assumption)))
    ((refine step_append_lies _ (by rfl) _ _ _ (by rfl) base 35 i0 _ 7 112 Try.underlying32 hi0 hz0 hz1 hz2 rfl (by omega) v gn gc (by rfl) ((HR.out.alloc _).drew)
        ⟨W.heap.size, 0, none⟩ 1 1 (vc (s, i, m)) (by rfl) (by rfl) (World.news_of_block (cs := #[.string s, .slice none 0 0, .int .i64 i, .string ⟨#[]⟩, .string m, .slice none 0 0, .pointer none]) (t := 35) (fr := (0, 0)) (heap_alloc_new W _)) (by simp [vc, Value.oneCell'])
        (by omega) (by unfold maxLen; omega) (by omega) (by simp; omega) (W.heap.size + 1) (by simp) ?_; intro gg cap w1 hown1 hgrow hat hlt1; have hw1 : W.heap.size < w1.heap.size := (by have := hgrow.size; simp at this; omega); obtain ⟨w2, hrun, hG2, hg2⟩ := HB.out w1 _ ((gto (gdrew (hgW.trans (World.grownBy_alloc W _ none)))).trans hgrow) hown1 (Or.elim hat (fun h => Or.inl h.symm) (fun h => Or.inr ⟨gg, rfl, by have := hgW.size; omega⟩)); have HG2 : Hid (Grps w2 M base (n + 1) (log ++ [(s, i, m)])) := hG2; clear hG2))
  all_goals
    go_wp2
    go_end0
    refine ⟨rfl, HG2.out, ?_, ?_⟩
    · rename_i hh
      exact hh.1
    · exact ((HBW.out.grown (gdrew (World.grownBy_alloc W _ none)) (by omega) (by simp)).grown hgrow (by simp; omega) hvB).grown hg2 (by omega) (fun j h => by cases h; omega)

set_option maxRecDepth 100000 in
set_option maxHeartbeats 3200000 in
theorem add_none (B F M base : Nat) (s : ByteArray) (i : Int) (m : ByteArray) (w : World) (hF : w.cell? ⟨F, 0, none⟩ = some (.map none)) (hFf : w.frozen? ⟨F, 0, none⟩ = false)
    (hFb : F < w.heap.size) (hs : s.size ≤ maxLen) (hBF : B ≤ F) (hMq : Hid (M = w.heap.size + 1)) (hbq : Hid (base = w.heap.size + 2)) :
    Calls Try.prog 5 #[.pointer (some ⟨F, 0, none⟩), .agg #[.string s, .slice none 0 0, .int .i64 i, .string ⟨#[]⟩, .string m, .slice none 0 0, .pointer none]] w
      fun e' w' => e' = .returned (.tuple #[]) ∧ Grps w' M base 1 [(s, i, m)] ∧ w'.cell? ⟨F, 0, none⟩ = some (.map (some M)) ∧ Below B w w' := by
  obtain ⟨i0, hi0, hz0, hz1, hz2⟩ := info_parts info35
  have hmm := @run_makeMap Try.prog
  have hen : ∀ wx, (binOp .eql 25 (.map none) (.map none)).run Try.prog wx = .ok (.bool true) wx := fun wx => run_eql_map_nil (P := Try.prog) wx 25 9 32 none Try.underlying25
  go_enter Try.func5, Try.ntmps5
  go_wp2_with fail
  have HBW : Hid (Below B w (((w.setCell ⟨F, 0, none⟩ (.map (some (w.heap.size + 1)))).alloc (.cells #[.string s, .slice none 0 0, .int .i64 i, .string ⟨#[]⟩, .string m, .slice none 0 0, .pointer none] 35)).alloc (.map #[] 0))) :=
    (((Below.refl _ _).setCell hBF _).alloc (by simp; omega) _).alloc (by simp; omega) _
  have hsz1 : ((w.setCell ⟨F, 0, none⟩ (.map (some (w.heap.size + 1)))).alloc (.cells #[.string s, .slice none 0 0, .int .i64 i, .string ⟨#[]⟩, .string m, .slice none 0 0, .pointer none] 35)).heap.size = w.heap.size + 1 := by simp
  have HGW : Hid (Grps (((w.setCell ⟨F, 0, none⟩ (.map (some (w.heap.size + 1)))).alloc (.cells #[.string s, .slice none 0 0, .int .i64 i, .string ⟨#[]⟩, .string m, .slice none 0 0, .pointer none] 35)).alloc (.map #[] 0)) (w.heap.size + 1) (w.heap.size + 2) 0 []) := by
    have := grps_made ((w.setCell ⟨F, 0, none⟩ (.map (some (w.heap.size + 1)))).alloc (.cells #[.string s, .slice none 0 0, .int .i64 i, .string ⟨#[]⟩, .string m, .slice none 0 0, .pointer none] 35)) (w.heap.size + 2) (by rw [hsz1]; omega)
    rw [hsz1] at this
    exact this
  have hWF : (((w.setCell ⟨F, 0, none⟩ (.map (some (w.heap.size + 1)))).alloc (.cells #[.string s, .slice none 0 0, .int .i64 i, .string ⟨#[]⟩, .string m, .slice none 0 0, .pointer none] 35)).alloc (.map #[] 0)).cell? ⟨F, 0, none⟩ = some (.map (some (w.heap.size + 1))) := by go_simp
  have hWX : ∀ j, (((w.setCell ⟨F, 0, none⟩ (.map (some (w.heap.size + 1)))).alloc (.cells #[.string s, .slice none 0 0, .int .i64 i, .string ⟨#[]⟩, .string m, .slice none 0 0, .pointer none] 35)).alloc (.map #[] 0)).cell? ⟨w.heap.size, j, none⟩ = (#[.string s, .slice none 0 0, .int .i64 i, .string ⟨#[]⟩, .string m, .slice none 0 0, .pointer none] : Array Value)[j]? := by intro j; go_simp
  have hWs : (((w.setCell ⟨F, 0, none⟩ (.map (some (w.heap.size + 1)))).alloc (.cells #[.string s, .slice none 0 0, .int .i64 i, .string ⟨#[]⟩, .string m, .slice none 0 0, .pointer none] 35)).alloc (.map #[] 0)).heap.size = w.heap.size + 2 := by simp
  have c0 := hWX 0
  have c1 := hWX 1
  have c2 := hWX 2
  have c3 := hWX 3
  have c4 := hWX 4
  have c5 := hWX 5
  have c6 := hWX 6
  simp only [List.getElem?_toArray, List.getElem?_cons_zero, List.getElem?_cons_succ] at c0 c1 c2 c3 c4 c5 c6
  clear hWX
  generalize hWd : (((w.setCell ⟨F, 0, none⟩ (.map (some (w.heap.size + 1)))).alloc (.cells #[.string s, .slice none 0 0, .int .i64 i, .string ⟨#[]⟩, .string m, .slice none 0 0, .pointer none] 35)).alloc (.map #[] 0)) = W at *
  clear hsz1 hF hFf hmm
  have hM : M = w.heap.size + 1 := hMq.out
  have hbase : base = w.heap.size + 2 := hbq.out
  rw [← hM] at hWF HGW ⊢
  rw [← hbase] at HGW hWs
  generalize hXd : w.heap.size = X at *
  have hWs1 : X < W.heap.size := by omega
  have hWF1 : F < W.heap.size := by omega
  have hWb1 : base ≤ W.heap.size := by omega
  have hbM : M < base := by omega
  have hbX : X < M := by omega
  have HgW : Hid (W.grownBy W none) := ⟨rfl, rfl, rfl, Nat.le_refl _, fun _ _ _ => rfl⟩
  clear hWd hWs hXd hM hbase hMq hbq
  have hnn : (0 : Nat) ≤ 1000000 := by omega
  obtain ⟨n, hn0⟩ : ∃ n : Nat, n = 0 := ⟨_, rfl⟩
  obtain ⟨log, hlog0⟩ : ∃ log : List Ent, log = [] := ⟨_, rfl⟩
  rw [← hn0, ← hlog0] at HGW
  have hlog : log.length ≤ n := by rw [hlog0]; simp
  have hn : n ≤ 1000000 := by omega
  have HN : Hid (n = 0) := hn0
  have HL0 : Hid (log = []) := hlog0
  clear hn0 hlog0
  have hgW : W.grownBy W none := HgW.out
  obtain ⟨v, hlook, hrow, hvM, hback⟩ := HGW.out.look (by unfold maxLen; omega) (s, i, m) hs
  have HL : Hid (∀ w1, W.grownBy w1 none → (Instr.lookup 25 (.map (some M)) (.string s) false).run Try.prog w1 = .ok v w1) := hlook
  have HB : Hid (∀ w1 v', W.grownBy w1 v.ownBlock → w1.ownsRow base 35 7 v' ((grp s log).length + 1) (vcs (grp s log) ++ vc (s, i, m)) → (v'.ownBlock = v.ownBlock ∨ ∃ g, v'.ownBlock = some g ∧ W.heap.size ≤ g) →
        ∃ w2, (Instr.mapUpdate 25 (.map (some M)) (.string s) v').run Try.prog w1 = .ok () w2 ∧ Grps w2 M base (n + 1) (log ++ [(s, i, m)]) ∧ w1.grownBy w2 (some M)) := hback
  have hvX : some X ≠ v.ownBlock := fun h1 => by have := ownBlock_lt hrow h1.symm; omega
  have hvF : some F ≠ v.ownBlock := fun h1 => by have := ownBlock_lt hrow h1.symm; omega
  have hvB : ∀ j, v.ownBlock = some j → B ≤ j := fun j h1 => by have := ownBlock_lt hrow h1; omega
  have hMX : some X ≠ some M := fun h1 => by cases h1; omega
  have hMF : some F ≠ some M := fun h1 => by cases h1; omega
  have HR : Hid (W.ownsRow base 35 7 v (grp s log).length (vcs (grp s log))) := hrow.kept hgW (by cases hv : v.ownBlock <;> simp)
  have hgl := grp_len s log
  generalize (grp s log).length = gn at HB HR hgl
  generalize vcs (grp s log) = gc at HB HR
  have hl1 : (Instr.lookup 25 (.map (some M)) (.string s) false).run Try.prog W.drew = .ok v W.drew := HL.out _ (gdrew hgW)
  have hl2 : ∀ o, (Instr.lookup 25 (.map (some M)) (.string s) false).run Try.prog (W.alloc o).drew = .ok v (W.alloc o).drew := fun o => HL.out _ (gdrew (hgW.trans (World.grownBy_alloc W o none)))
  clear hlook hback hrow HL
  go_region_held3 (fun w' => w'.cell? ⟨F, 0, none⟩ = some (.map (some M)) ∧ w'.cell? ⟨X, 0, none⟩ = some (.string s) ∧ w'.cell? ⟨X, 1, none⟩ = some (.slice none 0 0) ∧ w'.cell? ⟨X, 2, none⟩ = some (.int .i64 i) ∧
      w'.cell? ⟨X, 3, none⟩ = some (.string ⟨#[]⟩) ∧ w'.cell? ⟨X, 4, none⟩ = some (.string m) ∧ w'.cell? ⟨X, 5, none⟩ = some (.slice none 0 0) ∧ w'.cell? ⟨X, 6, none⟩ = some (.pointer none))
    (first
      | go_keep
      | (go_split_ands
         refine ⟨?_, ?_, ?_, ?_, ?_, ?_, ?_, ?_⟩
         · (rw [hgrow.cell_far _ (by simp; omega) hvF]; assumption)
         · (rw [hgrow.cell_far _ (by simp; omega) hvX]; assumption)
         · (rw [hgrow.cell_far _ (by simp; omega) hvX]; assumption)
         · (rw [hgrow.cell_far _ (by simp; omega) hvX]; assumption)
         · (rw [hgrow.cell_far _ (by simp; omega) hvX]; assumption)
         · (rw [hgrow.cell_far _ (by simp; omega) hvX]; assumption)
         · (rw [hgrow.cell_far _ (by simp; omega) hvX]; assumption)
         · (rw [hgrow.cell_far _ (by simp; omega) hvX]; assumption))
      | (go_split_ands
         refine ⟨?_, ?_, ?_, ?_, ?_, ?_, ?_, ?_⟩
         · (rw [hg2.cell_far _ (by simp; omega) hMF]; assumption)
         · (rw [hg2.cell_far _ (by simp; omega) hMX]; assumption)
         · (rw [hg2.cell_far _ (by simp; omega) hMX]; assumption)
         · (rw [hg2.cell_far _ (by simp; omega) hMX]; assumption)
         · (rw [hg2.cell_far _ (by simp; omega) hMX]; assumption)
         · (rw [hg2.cell_far _ (by simp; omega) hMX]; assumption)
         · (rw [hg2.cell_far _ (by simp; omega) hMX]; assumption)
         · (rw [hg2.cell_far _ (by simp; omega) hMX]; assumption)))
    ((refine step_append_lies _ (by rfl) _ _ _ (by rfl) base 35 i0 _ 7 112 Try.underlying32 hi0 hz0 hz1 hz2 rfl (by omega) v gn gc (by rfl) ((HR.out.alloc _).drew)
        ⟨W.heap.size, 0, none⟩ 1 1 (vc (s, i, m)) (by rfl) (by rfl) (World.news_of_block (cs := #[.string s, .slice none 0 0, .int .i64 i, .string ⟨#[]⟩, .string m, .slice none 0 0, .pointer none]) (t := 35) (fr := (0, 0)) (heap_alloc_new W _)) (by simp [vc, Value.oneCell'])
        (by omega) (by unfold maxLen; omega) (by omega) (by simp; omega) (W.heap.size + 1) (by simp) ?_; intro gg cap w1 hown1 hgrow hat hlt1; have hw1 : W.heap.size < w1.heap.size := (by have := hgrow.size; simp at this; omega); obtain ⟨w2, hrun, hG2, hg2⟩ := HB.out w1 _ ((gto (gdrew (hgW.trans (World.grownBy_alloc W _ none)))).trans hgrow) hown1 (Or.elim hat (fun h => Or.inl h.symm) (fun h => Or.inr ⟨gg, rfl, by have := hgW.size; omega⟩)); have HG2 : Hid (Grps w2 M base (n + 1) (log ++ [(s, i, m)])) := hG2; clear hG2))
  all_goals
    go_wp2
    go_end0
    refine ⟨rfl, by have := HG2.out; rw [HN.out, HL0.out] at this; exact this, ?_, ?_⟩
    · rename_i hh
      exact hh.1
    · exact ((HBW.out.grown (gdrew (World.grownBy_alloc W _ none)) (by omega) (by simp)).grown hgrow (by simp; omega) hvB).grown hg2 (by omega) (fun j h => by cases h; omega)
end Go.Proofs.Qxb6613442a
