import Derived.Test.Qxb6613603aOrd
namespace Go.Proofs.Qxb6613603a
open Go.ChangeShapes Go.WideShapes Go.ChangeAt Go.RowKit Go.Maps

theorem info30 : (Try.prog.info? 30).map (fun i => (i.zero, i.size, i.bytes)) = some (some (.int .u64 0), 1, 8) := by kernel_rfl
theorem info4 : (Try.prog.info? 4).map (fun i => (i.zero, i.size, i.bytes)) = some (some (.bool false), 1, 1) := by kernel_rfl

/-- All singles, in the order s, end to end. -/
def flat (L : Nat → Nat) (F : Nat → Nat → Int × Int) (s : Nat → Nat) : Nat → Nat → Int × Int
  | 0 => fun _ => (0, 0)
  | k + 1 => fun p => if p < off L s k then flat L F s k p else F (s k) (p - off L s k)
theorem flat_at {L : Nat → Nat} {F : Nat → Nat → Int × Int} {s : Nat → Nat} : ∀ {n k j : Nat}, k < n → j < L (s k) → flat L F s n (off L s k + j) = F (s k) j
  | n + 1, k, j, hk, hj => by
    show (if off L s k + j < off L s n then flat L F s n (off L s k + j) else F (s n) (off L s k + j - off L s n)) = _
    by_cases c : k = n
    · subst c
      rw [if_neg (by omega), Nat.add_sub_cancel_left]
    · have h1 := off_le (L := L) (s := s) (show k + 1 ≤ n by omega)
      have h2 : off L s (k + 1) = off L s k + L (s k) := rfl
      rw [if_pos (by omega)]
      exact flat_at (by omega) hj

/-- The four rows of the model: the order, the ids, whether each adds, the ends. -/
structure Fl (n T go gi ga ge : Nat) (s : Nat → Nat) (hi : Nat → Int) (ha : Nat → Bool) (he : Nat → Int) (B : Nat) (w wr : World) : Prop where
  ro : RwV (fun k => .int .i64 (s k)) n go wr
  ri : RwV (fun p => .int .u64 (hi p)) T gi wr
  ra : RwV (fun p => .bool (ha p)) T ga wr
  re : RwV (fun k => .int .i64 (he k)) n ge wr
  below : Below B w wr
  o0 : B ≤ go
  o1 : go < gi
  o2 : gi < ga
  o3 : ga < ge
  o4 : ge < wr.heap.size
theorem RwV.other {h : Nat → Value} {n g g' o : Nat} {w : World} (H : RwV h n g w) (hne : g ≠ g') (v : Value) : RwV h n g (w.setCell ⟨g', o, none⟩ v) := H.block (Below.heap_setCell _ _ _ _ hne)
theorem Fl.setI {n T go gi ga ge : Nat} {s : Nat → Nat} {hi : Nat → Int} {ha : Nat → Bool} {he : Nat → Int} {B : Nat} {w wr : World} (h : Fl n T go gi ga ge s hi ha he B w wr) {p : Nat} (hp : p < T) (v : Int) : Fl n T go gi ga ge s (fun k => if k = p then v else hi k) ha he B w (wr.setCell ⟨gi, p, none⟩ (.int .u64 v)) := by
  have := h.o0; have := h.o1; have := h.o2; have := h.o3; have := h.o4
  refine ⟨h.ro.other (by omega) _, RwV.congr (h.ri.put hp (.int .u64 v)) fun k _ => ?_, h.ra.other (by omega) _, h.re.other (by omega) _, h.below.setCell (by show B ≤ gi; omega) _, h.o0, h.o1, h.o2, h.o3, by simp; exact h.o4⟩
  by_cases c : k = p
  · rw [if_pos c, if_pos c]
  · rw [if_neg c, if_neg c]
theorem Fl.setA {n T go gi ga ge : Nat} {s : Nat → Nat} {hi : Nat → Int} {ha : Nat → Bool} {he : Nat → Int} {B : Nat} {w wr : World} (h : Fl n T go gi ga ge s hi ha he B w wr) {p : Nat} (hp : p < T) (v : Bool) : Fl n T go gi ga ge s hi (fun k => if k = p then v else ha k) he B w (wr.setCell ⟨ga, p, none⟩ (.bool v)) := by
  have := h.o0; have := h.o1; have := h.o2; have := h.o3; have := h.o4
  refine ⟨h.ro.other (by omega) _, h.ri.other (by omega) _, RwV.congr (h.ra.put hp (.bool v)) fun k _ => ?_, h.re.other (by omega) _, h.below.setCell (by show B ≤ ga; omega) _, h.o0, h.o1, h.o2, h.o3, by simp; exact h.o4⟩
  by_cases c : k = p
  · rw [if_pos c, if_pos c]
  · rw [if_neg c, if_neg c]
theorem Fl.setE {n T go gi ga ge : Nat} {s : Nat → Nat} {hi : Nat → Int} {ha : Nat → Bool} {he : Nat → Int} {B : Nat} {w wr : World} (h : Fl n T go gi ga ge s hi ha he B w wr) {p : Nat} (hp : p < n) (v : Int) : Fl n T go gi ga ge s hi ha (fun k => if k = p then v else he k) B w (wr.setCell ⟨ge, p, none⟩ (.int .i64 v)) := by
  have := h.o0; have := h.o1; have := h.o2; have := h.o3; have := h.o4
  refine ⟨h.ro.other (by omega) _, h.ri.other (by omega) _, h.ra.other (by omega) _, RwV.congr (h.re.put hp (.int .i64 v)) fun k _ => ?_, h.below.setCell (by show B ≤ ge; omega) _, h.o0, h.o1, h.o2, h.o3, by simp; exact h.o4⟩
  by_cases c : k = p
  · rw [if_pos c, if_pos c]
  · rw [if_neg c, if_neg c]
theorem Fl.kept {n T go gi ga ge : Nat} {s : Nat → Nat} {hi : Nat → Int} {ha : Nat → Bool} {he : Nat → Int} {B : Nat} {w wr wx : World} (h : Fl n T go gi ga ge s hi ha he B w wr) (hb : Below wr.heap.size wr wx) : Fl n T go gi ga ge s hi ha he B w wx := by
  have := h.o0; have := h.o1; have := h.o2; have := h.o3; have := h.o4
  exact ⟨h.ro.block (hb.block _ (by omega)), h.ri.block (hb.block _ (by omega)), h.ra.block (hb.block _ (by omega)), h.re.block (hb.block _ (by omega)), h.below.trans (hb.mono (by omega)), h.o0, h.o1, h.o2, h.o3, Nat.lt_of_lt_of_le h.o4 hb.size⟩

/-- .. and the two that are filled next. -/
structure Fl2 (n T go gi ga ge gn gf : Nat) (s : Nat → Nat) (Q : Nat → Int × Int) (hn : Nat → Nat) (hf : Nat → Bool) (he : Nat → Int) (B : Nat) (w wr : World) : Prop where
  fl : Fl n T go gi ga ge s (fun p => (Q p).2) (fun p => (Q p).1 == 0) he B w wr
  rn : RwV (fun k => .int .i64 (hn k)) T gn wr
  rf : RwV (fun k => .bool (hf k)) T gf wr
  o5 : ge < gn
  o6 : gn < gf
  o7 : gf < wr.heap.size
theorem Fl2.setN {n T go gi ga ge gn gf : Nat} {s : Nat → Nat} {Q : Nat → Int × Int} {hn : Nat → Nat} {hf : Nat → Bool} {he : Nat → Int} {B : Nat} {w wr : World} (h : Fl2 n T go gi ga ge gn gf s Q hn hf he B w wr) {p : Nat} (hp : p < T) (v : Nat) : Fl2 n T go gi ga ge gn gf s Q (fun k => if k = p then v else hn k) hf he B w (wr.setCell ⟨gn, p, none⟩ (.int .i64 v)) := by
  have := h.fl.o0; have := h.fl.o1; have := h.fl.o2; have := h.fl.o3; have := h.fl.o4; have := h.o5; have := h.o6; have := h.o7
  refine ⟨⟨h.fl.ro.other (by omega) _, h.fl.ri.other (by omega) _, h.fl.ra.other (by omega) _, h.fl.re.other (by omega) _, h.fl.below.setCell (by show B ≤ gn; omega) _, h.fl.o0, h.fl.o1, h.fl.o2, h.fl.o3, by simp; exact h.fl.o4⟩, RwV.congr (h.rn.put hp (.int .i64 v)) fun k _ => ?_, h.rf.other (by omega) _, h.o5, h.o6, by simp; exact h.o7⟩
  by_cases c : k = p
  · rw [if_pos c, if_pos c]
  · rw [if_neg c, if_neg c]
theorem Fl2.setF {n T go gi ga ge gn gf : Nat} {s : Nat → Nat} {Q : Nat → Int × Int} {hn : Nat → Nat} {hf : Nat → Bool} {he : Nat → Int} {B : Nat} {w wr : World} (h : Fl2 n T go gi ga ge gn gf s Q hn hf he B w wr) {p : Nat} (hp : p < T) (v : Bool) : Fl2 n T go gi ga ge gn gf s Q hn (fun k => if k = p then v else hf k) he B w (wr.setCell ⟨gf, p, none⟩ (.bool v)) := by
  have := h.fl.o0; have := h.fl.o1; have := h.fl.o2; have := h.fl.o3; have := h.fl.o4; have := h.o5; have := h.o6; have := h.o7
  refine ⟨⟨h.fl.ro.other (by omega) _, h.fl.ri.other (by omega) _, h.fl.ra.other (by omega) _, h.fl.re.other (by omega) _, h.fl.below.setCell (by show B ≤ gf; omega) _, h.fl.o0, h.fl.o1, h.fl.o2, h.fl.o3, by simp; exact h.fl.o4⟩, h.rn.other (by omega) _, RwV.congr (h.rf.put hp (.bool v)) fun k _ => ?_, h.o5, h.o6, by simp; exact h.o7⟩
  by_cases c : k = p
  · rw [if_pos c, if_pos c]
  · rw [if_neg c, if_neg c]
theorem Fl2.drewN {n T go gi ga ge gn gf : Nat} {s : Nat → Nat} {Q : Nat → Int × Int} {hn : Nat → Nat} {hf : Nat → Bool} {he : Nat → Int} {B : Nat} {w wr : World} (h : Fl2 n T go gi ga ge gn gf s Q hn hf he B w wr) (k : Nat) : Fl2 n T go gi ga ge gn gf s Q hn hf he B w (wr.drewN k) :=
  ⟨⟨h.fl.ro.drewN k, h.fl.ri.drewN k, h.fl.ra.drewN k, h.fl.re.drewN k, below_drawn h.fl.below k, h.fl.o0, h.fl.o1, h.fl.o2, h.fl.o3, h.fl.o4⟩, h.rn.drewN k, h.rf.drewN k, h.o5, h.o6, h.o7⟩
end Go.Proofs.Qxb6613603a
