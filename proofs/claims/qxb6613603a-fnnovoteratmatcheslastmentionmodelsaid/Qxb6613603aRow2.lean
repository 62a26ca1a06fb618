import Derived.Test.Qxb6613603aNva
namespace Go.Proofs.Qxb6613603a
open Go.ChangeShapes Go.WideShapes Go.ChangeAt Go.RowKit Go.Maps

theorem info46 : (Try.prog.info? 46).map (fun i => (i.zero, i.size, i.bytes)) = some (some (.agg #[.int .i32 0, .int .u64 0]), 2, 16) := by kernel_rfl

/-! ### a row of new changes -/
def zEl : El := ⟨none, 0, 0, false, 0, 0⟩
theorem made4 (n : Nat) : (madeCells (Value.agg #[.slice none 0 0, .bool false, .int .i32 0, .int .i64 0]).cells (n * 4)).toList = c4 (fun _ => zEl) n := by
  apply List.ext_getElem?
  intro j
  by_cases c : j < n * 4
  · have h1 := c4_at (fun _ => zEl) n (j / 4) (by omega) (j % 4) (by omega)
    rw [show j / 4 * 4 + j % 4 = j by omega] at h1
    rw [h1]
    have hcase : j % 4 = 0 ∨ j % 4 = 1 ∨ j % 4 = 2 ∨ j % 4 = 3 := by omega
    rcases hcase with d | d | d | d <;> simp [madeCells, c, Value.cells, d, e4, zEl]
  · rw [List.getElem?_eq_none (by simp [size_madeCells]; omega), List.getElem?_eq_none (by rw [c4_len]; omega)]

/-! ### a row of new singles -/
def RwS (f : Nat → Int × Int) (l g : Nat) (w : World) : Prop :=
  (∀ j, j < l → w.cell? ⟨g, j * 2, none⟩ = some (.int .i32 (f j).1) ∧ w.cell? ⟨g, j * 2 + 1, none⟩ = some (.int .u64 (f j).2)) ∧ (∀ o, w.frozen? ⟨g, o, none⟩ = false)
theorem made2 (n j : Nat) (h : j < n * 2) : (madeCells (Value.agg #[.int .i32 0, .int .u64 0]).cells (n * 2)).toList[j]? = some (if j % 2 = 0 then .int .i32 0 else .int .u64 0) := by
  have hcase : j % 2 = 0 ∨ j % 2 = 1 := by omega
  rcases hcase with d | d <;> simp [madeCells, h, Value.cells, d]
theorem rws_of_owns {n base g : Nat} {w : World} (h : w.ownsRow base 46 2 (.slice (some ⟨g, 0, none⟩) n n) n (madeCells (Value.agg #[.int .i32 0, .int .u64 0]).cells (n * 2)).toList) : RwS (fun _ => (0, 0)) n g w := by
  have hh := h
  obtain ⟨_, h | ⟨g', cap, cur, h0, hb, hg, h1, h2, h3, h4⟩⟩ := h
  · simp at h
  · simp only [Value.slice.injEq, Option.some.injEq, Addr.mk.injEq, and_true, true_and] at h0
    obtain ⟨rfl, rfl⟩ := h0
    have hc := hh.cells (g := g) rfl
    refine ⟨fun j hj => ?_, fun o => by simp [World.frozen?, hg]⟩
    have k0 := hc (j * 2) _ (made2 n (j * 2) (by omega))
    have k1 := hc (j * 2 + 1) _ (made2 n (j * 2 + 1) (by omega))
    rw [Addr.add_lit, Nat.zero_add] at k0 k1
    rw [if_pos (by omega)] at k0
    rw [if_neg (by omega)] at k1
    exact ⟨k0, k1⟩
def put2 (w : World) (g j : Nat) (t id : Int) : World := (w.setCell ⟨g, j * 2, none⟩ (.int .i32 t)).setCell ⟨g, j * 2 + 1, none⟩ (.int .u64 id)
theorem RwS.put2 {f : Nat → Int × Int} {l g j : Nat} {w : World} (h : RwS f l g w) (hj : j < l) (t id : Int) : RwS (fun i => if i = j then (t, id) else f i) l g (put2 w g j t id) := by
  obtain ⟨h0, h1⟩ := h.1 j hj
  have q : ∀ x, (Qxb6613603a.put2 w g j t id).cell? ⟨g, x, none⟩ = if x = j * 2 + 1 then some (.int .u64 id) else if x = j * 2 then some (.int .i32 t) else w.cell? ⟨g, x, none⟩ := fun x => by
    unfold Qxb6613603a.put2
    rw [set_cell (set_some ⟨_, h0⟩ ⟨_, h1⟩), set_cell ⟨_, h0⟩]
  refine ⟨fun i hi => ?_, fun o => by unfold Qxb6613603a.put2; rw [World.frozen?_setCell, World.frozen?_setCell]; exact h.2 o⟩
  by_cases c : i = j
  · subst c
    dsimp only
    rw [q, q, if_neg (by omega), if_pos rfl, if_pos rfl, if_pos rfl]
    exact ⟨rfl, rfl⟩
  · dsimp only
    rw [q, q, if_neg (by omega), if_neg (by omega), if_neg (by omega), if_neg (by omega), if_neg (by omega)]
    exact h.1 i hi
theorem below_put2 {w w0 : World} {B g : Nat} (h : Below B w0 w) (hg : B ≤ g) (j : Nat) (t id : Int) : Below B w0 (put2 w g j t id) := (h.setCell hg _).setCell hg _
theorem RwS.congr {f f' : Nat → Int × Int} {l g : Nat} {w : World} (h : RwS f l g w) (he : ∀ k, k < l → f' k = f k) : RwS f' l g w := by
  refine ⟨fun k hk => ?_, h.2⟩
  rw [he k hk]
  exact h.1 k hk
def upto (f : Nat → Int × Int) (j : Nat) : Nat → Int × Int := fun i => if i < j then f i else (0, 0)
theorem RwS.step {f : Nat → Int × Int} {l g j : Nat} {w : World} (h : RwS (upto f j) l g w) (hj : j < l) : RwS (upto f (j + 1)) l g (Qxb6613603a.put2 w g j (f j).1 (f j).2).drew := by
  have := h.put2 hj (f j).1 (f j).2
  refine RwS.congr (w := (Qxb6613603a.put2 w g j (f j).1 (f j).2).drew) ⟨this.1, this.2⟩ fun k _ => ?_
  unfold upto
  by_cases c : k = j
  · subst c; rw [if_pos rfl, if_pos (by omega)]
  · rw [if_neg c]
    by_cases d : k < j
    · rw [if_pos d, if_pos (by omega)]
    · rw [if_neg d, if_neg (by omega)]

/-! ### what came in -/
/-- The singles of one change that came in. -/
def SgIn (w : World) (x : El) (f : Nat → Int × Int) : Prop := x.l ≤ 1000000 ∧ (x.a = none → x.l = 0) ∧ ∀ j, j < x.l → ∃ b o, x.a = some ⟨b, o, none⟩ ∧ w.cell? ⟨b, o + j * 2, none⟩ = some (.int .i32 (f j).1) ∧ w.cell? ⟨b, o + j * 2 + 1, none⟩ = some (.int .u64 (f j).2) ∧ 0 ≤ (f j).2 ∧ (f j).2 ≤ 18446744073709551615
def Src (w : World) (a : Option Addr) (n : Nat) (el : Nat → El) (F : Nat → Nat → Int × Int) : Prop := ∀ i, i < n → (∃ b o, a = some ⟨b, o, none⟩ ∧ w.cell? ⟨b, o + i * 4, none⟩ = some (.slice (el i).a (el i).l (el i).c) ∧ w.cell? ⟨b, o + i * 4 + 1, none⟩ = some (.bool (el i).v) ∧
    w.cell? ⟨b, o + i * 4 + 2, none⟩ = some (.int .i32 (el i).t) ∧ w.cell? ⟨b, o + i * 4 + 3, none⟩ = some (.int .i64 (el i).k)) ∧ SgIn w (el i) (F i)
theorem SgIn.kept {w w' : World} {x : El} {f : Nat → Int × Int} (h : SgIn w x f) (hb : Below w.heap.size w w') : SgIn w' x f := by
  refine ⟨h.1, h.2.1, fun j hj => ?_⟩
  obtain ⟨b, o, h1, h2, h3, h4⟩ := h.2.2 j hj
  have := cell_lt h2
  exact ⟨b, o, h1, by rw [hb.cell (p := ⟨b, o + j * 2, none⟩) this]; exact h2, by rw [hb.cell (p := ⟨b, o + j * 2 + 1, none⟩) this]; exact h3, h4⟩
theorem Src.kept {w w' : World} {a : Option Addr} {n : Nat} {el : Nat → El} {F : Nat → Nat → Int × Int} (h : Src w a n el F) (hb : Below w.heap.size w w') : Src w' a n el F := by
  intro i hi
  obtain ⟨⟨b, o, h1, h2, h3, h4, h5⟩, h6⟩ := h i hi
  have := cell_lt h2
  exact ⟨⟨b, o, h1, by rw [hb.cell (p := ⟨b, o + i * 4, none⟩) this]; exact h2, by rw [hb.cell (p := ⟨b, o + i * 4 + 1, none⟩) this]; exact h3, by rw [hb.cell (p := ⟨b, o + i * 4 + 2, none⟩) this]; exact h4, by rw [hb.cell (p := ⟨b, o + i * 4 + 3, none⟩) this]; exact h5⟩, h6.kept hb⟩

/-! ### what goes out -/
/-- The singles of one change, in a block behind g. -/
def SgB (g : Nat) (w : World) (x : El) (f : Nat → Int × Int) : Prop := x.l ≤ 1000000 ∧ ∀ j, j < x.l → ∃ b, g < b ∧ x.a = some ⟨b, 0, none⟩ ∧ w.cell? ⟨b, j * 2, none⟩ = some (.int .i32 (f j).1) ∧ w.cell? ⟨b, j * 2 + 1, none⟩ = some (.int .u64 (f j).2) ∧ 0 ≤ (f j).2 ∧ (f j).2 ≤ 18446744073709551615
theorem SgB.sg {g : Nat} {w : World} {x : El} {f : Nat → Int × Int} (h : SgB g w x f) : Sg w x f := ⟨h.1, fun j hj => by
  obtain ⟨b, _, h1, h2, h3, h4⟩ := h.2 j hj
  exact ⟨b, h1, h2, h3, h4⟩⟩
theorem SgB.kept {g : Nat} {w w' : World} {x : El} {f : Nat → Int × Int} (h : SgB g w x f) (hb : ∀ k, g < k → k < w.heap.size → w'.heap[k]? = w.heap[k]?) : SgB g w' x f := by
  refine ⟨h.1, fun j hj => ?_⟩
  obtain ⟨b, h0, h1, h2, h3, h4⟩ := h.2 j hj
  have := hb b h0 (cell_lt h2)
  exact ⟨b, h0, h1, by rw [World.cell?_of_block (a := ⟨b, j * 2, none⟩) this]; exact h2, by rw [World.cell?_of_block (a := ⟨b, j * 2 + 1, none⟩) this]; exact h3, h4⟩
theorem heap_put4 (w : World) (g i : Nat) (e : El) (k : Nat) (h : k ≠ g) : (put4 w g i e).heap[k]? = w.heap[k]? := by
  unfold put4
  rw [Below.heap_setCell _ _ _ _ h, Below.heap_setCell _ _ _ _ h, Below.heap_setCell _ _ _ _ h, Below.heap_setCell _ _ _ _ h]
end Go.Proofs.Qxb6613603a
