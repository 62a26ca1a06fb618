import Derived.Test.Qxb6613603aZz
import Derived.Test.Qxb6613603aPlain5
namespace Go.Proofs.Qxb6613603a
open Go.ChangeShapes Go.WideShapes Go.ChangeAt Go.RowKit Go.Maps

def sumL (el : Nat → El) : Nat → Nat
  | 0 => 0
  | k + 1 => sumL el k + (el k).l
/-- The cells of the closing singles. -/
def cl : List Int → List Value
  | [] => []
  | x :: r => .int .i32 3 :: .int .u64 x :: cl r
theorem cl_len : ∀ L : List Int, (cl L).length = L.length * 2
  | [] => rfl
  | x :: r => by show (cl r).length + 1 + 1 = (r.length + 1) * 2; rw [cl_len r]; omega
theorem cl_snoc : ∀ (L : List Int) (x : Int), cl (L ++ [x]) = cl L ++ [.int .i32 3, .int .u64 x]
  | [], _ => rfl
  | y :: r, x => by show _ :: _ :: cl (r ++ [x]) = _; rw [cl_snoc r x]; rfl
theorem cl_at : ∀ (L : List Int) (j : Nat), j < L.length → (cl L)[j * 2]? = some (.int .i32 3) ∧ (cl L)[j * 2 + 1]? = some (.int .u64 (L.getD j 0))
  | x :: r, 0, _ => ⟨rfl, rfl⟩
  | x :: r, j + 1, h => by
    have h' : j < r.length := by simp at h; omega
    obtain ⟨h1, h2⟩ := cl_at r j h'
    refine ⟨?_, ?_⟩
    · rw [show (j + 1) * 2 = j * 2 + 1 + 1 by omega]; exact h1
    · rw [show (j + 1) * 2 + 1 = j * 2 + 1 + 1 + 1 by omega]; exact h2
theorem cells_new2 (w : World) (a b : Value) (t : TypeId) : ∀ j u, [a, b][j]? = some u → (w.alloc (.cells #[a, b] t)).cell? ((⟨w.heap.size, 0, none⟩ : Addr).add j) = some u := by
  intro j u h
  rw [Addr.add_lit, Nat.zero_add, World.cell?_alloc_mark]
  rw [← h]
  simp
theorem cells_new4 (w : World) (a b c d : Value) (t : TypeId) : ∀ j u, [a, b, c, d][j]? = some u → (w.alloc (.cells #[a, b, c, d] t)).cell? ((⟨w.heap.size, 0, none⟩ : Addr).add j) = some u := by
  intro j u h
  rw [Addr.add_lit, Nat.zero_add, World.cell?_alloc_mark]
  rw [← h]
  simp

/-- The closing singles gathered so far. -/
structure Own (B : Nat) (w wr : World) (v : Value) (L : List Int) : Prop where
  row : wr.ownsRow B 46 2 v L.length (cl L)
  notNil : v ≠ .slice none 0 0
  ids : ∀ x, x ∈ L → 0 ≤ x ∧ x ≤ 18446744073709551615
  below : Below B w wr
  size : B ≤ wr.heap.size
theorem Own.step {B : Nat} {w wr w' : World} {v v' : Value} {L : List Int} {x : Int} {o : Obj} (h : Own B w wr v L) (hx : 0 ≤ x ∧ x ≤ 18446744073709551615) (hown : w'.ownsRow B 46 2 v' (L.length + 1) (cl L ++ [.int .i32 3, .int .u64 x])) (hg : (wr.alloc o).grownBy w' v.ownBlock) (hn : v' = .slice none 0 0 ↔ v = .slice none 0 0 ∧ 1 = 0) : Own B w w' v' (L ++ [x]) := by
  have hs : B ≤ (wr.alloc o).heap.size := by have := h.size; simp; omega
  refine ⟨?_, fun e => by have := (hn.1 e).2; omega, fun y hy => ?_, (h.below.alloc h.size o).grown hg hs (fun k e => (h.row.lt k e).1), Nat.le_trans hs hg.size⟩
  · rw [cl_snoc, List.length_append]
    exact hown
  · rcases List.mem_append.1 hy with hy | hy
    · exact h.ids y hy
    · simp at hy; subst hy; exact hx

/-- Kept while the call goes on. -/
def CloseRow (g m : Nat) (L : List Int) (w : World) : Prop := L.length = m ∧ ∀ j, j < m → w.cell? ⟨g, j * 2, none⟩ = some (.int .i32 3) ∧ w.cell? ⟨g, j * 2 + 1, none⟩ = some (.int .u64 (L.getD j 0))
theorem Own.shut {B : Nat} {w wr : World} {v : Value} {L : List Int} (h : Own B w wr v L) : ∃ g cap, v = .slice (some ⟨g, 0, none⟩) L.length cap ∧ g < wr.heap.size ∧ CloseRow g L.length L wr := by
  have hh := h.row
  obtain ⟨_, h1 | ⟨g, cap, cur, h0, hb, hg, _⟩⟩ := h.row
  · exact (h.notNil h1.1).elim
  · subst h0
    have hc := hh.cells (g := g) rfl
    refine ⟨g, cap, rfl, (Array.getElem?_eq_some_iff.1 hg).1, rfl, fun j hj => ?_⟩
    obtain ⟨k0, k1⟩ := cl_at L j hj
    have q0 := hc _ _ k0
    have q1 := hc _ _ k1
    rw [Addr.add_lit, Nat.zero_add] at q0 q1
    exact ⟨q0, q1⟩
theorem CloseRow.kept {g m : Nat} {L : List Int} {w w' : World} (h : CloseRow g m L w) (hg : g < w.heap.size) (hb : Below w.heap.size w w') : CloseRow g m L w' := ⟨h.1, fun j hj => by
  rw [hb.cell (p := ⟨g, j * 2, none⟩) hg, hb.cell (p := ⟨g, j * 2 + 1, none⟩) hg]
  exact h.2 j hj⟩
theorem mem_at {L : List Int} {x : Int} (h : x ∈ L) : ∃ j, j < L.length ∧ L.getD j 0 = x := by
  obtain ⟨j, hj, e⟩ := List.getElem_of_mem h
  exact ⟨j, hj, by simp [List.getD, List.getElem?_eq_getElem hj, e]⟩
theorem at_mem {L : List Int} {j : Nat} (h : j < L.length) : L.getD j 0 ∈ L := by
  simp [List.getD, List.getElem?_eq_getElem h]
theorem CloseRow.sg {g m c : Nat} {L : List Int} {w : World} {v : Bool} {t k : Int} (h : CloseRow g m L w) (hm : m ≤ 1000000) (hi : ∀ x, x ∈ L → 0 ≤ x ∧ x ≤ 18446744073709551615) : Sg w ⟨some ⟨g, 0, none⟩, m, c, v, t, k⟩ (fun j => (3, L.getD j 0)) :=
  ⟨hm, fun j hj => ⟨g, rfl, (h.2 j hj).1, (h.2 j hj).2, hi _ (at_mem (by have := h.1; change j < m at hj; omega))⟩⟩
end Go.Proofs.Qxb6613603a
