import Derived.Test.Qxb6613603aRows
import Derived.Test.Qxb6613603aPlain
import Derived.WalkKit
import Derived.ProofKit
import Derived.WalkSpells
import Derived.Deep.RegionHeld3
import Derived.Deep.QuietTactic
import Derived.BigQuiet
import Derived.BigRegion
import Derived.Laws.Pointers
namespace Go.Proofs.Qxb6613603a
open Go.ChangeShapes Go.WideShapes Go.ChangeAt Go.RowKit

/-- One sim.Change as its four cells: the slice of singles, V2, Transition, At. -/
structure El where
  a : Option Addr
  l : Nat
  c : Nat
  v : Bool
  t : Int
  k : Int

/-- The first n elements of the row in block g are E's; the row may be written. -/
def RwE (E : Nat → El) (n g : Nat) (w : World) : Prop :=
  (∀ i, i < n → w.cell? ⟨g, i * 4, none⟩ = some (.slice (E i).a (E i).l (E i).c) ∧ w.cell? ⟨g, i * 4 + 1, none⟩ = some (.bool (E i).v) ∧
    w.cell? ⟨g, i * 4 + 2, none⟩ = some (.int .i32 (E i).t) ∧ w.cell? ⟨g, i * 4 + 3, none⟩ = some (.int .i64 (E i).k)) ∧ (∀ o, w.frozen? ⟨g, o, none⟩ = false)
/-- .. are those that 's' numbers among 'el'. -/
def Rw (el : Nat → El) (n : Nat) (s : Nat → Nat) (g : Nat) (w : World) : Prop := RwE (fun i => el (s i)) n g w

theorem set_cell {w : World} {g o : Nat} (h : ∃ v, w.cell? ⟨g, o, none⟩ = some v) (x : Nat) (v : Value) : (w.setCell ⟨g, o, none⟩ v).cell? ⟨g, x, none⟩ = if x = o then some v else w.cell? ⟨g, x, none⟩ := by
  obtain ⟨v0, h0⟩ := h
  by_cases hx : x = o
  · subst hx
    rw [if_pos rfl, World.cell?_setCell_same _ _ _ h0]
  · rw [if_neg hx, World.cell?_setCell_other _ _ _ _ (fun e => hx (by cases e; rfl))]
theorem set_some {w : World} {g o x : Nat} {u : Value} (h : ∃ v, w.cell? ⟨g, o, none⟩ = some v) (hx : ∃ v, w.cell? ⟨g, x, none⟩ = some v) : ∃ v, (w.setCell ⟨g, o, none⟩ u).cell? ⟨g, x, none⟩ = some v := by
  rw [set_cell h]
  by_cases hq : x = o
  · exact ⟨u, if_pos hq⟩
  · rw [if_neg hq]; exact hx

theorem RwE.put {E : Nat → El} {n g i : Nat} {w : World} (h : RwE E n g w) (hi : i < n) (e : El) :
    RwE (fun k => if k = i then e else E k) n g ((((w.setCell ⟨g, i * 4, none⟩ (.slice e.a e.l e.c)).setCell ⟨g, i * 4 + 1, none⟩ (.bool e.v)).setCell ⟨g, i * 4 + 2, none⟩ (.int .i32 e.t)).setCell ⟨g, i * 4 + 3, none⟩ (.int .i64 e.k)) := by
  obtain ⟨h0, h1, h2, h3⟩ := h.1 i hi
  have q : ∀ x, ((((w.setCell ⟨g, i * 4, none⟩ (.slice e.a e.l e.c)).setCell ⟨g, i * 4 + 1, none⟩ (.bool e.v)).setCell ⟨g, i * 4 + 2, none⟩ (.int .i32 e.t)).setCell ⟨g, i * 4 + 3, none⟩ (.int .i64 e.k)).cell? ⟨g, x, none⟩ =
      if x = i * 4 + 3 then some (.int .i64 e.k) else if x = i * 4 + 2 then some (.int .i32 e.t) else if x = i * 4 + 1 then some (.bool e.v) else if x = i * 4 then some (.slice e.a e.l e.c) else w.cell? ⟨g, x, none⟩ := fun x => by
    rw [set_cell (set_some (set_some ⟨_, h0⟩ ⟨_, h1⟩) (set_some ⟨_, h0⟩ ⟨_, h2⟩) |> fun hh => set_some hh (set_some (set_some ⟨_, h0⟩ ⟨_, h1⟩) (set_some ⟨_, h0⟩ ⟨_, h3⟩))),
      set_cell (set_some (set_some ⟨_, h0⟩ ⟨_, h1⟩) (set_some ⟨_, h0⟩ ⟨_, h2⟩)), set_cell (set_some ⟨_, h0⟩ ⟨_, h1⟩), set_cell ⟨_, h0⟩]
  refine ⟨fun k hk => ?_, fun o => by rw [World.frozen?_setCell, World.frozen?_setCell, World.frozen?_setCell, World.frozen?_setCell]; exact h.2 o⟩
  by_cases hki : k = i
  · subst hki
    refine ⟨?_, ?_, ?_, ?_⟩ <;> dsimp only <;> rw [q]
    · rw [if_neg (by omega), if_neg (by omega), if_neg (by omega), if_pos rfl, if_pos rfl]
    · rw [if_neg (by omega), if_neg (by omega), if_pos rfl, if_pos rfl]
    · rw [if_neg (by omega), if_pos rfl, if_pos rfl]
    · rw [if_pos rfl, if_pos rfl]
  · obtain ⟨g0, g1, g2, g3⟩ := h.1 k hk
    refine ⟨?_, ?_, ?_, ?_⟩ <;> dsimp only <;> rw [q, if_neg (by omega), if_neg (by omega), if_neg (by omega), if_neg (by omega), if_neg hki]
    · exact g0
    · exact g1
    · exact g2
    · exact g3


theorem RwE.congr {E E' : Nat → El} {n g : Nat} {w : World} (h : RwE E n g w) (he : ∀ k, k < n → E' k = E k) : RwE E' n g w := by
  refine ⟨fun k hk => ?_, h.2⟩
  rw [he k hk]
  exact h.1 k hk
theorem RwE.drew {E : Nat → El} {n g : Nat} {w : World} (h : RwE E n g w) : RwE E n g w.drew := ⟨h.1, h.2⟩

/-- Four stores: one element laid in. -/
def put4 (w : World) (g i : Nat) (e : El) : World :=
  (((w.setCell ⟨g, i * 4, none⟩ (.slice e.a e.l e.c)).setCell ⟨g, i * 4 + 1, none⟩ (.bool e.v)).setCell ⟨g, i * 4 + 2, none⟩ (.int .i32 e.t)).setCell ⟨g, i * 4 + 3, none⟩ (.int .i64 e.k)
theorem RwE.put4 {E : Nat → El} {n g i : Nat} {w : World} (h : RwE E n g w) (hi : i < n) (e : El) : RwE (fun k => if k = i then e else E k) n g (put4 w g i e) := h.put hi e
theorem below_put4 {w w0 : World} {B g : Nat} (h : Below B w0 w) (hg : B ≤ g) (i : Nat) (e : El) : Below B w0 (put4 w g i e) := (((h.setCell hg _).setCell hg _).setCell hg _).setCell hg _

theorem Rw.swap {el : Nat → El} {n g i j : Nat} {s : Nat → Nat} {w : World} (h : Rw el n s g w) (hi : i < n) (hj : j < n) {x y : El} (hx : x = el (s i)) (hy : y = el (s j)) :
    Rw el n (sw s i j) g (Go.Proofs.Qxb6613603a.put4 (Go.Proofs.Qxb6613603a.put4 w g i y) g j x).drew := by
  have h1 : RwE (fun i => el (s i)) n g w := h
  have h2 := ((h1.put4 hi y).put4 hj x).drew
  refine RwE.congr h2 fun k _ => ?_
  show el (sw s i j k) = if k = j then x else if k = i then y else el (s k)
  unfold sw
  by_cases h3 : k = j
  · rw [if_pos h3, if_pos h3, hx]
  · rw [if_neg h3, if_neg h3]
    by_cases h4 : k = i
    · rw [if_pos h4, if_pos h4, hy]
    · rw [if_neg h4, if_neg h4]

theorem Rw.kept {el : Nat → El} {n g : Nat} {s : Nat → Nat} {w w' : World} (h : Rw el n s g w) {B : Nat} (hb : Below B w w') (hg : g < B) : Rw el n s g w' := by
  refine ⟨fun i hi => ?_, fun o => (hb.frozen (p := ⟨g, o, none⟩) hg).trans (h.2 o)⟩
  obtain ⟨h0, h1, h2, h3⟩ := h.1 i hi
  exact ⟨by rw [hb.cell (p := ⟨g, i * 4, none⟩) hg]; exact h0, by rw [hb.cell (p := ⟨g, i * 4 + 1, none⟩) hg]; exact h1, by rw [hb.cell (p := ⟨g, i * 4 + 2, none⟩) hg]; exact h2, by rw [hb.cell (p := ⟨g, i * 4 + 3, none⟩) hg]; exact h3⟩
theorem Rw.drew {el : Nat → El} {n g : Nat} {s : Nat → Nat} {w : World} (h : Rw el n s g w) : Rw el n s g w.drew := h

/-- The eight cells of two elements. -/
def C8 (g i j : Nat) (x y : El) (w : World) : Prop :=
  w.cell? ⟨g, i * 4, none⟩ = some (.slice x.a x.l x.c) ∧ w.cell? ⟨g, i * 4 + 1, none⟩ = some (.bool x.v) ∧ w.cell? ⟨g, i * 4 + 2, none⟩ = some (.int .i32 x.t) ∧ w.cell? ⟨g, i * 4 + 3, none⟩ = some (.int .i64 x.k) ∧
  w.cell? ⟨g, j * 4, none⟩ = some (.slice y.a y.l y.c) ∧ w.cell? ⟨g, j * 4 + 1, none⟩ = some (.bool y.v) ∧ w.cell? ⟨g, j * 4 + 2, none⟩ = some (.int .i32 y.t) ∧ w.cell? ⟨g, j * 4 + 3, none⟩ = some (.int .i64 y.k)
theorem Rw.c8 {el : Nat → El} {n g : Nat} {s : Nat → Nat} {w : World} (h : Rw el n s g w) {i j : Nat} (hi : i < n) (hj : j < n) : C8 g i j (el (s i)) (el (s j)) w := by
  obtain ⟨h0, h1, h2, h3⟩ := h.1 i hi
  obtain ⟨g0, g1, g2, g3⟩ := h.1 j hj
  exact ⟨h0, h1, h2, h3, g0, g1, g2, g3⟩

def cmpI (x y : Int) : Int := if x < y then -1 else if y < x then 1 else 0

theorem compare15 (x y : Int) (w : World) : Calls Try.prog 15 #[.int .i64 x, .int .i64 y] w fun e w' => e = .returned (.int .i64 (cmpI x y)) ∧ w' = w := by
  by_cases h1 : x < y
  · go_enter Try.func15, Try.ntmps15
    go_wp2
    go_ret
    exact ⟨by simp [cmpI, h1], rfl⟩
  by_cases h2 : y < x
  · go_enter Try.func15, Try.ntmps15
    go_wp2
    go_ret
    exact ⟨by simp [cmpI, h1, h2], rfl⟩
  go_enter Try.func15, Try.ntmps15
  go_wp2
  go_ret
  exact ⟨by rw [cmpI, if_neg (by omega), if_neg (by omega)]; rfl, rfl⟩

theorem clos14 (x y : El) (w : World) :
    Calls Try.prog 14 #[.agg #[.slice x.a x.l x.c, .bool x.v, .int .i32 x.t, .int .i64 x.k], .agg #[.slice y.a y.l y.c, .bool y.v, .int .i32 y.t, .int .i64 y.k]] w
      fun e w' => e = .returned (.int .i64 (cmpI x.k y.k)) ∧ Below w.heap.size w w' := by
  go_enter Try.func14, Try.ntmps14
  go_wp2_with (go_at_call 15; refine (compare15 _ _ _).mono ?_; rintro e w2 ⟨rfl, hw⟩; subst hw)
  go_ret
  exact ⟨rfl, ((Below.refl _ _).alloc (Nat.le_refl _) _).alloc (by simp) _⟩
end Go.Proofs.Qxb6613603a
