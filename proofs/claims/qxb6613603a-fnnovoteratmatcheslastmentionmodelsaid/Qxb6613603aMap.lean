import Derived.Test.Qxb6613603aClone
import Derived.Test.Qxb6613603aPlain4
namespace Go.Proofs.Qxb6613603a
open Go.ChangeShapes Go.WideShapes Go.ChangeAt Go.RowKit Go.Maps

theorem law : Keyed Try.prog 30 := int_keyed Try.underlying30
def isU : Lit → Bool
  | .int .u64 _ => true
  | _ => false
/-- The map's keys are the voters. -/
def VMap (V : Int → Bool) (D : DataW Unit) : Prop := ∃ es, D = .map es ∧ es.any (fun p => !isU p.1) = false ∧ ∀ x, has D (.int .u64 x) = V x
theorem vmap_made : VMap (fun _ => false) (.map []) := ⟨[], rfl, rfl, fun _ => rfl⟩
theorem any_filter_false {α : Type} {f g : α → Bool} : ∀ {l : List α}, l.any f = false → (l.filter g).any f = false := fun {l} h => by
  rw [List.any_eq_false] at h ⊢
  intro x hx
  exact h x (List.mem_filter.1 hx).1
theorem VMap.put {V : Int → Bool} {D : DataW Unit} (h : VMap V D) (id : Int) (d : DataW Unit) : VMap (upd V 0 id) (D.put (.int .u64 id) d) := by
  obtain ⟨es, rfl, h1, h2⟩ := h
  refine ⟨_, rfl, ?_, fun x => ?_⟩
  · rw [any_insert, any_filter_false h1]; rfl
  · unfold upd
    by_cases c : x = id
    · subst c
      rw [if_pos rfl]
      exact has_put_same ⟨es, rfl⟩ (show WideAt.IsKeyLit (.int .u64 x) from trivial) d
    · rw [if_neg c, ← h2 x]
      exact has_put_other (fun e => c (by cases e; rfl)) d
theorem VMap.del {V : Int → Bool} {D : DataW Unit} (h : VMap V D) {t : Int} (ht : t ≠ 0) (id : Int) : VMap (upd V t id) (D.del (.int .u64 id)) := by
  obtain ⟨es, rfl, h1, h2⟩ := h
  refine ⟨_, rfl, any_filter_false h1, fun x => ?_⟩
  unfold upd
  by_cases c : x = id
  · subst c
    rw [if_pos rfl, decide_eq_false ht]
    exact has_del_same
  · rw [if_neg c, ← h2 x]
    exact has_del_other (fun e => c (by cases e; rfl))
theorem VMap.emp {V : Int → Bool} {D : DataW Unit} (h : VMap V D) : Maps.size D = 0 ↔ Emp V := by
  obtain ⟨es, rfl, h1, h2⟩ := h
  constructor
  · intro h x
    rw [← h2 x]
    have : es = [] := List.eq_nil_of_length_eq_zero h
    subst this
    rfl
  · intro h
    cases es with
    | nil => rfl
    | cons p r =>
      have hp : isU p.1 = true := by
        have := List.any_eq_false.1 h1 p (by simp)
        simpa using this
      obtain ⟨x, hx⟩ : ∃ x, p.1 = .int .u64 x := by
        unfold isU at hp
        split at hp
        · exact ⟨_, by assumption⟩
        · cases hp
      have := h x
      rw [← h2 x] at this
      simp [has, hx, Lit.sameKey] at this

/-- Block M of w is the map of the voters V. -/
def MapV (w : World) (M cap : Nat) (V : Int → Bool) : Prop := ∃ D : DataW Unit, w.ownsMap Try.prog 30 (plainElem Try.prog 4) M cap D ∧ VMap V D
theorem MapV.block {w w' : World} {M cap : Nat} {V : Int → Bool} (h : MapV w M cap V) (hb : w'.heap[M]? = w.heap[M]?) : MapV w' M cap V := by
  obtain ⟨D, ⟨es, cl, h1, r⟩, h2⟩ := h
  exact ⟨D, ⟨es, cl, by rw [hb]; exact h1, r⟩, h2⟩
theorem MapV.mono {w : World} {M cap cap' : Nat} {V : Int → Bool} (h : MapV w M cap V) (hc : cap ≤ cap') : MapV w M cap' V := by
  obtain ⟨D, h1, h2⟩ := h
  exact ⟨D, h1.mono hc, h2⟩
theorem MapV.lt {w : World} {M cap : Nat} {V : Int → Bool} (h : MapV w M cap V) : M < w.heap.size := by
  obtain ⟨D, h1, h2⟩ := h
  exact h1.lt
theorem RwE.block {E : Nat → El} {n g : Nat} {w w' : World} (h : RwE E n g w) (hb : w'.heap[g]? = w.heap[g]?) : RwE E n g w' := by
  have c : ∀ o, w'.cell? ⟨g, o, none⟩ = w.cell? ⟨g, o, none⟩ := fun o => World.cell?_of_block hb
  refine ⟨fun i hi => ?_, fun o => (World.frozen?_of_block (a := ⟨g, o, none⟩) hb).trans (h.2 o)⟩
  rw [c, c, c, c]
  exact h.1 i hi

/-- What stands at each head of the two loops: the sorted copy in block g, the voters in block M, all else below M as it was. -/
structure St (el : Nat → El) (n : Nat) (s : Nat → Nat) (g M cap : Nat) (V : Int → Bool) (w wx : World) : Prop where
  row : Rw el n s g wx
  map : MapV wx M cap V
  below : Below M w wx
  hM : M < g
  hg : g < wx.heap.size
theorem St.alloc {el : Nat → El} {n : Nat} {s : Nat → Nat} {g M cap : Nat} {V : Int → Bool} {w wx : World} (h : St el n s g M cap V w wx) (o : Obj) : St el n s g M cap V w (wx.alloc o) :=
  ⟨RwE.block h.row (Below.heap_alloc _ _ _ h.hg), h.map.block (Below.heap_alloc _ _ _ (Nat.lt_trans h.hM h.hg)), h.below.alloc (Nat.le_of_lt (Nat.lt_trans h.hM h.hg)) o, h.hM, by simp; exact Nat.lt_succ_of_lt h.hg⟩
theorem St.drew {el : Nat → El} {n : Nat} {s : Nat → Nat} {g M cap : Nat} {V : Int → Bool} {w wx : World} (h : St el n s g M cap V w wx) : St el n s g M cap V w wx.drew :=
  ⟨h.row.drew, h.map.block rfl, h.below.drew, h.hM, h.hg⟩
theorem St.turn {el : Nat → El} {n : Nat} {s : Nat → Nat} {g M cap cap' : Nat} {V V' : Int → Bool} {w wx wy : World} (h : St el n s g M cap V w wx) (hg : wx.grownBy wy (some M)) (hm : MapV wy M cap' V') : St el n s g M cap' V' w wy :=
  ⟨RwE.block h.row (hg.block g h.hg (fun e => by cases e; exact Nat.lt_irrefl _ h.hM)), hm, h.below.grown hg (Nat.le_of_lt (Nat.lt_trans h.hM h.hg)) (fun k e => by cases e; exact Nat.le_refl _), h.hM, Nat.lt_of_lt_of_le h.hg hg.size⟩
theorem St.mono {el : Nat → El} {n : Nat} {s : Nat → Nat} {g M cap cap' : Nat} {V : Int → Bool} {w wx : World} (h : St el n s g M cap V w wx) (hc : cap ≤ cap') : St el n s g M cap' V w wx := ⟨h.row, h.map.mono hc, h.below, h.hM, h.hg⟩

/-- The singles of one change: l elements of two cells in one block. -/
def Sg (w : World) (x : El) (f : Nat → Int × Int) : Prop := x.l ≤ 1000000 ∧ ∀ j, j < x.l → ∃ b, x.a = some ⟨b, 0, none⟩ ∧ w.cell? ⟨b, j * 2, none⟩ = some (.int .i32 (f j).1) ∧ w.cell? ⟨b, j * 2 + 1, none⟩ = some (.int .u64 (f j).2) ∧ 0 ≤ (f j).2 ∧ (f j).2 ≤ 18446744073709551615
theorem cell_lt {w : World} {b o : Nat} {v : Value} (h : w.cell? ⟨b, o, none⟩ = some v) : b < w.heap.size := by
  by_cases c : b < w.heap.size
  · exact c
  · have : w.heap[b]? = none := by simp; omega
    simp [World.cell?, this] at h
theorem Sg.kept {w w' : World} {x : El} {f : Nat → Int × Int} (h : Sg w x f) (hb : Below w.heap.size w w') : Sg w' x f := by
  refine ⟨h.1, fun j hj => ?_⟩
  obtain ⟨b, h1, h2, h3, h4⟩ := h.2 j hj
  have := cell_lt h2
  exact ⟨b, h1, by rw [hb.cell (p := ⟨b, j * 2, none⟩) this]; exact h2, by rw [hb.cell (p := ⟨b, j * 2 + 1, none⟩) this]; exact h3, h4⟩
end Go.Proofs.Qxb6613603a
