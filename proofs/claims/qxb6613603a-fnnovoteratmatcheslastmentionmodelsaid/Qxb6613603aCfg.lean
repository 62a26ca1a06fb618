import Derived.Test.Qxb6613603aOwn
import Derived.Laws.Tables
namespace Go.Proofs.Qxb6613603a
open Go.ChangeShapes Go.WideShapes Go.ChangeAt Go.RowKit Go.Maps
/-- The cells of '&sim.Config{Nodes: M, Changes: (a, n, c)}'. -/
def cfg (P : Program) (M : Int) (a : Option Addr) (n c : Nat) : Array Value := (P.built 39 [(0, .int .i64 M), (35, .slice a n c)]).getD #[]
theorem cfg_some (M : Int) (a : Option Addr) (n c : Nat) : Try.prog.built 39 [(0, .int .i64 M), (35, .slice a n c)] = some (cfg Try.prog M a n c) := by kernel_rfl
theorem cfg_0 (M : Int) (a : Option Addr) (n c : Nat) : (cfg Try.prog M a n c)[0]? = some (.int .i64 M) := by kernel_rfl
theorem cfg_35 (M : Int) (a : Option Addr) (n c : Nat) : (cfg Try.prog M a n c)[35]? = some (.slice a n c) := by kernel_rfl
theorem run_build39 (M : Int) (a : Option Addr) (n c : Nat) (w : World) : (Instr.build 39 #[(0, .int .i64 M), (35, .slice a n c)]).run Try.prog w = .ok (.agg (cfg Try.prog M a n c)) w := run_build w 39 _ _ (cfg_some M a n c)
theorem cfg_c0 (M : Int) (a : Option Addr) (n c : Nat) (w : World) : (w.alloc (.cells (cfg Try.prog M a n c) 39)).cell? ⟨w.heap.size, 0, none⟩ = some (.int .i64 M) := by
  rw [World.cell?_alloc_mark, cfg_0]
theorem cfg_c35 (M : Int) (a : Option Addr) (n c : Nat) (w : World) : (w.alloc (.cells (cfg Try.prog M a n c) 39)).cell? ⟨w.heap.size, 35, none⟩ = some (.slice a n c) := by
  rw [World.cell?_alloc_mark, cfg_35]

theorem wpList_build39 {ops : Array Oper} {rest : List Oper} {o : Oper} {a : Act} {w : World} {Q : Exit → Act → World → Prop} (hg : o.guard = none) (x y : Operand) (ho : o.op = .build 39 #[(0, x), (35, y)]) (M : Int) (b : Option Addr) (n c : Nat)
    (hx : a.eval x = .int .i64 M) (hy : a.eval y = .slice b n c) (h : wpList Try.prog ops Q rest (a.put o.dst (.agg (cfg Try.prog M b n c))) w) : wpList Try.prog ops Q (o :: rest) a w := by
  have e : (#[(0, x), (35, y)].map fun (i, x) => (i, a.eval x)).toList = [(0, Value.int .i64 M), (35, Value.slice b n c)] := by simp [hx, hy]
  refine wpList_build hg 39 #[(0, x), (35, y)] ho ?_ ?_
  · rw [e, cfg_some]; rfl
  · rw [e, cfg_some]; exact h
/-- A call of the builtin append whose run is known. -/
theorem wpList_append_run {P : Program} {w w' : World} {ops : Array Oper} {rest : List Oper} {o : Oper} {a : Act} {Q : Exit → Act → World → Prop} (hg : o.guard = none) (s x : Operand) (t : TypeId)
    (hop : o.op = Op.call { callee := Callee.builtin Builtin.append, args := #[s, x], argTypes := #[t, t] }) (v u r : Value) (hs : a.eval s = v) (hx : a.eval x = u) (hrun : (Builtin.append_ #[t, t] o.type #[v, u]).run P w = .ok r w')
    (hK : wpList P ops Q rest (a.put o.dst r) w') : wpList P ops Q (o :: rest) a w := by
  refine wpList_plain hg fun K' hK' => ?_
  unfold Oper.wp
  simp [execOp, hop, resolve, invoke, builtin, hs, hx, hrun, Result.andThen]
  exact hK' _ _ hK

theorem c4_congr {E E' : Nat → El} : ∀ {n : Nat}, (∀ i, i < n → E' i = E i) → c4 E' n = c4 E n
  | 0, _ => rfl
  | n + 1, h => by
    show c4 E' n ++ e4 (E' n) = c4 E n ++ e4 (E n)
    rw [c4_congr fun i hi => h i (by omega), h n (by omega)]
theorem frozen_new (w : World) (cs : Array Value) (t : TypeId) (o : Nat) : (w.alloc (.cells cs t)).frozen? ⟨w.heap.size, o, none⟩ = false := by
  simp only [World.frozen?, World.alloc, Array.getElem?_push_size]
  simp
/-- One change laid behind n others: a new row. -/
theorem app28 {E : Nat → El} {n g : Nat} {w : World} (x : El) (ty : TypeId) (h : RwE E n g w) (hn : n ≤ 10000) :
    ∃ cap w', (Builtin.append_ #[28, 28] ty #[.slice (some ⟨g, 0, none⟩) n n, .slice (some ⟨w.heap.size, 0, none⟩) 1 1]).run Try.prog (w.alloc (.cells (e4 x).toArray 51)) = .ok (.slice (some ⟨w.heap.size + 1, 0, none⟩) (n + 1) cap) w' ∧
      RwE (fun i => if i < n then E i else x) (n + 1) (w.heap.size + 1) w' ∧ w.heap.size + 1 < w'.heap.size ∧ Below w.heap.size w w' := by
  obtain ⟨i0, hi0, hz0, hz1, hz2⟩ := info_parts info51
  obtain ⟨W, hW⟩ : ∃ W, W = w.alloc (.cells (e4 x).toArray 51) := ⟨_, rfl⟩
  have hWs : W.heap.size = w.heap.size + 1 := by rw [hW]; simp
  have hg : 0 < n → g < w.heap.size := fun hp => cell_lt (h.1 0 hp).1
  have hol : ∀ j v, (c4 E n)[j]? = some v → W.cell? ((⟨g, 0, none⟩ : Addr).add j) = some v := fun j v hj => by
    have hp : 0 < n := by
      have := (List.getElem?_eq_some_iff.1 hj).1
      rw [c4_len] at this
      omega
    rw [Addr.add_lit, Nat.zero_add, hW]
    exact Lib.cell?_alloc_some _ (c4_cells h j v hj)
  have hnew : ∀ j v, (e4 x)[j]? = some v → W.cell? ((⟨w.heap.size, 0, none⟩ : Addr).add j) = some v := fun j v hj => by
    rw [Addr.add_lit, Nat.zero_add, hW, World.cell?_alloc_mark]
    rw [← hj]
    simp
  have hrun := run_append_grow (P := Try.prog) W 28 ty 51 i0 _ Try.underlying28 hi0 hz0 ⟨g, 0, none⟩ n n (c4 E n) (by rw [hz1]; exact c4_len E n) hol ⟨w.heap.size, 0, none⟩ 1 1 (e4 x) (by rw [hz1]; rfl) hnew (by omega) (by omega)
    (by rw [hz2]; have := nextslicecap_le (need := n + 1) (old := n) (by omega); omega)
  rw [← hW]
  rw [hWs] at hrun
  refine ⟨_, _, hrun, ?_, ?_, ?_⟩
  · have hE : c4 (fun i => if i < n then E i else x) (n + 1) = c4 E n ++ e4 x := by
      show c4 _ n ++ e4 (if n < n then E n else x) = _
      rw [c4_congr (E := E) fun i hi => if_pos hi, if_neg (Nat.lt_irrefl n)]
    have hcell : ∀ j u, (c4 (fun i => if i < n then E i else x) (n + 1))[j]? = some u → ∀ W' cs, W' = W.drew.alloc (.cells ((c4 E n).toArray ++ (e4 x).toArray ++ cs) 51) → W'.cell? ⟨w.heap.size + 1, j, none⟩ = some u := by
      intro j u hj W' cs hW'
      rw [hW', ← hWs, show W.heap.size = W.drew.heap.size from rfl, World.cell?_alloc_mark]
      rw [hE] at hj
      have hlt := (List.getElem?_eq_some_iff.1 hj).1
      rw [Array.getElem?_append_left (by simp at hlt ⊢; omega)]
      rw [← hj]
      simp
    refine ⟨fun i hi => ?_, fun o => ?_⟩
    · have q := c4_at (fun i => if i < n then E i else x) (n + 1) i hi
      exact ⟨hcell (i * 4) _ (q 0 (by omega)) _ _ rfl, hcell (i * 4 + 1) _ (q 1 (by omega)) _ _ rfl, hcell (i * 4 + 2) _ (q 2 (by omega)) _ _ rfl, hcell (i * 4 + 3) _ (q 3 (by omega)) _ _ rfl⟩
    · rw [← hWs]
      exact frozen_new W.drew _ _ _
  · simp [hWs]
  · have h1 : Below w.heap.size w W := by rw [hW]; exact (Below.refl _ _).alloc (Nat.le_refl _) _
    exact (h1.drew).alloc (by show w.heap.size ≤ W.heap.size; omega) _
end Go.Proofs.Qxb6613603a
