import Derived.Test.Qxb6613442aRows
import Derived.WalkKit
import Derived.ProofKit
import Derived.WalkSpells
import Derived.Maps.OwnSet
import Derived.Maps.Views
import Derived.Deep.AppendLies
namespace Go.Proofs.Qxb6613442a
open Go.ChangeShapes Go.WideShapes Go.ChangeAt Go.RowKit Go.Maps Go.WideMaps

/-- One violation that is added: its field, its index, its message. -/
abbrev Ent := ByteArray × Int × ByteArray
/-- Its seven cells. -/
def vc (e : Ent) : List Value := [.string e.1, .slice none 0 0, .int .i64 e.2.1, .string ⟨#[]⟩, .string e.2.2, .slice none 0 0, .pointer none]
theorem vc_len (e : Ent) : (vc e).length = 7 := rfl
def vcs (l : List Ent) : List Value := l.flatMap vc
/-- Those at one field. -/
def grp (s : ByteArray) (l : List Ent) : List Ent := l.filter fun e => e.1.toList == s.toList
theorem vcs_append (l m : List Ent) : vcs (l ++ m) = vcs l ++ vcs m := by simp [vcs]
theorem vcs_len (l : List Ent) : (vcs l).length = l.length * 7 := by
  induction l with
  | nil => rfl
  | cons e l ih =>
    have : vcs (e :: l) = vc e ++ vcs l := by simp [vcs]
    rw [this, List.length_append, vc_len, ih, List.length_cons]
    omega
theorem grp_len (s : ByteArray) (l : List Ent) : (grp s l).length ≤ l.length := List.length_filter_le _ _

theorem toList_inj {a b : ByteArray} (h : a.toList = b.toList) : a = b := by
  rw [ByteArray.toList_eq, ByteArray.toList_eq] at h
  cases a; cases b
  simp_all
theorem grp_same (e : Ent) (l : List Ent) : grp e.1 (l ++ [e]) = grp e.1 l ++ [e] := by
  simp [grp, List.filter_append]
theorem grp_other (s : ByteArray) (e : Ent) (l : List Ent) (h : s ≠ e.1) : grp s (l ++ [e]) = grp s l := by
  have : (e.1.toList == s.toList) = false := beq_eq_false_iff_ne.2 (fun h2 => h (toList_inj h2).symm)
  simp [grp, List.filter_append, this]

/-- How an element of the map reads: as itself. -/
def self (v : Value) : Option (DataW Value × List MemPlace) := some (.held v, [])
def nilS : Value := .slice none 0 0
theorem law : Keyed Try.prog 9 := string_keyed Try.underlying9
def kl (s : ByteArray) : Lit := .string s.data.toList
theorem kl_inj {s t : ByteArray} (h : kl s = kl t) : s = t := by
  simp only [kl, Lit.string.injEq] at h
  cases s; cases t
  simp_all

/-- The map at block M after 'log' has been added: at each key it holds a slice that owns that key's violations; no two lie in one row. -/
def Grps (w : World) (M base n : Nat) (log : List Ent) : Prop :=
  M < base ∧ ∃ (D : DataW Value) (val : ByteArray → Value), w.ownsMap Try.prog 9 self M n D ∧ (∀ s : ByteArray, D.atKey (kl s) (.held nilS) = .held (val s)) ∧
    (∀ s, w.ownsRow base 35 7 (val s) (grp s log).length (vcs (grp s log))) ∧
    ∀ s t, s ≠ t → (val s).ownBlock = none ∨ (val s).ownBlock ≠ (val t).ownBlock

/-- The slice at one key turned. -/
theorem upd_ex (val : ByteArray → Value) (s0 : ByteArray) (v : Value) : ∃ f : ByteArray → Value, f s0 = v ∧ ∀ s, s ≠ s0 → f s = val s := by
  classical
  exact ⟨fun s => if s = s0 then v else val s, if_pos rfl, fun s h => if_neg h⟩

theorem zero32 (w : World) : (zeroValue 32).run Try.prog w = .ok nilS w := by kernel_rfl

theorem grps_made (w : World) (base : Nat) (hb : w.heap.size < base) : Grps (w.alloc (.map #[] 0)) w.heap.size base 0 [] :=
  ⟨hb, _, fun _ => nilS, World.ownsMap_made w _ _ _, fun _ => rfl, fun _ => World.ownsRow_nil _ _ _ _, fun _ _ _ => Or.inl rfl⟩

theorem ownBlock_lt {w : World} {base n : Nat} {v : Value} {xs : List Value} (h : w.ownsRow base 35 7 v n xs) {g : Nat} (hg : v.ownBlock = some g) : base ≤ g ∧ g < w.heap.size := h.lt g hg

/-- Behind whatever leaves the map's block and the rows alone. -/
theorem Grps.kept {w w' : World} {M base n : Nat} {log : List Ent} {row : Option Nat} (h : Grps w M base n log) (hg : w.grownBy w' row) (hM : some M ≠ row) (hr : ∀ g, row = some g → g < base ∨ w.heap.size ≤ g) : Grps w' M base n log := by
  obtain ⟨hb, D, val, hown, hat, hrow, hap⟩ := h
  refine ⟨hb, D, val, hown.kept hg hM, hat, fun s => (hrow s).kept hg ?_, hap⟩
  cases hv : (val s).ownBlock with
  | none => exact Or.inl rfl
  | some g =>
    refine Or.inr (fun e => ?_)
    have h1 := ownBlock_lt (hrow s) hv
    have := hr g e.symm
    omega

/-- The look-up at a key: the slice, what it owns; and the way back. -/
theorem Grps.look {w : World} {M base n : Nat} {log : List Ent} (h : Grps w M base n log) (hn : n < maxLen) (e : Ent) (hs : e.1.size ≤ maxLen) :
    ∃ v, (∀ w1, w.grownBy w1 none → (Instr.lookup 25 (.map (some M)) (.string e.1) false).run Try.prog w1 = .ok v w1) ∧ w.ownsRow base 35 7 v (grp e.1 log).length (vcs (grp e.1 log)) ∧ (v.ownBlock ≠ some M) ∧
      ∀ w1 v', w.grownBy w1 v.ownBlock → w1.ownsRow base 35 7 v' ((grp e.1 log).length + 1) (vcs (grp e.1 log) ++ vc e) → (v'.ownBlock = v.ownBlock ∨ ∃ g, v'.ownBlock = some g ∧ w.heap.size ≤ g) →
        ∃ w2, (Instr.mapUpdate 25 (.map (some M)) (.string e.1) v').run Try.prog w1 = .ok () w2 ∧ Grps w2 M base (n + 1) (log ++ [e]) ∧ w1.grownBy w2 (some M) := by
  obtain ⟨hb, D, val, hown, hat, hrow, hap⟩ := h
  have hkey : keyOf Try.prog 9 (.string e.1) = some (kl e.1) := keyOf_string_mk Try.underlying9 hs
  have hvM : (val e.1).ownBlock ≠ some M := fun h1 => by
    have := ownBlock_lt (hrow e.1) h1
    omega
  refine ⟨val e.1, fun w1 hg => ?_, hrow e.1, hvM, fun w1 v' hg hown' hloc => ?_⟩
  · obtain ⟨v, ps, hrun, hv⟩ := (hown.kept hg (by simp)).lookup law Try.underlying25 (zero32 w1) (zd := .held nilS) (zp := []) rfl hkey
    rw [hat e.1] at hv
    simp only [self, Option.some.injEq, Prod.mk.injEq, DataW.held.injEq] at hv
    rw [hrun, hv.1]
  · have hown1 := hown.kept hg (fun h1 => hvM h1.symm)
    obtain ⟨w2, hrun, hown2, hg2⟩ := hown1.update law Try.underlying25 hn hkey (val := v') (d := .held v') (ps := []) rfl
    have hM := hown1.isMap
    have hv' : ∀ g, v'.ownBlock = some g → base ≤ g := fun g hv => (ownBlock_lt hown' hv).1
    have new_old : ∀ s, s ≠ e.1 → (val s).ownBlock = none ∨ (val s).ownBlock ≠ v'.ownBlock := by
      intro s hs1
      rcases hloc with h1 | ⟨g, h1, h2⟩
      · rw [h1]; exact hap s e.1 hs1
      · cases hv : (val s).ownBlock with
        | none => exact Or.inl rfl
        | some g' =>
          refine Or.inr (fun h3 => ?_)
          have h4 := ownBlock_lt (hrow s) hv
          rw [h1] at h3
          cases h3
          omega
    obtain ⟨f, fsame, fother⟩ := upd_ex val e.1 v'
    refine ⟨w2, hrun, ⟨hb, _, f, hown2, fun s => ?_, fun s => ?_, fun s t hst => ?_⟩, hg2⟩
    · by_cases h1 : s = e.1
      · subst h1
        rw [fsame, Maps.atKey_put_same hM (by exact trivial)]
      · rw [fother _ h1, Maps.atKey_put_other (fun h2 => h1 (kl_inj h2))]
        exact hat s
    · by_cases h1 : s = e.1
      · subst h1
        rw [fsame, grp_same, vcs_append]
        have h2 : vcs [e] = vc e := by simp [vcs]
        rw [h2, List.length_append]
        refine hown'.kept hg2 ?_
        cases hv : v'.ownBlock with
        | none => exact Or.inl rfl
        | some g => exact Or.inr (fun h3 => by have := hv' g hv; cases h3; omega)
      · rw [fother _ h1, grp_other s e log h1]
        refine ((hrow s).kept hg (hap s e.1 h1)).kept hg2 ?_
        cases hv : (val s).ownBlock with
        | none => exact Or.inl rfl
        | some g => exact Or.inr (fun h3 => by have := ownBlock_lt (hrow s) hv; cases h3; omega)
    · by_cases h1 : s = e.1
      · have h2 : t ≠ e.1 := fun h3 => hst (h1.trans h3.symm)
        rw [h1, fsame, fother _ h2]
        rcases new_old t h2 with h3 | h3
        · cases hv : v'.ownBlock with
          | none => exact Or.inl rfl
          | some g => rw [h3]; exact Or.inr (by simp)
        · exact Or.inr (fun h4 => h3 h4.symm)
      · rw [fother _ h1]
        by_cases h2 : t = e.1
        · rw [h2, fsame]; exact new_old s h1
        · rw [fother _ h2]; exact hap s t hst
end Go.Proofs.Qxb6613442a
