import Derived.Test.Qxb6613442aZz
import Derived.Test.Qxb6613442aAdd
namespace Go.Proofs.Qxb6613442a
open Go.ChangeShapes Go.WideShapes Go.ChangeAt Go.RowKit Go.Maps Go.WideMaps

/-- The violation that the script's position j adds. -/
def ent (ss0 : List ByteArray) (zs : List Int) (ss2 : List ByteArray) (j : Nat) : Ent := (ss0.getD j ByteArray.empty, zs.getD j 0, ss2.getD j ByteArray.empty)
def lg (ss0 : List ByteArray) (zs : List Int) (ss2 : List ByteArray) (k : Nat) : List Ent := (List.range k).map (ent ss0 zs ss2)

section
variable {ss0 : List ByteArray} {zs : List Int} {ss2 : List ByteArray}
theorem lg_succ (k : Nat) : lg ss0 zs ss2 (k + 1) = lg ss0 zs ss2 k ++ [ent ss0 zs ss2 k] := by simp [lg, List.range_succ]
theorem lg_len (k : Nat) : (lg ss0 zs ss2 k).length = k := by simp [lg]
theorem gp_hit {p : ByteArray} {k : Nat} (h : ss0.getD k ByteArray.empty = p) : grp p (lg ss0 zs ss2 (k + 1)) = grp p (lg ss0 zs ss2 k) ++ [ent ss0 zs ss2 k] := by
  rw [lg_succ]
  have := grp_same (ent ss0 zs ss2 k) (lg ss0 zs ss2 k)
  rw [show (ent ss0 zs ss2 k).1 = p from h] at this
  exact this
theorem gp_miss {p : ByteArray} {k : Nat} (h : ss0.getD k ByteArray.empty ≠ p) : grp p (lg ss0 zs ss2 (k + 1)) = grp p (lg ss0 zs ss2 k) := by
  rw [lg_succ]
  exact grp_other p _ _ (fun h2 => h h2.symm)
theorem gp_mono {p : ByteArray} {k n : Nat} (h : k ≤ n) : ∃ r, grp p (lg ss0 zs ss2 n) = grp p (lg ss0 zs ss2 k) ++ r := by
  induction n with
  | zero => obtain rfl : k = 0 := by omega
            exact ⟨[], by simp⟩
  | succ n ih =>
    by_cases hk : k ≤ n
    · obtain ⟨r, hr⟩ := ih hk
      by_cases hq : ss0.getD n ByteArray.empty = p
      · exact ⟨r ++ [ent ss0 zs ss2 n], by rw [gp_hit hq, hr, List.append_assoc]⟩
      · exact ⟨r, by rw [gp_miss hq, hr]⟩
    · obtain rfl : k = n + 1 := by omega
      exact ⟨[], by simp⟩
theorem gp_at {p : ByteArray} {k n : Nat} (hk : k < n) (h : ss0.getD k ByteArray.empty = p) : (grp p (lg ss0 zs ss2 k)).length < (grp p (lg ss0 zs ss2 n)).length ∧
    ∀ j, j < 7 → (vcs (grp p (lg ss0 zs ss2 n)))[(grp p (lg ss0 zs ss2 k)).length * 7 + j]? = (vc (ent ss0 zs ss2 k))[j]? := by
  obtain ⟨r, hr⟩ := gp_mono (ss0 := ss0) (zs := zs) (ss2 := ss2) (p := p) (show k + 1 ≤ n from hk)
  rw [gp_hit h] at hr
  refine ⟨by rw [hr]; simp, fun j hj => ?_⟩
  rw [hr, vcs_append, vcs_append, List.append_assoc, List.getElem?_append_right (by rw [vcs_len]; omega), vcs_len]
  have e : vcs [ent ss0 zs ss2 k] = vc (ent ss0 zs ss2 k) := by simp [vcs]
  rw [e, List.getElem?_append_left (by rw [vc_len]; omega)]
  congr 1
  omega
end

/-- What holds behind k rounds of Add. -/
def St (B F : Nat) (log : List Ent) (k : Nat) (w wr : World) : Prop :=
  Below B w wr ∧ F < wr.heap.size ∧ ((k = 0 ∧ wr.cell? ⟨F, 0, none⟩ = some (.map none) ∧ wr.frozen? ⟨F, 0, none⟩ = false) ∨
    ∃ M base, 0 < k ∧ B ≤ M ∧ F < base ∧ M < base ∧ base ≤ wr.heap.size ∧ F ≠ M ∧ Grps wr M base k log ∧ wr.cell? ⟨F, 0, none⟩ = some (.map (some M)))

theorem St.drew {B F : Nat} {log : List Ent} {k : Nat} {w wr : World} (h : St B F log k w wr) : St B F log k w wr.drew := ⟨h.1.drew, h.2.1, h.2.2⟩
theorem St.old {B F : Nat} {log : List Ent} {k : Nat} {w wr : World} (h : St B F log k w wr) {b o : Nat} (hb : b < B) : wr.cell? ⟨b, o, none⟩ = w.cell? ⟨b, o, none⟩ := h.1.cell (p := ⟨b, o, none⟩) hb

/-- Add, from St to St. -/
theorem add_st (B F : Nat) (log : List Ent) (k : Nat) (s : ByteArray) (i : Int) (m : ByteArray) (w wr : World) (hSt : St B F log k w wr) (hk : k ≤ 1000000) (hlog : log.length = k) (hBF : B ≤ F) (hs : s.size ≤ maxLen) :
    Calls Try.prog 5 #[.pointer (some ⟨F, 0, none⟩), .agg #[.string s, .slice none 0 0, .int .i64 i, .string ⟨#[]⟩, .string m, .slice none 0 0, .pointer none]] wr
      fun e' w' => e' = .returned (.tuple #[]) ∧ St B F (log ++ [(s, i, m)]) (k + 1) w w' := by
  obtain ⟨hb, hF, ⟨rfl, hc, hf⟩ | ⟨M, base, hk0, hBM, hFb, hMb, hbs, hFM, hG, hc⟩⟩ := hSt
  · have hl0 : log = [] := List.length_eq_zero_iff.1 hlog
    subst hl0
    refine (add_none B F (wr.heap.size + 1) (wr.heap.size + 2) s i m wr hc hf hF hs hBF rfl rfl).mono ?_
    rintro e w' ⟨rfl, hG, hc', hb'⟩
    have hsz : wr.heap.size + 2 ≤ w'.heap.size := by obtain ⟨_, D, val, hown, _⟩ := hG; have := hown.lt; omega
    exact ⟨rfl, hb.trans hb', by omega, Or.inr ⟨_, _, by omega, by omega, by omega, by omega, hsz, by omega, hG, hc'⟩⟩
  · refine (add_some B F M base k s i m log wr hc hG hk (by omega) hFb hMb hbs hs hBF hBM hFM).mono ?_
    rintro e w' ⟨rfl, hG, hc', hb'⟩
    have := hb'.size
    exact ⟨rfl, hb.trans hb', by omega, Or.inr ⟨M, base, by omega, hBM, hFb, hMb, by omega, hFM, hG, hc'⟩⟩

/-- The slice that 'of' hands back, as the last loop sees it. -/
def Got (w : World) (ao : Option Addr) (n : Nat) (xs : List Value) : Prop :=
  xs.length = n * 7 ∧ (0 < n → ∃ g, ao = some ⟨g, 0, none⟩ ∧ g < w.heap.size ∧ ∀ j, j < n * 7 → w.cell? ⟨g, j, none⟩ = xs[j]?)

theorem got_of_row {w : World} {base n : Nat} {v : Value} {xs : List Value} (h : w.ownsRow base 35 7 v n xs) : ∃ ao cap, v = .slice ao n cap ∧ Got w ao n xs := by
  obtain ⟨hl, ⟨rfl, rfl⟩ | ⟨g, cap, cur, rfl, _, hh, hn, _, hc, ht⟩⟩ := h
  · exact ⟨none, 0, rfl, hl, fun h => absurd h (by omega)⟩
  · refine ⟨_, cap, rfl, hl, fun _ => ⟨g, rfl, ?_, fun j hj => ?_⟩⟩
    · exact (Array.getElem?_eq_some_iff.1 hh).1
    · have e : w.cell? ⟨g, j, none⟩ = cur[j]? := by simp [World.cell?, hh]
      rw [e, ← ht, List.getElem?_take, if_pos hj]
      simp

theorem of_st (B F : Nat) (log : List Ent) (k : Nat) (p : ByteArray) (w wr : World) (hSt : St B F log k w wr) (hk : k ≤ 1000000) (hlog : log.length = k) (hp : p.size ≤ maxLen) :
    ∃ ao cap, Got wr ao (grp p log).length (vcs (grp p log)) ∧
      Calls Try.prog 6 #[.pointer (some ⟨F, 0, none⟩), .string p] wr fun e w' => e = .returned (.slice ao (grp p log).length cap) ∧ w' = wr := by
  obtain ⟨hb, hF, ⟨rfl, hc, hf⟩ | ⟨M, base, hk0, hBM, hFb, hMb, hbs, hFM, hG, hc⟩⟩ := hSt
  · have hl0 : log = [] := List.length_eq_zero_iff.1 hlog
    subst hl0
    exact ⟨none, 0, ⟨rfl, fun h => absurd h (by simp [grp])⟩, of_none F p wr hc hp⟩
  · obtain ⟨v, hlook, hrow, _⟩ := hG.look (by unfold maxLen; omega) (p, 0, p) hp
    obtain ⟨ao, cap, rfl, hgot⟩ := got_of_row hrow
    exact ⟨ao, cap, hgot, of_some F M p _ wr hc (hlook wr (World.grownBy.refl _ _))⟩

/-- The seven cells that the last loop reads at a hit. -/
theorem got_at {ss0 ss2 : List ByteArray} {zs : List Int} {p : ByteArray} {j n q gn : Nat} {w wr : World} {ao : Option Addr} (hG : Got w ao gn (vcs (grp p (lg ss0 zs ss2 n)))) (hgn : gn = (grp p (lg ss0 zs ss2 n)).length) (hq : q = (grp p (lg ss0 zs ss2 j)).length)
    (hj : j < n) (hit : ss0.getD j ByteArray.empty = p) (hb : Below w.heap.size w wr) {z : Int} {m : ByteArray} (hz : zs.getD j 0 = z) (hm : ss2.getD j ByteArray.empty = m) :
    q < gn ∧ ∃ g, ao = some ⟨g, 0, none⟩ ∧ wr.cell? ⟨g, q * 7, none⟩ = some (.string p) ∧ wr.cell? ⟨g, q * 7 + 1, none⟩ = some (.slice none 0 0) ∧ wr.cell? ⟨g, q * 7 + 2, none⟩ = some (.int .i64 z) ∧ wr.cell? ⟨g, q * 7 + 3, none⟩ = some (.string ⟨#[]⟩) ∧
      wr.cell? ⟨g, q * 7 + 4, none⟩ = some (.string m) ∧ wr.cell? ⟨g, q * 7 + 5, none⟩ = some (.slice none 0 0) ∧ wr.cell? ⟨g, q * 7 + 6, none⟩ = some (.pointer none) := by
  obtain ⟨h1, h2⟩ := gp_at (zs := zs) (ss2 := ss2) hj hit
  have hlt : q < gn := by omega
  obtain ⟨g, ha, hg, hc⟩ := hG.2 (by omega)
  have key : ∀ t, t < 7 → wr.cell? ⟨g, q * 7 + t, none⟩ = (vc (ent ss0 zs ss2 j))[t]? := fun t ht => by
    rw [hb.cell (p := ⟨g, q * 7 + t, none⟩) hg, hc _ (by omega), hq]
    exact h2 t ht
  have k0 := key 0 (by omega)
  have k1 := key 1 (by omega)
  have k2 := key 2 (by omega)
  have k3 := key 3 (by omega)
  have k4 := key 4 (by omega)
  have k5 := key 5 (by omega)
  have k6 := key 6 (by omega)
  simp only [vc, ent, hit, hz, hm, Nat.add_zero, List.getElem?_cons_zero, List.getElem?_cons_succ] at k0 k1 k2 k3 k4 k5 k6
  exact ⟨hlt, g, ha, k0, k1, k2, k3, k4, k5, k6⟩
end Go.Proofs.Qxb6613442a
