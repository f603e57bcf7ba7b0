/-
  Lists of pairs of numbers in memory (structs of two numbers). No program in sight.
-/
import Derived.Test.YtkjknjigjdpkoaaBase
namespace Go.Proofs.Ytkjknjigjdpkoaa
open Go.RowKit
set_option linter.unusedVariables false

/-- the cells of a list of pairs -/
def pv : List (Int × Int) → List Value
  | [] => []
  | p :: ps => .int .i64 p.1 :: .int .i64 p.2 :: pv ps
theorem pv_len (ps : List (Int × Int)) : (pv ps).length = ps.length * 2 := by
  induction ps with
  | nil => rfl
  | cons p ps ih => simp only [pv, List.length_cons, ih]; omega
theorem pv_append (ps qs : List (Int × Int)) : pv (ps ++ qs) = pv ps ++ pv qs := by
  induction ps with
  | nil => rfl
  | cons p ps ih => simp only [List.cons_append, pv, ih]
theorem pv_get0 (ps : List (Int × Int)) (k : Nat) : (pv ps)[k * 2]? = (ps[k]?).map fun p => Value.int .i64 p.1 := by
  induction ps generalizing k with
  | nil => simp [pv]
  | cons p ps ih =>
    cases k with
    | zero => simp [pv]
    | succ k => rw [show (k + 1) * 2 = k * 2 + 1 + 1 by omega, pv, List.getElem?_cons_succ, List.getElem?_cons_succ, ih k, List.getElem?_cons_succ]
theorem pv_get1 (ps : List (Int × Int)) (k : Nat) : (pv ps)[k * 2 + 1]? = (ps[k]?).map fun p => Value.int .i64 p.2 := by
  induction ps generalizing k with
  | nil => simp [pv]
  | cons p ps ih =>
    cases k with
    | zero => simp [pv]
    | succ k => rw [show (k + 1) * 2 + 1 = k * 2 + 1 + 1 + 1 by omega, pv, List.getElem?_cons_succ, List.getElem?_cons_succ, ih k, List.getElem?_cons_succ]
theorem pv_take (ps : List (Int × Int)) (k : Nat) : pv (ps.take k) = (pv ps).take (k * 2) := by
  induction ps generalizing k with
  | nil => simp [pv]
  | cons p ps ih =>
    cases k with
    | zero => simp [pv]
    | succ k => rw [show (k + 1) * 2 = k * 2 + 1 + 1 by omega, List.take_succ_cons, pv, pv, List.take_succ_cons, List.take_succ_cons, ih k]
theorem pv_drop (ps : List (Int × Int)) (k : Nat) : pv (ps.drop k) = (pv ps).drop (k * 2) := by
  induction ps generalizing k with
  | nil => simp [pv]
  | cons p ps ih =>
    cases k with
    | zero => simp [pv]
    | succ k => rw [show (k + 1) * 2 = k * 2 + 1 + 1 by omega, List.drop_succ_cons, pv, List.drop_succ_cons, List.drop_succ_cons, ih k]
theorem pv_one (ps : List (Int × Int)) : ∀ u ∈ pv ps, u.oneCell' = true := by
  induction ps with
  | nil => intro u hu; simp [pv] at hu
  | cons p ps ih =>
    intro u hu
    simp only [pv, List.mem_cons] at hu
    rcases hu with rfl | rfl | hu
    · rfl
    · rfl
    · exact ih u hu
theorem pv_set (ps : List (Int × Int)) (k : Nat) (x y : Int) : ((pv ps).set (k * 2) (.int .i64 x)).set (k * 2 + 1) (.int .i64 y) = pv (ps.set k (x, y)) := by
  induction ps generalizing k with
  | nil => simp [pv]
  | cons p ps ih =>
    cases k with
    | zero => simp [pv]
    | succ k => rw [show (k + 1) * 2 = k * 2 + 1 + 1 by omega, pv, List.set_cons_succ, List.set_cons_succ, List.set_cons_succ, List.set_cons_succ, ih k, List.set_cons_succ, pv]
theorem pv_inj {ps qs : List (Int × Int)} (h : pv ps = pv qs) : ps = qs := by
  induction ps generalizing qs with
  | nil => cases qs with
    | nil => rfl
    | cons q qs => simp [pv] at h
  | cons p ps ih => cases qs with
    | nil => simp [pv] at h
    | cons q qs =>
      simp only [pv, List.cons.injEq, Value.int.injEq, true_and] at h
      obtain ⟨h1, h2, h3⟩ := h
      rw [ih h3, show p = q from Prod.ext h1 h2]
/-- a pair of a list that reads -/
theorem Sees.pair {w : World} {A : Option Addr} {n : Nat} {ps : List (Int × Int)} (h : Sees w A n 2 (pv ps)) {k : Nat} (hk : k < n) :
    ∃ b off x y, A = some ⟨b, off, none⟩ ∧ b < w.heap.size ∧ Hid (ps[k]? = some (x, y)) ∧ w.cell? ⟨b, off + k * 2, none⟩ = some (.int .i64 x) ∧ w.cell? ⟨b, off + k * 2 + 1, none⟩ = some (.int .i64 y) := by
  have hl := h.len
  rw [pv_len] at hl
  have hk' : k < ps.length := by omega
  have e0 : (pv ps)[0 * 2]? = some (.int .i64 (ps[0]'(by omega)).1) := by rw [pv_get0, List.getElem?_eq_getElem (by omega)]; rfl
  have e1 : (pv ps)[k * 2]? = some (.int .i64 (ps[k]'hk').1) := by rw [pv_get0, List.getElem?_eq_getElem hk']; rfl
  have e2 : (pv ps)[k * 2 + 1]? = some (.int .i64 (ps[k]'hk').2) := by rw [pv_get1, List.getElem?_eq_getElem hk']; rfl
  obtain ⟨ad, hA, hb, hc0⟩ := h.2 _ _ e0
  obtain ⟨ad1, hA1, _, hc1⟩ := h.2 _ _ e1
  obtain ⟨ad2, hA2, _, hc2⟩ := h.2 _ _ e2
  rw [hA] at hA1 hA2
  obtain rfl := Option.some.inj hA1
  obtain rfl := Option.some.inj hA2
  obtain ⟨b, off, sp⟩ := ad
  have hsp : sp = none := by
    rw [Nat.zero_mul, Addr.add_zero'] at hc0
    unfold World.cell? at hc0
    split at hc0
    · split at hc0
      · cases hc0
      · cases sp with
        | none => rfl
        | some s => simp at *
    · cases hc0
  subst hsp
  rw [Addr.add_lit] at hc1 hc2
  exact ⟨b, off, _, _, hA, hb, List.getElem?_eq_getElem hk', hc1, by rw [Nat.add_assoc]; exact hc2⟩
/-- a pair of an owned row, and that it may be written -/
theorem Row.pair {w : World} {lo hi : Nat} {A : Option Addr} {e : TypeId} {n c k : Nat} {ps : List (Int × Int)} (h : Row w lo hi e 2 A n c (pv ps)) (hk : k < n) :
    ∃ g x y, A = some ⟨g, 0, none⟩ ∧ lo ≤ g ∧ g < hi ∧ Hid (ps[k]? = some (x, y)) ∧ w.cell? ⟨g, k * 2, none⟩ = some (.int .i64 x) ∧ w.cell? ⟨g, k * 2 + 1, none⟩ = some (.int .i64 y) ∧ w.frozen? ⟨g, k * 2, none⟩ = false ∧ w.frozen? ⟨g, k * 2 + 1, none⟩ = false := by
  obtain ⟨g, rfl, h1, h2⟩ := h.form (by omega)
  have hl := h.len
  rw [pv_len] at hl
  have hk' : k < ps.length := by omega
  have c1 := h.1.cellAt (k * 2) (by omega)
  have c2 := h.1.cellAt (k * 2 + 1) (by omega)
  rw [pv_get0, List.getElem?_eq_getElem hk'] at c1
  rw [pv_get1, List.getElem?_eq_getElem hk'] at c2
  exact ⟨g, _, _, rfl, h1, h2, List.getElem?_eq_getElem hk', c1, c2, h.1.frozenAt _, h.1.frozenAt _⟩
/-- k, k + 1, .., in pairs -/
def uptoP (k : Int) (n : Nat) : List (Int × Int) := (List.range n).map fun (j : Nat) => (k + 2 * (j : Int), k + 2 * (j : Int) + 1)
theorem uptoP_len (k : Int) (n : Nat) : (uptoP k n).length = n := by simp [uptoP]
theorem uptoP_get (k : Int) {n j : Nat} (h : j < n) : (uptoP k n)[j]? = some (k + 2 * (j : Int), k + 2 * (j : Int) + 1) := by simp [uptoP, h]
theorem pmark_step (ps : List (Int × Int)) (k : Int) (j n : Nat) (hn : ps.length = n) (hj : j < n) :
    (uptoP k j ++ ps.drop j).set j (k + 2 * (j : Int), k + 2 * (j : Int) + 1) = uptoP k (j + 1) ++ ps.drop (j + 1) := by
  rw [List.set_append_right _ _ (by rw [uptoP_len]; exact Nat.le_refl _), uptoP_len, Nat.sub_self, List.drop_eq_getElem_cons (by omega), List.set_cons_zero]
  have h2 : uptoP k (j + 1) = uptoP k j ++ [(k + 2 * (j : Int), k + 2 * (j : Int) + 1)] := by simp [uptoP, List.range_succ]
  rw [h2, List.append_assoc]
  rfl
theorem Sees.plen {w : World} {A : Option Addr} {n : Nat} {ps : List (Int × Int)} (h : Sees w A n 2 (pv ps)) : ps.length = n := by
  have := h.len
  rw [pv_len] at this
  omega
theorem Blk.of_full {w : World} {lo : Nat} {e : TypeId} {sz g n : Nat} {xs : List Value} (h : w.ownsRow lo e sz (.slice (some ⟨g, 0, none⟩) n n) n xs) : Blk w g e xs := by
  rcases h.2 with ⟨hv, _⟩ | ⟨g', cap, cur, hv, _, hg, _, _, hs, ht⟩
  · cases hv
  · injection hv with hv _ hc
    injection hv with hv
    injection hv with hv
    subst hv hc
    rw [List.take_of_length_le (by simp [hs])] at ht
    subst ht
    simpa [Blk] using hg
theorem made_pairs (z : Value) (n : Nat) (hz : z.cells = #[.int .i64 0, .int .i64 0]) : (madeCells z.cells (n * 2)).toList = pv (List.replicate n (0, 0)) := by
  refine List.ext_getElem? fun j => ?_
  by_cases hj : j < n * 2
  · have h1 : (madeCells z.cells (n * 2)).toList[j]? = some (.int .i64 0) := by
      rw [hz]
      rcases Nat.mod_two_eq_zero_or_one j with h | h <;> simp [madeCells, hj, h]
    rw [h1]
    rcases Nat.mod_two_eq_zero_or_one j with h | h
    · rw [show j = j / 2 * 2 by omega, pv_get0, List.getElem?_replicate, if_pos (by omega)]
      rfl
    · rw [show j = j / 2 * 2 + 1 by omega, pv_get1, List.getElem?_replicate, if_pos (by omega)]
      rfl
  · rw [List.getElem?_eq_none (by simp [madeCells]; omega), List.getElem?_eq_none (by rw [pv_len, List.length_replicate]; omega)]
theorem pcopied_step (ps : List (Int × Int)) (k n : Nat) (x y : Int) (hn : ps.length = n) (hk : k < n) (hx : ps[k]? = some (x, y)) :
    (ps.take k ++ List.replicate (n - k) (0, 0)).set k (x, y) = ps.take (k + 1) ++ List.replicate (n - (k + 1)) (0, 0) := by
  obtain ⟨h1, h2⟩ := List.getElem?_eq_some_iff.1 hx
  have hl : (ps.take k).length = k := by rw [List.length_take]; omega
  rw [show n - k = (n - (k + 1)) + 1 by omega, List.replicate_succ, List.set_append_right _ _ (by omega), hl, Nat.sub_self, List.set_cons_zero, List.take_succ_eq_append_getElem h1, h2, List.append_assoc]
  rfl
theorem ptake_more {ps qs : List (Int × Int)} {k : Nat} {p q : Int × Int} (h : ps.take k = qs.take k) (hx : ps[k]? = some p) (hy : qs[k]? = some q) (e : p = q) : ps.take (k + 1) = qs.take (k + 1) := by
  obtain ⟨h1, rfl⟩ := List.getElem?_eq_some_iff.1 hx
  obtain ⟨h2, rfl⟩ := List.getElem?_eq_some_iff.1 hy
  rw [List.take_succ_eq_append_getElem h1, List.take_succ_eq_append_getElem h2, h, e]
theorem pdiffer_at {ps qs : List (Int × Int)} {k : Nat} {p q : Int × Int} (hx : ps[k]? = some p) (hy : qs[k]? = some q) (e : ¬ p = q) : ¬ ps = qs := by
  rintro rfl
  rw [hx] at hy
  exact e (Option.some.inj hy)
theorem ptake_all {ps qs : List (Int × Int)} {k n : Nat} (h : ps.take k = qs.take k) (hx : ps.length = n) (hy : qs.length = n) (hk : n ≤ k) : ps = qs := by
  rw [List.take_of_length_le (by omega), List.take_of_length_le (by omega)] at h
  exact h
end Go.Proofs.Ytkjknjigjdpkoaa
