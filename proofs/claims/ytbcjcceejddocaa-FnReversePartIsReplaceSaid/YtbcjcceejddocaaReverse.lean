/-
  Contracts: slices.Reverse and what is made of it.
-/
import Derived.Test.YtbcjcceejddocaaSmall
import Derived.BigRegion
namespace Go.Proofs.Ytbcjcceejddocaa
open Go.RowKit
set_option linter.unusedVariables false

/-- the first k numbers and the last k are exchanged -/
def revd (k : Nat) (xs : List Int) : List Int := (List.range xs.length).map fun (t : Nat) => if t < k ∨ xs.length - 1 - k < t then xs.getD (xs.length - 1 - t) 0 else xs.getD t 0
theorem revd_len (k : Nat) (xs : List Int) : (revd k xs).length = xs.length := by simp [revd]
theorem revd_get (k : Nat) (xs : List Int) {t : Nat} (h : t < xs.length) : (revd k xs)[t]? = some (if t < k ∨ xs.length - 1 - k < t then xs.getD (xs.length - 1 - t) 0 else xs.getD t 0) := by simp [revd, h]
theorem revd_zero (xs : List Int) : revd 0 xs = xs := by
  refine List.ext_getElem? fun t => ?_
  by_cases h : t < xs.length
  · rw [revd_get 0 xs h, if_neg (by omega), List.getD_eq_getElem?_getD, List.getElem?_eq_getElem h]
    rfl
  · rw [List.getElem?_eq_none (by rw [revd_len]; omega), List.getElem?_eq_none (by omega)]
theorem revd_end (k : Nat) (xs : List Int) (h1 : xs.length ≤ 2 * k + 1) (h2 : 2 * k ≤ xs.length) : revd k xs = xs.reverse := by
  refine List.ext_getElem? fun t => ?_
  by_cases h : t < xs.length
  · rw [revd_get k xs h, List.getElem?_reverse h, List.getElem?_eq_getElem (by omega)]
    split
    · rw [List.getD_eq_getElem?_getD, List.getElem?_eq_getElem (by omega)]
      rfl
    · have e : xs.length - 1 - t = t := by omega
      simp only [e]
      rw [List.getD_eq_getElem?_getD, List.getElem?_eq_getElem h]
      rfl
  · rw [List.getElem?_eq_none (by rw [revd_len]; omega), List.getElem?_eq_none (by rw [List.length_reverse]; omega)]
theorem revd_step (k : Nat) (xs : List Int) (h : 2 * k + 1 < xs.length) {x y : Int} (hx : (revd k xs)[k]? = some x) (hy : (revd k xs)[xs.length - 1 - k]? = some y) :
    ((revd k xs).set k y).set (xs.length - 1 - k) x = revd (k + 1) xs := by
  rw [revd_get k xs (by omega), if_neg (by omega)] at hx hy
  obtain rfl := Option.some.inj hx
  obtain rfl := Option.some.inj hy
  refine List.ext_getElem? fun t => ?_
  by_cases ht : t < xs.length
  · rw [revd_get (k + 1) xs ht, List.getElem?_set, List.getElem?_set, revd_get k xs ht, List.length_set, revd_len]
    by_cases h1 : xs.length - 1 - k = t
    · rw [if_pos h1, if_pos (by omega), if_pos (by omega), ← h1, show xs.length - 1 - (xs.length - 1 - k) = k by omega]
    · rw [if_neg h1]
      by_cases h2 : k = t
      · rw [if_pos h2, if_pos (by omega), if_pos (by omega), h2]
      · rw [if_neg h2]
        congr 1
        by_cases h3 : t < k ∨ xs.length - 1 - k < t
        · rw [if_pos h3, if_pos (by omega)]
        · rw [if_neg h3, if_neg (by omega)]
  · rw [List.getElem?_eq_none (by simp only [List.length_set, revd_len]; omega), List.getElem?_eq_none (by rw [revd_len]; omega)]
theorem mid_get {pre post : List Value} {zs : List Int} {off t : Nat} {x : Int} (ho : pre.length = off) (h : zs[t]? = some x) : (pre ++ iv zs ++ post)[off + t]? = some (.int .i64 x) := by
  have ht := (List.getElem?_eq_some_iff.1 h).1
  rw [List.append_assoc, List.getElem?_append_right (by omega), List.getElem?_append_left (by rw [iv_len]; omega), ← ho, Nat.add_sub_cancel_left, iv_get, h]
  rfl
theorem mid_set {pre post : List Value} {zs : List Int} {off t : Nat} (x : Int) (ho : pre.length = off) (ht : t < zs.length) : (pre ++ iv zs ++ post).set (off + t) (.int .i64 x) = pre ++ iv (zs.set t x) ++ post := by
  rw [List.append_assoc, List.set_append_right _ _ (by omega), List.set_append_left _ _ (by rw [iv_len]; omega), ← ho, Nat.add_sub_cancel_left, List.append_assoc]
  simp [iv, List.map_set]

set_option maxHeartbeats 1000000 in
theorem Reverse_blk (g off n c : Nat) (e0 : TypeId) (pre post : List Value) (xs : List Int) (w : World) (hb : Blk w g e0 (pre ++ iv xs ++ post)) (ho : pre.length = off) (hx : xs.length = n) (hn : n ≤ 70368744177664) :
    Calls Try.prog 40 #[.slice (some ⟨g, off, none⟩) n c] w fun e w' =>
      e = .returned (.tuple #[]) ∧ Blk w' g e0 (pre ++ iv xs.reverse ++ post) ∧ Only g (g + 1) w w' ∧ w'.heap.size ≤ w.heap.size := by
  have HO := hide ho
  have HX := hide hx
  clear ho hx
  go_enter Try.func40, Try.ntmps40
  go_wp2
  go_loopw [2, 3] (fun i j wr => ∃ k : Nat, 2 * k ≤ n ∧ i = .int .i64 k ∧ j = .int .i64 ((n : Int) - 1 - (k : Int)) ∧ Blk wr g e0 (pre ++ iv (revd k xs) ++ post) ∧ Only g (g + 1) w wr ∧ wr.heap.size ≤ w.heap.size) (fun i _ _ => n - (intOf i).toNat)
  case atStart =>
    refine ⟨0, by omega, rfl, by simp, ?_, Only.refl _ _ _, Nat.le_refl _⟩
    rw [revd_zero]
    exact hb
  case round =>
    obtain ⟨k, hk, rfl, rfl, hbk, hok, hsz⟩ := hrel
    by_cases hlt : 2 * k + 1 < n
    · obtain ⟨x, HX1⟩ : ∃ x, Hid ((revd k xs)[k]? = some x) := ⟨_, revd_get k xs (by rw [HX.out]; omega)⟩
      obtain ⟨y, HY1⟩ : ∃ y, Hid ((revd k xs)[n - 1 - k]? = some y) := ⟨_, revd_get k xs (by rw [HX.out]; omega)⟩
      have c1 := hbk.cell (mid_get HO.out HX1.out)
      have c2 := hbk.cell (mid_get HO.out HY1.out)
      have f1 := hbk.frozen (off + k)
      have f2 := hbk.frozen (off + (n - 1 - k))
      have hne : off + k ≠ off + (n - 1 - k) := by omega
      go_wp2_with fail
      go_region
      go_wp2
      go_roundw
      case rel =>
        have h1 := (hbk.set (off + k) (.int .i64 y)).set (off + (n - 1 - k)) (.int .i64 x)
        rw [mid_set y HO.out (by rw [revd_len, HX.out]; omega), mid_set x HO.out (by rw [List.length_set, revd_len, HX.out]; omega)] at h1
        have h2 := revd_step k xs (by rw [HX.out]; exact hlt) HX1.out (by rw [HX.out]; exact HY1.out)
        rw [HX.out] at h2
        rw [h2] at h1
        refine ⟨k + 1, by omega, by go_num, by go_num, ?_, ?_, ?_⟩
        · exact h1
        · exact (((hok.setCell (p := ⟨g, off + k, none⟩) (Nat.le_refl _) (Nat.lt_succ_self _) _).setCell (p := ⟨g, off + (n - 1 - k), none⟩) (Nat.le_refl _) (Nat.lt_succ_self _) _).drew)
        · simpa using hsz
      case measure => simp [intOf]; omega
    · go_wp2
      go_end0
      refine ⟨rfl, ?_, hok, hsz⟩
      rw [← revd_end k xs (by rw [HX.out]; omega) (by rw [HX.out]; exact hk)]
      exact hbk

theorem Reverse_none (A : Option Addr) (c : Nat) (w : World) :
    Calls Try.prog 40 #[.slice A 0 c] w fun e w' => e = .returned (.tuple #[]) ∧ w = w' := by
  go_enter Try.func40, Try.ntmps40
  go_wp2
  refine wp_loop_rounds 1 ?_
  rw [rounds_succ]
  go_wp2
  go_end0
  exact ⟨rfl, rfl⟩

/-- a row of the call's own, whole -/
theorem Reverse_row (A : Option Addr) (lo hi n c : Nat) (xs : List Int) (w : World) (hr : Row w lo hi 3 1 A n c (iv xs)) (hn : n ≤ 70368744177664) :
    Calls Try.prog 40 #[.slice A n c] w fun e w' =>
      e = .returned (.tuple #[]) ∧ Row w' lo hi 3 1 A n c (iv xs.reverse) ∧ Only lo hi w w' := by
  have hx := hr.sees.ilen
  cases A with
  | none =>
    have h0 : n = 0 := by
      rcases Nat.eq_zero_or_pos n with h | h
      · exact h
      · obtain ⟨g, hg, _⟩ := hr.form h
        cases hg
    subst h0
    have hxs : xs = [] := List.eq_nil_of_length_eq_zero hx
    subst hxs
    refine (Reverse_none _ c w).mono ?_
    rintro e w' ⟨rfl, rfl⟩
    exact ⟨rfl, hr, Only.refl _ _ _⟩
  | some ad =>
    have hcap := hr.cap
    obtain ⟨g, post, hA, hlo, hhi, hb, hl⟩ := hr.block rfl
    rw [hA]
    refine (Reverse_blk g 0 n c 3 [] post xs w hb rfl hx hn).mono ?_
    rintro e w' ⟨rfl, hb', ho, hs⟩
    refine ⟨rfl, ?_, ⟨ho.os, ho.tape, ho.output, ho.size, fun k hk h => ho.block k hk (by omega)⟩⟩
    rw [List.nil_append] at hb'
    refine Row.of_blk hb' ?_ (by rw [iv_len, List.length_reverse, hx, Nat.mul_one]) hcap.1 hcap.2 hlo hhi (Nat.le_trans hr.2.2 ho.size)
    rw [← hl]
    simp [iv]

set_option maxHeartbeats 400000 in
theorem ReverseInts_any (A : Option Addr) (n c : Nat) (xs : List Int) (w : World) (hs : Sees w A n 1 (iv xs)) (hn : n ≤ 17592186044416) :
    Calls Try.prog 27 #[.slice A n c] w fun e w' =>
      ∃ A' c', e = .returned (.slice A' n c') ∧ Row w' w.heap.size w'.heap.size 3 1 A' n c' (iv xs.reverse) ∧ Below w.heap.size w w' := by
  go_enter Try.func27, Try.ntmps27
  go_wp2_with fail
  refine (numbers_any A n c xs _ hs hn).mono ?_
  rintro e w1 ⟨A1, c1, rfl, r1, b1⟩
  go_wp2_with fail
  refine (Reverse_row A1 _ _ n c1 xs _ r1 (by omega)).mono ?_
  rintro e w2 ⟨rfl, r2, o2⟩
  go_wp2_with fail
  go_ret
  exact ⟨A1, c1, rfl, r2.more (Nat.le_refl _) o2.size (Nat.le_refl _), b1.trans (o2.below (Nat.le_refl _) b1.size)⟩

theorem back_step (xs : List Int) (k n : Nat) (x : Int) (hk : k < n) (hx : xs[k]? = some x) :
    (iv (List.replicate (n - k) 0 ++ (xs.take k).reverse)).set (n - 1 - k) (.int .i64 x) = iv (List.replicate (n - (k + 1)) 0 ++ (xs.take (k + 1)).reverse) := by
  obtain ⟨h1, rfl⟩ := List.getElem?_eq_some_iff.1 hx
  have h2 : List.replicate (n - k) (0 : Int) = List.replicate (n - (k + 1)) 0 ++ [0] := by
    rw [show n - k = (n - (k + 1)) + 1 by omega, List.replicate_succ']
  have hl : (iv (List.replicate (n - (k + 1)) 0)).length = n - 1 - k := by rw [iv_len, List.length_replicate]; omega
  rw [h2, List.take_succ_eq_append_getElem h1, List.append_assoc, iv_append, List.set_append_right _ _ (by omega), hl, Nat.sub_self, List.reverse_append, iv_append]
  simp [iv]
end Go.Proofs.Ytbcjcceejddocaa
