/-
  Contracts: the reference of slices.Repeat.
-/
import Derived.Test.YtjmceapdokkleaaRepeatW
namespace Go.Proofs.Ytjmceapdokkleaa
open Go.RowKit
set_option linter.unusedVariables false

/-- the quotient as the walk has it -/
theorem quo_nat (a n : Nat) : (a : Int).tdiv (n : Int) = ((a / n : Nat) : Int) := by
  rw [Int.tdiv_eq_ediv_of_nonneg (by omega)]
  exact (Int.natCast_ediv a n).symm
theorem quo_max (n : Nat) : (9223372036854775807 : Int).tdiv (n : Int) = ((9223372036854775807 / n : Nat) : Int) := quo_nat 9223372036854775807 n
theorem quo_mio (n : Nat) : (1000000 : Int).tdiv (n : Int) = ((1000000 / n : Nat) : Int) := quo_nat 1000000 n
theorem le_quo {n k a : Nat} (hn : 0 < n) : k ≤ a / n ↔ n * k ≤ a := by rw [Nat.le_div_iff_mul_le hn, Nat.mul_comm]
theorem quo_le (a n : Nat) : a / n ≤ a := Nat.div_le_self a n

theorem rep_snoc (j : Nat) (xs : List Int) : rep (j + 1) xs = rep j xs ++ xs := by rw [rep_add, rep_one]
theorem rep_nil (j : Nat) : rep j [] = [] := by simp [rep]

set_option maxHeartbeats 800000 in
set_option maxRecDepth 100000 in
theorem specRepeatInts_ok (A : Option Addr) (n c k P : Nat) (xs : List Int) (w : World) (hs : Sees w A n 1 (iv xs)) (hn : n ≤ 17592186044416) (hk : (k : Int) ≤ 9223372036854775807) (hP : n * k = P) (hb : P ≤ 17592186044416) :
    Calls Try.prog 26 #[.slice A n c, .int .i64 k] w fun e w' =>
      ∃ A' c', e = .returned (.tuple #[.slice A' P c', .bool true]) ∧ Row w' w.heap.size w'.heap.size 3 1 A' P c' (iv (rep k xs)) ∧ Below w.heap.size w w' := by
  obtain ⟨i0, hi0, hz0, hz1, hz2⟩ := info_parts intInfo
  have HX := hide hs.ilen
  have hk0 : ¬ ((k : Int) < 0) := by omega
  rcases Nat.eq_zero_or_pos n with h0 | h0
  · have e1 : decide ((0 : Int) < (n : Int)) = false := by simp; omega
    have hP0 : P = 0 := by rw [← hP, h0, Nat.zero_mul]
    have hx0 : xs = [] := List.eq_nil_of_length_eq_zero (HX.out.trans h0)
    have HP0 := hide hP0
    have HX0 := hide hx0
    have l0 : ¬ 0 < n := by omega
    clear hP hk hP0 hx0 h0 hb
    by_cases hkk : 0 < k
    · have e2 : decide ((0 : Int) < (k : Int)) = true := by simp; omega
      go_enter Try.func26, Try.ntmps26
      go_wp2_with fail
      go_loop [6, 7] (fun v i => v = .slice none 0 0 ∧ i = .int .i64 0) (fun _ _ => 0)
      case atStart => exact ⟨rfl, rfl⟩
      case round =>
        obtain ⟨rfl, rfl⟩ := hrel
        go_wp2_with fail
        go_ret2
        rw [HP0.out, HX0.out, rep_nil]
        exact ⟨none, 0, rfl, Row.none_ _ _ _ _ _ (Nat.le_refl _), Below.refl _ _⟩
    · have e2 : decide ((0 : Int) < (k : Int)) = false := by simp; omega
      go_enter Try.func26, Try.ntmps26
      go_wp2_with fail
      go_loop [6, 7] (fun v i => v = .slice none 0 0 ∧ i = .int .i64 0) (fun _ _ => 0)
      case atStart => exact ⟨rfl, rfl⟩
      case round =>
        obtain ⟨rfl, rfl⟩ := hrel
        go_wp2_with fail
        go_ret2
        rw [HP0.out, HX0.out, rep_nil]
        exact ⟨none, 0, rfl, Row.none_ _ _ _ _ _ (Nat.le_refl _), Below.refl _ _⟩
  · have e1 : decide ((0 : Int) < (n : Int)) = true := by simp; omega
    have e0 : ((n : Int) == 0) = false := by simp; omega
    have hd := quo_max n
    have hle : k ≤ 9223372036854775807 / n := (le_quo h0).2 (by rw [hP]; omega)
    have hle2 := quo_le 9223372036854775807 n
    obtain ⟨D, hD⟩ : ∃ D, 9223372036854775807 / n = D := ⟨_, rfl⟩
    rw [hD] at hd hle hle2
    have k2 : IntKind.i64.wrap (D : Int) = (D : Int) := by rw [IntKind.wrap_i64]; omega
    have l2 : ¬ D < k := by omega
    have HP := hide hP
    have HK := hide hk
    clear hP hk hD hle hle2
    go_enter Try.func26, Try.ntmps26
    go_wp2_with fail
    clear hd k2 e0 l2
    go_loopw [6, 7] (fun v i wr => ∃ (j : Nat) (B : Option Addr) (d : Nat), j ≤ k ∧ i = .int .i64 j ∧ v = .slice B (n * j) d ∧ Row wr w.heap.size wr.heap.size 3 1 B (n * j) d (iv (rep j xs)) ∧ Below w.heap.size w wr) (fun _ i _ => k - (intOf i).toNat)
    case atStart => exact ⟨0, none, 0, Nat.zero_le _, rfl, by rw [Nat.mul_zero], by rw [Nat.mul_zero, rep_zero]; exact Row.none_ _ _ _ _ _ (Nat.le_refl _), Below.refl _ _⟩
    case round =>
      obtain ⟨j, B, d, hj, rfl, rfl, r, hb1⟩ := hrel
      have hT : n * j ≤ P := by rw [← HP.out]; exact Nat.mul_le_mul_left n hj
      by_cases hlt : j < k
      · have hT2 : n * (j + 1) ≤ P := by rw [← HP.out]; exact Nat.mul_le_mul_left n hlt
        obtain ⟨T, hTT⟩ : ∃ T, n * j = T := ⟨_, rfl⟩
        have hT3 : n * (j + 1) = T + n := by rw [Nat.mul_add, hTT, Nat.mul_one]
        rw [hT3] at hT2
        rw [hTT] at hT r ⊢
        have H3 := hide hT3
        have hkb : (j : Int) < 9223372036854775807 := by have := HK.out; omega
        clear hTT hT3
        go_wp2_with (at_builtin; refine halt_here ?_)
        refine ⟨wpList_append_sees wr rfl _ _ _ rfl w.heap.size wr.heap.size 3 i0 _ 1 8 Try.underlying23 hi0 hz0 hz1 hz2 rfl (by omega) B T d _ rfl r A n c _ rfl (hs.below hb1) (iv_one _) (by unfold maxLen; omega) (by omega) hb1.size ?_⟩
        intro A2 c2 w2 r2 o2 _
        have hb2 : Below w.heap.size w w2 := hb1.trans (o2.below (Nat.le_refl _) hb1.size)
        rw [← iv_append, ← rep_snoc] at r2
        clear o2 r hb1
        go_wp2_with fail
        go_roundw
        case rel => exact ⟨j + 1, A2, c2, by omega, by go_num, by rw [H3.out], by rw [H3.out]; exact r2, hb2⟩
        case measure => simp [intOf]; omega
      · obtain rfl : j = k := by omega
        rw [HP.out] at r ⊢
        go_wp2_with fail
        go_ret2
        exact ⟨B, d, rfl, r, hb1⟩

set_option maxHeartbeats 400000 in
theorem specRepeatInts_neg (A : Option Addr) (n c : Nat) (k : Int) (w : World) (hk : k < 0) :
    Calls Try.prog 26 #[.slice A n c, .int .i64 k] w fun e w' => e = .returned (.tuple #[.slice none 0 0, .bool false]) ∧ Below w.heap.size w w' := by
  go_enter Try.func26, Try.ntmps26
  go_wp2_with fail
  go_ret2
  exact ⟨rfl, Below.refl _ _⟩

set_option maxHeartbeats 400000 in
theorem specRepeatInts_over (A : Option Addr) (n c k : Nat) (w : World) (hn : n ≤ 17592186044416) (hk : (k : Int) ≤ 9223372036854775807) (hP : 9223372036854775808 ≤ n * k) :
    Calls Try.prog 26 #[.slice A n c, .int .i64 k] w fun e w' => e = .returned (.tuple #[.slice none 0 0, .bool false]) ∧ Below w.heap.size w w' := by
  have h0 : 0 < n := by
    rcases Nat.eq_zero_or_pos n with h | h
    · rw [h, Nat.zero_mul] at hP; omega
    · exact h
  have e1 : decide ((0 : Int) < (n : Int)) = true := by simp; omega
  have e0 : ((n : Int) == 0) = false := by simp; omega
  have hd := quo_max n
  have hle : ¬ k ≤ 9223372036854775807 / n := fun h => by have := (le_quo h0).1 h; omega
  have hle2 := quo_le 9223372036854775807 n
  obtain ⟨D, hD⟩ : ∃ D, 9223372036854775807 / n = D := ⟨_, rfl⟩
  rw [hD] at hd hle hle2
  have k2 : IntKind.i64.wrap (D : Int) = (D : Int) := by rw [IntKind.wrap_i64]; omega
  have l2 : D < k := by omega
  have hk0 : ¬ ((k : Int) < 0) := by omega
  clear hP hk hD hle hle2
  go_enter Try.func26, Try.ntmps26
  go_wp2_with fail
  go_ret2
  exact ⟨rfl, Below.refl _ _⟩
end Go.Proofs.Ytjmceapdokkleaa
