/-
  Contracts: impl.ChunkInts and spec.ChunkInts, for every size.
-/
import Derived.Test.YtjmceapdokkleaaSpecChunk
namespace Go.Proofs.Ytjmceapdokkleaa
open Go.RowKit
set_option linter.unusedVariables false

/-- the chunks of a list; none for a size below one -/
def cks (m : Int) (xs : List Int) : List (List Int) := if m < 1 then [] else chk m.toNat xs ((xs.length + m.toNat - 1) / m.toNat)
theorem cks_bad {m : Int} (xs : List Int) (h : m < 1) : cks m xs = [] := if_pos h
theorem cks_is {m n k : Nat} {xs : List Int} (hx : xs.length = n) (hm : 1 ≤ m) (h1 : n ≤ k * m) (h2 : ∀ j, j < k → j * m < n) : cks (m : Int) xs = chk m xs k ∧ k ≤ n := by
  have e : (n + m - 1) / m = k := by
    refine Nat.div_eq_of_lt_le ?_ ?_
    · rcases Nat.eq_zero_or_pos k with h | h
      · rw [h, Nat.zero_mul]; omega
      · have h3 := h2 (k - 1) (by omega)
        have h4 : k * m = (k - 1) * m + m := by
          rw [← Nat.succ_mul, Nat.succ_eq_add_one, Nat.sub_add_cancel h]
        omega
    · rw [Nat.add_mul, Nat.one_mul]; omega
  refine ⟨by rw [cks, if_neg (by omega), Int.toNat_natCast, hx, e], ?_⟩
  rcases Nat.eq_zero_or_pos k with h | h
  · omega
  · have h3 := h2 (k - 1) (by omega)
    have h4 : (k - 1) * 1 ≤ (k - 1) * m := Nat.mul_le_mul_left _ hm
    omega

/-- what both hand back -/
def Chunks (m : Int) (n : Nat) (xs : List Int) (w : World) (e : Ending) (w' : World) : Prop :=
  ∃ (A' : Option Addr) (c' : Nat) (qs : List Pt), e = .returned (.tuple #[.slice A' (cks m xs).length c', .bool (decide (1 ≤ m))]) ∧ Mat w' w.heap.size w'.heap.size A' (cks m xs).length c' qs ∧ Hid (lists qs = cks m xs ∧ tot qs ≤ n ∧ (cks m xs).length ≤ n) ∧ Below w.heap.size w w'
theorem Chunks.bad {m : Int} {n : Nat} {xs : List Int} {w w' : World} {e : Ending} (hm : m < 1) (he : e = .returned (.tuple #[.slice none 0 0, .bool false])) (hb : Below w.heap.size w w') : Chunks m n xs w e w' := by
  subst he
  refine ⟨none, 0, [], ?_, ?_, ?_, hb⟩
  · rw [cks_bad xs hm, decide_eq_false (by omega)]; rfl
  · rw [cks_bad xs hm]
    exact ⟨Row.none_ _ _ _ _ _ (Nat.le_refl _), (fun p hp => by cases hp), (fun i j p q hp => by cases hp)⟩
  · rw [cks_bad xs hm]
    exact ⟨rfl, Nat.zero_le _, Nat.zero_le _⟩
theorem Chunks.good {m n : Nat} {xs : List Int} {w w' : World} {e : Ending} (hx : xs.length = n) (hm : 1 ≤ m)
    (h : ∃ (A' : Option Addr) (c' k : Nat) (qs : List Pt), e = .returned (.tuple #[.slice A' k c', .bool true]) ∧ Mat w' w.heap.size w'.heap.size A' k c' qs ∧ (qs.map Pt.xs = chk m xs k ∧ n ≤ k * m ∧ ∀ j, j < k → j * m < n) ∧ Below w.heap.size w w') : Chunks m n xs w e w' := by
  obtain ⟨A', c', k, qs, rfl, hM, ⟨h1, h2, h3⟩, hb⟩ := h
  obtain ⟨h4, h5⟩ := cks_is hx hm h2 h3
  refine ⟨A', c', qs, ?_, ?_, ?_, hb⟩
  · rw [h4, chk_len, decide_eq_true (by omega)]
  · rw [h4, chk_len]
    exact hM
  · rw [h4, chk_len]
    exact ⟨h1, Nat.le_of_eq (chunks_tot hx hM.all h1 h2).1, h5⟩
theorem specChunk_all (A : Option Addr) (n c : Nat) (m : Int) (xs : List Int) (w : World) (hs : Sees w A n 1 (iv xs)) (hn : n ≤ 1048576) (hmb : m ≤ 9223372036854775807) :
    Calls Try.prog 21 #[.slice A n c, .int .i64 m] w (Chunks m n xs w) := by
  by_cases h : m < 1
  · exact (specChunk_bad A n c m w h).mono fun _ _ ⟨he, hw⟩ => Chunks.bad h he (by subst hw; exact Below.refl _ _)
  · obtain ⟨k, rfl⟩ := Int.eq_ofNat_of_zero_le (show 0 ≤ m by omega)
    exact (specChunk_ok A n c k xs w hs hn (by omega) hmb).mono fun _ _ h2 => Chunks.good hs.ilen (by omega) h2
theorem ChunkInts_all (A : Option Addr) (n c : Nat) (m : Int) (xs : List Int) (w : World) (hs : Sees w A n 1 (iv xs)) (hc : n ≤ c) (hn : n ≤ 1048576) (hmb : m ≤ 9223372036854775807) :
    Calls Try.prog 23 #[.slice A n c, .int .i64 m] w (Chunks m n xs w) := by
  by_cases h : m < 1
  · exact (ChunkInts_bad A n c m w h).mono fun _ _ ⟨he, hw⟩ => Chunks.bad h he hw
  · obtain ⟨k, rfl⟩ := Int.eq_ofNat_of_zero_le (show 0 ≤ m by omega)
    exact (ChunkInts_ok A n c k xs w hs hc hn (by omega) hmb).mono fun _ _ h2 => Chunks.good hs.ilen (by omega) h2
end Go.Proofs.Ytjmceapdokkleaa
