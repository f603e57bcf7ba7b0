/-
  Contracts: slices.Replace whole, its panics, the wrappers over it, and its reference.
-/
import Derived.Test.YtnbgopagjahkpaaReplace
namespace Go.Proofs.Ytnbgopagjahkpaa
open Go.RowKit
set_option linter.unusedVariables false

/-- slices.Replace -/
theorem Replace_ok (A : Option Addr) (lo hi n c i j : Nat) (xs : List Int) (B : Option Addr) (m d : Nat) (vs : List Int) (w : World) (hr : Row w lo hi 3 1 A n c (iv xs)) (hv : Sees w B m 1 (iv vs)) (hB : 0 < m → ∀ ad, B = some ad → ad.block < lo)
    (hij : i ≤ j) (hj : j ≤ n) (hn : i + m + (n - j) ≤ 17592186044416) (hn2 : n ≤ 17592186044416) (hlo : lo ≤ w.heap.size) :
    Calls Try.prog 17 #[.slice A n c, .int .i64 i, .int .i64 j, .slice B m d] w fun e w' =>
      ∃ A' c', e = .returned (.slice A' (i + m + (n - j)) c') ∧ Row w' lo w'.heap.size 3 1 A' (i + m + (n - j)) c' (iv (ins xs i vs j)) ∧ Below lo w w' ∧ Rest w' lo A n c i j m (ins xs i vs j) := by
  rcases Nat.eq_or_lt_of_le hij with rfl | hlt
  · exact Replace_same A lo hi n c i xs B m d vs w hr hv hB hj (by omega) hlo
  rcases Nat.eq_or_lt_of_le hj with rfl | hjn
  · rcases Nat.lt_or_ge (i + m) j with h | h
    · exact Replace_end_fewer A lo hi j c i xs B m d vs w hr hv h hn2 hlo
    · exact Replace_end_more A lo hi j c i xs B m d vs w hr hv hB hlt h (by omega) hlo
  rcases Nat.lt_or_ge j (i + m) with h | h
  · rcases Nat.lt_or_ge c (i + m + (n - j)) with h2 | h2
    · exact Replace_mid_grow A lo hi n c i j _ xs B m d vs w hr hv hB rfl hlt hjn h2 hn hn2 hlo
    · exact Replace_mid_more A lo hi n c i j _ xs B m d vs w hr hv hB rfl hlt hjn h h2 hn hn2 hlo
  · exact Replace_mid_fewer A lo hi n c i j _ xs B m d vs w hr hv hB rfl hlt hjn h hn2 hlo

theorem panics_drew {w w' : World} {e : Ending} {q : Nat} (h : Panics (w.drewN q) e w') : Panics w e w' := by
  obtain ⟨u, pv, he, hb⟩ := h
  exact ⟨u, pv, he, (below_drewN (Below.refl _ _) q).trans hb⟩

set_option maxHeartbeats 800000 in
set_option maxRecDepth 100000 in
theorem Replace_panics (A : Option Addr) (n c : Nat) (i j : Int) (B : Option Addr) (m d : Nat) (w : World) (hc : n ≤ c) (hcm : c ≤ maxLen) (h : j < 0 ∨ (n : Int) < j ∨ i < 0 ∨ j < i) :
    Calls Try.prog 17 #[.slice A n c, .int .i64 i, .int .i64 j, .slice B m d] w (Panics w) := by
  obtain ⟨i0, hi0, hz0, hz1, hz2⟩ := info_parts intInfo
  by_cases h0 : j < 0 ∨ (c : Int) < j ∨ i < 0 ∨ j < i
  · obtain ⟨pv, q, hrun⟩ := run_slice2_out (P := Try.prog) w 22 3 Try.underlying22 A n c .i64 .i64 i j h0
    clear h0 h
    go_enter Try.func17, Try.ntmps17
    go_wp2_with fail
    exact ⟨rfl, _, _, rfl, below_drewN (Below.refl _ _) q⟩
  obtain ⟨a, rfl⟩ : ∃ a : Nat, i = (a : Int) := ⟨i.toNat, by omega⟩
  obtain ⟨b, rfl⟩ : ∃ b : Nat, j = (b : Int) := ⟨j.toNat, by omega⟩
  have h1 : a ≤ b := by omega
  have h2 : b ≤ c := by omega
  have h3 : n < b := by omega
  clear h h0
  have q1 := fun W => run_slice_mid (P := Try.prog) W 22 3 i0 1 Try.underlying22 hi0 hz1 A n c .i64 .i64 a b h1 h2
  rcases Nat.eq_or_lt_of_le h1 with he | hlt
  · subst he
    have e1 : ((a : Int) == (a : Int)) = true := by simp
    go_enter Try.func17, Try.ntmps17
    go_wp2_with fail
    refine (Insert_panics A n c a _ _ (.inr (by omega))).mono ?_
    rintro e w1 ⟨u, pv, rfl, d1⟩
    go_wp2_with fail
    exact ⟨rfl, _, _, rfl, d1⟩
  · have e1 : ((a : Int) == (b : Int)) = false := by simp; omega
    have e2 : ((b : Int) == (n : Int)) = false := by simp; omega
    have q2 := fun W => run_slice_hi (P := Try.prog) W 22 3 i0 Try.underlying22 hi0 A n c .i64 a (by omega)
    have q3 := fun W => run_slice_low_out (P := Try.prog) W 22 3 Try.underlying22 A n c .i64 b (.inr (by omega))
    obtain ⟨pv, q4⟩ := Classical.axiomOfChoice q3
    obtain ⟨q, hq⟩ := Classical.axiomOfChoice q4
    clear q3 q4
    go_enter Try.func17, Try.ntmps17
    go_wp2_with fail
    refine wp_region_any (by kernel_rfl) ?_
    change wpAny _ _ _ _ _ _ _ (World.drew _)
    refine wpAny_take (i := 0) (v := .slice A n c) rfl (by kernel_rfl) (by kernel_rfl) (by kernel_rfl) (fun _ _ _ h => h) (Or.inl ⟨by rfl, by intro w; go_simp⟩) ?_
    refine wpAny_take (i := 1) (v := .int .i64 a) rfl (by kernel_rfl) (by kernel_rfl) (by kernel_rfl) (fun _ _ _ h => h) (Or.inl ⟨by rfl, by intro w; go_simp⟩) ?_
    refine wpAny_take (i := 2) (v := .slice A a c) rfl (by kernel_rfl) (by kernel_rfl) (by kernel_rfl) (fun _ _ _ h => h) (Or.inl ⟨by rfl, by intro w; go_simp⟩) ?_
    refine wpAny_take (i := 3) (v := .int .i64 a) rfl (by kernel_rfl) (by kernel_rfl) (by kernel_rfl) (fun _ _ _ h => h) (Or.inl ⟨by rfl, by intro w; go_simp⟩) ?_
    refine wpAny_take (i := 4) (v := .slice B m d) rfl (by kernel_rfl) (by kernel_rfl) (by kernel_rfl) (fun _ _ _ h => h) (Or.inl ⟨by rfl, by intro w; go_simp⟩) ?_
    refine wpAny_take (i := 5) (v := .int .i64 m) rfl (by kernel_rfl) (by kernel_rfl) (by kernel_rfl) (fun _ _ _ h => h) (Or.inl ⟨by rfl, by intro w; go_simp⟩) ?_
    refine wpAny_take (i := 6) (v := .int .i64 (IntKind.i64.wrap ((a : Int) + (m : Int)))) rfl (by kernel_rfl) (by kernel_rfl) (by kernel_rfl) (fun _ _ _ h => h) (Or.inl ⟨by rfl, by intro w; go_simp⟩) ?_
    refine wpAny_take (i := 7) (v := .slice A n c) rfl (by kernel_rfl) (by kernel_rfl) (by kernel_rfl) (fun _ _ _ h => h) (Or.inl ⟨by rfl, by intro w; go_simp⟩) ?_
    refine wpAny_take (i := 8) (v := .int .i64 b) rfl (by kernel_rfl) (by kernel_rfl) (by kernel_rfl) (fun _ _ _ h => h) (Or.inl ⟨by rfl, by intro w; go_simp⟩) ?_
    refine wpAny_ready (rs := [9]) (by kernel_rfl) (by simp) ?_
    refine AllReady.cons rfl (fun K hK => ?_) AllReady.nil
    go_simp
    exact ⟨rfl, _, _, rfl, below_drewN (Below.refl _ _) _⟩
end Go.Proofs.Ytnbgopagjahkpaa
