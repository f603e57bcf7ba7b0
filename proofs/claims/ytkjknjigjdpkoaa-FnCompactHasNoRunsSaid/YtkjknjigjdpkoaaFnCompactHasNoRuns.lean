/-
  slices.Compact leaves no two equal numbers next to each other, keeps the first number, and changes nothing where there were none; no condition.
-/
import Derived.Test.YtkjknjigjdpkoaaLift
import Derived.Test.YtkjknjigjdpkoaaCompact
namespace Go.Proofs.Ytkjknjigjdpkoaa.fnCompactHasNoRuns
open Go.ChangeShapes Go.WideShapes Go.ChangeAt Go.RowKit
set_option linter.unusedVariables false

/-- a run among the first k -/
def Run (xs : List Int) (k : Nat) : Prop := ∃ j x, 1 ≤ j ∧ j < k ∧ xs[j]? = some x ∧ xs[j - 1]? = some x
theorem run_less {xs : List Int} {n : Nat} (hn : xs.length = n) (h : Run xs n) : (cptI xs).length < n := by
  obtain ⟨j, x, h1, h2, hx, hy⟩ := h
  subst hn
  exact cptTo_less (key := id) (Nat.le_refl _) h1 h2 hx hy rfl
theorem norun_same {xs : List Int} {n : Nat} (hn : xs.length = n) (h : ¬ Run xs n) : cptI xs = xs := by
  subst hn
  have e := cptTo_all (key := id) (xs := xs) (Nat.le_refl _) (fun j x y h1 h2 hx hy he => h ⟨j, x, h1, h2, hx, by rw [hy]; exact congrArg some he.symm⟩)
  rw [List.take_length] at e
  exact e
theorem run_more {xs : List Int} {k : Nat} {x y : Int} (hk : 1 ≤ k) (hx : xs[k]? = some x) (hy : xs[k - 1]? = some y) : Run xs (k + 1) ↔ Run xs k ∨ x = y := by
  constructor
  · rintro ⟨j, z, h1, h2, h3, h4⟩
    by_cases hj : j = k
    · subst hj
      rw [hx] at h3
      rw [hy] at h4
      exact .inr ((Option.some.inj h3).trans (Option.some.inj h4).symm)
    · exact .inl ⟨j, z, h1, by omega, h3, h4⟩
  · rintro (⟨j, z, h1, h2, h3, h4⟩ | rfl)
    · exact ⟨j, z, h1, by omega, h3, h4⟩
    · exact ⟨k, x, hk, by omega, hx, hy⟩

set_option maxHeartbeats 8000000 in
set_option maxRecDepth 100000 in
theorem walk (A0 : Option Addr) (n0 c0 : Nat) (xs0 : List Int) (w : World) (h0 : Sees w A0 n0 1 (iv xs0)) (hc0 : n0 ≤ c0) (hw0 : ∀ x ∈ xs0, (Lit.int .i64 x).wf = true) (hn0 : n0 ≤ 17592186043904) :
    Calls Try.prog 9 #[.slice A0 n0 c0] w fun e w' => e = .returned (.bool true) ∧ Below w.heap.size w w' := by
  have HX := hide h0.ilen
  have hl : (cptI xs0).length ≤ n0 := by rw [← h0.ilen]; exact cpt_len
  obtain ⟨t, ht⟩ : ∃ t, (cptI xs0).length = t := ⟨_, rfl⟩
  rw [ht] at hl
  have HT := hide ht
  clear ht
  go_enter Try.func9, Try.ntmps9
  go_wp2_with fail
  refine (CompactInts_any A0 n0 c0 xs0 _ h0 (by omega)).mono ?_
  rintro e w1 ⟨Ay, cy, rfl, y, d1⟩
  have b1 : Below w.heap.size w w1 := (Below.refl w.heap.size w).trans (d1.mono (Below.refl w.heap.size w).size)
  have s1 : w.heap.size ≤ w1.heap.size := d1.size
  clear d1
  rw [HT.out] at y ⊢
  have x0 := h0.below b1
  have d1 : decide (n0 < t) = false := by simp; omega
  by_cases hz : n0 = 0
  · have ht0 : t = 0 := by omega
    have d2 : ((t : Int) == 0) = true := by simp [ht0]
    have d3 : ((n0 : Int) == 0) = true := by simp [hz]
    have d4 : decide (0 < n0) = false := by simp; omega
    have HZ := hide hz
    have HT0 := hide ht0
    clear hz ht0
    go_wp2_with fail
    go_quiet (fail)
    clear d1 d2 d3 d4
    go_wp2_with fail
    go_loopw [4, 5] (fun r i wr => ∃ (k q : Nat) (b : Bool), 1 ≤ k ∧ (k ≤ n0 ∨ k = 1) ∧ i = .int .i64 k ∧ r = .bool b ∧ wr = w1.drewN q ∧ Hid (b = true ↔ Run xs0 k)) (fun _ i _ => n0 - (intOf i).toNat)
    case atStart =>
      refine ⟨1, _, false, Nat.le_refl _, .inr rfl, rfl, rfl, rfl, ?_⟩
      show _ ↔ _
      simp only [Bool.false_eq_true, false_iff]
      rintro ⟨j, _, h1, h2, _⟩
      omega
    case round =>
      obtain ⟨k, q, b, hk1, hk2, rfl, rfl, rfl, HB⟩ := hrel
      by_cases hlt : k < n0
      · obtain ⟨ad, x, hA, _, HXk, cx⟩ := x0.int hlt
        obtain ⟨ad2, y, hA2, _, HYk, cy'⟩ := x0.int (show k - 1 < n0 by omega)
        rw [hA] at hA2 ⊢
        obtain rfl := Option.some.inj hA2
        have f1 : (k : Int) < (n0 : Int) := by omega
        have f2 : (k : Int) - 1 < (n0 : Int) := by omega
        have f3 : 0 ≤ (k : Int) - 1 := by omega
        have f4 : ((k : Int) - 1).toNat = k - 1 := by omega
        have f5 : IntKind.i64.wrap ((k : Int) - 1) = (k : Int) - 1 := IntWalk.i64_in _ (by omega)
        have HM := hide (run_more hk1 HXk.out HYk.out)
        clear hA hA2
        cases b with
        | true =>
          go_wp2_with fail
          go_quiet (fail)
          clear f4 f5
          go_wp2_with fail
          go_roundw
          case rel =>
            refine ⟨k + 1, _, true, by omega, .inl (by omega), by go_num, rfl, rfl, ?_⟩
            show _ ↔ _
            rw [HM.out]
            exact ⟨fun _ => .inl (by have g := HB.out; simpa using g), fun _ => rfl⟩
          case measure => simp [intOf]; omega
        | false =>
          by_cases hxy : x = y
          · have g1 : (x == y) = true := by simp [hxy]
            have HQ := hide hxy
            clear hxy
            go_wp2_with fail
            go_quiet (fail)
            clear f4 f5
            go_wp2_with fail
            go_roundw
            case rel =>
              refine ⟨k + 1, _, true, by omega, .inl (by omega), by go_num, rfl, rfl, ?_⟩
              show _ ↔ _
              rw [HM.out]
              exact ⟨fun _ => .inr HQ.out, fun _ => rfl⟩
            case measure => simp [intOf]; omega
          · have g1 : (x == y) = false := by simp [hxy]
            have HQ := hide hxy
            clear hxy
            go_wp2_with fail
            go_quiet (fail)
            clear f4 f5
            go_wp2_with fail
            go_roundw
            case rel =>
              refine ⟨k + 1, _, false, by omega, .inl (by omega), by go_num, rfl, rfl, ?_⟩
              show _ ↔ _
              rw [HM.out]
              constructor
              · intro h
                cases h
              · rintro (h | h)
                · exact HB.out.2 h
                · exact absurd h HQ.out
            case measure => simp [intOf]; omega
      · have HB2 : Hid (b = true ↔ Run xs0 n0) := by
          rcases hk2 with h | h
          · rw [show n0 = k by omega]; exact HB.out
          · show _ ↔ _
            rw [HB.out]
            constructor
            · rintro ⟨j, x, h1, h2, _⟩; omega
            · rintro ⟨j, x, h1, h2, _⟩; omega
        clear HB
        go_wp2_with fail
        generalize hW : w1.drewN q = W
        have xW : Sees W A0 n0 1 (iv xs0) := hW ▸ x0
        have yW : Row W w.heap.size w1.heap.size 3 1 Ay t cy (iv (cptI xs0)) := hW ▸ y
        have bW : Below w.heap.size w W := hW ▸ below_drewN b1 q
        clear hW
        go_loopw [6] (fun i wr => ∃ (m q : Nat), 1 ≤ m ∧ (m ≤ t ∨ m = 1) ∧ i = .int .i64 m ∧ wr = W.drewN q) (fun i _ => t - (intOf i).toNat)
        case atStart => exact ⟨1, 0, Nat.le_refl _, .inr rfl, rfl, rfl⟩
        case round =>
          obtain ⟨m, q2, hm1, hm2, rfl, rfl⟩ := hrel
          by_cases hlm : m < t
          · obtain ⟨ad, x, hA, _, HXk, cx⟩ := yW.sees.int hlm
            obtain ⟨ad2, y', hA2, _, HYk, cy'⟩ := yW.sees.int (show m - 1 < t by omega)
            rw [hA] at hA2 ⊢
            obtain rfl := Option.some.inj hA2
            have hne : ¬ x = y' := cptTo_norun (key := id) (xs := xs0) (Nat.le_refl _) m x y' hm1 HXk.out HYk.out
            have g1 : (x == y') = false := by simp [hne]
            have f1 : (m : Int) < (t : Int) := by omega
            have f2 : (m : Int) - 1 < (t : Int) := by omega
            have f3 : 0 ≤ (m : Int) - 1 := by omega
            have f4 : ((m : Int) - 1).toNat = m - 1 := by omega
            have f5 : IntKind.i64.wrap ((m : Int) - 1) = (m : Int) - 1 := IntWalk.i64_in _ (by omega)
            clear hA hA2 hne
            go_wp2_with fail
            go_quiet (fail)
            clear f4 f5
            go_wp2_with fail
            go_roundw
            case rel => exact ⟨m + 1, _, by omega, .inl (by omega), by go_num, rfl⟩
            case measure => simp [intOf]; omega
          · have y2 := yW.drewN q2
            have x2 := xW.drewN q2
            have b2 := below_drewN bW q2
            generalize W.drewN q2 = V at y2 x2 b2 ⊢
            clear xW yW bW
            cases b with
            | true =>
              have hlt2 : (t : Int) < (n0 : Int) := by
                have := run_less HX.out (HB2.out.1 rfl)
                have := HT.out
                omega
              go_wp2_with fail
              refine (CompactInts_any Ay t cy (cptI xs0) _ y2.sees (by omega)).mono ?_
              rintro e w4 ⟨A4, c4, rfl, r4, d4⟩
              rw [show cptI (cptI xs0) = cptI xs0 from cpt_again, HT.out] at r4
              rw [show cptI (cptI xs0) = cptI xs0 from cpt_again, HT.out]
              have y4 := y2.next d4
              have b4 : Below w.heap.size w w4 := b2.trans (d4.mono b2.size)
              clear d4
              go_wp2_with fail
              refine (sameInts_b A4 Ay t t c4 cy (cptI xs0) (cptI xs0) _ r4.sees y4.sees (by omega) (by omega)).mono ?_
              rintro e w5 ⟨rfl, d5⟩
              rw [decide_eq_true rfl]
              have b5 : Below w.heap.size w w5 := b4.trans (d5.mono b4.size)
              clear d5
              go_wp2_with fail
              go_ret
              exact ⟨rfl, b5⟩
            | false =>
              have hsame : cptI xs0 = xs0 := norun_same HX.out (fun h => by have := HB2.out.2 h; cases this)
              have htn : t = n0 := by rw [← HT.out, hsame, HX.out]
              have hge : ¬ (t : Int) < (n0 : Int) := by omega
              have HS := hide hsame
              clear hsame
              have HTN := hide htn
              clear htn
              go_wp2_with fail
              refine (sameInts_b A0 Ay n0 t c0 cy xs0 (cptI xs0) _ x2 y2.sees (by omega) (by omega)).mono ?_
              rintro e w4 ⟨rfl, d4⟩
              rw [decide_eq_true HS.out.symm]
              have y4 := y2.next d4
              have b4 : Below w.heap.size w w4 := b2.trans (d4.mono b2.size)
              clear d4
              go_wp2_with fail
              refine (CompactInts_any Ay t cy (cptI xs0) _ y4.sees (by omega)).mono ?_
              rintro e w5 ⟨A5, c5, rfl, r5, d5⟩
              rw [show cptI (cptI xs0) = cptI xs0 from cpt_again, HT.out] at r5
              rw [show cptI (cptI xs0) = cptI xs0 from cpt_again, HT.out]
              have y5 := y4.next d5
              have b5 : Below w.heap.size w w5 := b4.trans (d5.mono b4.size)
              clear d5
              go_wp2_with fail
              refine (sameInts_b A5 Ay t t c5 cy (cptI xs0) (cptI xs0) _ r5.sees y5.sees (by omega) (by omega)).mono ?_
              rintro e w6 ⟨rfl, d6⟩
              rw [decide_eq_true rfl]
              have b6 : Below w.heap.size w w6 := b5.trans (d6.mono b5.size)
              clear d6
              go_wp2_with fail
              go_ret
              exact ⟨rfl, b6⟩
  · have hp : 0 < n0 := by omega
    obtain ⟨ad, x, hA, _, HXk, cx⟩ := x0.int hp
    have htp : 0 < t := by
      obtain ⟨zs, hzs⟩ := cptTo_pos (key := id) (xs := xs0) (k := xs0.length) (by rw [HX.out]; exact hp) (Nat.le_refl _)
      rw [← HT.out, show cptI xs0 = cptTo id xs0 xs0.length from rfl, hzs]
      simp
    obtain ⟨bd, z, hB, _, HZk, cz⟩ := y.sees.int htp
    obtain rfl : z = x := by
      obtain ⟨zs, hzs⟩ := cptTo_pos (key := id) (xs := xs0) (k := xs0.length) (by rw [HX.out]; exact hp) (Nat.le_refl _)
      have g1 := HZk.out
      rw [show cptI xs0 = cptTo id xs0 xs0.length from rfl, hzs] at g1
      have g2 := HXk.out
      rw [List.getElem?_eq_getElem (by rw [HX.out]; exact hp)] at g2
      simp at g1 g2
      rw [← g1, g2]
    rw [Addr.add_zero'] at cx cz
    have d2 : ((t : Int) == 0) = false := by simp; omega
    have d3 : ((n0 : Int) == 0) = false := by simp; omega
    have d4 : decide (0 < n0) = true := by simp; omega
    have d5 : (z != z) = false := by simp
    have d6 : (0 : Int) < (n0 : Int) := by omega
    have d7 : (0 : Int) < (t : Int) := by omega
    subst hA hB
    clear HXk HZk hz
    go_wp2_with fail
    go_quiet (fail)
    clear d1 d2 d3 d4 d5 d6 d7 cx cz
    go_wp2_with fail
    go_loopw [4, 5] (fun r i wr => ∃ (k q : Nat) (b : Bool), 1 ≤ k ∧ (k ≤ n0 ∨ k = 1) ∧ i = .int .i64 k ∧ r = .bool b ∧ wr = w1.drewN q ∧ Hid (b = true ↔ Run xs0 k)) (fun _ i _ => n0 - (intOf i).toNat)
    case atStart =>
      refine ⟨1, _, false, Nat.le_refl _, .inr rfl, rfl, rfl, rfl, ?_⟩
      show _ ↔ _
      simp only [Bool.false_eq_true, false_iff]
      rintro ⟨j, _, h1, h2, _⟩
      omega
    case round =>
      obtain ⟨k, q, b, hk1, hk2, rfl, rfl, rfl, HB⟩ := hrel
      by_cases hlt : k < n0
      · obtain ⟨ad, x, hA, _, HXk, cx⟩ := x0.int hlt
        obtain ⟨ad2, y, hA2, _, HYk, cy'⟩ := x0.int (show k - 1 < n0 by omega)
        rw [hA] at hA2 ⊢
        obtain rfl := Option.some.inj hA2
        have f1 : (k : Int) < (n0 : Int) := by omega
        have f2 : (k : Int) - 1 < (n0 : Int) := by omega
        have f3 : 0 ≤ (k : Int) - 1 := by omega
        have f4 : ((k : Int) - 1).toNat = k - 1 := by omega
        have f5 : IntKind.i64.wrap ((k : Int) - 1) = (k : Int) - 1 := IntWalk.i64_in _ (by omega)
        have HM := hide (run_more hk1 HXk.out HYk.out)
        clear hA hA2
        cases b with
        | true =>
          go_wp2_with fail
          go_quiet (fail)
          clear f4 f5
          go_wp2_with fail
          go_roundw
          case rel =>
            refine ⟨k + 1, _, true, by omega, .inl (by omega), by go_num, rfl, rfl, ?_⟩
            show _ ↔ _
            rw [HM.out]
            exact ⟨fun _ => .inl (by have g := HB.out; simpa using g), fun _ => rfl⟩
          case measure => simp [intOf]; omega
        | false =>
          by_cases hxy : x = y
          · have g1 : (x == y) = true := by simp [hxy]
            have HQ := hide hxy
            clear hxy
            go_wp2_with fail
            go_quiet (fail)
            clear f4 f5
            go_wp2_with fail
            go_roundw
            case rel =>
              refine ⟨k + 1, _, true, by omega, .inl (by omega), by go_num, rfl, rfl, ?_⟩
              show _ ↔ _
              rw [HM.out]
              exact ⟨fun _ => .inr HQ.out, fun _ => rfl⟩
            case measure => simp [intOf]; omega
          · have g1 : (x == y) = false := by simp [hxy]
            have HQ := hide hxy
            clear hxy
            go_wp2_with fail
            go_quiet (fail)
            clear f4 f5
            go_wp2_with fail
            go_roundw
            case rel =>
              refine ⟨k + 1, _, false, by omega, .inl (by omega), by go_num, rfl, rfl, ?_⟩
              show _ ↔ _
              rw [HM.out]
              constructor
              · intro h
                cases h
              · rintro (h | h)
                · exact HB.out.2 h
                · exact absurd h HQ.out
            case measure => simp [intOf]; omega
      · have HB2 : Hid (b = true ↔ Run xs0 n0) := by
          rcases hk2 with h | h
          · rw [show n0 = k by omega]; exact HB.out
          · show _ ↔ _
            rw [HB.out]
            constructor
            · rintro ⟨j, x, h1, h2, _⟩; omega
            · rintro ⟨j, x, h1, h2, _⟩; omega
        clear HB
        go_wp2_with fail
        generalize hW : w1.drewN q = W
        have xW : Sees W (some ad) n0 1 (iv xs0) := hW ▸ x0
        have yW : Row W w.heap.size w1.heap.size 3 1 (some bd) t cy (iv (cptI xs0)) := hW ▸ y
        have bW : Below w.heap.size w W := hW ▸ below_drewN b1 q
        clear hW
        go_loopw [6] (fun i wr => ∃ (m q : Nat), 1 ≤ m ∧ (m ≤ t ∨ m = 1) ∧ i = .int .i64 m ∧ wr = W.drewN q) (fun i _ => t - (intOf i).toNat)
        case atStart => exact ⟨1, 0, Nat.le_refl _, .inr rfl, rfl, rfl⟩
        case round =>
          obtain ⟨m, q2, hm1, hm2, rfl, rfl⟩ := hrel
          by_cases hlm : m < t
          · obtain ⟨ad, x, hA, _, HXk, cx⟩ := yW.sees.int hlm
            obtain ⟨ad2, y', hA2, _, HYk, cy'⟩ := yW.sees.int (show m - 1 < t by omega)
            rw [hA] at hA2 ⊢
            obtain rfl := Option.some.inj hA2
            have hne : ¬ x = y' := cptTo_norun (key := id) (xs := xs0) (Nat.le_refl _) m x y' hm1 HXk.out HYk.out
            have g1 : (x == y') = false := by simp [hne]
            have f1 : (m : Int) < (t : Int) := by omega
            have f2 : (m : Int) - 1 < (t : Int) := by omega
            have f3 : 0 ≤ (m : Int) - 1 := by omega
            have f4 : ((m : Int) - 1).toNat = m - 1 := by omega
            have f5 : IntKind.i64.wrap ((m : Int) - 1) = (m : Int) - 1 := IntWalk.i64_in _ (by omega)
            clear hA hA2 hne
            go_wp2_with fail
            go_quiet (fail)
            clear f4 f5
            go_wp2_with fail
            go_roundw
            case rel => exact ⟨m + 1, _, by omega, .inl (by omega), by go_num, rfl⟩
            case measure => simp [intOf]; omega
          · have y2 := yW.drewN q2
            have x2 := xW.drewN q2
            have b2 := below_drewN bW q2
            generalize W.drewN q2 = V at y2 x2 b2 ⊢
            clear xW yW bW
            cases b with
            | true =>
              have hlt2 : (t : Int) < (n0 : Int) := by
                have := run_less HX.out (HB2.out.1 rfl)
                have := HT.out
                omega
              go_wp2_with fail
              refine (CompactInts_any (some bd) t cy (cptI xs0) _ y2.sees (by omega)).mono ?_
              rintro e w4 ⟨A4, c4, rfl, r4, d4⟩
              rw [show cptI (cptI xs0) = cptI xs0 from cpt_again, HT.out] at r4
              rw [show cptI (cptI xs0) = cptI xs0 from cpt_again, HT.out]
              have y4 := y2.next d4
              have b4 : Below w.heap.size w w4 := b2.trans (d4.mono b2.size)
              clear d4
              go_wp2_with fail
              refine (sameInts_b A4 (some bd) t t c4 cy (cptI xs0) (cptI xs0) _ r4.sees y4.sees (by omega) (by omega)).mono ?_
              rintro e w5 ⟨rfl, d5⟩
              rw [decide_eq_true rfl]
              have b5 : Below w.heap.size w w5 := b4.trans (d5.mono b4.size)
              clear d5
              go_wp2_with fail
              go_ret
              exact ⟨rfl, b5⟩
            | false =>
              have hsame : cptI xs0 = xs0 := norun_same HX.out (fun h => by have := HB2.out.2 h; cases this)
              have htn : t = n0 := by rw [← HT.out, hsame, HX.out]
              have hge : ¬ (t : Int) < (n0 : Int) := by omega
              have HS := hide hsame
              clear hsame
              have HTN := hide htn
              clear htn
              go_wp2_with fail
              refine (sameInts_b (some ad) (some bd) n0 t c0 cy xs0 (cptI xs0) _ x2 y2.sees (by omega) (by omega)).mono ?_
              rintro e w4 ⟨rfl, d4⟩
              rw [decide_eq_true HS.out.symm]
              have y4 := y2.next d4
              have b4 : Below w.heap.size w w4 := b2.trans (d4.mono b2.size)
              clear d4
              go_wp2_with fail
              refine (CompactInts_any (some bd) t cy (cptI xs0) _ y4.sees (by omega)).mono ?_
              rintro e w5 ⟨A5, c5, rfl, r5, d5⟩
              rw [show cptI (cptI xs0) = cptI xs0 from cpt_again, HT.out] at r5
              rw [show cptI (cptI xs0) = cptI xs0 from cpt_again, HT.out]
              have y5 := y4.next d5
              have b5 : Below w.heap.size w w5 := b4.trans (d5.mono b4.size)
              clear d5
              go_wp2_with fail
              refine (sameInts_b A5 (some bd) t t c5 cy (cptI xs0) (cptI xs0) _ r5.sees y5.sees (by omega) (by omega)).mono ?_
              rintro e w6 ⟨rfl, d6⟩
              rw [decide_eq_true rfl]
              have b6 : Below w.heap.size w w6 := b5.trans (d6.mono b5.size)
              clear d6
              go_wp2_with fail
              go_ret
              exact ⟨rfl, b6⟩

set_option maxRecDepth 100000 in
theorem lifted (os : Os) (started : os.Started) (H : Type) (enc : TypeId × Value → H) :
    ReturnsInHanded {} Try.checked os 9 .any (Rows.fnCompactHasNoRunsSpec.pre6 enc Try.prog Try.f9 Rows.fnCompactHasNoRunsRow.domain false) (Rows.fnCompactHasNoRunsSpec.post enc Try.prog Try.f9 false true false false) := by
  refine returnsInHanded_of_change_sized (C := Try.checked) ownKnob_none started (by kernel_rfl) Try.func9
    (ChangeSpec.witness6 (enc := enc) (C := Try.checked) false ⟨#[], #[.slice none 0 0], []⟩ 8 (by kernel_rfl) (by kernel_rfl) (by kernel_rfl) (by kernel_rfl)) ?_
  intro W base args ds gs before hval0 hW hcnd hsz0 _
  have hsz : (DataW.weightsEach Try.prog (Try.f9.params.toList ++ Rows.fnCompactHasNoRunsSpec.plain.varTypes Try.prog) (ds ++ gs)).all (· ≤ reachBytes) = true := hsz0
  have hval : ∀ (j : Nat) t v, Try.f9.params[j]? = some t → args[j]? = some v → Value.okWide Try.prog W .any base t v := hval0
  have hW' := hW
  obtain ⟨p, q, hA0, hV, rfl, hfz, hnd⟩ := hW
  have hA : DataW.TrodAll enc Try.prog W 0 (fun _ => true) true Try.f9.params.toList args.toList ds p := hA0
  rw [Try.params9] at hA hval hsz
  obtain ⟨v0, vs0, d0, ds0, p0, q0, hargs, rfl, rfl, h0, r0⟩ := trodAll_cons hA
  obtain ⟨rfl, rfl, rfl⟩ := trodAll_nil r0
  obtain rfl : args = #[v0] := by cases args; simp_all
  obtain ⟨rfl, rfl⟩ := trodVars_none hV
  have k0 := h0
  have lt0 : ∀ x ∈ p0, x.block < W.heap.size := by obtain ⟨m, hm⟩ := k0; exact DataW.trod_lt m _ _ _ hm
  obtain ⟨A0, n0, c0, xs0, rfl, s0, c0c, _, w0, z0, u0⟩ := arg_ints (hval 0 22 v0 rfl rfl) h0
  clear hA0 hval0 hsz0
  refine (walk A0 n0 c0 xs0 W s0 c0c w0 (z0 (weights_arg hsz 0 rfl rfl))).mono fun e W' ⟨he, bel⟩ => ?_
  subst he
  exact ⟨_, rfl, _, _, _, [], _, [], hW', trodAll_mk1 (shut_bool Try.underlying4 _), (trodAll_cons_mk (Below.trod laidOut (by kernel_rfl) (of_decide_eq_true (by kernel_rfl)) k0 bel lt0) trodAll_mk0), rfl, bel.frame _, fun h => by cases h⟩

theorem over : Rows.fnCompactHasNoRunsRow.holds Try.pinned (OpenSpec.ofChange Rows.fnCompactHasNoRunsSpec) :=
  OpenClaim.holds_of_wide 9 Try.f9 rfl rfl rfl rfl rfl rfl rfl ⟨rfl, rfl, rfl, rfl, rfl⟩ rfl rfl rfl rfl rfl (by kernel_rfl) Try.func9 (by kernel_rfl)
    (of_decide_eq_true (by kernel_rfl)) (by unfold Func.isWrapper; first | (rw [if_pos (by decide +kernel)]; kernel_rfl) | (rw [if_neg (by decide +kernel)]; exact ⟨rfl, rfl⟩))
    (fun os started H enc _ => lifted os started H enc)

theorem proved : Rows.FnCompactHasNoRunsSaid := over
end Go.Proofs.Ytkjknjigjdpkoaa.fnCompactHasNoRuns
