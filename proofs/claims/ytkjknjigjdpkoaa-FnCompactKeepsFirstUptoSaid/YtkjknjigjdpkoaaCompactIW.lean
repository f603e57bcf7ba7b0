/-
  Contracts: the wrapper over slices.CompactFunc of items, and its reference.
-/
import Derived.Test.YtkjknjigjdpkoaaCompactI
namespace Go.Proofs.Ytkjknjigjdpkoaa
open Go.RowKit
set_option linter.unusedVariables false

set_option maxHeartbeats 400000 in
theorem items_any (A : Option Addr) (n c : Nat) (xs : List (Int × Int)) (w : World) (hs : Sees w A n 2 (pv xs)) (hn : n ≤ 8796093022208) :
    Calls Try.prog 49 #[.slice A n c] w fun e w' =>
      ∃ A' c', e = .returned (.slice A' n c') ∧ Row w' w.heap.size w'.heap.size 41 2 A' n c' (pv xs) ∧ Below w.heap.size w w' := by
  obtain ⟨i0, hi0, hz0, hz1, hz2⟩ := info_parts infoItem
  go_enter Try.func49, Try.ntmps49
  go_wp2_with (at_builtin; refine halt_here ?_)
  refine ⟨wpList_append_sees w rfl _ _ _ rfl w.heap.size w.heap.size 41 i0 _ 2 16 Try.underlying33 hi0 hz0 hz1 hz2 rfl (by omega) none 0 0 [] rfl (Row.none_ w _ _ _ _ (Nat.le_refl _))
    A n c (pv xs) rfl hs (pv_one xs) (by unfold maxLen; omega) (by omega) (Nat.le_refl _) ?_⟩
  intro A1 c1 w1 hrow1 ho1 _
  rw [Nat.zero_add, List.nil_append] at hrow1
  rw [Nat.zero_add]
  go_wp2
  go_ret
  exact ⟨A1, c1, rfl, hrow1, ho1.below (Nat.le_refl _) (Nat.le_refl _)⟩

set_option maxHeartbeats 400000 in
theorem CompactItems_any (A : Option Addr) (n c : Nat) (xs : List (Int × Int)) (w : World) (hs : Sees w A n 2 (pv xs)) (hn : n ≤ 8796093022208) :
    Calls Try.prog 33 #[.slice A n c] w fun e w' =>
      ∃ A' c', e = .returned (.slice A' (cptP xs).length c') ∧ Row w' w.heap.size w'.heap.size 41 2 A' (cptP xs).length c' (pv (cptP xs)) ∧ Below w.heap.size w w' := by
  have hx := hs.plen
  have HX := hide hx
  clear hx
  go_enter Try.func33, Try.ntmps33
  go_wp2_with fail
  refine (items_any A n c xs _ hs hn).mono ?_
  rintro e w1 ⟨A1, c1, rfl, r1, b1⟩
  go_wp2_with fail
  refine (CompactFunc_row A1 _ _ n c1 xs _ r1 (by omega)).mono ?_
  rintro e w2 ⟨rfl, r2, o2⟩
  clear r1
  have hl : (cptP xs).length ≤ n := by rw [← HX.out]; exact cpt_len
  rw [pv_append] at r2
  have r3 := (r2.short (m := (cptP xs).length) (by rw [pv_len]) hl).more (Nat.le_refl _) o2.size (Nat.le_refl _)
  have b2 : Below w.heap.size w w2 := b1.trans (o2.below (Nat.le_refl _) b1.size)
  clear o2 r2 hl
  go_wp2_with fail
  go_ret
  exact ⟨A1, c1, rfl, r3, b2⟩

set_option maxHeartbeats 1000000 in
theorem specCompactItems_any (A : Option Addr) (n c : Nat) (xs : List (Int × Int)) (w : World) (hs : Sees w A n 2 (pv xs)) (hn : n ≤ 8796093022208) :
    Calls Try.prog 31 #[.slice A n c] w fun e w' =>
      ∃ A' c', e = .returned (.slice A' (cptP xs).length c') ∧ Row w' w.heap.size w'.heap.size 41 2 A' (cptP xs).length c' (pv (cptP xs)) ∧ Below w.heap.size w w' := by
  obtain ⟨i0, hi0, hz0, hz1, hz2⟩ := info_parts infoItem
  have HX := hide hs.plen
  go_enter Try.func31, Try.ntmps31
  go_wp2_with fail
  go_loopw [3, 8] (fun v i wr => ∃ (k t : Nat) (B : Option Addr) (d : Nat), k ≤ n ∧ t ≤ k ∧ i = .int .i64 k ∧ v = .slice B t d ∧ Hid ((cptTo Prod.fst xs k).length = t) ∧ Row wr w.heap.size wr.heap.size 41 2 B t d (pv (cptTo Prod.fst xs k)) ∧ Below w.heap.size w wr) (fun _ i _ => n - (intOf i).toNat)
  case atStart => exact ⟨0, 0, none, 0, Nat.zero_le _, Nat.le_refl _, rfl, rfl, rfl, Row.none_ w _ _ _ _ (Nat.le_refl _), Below.refl _ _⟩
  case round =>
    obtain ⟨k, t, B, d, hk, htk, rfl, rfl, HT, hrow, hb⟩ := hrel
    by_cases hlt : k < n
    · obtain ⟨b, off, x, y, rfl, hbl, HXk, c1, c2⟩ := (hs.below hb).pair hlt
      have v0 : (wr.alloc (.cells #[.int .i64 x, .int .i64 y] 41)).cell? ⟨wr.heap.size, 0, none⟩ = some (.int .i64 x) := (Blk.new wr 41 #[.int .i64 x, .int .i64 y]).cell (i := 0) rfl
      have v1 : (wr.alloc (.cells #[.int .i64 x, .int .i64 y] 41)).cell? ⟨wr.heap.size, 1, none⟩ = some (.int .i64 y) := (Blk.new wr 41 #[.int .i64 x, .int .i64 y]).cell (i := 1) rfl
      rcases Nat.eq_zero_or_pos k with h0 | h0
      · have e1 : ((k : Int) == 0) = true := by simp [h0]
        have HC : Hid (cptTo Prod.fst xs (k + 1) = cptTo Prod.fst xs k ++ [(x, y)]) := by
          have h1 := HXk.out
          subst h0
          exact cptTo_first h1
        clear h0
        · skip
          go_wp2_with fail
          go_quiet (fail)
          have b1 : Below w.heap.size w ((wr.alloc (.cells #[.int .i64 x, .int .i64 y] 41)).drewN nq) := below_drewN (hb.alloc hb.size _) nq
          have r1 := (hrow.alloc (.cells #[.int .i64 x, .int .i64 y] 41)).drewN nq
          have kb := (Blk.new wr 41 #[.int .i64 x, .int .i64 y]).drewN nq
          clear v0 v1
          generalize ((wr.alloc (.cells #[.int .i64 x, .int .i64 y] 41)).drewN nq) = W1 at b1 r1 kb ⊢
          have x0 := kb.cell (i := 0) rfl
          have x1 := kb.cell (i := 1) rfl
          clear kb hrow hb
          have z1 : Sees (W1.alloc (.cells #[.int .i64 x, .int .i64 y] 41)) (some ⟨W1.heap.size, 0, none⟩) 1 2 (pv [(x, y)]) := (Blk.new W1 41 #[.int .i64 x, .int .i64 y]).sees (off := 0) (n := 1) (sz := 2) (pre := []) (xs := pv [(x, y)]) (post := []) rfl rfl
          go_wp2_with (at_builtin; refine halt_here ?_)
          refine ⟨wpList_append_sees _ rfl _ _ _ rfl w.heap.size wr.heap.size 41 i0 _ 2 16 Try.underlying33 hi0 hz0 hz1 hz2 rfl (by omega) B t d _ rfl (r1.alloc _) _ 1 1 (pv [(x, y)]) rfl z1 (pv_one _) (by unfold maxLen; omega) (by omega) (by have := b1.size; simp; omega) ?_⟩
          intro A2 c2 w2 hrow2 ho2 _
          rw [← pv_append, ← HC.out] at hrow2
          have hb2 : Below w.heap.size w w2 := (b1.alloc b1.size _).trans (ho2.below (Nat.le_refl _) (by have := b1.size; simp; omega))
          clear ho2 z1 x0 x1
          go_wp2_with fail
          go_roundw
          case rel => exact ⟨k + 1, t + 1, A2, c2, by omega, by omega, by go_num, rfl, by show _ = _; rw [HC.out, List.length_append, HT.out]; rfl, hrow2, hb2⟩
          case measure => simp [intOf]; omega
      · obtain ⟨b', off', x', y', hA2, _, HYk, c3, c4⟩ := (hs.below hb).pair (show k - 1 < n by omega)
        obtain ⟨rfl, rfl⟩ : b = b' ∧ off = off' := by
          injection hA2 with h
          injection h with h1 h2
          exact ⟨h1, h2⟩
        clear hA2
        have e1 : ((k : Int) == 0) = false := by simp; omega
        have c5 : (wr.alloc (.cells #[.int .i64 x, .int .i64 y] 41)).cell? ⟨b, off + (k - 1) * 2, none⟩ = some (.int .i64 x') := (World.cell?_alloc_lt wr _ _ hbl).trans c3
        have hw1 : IntKind.i64.wrap ((k : Int) - 1) = ((k - 1 : Nat) : Int) := by rw [IntKind.wrap_i64]; omega
        have hk3 : k - 1 < n := by omega
        by_cases hxy : x = x'
        · have e2 : (x' != x) = false := by simp [hxy]
          have HC := hide (cptTo_drop (key := Prod.fst) h0 HXk.out HYk.out hxy)
          clear hxy
          go_wp2_with fail
          go_quiet (fail)
          have b1 : Below w.heap.size w ((wr.alloc (.cells #[.int .i64 x, .int .i64 y] 41)).drewN nq) := below_drewN (hb.alloc hb.size _) nq
          have r1 := (hrow.alloc (.cells #[.int .i64 x, .int .i64 y] 41)).drewN nq
          have kb := (Blk.new wr 41 #[.int .i64 x, .int .i64 y]).drewN nq
          clear v0 v1
          generalize ((wr.alloc (.cells #[.int .i64 x, .int .i64 y] 41)).drewN nq) = W1 at b1 r1 kb ⊢
          have x0 := kb.cell (i := 0) rfl
          have x1 := kb.cell (i := 1) rfl
          clear kb hrow hb
          clear x0 x1 e1 e2 hw1 hk3
          go_wp2_with fail
          go_roundw
          case rel => exact ⟨k + 1, t, B, d, by omega, by omega, by go_num, rfl, by rw [HC.out]; exact HT, by rw [HC.out]; exact r1.more (Nat.le_refl _) r1.2.2 (Nat.le_refl _), b1⟩
          case measure => simp [intOf]; omega
        · have e2 : (x' != x) = true := by simp; omega
          have HC := hide (cptTo_keep (key := Prod.fst) h0 HXk.out HYk.out hxy)
          clear hxy
          go_wp2_with fail
          go_quiet (fail)
          have b1 : Below w.heap.size w ((wr.alloc (.cells #[.int .i64 x, .int .i64 y] 41)).drewN nq) := below_drewN (hb.alloc hb.size _) nq
          have r1 := (hrow.alloc (.cells #[.int .i64 x, .int .i64 y] 41)).drewN nq
          have kb := (Blk.new wr 41 #[.int .i64 x, .int .i64 y]).drewN nq
          clear v0 v1
          generalize ((wr.alloc (.cells #[.int .i64 x, .int .i64 y] 41)).drewN nq) = W1 at b1 r1 kb ⊢
          have x0 := kb.cell (i := 0) rfl
          have x1 := kb.cell (i := 1) rfl
          clear kb hrow hb
          have z1 : Sees (W1.alloc (.cells #[.int .i64 x, .int .i64 y] 41)) (some ⟨W1.heap.size, 0, none⟩) 1 2 (pv [(x, y)]) := (Blk.new W1 41 #[.int .i64 x, .int .i64 y]).sees (off := 0) (n := 1) (sz := 2) (pre := []) (xs := pv [(x, y)]) (post := []) rfl rfl
          go_wp2_with (at_builtin; refine halt_here ?_)
          refine ⟨wpList_append_sees _ rfl _ _ _ rfl w.heap.size wr.heap.size 41 i0 _ 2 16 Try.underlying33 hi0 hz0 hz1 hz2 rfl (by omega) B t d _ rfl (r1.alloc _) _ 1 1 (pv [(x, y)]) rfl z1 (pv_one _) (by unfold maxLen; omega) (by omega) (by have := b1.size; simp; omega) ?_⟩
          intro A2 c2 w2 hrow2 ho2 _
          rw [← pv_append, ← HC.out] at hrow2
          have hb2 : Below w.heap.size w w2 := (b1.alloc b1.size _).trans (ho2.below (Nat.le_refl _) (by have := b1.size; simp; omega))
          clear ho2 z1 x0 x1
          go_wp2_with fail
          go_roundw
          case rel => exact ⟨k + 1, t + 1, A2, c2, by omega, by omega, by go_num, rfl, by show _ = _; rw [HC.out, List.length_append, HT.out]; rfl, hrow2, hb2⟩
          case measure => simp [intOf]; omega
    · obtain rfl : k = n := by omega
      have ec : cptP xs = cptTo Prod.fst xs k := by rw [cptP, cpt, HX.out]
      have EC := hide ec
      clear ec
      go_wp2_with fail
      go_ret
      rw [EC.out, HT.out]
      exact ⟨B, d, rfl, hrow, hb⟩
end Go.Proofs.Ytkjknjigjdpkoaa
