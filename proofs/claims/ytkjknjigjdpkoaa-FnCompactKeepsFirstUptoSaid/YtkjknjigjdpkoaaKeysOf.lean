/-
  Contract of laws.keysOf.
-/
import Derived.Test.YtkjknjigjdpkoaaKeys
namespace Go.Proofs.Ytkjknjigjdpkoaa
open Go.RowKit
set_option linter.unusedVariables false

set_option maxHeartbeats 800000 in
theorem keysOf_any (A : Option Addr) (n c : Nat) (ps : List (Int × Int)) (w : World) (hs : Sees w A n 2 (pv ps)) (hn : n ≤ 17592186044416) :
    Calls Try.prog 38 #[.slice A n c] w fun e w' =>
      ∃ A' c', e = .returned (.slice A' n c') ∧ Row w' w.heap.size w'.heap.size 3 1 A' n c' (iv (keys ps)) ∧ Below w.heap.size w w' := by
  obtain ⟨i0, hi0, hz0, hz1, hz2⟩ := info_parts intInfo
  have HX := hide hs.plen
  go_enter Try.func38, Try.ntmps38
  go_wp2_with fail
  go_loopw [3, 8] (fun v i wr => ∃ (k : Nat) (B : Option Addr) (d : Nat), k ≤ n ∧ i = .int .i64 k ∧ v = .slice B k d ∧ Row wr w.heap.size wr.heap.size 3 1 B k d (iv ((keys ps).take k)) ∧ Below w.heap.size w wr) (fun _ i _ => n - (intOf i).toNat)
  case atStart => exact ⟨0, none, 0, Nat.zero_le _, rfl, rfl, Row.none_ w _ _ _ _ (Nat.le_refl _), Below.refl _ _⟩
  case round =>
    obtain ⟨k, B, d, hk, rfl, rfl, hrow, hb⟩ := hrel
    by_cases hlt : k < n
    · obtain ⟨b, off, x, y, rfl, _, HXk, hcx, hcy⟩ := (hs.below hb).pair hlt
      have hbs := hb.size
      go_wp2_with (at_builtin; refine halt_here ?_)
      have z1 : Sees ((wr.alloc (.cells #[.int .i64 x, .int .i64 y] 41)).alloc (.cells #[.int .i64 x] 3)) (some ⟨wr.heap.size + 1, 0, none⟩) 1 1 (iv [x]) := by
        have := (Blk.new (wr.alloc (.cells #[.int .i64 x, .int .i64 y] 41)) 3 #[.int .i64 x]).sees (off := 0) (n := 1) (sz := 1) (pre := []) (xs := iv [x]) (post := []) rfl rfl
        simpa using this
      refine ⟨wpList_append_sees _ rfl _ _ _ rfl w.heap.size wr.heap.size 3 i0 _ 1 8 Try.underlying22 hi0 hz0 hz1 hz2 rfl (by omega) B k d _ rfl ((hrow.alloc _).alloc _) _ 1 1 (iv [x]) rfl z1 (iv_one _) (by unfold maxLen; omega) (by omega) (by simp; omega) ?_⟩
      intro A2 c2 w2 hrow2 ho2 _
      have e3 : (keys ps).take k ++ [x] = (keys ps).take (k + 1) := by
        obtain ⟨h1, h2⟩ := List.getElem?_eq_some_iff.1 (keys_get HXk.out)
        rw [List.take_succ_eq_append_getElem h1, h2]
      rw [← iv_append, e3] at hrow2
      have hb2 : Below w.heap.size w w2 := ((hb.alloc hb.size _).alloc (by simp; omega) _).trans (ho2.below (Nat.le_refl _) (by simp; omega))
      clear ho2 z1 e3
      go_wp2_with fail
      go_roundw
      case rel => exact ⟨k + 1, A2, c2, by omega, by go_num, rfl, hrow2, hb2⟩
      case measure => simp [intOf]; omega
    · obtain rfl : k = n := by omega
      go_wp2_with fail
      go_ret
      rw [List.take_of_length_le (by rw [keys_len, HX.out]; exact Nat.le_refl _)] at hrow
      exact ⟨B, d, rfl, hrow, hb⟩
end Go.Proofs.Ytkjknjigjdpkoaa
