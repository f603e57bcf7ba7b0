/-
  Contracts: slices.IndexFunc by keys, its wrapper and reference; lists of items made of numbers.
-/
import Derived.Test.YtkjknjigjdpkoaaPairs
import Derived.Test.YtkjknjigjdpkoaaIndex
namespace Go.Proofs.Ytkjknjigjdpkoaa
open Go.RowKit
set_option linter.unusedVariables false

/-- the keys of items -/
def keys (ps : List (Int × Int)) : List Int := ps.map Prod.fst
theorem keys_get {ps : List (Int × Int)} {k : Nat} {x y : Int} (h : ps[k]? = some (x, y)) : (keys ps)[k]? = some x := by simp [keys, h]
theorem keys_len (ps : List (Int × Int)) : (keys ps).length = ps.length := by simp [keys]

/-- items with the numbers of a list as keys and their indices as tags -/
def numd (xs : List Int) (k : Nat) : List (Int × Int) := ((xs.take k).zipIdx).map fun p => (p.1, (p.2 : Int))
theorem numd_step (xs : List Int) (k : Nat) (x : Int) (h : xs[k]? = some x) : numd xs (k + 1) = numd xs k ++ [(x, (k : Int))] := by
  obtain ⟨h1, rfl⟩ := List.getElem?_eq_some_iff.1 h
  have hl : (xs.take k).length = k := by rw [List.length_take]; omega
  rw [numd, numd, List.take_succ_eq_append_getElem h1, List.zipIdx_append, List.map_append, hl]
  simp
theorem numd_len (xs : List Int) (k : Nat) (h : k ≤ xs.length) : (numd xs k).length = k := by simp [numd]; omega
theorem numd_keys (xs : List Int) : keys (numd xs xs.length) = xs := by
  rw [keys, numd, List.take_length, List.map_map]
  have : ((Prod.fst : Int × Int → Int) ∘ fun p : Int × Nat => (p.1, (p.2 : Int))) = Prod.fst := rfl
  rw [this]
  simp
theorem numd_get (xs : List Int) (k : Nat) (x : Int) (h : xs[k]? = some x) : (numd xs xs.length)[k]? = some (x, (k : Int)) := by
  rw [numd, List.take_length]
  simp [h]

set_option maxHeartbeats 800000 in
theorem numbered_any (A : Option Addr) (n c : Nat) (xs : List Int) (w : World) (hs : Sees w A n 1 (iv xs)) (hn : n ≤ 8796093022208) :
    Calls Try.prog 37 #[.slice A n c] w fun e w' =>
      ∃ A' c', e = .returned (.slice A' n c') ∧ Row w' w.heap.size w'.heap.size 41 2 A' n c' (pv (numd xs n)) ∧ Below w.heap.size w w' := by
  obtain ⟨i0, hi0, hz0, hz1, hz2⟩ := info_parts infoItem
  have HX := hide hs.ilen
  go_enter Try.func37, Try.ntmps37
  go_wp2_with fail
  go_loopw [3, 8] (fun v i wr => ∃ (k : Nat) (B : Option Addr) (d : Nat), k ≤ n ∧ i = .int .i64 k ∧ v = .slice B k d ∧ Row wr w.heap.size wr.heap.size 41 2 B k d (pv (numd xs k)) ∧ Below w.heap.size w wr) (fun _ i _ => n - (intOf i).toNat)
  case atStart => exact ⟨0, none, 0, Nat.zero_le _, rfl, rfl, Row.none_ w _ _ _ _ (Nat.le_refl _), Below.refl _ _⟩
  case round =>
    obtain ⟨k, B, d, hk, rfl, rfl, hrow, hb⟩ := hrel
    by_cases hlt : k < n
    · obtain ⟨ad, x, rfl, _, HXk, hcx⟩ := (hs.below hb).int hlt
      have hbs := hb.size
      go_wp2_with (at_builtin; refine halt_here ?_)
      have z1 : Sees (wr.alloc (.cells #[.int .i64 x, .int .i64 (k : Int)] 41)) (some ⟨wr.heap.size, 0, none⟩) 1 2 (pv [(x, (k : Int))]) := (Blk.new wr 41 #[.int .i64 x, .int .i64 (k : Int)]).sees (pre := []) (post := []) rfl rfl
      refine ⟨wpList_append_sees _ rfl _ _ _ rfl w.heap.size wr.heap.size 41 i0 _ 2 16 Try.underlying33 hi0 hz0 hz1 hz2 rfl (by omega) B k d _ rfl (hrow.alloc _) _ 1 1 (pv [(x, (k : Int))]) rfl z1 (pv_one _) (by unfold maxLen; omega) (by omega) (by simp; omega) ?_⟩
      intro A2 c2 w2 hrow2 ho2 _
      rw [← pv_append, ← numd_step xs k x HXk.out] at hrow2
      have hb2 : Below w.heap.size w w2 := (hb.alloc hb.size _).trans (ho2.below (Nat.le_refl _) (by simp; omega))
      clear ho2 z1
      go_wp2_with fail
      go_roundw
      case rel => exact ⟨k + 1, A2, c2, by omega, by go_num, rfl, hrow2, hb2⟩
      case measure => simp [intOf]; omega
    · obtain rfl : k = n := by omega
      go_wp2_with fail
      go_ret
      exact ⟨B, d, rfl, hrow, hb⟩
end Go.Proofs.Ytkjknjigjdpkoaa
