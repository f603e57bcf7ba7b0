/-
  Contracts: slices.IndexFunc by keys, its wrapper and reference; lists of items made of numbers.
-/
import Derived.Test.YteijfgijmdighaaPairs
import Derived.Test.YteijfgijmdighaaIndex
namespace Go.Proofs.Yteijfgijmdighaa
open Go.RowKit
set_option linter.unusedVariables false

/-- the keys of items -/
def keys (ps : List (Int × Int)) : List Int := ps.map Prod.fst
theorem keys_get {ps : List (Int × Int)} {k : Nat} {x y : Int} (h : ps[k]? = some (x, y)) : (keys ps)[k]? = some x := by simp [keys, h]
theorem keys_len (ps : List (Int × Int)) : (keys ps).length = ps.length := by simp [keys]

set_option maxHeartbeats 800000 in
theorem specIndexKey_any (A : Option Addr) (n c : Nat) (v : Int) (ps : List (Int × Int)) (w : World) (hs : Sees w A n 2 (pv ps)) (hn : n ≤ 70368744177664) :
    Calls Try.prog 19 #[.slice A n c, .int .i64 v] w fun e w' => e = .returned (.int .i64 (ix v (keys ps))) ∧ Below w.heap.size w w' := by
  have HX : Hid ((keys ps).length = n) := by rw [keys_len]; exact hs.plen
  go_enter Try.func19, Try.ntmps19
  go_wp2_with fail
  go_loopw [9] (fun i wr => ∃ j : Nat, j ≤ n ∧ i = .int .i64 j ∧ Below w.heap.size w wr ∧ Hid (v ∉ (keys ps).take j)) (fun i _ => n - (intOf i).toNat)
  case atStart => exact ⟨0, Nat.zero_le _, rfl, Below.refl _ _, by simp [Hid]⟩
  case round =>
    obtain ⟨j, hj, rfl, hb, HT⟩ := hrel
    by_cases hlt : j < n
    · obtain ⟨b, off, x, y, rfl, hbl, HXj, c1, c2⟩ := (hs.below hb).pair hlt
      have HB := hide hb
      have hsz := hb.size
      clear hb
      by_cases hx : x = v
      · have e1 : (x == v) = true := by simp [hx]
        have H2 := hide hx
        clear hx
        go_wp2_with fail
        go_ret
        rw [ix_at HT.out (keys_get HXj.out) H2.out]
        exact ⟨rfl, HB.out.alloc hsz _⟩
      · have e1 : (x == v) = false := by simp [hx]
        go_wp2_with fail
        go_roundw
        case rel => exact ⟨j + 1, by omega, by go_num, HB.out.alloc hsz _, not_more HT.out (keys_get HXj.out) hx⟩
        case measure => simp [intOf]; omega
    · obtain rfl : j = n := by omega
      go_wp2_with fail
      go_ret
      rw [ix_not HT.out HX.out (Nat.le_refl _)]
      exact ⟨rfl, hb⟩

set_option maxHeartbeats 400000 in
theorem hasKey_any (x y v : Int) (p : Addr) (w : World) (hp : w.cell? p = some (.int .i64 v)) :
    Calls Try.prog 44 #[.agg #[.int .i64 x, .int .i64 y], .pointer (some p)] w fun e w' => e = .returned (.bool (x == v)) ∧ Below w.heap.size w w' := by
  have hlt : p.block < w.heap.size := World.block_lt_of_cell? w p hp
  have hp2 : (w.alloc (.cells #[.int .i64 x, .int .i64 y] 52)).cell? p = some (.int .i64 v) := (World.cell?_alloc_lt w _ p hlt).trans hp
  go_enter Try.func44, Try.ntmps44
  go_wp2
  go_ret
  exact ⟨rfl, (Below.refl _ _).alloc (Nat.le_refl _) _⟩

set_option maxHeartbeats 800000 in
theorem IndexFunc_any (A : Option Addr) (n c : Nat) (v : Int) (p : Addr) (ps : List (Int × Int)) (w : World) (hs : Sees w A n 2 (pv ps)) (hp : w.cell? p = some (.int .i64 v)) (hn : n ≤ 70368744177664) :
    Calls Try.prog 43 #[.slice A n c, .func (.func 44) #[] #[.pointer (some p)]] w fun e w' => e = .returned (.int .i64 (ix v (keys ps))) ∧ Below w.heap.size w w' := by
  have HX : Hid ((keys ps).length = n) := by rw [keys_len]; exact hs.plen
  have hlt0 : p.block < w.heap.size := World.block_lt_of_cell? w p hp
  go_enter Try.func43, Try.ntmps43
  go_wp2_with fail
  go_loopw [8] (fun i wr => ∃ j : Nat, j ≤ n ∧ i = .int .i64 j ∧ Below w.heap.size w wr ∧ Hid (v ∉ (keys ps).take j)) (fun i _ => n - (intOf i).toNat)
  case atStart => exact ⟨0, Nat.zero_le _, rfl, Below.refl _ _, by simp [Hid]⟩
  case round =>
    obtain ⟨j, hj, rfl, hb, HT⟩ := hrel
    by_cases hlt : j < n
    · obtain ⟨b, off, x, y, rfl, hbl, HXj, c1, c2⟩ := (hs.below hb).pair hlt
      have HB := hide hb
      have hsz := hb.size
      have HP : Hid (wr.cell? p = some (.int .i64 v)) := (hb.cell hlt0).trans hp
      clear hb
      go_wp2_with fail
      refine (hasKey_any x y v p _ HP.out).mono ?_
      rintro e w2 ⟨rfl, d2⟩
      have hb2 : Below w.heap.size w w2 := HB.out.trans (d2.mono hsz)
      clear d2
      by_cases hx : x = v
      · have e1 : (x == v) = true := by simp [hx]
        rw [e1]
        have H2 := hide hx
        clear hx e1
        go_wp2_with fail
        go_ret
        rw [ix_at HT.out (keys_get HXj.out) H2.out]
        exact ⟨rfl, hb2⟩
      · have e1 : (x == v) = false := by simp [hx]
        rw [e1]
        clear e1
        go_wp2_with fail
        go_roundw
        case rel => exact ⟨j + 1, by omega, by go_num, hb2, not_more HT.out (keys_get HXj.out) hx⟩
        case measure => simp [intOf]; omega
    · obtain rfl : j = n := by omega
      go_wp2_with fail
      go_ret
      rw [ix_not HT.out HX.out (Nat.le_refl _)]
      exact ⟨rfl, hb⟩

set_option maxHeartbeats 400000 in
theorem IndexKey_any (A : Option Addr) (n c : Nat) (v : Int) (ps : List (Int × Int)) (w : World) (hs : Sees w A n 2 (pv ps)) (hn : n ≤ 70368744177664) :
    Calls Try.prog 21 #[.slice A n c, .int .i64 v] w fun e w' => e = .returned (.int .i64 (ix v (keys ps))) ∧ Below w.heap.size w w' := by
  have hmf : ∀ (fn : Fn) (first cap : Array Value) (w : World), (Instr.makeFunc fn first cap).run Try.prog w = .ok (.func fn first cap) w := fun _ _ _ _ => rfl
  have b0 : Below w.heap.size w (w.alloc (.cells #[.int .i64 v] 3)) := (Below.refl _ _).alloc (Nat.le_refl _) _
  have hp : (w.alloc (.cells #[.int .i64 v] 3)).cell? ⟨w.heap.size, 0, none⟩ = some (.int .i64 v) := (Blk.new w 3 #[.int .i64 v]).cell rfl
  go_enter Try.func21, Try.ntmps21
  go_wp2_with fail
  refine (IndexFunc_any A n c v ⟨w.heap.size, 0, none⟩ ps _ (hs.below b0) hp hn).mono ?_
  rintro e w2 ⟨rfl, d2⟩
  go_wp2_with fail
  go_ret
  exact ⟨rfl, b0.trans (d2.mono b0.size)⟩

/-- items with the numbers of a list as keys and their indices as tags -/
def numd (xs : List Int) (k : Nat) : List (Int × Int) := ((xs.take k).zipIdx).map fun p => (p.1, (p.2 : Int))
theorem numd_step (xs : List Int) (k : Nat) (x : Int) (h : xs[k]? = some x) : numd xs (k + 1) = numd xs k ++ [(x, (k : Int))] := by
  obtain ⟨h1, rfl⟩ := List.getElem?_eq_some_iff.1 h
  have hl : (xs.take k).length = k := by rw [List.length_take]; omega
  rw [numd, numd, List.take_succ_eq_append_getElem h1, List.zipIdx_append, List.map_append, hl]
  simp
theorem numd_len (xs : List Int) (k : Nat) (h : k ≤ xs.length) : (numd xs k).length = k := by simp [numd]; omega
theorem numd_keys (xs : List Int) : keys (numd xs xs.length) = xs := by
  rw [keys, numd, List.take_length, List.map_map]
  have : ((Prod.fst : Int × Int → Int) ∘ fun p : Int × Nat => (p.1, (p.2 : Int))) = Prod.fst := rfl
  rw [this]
  simp
theorem numd_get (xs : List Int) (k : Nat) (x : Int) (h : xs[k]? = some x) : (numd xs xs.length)[k]? = some (x, (k : Int)) := by
  rw [numd, List.take_length]
  simp [h]

set_option maxHeartbeats 800000 in
theorem numbered_any (A : Option Addr) (n c : Nat) (xs : List Int) (w : World) (hs : Sees w A n 1 (iv xs)) (hn : n ≤ 8796093022208) :
    Calls Try.prog 26 #[.slice A n c] w fun e w' =>
      ∃ A' c', e = .returned (.slice A' n c') ∧ Row w' w.heap.size w'.heap.size 52 2 A' n c' (pv (numd xs n)) ∧ Below w.heap.size w w' := by
  obtain ⟨i0, hi0, hz0, hz1, hz2⟩ := info_parts infoItem
  have HX := hide hs.ilen
  go_enter Try.func26, Try.ntmps26
  go_wp2_with fail
  go_loopw [3, 8] (fun v i wr => ∃ (k : Nat) (B : Option Addr) (d : Nat), k ≤ n ∧ i = .int .i64 k ∧ v = .slice B k d ∧ Row wr w.heap.size wr.heap.size 52 2 B k d (pv (numd xs k)) ∧ Below w.heap.size w wr) (fun _ i _ => n - (intOf i).toNat)
  case atStart => exact ⟨0, none, 0, Nat.zero_le _, rfl, rfl, Row.none_ w _ _ _ _ (Nat.le_refl _), Below.refl _ _⟩
  case round =>
    obtain ⟨k, B, d, hk, rfl, rfl, hrow, hb⟩ := hrel
    by_cases hlt : k < n
    · obtain ⟨ad, x, rfl, _, HXk, hcx⟩ := (hs.below hb).int hlt
      have hbs := hb.size
      go_wp2_with (at_builtin; refine halt_here ?_)
      have z1 : Sees (wr.alloc (.cells #[.int .i64 x, .int .i64 (k : Int)] 52)) (some ⟨wr.heap.size, 0, none⟩) 1 2 (pv [(x, (k : Int))]) := (Blk.new wr 52 #[.int .i64 x, .int .i64 (k : Int)]).sees (pre := []) (post := []) rfl rfl
      refine ⟨wpList_append_sees _ rfl _ _ _ rfl w.heap.size wr.heap.size 52 i0 _ 2 16 Try.underlying30 hi0 hz0 hz1 hz2 rfl (by omega) B k d _ rfl (hrow.alloc _) _ 1 1 (pv [(x, (k : Int))]) rfl z1 (pv_one _) (by unfold maxLen; omega) (by omega) (by simp; omega) ?_⟩
      intro A2 c2 w2 hrow2 ho2 _
      rw [← pv_append, ← numd_step xs k x HXk.out] at hrow2
      have hb2 : Below w.heap.size w w2 := (hb.alloc hb.size _).trans (ho2.below (Nat.le_refl _) (by simp; omega))
      clear ho2 z1
      go_wp2_with fail
      go_roundw
      case rel => exact ⟨k + 1, A2, c2, by omega, by go_num, rfl, hrow2, hb2⟩
      case measure => simp [intOf]; omega
    · obtain rfl : k = n := by omega
      go_wp2_with fail
      go_ret
      exact ⟨B, d, rfl, hrow, hb⟩
end Go.Proofs.Yteijfgijmdighaa
