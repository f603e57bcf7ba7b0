/-
  Lists of strings: their cells, and the contracts of the small functions over them of the package laws.
-/
import Derived.Test.YtjmceapdokkleaaInts
namespace Go.Proofs.Ytjmceapdokkleaa
open Go.RowKit
set_option linter.unusedVariables false

/-- the cells of a list of strings -/
def sv (xs : List ByteArray) : List Value := xs.map Value.string
theorem sv_len (xs : List ByteArray) : (sv xs).length = xs.length := by simp [sv]
theorem sv_get (xs : List ByteArray) (k : Nat) : (sv xs)[k]? = (xs[k]?).map Value.string := by simp [sv]
theorem sv_append (xs ys : List ByteArray) : sv (xs ++ ys) = sv xs ++ sv ys := by simp [sv]
theorem sv_take (xs : List ByteArray) (k : Nat) : sv (xs.take k) = (sv xs).take k := by simp [sv, List.map_take]
theorem sv_drop (xs : List ByteArray) (k : Nat) : sv (xs.drop k) = (sv xs).drop k := by simp [sv, List.map_drop]
theorem sv_one (xs : List ByteArray) : ∀ u ∈ sv xs, u.oneCell' = true := by
  intro u hu
  obtain ⟨s, _, rfl⟩ := List.mem_map.1 hu
  rfl
theorem str_inj {a b : ByteArray} (h : a.toList = b.toList) : a = b := by
  rw [ByteArray.toList_eq, ByteArray.toList_eq] at h
  exact ByteArray.ext (Array.ext' h)
theorem beq_str {a b : ByteArray} (h : ¬ a = b) : (a.toList == b.toList) = false := by
  simp only [beq_eq_false_iff_ne, ne_eq]
  exact fun e => h (str_inj e)
theorem Sees.str {w : World} {A : Option Addr} {n : Nat} {xs : List ByteArray} (h : Sees w A n 1 (sv xs)) {k : Nat} (hk : k < n) :
    ∃ ad x, A = some ad ∧ ad.block < w.heap.size ∧ Hid (xs[k]? = some x) ∧ w.cell? (ad.add k) = some (.string x) := by
  obtain ⟨ad, u, hA, hb, hu, hc⟩ := h.at1 hk
  rw [sv_get] at hu
  obtain ⟨x, hx, rfl⟩ := Option.map_eq_some_iff.1 hu
  exact ⟨ad, x, hA, hb, hx, hc⟩
theorem Sees.slen {w : World} {A : Option Addr} {n : Nat} {xs : List ByteArray} (h : Sees w A n 1 (sv xs)) : xs.length = n := by
  have := h.len
  rw [sv_len] at this
  omega
theorem strInfo : (Try.prog.info? 9).map (fun i => (i.zero, i.size, i.bytes)) = some (some (.string ByteArray.empty), 1, 16) := by kernel_rfl
theorem made_zeroS (n : Nat) : (madeCells (Value.string ByteArray.empty).cells (n * 1)).toList = sv (List.replicate n ByteArray.empty) := by
  rw [Nat.mul_one]
  simp [Value.cells, toList_madeCells_one, sv]
theorem copied_stepS (xs : List ByteArray) (k n : Nat) (x : ByteArray) (hn : xs.length = n) (hk : k < n) (hx : xs[k]? = some x) :
    (sv (xs.take k ++ List.replicate (n - k) ByteArray.empty)).set k (.string x) = sv (xs.take (k + 1) ++ List.replicate (n - (k + 1)) ByteArray.empty) := by
  have h1 : List.replicate (n - k) ByteArray.empty = ByteArray.empty :: List.replicate (n - (k + 1)) ByteArray.empty := by
    rw [show n - k = (n - (k + 1)) + 1 by omega, List.replicate_succ]
  have hl : (xs.take k).length = k := by rw [List.length_take]; omega
  rw [h1, sv, sv, List.map_append, List.map_append]
  rw [List.set_append_right _ _ (by simp; omega)]
  simp only [List.length_map, hl, Nat.sub_self, List.map_cons, List.set_cons_zero]
  rw [List.take_succ_eq_append_getElem (by omega), List.map_append, List.append_assoc]
  rw [List.getElem?_eq_getElem (show k < xs.length by omega)] at hx
  simp [Option.some.inj hx]
set_option maxHeartbeats 400000 in
theorem toStringS_any (A : Option Addr) (n c : Nat) (xs : List ByteArray) (w : World) (hs : Sees w A n 1 (sv xs)) (hn : n ≤ 8796093022208) :
    Calls Try.prog 29 #[.slice A n c] w fun e w' =>
      ∃ A' c', e = .returned (.slice A' n c') ∧ Row w' w.heap.size w'.heap.size 9 1 A' n c' (sv xs) ∧ Below w.heap.size w w' := by
  obtain ⟨i0, hi0, hz0, hz1, hz2⟩ := info_parts strInfo
  have hxl : xs.length = n := by have := hs.len; rw [sv_len] at this; omega
  have HX := hide hxl
  clear hxl
  go_enter Try.func29, Try.ntmps29
  have r1 : i0.bytes * n ≤ 281474976710656 := by rw [hz2]; omega
  have r2 : n ≤ maxLen := by unfold maxLen; omega
  go_wp2_with (at_make; go_loud (refine wpList_make_full _ rfl _ _ _ rfl w.heap.size 9 i0 _ 1 Try.underlying37 hi0 hz0 hz1 .i64 .i64 _ _ n rfl rfl rfl rfl r1 r2 (Nat.le_refl _) ?_); intro w1 hown1 hg1)
  go_loopw [4] (fun i wr => ∃ k : Nat, k ≤ n ∧ i = .int .i64 k ∧ wr.ownsRow w.heap.size 9 1 (.slice (some ⟨w.heap.size, 0, none⟩) n n) n (sv (xs.take k ++ List.replicate (n - k) ByteArray.empty)) ∧ Below w.heap.size w wr ∧ w.heap.size < wr.heap.size) (fun i _ => n - (intOf i).toNat)
  case atStart =>
    have hb : Below w.heap.size w w1 := (Below.refl _ _).grown hg1 (Nat.le_refl _) (by simp)
    refine ⟨0, Nat.zero_le _, rfl, ?_, hb, (hown1.lt w.heap.size rfl).2⟩
    rw [made_zeroS] at hown1
    simpa using hown1
  case round =>
    obtain ⟨k, hk, rfl, hown, hb, hsz⟩ := hrel
    by_cases hlt : k < n
    · obtain ⟨ad, x, rfl, hbl, HX2, hcx⟩ := (hs.below hb).str hlt
      have hcy := hown.cellAt k (by omega)
      have hfy := hown.frozenAt k
      have hlen := hown.1
      rw [List.getElem?_eq_getElem (by omega)] at hcy
      go_wp2
      go_roundw
      case rel =>
        have hst := hown.stored k (.string x)
        rw [copied_stepS xs k n x HX.out hlt HX2.out] at hst
        exact ⟨k + 1, by omega, by go_num, hst.1, hb.setCell (Nat.le_refl _) _, by simpa using hsz⟩
      case measure => simp [intOf]; omega
    · obtain rfl : k = n := by omega
      go_wp2
      go_ret
      refine ⟨_, _, rfl, ⟨?_, ?_, Nat.le_refl _⟩, hb⟩
      · have e : sv (xs.take k ++ List.replicate (k - k) ByteArray.empty) = sv xs := by rw [Nat.sub_self, List.replicate_zero, List.append_nil, List.take_of_length_le (by rw [HX.out]; exact Nat.le_refl _)]
        rw [e] at hown
        exact hown
      · intro ad ha
        obtain rfl := Option.some.inj ha
        exact hsz
theorem takeMore {α : Type} {xs ys : List α} {k : Nat} {x y : α} (h : xs.take k = ys.take k) (hx : xs[k]? = some x) (hy : ys[k]? = some y) (e : x = y) : xs.take (k + 1) = ys.take (k + 1) := by
  obtain ⟨h1, rfl⟩ := List.getElem?_eq_some_iff.1 hx
  obtain ⟨h2, rfl⟩ := List.getElem?_eq_some_iff.1 hy
  rw [List.take_succ_eq_append_getElem h1, List.take_succ_eq_append_getElem h2, h, e]
theorem differAt {α : Type} {xs ys : List α} {k : Nat} {x y : α} (hx : xs[k]? = some x) (hy : ys[k]? = some y) (e : ¬ x = y) : ¬ xs = ys := by
  rintro rfl
  rw [hx] at hy
  exact e (Option.some.inj hy)
theorem takeAll {α : Type} {xs ys : List α} {k n : Nat} (h : xs.take k = ys.take k) (hx : xs.length = n) (hy : ys.length = n) (hk : n ≤ k) : xs = ys := by
  rw [List.take_of_length_le (by omega), List.take_of_length_le (by omega)] at h
  exact h
set_option maxHeartbeats 400000 in
theorem eqStringS_any (A B : Option Addr) (n m c d : Nat) (xs ys : List ByteArray) (w : World) (hs : Sees w A n 1 (sv xs)) (ht : Sees w B m 1 (sv ys)) (hn : n ≤ 70368744177664) (hm : m ≤ 70368744177664) :
    Calls Try.prog 31 #[.slice A n c, .slice B m d] w fun e w' => e = .returned (.bool (decide (xs = ys))) ∧ ∃ q, w' = w.drewN q := by
  have HX := hide hs.slen
  have HY := hide ht.slen
  by_cases hnm : n = m
  · subst hnm
    have h0 : ((n : Int) != (n : Int)) = false := by simp
    go_enter Try.func31, Try.ntmps31
    go_wp2
    go_loopw [5] (fun i wr => ∃ k q : Nat, k ≤ n ∧ i = .int .i64 k ∧ wr = w.drewN q ∧ Hid (xs.take k = ys.take k)) (fun i _ => n - (intOf i).toNat)
    case atStart => exact ⟨0, 0, Nat.zero_le _, rfl, rfl, by simp [Hid]⟩
    case round =>
      obtain ⟨k, q, hk, rfl, rfl, HT⟩ := hrel
      by_cases hlt : k < n
      · obtain ⟨ad, x, rfl, hbl, HXk, hcx⟩ := hs.str hlt
        obtain ⟨bd, y, rfl, hbm, HYk, hcy⟩ := ht.str hlt
        by_cases hxy : x = y
        · have e1 : (x.toList == y.toList) = true := by simp [hxy]
          go_wp2_with fail
          go_quiet (fail)
          go_wp2_with fail
          go_roundw
          case rel => exact ⟨k + 1, _, by omega, by go_num, rfl, takeMore HT.out HXk.out HYk.out hxy⟩
          case measure => simp [intOf]; omega
        · have e1 : (x.toList == y.toList) = false := beq_str hxy
          go_wp2_with fail
          go_quiet (fail)
          go_wp2_with fail
          go_ret
          refine ⟨?_, _, World.drewN_drewN _ _ _⟩
          rw [decide_eq_false (differAt HXk.out HYk.out hxy)]
          rfl
      · go_wp2_with fail
        go_ret
        refine ⟨?_, _, rfl⟩
        rw [decide_eq_true (takeAll HT.out HX.out HY.out (by omega))]
        rfl
  · have h0 : ((n : Int) != (m : Int)) = true := by simp; omega
    go_enter Try.func31, Try.ntmps31
    go_wp2
    go_ret
    refine ⟨?_, 0, rfl⟩
    rw [decide_eq_false (fun h => hnm (by rw [← HX.out, ← HY.out, h]))]
    rfl

set_option maxHeartbeats 400000 in
theorem szStringS_any (A : Option Addr) (n c : Nat) (l : Int) (xs : List ByteArray) (w : World) (hs : Sees w A n 1 (sv xs)) (hn : n ≤ 70368744177664) (hz : ∀ s ∈ xs, s.size ≤ maxLen) (h0 : 0 ≤ l) (h1 : l ≤ 1048576) :
    Calls Try.prog 27 #[.slice A n c, .int .i64 l] w fun e w' => ∃ r : Int, e = .returned (.int .i64 r) ∧ w = w' ∧ -1 ≤ r ∧ r ≤ l ∧ Hid (0 ≤ r → (n : Int) ≤ l) := by
  have HZ := hide hz
  clear hz
  go_enter Try.func27, Try.ntmps27
  by_cases hb : l < (n : Int)
  · have t1 : l - (n : Int) < 0 := by omega
    go_wp2_with fail
    go_ret
    exact ⟨-1, rfl, rfl, by omega, by omega, hide (by omega)⟩
  · have t1 : ¬ (l - (n : Int) < 0) := by omega
    go_wp2_with fail
    go_loop [1, 5] (fun m i => ∃ (j : Nat) (t : Int), j ≤ n ∧ i = .int .i64 j ∧ m = .int .i64 t ∧ 0 ≤ t ∧ t ≤ l) (fun _ i => n - (intOf i).toNat)
    case atStart => exact ⟨0, l - (n : Int), Nat.zero_le _, rfl, rfl, by omega, by omega⟩
    case round =>
      obtain ⟨j, t, hj, rfl, rfl, ht0, ht1⟩ := hrel
      by_cases hlt : j < n
      · obtain ⟨ad, x, rfl, hbl, HXj, hc⟩ := hs.str hlt
        have hx : x.size ≤ 9223372036854775807 := HZ.out x (List.mem_of_getElem? HXj.out)
        obtain ⟨q, hq⟩ : ∃ q, x.size = q := ⟨_, rfl⟩
        rw [hq] at hx
        by_cases hq2 : t - (q : Int) < 0
        · go_wp2_with fail
          go_ret
          exact ⟨-1, rfl, rfl, by omega, by omega, hide (by omega)⟩
        · go_wp2_with fail
          go_round
          case rel => exact ⟨j + 1, t - (q : Int), by omega, by go_num, by go_num, by omega, by omega⟩
          case measure => simp [intOf]; omega
      · go_wp2_with fail
        go_ret
        exact ⟨t, rfl, rfl, by omega, by omega, hide (by omega)⟩
theorem eqStringS_b (A B : Option Addr) (n m c d : Nat) (xs ys : List ByteArray) (w : World) (hs : Sees w A n 1 (sv xs)) (ht : Sees w B m 1 (sv ys)) (hn : n ≤ 70368744177664) (hm : m ≤ 70368744177664) :
    Calls Try.prog 31 #[.slice A n c, .slice B m d] w fun e w' => e = .returned (.bool (decide (xs = ys))) ∧ Below w.heap.size w w' :=
  (eqStringS_any A B n m c d xs ys w hs ht hn hm).mono fun _ _ ⟨he, q, hq⟩ => ⟨he, hq ▸ below_drewN (Below.refl _ _) q⟩
end Go.Proofs.Ytjmceapdokkleaa
