/-
  Contracts: slices.Chunk of numbers: the iterator.
-/
import Derived.RangeFuncNested
import Derived.RangeFuncBound
import Derived.RangeFuncCalls
import Derived.RangeFuncLeaves
import Derived.Shelf.Abstract
import Derived.Shelf.RegionOpen
import Derived.OwnWalkIn
import Derived.TacticsInMore
import Derived.LoopNIn
import Derived.LoopIn
import Derived.Test.YtjmceapdokkleaaRowsBase
namespace Go.Proofs.Ytjmceapdokkleaa
open Go.RowKit Go.Shelf
set_option linter.unusedVariables false
attribute [local go_sem] Oper.semAt_some

/-- what a round keeps: all below n₀ but one box -/
def Kq (n₀ Y : Nat) (W W' : World) : Prop := W.heap.size ≤ W'.heap.size ∧ ∀ k, k < n₀ → k ≠ Y → W'.heap[k]? = W.heap[k]?
theorem Kq.refl (n₀ Y : Nat) (W : World) : Kq n₀ Y W W := ⟨Nat.le_refl _, fun _ _ _ => rfl⟩
theorem Kq.trans {n₀ Y : Nat} {A B C : World} (h : Kq n₀ Y A B) (k : Kq n₀ Y B C) : Kq n₀ Y A C := ⟨Nat.le_trans h.1 k.1, fun i hi hn => (k.2 i hi hn).trans (h.2 i hi hn)⟩
theorem Kq.cell {n₀ Y : Nat} {A B : World} (h : Kq n₀ Y A B) {g : Nat} (hg : g < n₀) (hn : g ≠ Y) {j : Nat} {v : Value} (hc : A.cell? ⟨g, j, none⟩ = some v) : B.cell? ⟨g, j, none⟩ = some v := by
  rw [← hc]
  exact World.cell?_of_block (h.2 g hg hn)

/-- one chunk as a value -/
def ckv (A : Option Addr) (len m k : Nat) : Value := .slice (cutA A (k * m + min m (len - k * m)) (k * m) 1) (min m (len - k * m)) (min m (len - k * m))

set_option maxRecDepth 100000 in
set_option maxHeartbeats 2000000 in
theorem chunk1_in {α : Type} (n : Nat) (hn : 1 ≤ n) (l Bs Bn n₀ Y : Nat) (A : Option Addr) (len cap m : Nat) (hm : 1 ≤ m) (hmb : (m : Int) ≤ 9223372036854775807) (hlen : len ≤ 17592186044416) (hcap : len ≤ cap)
    (hs1 : Bs < n₀) (hs2 : Bs ≠ Y) (hn1 : Bn < n₀) (hn2 : Bn ≠ Y) (part : Nat → α) (encs : α → Array Value) (henc : ∀ k, encs (part k) = #[ckv A len m k]) (J Jx : List α → World → Prop) (hJd : ∀ pre W, J pre W → J pre W.drew)
    (hY : ∀ pre x W, J pre W → pre.length < len → YieldAt Fence.wide (n - 1) Try.prog l (encs x) W fun e W' =>
      (e = .returned (.bool true) ∧ J (pre ++ [x]) W' ∧ Kq n₀ Y W W') ∨ (e = .returned (.bool false) ∧ Jx (pre ++ [x]) W'))
    (W : World) (hBs : W.cell? ⟨Bs, 0, none⟩ = some (.slice A len cap)) (hBn : W.cell? ⟨Bn, 0, none⟩ = some (.int .i64 m)) (h0 : J [] W) :
    CallsIn Fence.wide n Try.prog 45 #[.func (.yield l) #[] #[], .pointer (some ⟨Bs, 0, none⟩), .pointer (some ⟨Bn, 0, none⟩)] W fun e W' => (∃ v, e = .returned v) ∧
      ((∃ ys, (∃ k, ys = (List.range k).map part ∧ len ≤ k * m ∧ ∀ j, j < k → j * m < len) ∧ J ys W') ∨ (∃ pre, True ∧ Jx pre W')) := by
  obtain ⟨i0, hi0, hz0, hz1, hz2⟩ := info_parts intInfo
  refine callsIn_of_wp Try.func45 rfl trivial ?_ rfl
  simp only [Try.ntmps45, List.size_toArray, List.length_cons, List.length_nil, Nat.reduceAdd, Nat.reduceSub, Array.replicate_succ, Array.replicate_zero, List.push_toArray, List.append_toArray, List.nil_append, List.cons_append]
  gi_wp2
  gi_loopw [4] (fun i wr => ∃ k : Nat, i = .int .i64 ((k * m : Nat) : Int) ∧ J ((List.range k).map part) wr ∧ Kq n₀ Y W wr ∧ Hid (∀ j, j < k → j * m < len)) (fun i _ => len - (intOf i).toNat)
  case atStart => exact ⟨0, by rw [Nat.zero_mul]; rfl, h0, Kq.refl _ _ _, fun j hj => by omega⟩
  case round =>
    obtain ⟨k, rfl, hJ, hk, HK⟩ := hrel
    have c1 := hk.cell hs1 hs2 hBs
    have c2 := hk.cell hn1 hn2 hBn
    obtain ⟨i, hi⟩ : ∃ i, k * m = i := ⟨_, rfl⟩
    rw [hi]
    have HI := hide hi
    clear hi
    by_cases hlt : i < len
    · have q1 := fun W => run_slice_lo (P := Try.prog) W 23 3 i0 1 Try.underlying23 hi0 hz1 A len cap .i64 i (by omega)
      have hkl : k < len := by
        have h1 : k * 1 ≤ k * m := Nat.mul_le_mul_left k hm
        rw [HI.out] at h1
        omega
      have him : (i : Int) + (m : Int) ≤ 9223372036854775807 := by
        rcases Nat.eq_zero_or_pos k with h | h
        · have : i = 0 := by rw [← HI.out, h, Nat.zero_mul]
          omega
        · have h1 : 1 * m ≤ k * m := Nat.mul_le_mul_right m h
          rw [HI.out] at h1
          omega
      rcases Nat.lt_or_ge (len - i) m with hc | hc
      · have hen : encs (part k) = #[.slice (Option.map (fun x => x.add i) A) (len - i) (len - i)] := by
          have e1 : min m (len - i) = (len - i) := by omega
          rw [henc, ckv, HI.out, e1, cutA, if_neg (by omega), Nat.mul_one]
        obtain ⟨fn, tmps, assign, body, hy, hR⟩ := hY _ (part k) wr.drew (hJd _ _ hJ) (by rw [List.length_map, List.length_range]; exact hkl)
        rw [hen] at hy
        clear hen
        gi_wp2
        gi_region
        all_goals
          gi_wp2
          refine hR.mono ?_
          rintro e W3 (⟨rfl, hJ3, hk3⟩ | ⟨rfl, hJx3⟩)
          · have k3 : Kq n₀ Y W W3 := hk.trans hk3
            have c3 := k3.cell hn1 hn2 hBn
            have hnx : (k + 1) * m = i + m := by rw [Nat.add_mul, HI.out, Nat.one_mul]
            have HNX := hide hnx
            clear hnx
            gi_wp2
            go_roundw
            case rel => exact ⟨k + 1, by rw [HNX.out]; rfl, by rw [List.range_succ, List.map_append]; exact hJ3, k3, fun j hj => by
              rcases Nat.lt_or_ge j k with h | h
              · exact HK.out j h
              · rw [show j = k by omega, HI.out]; exact hlt⟩
            case measure => simp [intOf]; omega
          · gi_wp2
            refine bodyPost_ret (results_none rfl _ _ _) rfl ?_
            exact ⟨⟨_, rfl⟩, .inr ⟨_, trivial, hJx3⟩⟩
      · have hen : encs (part k) = #[.slice (Option.map (fun x => x.add i) A) m m] := by
          have e1 : min m (len - i) = m := by omega
          rw [henc, ckv, HI.out, e1, cutA, if_neg (by omega), Nat.mul_one]
        obtain ⟨fn, tmps, assign, body, hy, hR⟩ := hY _ (part k) wr.drew (hJd _ _ hJ) (by rw [List.length_map, List.length_range]; exact hkl)
        rw [hen] at hy
        clear hen
        gi_wp2
        gi_region
        all_goals
          gi_wp2
          refine hR.mono ?_
          rintro e W3 (⟨rfl, hJ3, hk3⟩ | ⟨rfl, hJx3⟩)
          · have k3 : Kq n₀ Y W W3 := hk.trans hk3
            have c3 := k3.cell hn1 hn2 hBn
            have hnx : (k + 1) * m = i + m := by rw [Nat.add_mul, HI.out, Nat.one_mul]
            have HNX := hide hnx
            clear hnx
            gi_wp2
            go_roundw
            case rel => exact ⟨k + 1, by rw [HNX.out]; rfl, by rw [List.range_succ, List.map_append]; exact hJ3, k3, fun j hj => by
              rcases Nat.lt_or_ge j k with h | h
              · exact HK.out j h
              · rw [show j = k by omega, HI.out]; exact hlt⟩
            case measure => simp [intOf]; omega
          · gi_wp2
            refine bodyPost_ret (results_none rfl _ _ _) rfl ?_
            exact ⟨⟨_, rfl⟩, .inr ⟨_, trivial, hJx3⟩⟩
    · gi_wp2
      go_end0
      exact ⟨⟨_, rfl⟩, .inl ⟨_, ⟨k, rfl, by rw [HI.out]; omega, HK.out⟩, hJ⟩⟩
end Go.Proofs.Ytjmceapdokkleaa
