/-
  slices.Concat has all numbers in order: as many as all lists together, here at most a million, each part where it begins; no condition.
-/
import Derived.Test.YtjmceapdokkleaaLift
import Derived.Test.YtjmceapdokkleaaConcat
import Derived.Test.YtjmceapdokkleaaLiftRows
namespace Go.Proofs.Ytjmceapdokkleaa.fnConcatLengths
open Go.ChangeShapes Go.WideShapes Go.ChangeAt Go.RowKit
set_option linter.unusedVariables false

theorem cat_len {w : World} {ps : List Pt} (h : All w ps) : (cat ps).length = tot ps := by
  rw [cat, List.length_flatten, List.map_map, tot]
  congr 1
  exact List.map_congr_left fun p hp => (h p hp).1.ilen
theorem cat_cut {w : World} {ps : List Pt} (h : All w ps) (k : Nat) (p : Pt) (hp : ps[k]? = some p) : ((cat ps).drop (tot (ps.take k))).take p.n = p.xs := by
  obtain ⟨hk, rfl⟩ := List.getElem?_eq_some_iff.1 hp
  have e : ps = ps.take k ++ (ps[k] :: ps.drop (k + 1)) := by rw [← List.drop_eq_getElem_cons hk, List.take_append_drop]
  have e2 : cat ps = cat (ps.take k) ++ (ps[k].xs ++ cat (ps.drop (k + 1))) := by
    have e3 : ∀ (l1 l2 : List Pt) (q : Pt), cat (l1 ++ q :: l2) = cat l1 ++ (q.xs ++ cat l2) := fun l1 l2 q => by simp [cat]
    have h1 := e3 (ps.take k) (ps.drop (k + 1)) ps[k]
    rw [← e] at h1
    exact h1
  have h1 : (cat (ps.take k)).length = tot (ps.take k) := cat_len (w := w) fun q hq => h q (List.mem_of_mem_take hq)
  rw [e2, List.drop_left' h1, List.take_left' (h _ (List.getElem_mem hk)).1.ilen]

set_option maxHeartbeats 2000000 in
set_option maxRecDepth 100000 in
theorem walk (A0 : Option Addr) (n0 c0 : Nat) (qs0 : List Pt) (w : World) (h0 : Sees w A0 n0 1 (qv qs0)) (ha0 : All w qs0) (hm0 : ∀ p ∈ qs0, p.n ≤ 9223372036854775807) (hc0 : n0 ≤ c0) (hn0 : n0 ≤ 5864062014634) :
    Calls Try.prog 3 #[.slice A0 n0 c0] w fun e w' => e = .returned (.bool true) ∧ Below w.heap.size w w' := by
  obtain ⟨i0, hi0, hz0, hz1, hz2⟩ := info_parts intInfo
  have HP := hide h0.qlen
  have HA0 := hide ha0
  have HMX := hide hm0
  clear hm0 ha0
  go_enter Try.func3, Try.ntmps3
  go_wp2_with fail
  go_loop [3, 12] (fun r i => ∃ (k t : Nat), k ≤ n0 ∧ i = .int .i64 k ∧ r = .int .i64 (t : Int) ∧ Hid (t + tot (qs0.take k) = 1000000)) (fun _ i => n0 - (intOf i).toNat)
  case atStart => exact ⟨0, 1000000, Nat.zero_le _, rfl, rfl, rfl⟩
  case round =>
    obtain ⟨k, t, hk, rfl, rfl, HT⟩ := hrel
    have ht1 : t ≤ 1000000 := by have := HT.out; omega
    by_cases hlt : k < n0
    · obtain ⟨ad, p, rfl, _, HPk, hpm, hc⟩ := h0.pt hlt
      have hpb := HMX.out p hpm
      clear hpm
      by_cases hgt : t < p.n
      · have e1 : decide ((t : Int) < (p.n : Int)) = true := by simp; omega
        go_wp2_with fail
        go_ret
        exact ⟨rfl, Below.refl _ _⟩
      · have e1 : decide ((t : Int) < (p.n : Int)) = false := by simp; omega
        go_wp2_with fail
        go_round
        case rel => exact ⟨k + 1, t - p.n, by omega, by go_num, by rw [show ((t - p.n : Nat) : Int) = (t : Int) - (p.n : Int) by omega], by show _ = _; have := HT.out; rw [tot_snoc qs0 k p HPk.out]; omega⟩
        case measure => simp [intOf]; omega
    · obtain rfl : k = n0 := by omega
      have hT : tot qs0 ≤ 1000000 := by
        have := HT.out
        rw [List.take_of_length_le (by rw [HP.out]; exact Nat.le_refl _)] at this
        omega
      clear HT ht1
      go_wp2_with fail
      refine (ConcatInts_any A0 k c0 qs0 _ h0 HA0.out (by omega) (by omega)).mono ?_
      rintro e w1 ⟨Ay, cy, rfl, y, b1⟩
      obtain ⟨T, hTT⟩ : ∃ T, tot qs0 = T := ⟨_, rfl⟩
      rw [hTT] at hT y ⊢
      have HTT := hide hTT
      have s1 := b1.size
      clear hTT
      go_wp2_with fail
      go_loopw [7, 29] (fun a i wr => ∃ (j s : Nat), j ≤ k ∧ i = .int .i64 j ∧ a = .int .i64 (s : Int) ∧ Hid (tot (qs0.take j) = s) ∧ Row wr w.heap.size w1.heap.size 3 1 Ay T cy (iv (cat qs0)) ∧ Below w.heap.size w wr) (fun _ i _ => k - (intOf i).toNat)
      case atStart => exact ⟨0, 0, Nat.zero_le _, rfl, rfl, rfl, y, b1⟩
      case round =>
        clear y b1
        obtain ⟨j, s, hj, rfl, rfl, HS, y, b⟩ := hrel
        by_cases hlt2 : j < k
        · obtain ⟨ad, p, rfl, _, HPk, hpm, hc⟩ := (h0.below b).pt hlt2
          have hp1 := (HA0.out.below b p hpm).1
          have l1 := tot_le qs0 j p HPk.out
          rw [HS.out, HTT.out] at l1
          have hcy := y.cap.1
          have q1 : ∀ W, (Instr.slice 23 (.slice Ay T cy) (some (.int .i64 (s : Int))) (some (.int .i64 ((s : Int) + (p.n : Int)))) none).run Try.prog W = .ok (.slice (cutA Ay cy s 1) p.n (cy - s)) W := fun W => by
            rw [show (s : Int) + (p.n : Int) = ((s + p.n : Nat) : Int) by omega, run_slice_mid (P := Try.prog) W 23 3 i0 1 Try.underlying23 hi0 hz1 Ay T cy .i64 .i64 s (s + p.n) (by omega) (by omega), Nat.add_sub_cancel_left]
          have v1 : Sees wr (cutA Ay cy s 1) p.n 1 (iv p.xs) := by
            have t1 := y.sees.cutA (k := s) (m := p.n) (c := cy) (by omega) hcy
            rw [Nat.mul_one, Nat.mul_one, ← iv_drop, ← iv_take, ← HS.out, cat_cut HA0.out j p HPk.out] at t1
            rw [HS.out] at t1
            exact t1
          have e1 : decide ((T : Int) < (s : Int) + (p.n : Int)) = false := by simp; omega
          clear hpm
          go_wp2_with fail
          refine (sameInts_b _ p.A p.n p.n (cy - s) p.c p.xs p.xs _ v1 hp1 (by omega) (by omega)).mono ?_
          rintro e w2 ⟨rfl, d2⟩
          rw [decide_eq_true rfl]
          have b2 : Below w.heap.size w w2 := b.trans (d2.mono b.size)
          have y2 := y.below d2 y.2.2
          clear d2 q1 v1 hp1 b y
          go_wp2_with fail
          go_roundw
          case rel => exact ⟨j + 1, s + p.n, by omega, by go_num, by go_num, by show _ = _; rw [tot_snoc qs0 j p HPk.out, HS.out], y2, b2⟩
          case measure => simp [intOf]; omega
        · obtain rfl : j = k := by omega
          obtain rfl : s = T := by rw [← HS.out, ← HTT.out, List.take_of_length_le (by rw [HP.out]; exact Nat.le_refl _)]
          have e1 : ((s : Int) == (s : Int)) = true := by simp
          go_wp2_with fail
          go_ret
          exact ⟨rfl, b⟩

set_option maxRecDepth 100000 in
theorem lifted (os : Os) (started : os.Started) (H : Type) (enc : TypeId × Value → H) :
    ReturnsInHanded {} Try.checked os 3 .any (Rows.fnConcatLengthsSpec.pre6 enc Try.prog Try.f3 Rows.fnConcatLengthsRow.domain false) (Rows.fnConcatLengthsSpec.post enc Try.prog Try.f3 false true false false) := by
  refine returnsInHanded_of_change_sized (C := Try.checked) ownKnob_none started (by kernel_rfl) Try.func3
    (ChangeSpec.witness6 (enc := enc) (C := Try.checked) false ⟨#[], #[.slice none 0 0], []⟩ 8 (by kernel_rfl) (by kernel_rfl) (by kernel_rfl) (by kernel_rfl)) ?_
  intro W base args ds gs before hval0 hW hcnd hsz0 _
  have hsz : (DataW.weightsEach Try.prog (Try.f3.params.toList ++ Rows.fnConcatLengthsSpec.plain.varTypes Try.prog) (ds ++ gs)).all (· ≤ reachBytes) = true := hsz0
  have hval : ∀ (j : Nat) t v, Try.f3.params[j]? = some t → args[j]? = some v → Value.okWide Try.prog W .any base t v := hval0
  have hW' := hW
  obtain ⟨p, q, hA0, hV, rfl, hfz, hnd⟩ := hW
  have hA : DataW.TrodAll enc Try.prog W 0 (fun _ => true) true Try.f3.params.toList args.toList ds p := hA0
  rw [Try.params3] at hA hval hsz
  obtain ⟨v0, vs0, d0, ds0, p0, q0, hargs, rfl, rfl, h0, r0⟩ := trodAll_cons hA
  obtain ⟨rfl, rfl, rfl⟩ := trodAll_nil r0
  obtain rfl : args = #[v0] := by cases args; simp_all
  obtain ⟨rfl, rfl⟩ := trodVars_none hV
  have k0 := h0
  have lt0 : ∀ x ∈ p0, x.block < W.heap.size := by obtain ⟨m, hm⟩ := k0; exact DataW.trod_lt m _ _ _ hm
  obtain ⟨A0, n0, c0, qs0, rfl, s0, a0a, m0m, c0c, z0⟩ := arg_intss (hval 0 22 v0 rfl rfl) h0
  clear hA0 hval0 hsz0
  refine (walk A0 n0 c0 qs0 W s0 a0a m0m c0c (z0 (weights_arg hsz 0 rfl rfl))).mono fun e W' ⟨he, bel⟩ => ?_
  subst he
  exact ⟨_, rfl, _, _, _, [], _, [], hW', trodAll_mk1 (shut_bool Try.underlying4 _), (trodAll_cons_mk (Below.trod laidOut (by kernel_rfl) (of_decide_eq_true (by kernel_rfl)) k0 bel lt0) trodAll_mk0), rfl, bel.frame _, fun h => by cases h⟩

theorem over : Rows.fnConcatLengthsRow.holds Try.pinned (OpenSpec.ofChange Rows.fnConcatLengthsSpec) :=
  OpenClaim.holds_of_wide 3 Try.f3 rfl rfl rfl rfl rfl rfl rfl ⟨rfl, rfl, rfl, rfl, rfl⟩ rfl rfl rfl rfl rfl (by kernel_rfl) Try.func3 (by kernel_rfl)
    (of_decide_eq_true (by kernel_rfl)) (by unfold Func.isWrapper; first | (rw [if_pos (by decide +kernel)]; kernel_rfl) | (rw [if_neg (by decide +kernel)]; exact ⟨rfl, rfl⟩))
    (fun os started H enc _ => lifted os started H enc)

theorem proved : Rows.FnConcatLengthsSaid := over
end Go.Proofs.Ytjmceapdokkleaa.fnConcatLengths
