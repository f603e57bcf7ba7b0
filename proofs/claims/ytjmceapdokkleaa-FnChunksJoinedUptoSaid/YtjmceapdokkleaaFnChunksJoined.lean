/-
  slices.Concat of slices.Chunk is the list; all chunks but the last one have the size, this has at least one number and at most as many; for arguments of bulk at most 1048576.
-/
import Derived.Test.YtjmceapdokkleaaLift
import Derived.Test.YtjmceapdokkleaaChunkW
import Derived.Test.YtjmceapdokkleaaConcat
namespace Go.Proofs.Ytjmceapdokkleaa.fnChunksJoined
open Go.ChangeShapes Go.WideShapes Go.ChangeAt Go.RowKit
set_option linter.unusedVariables false

set_option maxHeartbeats 2000000 in
set_option maxRecDepth 100000 in
theorem walk (A0 : Option Addr) (n0 c0 : Nat) (xs0 : List Int) (a1 : Int) (w : World) (h0 : Sees w A0 n0 1 (iv xs0)) (hc0 : n0 ≤ c0) (hw0 : ∀ x ∈ xs0, (Lit.int .i64 x).wf = true) (hw1 : (Lit.int .i64 a1).wf = true) (hup : n0 ≤ 1048576) :
    Calls Try.prog 8 #[.slice A0 n0 c0, .int .i64 a1] w fun e w' => e = .returned (.bool true) ∧ Below w.heap.size w w' := by
  have hbd := bounds_i64 hw1
  by_cases g1 : a1 < 1
  · clear hbd
    have g2 : ¬ 1 ≤ a1 := by omega
    go_enter Try.func8, Try.ntmps8
    go_wp2_with fail
    refine (ChunkInts_bad A0 n0 c0 a1 _ g1).mono ?_
    rintro e w1 ⟨rfl, d1⟩
    have b1 : Below w.heap.size w w1 := (Below.refl w.heap.size w).trans (d1.mono (Below.refl w.heap.size w).size)
    have s1 : w.heap.size ≤ w1.heap.size := d1.size
    clear d1
    go_wp2_with fail
    go_ret
    exact ⟨rfl, b1⟩
  obtain ⟨m, rfl⟩ : ∃ m : Nat, a1 = (m : Int) := ⟨a1.toNat, by omega⟩
  have HMB := hide hbd.2
  have hm1 : 1 ≤ m := by omega
  have hm2 : (1 : Int) ≤ (m : Int) := by omega
  have e0 : decide ((1 : Int) ≤ (m : Int)) = true := by simp; omega
  have HX := hide h0.ilen
  clear hbd g1
  go_enter Try.func8, Try.ntmps8
  go_wp2_with fail
  refine (ChunkInts_ok A0 n0 c0 m xs0 _ h0 hc0 (by omega) hm1 HMB.out).mono ?_
  rintro e w1 ⟨Ay, cy, k, qs, rfl, y, hq, b1⟩
  have HQ := hide hq.1
  have HK1 := hide hq.2.1
  have HK2 := hide hq.2.2
  have hkn : k ≤ n0 := by
    rcases Nat.eq_zero_or_pos k with h | h
    · omega
    · have h1 := hq.2.2 (k - 1) (by omega)
      have h2 : (k - 1) * 1 ≤ (k - 1) * m := Nat.mul_le_mul_left _ hm1
      omega
  clear hq
  go_wp2_with fail
  go_loop [23] (fun i => ∃ j : Nat, j ≤ k ∧ i = .int .i64 j) (fun i => k - (intOf i).toNat)
  case atStart => exact ⟨0, Nat.zero_le _, rfl⟩
  case round =>
    obtain ⟨j, hj, rfl⟩ := hrel
    by_cases hlt : j < k
    · obtain ⟨ad, p, rfl, _, HPk, _, hc⟩ := y.sees.pt hlt
      have hpn := chunk_n HX.out y.all HQ.out HPk.out hlt
      have hjm := HK2.out j hlt
      obtain ⟨i, hi⟩ : ∃ i, j * m = i := ⟨_, rfl⟩
      rw [hi] at hpn hjm
      have l1 : ¬ p.n < 1 := by omega
      have l2 : ¬ m < p.n := by omega
      by_cases hnx : j + 1 < k
      · have h2 := HK2.out (j + 1) hnx
        rw [Nat.add_mul, hi, Nat.one_mul] at h2
        have l3 : p.n = m := by omega
        have e1 : ((p.n : Int) != (m : Int)) = false := by simp [l3]
        clear l3 h2 hpn hjm hi
        go_wp2_with fail
        go_round
        case rel => exact ⟨j + 1, by omega, by go_num⟩
        case measure => simp [intOf]; omega
      · clear hpn hjm hi
        go_wp2_with fail
        go_round
        case rel => exact ⟨j + 1, by omega, by go_num⟩
        case measure => simp [intOf]; omega
    · obtain rfl : j = k := by omega
      obtain ⟨t1, t2⟩ := chunks_tot HX.out y.all HQ.out HK1.out
      have T1 := hide t1
      have T2 := hide t2
      clear t1 t2
      go_wp2_with fail
      refine (ConcatInts_any Ay j cy qs _ y.sees y.all (by rw [T1.out]; omega) (by omega)).mono ?_
      rintro e w2 ⟨Az, cz, rfl, z, d2⟩
      rw [T1.out, T2.out] at z
      rw [T1.out]
      have b2 : Below w.heap.size w w2 := b1.trans (d2.mono b1.size)
      clear d2
      go_wp2_with fail
      refine (sameInts_b Az A0 n0 n0 cz c0 xs0 xs0 _ z.sees (h0.below b2) (by omega) (by omega)).mono ?_
      rintro e w3 ⟨rfl, d3⟩
      rw [decide_eq_true rfl]
      have b3 : Below w.heap.size w w3 := b2.trans (d3.mono b2.size)
      clear d3
      go_wp2_with fail
      go_ret
      exact ⟨rfl, b3⟩

set_option maxRecDepth 100000 in
theorem lifted (os : Os) (started : os.Started) (H : Type) (enc : TypeId × Value → H) (F : Stop.Interp) :
    ReturnsInHanded {} Try.checked os 8 .any ((Rows.OpenSpec.upto Rows.fnChunksJoinedSpec).pre6 enc Try.prog Try.f8 Rows.fnChunksJoinedUptoRow.domain false) (((Rows.OpenSpec.upto Rows.fnChunksJoinedSpec).at F).post enc Try.prog Try.f8 false true false false) := by
  refine returnsInHanded_of_cond (C := Try.checked) (s := Rows.OpenSpec.upto Rows.fnChunksJoinedSpec) (k := Rows.uptoSmall) rfl ownKnob_none started (by kernel_rfl) Try.func8
    (OpenSpec.witness (enc := enc) (C := Try.checked) (s := Rows.OpenSpec.upto Rows.fnChunksJoinedSpec) (k := Rows.uptoSmall) rfl false ⟨#[], #[.slice none 0 0, .int .i64 0], []⟩ 8 (by kernel_rfl) (by kernel_rfl) (by kernel_rfl)
      (x := ([.nil, .lit (.int .i64 0)], [], [])) (by kernel_rfl) rfl (by kernel_rfl)) ?_
  intro W base args ds gs before hval0 hW hcnd hk _
  have hval : ∀ (j : Nat) t v, Try.f8.params[j]? = some t → args[j]? = some v → Value.okWide Try.prog W .any base t v := hval0
  have hW' := hW
  obtain ⟨p, q, hA0, hV, rfl, hfz, hnd⟩ := hW
  have hA : DataW.TrodAll enc Try.prog W 0 (fun _ => true) true Try.f8.params.toList args.toList ds p := hA0
  rw [Try.params8] at hA hval
  obtain ⟨v0, vs0, d0, ds0, p0, q0, hargs, rfl, rfl, h0, r0⟩ := trodAll_cons hA
  obtain ⟨v1, vs1, d1, ds1, p1, q1, rfl, rfl, rfl, h1, r1⟩ := trodAll_cons r0
  obtain ⟨rfl, rfl, rfl⟩ := trodAll_nil r1
  obtain rfl : args = #[v0, v1] := by cases args; simp_all
  obtain ⟨rfl, rfl⟩ := trodVars_none hV
  have k0 := h0
  have lt0 : ∀ x ∈ p0, x.block < W.heap.size := by obtain ⟨m, hm⟩ := k0; exact DataW.trod_lt m _ _ _ hm
  obtain ⟨A0, n0, c0, xs0, rfl, s0, c0c, _, w0, z0, u0⟩ := arg_ints (hval 0 23 v0 rfl rfl) h0
  obtain ⟨a1, rfl, rfl, rfl, w1⟩ := open_int Try.underlying3 (hval 1 3 v1 rfl rfl) h1
  clear hA0 hval0
  have hup : n0 ≤ 1048576 := by
    have hk1 := of_decide_eq_true hk
    simp only [List.append_nil, Rows.uptoBulkAll] at hk1
    omega
  refine (walk A0 n0 c0 xs0 a1 W s0 c0c w0 w1 hup).mono fun e W' ⟨he, bel⟩ => ?_
  subst he
  exact ⟨_, rfl, _, _, _, [], _, [], hW', trodAll_mk1 (shut_bool Try.underlying4 _), (trodAll_cons_mk (Below.trod laidOut (by kernel_rfl) (of_decide_eq_true (by kernel_rfl)) k0 bel lt0) (trodAll_cons_mk (shut_int Try.underlying3 w1) trodAll_mk0)), rfl, bel.frame _, fun h => by cases h⟩

theorem over : Rows.fnChunksJoinedUptoRow.holds Try.pinned (Rows.OpenSpec.upto Rows.fnChunksJoinedSpec) :=
  OpenClaim.holds_of_cond 8 Try.f8 rfl rfl rfl rfl rfl rfl rfl ⟨rfl, rfl, rfl, rfl, rfl⟩ rfl rfl rfl rfl rfl (by kernel_rfl) Try.func8 (by kernel_rfl)
    (of_decide_eq_true (by kernel_rfl)) (by unfold Func.isWrapper; first | (rw [if_pos (by decide +kernel)]; kernel_rfl) | (rw [if_neg (by decide +kernel)]; exact ⟨rfl, rfl⟩))
    (fun os started H enc _ F => lifted os started H enc F)

theorem proved : Rows.FnChunksJoinedUptoSaid := over
end Go.Proofs.Ytjmceapdokkleaa.fnChunksJoined
