/-
  slices.CompactFunc by keys keeps the first item of each run, so that tags that are indices tell where runs begin; for arguments of bulk at most 1048576.
-/
import Derived.Test.YtkjknjigjdpkoaaLift
import Derived.Test.YtkjknjigjdpkoaaCompactIW
import Derived.Test.YtkjknjigjdpkoaaKeysOf
import Derived.Test.YtkjknjigjdpkoaaCompact
namespace Go.Proofs.Ytkjknjigjdpkoaa.fnCompactKeepsFirst
open Go.ChangeShapes Go.WideShapes Go.ChangeAt Go.RowKit
set_option linter.unusedVariables false

theorem cptTo_more {α κ : Type} [DecidableEq κ] (key : α → κ) (xs : List α) (k m : Nat) : ∃ zs, cptTo key xs (k + m) = cptTo key xs k ++ zs := by
  induction m with
  | zero => exact ⟨[], by simp⟩
  | succ m ih =>
    obtain ⟨zs, hz⟩ := ih
    rw [← Nat.add_assoc, cptTo]
    split
    · exact ⟨zs ++ [_], by rw [hz, List.append_assoc]⟩
    · split
      · exact ⟨zs, hz⟩
      · exact ⟨zs ++ [_], by rw [hz, List.append_assoc]⟩
    · exact ⟨zs, hz⟩
theorem cptTo_map {α κ : Type} [DecidableEq κ] (key : α → κ) (xs : List α) (k : Nat) : (cptTo key xs k).map key = cptTo id (xs.map key) k := by
  induction k with
  | zero => rfl
  | succ k ih =>
    rw [cptTo, cptTo, List.getElem?_map, List.getElem?_map]
    by_cases h0 : k = 0
    · rw [if_pos h0, if_pos h0]
      cases hx : xs[k]? with
      | none => simpa using ih
      | some x => simp [ih]
    · rw [if_neg h0, if_neg h0]
      cases hx : xs[k]? with
      | none => simpa using ih
      | some x =>
        cases hy : xs[k - 1]? with
        | none => simp [ih]
        | some y =>
          by_cases h : key x = key y
          · simp [h, ih]
          · simp [h, ih]
theorem at_next {nd : List (Int × Int)} {j n t : Nat} {p : Int × Int} (hj : j < n) (hn : nd.length = n) (ht : (cptTo Prod.fst nd j).length = t) (h : cptTo Prod.fst nd (j + 1) = cptTo Prod.fst nd j ++ [p]) : (cptP nd)[t]? = some p := by
  obtain ⟨zs, hz⟩ := cptTo_more Prod.fst nd (j + 1) (n - (j + 1))
  rw [show j + 1 + (n - (j + 1)) = n by omega, h] at hz
  rw [cptP, cpt, hn, hz, List.append_assoc, List.getElem?_append_right (by omega), ht, Nat.sub_self]
  rfl

set_option maxHeartbeats 2000000 in
set_option maxRecDepth 100000 in
theorem walk (A0 : Option Addr) (n0 c0 : Nat) (xs0 : List Int) (w : World) (h0 : Sees w A0 n0 1 (iv xs0)) (hc0 : n0 ≤ c0) (hw0 : ∀ x ∈ xs0, (Lit.int .i64 x).wf = true) (hup : n0 ≤ 1048576) :
    Calls Try.prog 14 #[.slice A0 n0 c0] w fun e w' => e = .returned (.bool true) ∧ Below w.heap.size w w' := by
  have HX := hide h0.ilen
  obtain ⟨nd, hnd⟩ : ∃ nd, numd xs0 n0 = nd := ⟨_, rfl⟩
  have hndl : nd.length = n0 := by rw [← hnd, numd_len xs0 n0 (by rw [HX.out]; exact Nat.le_refl _)]
  have HG : Hid (∀ (j : Nat) x, xs0[j]? = some x → nd[j]? = some (x, (j : Int))) := fun j x h => by
    have := numd_get xs0 j x h
    rw [HX.out] at this
    rw [← hnd]
    exact this
  have HKI : Hid (keys (cptP nd) = cptI xs0) := by
    show _ = _
    have h1 := cptTo_map Prod.fst nd n0
    have h2 : nd.map Prod.fst = xs0 := by
      have := numd_keys xs0
      rw [HX.out, hnd] at this
      exact this
    rw [h2] at h1
    rw [keys, cptP, cpt, hndl, h1, cptI, cpt, HX.out]
  obtain ⟨T, hT⟩ : ∃ T, (cptP nd).length = T := ⟨_, rfl⟩
  have hTn : T ≤ n0 := by rw [← hT, ← hndl]; exact cpt_len
  have HT := hide hT
  have HND := hide hnd
  have HNL := hide hndl
  have HTI : Hid ((cptI xs0).length = T) := by show _ = _; rw [← HKI.out, keys_len, hT]
  clear hnd hndl hT
  go_enter Try.func14, Try.ntmps14
  go_wp2_with fail
  refine (numbered_any A0 n0 c0 xs0 _ h0 (by omega)).mono ?_
  rintro e w1 ⟨Ab, cb, rfl, b, d1⟩
  have b1 : Below w.heap.size w w1 := (Below.refl w.heap.size w).trans (d1.mono (Below.refl w.heap.size w).size)
  have s1 : w.heap.size ≤ w1.heap.size := d1.size
  clear d1
  rw [HND.out] at b
  go_wp2_with fail
  refine (CompactItems_any Ab n0 cb nd _ b.sees (by omega)).mono ?_
  rintro e w2 ⟨Ay, cy, rfl, y, d2⟩
  have b2 : Below w.heap.size w w2 := b1.trans (d2.mono b1.size)
  have s2 : w1.heap.size ≤ w2.heap.size := d2.size
  replace b := b.next d2
  clear d2
  rw [HT.out] at y ⊢
  go_wp2_with fail
  have x := h0.below b2
  go_loop [4, 12] (fun s i => ∃ (j t : Nat), j ≤ n0 ∧ t ≤ j ∧ i = .int .i64 j ∧ s = .int .i64 t ∧ Hid ((cptTo Prod.fst nd j).length = t)) (fun _ i => n0 - (intOf i).toNat)
  case atStart => exact ⟨0, 0, Nat.zero_le _, Nat.le_refl _, rfl, rfl, rfl⟩
  case round =>
    obtain ⟨j, t, hj, htj, rfl, rfl, HS⟩ := hrel
    by_cases hlt : j < n0
    · obtain ⟨ad, v, hA, _, HV, hc⟩ := x.int hlt
      have HVn := hide (HG.out j v HV.out)
      have keep : ∀ (hC : cptTo Prod.fst nd (j + 1) = cptTo Prod.fst nd j ++ [(v, (j : Int))]), Hid ((cptP nd)[t]? = some (v, (j : Int)) ∧ t < T ∧ (cptTo Prod.fst nd (j + 1)).length = t + 1) := fun hC => by
        have h1 := at_next hlt HNL.out HS.out hC
        refine ⟨h1, ?_, by rw [hC, List.length_append, HS.out]; rfl⟩
        rw [← HT.out]
        exact (List.getElem?_eq_some_iff.1 h1).1
      have KEEP := hide keep
      clear keep
      rcases Nat.eq_zero_or_pos j with hz | hz
      · have e1 : decide ((0 : Int) < (j : Int)) = false := by simp; omega
        have HC : Hid (cptTo Prod.fst nd (j + 1) = cptTo Prod.fst nd j ++ [(v, (j : Int))]) := by
          have h1 := HVn.out
          subst hz
          exact cptTo_first h1
        have hj0 : ¬ 0 < j := by omega
        clear hz
        obtain ⟨h1, h2, h3⟩ := (KEEP.out HC.out).out
        have H3 := hide h3
        obtain ⟨b', off, x', y', hB, _, HP, c3, c4⟩ := y.sees.pair h2
        obtain ⟨rfl, rfl⟩ : x' = v ∧ y' = (j : Int) := by
          have := HP.out
          rw [h1] at this
          injection this with this
          injection this with a1 a2
          exact ⟨a1.symm, a2.symm⟩
        rw [hA, hB]
        have e2 : (x' != x') = false := by simp
        have e3 : ((j : Int) != (j : Int)) = false := by simp
        clear h1 h3 hA hB HP KEEP HC
        go_wp2_with fail
        go_round
        case rel => exact ⟨j + 1, t + 1, by omega, by omega, by go_num, by go_num, H3⟩
        case measure => simp [intOf]; omega
      · have e1 : decide ((0 : Int) < (j : Int)) = true := by simp; omega
        obtain ⟨ad2, u, hA2, _, HU, hcu⟩ := x.int (show j - 1 < n0 by omega)
        obtain rfl : ad = ad2 := by
          rw [hA] at hA2
          exact Option.some.inj hA2
        clear hA2
        have HUn := hide (HG.out (j - 1) u HU.out)
        by_cases huv : v = u
        · have e2 : (u == v) = true := by simp [huv]
          have HC := hide (cptTo_drop (key := Prod.fst) hz HVn.out HUn.out huv)
          rw [hA]
          clear huv hA KEEP
          go_wp2_with fail
          go_round
          case rel => exact ⟨j + 1, t, by omega, by omega, by go_num, rfl, by show _ = _; rw [HC.out]; exact HS.out⟩
          case measure => simp [intOf]; omega
        · have e2 : (u == v) = false := by simp; omega
          have HC := hide (cptTo_keep (key := Prod.fst) hz HVn.out HUn.out huv)
          obtain ⟨h1, h2, h3⟩ := (KEEP.out HC.out).out
          have H3 := hide h3
          obtain ⟨b', off, x', y', hB, _, HP, c3, c4⟩ := y.sees.pair h2
          obtain ⟨rfl, rfl⟩ : x' = v ∧ y' = (j : Int) := by
            have := HP.out
            rw [h1] at this
            injection this with this
            injection this with a1 a2
            exact ⟨a1.symm, a2.symm⟩
          rw [hA, hB]
          have e4 : (x' != x') = false := by simp
          have e3 : ((j : Int) != (j : Int)) = false := by simp
          clear huv h1 h3 hA hB HP KEEP HC
          go_wp2_with fail
          go_round
          case rel => exact ⟨j + 1, t + 1, by omega, by omega, by go_num, by go_num, H3⟩
          case measure => simp [intOf]; omega
    · obtain rfl : j = n0 := by omega
      obtain rfl : t = T := by
        rw [← HS.out, ← HT.out, cptP, cpt, HNL.out]
      have e1 : ((t : Int) == (t : Int)) = true := by simp
      go_wp2_with fail
      refine (keysOf_any Ay t cy (cptP nd) _ y.sees (by omega)).mono ?_
      rintro e w3 ⟨Ap, cp, rfl, p, d3⟩
      have b3 : Below w.heap.size w w3 := b2.trans (d3.mono b2.size)
      rw [HKI.out] at p
      clear d3
      go_wp2_with fail
      refine (CompactInts_any A0 j c0 xs0 _ (h0.below b3) (by omega)).mono ?_
      rintro e w4 ⟨Aq, cq, rfl, q, d4⟩
      have b4 : Below w.heap.size w w4 := b3.trans (d4.mono b3.size)
      rw [HTI.out] at q ⊢
      replace p := p.next d4
      clear d4
      go_wp2_with fail
      refine (sameInts_b Ap Aq t t cp cq (cptI xs0) (cptI xs0) _ p.sees q.sees (by omega) (by omega)).mono ?_
      rintro e w5 ⟨rfl, d5⟩
      rw [decide_eq_true rfl]
      have b5 : Below w.heap.size w w5 := b4.trans (d5.mono b4.size)
      clear d5
      go_wp2_with fail
      go_ret
      exact ⟨rfl, b5⟩

set_option maxRecDepth 100000 in
theorem lifted (os : Os) (started : os.Started) (H : Type) (enc : TypeId × Value → H) (F : Stop.Interp) :
    ReturnsInHanded {} Try.checked os 14 .any ((Rows.OpenSpec.upto Rows.fnCompactKeepsFirstSpec).pre6 enc Try.prog Try.f14 Rows.fnCompactKeepsFirstUptoRow.domain false) (((Rows.OpenSpec.upto Rows.fnCompactKeepsFirstSpec).at F).post enc Try.prog Try.f14 false true false false) := by
  refine returnsInHanded_of_cond (C := Try.checked) (s := Rows.OpenSpec.upto Rows.fnCompactKeepsFirstSpec) (k := Rows.uptoSmall) rfl ownKnob_none started (by kernel_rfl) Try.func14
    (OpenSpec.witness (enc := enc) (C := Try.checked) (s := Rows.OpenSpec.upto Rows.fnCompactKeepsFirstSpec) (k := Rows.uptoSmall) rfl false ⟨#[], #[.slice none 0 0], []⟩ 8 (by kernel_rfl) (by kernel_rfl) (by kernel_rfl)
      (x := ([.nil], [], [])) (by kernel_rfl) rfl (by kernel_rfl)) ?_
  intro W base args ds gs before hval0 hW hcnd hk _
  have hval : ∀ (j : Nat) t v, Try.f14.params[j]? = some t → args[j]? = some v → Value.okWide Try.prog W .any base t v := hval0
  have hW' := hW
  obtain ⟨p, q, hA0, hV, rfl, hfz, hnd⟩ := hW
  have hA : DataW.TrodAll enc Try.prog W 0 (fun _ => true) true Try.f14.params.toList args.toList ds p := hA0
  rw [Try.params14] at hA hval
  obtain ⟨v0, vs0, d0, ds0, p0, q0, hargs, rfl, rfl, h0, r0⟩ := trodAll_cons hA
  obtain ⟨rfl, rfl, rfl⟩ := trodAll_nil r0
  obtain rfl : args = #[v0] := by cases args; simp_all
  obtain ⟨rfl, rfl⟩ := trodVars_none hV
  have k0 := h0
  have lt0 : ∀ x ∈ p0, x.block < W.heap.size := by obtain ⟨m, hm⟩ := k0; exact DataW.trod_lt m _ _ _ hm
  obtain ⟨A0, n0, c0, xs0, rfl, s0, c0c, _, w0, z0, u0⟩ := arg_ints (hval 0 22 v0 rfl rfl) h0
  clear hA0 hval0
  have hup : n0 ≤ 1048576 := by
    have hk1 := of_decide_eq_true hk
    simp only [List.append_nil, Rows.uptoBulkAll] at hk1
    omega
  refine (walk A0 n0 c0 xs0 W s0 c0c w0 hup).mono fun e W' ⟨he, bel⟩ => ?_
  subst he
  exact ⟨_, rfl, _, _, _, [], _, [], hW', trodAll_mk1 (shut_bool Try.underlying4 _), (trodAll_cons_mk (Below.trod laidOut (by kernel_rfl) (of_decide_eq_true (by kernel_rfl)) k0 bel lt0) trodAll_mk0), rfl, bel.frame _, fun h => by cases h⟩

theorem over : Rows.fnCompactKeepsFirstUptoRow.holds Try.pinned (Rows.OpenSpec.upto Rows.fnCompactKeepsFirstSpec) :=
  OpenClaim.holds_of_cond 14 Try.f14 rfl rfl rfl rfl rfl rfl rfl ⟨rfl, rfl, rfl, rfl, rfl⟩ rfl rfl rfl rfl rfl (by kernel_rfl) Try.func14 (by kernel_rfl)
    (of_decide_eq_true (by kernel_rfl)) (by unfold Func.isWrapper; first | (rw [if_pos (by decide +kernel)]; kernel_rfl) | (rw [if_neg (by decide +kernel)]; exact ⟨rfl, rfl⟩))
    (fun os started H enc _ F => lifted os started H enc F)

theorem proved : Rows.FnCompactKeepsFirstUptoSaid := over
end Go.Proofs.Ytkjknjigjdpkoaa.fnCompactKeepsFirst
