/-
  Contracts: slices.Grow of nil, slices.Concat of lists of numbers, its wrapper and its reference.
-/
import Derived.Test.YtjmceapdokkleaaSmall
import Derived.Test.YtjmceapdokkleaaDeleteCore
import Derived.Test.YtjmceapdokkleaaInsBase
namespace Go.Proofs.Ytjmceapdokkleaa
open Go.RowKit
set_option linter.unusedVariables false
set_option linter.unusedSimpArgs false

/-- append of m zeros onto nil: a new block -/
theorem run_append_zeros_nil {P : Program} (w : World) (t tn ty e : TypeId) (i : TypeInfo) (z : Value) (ki kn : IntKind) (ht : P.underlying t = some (.slice e)) (htn : P.underlying tn = some (.int kn)) (hi : P.info? e = some i) (hz : i.zero = some z) (hs : i.size = 1)
    (hby : i.bytes = 8) (m : Nat) (hm : 0 < m) (hbytes : m * 8 ≤ 140737488355328) :
    ∃ c' w', (Builtin.append_ #[t, tn] ty #[.slice none 0 0, .int ki (m : Int)]).run P w = .ok (.slice (some ⟨w.heap.size, 0, none⟩) m c') w' ∧
      m ≤ c' ∧ c' ≤ maxLen ∧ Blk w' w.heap.size e ((Builtin.zeroCells z.cells m).toList ++ (Builtin.zeroCells z.cells (c' - m)).toList) ∧ Below w.heap.size w w' ∧ w'.heap.size = w.heap.size + 1 := by
  have hw : IntKind.i64.wrap (m : Int) = m := by rw [IntKind.wrap_i64]; omega
  have h63' : ¬ (9223372036854775807 < (m : Int)) := by omega
  have hfit := growslice_fits (bytes := 8) (need := m) (old := 0) (by omega) hbytes
  have h48' : ¬ (281474976710656 < Builtin.nextslicecap m 0 * i.bytes) := by rw [hby]; omega
  have h48i : ¬ (281474976710656 < (m : Int) * (i.bytes : Int)) := by rw [hby]; omega
  have hneg : ¬ ((m : Int) < 0) := by omega
  have hm0 : ¬ (m = 0) := by omega
  have hrun : (Builtin.append_ #[t, tn] ty #[.slice none 0 0, .int ki (m : Int)]).run P w =
      .ok (.slice (some ⟨w.heap.size, 0, none⟩) m (grownCap w m 0 e)) (w.drew.alloc (.cells (Builtin.zeroCells z.cells m ++ Builtin.zeroCells z.cells (grownCap w m 0 e - m)) e)) := by
    simp [Builtin.append_, run_underlying ht, run_underlying htn, sizeOf, typeInfo, zeroValue, hi, hz, hs, asInt, asIntOf, hw, hneg, hm0, h63', h48', h48i, Question.forced, run_firstCells_none, newRow, grownCap]
  refine ⟨_, _, hrun, grownCap_ge _ _ _ _, grownCap_le_maxLen _ _ _ _ (by unfold maxLen; omega), ?_, ?_, by simp⟩
  · have := Blk.new w.drew e (Builtin.zeroCells z.cells m ++ Builtin.zeroCells z.cells (grownCap w m 0 e - m))
    simpa using this
  · exact ((Below.refl _ _).drew).alloc (Nat.le_refl _) _
theorem wpList_append_zeros_nil {P : Program} (w : World) {ops : Array Oper} {rest : List Oper} {o : Oper} {a : Act} {Q : Exit → Act → World → Prop} (hgd : o.guard = none) (s x : Operand) (t tn : TypeId)
    (ho : o.op = .call { callee := .builtin .append, args := #[s, x], argTypes := #[t, tn] })
    (e : TypeId) (i : TypeInfo) (z : Value) (ki kn : IntKind) (ht : P.underlying t = some (.slice e)) (htn : P.underlying tn = some (.int kn)) (hi : P.info? e = some i) (hz : i.zero = some z) (hs : i.size = 1)
    (hby : i.bytes = 8) (m : Nat) (hm : 0 < m) (hbytes : m * 8 ≤ 140737488355328)
    (hA : a.eval s = .slice none 0 0) (hX : a.eval x = .int ki (m : Int))
    (h : ∀ c' w', m ≤ c' → c' ≤ maxLen → Blk w' w.heap.size e ((Builtin.zeroCells z.cells m).toList ++ (Builtin.zeroCells z.cells (c' - m)).toList) → Below w.heap.size w w' → w'.heap.size = w.heap.size + 1 →
      wpList P ops Q rest (a.put o.dst (.slice (some ⟨w.heap.size, 0, none⟩) m c')) w') :
    wpList P ops Q (o :: rest) a w := by
  refine wpList_plain hgd fun K hK => ?_
  obtain ⟨c', w', hr', h2, h3, h4, h5, h6⟩ := run_append_zeros_nil (P := P) w t tn o.type e i z ki kn ht htn hi hz hs hby m hm hbytes
  unfold Oper.wp execOp
  simp only [ho, resolve, invoke, builtin, Sem.run_bind, Sem.run_pure, Result.andThen_ok, List.map_toArray, List.map_cons, List.map_nil, hA, hX, hr']
  exact hK _ _ (h c' w' h2 h3 h4 h5 h6)

set_option maxHeartbeats 400000 in
theorem Grow_nil (m : Nat) (w : World) (hn : m ≤ 17592186044416) :
    Calls Try.prog 44 #[.slice none 0 0, .int .i64 m] w fun e w' =>
      ∃ A' c', e = .returned (.slice A' 0 c') ∧ Row w' w.heap.size w'.heap.size 3 1 A' 0 c' [] ∧ Below w.heap.size w w' := by
  obtain ⟨i0, hi0, hz0, hz1, hz2⟩ := info_parts intInfo
  rcases Nat.eq_zero_or_pos m with rfl | hm
  · go_enter Try.func44, Try.ntmps44
    go_wp2_with fail
    go_ret
    exact ⟨none, 0, rfl, Row.none_ _ _ _ _ _ (Nat.le_refl _), Below.refl _ _⟩
  · have q1 := fun W => run_slice_hi (P := Try.prog) W 23 3 i0 Try.underlying23 hi0 none 0 0 .i64 0 (by omega)
    have e1 : decide ((0 : Int) < (m : Int)) = true := by simp; omega
    simp only [Int.natCast_zero] at q1
    go_enter Try.func44, Try.ntmps44
    go_wp2_with (at_builtin; refine halt_here ?_)
    refine ⟨wpList_append_zeros_nil w rfl _ _ _ _ rfl 3 i0 _ .i64 .i64 Try.underlying23 Try.underlying3 hi0 hz0 hz1 hz2 m hm (by omega) rfl rfl ?_⟩
    intro c2 w2 g1 g2 hb2 hbel2 hs2
    have hr2 : Row w2 w.heap.size w2.heap.size 3 1 (some ⟨w.heap.size, 0, none⟩) 0 c2 [] := by
      rw [zeroInts, zeroInts, ← iv_append] at hb2
      refine Row.of_blk (xs := []) (post := iv (List.replicate m 0 ++ List.replicate (c2 - m) 0)) hb2 ?_ (by simp) (Nat.zero_le _) g2 (Nat.le_refl _) (by omega) (Nat.le_refl _)
      rw [List.nil_append, iv_len, List.length_append, List.length_replicate, List.length_replicate]; omega
    have q2 := fun W => run_slice_hi (P := Try.prog) W 23 3 i0 Try.underlying23 hi0 (some ⟨w.heap.size, 0, none⟩) m c2 .i64 0 (Nat.zero_le _)
    simp only [Int.natCast_zero] at q2
    clear hb2 hs2
    go_wp2_with fail
    go_ret
    exact ⟨_, c2, rfl, hr2, hbel2⟩

/-- a list that lies in memory -/
structure Pt where
  A : Option Addr
  n : Nat
  c : Nat
  xs : List Int
def ptv (p : Pt) : Value := .slice p.A p.n p.c
def qv (ps : List Pt) : List Value := ps.map ptv
theorem qv_len (ps : List Pt) : (qv ps).length = ps.length := by simp [qv]
theorem qv_get (ps : List Pt) (k : Nat) : (qv ps)[k]? = (ps[k]?).map ptv := by simp [qv]
theorem qv_one (ps : List Pt) : ∀ u ∈ qv ps, u.oneCell' = true := by
  intro u hu
  obtain ⟨p, _, rfl⟩ := List.mem_map.1 hu
  rfl
/-- each of the lists reads -/
def All (w : World) (ps : List Pt) : Prop := ∀ p ∈ ps, Sees w p.A p.n 1 (iv p.xs) ∧ p.n ≤ p.c
theorem All.below {w w' : World} {ps : List Pt} (h : All w ps) (hb : Below w.heap.size w w') : All w' ps := fun p hp => ⟨(h p hp).1.below hb, (h p hp).2⟩
def cat (ps : List Pt) : List Int := (ps.map Pt.xs).flatten
def tot (ps : List Pt) : Nat := (ps.map Pt.n).sum
theorem tot_snoc (ps : List Pt) (k : Nat) (p : Pt) (hp : ps[k]? = some p) : tot (ps.take (k + 1)) = tot (ps.take k) + p.n := by
  rw [List.take_add_one, hp]
  simp [tot]
theorem cat_snoc (ps : List Pt) (k : Nat) (p : Pt) (hp : ps[k]? = some p) : cat (ps.take (k + 1)) = cat (ps.take k) ++ p.xs := by
  rw [List.take_add_one, hp]
  simp [cat]
theorem tot_take (ps : List Pt) (k : Nat) : tot (ps.take k) ≤ tot ps := by
  have h : tot ps = tot (ps.take k) + tot (ps.drop k) := by
    conv => lhs; rw [← List.take_append_drop k ps]
    simp only [tot, List.map_append, List.sum_append]
  omega
theorem Sees.qlen {w : World} {A : Option Addr} {n : Nat} {ps : List Pt} (h : Sees w A n 1 (qv ps)) : ps.length = n := by
  have := h.len
  rw [qv_len] at this
  omega
theorem Sees.pt {w : World} {A : Option Addr} {n : Nat} {ps : List Pt} (h : Sees w A n 1 (qv ps)) {k : Nat} (hk : k < n) :
    ∃ ad p, A = some ad ∧ ad.block < w.heap.size ∧ Hid (ps[k]? = some p) ∧ p ∈ ps ∧ w.cell? (ad.add k) = some (.slice p.A p.n p.c) := by
  obtain ⟨ad, u, hA, hb, hu, hc⟩ := h.at1 hk
  rw [qv_get] at hu
  obtain ⟨p, hp, rfl⟩ := Option.map_eq_some_iff.1 hu
  exact ⟨ad, p, hA, hb, hp, List.mem_of_getElem? hp, hc⟩
theorem tot_le (ps : List Pt) (k : Nat) (p : Pt) (hp : ps[k]? = some p) : tot (ps.take k) + p.n ≤ tot ps := by
  rw [← tot_snoc ps k p hp]
  exact tot_take _ _

set_option maxHeartbeats 800000 in
theorem Concat_any (A : Option Addr) (n c : Nat) (ps : List Pt) (w : World) (hs : Sees w A n 1 (qv ps)) (ha : All w ps) (hn : tot ps ≤ 17592186044416) (hn2 : n ≤ 70368744177664) :
    Calls Try.prog 34 #[.slice A n c] w fun e w' =>
      ∃ A' c', e = .returned (.slice A' (tot ps) c') ∧ Row w' w.heap.size w'.heap.size 3 1 A' (tot ps) c' (iv (cat ps)) ∧ Below w.heap.size w w' := by
  obtain ⟨i0, hi0, hz0, hz1, hz2⟩ := info_parts intInfo
  have HP := hide hs.qlen
  have HS : Hid (∀ W, Below w.heap.size w W → Sees W A n 1 (qv ps)) := fun W h => hs.below h
  have HA : Hid (∀ W, Below w.heap.size w W → All W ps) := fun W h => ha.below h
  clear ha
  go_enter Try.func34, Try.ntmps34
  go_wp2_with fail
  go_loop [3, 11] (fun s i => ∃ k : Nat, k ≤ n ∧ i = .int .i64 k ∧ s = .int .i64 ((tot (ps.take k) : Nat) : Int)) (fun _ i => n - (intOf i).toNat)
  case atStart => exact ⟨0, Nat.zero_le _, rfl, rfl⟩
  case round =>
    obtain ⟨k, hk, rfl, rfl⟩ := hrel
    by_cases hlt : k < n
    · obtain ⟨ad, p, rfl, _, HPk, _, hc⟩ := hs.pt hlt
      have l1 := tot_le ps k p HPk.out
      obtain ⟨T, hT⟩ : ∃ T, tot (ps.take k) = T := ⟨_, rfl⟩
      rw [hT] at l1 ⊢
      have HT := hide hT
      have e1 : decide ((T : Int) + (p.n : Int) < 0) = false := by simp; omega
      clear hT
      go_wp2_with fail
      go_round
      case rel => exact ⟨k + 1, by omega, by go_num, by rw [tot_snoc ps k p HPk.out, HT.out]; rfl⟩
      case measure => simp [intOf]; omega
    · obtain rfl : k = n := by omega
      rw [List.take_of_length_le (by rw [HP.out]; exact Nat.le_refl _)]
      clear hs
      go_wp2_with fail
      refine (Grow_nil (tot ps) _ hn).mono ?_
      rintro e w1 ⟨A1, c1, rfl, r1, b1⟩
      go_wp2_with fail
      go_loopw [6, 27] (fun v i wr => ∃ (j : Nat) (B : Option Addr) (d : Nat), j ≤ k ∧ i = .int .i64 j ∧ v = .slice B (tot (ps.take j)) d ∧ Row wr w.heap.size wr.heap.size 3 1 B (tot (ps.take j)) d (iv (cat (ps.take j))) ∧ Below w.heap.size w wr) (fun _ i _ => k - (intOf i).toNat)
      case atStart => exact ⟨0, A1, c1, Nat.zero_le _, rfl, rfl, r1, b1⟩
      case round =>
        clear r1 b1
        obtain ⟨j, B, d, hj, rfl, rfl, r, hb⟩ := hrel
        by_cases hlt2 : j < k
        · obtain ⟨ad, p, rfl, _, HPk, HM, hc⟩ := (HS.out wr hb).pt hlt2
          have l1 := tot_le ps j p HPk.out
          have hp := HA.out wr hb p HM
          have hp1 := hp.1
          have hp2 := hp.2
          obtain ⟨T, hT⟩ : ∃ T, tot (ps.take j) = T := ⟨_, rfl⟩
          rw [hT] at l1 r ⊢
          have HT := hide hT
          clear hT hp
          go_wp2_with (at_builtin; refine halt_here ?_)
          refine ⟨wpList_append_sees wr rfl _ _ _ rfl w.heap.size wr.heap.size 3 i0 _ 1 8 Try.underlying23 hi0 hz0 hz1 hz2 rfl (by omega) B T d _ rfl r p.A p.n p.c _ rfl hp1 (iv_one _) (by unfold maxLen; omega) (by omega) hb.size ?_⟩
          intro A2 c2 w2 r2 o2 _
          have hb2 : Below w.heap.size w w2 := hb.trans (o2.below (Nat.le_refl _) hb.size)
          rw [← iv_append] at r2
          clear o2 r hb
          go_wp2_with fail
          go_roundw
          case rel =>
            refine ⟨j + 1, A2, c2, by omega, by go_num, by rw [tot_snoc ps j p HPk.out, HT.out], ?_, hb2⟩
            rw [tot_snoc ps j p HPk.out, HT.out, cat_snoc ps j p HPk.out]
            exact r2
          case measure => simp [intOf]; omega
        · obtain rfl : j = k := by omega
          rw [List.take_of_length_le (by rw [HP.out]; exact Nat.le_refl _)] at r ⊢
          go_wp2_with fail
          go_ret
          exact ⟨B, d, rfl, r, hb⟩
theorem ConcatInts_any (A : Option Addr) (n c : Nat) (ps : List Pt) (w : World) (hs : Sees w A n 1 (qv ps)) (ha : All w ps) (hn : tot ps ≤ 17592186044416) (hn2 : n ≤ 70368744177664) :
    Calls Try.prog 11 #[.slice A n c] w fun e w' =>
      ∃ A' c', e = .returned (.slice A' (tot ps) c') ∧ Row w' w.heap.size w'.heap.size 3 1 A' (tot ps) c' (iv (cat ps)) ∧ Below w.heap.size w w' := by
  go_enter Try.func11, Try.ntmps11
  go_wp2_with fail
  refine (Concat_any A n c ps _ hs ha hn hn2).mono ?_
  rintro e w1 ⟨A1, c1, rfl, r1, b1⟩
  go_wp2_with fail
  go_ret
  exact ⟨A1, c1, rfl, r1, b1⟩
end Go.Proofs.Ytjmceapdokkleaa
