/-
  Contracts of the small functions over lists of lists of numbers of the package laws; the reference of slices.Concat.
-/
import Derived.Test.YtjmceapdokkleaaRowsBase
import Derived.StillTailTactics
namespace Go.Proofs.Ytjmceapdokkleaa
open Go.RowKit
set_option linter.unusedVariables false

/-- the numbers alone -/
def lists (ps : List Pt) : List (List Int) := ps.map Pt.xs
theorem lists_len (ps : List Pt) : (lists ps).length = ps.length := by simp [lists]
theorem lists_get (ps : List Pt) (k : Nat) (p : Pt) (h : ps[k]? = some p) : (lists ps)[k]? = some p.xs := by simp [lists, h]
theorem cat_lists {ps qs : List Pt} (h : lists ps = lists qs) : cat ps = cat qs := by
  unfold lists at h
  rw [cat, cat, h]
theorem tot_lists {w w' : World} {ps qs : List Pt} (hp : All w ps) (hq : All w' qs) (h : lists ps = lists qs) : tot ps = tot qs := by
  have e : ∀ (v : World) (l : List Pt), All v l → tot l = ((lists l).map List.length).sum := fun v l hl => by
    rw [tot, lists, List.map_map]
    congr 1
    refine List.map_congr_left fun p hp => ?_
    exact (hl p hp).1.ilen.symm
  rw [e w ps hp, e w' qs hq, h]

set_option maxHeartbeats 400000 in
theorem szIntS_any (A : Option Addr) (n c : Nat) (l : Int) (w : World) (hn : n ≤ 9223372036854775807) (h0 : 0 ≤ l) (h1 : l ≤ 1048576) :
    Calls Try.prog 35 #[.slice A n c, .int .i64 l] w fun e w' => e = .returned (.int .i64 (if l < (n : Int) then -1 else l - (n : Int))) ∧ w = w' := by
  by_cases h : l < (n : Int)
  · rw [if_pos h]
    go_enter Try.func35, Try.ntmps35
    go_wp2
    go_ret
    exact ⟨rfl, rfl⟩
  · rw [if_neg h]
    go_enter Try.func35, Try.ntmps35
    go_wp2
    go_ret
    exact ⟨rfl, rfl⟩

set_option maxHeartbeats 800000 in
theorem szIntSS_any (A : Option Addr) (n c : Nat) (ps : List Pt) (w : World) (hs : Sees w A n 1 (qv ps)) (hm : ∀ p ∈ ps, p.n ≤ 9223372036854775807) (hn : n ≤ 70368744177664) :
    Calls Try.prog 13 #[.slice A n c, .int .i64 1048576] w fun e w' => ∃ r : Int, e = .returned (.int .i64 r) ∧ w = w' ∧ Hid (0 ≤ r → n + tot ps ≤ 1048576) := by
  have HM := hide hm
  have HP := hide hs.qlen
  clear hm
  by_cases hb : 1048576 < n
  · have t1 : (1048576 : Int) - (n : Int) < 0 := by omega
    go_enter Try.func13, Try.ntmps13
    go_wp2_with fail
    go_ret
    exact ⟨-1, rfl, rfl, fun h => by omega⟩
  · have t1 : ¬ ((1048576 : Int) - (n : Int) < 0) := by omega
    go_enter Try.func13, Try.ntmps13
    go_wp2_with fail
    go_loop [1, 5] (fun m i => ∃ (j : Nat) (t : Nat), j ≤ n ∧ i = .int .i64 j ∧ m = .int .i64 (t : Int) ∧ Hid (t + n + tot (ps.take j) = 1048576)) (fun _ i => n - (intOf i).toNat)
    case atStart => exact ⟨0, 1048576 - n, Nat.zero_le _, rfl, by rw [show ((1048576 - n : Nat) : Int) = 1048576 - (n : Int) by omega], by show _ = _; rw [List.take_zero]; show 1048576 - n + n + 0 = _; omega⟩
    case round =>
      obtain ⟨j, t, hj, rfl, rfl, HT⟩ := hrel
      have ht1 : t ≤ 1048576 := by have := HT.out; omega
      by_cases hlt : j < n
      · obtain ⟨ad, p, rfl, _, HPk, hpm, hc⟩ := hs.pt hlt
        have hp := HM.out p hpm
        clear hpm
        go_wp2_with fail
        refine (szIntS_any p.A p.n p.c (t : Int) _ hp (by omega) (by omega)).mono ?_
        rintro e w' ⟨rfl, rfl⟩
        by_cases hq : (t : Int) < (p.n : Int)
        · rw [if_pos hq]
          go_wp2_with fail
          go_ret
          exact ⟨-1, rfl, rfl, fun h => by omega⟩
        · rw [if_neg hq]
          have t2 : ¬ ((t : Int) - (p.n : Int) < 0) := by omega
          go_wp2_with fail
          go_round
          case rel => exact ⟨j + 1, t - p.n, by omega, by go_num, by rw [show ((t - p.n : Nat) : Int) = (t : Int) - (p.n : Int) by omega], by show _ = _; have := HT.out; rw [tot_snoc ps j p HPk.out]; omega⟩
          case measure => simp [intOf]; omega
      · obtain rfl : j = n := by omega
        go_wp2_with fail
        go_ret
        refine ⟨(t : Int), rfl, rfl, fun _ => ?_⟩
        have := HT.out
        rw [List.take_of_length_le (by rw [HP.out]; exact Nat.le_refl _)] at this
        omega

theorem made_nil (n : Nat) : (madeCells (Value.slice none 0 0).cells (n * 1)).toList = qv (List.replicate n ⟨none, 0, 0, []⟩) := by
  rw [Nat.mul_one]
  simp [Value.cells, toList_madeCells_one, qv, ptv]
theorem set_take (ps : List Pt) (j : Nat) (p : Pt) (hj : j < ps.length) : lists ((ps.set j p).take (j + 1)) = lists (ps.take j) ++ [p.xs] := by
  have h : (ps.set j p)[j]? = some p := by rw [List.getElem?_set, if_pos rfl, if_pos hj]
  rw [List.take_add_one, h, List.take_set_of_le (Nat.le_refl _)]
  simp [lists]
theorem lists_take_snoc (ps : List Pt) (j : Nat) (p : Pt) (h : ps[j]? = some p) : lists (ps.take (j + 1)) = lists (ps.take j) ++ [p.xs] := by
  rw [List.take_add_one, h]
  simp [lists]

set_option maxHeartbeats 1000000 in
theorem toIntSS_any (A : Option Addr) (n c : Nat) (ps : List Pt) (w : World) (hs : Sees w A n 1 (qv ps)) (ha : All w ps) (hb : ∀ p ∈ ps, p.n ≤ 17592186044416) (hn : n ≤ 8796093022208) :
    Calls Try.prog 15 #[.slice A n c] w fun e w' =>
      ∃ A' c' qs, e = .returned (.slice A' n c') ∧ Mat w' w.heap.size w'.heap.size A' n c' qs ∧ Hid (lists qs = lists ps) ∧ Below w.heap.size w w' := by
  obtain ⟨i0, hi0, hz0, hz1, hz2⟩ := info_parts infoInts
  have HP := hide hs.qlen
  have HS : Hid (∀ W, Below w.heap.size w W → Sees W A n 1 (qv ps)) := fun W h => hs.below h
  have HA : Hid (∀ W, Below w.heap.size w W → All W ps) := fun W h => ha.below h
  have HB := hide hb
  clear hs ha hb
  go_enter Try.func15, Try.ntmps15
  have r1 : i0.bytes * n ≤ 281474976710656 := by rw [hz2]; omega
  have r2 : n ≤ maxLen := by unfold maxLen; omega
  go_wp2_with (at_make; go_loud (refine wpList_make_full _ rfl _ _ _ rfl w.heap.size 23 i0 _ 1 Try.underlying22 hi0 hz0 hz1 .i64 .i64 _ _ n rfl rfl rfl rfl r1 r2 (Nat.le_refl _) ?_); intro w1 hown1 hg1)
  go_loopw [4] (fun i wr => ∃ (j : Nat) (qs : List Pt), j ≤ n ∧ i = .int .i64 j ∧ Mat wr w.heap.size wr.heap.size (some ⟨w.heap.size, 0, none⟩) n n qs ∧ Hid (qs.length = n ∧ lists (qs.take j) = lists (ps.take j)) ∧ Below w.heap.size w wr ∧ w.heap.size < wr.heap.size) (fun i _ => n - (intOf i).toNat)
  case atStart =>
    have hb : Below w.heap.size w w1 := (Below.refl _ _).grown hg1 (Nat.le_refl _) (by simp)
    have hlt1 := (hown1.lt w.heap.size rfl).2
    rw [made_nil] at hown1
    refine ⟨0, List.replicate n ⟨none, 0, 0, []⟩, Nat.zero_le _, rfl, ⟨⟨hown1, fun ad had => ?_, Nat.le_refl _⟩, fun p hp => ?_, fun i j p q hp hq _ a b ha => ?_⟩, ⟨by simp, by simp [lists]⟩, hb, hlt1⟩
    · obtain rfl := Option.some.inj had
      exact hlt1
    · obtain ⟨_, rfl⟩ := List.mem_replicate.1 hp
      exact Row.none_ _ _ _ _ _ (Nat.le_refl _)
    · obtain ⟨_, rfl⟩ := List.mem_replicate.1 (List.mem_of_getElem? hp)
      cases ha
  case round =>
    clear hown1 hg1
    obtain ⟨j, qs, hj, rfl, hm, HQ, hb, hsz⟩ := hrel
    by_cases hlt : j < n
    · obtain ⟨ad, p, rfl, _, HPk, hpm, hc⟩ := (HS.out wr hb).pt hlt
      have hp1 := (HA.out wr hb p hpm).1
      have hp2 := HB.out p hpm
      clear hpm
      go_wp2_with fail
      refine (toIntS_any p.A p.n p.c p.xs _ hp1 hp2).mono ?_
      rintro e w2 ⟨A2, c2, rfl, q2, d2⟩
      have m2 := (hm.next d2).more (Nat.le_refl _) d2.size (Nat.le_refl _)
      have b2 : Below w.heap.size w w2 := hb.trans (d2.mono hb.size)
      have s2 := d2.size
      have hbs := hb.size
      obtain ⟨u, cu⟩ : ∃ u, w2.cell? ⟨w.heap.size, j, none⟩ = some u := by
        have h1 := m2.out.1.cellAt j (by omega)
        have h2 := m2.out.len
        rw [List.getElem?_eq_getElem (by omega)] at h1
        exact ⟨_, h1⟩
      have fu := m2.out.1.frozenAt j
      have HM := hide hm
      clear d2 hb hm
      go_wp2_with fail
      go_roundw
      case rel =>
        have h3 := m2.put (j := j) ⟨A2, p.n, c2, p.xs⟩ (q2.more hbs (Nat.le_refl _) (Nat.le_refl _)) (fun b hb2 => ?_) (fun q hq a b ha2 hb2 => ?_)
        · refine ⟨j + 1, _, by omega, by go_num, h3.more (Nat.le_refl _) (by simp [World.setCell]) (Nat.le_refl _), ⟨by rw [List.length_set]; exact HQ.out.1, ?_⟩, b2.setCell (p := ⟨w.heap.size, j, none⟩) (Nat.le_refl _) _, by simp [World.setCell]; omega⟩
          rw [set_take qs j _ (by rw [HQ.out.1]; exact hlt), HQ.out.2, lists_take_snoc ps j p HPk.out]
        · have hb3 : A2 = some b := hb2
          subst hb3
          obtain ⟨g, rfl, h1, _⟩ := q2.at0
          show g ≠ w.heap.size
          omega
        · have hb3 : A2 = some b := hb2
          subst hb3
          obtain ⟨g, rfl, h1, _⟩ := q2.at0
          have h4 := (HM.out.own q hq).2.1 a ha2
          show a.block ≠ g
          omega
      case measure => simp [intOf]; omega
    · obtain rfl : j = n := by omega
      go_wp2_with fail
      go_ret
      refine ⟨_, _, qs, rfl, hm, ?_, hb⟩
      have h1 := HQ.out.2
      rw [List.take_of_length_le (by rw [HQ.out.1]; exact Nat.le_refl _), List.take_of_length_le (by rw [HP.out]; exact Nat.le_refl _)] at h1
      exact h1

/-- eqIntSS -/
theorem listsMore {ps qs : List Pt} {k : Nat} {p q : Pt} (h : lists (ps.take k) = lists (qs.take k)) (hp : ps[k]? = some p) (hq : qs[k]? = some q) (e : p.xs = q.xs) : lists (ps.take (k + 1)) = lists (qs.take (k + 1)) := by
  rw [lists_take_snoc ps k p hp, lists_take_snoc qs k q hq, h, e]

set_option maxHeartbeats 1000000 in
theorem eqIntSS_any (A B : Option Addr) (n m c d : Nat) (ps qs : List Pt) (w : World) (hs : Sees w A n 1 (qv ps)) (ha : All w ps) (ht : Sees w B m 1 (qv qs)) (hb : All w qs) (hp : ∀ p ∈ ps, p.n ≤ 70368744177664) (hq : ∀ p ∈ qs, p.n ≤ 70368744177664) (hn : n ≤ 70368744177664) (hm : m ≤ 70368744177664) (he : lists ps = lists qs) :
    Calls Try.prog 17 #[.slice A n c, .slice B m d] w fun e w' => e = .returned (.bool true) ∧ Below w.heap.size w w' := by
  have hnm : n = m := by rw [← hs.qlen, ← ht.qlen, ← lists_len ps, he, lists_len]
  subst hnm
  have HS : Hid (∀ W, Below w.heap.size w W → Sees W A n 1 (qv ps)) := fun W h => hs.below h
  have HA : Hid (∀ W, Below w.heap.size w W → All W ps) := fun W h => ha.below h
  have HS2 : Hid (∀ W, Below w.heap.size w W → Sees W B n 1 (qv qs)) := fun W h => ht.below h
  have HA2 : Hid (∀ W, Below w.heap.size w W → All W qs) := fun W h => hb.below h
  have HP := hide hp
  have HQ := hide hq
  have HE := hide he
  have h0 : ((n : Int) != (n : Int)) = false := by simp
  clear hs ha ht hb hp hq he
  go_enter Try.func17, Try.ntmps17
  go_wp2_with fail
  go_loopw [5] (fun i wr => ∃ k : Nat, k ≤ n ∧ i = .int .i64 k ∧ Below w.heap.size w wr) (fun i _ => n - (intOf i).toNat)
  case atStart => exact ⟨0, Nat.zero_le _, rfl, Below.refl _ _⟩
  case round =>
    obtain ⟨k, hk, rfl, hb⟩ := hrel
    by_cases hlt : k < n
    · obtain ⟨ad, p, rfl, _, HPk, hpm, hc⟩ := (HS.out wr hb).pt hlt
      obtain ⟨bd, q, rfl, _, HQk, hqm, hd⟩ := (HS2.out wr hb).pt hlt
      have hp1 := (HA.out wr hb p hpm).1
      have hq1 := (HA2.out wr hb q hqm).1
      have hp2 := HP.out p hpm
      have hq2 := HQ.out q hqm
      have hx : p.xs = q.xs := by
        have h1 := lists_get ps k p HPk.out
        rw [HE.out, lists_get qs k q HQk.out] at h1
        exact (Option.some.inj h1).symm
      have HX := hide hx
      have B1 : Hid (Below w.heap.size w wr.drew) := hb.drew
      clear hpm hqm hx hb
      go_wp2_with fail
      go_still_tail 8, (by kernel_rfl)
      clear hc hd
      change wpList _ _ _ _ _ wr.drew
      go_wp2_with fail
      refine (eqIntS_b p.A q.A p.n q.n p.c q.c p.xs q.xs _ hp1.drew hq1.drew (by omega) (by omega)).mono ?_
      rintro e w2 ⟨rfl, d2⟩
      rw [decide_eq_true HX.out]
      have b2 : Below w.heap.size w w2 := B1.out.trans (d2.mono B1.out.size)
      clear d2 hp1 hq1
      go_wp2_with fail
      go_roundw
      case rel => exact ⟨k + 1, by omega, by go_num, b2⟩
      case measure => simp [intOf]; omega
    · go_wp2_with fail
      go_ret
      exact ⟨rfl, hb⟩

/-- what marking makes of lists -/
def marked : Int → List Pt → List Pt
  | _, [] => []
  | k, p :: ps => { p with xs := upto k p.n } :: marked (k + (p.n : Int)) ps
theorem marked_len (k : Int) (ps : List Pt) : (marked k ps).length = ps.length := by
  induction ps generalizing k with
  | nil => rfl
  | cons p ps ih => simp [marked, ih]
theorem tot_cons (p : Pt) (ps : List Pt) : tot (p :: ps) = p.n + tot ps := by simp [tot]
theorem marked_get (k : Int) (ps : List Pt) (j : Nat) (p : Pt) (h : ps[j]? = some p) : (marked k ps)[j]? = some { p with xs := upto (k + (tot (ps.take j) : Int)) p.n } := by
  induction ps generalizing k j with
  | nil => simp at h
  | cons q ps ih =>
    cases j with
    | zero =>
      simp at h
      subst h
      simp [marked, tot]
    | succ j =>
      rw [List.getElem?_cons_succ] at h
      rw [marked, List.getElem?_cons_succ, ih (k + (q.n : Int)) j h, List.take_succ_cons, tot_cons]
      rw [show k + (q.n : Int) + (tot (ps.take j) : Int) = k + ((q.n + tot (ps.take j) : Nat) : Int) by omega]
theorem marked_step (k : Int) (ps : List Pt) (j : Nat) (p : Pt) (h : ps[j]? = some p) :
    ((marked k ps).take j ++ ps.drop j).set j { p with xs := upto (k + (tot (ps.take j) : Int)) p.n } = (marked k ps).take (j + 1) ++ ps.drop (j + 1) := by
  have hj := (List.getElem?_eq_some_iff.1 h).1
  have hl : ((marked k ps).take j).length = j := by rw [List.length_take, marked_len]; omega
  rw [List.set_append_right _ _ (by omega), hl, Nat.sub_self, List.drop_eq_getElem_cons hj, List.set_cons_zero, List.take_add_one, marked_get k ps j p h]
  simp
theorem marked_same_n (k : Int) (ps : List Pt) : tot (marked k ps) = tot ps := by
  induction ps generalizing k with
  | nil => rfl
  | cons p ps ih => rw [marked, tot_cons, tot_cons, ih]
theorem part_at (k : Int) (ps : List Pt) (j : Nat) (p : Pt) (h : ps[j]? = some p) : ((marked k ps).take j ++ ps.drop j)[j]? = some p := by
  have hj := (List.getElem?_eq_some_iff.1 h).1
  have hl : ((marked k ps).take j).length = j := by rw [List.length_take, marked_len]; omega
  rw [List.getElem?_append_right (by omega), hl, Nat.sub_self, List.getElem?_drop, Nat.add_zero, h]
theorem upto_zero (k : Int) : upto k 0 = [] := by simp [upto]

set_option maxHeartbeats 1000000 in
theorem markIntSS_any (A : Option Addr) (lo hi n c : Nat) (ps : List Pt) (w : World) (hm : Mat w lo hi A n c ps) (hn : n ≤ 70368744177664) (ht : tot ps ≤ 70368744177663) :
    Calls Try.prog 18 #[.slice A n c, .int .i64 1] w fun e w' =>
      e = .returned (.int .i64 (1 + (tot ps : Int))) ∧ Mat w' lo hi A n c (marked 1 ps) ∧ Only lo hi w w' := by
  have HP := hide hm.sees.qlen
  go_enter Try.func18, Try.ntmps18
  go_wp2_with fail
  go_loopw [1, 5] (fun m i wr => ∃ (j T : Nat), j ≤ n ∧ i = .int .i64 j ∧ m = .int .i64 (1 + (T : Int)) ∧ Hid (tot (ps.take j) = T) ∧ Mat wr lo hi A n c ((marked 1 ps).take j ++ ps.drop j) ∧ Only lo hi w wr) (fun _ i _ => n - (intOf i).toNat)
  case atStart => exact ⟨0, 0, Nat.zero_le _, rfl, rfl, rfl, by simpa using hm, Only.refl _ _ _⟩
  case round =>
    clear hm
    obtain ⟨j, T, hj, rfl, rfl, HT, hm, ho⟩ := hrel
    by_cases hlt : j < n
    · obtain ⟨p, HPk⟩ : ∃ p, Hid (ps[j]? = some p) := ⟨_, List.getElem?_eq_getElem (by rw [HP.out]; exact hlt)⟩
      have l1 := tot_le ps j p HPk.out
      rw [HT.out] at l1
      obtain ⟨ad, p', rfl, _, HPk2, hpm, hc⟩ := hm.sees.pt hlt
      obtain rfl : p' = p := by
        have h1 := HPk2.out
        rw [part_at 1 ps j p HPk.out] at h1
        exact (Option.some.inj h1).symm
      have hrow := hm.own p' hpm
      have HM := hide hm
      have HPM := hide hpm
      clear hpm hm
      have fin : ∀ (w2 : World), Mat w2 lo hi (some ad) n c (((marked 1 ps).take j ++ ps.drop j).set j { p' with xs := upto (1 + (T : Int)) p'.n }) → Mat w2 lo hi (some ad) n c ((marked 1 ps).take (j + 1) ++ ps.drop (j + 1)) := fun w2 h => by
        rw [← marked_step 1 ps j p' HPk.out, HT.out]
        exact h
      have FIN := hide fin
      clear fin
      rcases hpA : p'.A with _ | a
      · rw [hpA] at hrow hc
        obtain ⟨z1, z2⟩ := hrow.none0
        rw [z1, z2] at hc
        have Z1 := hide z1
        have HPA := hide hpA
        clear hrow hpA z1 z2
        go_wp2_with fail
        refine (markIntS_nil (1 + (T : Int)) _).mono ?_
        rintro e w2 ⟨rfl, rfl⟩
        have m2 : Mat wr lo hi (some ad) n c ((marked 1 ps).take (j + 1) ++ ps.drop (j + 1)) := by
          refine FIN.out wr ?_
          have h1 := HM.out
          have e0 : ({ p' with xs := upto (1 + (T : Int)) p'.n } : Pt) = p' := by
            have hx : p'.xs = [] := by
              have := (h1.own p' HPM.out).sees.ilen
              rw [Z1.out] at this
              exact List.eq_nil_of_length_eq_zero this
            cases p' with
            | mk a b c d =>
              simp only at hx Z1 ⊢
              rw [Z1.out, upto_zero, hx]
          rw [e0]
          have e1 : ((marked 1 ps).take j ++ ps.drop j).set j p' = (marked 1 ps).take j ++ ps.drop j := by
            refine List.ext_getElem? fun i => ?_
            rw [List.getElem?_set]
            split
            · rename_i hi
              subst hi
              rw [part_at 1 ps j p' HPk.out]
              split
              · rfl
              · rename_i hh
                have := (List.getElem?_eq_some_iff.1 (part_at 1 ps j p' HPk.out)).1
                exact absurd this hh
            · rfl
          rw [e1]
          exact h1
        go_wp2_with fail
        go_roundw
        case rel => exact ⟨j + 1, T, by omega, by go_num, rfl, by show _ = _; rw [tot_snoc ps j p' HPk.out, HT.out, Z1.out]; rfl, m2, ho⟩
        case measure => simp [intOf]; omega
      · rw [hpA] at hrow hc
        obtain ⟨g, rfl, hg1, hg2⟩ := hrow.at0
        have ht := hrow.tight
        have HPA := hide hpA
        clear hrow hpA
        go_wp2_with fail
        refine (markIntS_any (some ⟨g, 0, none⟩) g (g + 1) p'.n p'.c (1 + (T : Int)) p'.xs _ ht (by omega) (by omega) (by omega)).mono ?_
        rintro e w2 ⟨rfl, r2, o2⟩
        have m2 := FIN.out w2 (HM.out.wrote (part_at 1 ps j p' HPk.out) HPA.out o2 (by rw [HPA.out]; exact r2))
        have hos := ho.size
        have o3 : Only lo hi w w2 := ⟨o2.os.trans ho.os, o2.tape.trans ho.tape, o2.output.trans ho.output, Nat.le_trans ho.size o2.size, fun k hk h => by
          rw [o2.block k (Nat.lt_of_lt_of_le hk ho.size) (by
            rcases h with h | h
            · left; omega
            · omega)]
          exact ho.block k hk h⟩
        clear o2 ho r2 ht
        go_wp2_with fail
        go_roundw
        case rel => exact ⟨j + 1, T + p'.n, by omega, by go_num, by rw [show 1 + ((T + p'.n : Nat) : Int) = 1 + (T : Int) + (p'.n : Int) by omega], by show _ = _; rw [tot_snoc ps j p' HPk.out, HT.out], m2, o3⟩
        case measure => simp [intOf]; omega
    · obtain rfl : j = n := by omega
      go_wp2_with fail
      go_ret
      have e1 : T = tot ps := by rw [← HT.out, List.take_of_length_le (by rw [HP.out]; exact Nat.le_refl _)]
      refine ⟨by rw [e1]; rfl, ?_, ho⟩
      rw [List.take_of_length_le (by rw [marked_len, HP.out]; exact Nat.le_refl _), List.drop_of_length_le (by rw [HP.out]; exact Nat.le_refl _), List.append_nil] at hm
      exact hm

set_option maxHeartbeats 1000000 in
theorem heldIntSS_any (A : Option Addr) (n c : Nat) (ps : List Pt) (w : World) (hs : Sees w A n 1 (qv (marked 1 ps))) (ha : All w (marked 1 ps)) (hn : n ≤ 70368744177664) (ht : tot ps ≤ 70368744177663) :
    Calls Try.prog 24 #[.slice A n c, .int .i64 1] w fun e w' => e = .returned (.int .i64 (1 + (tot ps : Int))) ∧ w = w' := by
  have HP : Hid (ps.length = n) := by show _ = _; rw [← marked_len 1 ps]; exact hs.qlen
  have HA := hide ha
  clear ha
  go_enter Try.func24, Try.ntmps24
  go_wp2_with fail
  go_loop [1, 5] (fun m i => ∃ (j T : Nat), j ≤ n ∧ i = .int .i64 j ∧ m = .int .i64 (1 + (T : Int)) ∧ Hid (tot (ps.take j) = T)) (fun _ i => n - (intOf i).toNat)
  case atStart => exact ⟨0, 0, Nat.zero_le _, rfl, rfl, rfl⟩
  case round =>
    obtain ⟨j, T, hj, rfl, rfl, HT⟩ := hrel
    by_cases hlt : j < n
    · obtain ⟨p, HPk⟩ : ∃ p, Hid (ps[j]? = some p) := ⟨_, List.getElem?_eq_getElem (by rw [HP.out]; exact hlt)⟩
      have l1 := tot_le ps j p HPk.out
      rw [HT.out] at l1
      obtain ⟨ad, q, rfl, _, HQ, hqm, hc⟩ := hs.pt hlt
      obtain rfl : q = { p with xs := upto (1 + (T : Int)) p.n } := by
        have h1 := HQ.out
        rw [marked_get 1 ps j p HPk.out, HT.out] at h1
        exact (Option.some.inj h1).symm
      have h1 := (HA.out _ hqm).1
      simp only at hc h1
      clear hqm HQ
      have t1 : ¬ (1 + (T : Int) + (p.n : Int) < 0) := by omega
      go_wp2_with fail
      refine (heldIntS_any p.A p.n p.c (1 + (T : Int)) _ h1 (by omega) (by omega) (by omega)).mono ?_
      rintro e w' ⟨rfl, rfl⟩
      clear h1
      go_wp2_with fail
      go_round
      case rel => exact ⟨j + 1, T + p.n, by omega, by go_num, by rw [show 1 + ((T + p.n : Nat) : Int) = 1 + (T : Int) + (p.n : Int) by omega], by show _ = _; rw [tot_snoc ps j p HPk.out, HT.out]⟩
      case measure => simp [intOf]; omega
    · obtain rfl : j = n := by omega
      have e1 : T = tot ps := by rw [← HT.out, List.take_of_length_le (by rw [HP.out]; exact Nat.le_refl _)]
      have E1 := hide e1
      clear e1
      go_wp2_with fail
      go_ret
      exact ⟨by rw [← E1.out]; rfl, rfl⟩

set_option maxHeartbeats 800000 in
theorem specConcatInts_any (A : Option Addr) (n c : Nat) (ps : List Pt) (w : World) (hs : Sees w A n 1 (qv ps)) (ha : All w ps) (hn : tot ps ≤ 17592186044416) (hn2 : n ≤ 70368744177664) :
    Calls Try.prog 14 #[.slice A n c] w fun e w' =>
      ∃ A' c', e = .returned (.slice A' (tot ps) c') ∧ Row w' w.heap.size w'.heap.size 3 1 A' (tot ps) c' (iv (cat ps)) ∧ Below w.heap.size w w' := by
  obtain ⟨i0, hi0, hz0, hz1, hz2⟩ := info_parts intInfo
  have HP := hide hs.qlen
  have HS : Hid (∀ W, Below w.heap.size w W → Sees W A n 1 (qv ps)) := fun W h => hs.below h
  have HA : Hid (∀ W, Below w.heap.size w W → All W ps) := fun W h => ha.below h
  clear ha hs
  go_enter Try.func14, Try.ntmps14
  go_wp2_with fail
  go_loopw [3, 8] (fun v i wr => ∃ (j : Nat) (B : Option Addr) (d : Nat), j ≤ n ∧ i = .int .i64 j ∧ v = .slice B (tot (ps.take j)) d ∧ Row wr w.heap.size wr.heap.size 3 1 B (tot (ps.take j)) d (iv (cat (ps.take j))) ∧ Below w.heap.size w wr) (fun _ i _ => n - (intOf i).toNat)
  case atStart => exact ⟨0, none, 0, Nat.zero_le _, rfl, rfl, Row.none_ _ _ _ _ _ (Nat.le_refl _), Below.refl _ _⟩
  case round =>
    obtain ⟨j, B, d, hj, rfl, rfl, r, hb⟩ := hrel
    by_cases hlt2 : j < n
    · obtain ⟨ad, p, rfl, _, HPk, HM, hc⟩ := (HS.out wr hb).pt hlt2
      have l1 := tot_le ps j p HPk.out
      have hp := HA.out wr hb p HM
      have hp1 := hp.1
      have hp2 := hp.2
      obtain ⟨T, hT⟩ : ∃ T, tot (ps.take j) = T := ⟨_, rfl⟩
      rw [hT] at l1 r ⊢
      have HT := hide hT
      clear hT hp
      go_wp2_with (at_builtin; refine halt_here ?_)
      refine ⟨wpList_append_sees wr rfl _ _ _ rfl w.heap.size wr.heap.size 3 i0 _ 1 8 Try.underlying23 hi0 hz0 hz1 hz2 rfl (by omega) B T d _ rfl r p.A p.n p.c _ rfl hp1 (iv_one _) (by unfold maxLen; omega) (by omega) hb.size ?_⟩
      intro A2 c2 w2 r2 o2 _
      have hb2 : Below w.heap.size w w2 := hb.trans (o2.below (Nat.le_refl _) hb.size)
      rw [← iv_append] at r2
      clear o2 r hb
      go_wp2_with fail
      go_roundw
      case rel =>
        refine ⟨j + 1, A2, c2, by omega, by go_num, by rw [tot_snoc ps j p HPk.out, HT.out], ?_, hb2⟩
        rw [tot_snoc ps j p HPk.out, HT.out, cat_snoc ps j p HPk.out]
        exact r2
      case measure => simp [intOf]; omega
    · obtain rfl : j = n := by omega
      rw [List.take_of_length_le (by rw [HP.out]; exact Nat.le_refl _)] at r ⊢
      go_wp2_with fail
      go_ret
      exact ⟨B, d, rfl, r, hb⟩
end Go.Proofs.Ytjmceapdokkleaa
