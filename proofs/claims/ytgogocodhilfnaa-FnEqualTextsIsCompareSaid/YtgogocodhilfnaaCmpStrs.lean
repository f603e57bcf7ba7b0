/-
  Contracts: slices.Equal and slices.Compare of strings, their wrappers and references.
-/
import Derived.Test.YtgogocodhilfnaaStrs
import Derived.Test.YtgogocodhilfnaaCmpBase
namespace Go.Proofs.Ytgogocodhilfnaa
open Go.RowKit
set_option linter.unusedVariables false

theorem bl_self (l : List UInt8) : Op.bytesLess l l = false := by
  induction l with
  | nil => rfl
  | cons a l ih => simp [Op.bytesLess, ih]
theorem bl_asymm (l m : List UInt8) (h : Op.bytesLess l m = true) : Op.bytesLess m l = false := by
  induction l generalizing m with
  | nil => cases m <;> simp [Op.bytesLess]
  | cons a l ih =>
    cases m with
    | nil => simp [Op.bytesLess] at h
    | cons b m =>
      simp only [Op.bytesLess, Bool.or_eq_true, decide_eq_true_eq, Bool.and_eq_true, beq_iff_eq] at h
      simp only [Op.bytesLess, Bool.or_eq_false_iff, decide_eq_false_iff_not, Bool.and_eq_false_iff, beq_eq_false_iff_ne]
      rcases h with h | ⟨rfl, h⟩
      · refine ⟨fun h2 => ?_, .inl fun h2 => ?_⟩
        · rw [UInt8.lt_iff_toNat_lt] at h h2
          omega
        · rw [h2, UInt8.lt_iff_toNat_lt] at h
          omega
      · refine ⟨fun h2 => ?_, .inr (ih m h)⟩
        rw [UInt8.lt_iff_toNat_lt] at h2
        omega
theorem bl_total (l m : List UInt8) (h : ¬ l = m) (h2 : Op.bytesLess l m = false) : Op.bytesLess m l = true := by
  induction l generalizing m with
  | nil =>
    cases m with
    | nil => exact absurd rfl h
    | cons b m => simp [Op.bytesLess] at h2
  | cons a l ih =>
    cases m with
    | nil => simp [Op.bytesLess]
    | cons b m =>
      simp only [Op.bytesLess, Bool.or_eq_false_iff, decide_eq_false_iff_not, Bool.and_eq_false_iff, beq_eq_false_iff_ne] at h2
      simp only [Op.bytesLess, Bool.or_eq_true, decide_eq_true_eq, Bool.and_eq_true, beq_iff_eq]
      by_cases e : a = b
      · subst e
        right
        refine ⟨rfl, ih m (fun e => h (by rw [e])) ?_⟩
        rcases h2.2 with h3 | h3
        · exact absurd rfl h3
        · exact h3
      · left
        have h3 := h2.1
        rw [UInt8.lt_iff_toNat_lt] at h3 ⊢
        have : ¬ a.toNat = b.toNat := fun h4 => e (UInt8.toNat_inj.1 h4)
        omega
/-- which of two strings is less -/
def cmpS (a b : ByteArray) : Int := if Op.bytesLess a.toList b.toList = true then -1 else if Op.bytesLess b.toList a.toList = true then 1 else 0
theorem cmpS_self (a : ByteArray) : cmpS a a = 0 := by rw [cmpS, bl_self, if_neg (by simp), if_neg (by simp)]
theorem cmpS_zero {a b : ByteArray} : cmpS a b = 0 ↔ a = b := by
  constructor
  · intro h
    by_cases e : a = b
    · exact e
    · exfalso
      have e2 : ¬ a.toList = b.toList := fun h2 => e (str_inj h2)
      unfold cmpS at h
      by_cases h1 : Op.bytesLess a.toList b.toList = true
      · rw [if_pos h1] at h
        omega
      · rw [if_neg h1, if_pos (bl_total _ _ e2 (by simpa using h1))] at h
        omega
  · rintro rfl
    exact cmpS_self a
theorem cmpS_neg (a b : ByteArray) : cmpS b a = -cmpS a b := by
  unfold cmpS
  by_cases h : Op.bytesLess a.toList b.toList = true
  · rw [if_pos h, bl_asymm _ _ h, if_neg (by simp), if_pos h]
    rfl
  · rw [if_neg h]
    split
    · rfl
    · rfl
theorem cmpS_pm (a b : ByteArray) : cmpS a b = -1 ∨ cmpS a b = 0 ∨ cmpS a b = 1 := by
  unfold cmpS
  split
  · exact .inl rfl
  · split
    · exact .inr (.inr rfl)
    · exact .inr (.inl rfl)
/-- of lists of strings -/
def cmpT (xs ys : List ByteArray) : Int := cmpBy cmpS xs ys
/-- the three ways -/
theorem cmpS_ways (x y : ByteArray) : (Op.bytesLess x.toList y.toList = true ∧ Op.bytesLess y.toList x.toList = false ∧ (x.toList == y.toList) = false ∧ cmpS x y = -1) ∨ x = y ∨
    (Op.bytesLess x.toList y.toList = false ∧ Op.bytesLess y.toList x.toList = true ∧ (x.toList == y.toList) = false ∧ cmpS x y = 1) := by
  by_cases e : x = y
  · exact .inr (.inl e)
  · by_cases h : Op.bytesLess x.toList y.toList = true
    · exact .inl ⟨h, bl_asymm _ _ h, beq_str e, by rw [cmpS, if_pos h]⟩
    · have h1 : Op.bytesLess x.toList y.toList = false := by simpa using h
      have h2 := bl_total _ _ (fun h2 => e (str_inj h2)) h1
      exact .inr (.inr ⟨h1, h2, beq_str e, by rw [cmpS, if_neg h, if_pos h2]⟩)
theorem bl_skip {l m : List UInt8} {k : Nat} {a : UInt8} (h1 : l[k]? = some a) (h2 : m[k]? = some a) : Op.bytesLess (l.drop k) (m.drop k) = Op.bytesLess (l.drop (k + 1)) (m.drop (k + 1)) := by
  obtain ⟨g1, rfl⟩ := List.getElem?_eq_some_iff.1 h1
  obtain ⟨g2, e⟩ := List.getElem?_eq_some_iff.1 h2
  rw [List.drop_eq_getElem_cons g1, List.drop_eq_getElem_cons g2, Op.bytesLess, e]
  simp
theorem bl_here {l m : List UInt8} {k : Nat} {a b : UInt8} (h1 : l[k]? = some a) (h2 : m[k]? = some b) (h : ¬ a = b) : Op.bytesLess (l.drop k) (m.drop k) = decide (a.toNat < b.toNat) := by
  obtain ⟨g1, rfl⟩ := List.getElem?_eq_some_iff.1 h1
  obtain ⟨g2, rfl⟩ := List.getElem?_eq_some_iff.1 h2
  rw [List.drop_eq_getElem_cons g1, List.drop_eq_getElem_cons g2, Op.bytesLess]
  simp [h, UInt8.lt_iff_toNat_lt]
theorem bl_end {l m : List UInt8} {k : Nat} (h : l.length ≤ k ∨ m.length ≤ k) (h1 : k ≤ l.length) (h2 : k ≤ m.length) : Op.bytesLess (l.drop k) (m.drop k) = decide (l.length < m.length) := by
  rcases Nat.lt_or_ge k m.length with g | g
  · rw [List.drop_of_length_le (show l.length ≤ k by omega), List.drop_eq_getElem_cons g, Op.bytesLess, decide_eq_true (by omega)]
  · rw [List.drop_of_length_le (show m.length ≤ k from g), decide_eq_false (by omega)]
    cases l.drop k <;> rfl
theorem quiet_add {P : Program} {f : FuncId} {args : Array Value} {w : World} {q n : Nat} {v : Value}
    (h : Calls P f args (w.drewN (q + n)) fun e w' => e = .returned v ∧ ∃ m, w' = (w.drewN (q + n)).drewN m) : Calls P f args (w.drewN (q + n)) fun e w' => e = .returned v ∧ ∃ m, w' = w.drewN (q + m) :=
  h.mono fun _ _ ⟨he, m, hm⟩ => ⟨he, n + m, by rw [hm, World.drewN_drewN, Nat.add_assoc]⟩
theorem str_len (s : ByteArray) : s.toList.length = s.size := by rw [ByteArray.toList_eq]; rfl
theorem str_at {s : ByteArray} {k : Nat} (h : k < s.size) : s.toList[k]? = some (s[k]'h) := by
  rw [ByteArray.toList_eq, List.getElem?_eq_getElem (by simpa using h)]
  rfl
set_option maxHeartbeats 400000 in
theorem specEqualStrings_any (A B : Option Addr) (n m c d : Nat) (xs ys : List ByteArray) (w : World) (hs : Sees w A n 1 (sv xs)) (ht : Sees w B m 1 (sv ys)) (hn : n ≤ 70368744177664) (hm : m ≤ 70368744177664) :
    Calls Try.prog 19 #[.slice A n c, .slice B m d] w fun e w' => e = .returned (.bool (decide (xs = ys))) ∧ ∃ q, w' = w.drewN q := by
  have HX := hide hs.slen
  have HY := hide ht.slen
  by_cases hnm : n = m
  · subst hnm
    have h0 : ((n : Int) != (n : Int)) = false := by simp
    go_enter Try.func19, Try.ntmps19
    go_wp2
    go_loopw [13] (fun i wr => ∃ k q : Nat, k ≤ n ∧ i = .int .i64 k ∧ wr = w.drewN q ∧ Hid (xs.take k = ys.take k)) (fun i _ => n - (intOf i).toNat)
    case atStart => exact ⟨0, 0, Nat.zero_le _, rfl, rfl, by simp [Hid]⟩
    case round =>
      obtain ⟨k, q, hk, rfl, rfl, HT⟩ := hrel
      by_cases hlt : k < n
      · obtain ⟨ad, x, rfl, hbl, HXk, hcx⟩ := hs.str hlt
        obtain ⟨bd, y, rfl, hbm, HYk, hcy⟩ := ht.str hlt
        by_cases hxy : x = y
        · have e1 : (x.toList == y.toList) = true := by simp [hxy]
          go_wp2_with fail
          go_quiet (fail)
          go_wp2_with fail
          go_roundw
          case rel => exact ⟨k + 1, _, by omega, by go_num, rfl, takeMore HT.out HXk.out HYk.out hxy⟩
          case measure => simp [intOf]; omega
        · have e1 : (x.toList == y.toList) = false := beq_str hxy
          go_wp2_with fail
          go_quiet (fail)
          go_wp2_with fail
          go_ret
          refine ⟨?_, _, World.drewN_drewN _ _ _⟩
          rw [decide_eq_false (differAt HXk.out HYk.out hxy)]
          rfl
      · go_wp2_with fail
        go_ret
        refine ⟨?_, _, rfl⟩
        rw [decide_eq_true (takeAll HT.out HX.out HY.out (by omega))]
        rfl
  · have h0 : ((n : Int) != (m : Int)) = true := by simp; omega
    go_enter Try.func19, Try.ntmps19
    go_wp2
    go_ret
    refine ⟨?_, 0, rfl⟩
    rw [decide_eq_false (fun h => hnm (by rw [← HX.out, ← HY.out, h]))]
    rfl
set_option maxHeartbeats 400000 in
theorem EqualT_any (A B : Option Addr) (n m c d : Nat) (xs ys : List ByteArray) (w : World) (hs : Sees w A n 1 (sv xs)) (ht : Sees w B m 1 (sv ys)) (hn : n ≤ 70368744177664) (hm : m ≤ 70368744177664) :
    Calls Try.prog 38 #[.slice A n c, .slice B m d] w fun e w' => e = .returned (.bool (decide (xs = ys))) ∧ ∃ q, w' = w.drewN q := by
  have HX := hide hs.slen
  have HY := hide ht.slen
  by_cases hnm : n = m
  · subst hnm
    have h0 : ((n : Int) != (n : Int)) = false := by simp
    go_enter Try.func38, Try.ntmps38
    go_wp2
    go_loopw [13] (fun i wr => ∃ k q : Nat, k ≤ n ∧ i = .int .i64 k ∧ wr = w.drewN q ∧ Hid (xs.take k = ys.take k)) (fun i _ => n - (intOf i).toNat)
    case atStart => exact ⟨0, 0, Nat.zero_le _, rfl, rfl, by simp [Hid]⟩
    case round =>
      obtain ⟨k, q, hk, rfl, rfl, HT⟩ := hrel
      by_cases hlt : k < n
      · obtain ⟨ad, x, rfl, hbl, HXk, hcx⟩ := hs.str hlt
        obtain ⟨bd, y, rfl, hbm, HYk, hcy⟩ := ht.str hlt
        by_cases hxy : x = y
        · have e1 : (x.toList == y.toList) = true := by simp [hxy]
          go_wp2_with fail
          go_quiet (fail)
          go_wp2_with fail
          go_roundw
          case rel => exact ⟨k + 1, _, by omega, by go_num, rfl, takeMore HT.out HXk.out HYk.out hxy⟩
          case measure => simp [intOf]; omega
        · have e1 : (x.toList == y.toList) = false := beq_str hxy
          go_wp2_with fail
          go_quiet (fail)
          go_wp2_with fail
          go_ret
          refine ⟨?_, _, World.drewN_drewN _ _ _⟩
          rw [decide_eq_false (differAt HXk.out HYk.out hxy)]
          rfl
      · go_wp2_with fail
        go_ret
        refine ⟨?_, _, rfl⟩
        rw [decide_eq_true (takeAll HT.out HX.out HY.out (by omega))]
        rfl
  · have h0 : ((n : Int) != (m : Int)) = true := by simp; omega
    go_enter Try.func38, Try.ntmps38
    go_wp2
    go_ret
    refine ⟨?_, 0, rfl⟩
    rw [decide_eq_false (fun h => hnm (by rw [← HX.out, ← HY.out, h]))]
    rfl
set_option maxHeartbeats 400000 in
theorem EqualStrings_any (A B : Option Addr) (n m c d : Nat) (xs ys : List ByteArray) (w : World) (hs : Sees w A n 1 (sv xs)) (ht : Sees w B m 1 (sv ys)) (hn : n ≤ 70368744177664) (hm : m ≤ 70368744177664) :
    Calls Try.prog 21 #[.slice A n c, .slice B m d] w fun e w' => e = .returned (.bool (decide (xs = ys))) ∧ ∃ q, w' = w.drewN q := by
  go_enter Try.func21, Try.ntmps21
  go_wp2_with fail
  refine (EqualT_any A B n m c d xs ys _ hs ht hn hm).mono ?_
  rintro e w' ⟨rfl, q, rfl⟩
  go_wp2_with fail
  go_ret
  exact ⟨rfl, q, rfl⟩

theorem isNaNT_any (x : ByteArray) (w : World) : Calls Try.prog 53 #[.string x] w fun e w' => e = .returned (.bool false) ∧ w = w' := by
  have e1 : (x.toList == x.toList) = true := by simp
  go_enter Try.func53, Try.ntmps53
  go_wp2
  go_ret
  exact ⟨rfl, rfl⟩
set_option maxHeartbeats 400000 in
theorem cmpCompareT_any (x y : ByteArray) (w : World) : Calls Try.prog 51 #[.string x, .string y] w fun e w' => e = .returned (.int .i64 (cmpS x y)) ∧ w = w' := by
  rcases cmpS_ways x y with ⟨h1, h2, h3, h4⟩ | rfl | ⟨h1, h2, h3, h4⟩
  · rw [h4]
    clear h4
    go_enter Try.func51, Try.ntmps51
    go_wp2_with fail
    refine (isNaNT_any x _).mono ?_
    rintro e w' ⟨rfl, rfl⟩
    go_wp2_with fail
    refine (isNaNT_any y _).mono ?_
    rintro e w' ⟨rfl, rfl⟩
    go_wp2_with fail
    go_ret
    exact ⟨rfl, rfl⟩
  · rw [cmpS_self]
    have h1 := bl_self x.toList
    go_enter Try.func51, Try.ntmps51
    go_wp2_with fail
    refine (isNaNT_any x _).mono ?_
    rintro e w' ⟨rfl, rfl⟩
    go_wp2_with fail
    refine (isNaNT_any x _).mono ?_
    rintro e w' ⟨rfl, rfl⟩
    go_wp2_with fail
    go_ret
    exact ⟨rfl, rfl⟩
  · rw [h4]
    clear h4
    go_enter Try.func51, Try.ntmps51
    go_wp2_with fail
    refine (isNaNT_any x _).mono ?_
    rintro e w' ⟨rfl, rfl⟩
    go_wp2_with fail
    refine (isNaNT_any y _).mono ?_
    rintro e w' ⟨rfl, rfl⟩
    go_wp2_with fail
    go_ret
    exact ⟨rfl, rfl⟩
set_option maxHeartbeats 800000 in
theorem earlier_any (a b : ByteArray) (w : World) (ha : a.size ≤ maxLen) (hb : b.size ≤ maxLen) : Calls Try.prog 47 #[.string a, .string b] w fun e w' => e = .returned (.bool (Op.bytesLess a.toList b.toList)) ∧ ∃ q, w' = w.drewN q := by
  unfold maxLen at ha hb
  go_enter Try.func47, Try.ntmps47
  go_wp2_with fail
  go_loopw [5] (fun i wr => ∃ k q : Nat, k ≤ a.size ∧ k ≤ b.size ∧ i = .int .i64 k ∧ wr = w.drewN q ∧ Hid (Op.bytesLess a.toList b.toList = Op.bytesLess (a.toList.drop k) (b.toList.drop k))) (fun i _ => a.size - (intOf i).toNat)
  case atStart => exact ⟨0, 0, Nat.zero_le _, Nat.zero_le _, rfl, rfl, by simp [Hid]⟩
  case round =>
    obtain ⟨k, q, hk, hk2, rfl, rfl, HH⟩ := hrel
    by_cases hlt : k < a.size
    · have d1 : decide ((k : Int) < (a.size : Int)) = true := by simp; omega
      by_cases hlt2 : k < b.size
      · have d2 : decide ((k : Int) < (b.size : Int)) = true := by simp; omega
        have s1 := str_at hlt
        have s2 := str_at hlt2
        by_cases hxy : a[k]'hlt = b[k]'hlt2
        · have e1 : (((a[k]'hlt).toNat : Int) != ((b[k]'hlt2).toNat : Int)) = false := by simp [hxy]
          have HN : Hid (Op.bytesLess a.toList b.toList = Op.bytesLess (a.toList.drop (k + 1)) (b.toList.drop (k + 1))) := by
            rw [Hid, HH.out]
            exact bl_skip s1 (by rw [s2, hxy])
          clear s1 s2 hxy
          go_wp2_with fail
          go_quiet (fail)
          go_wp2_with fail
          go_roundw
          case rel => exact ⟨k + 1, _, by omega, by omega, by go_num, rfl, HN⟩
          case measure => simp [intOf]; omega
        · have e1 : (((a[k]'hlt).toNat : Int) != ((b[k]'hlt2).toNat : Int)) = true := by
            simp only [bne_iff_ne, ne_eq]
            intro h
            exact hxy (UInt8.toNat_inj.1 (by omega))
          have HN : Hid (Op.bytesLess a.toList b.toList = decide ((a[k]'hlt).toNat < (b[k]'hlt2).toNat)) := by
            rw [Hid, HH.out]
            exact bl_here s1 s2 hxy
          clear s1 s2 hxy HH
          go_wp2_with fail
          go_quiet (fail)
          go_wp2_with fail
          go_quiet (fail)
          go_wp2_with fail
          go_ret
          refine ⟨?_, _, by rw [World.drewN_drewN, World.drewN_drewN]⟩
          rw [HN.out]
          rfl
      · have d2 : decide ((k : Int) < (b.size : Int)) = false := by simp; omega
        have HN : Hid (Op.bytesLess a.toList b.toList = decide (a.size < b.size)) := by
          rw [Hid, HH.out, bl_end (by rw [str_len, str_len]; omega) (by rw [str_len]; omega) (by rw [str_len]; omega), str_len, str_len]
        clear HH
        go_wp2_with fail
        go_ret
        refine ⟨?_, _, rfl⟩
        rw [HN.out]
        rfl
    · have d1 : decide ((k : Int) < (a.size : Int)) = false := by simp; omega
      have HN : Hid (Op.bytesLess a.toList b.toList = decide (a.size < b.size)) := by
        rw [Hid, HH.out, bl_end (by rw [str_len, str_len]; omega) (by rw [str_len]; omega) (by rw [str_len]; omega), str_len, str_len]
      clear HH
      go_wp2_with fail
      go_ret
      refine ⟨?_, _, rfl⟩
      rw [HN.out]
      rfl

theorem earlier_is (a b : ByteArray) (v : Bool) (w : World) (ha : a.size ≤ maxLen) (hb : b.size ≤ maxLen) (hv : Op.bytesLess a.toList b.toList = v) : Calls Try.prog 47 #[.string a, .string b] w fun e w' => e = .returned (.bool v) ∧ ∃ q, w' = w.drewN q := by
  have h := earlier_any a b w ha hb
  rw [hv] at h
  exact h
theorem lengthsT_any (n m : Nat) (k : Nat) (xs ys : List ByteArray) (w : World) (hx : xs.length = n) (hy : ys.length = m) (hk : n ≤ k ∨ m ≤ k) (hn : k ≤ n) (hm : k ≤ m) (hh : cmpT xs ys = cmpBy cmpS (xs.drop k) (ys.drop k)) :
    Calls Try.prog 43 #[.int .i64 n, .int .i64 m] w fun e w' => e = .returned (.int .i64 (cmpT xs ys)) ∧ w = w' := by
  rcases Nat.lt_trichotomy n m with h | h | h
  · have e0 : cmpT xs ys = -1 := cmpBy_shorter (k := k) (by omega) (by omega) hh
    rw [e0]
    clear e0 hh hx hy
    go_enter Try.func43, Try.ntmps43
    go_wp2
    go_ret
    exact ⟨rfl, rfl⟩
  · have e0 : cmpT xs ys = 0 := cmpBy_equal (k := k) (by omega) (by omega) hh
    rw [e0]
    clear e0 hh hx hy
    subst h
    have h1 : ¬ (n : Int) < (n : Int) := by omega
    go_enter Try.func43, Try.ntmps43
    go_wp2
    go_ret
    exact ⟨rfl, rfl⟩
  · have e0 : cmpT xs ys = 1 := cmpBy_longer (k := k) (by omega) (by omega) hh
    rw [e0]
    clear e0 hh hx hy
    have h1 : ¬ (n : Int) < (m : Int) := by omega
    go_enter Try.func43, Try.ntmps43
    go_wp2
    go_ret
    exact ⟨rfl, rfl⟩
set_option maxHeartbeats 800000 in
theorem CompareT_any (A B : Option Addr) (n m c d : Nat) (xs ys : List ByteArray) (w : World) (hs : Sees w A n 1 (sv xs)) (ht : Sees w B m 1 (sv ys)) (hn : n ≤ 70368744177664) (hm : m ≤ 70368744177664) :
    Calls Try.prog 48 #[.slice A n c, .slice B m d] w fun e w' => e = .returned (.int .i64 (cmpT xs ys)) ∧ w = w' := by
  have HX := hide hs.slen
  have HY := hide ht.slen
  go_enter Try.func48, Try.ntmps48
  go_wp2_with fail
  go_loop [11] (fun i => ∃ k : Nat, k ≤ n ∧ k ≤ m ∧ i = .int .i64 k ∧ Hid (cmpT xs ys = cmpBy cmpS (xs.drop k) (ys.drop k))) (fun i => n - (intOf i).toNat)
  case atStart => exact ⟨0, Nat.zero_le _, Nat.zero_le _, rfl, by simp [Hid, cmpT]⟩
  case round =>
    obtain ⟨k, hk, hk2, rfl, HH⟩ := hrel
    by_cases hlt : k < n
    · obtain ⟨ad, x, rfl, _, HXk, hcx⟩ := hs.str hlt
      by_cases hlt2 : k < m
      · obtain ⟨bd, y, rfl, _, HYk, hcy⟩ := ht.str hlt2
        go_wp2_with fail
        refine (cmpCompareT_any x y _).mono ?_
        rintro e w' ⟨rfl, rfl⟩
        by_cases h0 : cmpS x y = 0
        · rw [h0]
          have H0 := hide h0
          clear h0
          go_wp2_with fail
          go_round
          case rel => exact ⟨k + 1, by omega, by omega, by go_num, cmpBy_step HXk.out HYk.out H0.out HH.out⟩
          case measure => simp [intOf]; omega
        · have e0 := cmpBy_stop HXk.out HYk.out h0 HH.out
          have e1 : (cmpS x y != 0) = true := by simp [h0]
          have E0 := hide e0
          clear e0 h0
          go_wp2_with fail
          go_ret
          refine ⟨?_, rfl⟩
          rw [show cmpT xs ys = cmpS x y from E0.out]
          rfl
      · have E0 := hide (cmpBy_longer (k := k) (by rw [HX.out]; exact hlt) (by rw [HY.out]; omega) HH.out)
        go_wp2_with fail
        go_ret
        refine ⟨?_, rfl⟩
        rw [show cmpT xs ys = 1 from E0.out]
        rfl
    · obtain rfl : k = n := by omega
      by_cases hlt2 : k < m
      · have E0 := hide (cmpBy_shorter (k := k) (by rw [HX.out]; exact Nat.le_refl _) (by rw [HY.out]; exact hlt2) HH.out)
        go_wp2_with fail
        go_ret
        refine ⟨?_, rfl⟩
        rw [show cmpT xs ys = -1 from E0.out]
        rfl
      · have E0 := hide (cmpBy_equal (k := k) (by rw [HX.out]; exact Nat.le_refl _) (by rw [HY.out]; omega) HH.out)
        go_wp2_with fail
        go_ret
        refine ⟨?_, rfl⟩
        rw [show cmpT xs ys = 0 from E0.out]
        rfl

set_option maxHeartbeats 800000 in
theorem specCompareStrings_any (A B : Option Addr) (n m c d : Nat) (xs ys : List ByteArray) (w : World) (hs : Sees w A n 1 (sv xs)) (ht : Sees w B m 1 (sv ys)) (hn : n ≤ 70368744177664) (hm : m ≤ 70368744177664) (hzx : ∀ s ∈ xs, s.size ≤ maxLen) (hzy : ∀ s ∈ ys, s.size ≤ maxLen) :
    Calls Try.prog 33 #[.slice A n c, .slice B m d] w fun e w' => e = .returned (.int .i64 (cmpT xs ys)) ∧ ∃ q, w' = w.drewN q := by
  have HX := hide hs.slen
  have HY := hide ht.slen
  have ZX := hide hzx
  have ZY := hide hzy
  clear hzx hzy
  go_enter Try.func33, Try.ntmps33
  go_wp2_with fail
  go_loopw [5] (fun i wr => ∃ k q : Nat, k ≤ n ∧ k ≤ m ∧ i = .int .i64 k ∧ wr = w.drewN q ∧ Hid (cmpT xs ys = cmpBy cmpS (xs.drop k) (ys.drop k))) (fun i _ => n - (intOf i).toNat)
  case atStart => exact ⟨0, 0, Nat.zero_le _, Nat.zero_le _, rfl, rfl, by simp [Hid, cmpT]⟩
  case round =>
    obtain ⟨k, q, hk, hk2, rfl, rfl, HH⟩ := hrel
    by_cases hlt : k < n
    · have d1 : decide ((k : Int) < (n : Int)) = true := by simp; omega
      obtain ⟨ad, x, rfl, _, HXk, hcx⟩ := hs.str hlt
      by_cases hlt2 : k < m
      · have d2 : decide ((k : Int) < (m : Int)) = true := by simp; omega
        obtain ⟨bd, y, rfl, _, HYk, hcy⟩ := ht.str hlt2
        have zx : Hid (x.size ≤ maxLen) := ZX.out x (List.mem_of_getElem? HXk.out)
        have zy : Hid (y.size ≤ maxLen) := ZY.out y (List.mem_of_getElem? HYk.out)
        rcases cmpS_ways x y with ⟨h1, h2, h3, h4⟩ | h | ⟨h1, h2, h3, h4⟩
        · have E0 := hide (cmpBy_stop HXk.out HYk.out (by rw [h4]; omega) HH.out)
          have H4 := hide h4
          clear h4 h2 h3
          go_wp2_with fail
          go_quiet ((go_at_call 47; exact quiet_add (earlier_is x y _ _ zx.out zy.out h1)))
          go_wp2_with fail
          go_ret
          refine ⟨?_, _, World.drewN_drewN _ _ _⟩
          rw [show cmpT xs ys = cmpS x y from E0.out, H4.out]
          rfl
        · have H0 := hide (cmpBy_step HXk.out HYk.out (cmpS_zero.2 h) HH.out)
          subst h
          have h1 := bl_self x.toList
          go_wp2_with fail
          go_quiet ((go_at_call 47; exact quiet_add (earlier_is x x _ _ zx.out zx.out h1)))
          go_wp2_with fail
          go_quiet ((go_at_call 47; exact quiet_add (earlier_is x x _ _ zx.out zx.out h1)))
          go_wp2_with fail
          go_roundw
          case rel => exact ⟨k + 1, _, by omega, by omega, by go_num, rfl, H0.out⟩
          case measure => simp [intOf]; omega
        · have E0 := hide (cmpBy_stop HXk.out HYk.out (by rw [h4]; omega) HH.out)
          have H4 := hide h4
          clear h4 h3
          go_wp2_with fail
          go_quiet ((go_at_call 47; exact quiet_add (earlier_is x y _ _ zx.out zy.out h1)))
          go_wp2_with fail
          go_quiet ((go_at_call 47; exact quiet_add (earlier_is y x _ _ zy.out zx.out h2)))
          go_wp2_with fail
          go_ret
          refine ⟨?_, _, by rw [World.drewN_drewN, World.drewN_drewN]⟩
          rw [show cmpT xs ys = cmpS x y from E0.out, H4.out]
          rfl
      · have d2 : decide ((k : Int) < (m : Int)) = false := by simp; omega
        go_wp2_with fail
        refine (lengthsT_any n m k xs ys _ HX.out HY.out (by omega) hk hk2 HH.out).mono ?_
        rintro e w' ⟨rfl, rfl⟩
        go_wp2_with fail
        go_ret
        exact ⟨rfl, _, rfl⟩
    · have d1 : decide ((k : Int) < (n : Int)) = false := by simp; omega
      go_wp2_with fail
      refine (lengthsT_any n m k xs ys _ HX.out HY.out (by omega) hk hk2 HH.out).mono ?_
      rintro e w' ⟨rfl, rfl⟩
      go_wp2_with fail
      go_ret
      exact ⟨rfl, _, rfl⟩
set_option maxHeartbeats 400000 in
theorem CompareStrings_any (A B : Option Addr) (n m c d : Nat) (xs ys : List ByteArray) (w : World) (hs : Sees w A n 1 (sv xs)) (ht : Sees w B m 1 (sv ys)) (hn : n ≤ 70368744177664) (hm : m ≤ 70368744177664) :
    Calls Try.prog 34 #[.slice A n c, .slice B m d] w fun e w' => e = .returned (.int .i64 (cmpT xs ys)) ∧ w = w' := by
  go_enter Try.func34, Try.ntmps34
  go_wp2_with fail
  refine (CompareT_any A B n m c d xs ys _ hs ht hn hm).mono ?_
  rintro e w' ⟨rfl, rfl⟩
  go_wp2_with fail
  go_ret
  exact ⟨rfl, rfl⟩
end Go.Proofs.Ytgogocodhilfnaa
