/-
  Contracts: math/bits.Mul64, math/bits.Mul, slices.Repeat of numbers.
-/
import Derived.Test.YtjmceapdokkleaaSmall
import Derived.Test.YtjmceapdokkleaaInsBase
import Derived.Shelf.Bits.Mul64
namespace Go.Proofs.Ytjmceapdokkleaa
open Go.RowKit
set_option linter.unusedVariables false

set_option maxHeartbeats 1000000 in
theorem Mul64_any (x y hi lo : Nat) (hx : x < 18446744073709551616) (hy : y < 18446744073709551616) (h1 : x * y / 18446744073709551616 = hi) (h2 : x * y % 18446744073709551616 = lo) (w : World) :
    Calls Try.prog 48 #[.int .u64 x, .int .u64 y] w fun e w' => e = .returned (.tuple #[.int .u64 (hi : Int), .int .u64 (lo : Int)]) ∧ w = w' := by
  subst h1 h2
  obtain ⟨bd, bt, bw, hhi⟩ := Lib.mul64_hi x y hx hy
  have ba := Lib.half_mul_le (a := x / 4294967296) (b := y / 4294967296) (by omega) (by omega)
  have bb := Lib.half_mul_le (a := x / 4294967296) (b := y % 4294967296) (by omega) (by omega)
  have bc := Lib.half_mul_le (a := x % 4294967296) (b := y / 4294967296) (by omega) (by omega)
  have ba' : x / 4294967296 * (y / 4294967296) < 18446744073709551616 := by omega
  have bb' : x / 4294967296 * (y % 4294967296) < 18446744073709551616 := by omega
  have bc' : x % 4294967296 * (y / 4294967296) < 18446744073709551616 := by omega
  have bh1 : x / 4294967296 * (y / 4294967296) + (x / 4294967296 * (y % 4294967296) + x % 4294967296 * (y % 4294967296) / 4294967296) / 4294967296 < 18446744073709551616 := by omega
  have bh : x / 4294967296 * (y / 4294967296) + (x / 4294967296 * (y % 4294967296) + x % 4294967296 * (y % 4294967296) / 4294967296) / 4294967296 + ((x / 4294967296 * (y % 4294967296) + x % 4294967296 * (y % 4294967296) / 4294967296) % 4294967296 + x % 4294967296 * (y / 4294967296)) / 4294967296 < 18446744073709551616 := by omega
  go_enter Try.func48, Try.ntmps48
  go_wp2
  simp only [Mul64.maskN x hx, Mul64.maskN y hy, Mul64.divN, Mul64.mulN, Mul64.addN, Mul64.wrapN _ bd, Mul64.wrapN _ bb', Mul64.wrapN _ bt, Mul64.maskN _ bt, Mul64.wrapN _ bc', Mul64.wrapN _ bw, Mul64.wrapN _ ba', Mul64.wrapN _ bh1, Mul64.wrapN _ bh, Mul64.wrapM (x * y)]
  rw [hhi]
  go_ret2
  exact ⟨rfl, rfl⟩

set_option maxHeartbeats 400000 in
theorem Mul_any (x y hi lo : Nat) (hx : x < 18446744073709551616) (hy : y < 18446744073709551616) (h1 : x * y / 18446744073709551616 = hi) (h2 : x * y % 18446744073709551616 = lo) (w : World) :
    Calls Try.prog 46 #[.int .u64 x, .int .u64 y] w fun e w' => e = .returned (.tuple #[.int .u64 (hi : Int), .int .u64 (lo : Int)]) ∧ w = w' := by
  have H := hide (Mul64_any x y hi lo hx hy h1 h2)
  clear hx hy h1 h2
  go_enter Try.func46, Try.ntmps46
  go_wp2_with fail
  refine (H.out _).mono ?_
  rintro e w' ⟨rfl, rfl⟩
  go_wp2_with fail
  go_ret2
  exact ⟨rfl, rfl⟩

/-- a list, k times -/
def rep (k : Nat) (xs : List Int) : List Int := (List.replicate k xs).flatten
theorem rep_len (k : Nat) (xs : List Int) : (rep k xs).length = xs.length * k := by
  rw [rep, List.length_flatten, List.map_replicate, List.sum_replicate_nat, Nat.mul_comm]
theorem rep_add (j k : Nat) (xs : List Int) : rep (j + k) xs = rep j xs ++ rep k xs := by
  rw [rep, rep, rep, ← List.flatten_append, List.replicate_append_replicate]
theorem rep_take (j k : Nat) (xs : List Int) (h : j ≤ k) : (rep k xs).take (xs.length * j) = rep j xs := by
  rw [show k = j + (k - j) by omega, rep_add, List.take_left' (rep_len j xs)]
theorem rep_one (xs : List Int) : rep 1 xs = xs := by simp [rep]
theorem rep_zero (xs : List Int) : rep 0 xs = [] := by simp [rep]

/-- copy of the first k elements of a block behind themselves -/
theorem dbl_cells (xs : List Int) (q m n P k : Nat) (hx : xs.length = n) (hq : q ≤ k) (hP : n * k = P) (hm : m = min q (k - q)) :
    (iv (rep q xs ++ List.replicate (P - n * q) 0)).take (n * q) ++ (iv (rep q xs)).take (n * m * 1) ++ (iv (rep q xs ++ List.replicate (P - n * q) 0)).drop (n * q + n * m * 1) =
      iv (rep (q + m) xs ++ List.replicate (P - n * (q + m)) 0) := by
  have hl : (rep q xs).length = n * q := by rw [rep_len, hx]
  have hm1 : m ≤ q := by omega
  have h1 : n * (q + m) = n * q + n * m := Nat.mul_add _ _ _
  rw [iv_append, List.take_left' (by rw [iv_len, hl]), Nat.mul_one, ← List.drop_drop, List.drop_left' (by rw [iv_len, hl]), ← iv_take, ← iv_drop, List.drop_replicate, ← iv_append, ← iv_append, rep_add, h1]
  congr 2
  · rw [← hx, rep_take m q xs hm1]
  · congr 1
    omega

theorem min_mul (n q k P : Nat) (hn : 0 < n) (hq : q ≤ k) (hP : n * k = P) : min (n * q) (P - n * q) = n * min q (k - q) := by
  rw [← hP, ← Nat.mul_sub]
  rcases Nat.le_total q (k - q) with h | h
  · rw [Nat.min_eq_left h, Nat.min_eq_left (Nat.mul_le_mul_left n h)]
  · rw [Nat.min_eq_right h, Nat.min_eq_right (Nat.mul_le_mul_left n h)]

theorem step_copy_blk2 {P : Program} (w : World) {ops : Array Oper} {o : Oper} {a : Act} {K : Act → World → Prop} {Q : Exit → Act → World → Prop} {E : Prop} (hgd : o.guard = none) (s x : Operand) (t : TypeId)
    (ho : o.op = .call { callee := .builtin .copy, args := #[s, x], argTypes := #[t, t] })
    (e : TypeId) (i : TypeInfo) (sz : Nat) (ht : P.underlying t = some (.slice e)) (hi : P.info? e = some i) (hz : i.size = sz)
    (g off dl dc : Nat) (cs : List Value) (hb : Blk w g e cs) (hc : off + dl * sz ≤ cs.length) (hA : a.eval s = .slice (some ⟨g, off, none⟩) dl dc)
    (B : Option Addr) (m d : Nat) (ys : List Value) (hB : a.eval x = .slice B m d) (hs : Sees w B m sz ys) (h1 : ∀ u ∈ ys.take (min m dl * sz), u.oneCell' = true)
    (h : ∀ w', Blk w' g e (cs.take off ++ ys.take (min m dl * sz) ++ cs.drop (off + min m dl * sz)) → Only g (g + 1) w w' → w'.heap.size = w.heap.size → K (a.put o.dst (.int .i64 ((min m dl : Nat) : Int))) w') :
    if Region.wanted o (yielded ops a.tmps) = true then Oper.wp P o a w K Q else E := by
  have hw : Region.wanted o (yielded ops a.tmps) = true := by simp [Region.wanted, hgd]
  rw [if_pos hw]
  obtain ⟨w', hr', h2, h3, h4⟩ := run_copy_blk2 (P := P) w t o.type e i sz ht hi hz g off dl dc cs hb hc B m d ys hs h1
  unfold Oper.wp execOp
  simp only [ho, resolve, invoke, builtin, Sem.run_bind, Sem.run_pure, Result.andThen_ok, List.map_toArray, List.map_cons, List.map_nil, hA, hB, hr']
  exact h w' h2 h3 h4

theorem rep_eq (xs : List Int) (n q k : Nat) (hx : xs.length = n) (h : n * q = n * k) : rep q xs = rep k xs := by
  rcases Nat.eq_zero_or_pos n with h0 | h0
  · have : xs = [] := List.eq_nil_of_length_eq_zero (by omega)
    subst this
    simp [rep]
  · rw [Nat.eq_of_mul_eq_mul_left h0 h]
theorem pos_of {n q k P : Nat} (hq : 0 < q) (h : n * q < P) (hP : n * k = P) (hqk : q ≤ k) : 0 < n * min q (k - q) ∧ 0 < n ∧ q < k := by
  have hn : 0 < n := by
    rcases Nat.eq_zero_or_pos n with h0 | h0
    · subst h0; omega
    · exact h0
  have hlt : q < k := by
    rcases Nat.lt_or_ge q k with h1 | h1
    · exact h1
    · have := Nat.mul_le_mul_left n h1; omega
  exact ⟨Nat.mul_pos hn (by omega), hn, hlt⟩

set_option maxHeartbeats 2000000 in
set_option maxRecDepth 100000 in
theorem Repeat_ok (A : Option Addr) (n c k P : Nat) (xs : List Int) (w : World) (hs : Sees w A n 1 (iv xs)) (hn : n ≤ 17592186044416) (hk : (k : Int) ≤ 9223372036854775807) (hP : n * k = P) (hb : P ≤ 17592186044416) :
    Calls Try.prog 40 #[.slice A n c, .int .i64 k] w fun e w' =>
      ∃ A' c', e = .returned (.slice A' P c') ∧ Row w' w.heap.size w'.heap.size 3 1 A' P c' (iv (rep k xs)) ∧ Below w.heap.size w w' := by
  obtain ⟨i0, hi0, hz0, hz1, hz2⟩ := info_parts intInfo
  have HX := hide hs.ilen
  have HM : Hid (∀ w : World, Calls Try.prog 46 #[.int .u64 n, .int .u64 k] w fun e w' => e = .returned (.tuple #[.int .u64 0, .int .u64 (P : Int)]) ∧ w = w') :=
    Mul_any n k 0 P (by omega) (by omega) (by rw [hP]; omega) (by rw [hP]; omega)
  have w1 : IntKind.u64.wrap (n : Int) = (n : Int) := by rw [IntKind.wrap_u64]; omega
  have w2 : IntKind.u64.wrap (k : Int) = (k : Int) := by rw [IntKind.wrap_u64]; omega
  have HP := hide hP
  have HK := hide hk
  have hk0 : ¬ ((k : Int) < 0) := by omega
  clear hP hk
  go_enter Try.func40, Try.ntmps40
  go_wp2_with fail
  refine (HM.out _).mono ?_
  rintro e w' ⟨rfl, rfl⟩
  clear w1 w2 HM
  have r1 : i0.bytes * P ≤ 281474976710656 := by rw [hz2]; omega
  have r2 : P ≤ maxLen := by unfold maxLen; omega
  have e3 : decide ((9223372036854775807 : Int) < (P : Int)) = false := by simp; omega
  go_wp2_with (at_make; go_loud (refine wpList_make_full _ rfl _ _ _ rfl w.heap.size 3 i0 _ 1 Try.underlying23 hi0 hz0 hz1 .i64 .i64 _ _ P rfl rfl rfl rfl r1 r2 (Nat.le_refl _) ?_); intro w1 hown1 hg1; refine halt_here ?_)
  refine ⟨?_⟩
  have hb1 : Below w.heap.size w w1 := (Below.refl _ _).grown hg1 (Nat.le_refl _) (by simp)
  have hlt1 := (hown1.lt w.heap.size rfl).2
  have hrow : Row w1 w.heap.size w1.heap.size 3 1 (some ⟨w.heap.size, 0, none⟩) P P (iv (List.replicate P 0)) := by
    refine ⟨?_, fun ad ha => ?_, Nat.le_refl _⟩
    · rw [made_zero] at hown1
      exact hown1
    · obtain rfl := Option.some.inj ha
      exact hlt1
  have hblk : Blk w1 w.heap.size 3 (iv (List.replicate P 0)) := by
    obtain ⟨g, post, hA, _, _, hb, hl⟩ := hrow.block rfl
    obtain rfl : w.heap.size = g := by injection hA with hA; injection hA
    have : post = [] := List.eq_nil_of_length_eq_zero (by rw [List.length_append, iv_len, List.length_replicate] at hl; omega)
    rw [this, List.append_nil] at hb
    exact hb
  have hs1 := hs.below hb1
  clear hown1 hg1 hrow r1 e3
  obtain ⟨G, hG⟩ : ∃ G, w.heap.size = G := ⟨_, rfl⟩
  rw [hG] at hblk hlt1 ⊢
  have HG := hide hG
  clear hG
  go_wp2_with (with_reducible refine halt_copy ?_)
  refine ⟨wpList_copy_blk w1 rfl _ _ _ rfl 3 i0 1 Try.underlying23 hi0 hz1 G 0 P P _ hblk (by rw [iv_len, List.length_replicate]; omega) rfl A n c _ rfl hs1 (iv_one _) ?_⟩
  intro w2 hb2 ho2 hs2
  have hb3 : Below w.heap.size w w2 := hb1.trans (ho2.below (by rw [HG.out]; exact Nat.le_refl _) hb1.size)
  obtain ⟨q0, hq0, hq1, hq2, hq3⟩ : ∃ q0, min n P = n * q0 ∧ q0 ≤ k ∧ (0 < P → 0 < q0) ∧ (iv xs).take (min n P) = iv (rep q0 xs) := by
    have hp := HP.out
    rcases Nat.eq_zero_or_pos k with h0 | h0
    · subst h0
      rw [Nat.mul_zero] at hp
      exact ⟨0, by omega, Nat.le_refl _, fun h => by omega, by rw [rep_zero, ← hp]; simp [iv]⟩
    · have hle : n ≤ P := by rw [← hp]; exact Nat.le_mul_of_pos_right n h0
      exact ⟨1, by omega, h0, fun _ => Nat.one_pos, by rw [rep_one, Nat.min_eq_left hle]; exact List.take_of_length_le (by rw [iv_len, HX.out]; exact Nat.le_refl _)⟩
  have hb4 : Blk w2 G 3 (iv (rep q0 xs ++ List.replicate (P - n * q0) 0)) := by
    rw [Nat.mul_one, hq3, Nat.zero_add, List.take_zero, List.nil_append, ← iv_drop, List.drop_replicate, ← iv_append, hq0] at hb2
    exact hb2
  rw [hq0]
  have hlt2 : G < w2.heap.size := hb4.lt
  have HQ2 := hide hq2
  clear hb2 ho2 hblk hs1 hb1 hq3 hq0 hq2 hs2 hlt1
  go_wp2_with fail
  go_loopw [8] (fun v wr => ∃ q : Nat, q ≤ k ∧ Hid (0 < P → 0 < q) ∧ v = .int .i64 ((n * q : Nat) : Int) ∧ Blk wr G 3 (iv (rep q xs ++ List.replicate (P - n * q) 0)) ∧ Below w.heap.size w wr) (fun v _ => P - (intOf v).toNat)
  case atStart => exact ⟨q0, hq1, HQ2, rfl, hb4, hb3⟩
  case round =>
    clear hb4 hb3 HQ2 hq1 hlt2
    obtain ⟨q, hqk, HQ, rfl, hblk, hbel⟩ := hrel
    have hT : n * q ≤ P := by rw [← HP.out]; exact Nat.mul_le_mul_left n hqk
    obtain ⟨T, hTT⟩ : ∃ T, n * q = T := ⟨_, rfl⟩
    have HT := hide hTT
    rw [hTT] at hT ⊢
    clear hTT
    by_cases hlt : T < P
    · obtain ⟨p1, p2, p3⟩ := pos_of (HQ.out (by omega)) (by rw [HT.out]; exact hlt) HP.out hqk
      have hmin : min T (P - T) = n * min q (k - q) := by rw [← HT.out]; exact min_mul n q k P p2 hqk HP.out
      obtain ⟨S, hS⟩ : ∃ S, n * min q (k - q) = S := ⟨_, rfl⟩
      rw [hS] at hmin p1
      have hTS : T + S ≤ P := by omega
      have HS := hide hS
      have HMIN := hide hmin
      clear hS hmin
      have q1 : ∀ W, (Instr.slice 23 (.slice (some ⟨G, 0, none⟩) P P) (some (.int .i64 (T : Int))) none none).run Try.prog W = .ok (.slice (some ⟨G, T, none⟩) (P - T) (P - T)) W := fun W => by
        rw [run_slice_lo (P := Try.prog) W 23 3 i0 1 Try.underlying23 hi0 hz1 (some ⟨G, 0, none⟩) P P .i64 T (by omega), cutA_some _ _ _ _ _ (by omega), Nat.zero_add, Nat.mul_one]
      have q2 := fun W => run_slice_hi (P := Try.prog) W 23 3 i0 Try.underlying23 hi0 (some ⟨G, 0, none⟩) P P .i64 T (by omega)
      go_wp2_with fail
      refine wp_region_any (by kernel_rfl) ?_
      change wpAny _ _ _ _ _ _ _ (World.drew _)
      refine wpAny_take (i := 0) (v := .int .i64 (T : Int)) rfl (by kernel_rfl) (by kernel_rfl) (by kernel_rfl) (fun _ _ _ h => h) (Or.inl ⟨by rfl, by intro w; go_simp⟩) ?_
      refine wpAny_take (i := 1) (v := .slice (some ⟨G, 0, none⟩) P P) rfl (by kernel_rfl) (by kernel_rfl) (by kernel_rfl) (fun _ _ _ h => h) (Or.inl ⟨by rfl, by intro w; go_simp⟩) ?_
      refine wpAny_take (i := 2) (v := .int .i64 (T : Int)) rfl (by kernel_rfl) (by kernel_rfl) (by kernel_rfl) (fun _ _ _ h => h) (Or.inl ⟨by rfl, by intro w; go_simp⟩) ?_
      refine wpAny_take (i := 3) (v := .slice (some ⟨G, T, none⟩) (P - T) (P - T)) rfl (by kernel_rfl) (by kernel_rfl) (by kernel_rfl) (fun _ _ _ h => h) (Or.inl ⟨by rfl, by intro w; go_simp⟩) ?_
      refine wpAny_take (i := 4) (v := .slice (some ⟨G, 0, none⟩) P P) rfl (by kernel_rfl) (by kernel_rfl) (by kernel_rfl) (fun _ _ _ h => h) (Or.inl ⟨by rfl, by intro w; go_simp⟩) ?_
      refine wpAny_take (i := 5) (v := .int .i64 (T : Int)) rfl (by kernel_rfl) (by kernel_rfl) (by kernel_rfl) (fun _ _ _ h => h) (Or.inl ⟨by rfl, by intro w; go_simp⟩) ?_
      refine wpAny_take (i := 6) (v := .slice (some ⟨G, 0, none⟩) T P) rfl (by kernel_rfl) (by kernel_rfl) (by kernel_rfl) (fun _ _ _ h => h) (Or.inl ⟨by rfl, by intro w; go_simp⟩) ?_
      refine wpAny_ready (rs := [7]) (by kernel_rfl) (by simp) ?_
      refine AllReady.cons rfl (fun K hK => ?_) AllReady.nil
      clear q1 q2
      have hrl : (rep q xs).length = T := by rw [rep_len, HX.out, HT.out]
      have hsee : Sees wr.drew (some ⟨G, 0, none⟩) T 1 (iv (rep q xs)) := by
        refine Blk.sees (pre := []) (xs := iv (rep q xs)) (post := iv (List.replicate (P - n * q) 0)) (e := 3) ?_ rfl (by rw [iv_len, hrl]; omega)
        rw [List.nil_append, ← iv_append]
        exact hblk.drew
      refine step_copy_blk2 wr.drew rfl (.tmp 41) (.tmp 44) _ rfl 3 i0 1 Try.underlying23 hi0 hz1 G T (P - T) (P - T) _ hblk.drew (by rw [iv_len, List.length_append, hrl, List.length_replicate, HT.out]; omega) (by simp [Act.eval, Act.put]) _ T P _ (by simp [Act.eval, Act.put]) hsee (fun u hu => iv_one _ u (List.mem_of_mem_take hu)) ?_
      intro w3 hb5 ho5 hs5
      rw [HMIN.out] at hb5 ⊢
      have hb6 : Blk w3 G 3 (iv (rep (q + min q (k - q)) xs ++ List.replicate (P - n * (q + min q (k - q))) 0)) := by
        have h1 := dbl_cells xs q (min q (k - q)) n P k HX.out hqk HP.out rfl
        rw [HS.out, HT.out] at h1
        rw [← h1]
        rw [HT.out] at hb5
        exact hb5
      have hb7 : Below w.heap.size w w3 := hbel.trans ((below_drewN (Below.refl _ _) 1).trans (ho5.below (by rw [HG.out]; exact Nat.le_refl _) hbel.size))
      have hmul : n * (q + min q (k - q)) = T + S := by rw [Nat.mul_add, HT.out, HS.out]
      have HMU := hide hmul
      clear hb5 ho5 hsee hrl hblk hbel hmul
      refine hK _ _ ?_
      clear hK
      have hw : IntKind.i64.wrap ((T : Int) + (S : Int)) = (T : Int) + (S : Int) := by rw [IntKind.wrap_i64]; omega
      refine wpAny_take (i := 8) (v := .int .i64 ((T : Int) + (S : Int))) rfl (by kernel_rfl) (by kernel_rfl) (by kernel_rfl) (fun _ _ _ h => h) (Or.inl ⟨by rfl, by intro w; go_simp⟩) ?_
      refine wpAny_take (i := 9) (v := .int .i64 ((T : Int) + (S : Int))) rfl (by kernel_rfl) (by kernel_rfl) (by kernel_rfl) (fun _ _ _ h => h) (Or.inl ⟨by rfl, by intro w; go_simp⟩) ?_
      refine wpAny_done (by kernel_rfl) ?_ _
      clear hw
      have hq0 := HQ.out (by omega)
      go_simp
      go_wp2_with fail
      go_roundw
      case rel => exact ⟨q + min q (k - q), by omega, fun _ => by omega, by rw [HMU.out]; rfl, hb6, hb7⟩
      case measure => simp [intOf]; omega
    · obtain rfl : T = P := by omega
      go_wp2_with fail
      go_ret
      rw [HT.out, Nat.sub_self, List.replicate_zero, List.append_nil, rep_eq xs n q k HX.out (by rw [HT.out, HP.out])] at hblk
      have hl : (iv (rep k xs)).length = T * 1 := by rw [iv_len, rep_len, HX.out, HP.out, Nat.mul_one]
      refine ⟨_, T, rfl, Row.of_blk (post := []) (by rw [List.append_nil]; exact hblk) (by rw [List.append_nil]; exact hl) hl (Nat.le_refl _) (by unfold maxLen; omega) (by rw [HG.out]; exact Nat.le_refl _) hblk.lt (Nat.le_refl _), hbel⟩

/-- a negative count -/
theorem Repeat_neg (A : Option Addr) (n c : Nat) (k : Int) (w : World) (hk : k < 0) : Calls Try.prog 40 #[.slice A n c, .int .i64 k] w (Panics w) := by
  go_enter Try.func40, Try.ntmps40
  go_wp2_with fail
  exact ⟨rfl, _, _, rfl, Below.refl _ _⟩

set_option maxRecDepth 100000 in
set_option maxHeartbeats 800000 in
theorem Repeat_over (A : Option Addr) (n c k : Nat) (w : World) (hn : n ≤ 17592186044416) (hk : (k : Int) ≤ 9223372036854775807) (hP : 9223372036854775808 ≤ n * k) : Calls Try.prog 40 #[.slice A n c, .int .i64 k] w (Panics w) := by
  obtain ⟨hi, hhi⟩ : ∃ hi, n * k / 18446744073709551616 = hi := ⟨_, rfl⟩
  obtain ⟨lo, hlo⟩ : ∃ lo, n * k % 18446744073709551616 = lo := ⟨_, rfl⟩
  have HM := hide (Mul_any n k hi lo (by omega) (by omega) hhi hlo)
  have w1 : IntKind.u64.wrap (n : Int) = (n : Int) := by rw [IntKind.wrap_u64]; omega
  have w2 : IntKind.u64.wrap (k : Int) = (k : Int) := by rw [IntKind.wrap_u64]; omega
  have hk0 : ¬ ((k : Int) < 0) := by omega
  by_cases h : 0 < hi
  · have e1 : decide ((0 : Int) < (hi : Int)) = true := by simp; omega
    clear hP hk hhi hlo
    go_enter Try.func40, Try.ntmps40
    go_wp2_with fail
    refine (HM.out _).mono ?_
    rintro e w' ⟨rfl, rfl⟩
    clear w1 w2 HM
    go_wp2_with fail
    all_goals exact ⟨rfl, _, _, rfl, Below.refl _ _⟩
  · have e1 : decide ((0 : Int) < (hi : Int)) = false := by simp; omega
    have e2 : decide ((9223372036854775807 : Int) < (lo : Int)) = true := by simp; omega
    clear hP hk hhi hlo h
    go_enter Try.func40, Try.ntmps40
    go_wp2_with fail
    refine (HM.out _).mono ?_
    rintro e w' ⟨rfl, rfl⟩
    clear w1 w2 HM
    go_wp2_with fail
    all_goals exact ⟨rfl, _, _, rfl, Below.refl _ _⟩
end Go.Proofs.Ytjmceapdokkleaa
