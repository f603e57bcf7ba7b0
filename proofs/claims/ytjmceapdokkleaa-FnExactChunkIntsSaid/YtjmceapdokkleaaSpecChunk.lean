/-
  Contracts: spec.ChunkInts.
-/
import Derived.Test.YtjmceapdokkleaaChunkW
import Derived.Test.YtjmceapdokkleaaMat
namespace Go.Proofs.Ytjmceapdokkleaa
open Go.RowKit
set_option linter.unusedVariables false

section
variable {w w' : World} {lo hi : Nat} {e : TypeId} {sz : Nat} {A : Option Addr} {n c : Nat} {xs : List Value}
/-- a row within its own block alone -/
theorem Row.snug (h : Row w lo hi e sz A n c xs) (hlo : lo ≤ w.heap.size) : ∃ l u, lo ≤ l ∧ l ≤ w.heap.size ∧ Row w l u e sz A n c xs ∧ ∀ k, l ≤ k → k < u → ∃ a, A = some a ∧ a.block = k := by
  rcases A with _ | ad
  · refine ⟨w.heap.size, w.heap.size, hlo, Nat.le_refl _, ?_, fun k h1 h2 => by omega⟩
    rcases h.1.2 with hn | ⟨g', cap, cur, hv, _⟩
    · exact ⟨⟨h.1.1, .inl hn⟩, (fun ad ha => by cases ha), Nat.le_refl _⟩
    · cases hv
  · obtain ⟨g, rfl, h1, h2⟩ := h.at0
    refine ⟨g, g + 1, h1, Nat.le_of_lt (Nat.lt_of_lt_of_le h2 h.2.2), h.tight, fun k h3 h4 => ⟨_, rfl, ?_⟩⟩
    show g = k
    omega
/-- a row outside of what was written -/
theorem Row.clear_ {l u : Nat} (h : Row w lo hi e sz A n c xs) (ho : Only l u w w') (hne : ∀ a, A = some a → ¬ (l ≤ a.block ∧ a.block < u)) : Row w' lo hi e sz A n c xs := by
  refine ⟨⟨h.1.1, ?_⟩, h.2.1, Nat.le_trans h.2.2 ho.size⟩
  rcases h.1.2 with hn | ⟨g', cap, cur, hv, hl, hg, rest⟩
  · exact .inl hn
  · refine .inr ⟨g', cap, cur, hv, hl, ?_, rest⟩
    injection hv with hA
    have h3 := (Array.getElem?_eq_some_iff.1 hg).1
    have h4 := hne _ hA
    rw [ho.block g' h3 (by simp at h4; omega)]
    exact hg
end

section
variable {w w' : World} {lo hi : Nat} {A : Option Addr} {n c : Nat} {ps : List Pt}
/-- one more part, nil yet -/
theorem Mat.push {l u : Nat} {A2 : Option Addr} {c2 : Nat} (h : Mat w lo hi A n c ps) (ho : Only l u w w') (hsn : ∀ k, l ≤ k → k < u → ∃ a, A = some a ∧ a.block = k)
    (hr : Row w' lo w'.heap.size 23 1 A2 (n + 1) c2 (qv ps ++ qv [⟨none, 0, 0, []⟩])) : Mat w' lo w'.heap.size A2 (n + 1) c2 (ps ++ [⟨none, 0, 0, []⟩]) := by
  refine ⟨?_, fun p hp => ?_, fun i j p q hp hq hij a b ha hb => ?_⟩
  · rw [show qv (ps ++ [⟨none, 0, 0, []⟩]) = qv ps ++ qv [⟨none, 0, 0, []⟩] by simp [qv]]
    exact hr
  · rcases List.mem_append.1 hp with hp | hp
    · refine ((h.own p hp).clear_ ho fun a ha hk => ?_).more (Nat.le_refl _) (Nat.le_trans h.out.2.2 ho.size) (Nat.le_refl _)
      obtain ⟨b, hb, hbk⟩ := hsn _ hk.1 hk.2
      exact h.off p hp b a hb ha hbk
    · obtain rfl := List.mem_singleton.1 hp
      exact Row.none_ _ _ _ _ _ (Nat.le_refl _)
  · have hi : i < ps.length := by
      rcases Nat.lt_or_ge i ps.length with h1 | h1
      · exact h1
      · rw [List.getElem?_append_right h1] at hp
        have := List.mem_of_getElem? hp
        obtain rfl := List.mem_singleton.1 this
        cases ha
    have hj : j < ps.length := by
      rcases Nat.lt_or_ge j ps.length with h1 | h1
      · exact h1
      · rw [List.getElem?_append_right h1] at hq
        have := List.mem_of_getElem? hq
        obtain rfl := List.mem_singleton.1 this
        cases hb
    rw [List.getElem?_append_left hi] at hp
    rw [List.getElem?_append_left hj] at hq
    exact h.apart i j p q hp hq hij a b ha hb
/-- a part that grew, its head laid back into its place -/
theorem Mat.grew {G l u t : Nat} {p p2 : Pt} (h : Mat w lo hi (some ⟨G, 0, none⟩) n c ps) (hp : ps[t]? = some p) (ho : Only l u w w') (hsn : ∀ k, l ≤ k → k < u → ∃ a, p.A = some a ∧ a.block = k)
    (hr : Row w' lo w'.heap.size 3 1 p2.A p2.n p2.c (iv p2.xs)) (h3 : ∀ ad, p2.A = some ad → p.A = some ad ∨ w.heap.size ≤ ad.block) :
    Mat (w'.setCell ⟨G, t, none⟩ (ptv p2)) lo w'.heap.size (some ⟨G, 0, none⟩) n c (ps.set t p2) ∧ Row w' lo hi 23 1 (some ⟨G, 0, none⟩) n c (qv ps) := by
  have hpm := List.mem_of_getElem? hp
  have hG : G < hi := h.out.2.1 _ rfl
  have hGw : G < w.heap.size := Nat.lt_of_lt_of_le hG h.out.2.2
  have ho2 : Only G (G + 1) w' (w'.setCell ⟨G, t, none⟩ (ptv p2)) := (Only.refl G (G + 1) w').setCell (p := ⟨G, t, none⟩) (Nat.le_refl _) (Nat.lt_succ_self _) _
  have hso : hi ≤ w'.heap.size := Nat.le_trans h.out.2.2 ho.size
  have hout : Row w' lo hi 23 1 (some ⟨G, 0, none⟩) n c (qv ps) := h.out.clear_ ho fun a ha hk => by
    obtain ⟨b, hb, hbk⟩ := hsn _ hk.1 hk.2
    exact h.off p hpm a b ha hb hbk.symm
  have hss : (w'.setCell ⟨G, t, none⟩ (ptv p2)).heap.size = w'.heap.size := by simp [World.setCell]
  have p2G : ∀ b, p2.A = some b → b.block ≠ G := fun b hb => by
    rcases h3 b hb with h4 | h4
    · exact fun e => h.off p hpm ⟨G, 0, none⟩ b rfl h4 e.symm
    · omega
  have p2q : ∀ i q, ps[i]? = some q → i ≠ t → ∀ a b, q.A = some a → p2.A = some b → a.block ≠ b.block := fun i q hq hit a b ha hb => by
    rcases h3 b hb with h4 | h4
    · exact h.apart i t q p hq hp hit a b ha h4
    · have := (h.own q (List.mem_of_getElem? hq)).2.1 a ha
      have := h.out.2.2
      omega
  refine ⟨⟨?_, fun q hq => ?_, fun i j q r hq hr2 hij a b ha hb => ?_⟩, hout⟩
  · have h1 := (hout.more (Nat.le_refl _) hso (Nat.le_refl _)).stored rfl t (ptv p2)
    rw [qv_set] at h1
    exact h1
  · obtain ⟨i, hi2⟩ := List.mem_iff_getElem?.1 hq
    rw [List.getElem?_set] at hi2
    split at hi2
    · split at hi2
      · obtain rfl := Option.some.inj hi2
        exact hr.away ho2 p2G
      · cases hi2
    · rename_i hit
      have h1 : Row w' lo w'.heap.size 3 1 q.A q.n q.c (iv q.xs) := ((h.own q (List.mem_of_getElem? hi2)).clear_ ho fun a ha hk => by
        obtain ⟨b, hb, hbk⟩ := hsn _ hk.1 hk.2
        exact h.apart i t q p hi2 hp (Ne.symm hit) a b ha hb hbk.symm).more (Nat.le_refl _) hso (Nat.le_refl _)
      exact h1.away ho2 fun a ha => Ne.symm (h.off q (List.mem_of_getElem? hi2) ⟨G, 0, none⟩ a rfl ha)
  · rw [List.getElem?_set] at hq hr2
    by_cases h1 : t = i
    · subst h1
      rw [if_pos rfl] at hq
      rw [if_neg hij] at hr2
      split at hq
      · obtain rfl := Option.some.inj hq
        exact fun e => p2q j r hr2 (Ne.symm hij) b a hb ha e.symm
      · cases hq
    · rw [if_neg h1] at hq
      by_cases h2 : t = j
      · subst h2
        rw [if_pos rfl] at hr2
        split at hr2
        · obtain rfl := Option.some.inj hr2
          exact p2q i q hq hij a b ha hb
        · cases hr2
      · rw [if_neg h2] at hr2
        exact h.apart i j q r hq hr2 hij a b ha hb
end

/-- the state at a round's head -/
def Cut (m j k : Nat) (xs : List Int) (qs : List Pt) : Prop := qs.map Pt.xs = chk m (xs.take j) k ∧ j ≤ k * m ∧ ∀ t, t < k → t * m < j
/-- .. and once there is a part for the number -/
def Open (m j t : Nat) (xs : List Int) (qs : List Pt) : Prop := qs.map Pt.xs = chk m (xs.take j) (t + 1) ∧ t * m ≤ j ∧ j < (t + 1) * m
theorem Cut.push {m j k : Nat} {xs : List Int} {qs : List Pt} (h : Cut m j k xs qs) (hm : 1 ≤ m) (h0 : j % m = 0) : Open m j k xs (qs ++ [⟨none, 0, 0, []⟩]) := by
  have e : k * m = j := by
    obtain ⟨q, hq⟩ : ∃ q, j = m * q := ⟨j / m, by have := Nat.div_add_mod j m; omega⟩
    have h2 : k ≤ q := by
      rcases Nat.eq_zero_or_pos k with h3 | h3
      · omega
      · have h4 := h.2.2 (k - 1) (by omega)
        rw [hq, Nat.mul_comm m q] at h4
        have := Nat.lt_of_mul_lt_mul_right h4
        omega
    have h5 : q ≤ k := by
      have h6 := h.2.1
      rw [hq, Nat.mul_comm m q] at h6
      exact Nat.le_of_mul_le_mul_right h6 (by omega)
    rw [hq, Nat.le_antisymm h2 h5, Nat.mul_comm]
  refine ⟨?_, Nat.le_of_eq e, by rw [Nat.add_mul, e]; omega⟩
  rw [List.map_append, h.1, chk_step, e, List.drop_of_length_le (by rw [List.length_take]; omega)]
  simp
theorem Cut.last {m j t : Nat} {xs : List Int} {qs : List Pt} (h : Cut m j (t + 1) xs qs) (hm : 1 ≤ m) (h0 : j % m ≠ 0) : Open m j t xs qs := by
  refine ⟨h.1, Nat.le_of_lt (h.2.2 t (Nat.lt_succ_self _)), ?_⟩
  rcases Nat.lt_or_ge j ((t + 1) * m) with h1 | h1
  · exact h1
  · have : j = (t + 1) * m := Nat.le_antisymm h.2.1 h1
    rw [this, Nat.mul_mod_left] at h0
    omega
theorem Cut.pos {m j k : Nat} {xs : List Int} {qs : List Pt} (h : Cut m j k xs qs) (h0 : j % m ≠ 0) : ∃ t, k = t + 1 := by
  rcases k with _ | t
  · have := h.2.1
    rw [Nat.zero_mul] at this
    obtain rfl : j = 0 := by omega
    rw [Nat.zero_mod] at h0
    omega
  · exact ⟨t, rfl⟩
theorem Cut.le {m j k : Nat} {xs : List Int} {qs : List Pt} (h : Cut m j k xs qs) (hm : 1 ≤ m) : k ≤ j := by
  rcases Nat.eq_zero_or_pos k with h1 | h1
  · omega
  · have h2 := h.2.2 (k - 1) (by omega)
    have h3 : (k - 1) * 1 ≤ (k - 1) * m := Nat.mul_le_mul_left _ hm
    omega
theorem Open.at {m j t : Nat} {xs : List Int} {qs : List Pt} (h : Open m j t xs qs) : ∃ p, qs[t]? = some p ∧ p.xs = ((xs.take j).drop (t * m)).take m := by
  have h1 : (qs.map Pt.xs)[t]? = some (((xs.take j).drop (t * m)).take m) := by rw [h.1, chk_get _ _ _ _ (Nat.lt_succ_self _)]
  rw [List.getElem?_map] at h1
  obtain ⟨p, hp, hq⟩ := Option.map_eq_some_iff.1 h1
  exact ⟨p, hp, hq⟩
theorem Open.next {m j t : Nat} {xs : List Int} {qs : List Pt} {x : Int} {A2 : Option Addr} {n2 c2 : Nat} {p : Pt} (h : Open m j t xs qs) (hx : xs[j]? = some x) (hp : qs[t]? = some p) : Cut m (j + 1) (t + 1) xs (qs.set t ⟨A2, n2, c2, p.xs ++ [x]⟩) := by
  obtain ⟨p', hp', hpx⟩ := h.at
  rw [hp] at hp'
  obtain rfl := Option.some.inj hp'
  have hjl := (List.getElem?_eq_some_iff.1 hx).1
  have h12 : t * m + m = (t + 1) * m := by rw [Nat.add_mul, Nat.one_mul]
  have hlt := h.2.2
  refine ⟨?_, h.2.2, fun i hi => ?_⟩
  · rw [List.map_set, h.1]
    refine List.ext_getElem? fun i => ?_
    rw [List.getElem?_set]
    by_cases h1 : t = i
    · subst h1
      rw [if_pos rfl, if_pos (by rw [chk_len]; omega), chk_get _ _ _ _ (Nat.lt_succ_self _), hpx, List.take_add_one, hx]
      rw [List.drop_append_of_le_length (by rw [List.length_take]; have := h.2.1; omega)]
      have h5 : ((xs.take j).drop (t * m)).length + 1 ≤ m := by rw [List.length_drop, List.length_take]; have := h.2.1; omega
      generalize (xs.take j).drop (t * m) = ys at h5
      rw [List.take_of_length_le (l := ys) (by omega), List.take_of_length_le (l := ys ++ _) (by rw [List.length_append]; simpa using h5)]
      rfl
    · rw [if_neg h1]
      rcases Nat.lt_or_ge i t with h2 | h2
      · rw [chk_get _ _ _ _ (by omega), chk_get _ _ _ _ (by omega)]
        congr 1
        have h3 : (i + 1) * m ≤ t * m := Nat.mul_le_mul_right m h2
        rw [Nat.add_mul, Nat.one_mul] at h3
        have h4 := h.2.1
        refine List.ext_getElem? fun r => ?_
        simp only [List.getElem?_take, List.getElem?_drop]
        split
        · rw [if_pos (by omega), if_pos (by omega)]
        · rfl
      · rw [List.getElem?_eq_none (by rw [chk_len]; omega), List.getElem?_eq_none (by rw [chk_len]; omega)]
  · have h3 : i * m ≤ t * m := Nat.mul_le_mul_right m (by omega)
    have := h.2.1
    omega

theorem specChunk_bad (A : Option Addr) (n c : Nat) (m : Int) (w : World) (hm : m < 1) :
    Calls Try.prog 21 #[.slice A n c, .int .i64 m] w fun e w' => e = .returned (.tuple #[.slice none 0 0, .bool false]) ∧ w = w' := by
  go_enter Try.func21, Try.ntmps21
  go_wp2_with fail
  go_ret2
  exact ⟨rfl, rfl⟩

set_option maxRecDepth 100000 in
set_option maxHeartbeats 2000000 in
theorem specChunk_ok (A : Option Addr) (n c m : Nat) (xs : List Int) (w : World) (hs : Sees w A n 1 (iv xs)) (hn : n ≤ 1048576) (hm : 1 ≤ m) (hmb : (m : Int) ≤ 9223372036854775807) :
    Calls Try.prog 21 #[.slice A n c, .int .i64 m] w fun e w' =>
      ∃ (A' : Option Addr) (c' k : Nat) (qs : List Pt), e = .returned (.tuple #[.slice A' k c', .bool true]) ∧ Mat w' w.heap.size w'.heap.size A' k c' qs ∧ (qs.map Pt.xs = chk m xs k ∧ n ≤ k * m ∧ ∀ j, j < k → j * m < n) ∧ Below w.heap.size w w' := by
  obtain ⟨i0, hi0, hz0, hz1, hz2⟩ := info_parts intInfo
  obtain ⟨i1, hi1, hy0, hy1, hy2⟩ := info_parts infoInts
  have HL := hide hs.ilen
  have HS : Hid (∀ W, Below w.heap.size w W → Sees W A n 1 (iv xs)) := fun W h => hs.below h
  clear hs
  have l1 : ¬ ((m : Int) < 1) := by omega
  go_enter Try.func21, Try.ntmps21
  go_wp2_with fail
  go_loopw [6, 13] (fun v i wr => ∃ (j k : Nat) (B : Option Addr) (d : Nat) (qs : List Pt), j ≤ n ∧ i = .int .i64 j ∧ v = .slice B k d ∧ Mat wr w.heap.size wr.heap.size B k d qs ∧ Hid (Cut m j k xs qs) ∧ Below w.heap.size w wr) (fun _ i _ => n - (intOf i).toNat)
  case atStart => exact ⟨0, 0, none, 0, [], Nat.zero_le _, rfl, rfl, ⟨Row.none_ _ _ _ _ _ (Nat.le_refl _), (fun p hp => by cases hp), (fun i j p q hp => by cases hp)⟩, ⟨rfl, Nat.zero_le _, fun t ht => by omega⟩, Below.refl _ _⟩
  case round =>
    obtain ⟨j, t, B0, d0, qs0, hj, rfl, rfl, hM0, HQ, hb0⟩ := hrel
    have hkj := HQ.out.le hm
    have hbs := hb0.size
    by_cases hlt : j < n
    · obtain ⟨ad, x, rfl, _, HXm, hcx⟩ := (HS.out wr hb0).int hlt
      by_cases h0 : j % m = 0
      · have e0 : (((j : Int) % (m : Int)) == 0) = true := by
          rw [← Int.natCast_emod, h0]; rfl
        have e1 : (((j : Int).tmod (m : Int)) == 0) = true := by
          rw [Int.tmod_eq_emod_of_nonneg (by omega), ← Int.natCast_emod, h0]; rfl
        obtain ⟨l0, u0, hk1, hk2, hsr0, hsn0⟩ := hM0.out.snug hbs
        go_wp2_with (at_builtin; refine halt_here ?_)
        have z0 : Sees (wr.alloc (.cells #[.slice none 0 0] 23)) (some ⟨wr.heap.size, 0, none⟩) 1 1 (qv [⟨none, 0, 0, []⟩]) := (Blk.new wr 23 #[.slice none 0 0]).sees (off := 0) (n := 1) (sz := 1) (pre := []) (xs := qv [⟨none, 0, 0, []⟩]) (post := []) rfl rfl
        refine ⟨wpList_append_sees (wr.alloc (.cells #[.slice none 0 0] 23)) rfl _ _ _ rfl l0 u0 23 i1 _ 1 24 Try.underlying22 hi1 hy0 hy1 hy2 rfl (by omega) B0 t d0 _ rfl (hsr0.alloc _) _ 1 1 _ rfl z0 (qv_one _) (by unfold maxLen; omega) (by omega) (by simp; omega) ?_⟩
        intro B d W r1 o1 _
        have hM1 : Mat (wr.alloc (.cells #[.slice none 0 0] 23)) w.heap.size wr.heap.size B0 t d0 qs0 := hM0.next ((Below.refl wr.heap.size wr).alloc (Nat.le_refl _) _)
        have hM := hM1.push o1 hsn0 (r1.more hk1 (Nat.le_refl _) (Nat.le_refl _))
        have hb : Below w.heap.size w W := (hb0.alloc hb0.size _).trans (o1.below hk1 (by simp; omega))
        have HO := hide (HQ.out.push hm h0)
        clear hM1 z0 r1 o1 hsn0 hsr0 hk1 hk2 HQ hbs e0 e1 h0 hM0 hb0 hcx
        generalize qs0 ++ [⟨none, 0, 0, []⟩] = qs at hM HO
        obtain ⟨p, hp, hpx⟩ := HO.out.at
        have hpm := List.mem_of_getElem? hp
        have hpn : p.n ≤ j := by
          have h1 := (hM.all p hpm).1.ilen
          rw [← h1, hpx, List.length_take, List.length_drop, List.length_take]
          omega
        obtain ⟨G, rfl⟩ : ∃ G, B = some ⟨G, 0, none⟩ := by
          rcases B with _ | a
          · have := hM.out.none0.1
            omega
          · obtain ⟨g, rfl, _⟩ := hM.out.at0
            exact ⟨g, rfl⟩
        have hGs : w.heap.size ≤ G ∧ G < W.heap.size := by
          obtain ⟨g, hg, h1, h2⟩ := hM.out.at0
          injection hg with hg
          subst hg
          exact ⟨h1, h2⟩
        have c1 : W.cell? ⟨G, t, none⟩ = some (.slice p.A p.n p.c) := by
          have h1 := hM.out.1.cellAt t (by omega)
          rw [h1, qv_get, hp]
          rfl
        have hWs := hb.size
        have M1 : Mat (W.alloc (.cells #[.int .i64 x] 3)) w.heap.size W.heap.size (some ⟨G, 0, none⟩) (t + 1) d qs := hM.next ((Below.refl W.heap.size W).alloc (Nat.le_refl _) _)
        obtain ⟨l, u, hl1, hl2, hsr, hsn⟩ := (M1.own p hpm).snug (by simp; omega)
        have z1 : Sees (W.alloc (.cells #[.int .i64 x] 3)) (some ⟨W.heap.size, 0, none⟩) 1 1 (iv [x]) := (Blk.new W 3 #[.int .i64 x]).sees (off := 0) (n := 1) (sz := 1) (pre := []) (xs := iv [x]) (post := []) rfl rfl
        have hb1 : Below w.heap.size w (W.alloc (.cells #[.int .i64 x] 3)) := hb.alloc hb.size _
        have MM := hide M1
        have HP := hide hp
        have HPX := hide hpx
        clear hM hp hpx M1 hpm
        go_wp2_with (at_builtin; refine halt_here ?_)
        refine ⟨wpList_append_sees (W.alloc (.cells #[.int .i64 x] 3)) rfl _ _ _ rfl l u 3 i0 _ 1 8 Try.underlying23 hi0 hz0 hz1 hz2 rfl (by omega) p.A p.n p.c _ rfl hsr _ 1 1 _ rfl z1 (iv_one _) (by unfold maxLen; omega) (by omega) hl2 ?_⟩
        intro A2 c2 w2 r2 o2 h3
        rw [← iv_append] at r2
        obtain ⟨m2, ro2⟩ := MM.out.grew (p2 := ⟨A2, p.n + 1, c2, p.xs ++ [x]⟩) HP.out o2 hsn (r2.more hl1 (Nat.le_refl _) (Nat.le_refl _)) h3
        have hb2 : Below w.heap.size w w2 := hb1.trans (o2.below hl1 (by simp; omega))
        obtain ⟨v0, cu⟩ : ∃ v0, w2.cell? ⟨G, t, none⟩ = some v0 := by
          have h1 := ro2.1.cellAt t (by omega)
          have h2 := ro2.len
          rw [List.getElem?_eq_getElem (by omega)] at h1
          exact ⟨_, h1⟩
        have fu := ro2.1.frozenAt t
        have M2 := hide m2
        have R2 := hide r2
        have HB2 := hide hb2
        clear m2 r2 hb2 hb1 o2 h3 hsn hsr z1 ro2
        go_wp2_with fail
        go_roundw
        case rel =>
          have hs2 : (w2.setCell ⟨G, t, none⟩ (.slice A2 (p.n + 1) c2)).heap.size = w2.heap.size := by simp [World.setCell]
          refine ⟨j + 1, t + 1, _, d, _, by omega, by go_num, rfl, ?_, HO.out.next (A2 := A2) (n2 := p.n + 1) (c2 := c2) HXm.out HP.out, HB2.out.setCell (p := ⟨G, t, none⟩) hGs.1 _⟩
          rw [hs2]
          exact M2.out
        case measure => simp [intOf]; omega
      · obtain ⟨t', rfl⟩ := HQ.out.pos h0
        have e0 : (((j : Int) % (m : Int)) == 0) = false := by
          rw [← Int.natCast_emod]; simp; omega
        have e1 : (((j : Int).tmod (m : Int)) == 0) = false := by
          rw [Int.tmod_eq_emod_of_nonneg (by omega), ← Int.natCast_emod]; simp; omega
        have HO := hide (HQ.out.last hm h0)
        clear HQ h0
        obtain ⟨p, hp, hpx⟩ := HO.out.at
        have hpm := List.mem_of_getElem? hp
        have hpn : p.n ≤ j := by
          have h1 := (hM0.all p hpm).1.ilen
          rw [← h1, hpx, List.length_take, List.length_drop, List.length_take]
          omega
        obtain ⟨G, rfl⟩ : ∃ G, B0 = some ⟨G, 0, none⟩ := by
          rcases B0 with _ | a
          · have := hM0.out.none0.1
            omega
          · obtain ⟨g, rfl, _⟩ := hM0.out.at0
            exact ⟨g, rfl⟩
        have hGs : w.heap.size ≤ G ∧ G < wr.heap.size := by
          obtain ⟨g, hg, h1, h2⟩ := hM0.out.at0
          injection hg with hg
          subst hg
          exact ⟨h1, h2⟩
        have c1 : wr.cell? ⟨G, t', none⟩ = some (.slice p.A p.n p.c) := by
          have h1 := hM0.out.1.cellAt t' (by omega)
          rw [h1, qv_get, hp]
          rfl
        have hWs := hb0.size
        have M1 : Mat (wr.alloc (.cells #[.int .i64 x] 3)) w.heap.size wr.heap.size (some ⟨G, 0, none⟩) (t' + 1) d0 qs0 := hM0.next ((Below.refl wr.heap.size wr).alloc (Nat.le_refl _) _)
        obtain ⟨l, u, hl1, hl2, hsr, hsn⟩ := (M1.own p hpm).snug (by simp; omega)
        have z1 : Sees (wr.alloc (.cells #[.int .i64 x] 3)) (some ⟨wr.heap.size, 0, none⟩) 1 1 (iv [x]) := (Blk.new wr 3 #[.int .i64 x]).sees (off := 0) (n := 1) (sz := 1) (pre := []) (xs := iv [x]) (post := []) rfl rfl
        have hb1 : Below w.heap.size w (wr.alloc (.cells #[.int .i64 x] 3)) := hb0.alloc hb0.size _
        have MM := hide M1
        have HP := hide hp
        have HPX := hide hpx
        clear hM0 hp hpx M1 hpm
        go_wp2_with (at_builtin; refine halt_here ?_)
        refine ⟨wpList_append_sees (wr.alloc (.cells #[.int .i64 x] 3)) rfl _ _ _ rfl l u 3 i0 _ 1 8 Try.underlying23 hi0 hz0 hz1 hz2 rfl (by omega) p.A p.n p.c _ rfl hsr _ 1 1 _ rfl z1 (iv_one _) (by unfold maxLen; omega) (by omega) hl2 ?_⟩
        intro A2 c2 w2 r2 o2 h3
        rw [← iv_append] at r2
        obtain ⟨m2, ro2⟩ := MM.out.grew (p2 := ⟨A2, p.n + 1, c2, p.xs ++ [x]⟩) HP.out o2 hsn (r2.more hl1 (Nat.le_refl _) (Nat.le_refl _)) h3
        have hb2 : Below w.heap.size w w2 := hb1.trans (o2.below hl1 (by simp; omega))
        obtain ⟨v0, cu⟩ : ∃ v0, w2.cell? ⟨G, t', none⟩ = some v0 := by
          have h1 := ro2.1.cellAt t' (by omega)
          have h2 := ro2.len
          rw [List.getElem?_eq_getElem (by omega)] at h1
          exact ⟨_, h1⟩
        have fu := ro2.1.frozenAt t'
        have M2 := hide m2
        have R2 := hide r2
        have HB2 := hide hb2
        clear m2 r2 hb2 hb1 o2 h3 hsn hsr z1 ro2
        go_wp2_with fail
        go_roundw
        case rel =>
          have hs2 : (w2.setCell ⟨G, t', none⟩ (.slice A2 (p.n + 1) c2)).heap.size = w2.heap.size := by simp [World.setCell]
          refine ⟨j + 1, t' + 1, _, d0, _, by omega, by go_num, rfl, ?_, HO.out.next (A2 := A2) (n2 := p.n + 1) (c2 := c2) HXm.out HP.out, HB2.out.setCell (p := ⟨G, t', none⟩) hGs.1 _⟩
          rw [hs2]
          exact M2.out
        case measure => simp [intOf]; omega
    · obtain rfl : j = n := by omega
      go_wp2_with fail
      go_ret2
      have h1 := HQ.out
      rw [Cut, List.take_of_length_le (by rw [HL.out]; exact Nat.le_refl _)] at h1
      exact ⟨B0, d0, t, qs0, rfl, hM0, h1, hb0⟩
end Go.Proofs.Ytjmceapdokkleaa
