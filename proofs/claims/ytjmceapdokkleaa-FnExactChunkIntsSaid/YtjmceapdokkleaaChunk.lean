/-
  Contracts: impl.ChunkInts over slices.Chunk.
-/
import Derived.Test.YtjmceapdokkleaaChunkIt
import Derived.Test.YtjmceapdokkleaaSmall
import Derived.RecoverIn
namespace Go.Proofs.Ytjmceapdokkleaa
open Go.RowKit Go.Shelf
set_option linter.unusedVariables false
attribute [local go_sem] Oper.semAt_some

theorem Chunk_ok (A : Option Addr) (n c m : Nat) (w : World) (hm : 1 ≤ m) :
    Calls Try.prog 37 #[.slice A n c, .int .i64 m] w fun e w' =>
      e = .returned (.func (.func 45) #[] #[.pointer (some ⟨w.heap.size, 0, none⟩), .pointer (some ⟨w.heap.size + 1, 0, none⟩)]) ∧ w' = (w.alloc (.cells #[.slice A n c] 23)).alloc (.cells #[.int .i64 m] 3) := by
  have hmf : ∀ (fn : Fn) (first cap : Array Value) (w : World), (Instr.makeFunc fn first cap).run Try.prog w = .ok (.func fn first cap) w := fun _ _ _ _ => rfl
  have l1 : ¬ ((m : Int) < 1) := by omega
  go_enter Try.func37, Try.ntmps37
  go_wp2_with fail
  go_ret
  exact ⟨rfl, rfl⟩
theorem Chunk_panics (A : Option Addr) (n c : Nat) (m : Int) (w : World) (hm : m < 1) :
    Calls Try.prog 37 #[.slice A n c, .int .i64 m] w (Panics w) := by
  go_enter Try.func37, Try.ntmps37
  go_wp2_with fail
  exact ⟨rfl, _, _, rfl, ((Below.refl _ _).alloc (Nat.le_refl _) _).alloc (by simp) _⟩

theorem run_append_grown {P : Program} (w : World) (lo hi : Nat) (t ty e : TypeId) (i : TypeInfo) (z : Value) (sz bytes : Nat) (ht : P.underlying t = some (.slice e)) (hi0 : P.info? e = some i) (hz : i.zero = some z)
    (hsize : i.size = sz) (hby : i.bytes = bytes) (hzs : z.cells.size = sz) (hsz : 0 < sz)
    (A : Option Addr) (n c : Nat) (xs : List Value) (hr : Row w lo hi e sz A n c xs) (bd : Addr) (m d : Nat) (ys : List Value) (hs : Sees w (some bd) m sz ys) (h1 : ∀ u ∈ ys, u.oneCell' = true)
    (h63 : n + m ≤ maxLen) (hbytes : (n + m) * bytes ≤ 140737488355328) (hlo : lo ≤ w.heap.size) :
    ∃ A' c' w', (Builtin.append_ #[t, t] ty #[.slice A n c, .slice (some bd) m d]).run P w = .ok (.slice A' (n + m) c') w' ∧ Row w' lo w'.heap.size e sz A' (n + m) c' (xs ++ ys) ∧ w.grownBy w' (Value.slice A n c).ownBlock := by
  obtain ⟨v', w', hrun, h2, h3, _, h5⟩ := run_append_own_at (P := P) w lo t ty e i z sz bytes ht hi0 hz hsize hby hzs hsz (.slice A n c) n xs hr.1 bd m d ys hs.len
    (fun j u hu => by
      obtain ⟨ad, h, _, hc⟩ := hs.2 j u hu
      injection h with h
      subst h
      exact hc) h1 h63 hbytes hlo
  obtain ⟨A', c', rfl, hrow⟩ := Row.of_own h2 (fun k hk => (h2.lt k hk).2) (Nat.le_refl _)
  exact ⟨A', c', w', hrun, hrow, h3⟩

theorem stepIn_append {F : Fence} {N : Nat} {P : Program} (w : World) {ops : Array Oper} {o : Oper} {a : Act} {K : Act → World → Prop} {Q : Exit → Act → World → Prop} {E : Prop} (hgd : o.guard = none) (s x : Operand) (t : TypeId)
    (ho : o.op = .call { callee := .builtin .append, args := #[s, x], argTypes := #[t, t] })
    (lo hi : Nat) (e : TypeId) (i : TypeInfo) (z : Value) (sz bytes : Nat) (ht : P.underlying t = some (.slice e)) (hi0 : P.info? e = some i) (hz : i.zero = some z)
    (hsize : i.size = sz) (hby : i.bytes = bytes) (hzs : z.cells.size = sz) (hsz : 0 < sz)
    (A : Option Addr) (n c : Nat) (xs : List Value) (hA : a.eval s = .slice A n c) (hr : Row w lo hi e sz A n c xs)
    (bd : Addr) (m d : Nat) (ys : List Value) (hB : a.eval x = .slice (some bd) m d) (hs : Sees w (some bd) m sz ys) (h1 : ∀ u ∈ ys, u.oneCell' = true)
    (h63 : n + m ≤ maxLen) (hbytes : (n + m) * bytes ≤ 140737488355328) (hlo : lo ≤ w.heap.size)
    (h : ∀ A' c' w', Row w' lo w'.heap.size e sz A' (n + m) c' (xs ++ ys) → w.grownBy w' (Value.slice A n c).ownBlock → K (a.put o.dst (.slice A' (n + m) c')) w') :
    if Region.wanted o (yielded ops a.tmps) = true then Oper.wpIn F N P o a w K Q else E := by
  have hw : Region.wanted o (yielded ops a.tmps) = true := by simp [Region.wanted, hgd]
  rw [if_pos hw]
  obtain ⟨A', c', w', hr', h2, h3⟩ := run_append_grown (P := P) w lo hi t o.type e i z sz bytes ht hi0 hz hsize hby hzs hsz A n c xs hr bd m d ys hs h1 h63 hbytes hlo
  unfold Oper.wpIn
  refine ⟨?_, ?_⟩
  · simp [Oper.about, ho, resolve, Target.leads, Sem.run_pure]
  · rw [Oper.semAt_plain F _ _ (by rw [ho]; intro c hc'; cases hc')]
    simp [execOp, ho, resolve, invoke, builtin, hA, hB, hr', Result.andThen]
    exact h A' c' w' h2 h3

/-- a row whose block is not the one that turns -/
theorem Row.grown {w w' : World} {lo hi : Nat} {e : TypeId} {sz : Nat} {A : Option Addr} {n c : Nat} {xs : List Value} {row : Option Nat} (h : Row w lo hi e sz A n c xs) (hg : w.grownBy w' row) (hne : ∀ a, A = some a → some a.block ≠ row) : Row w' lo hi e sz A n c xs := by
  refine ⟨⟨h.1.1, ?_⟩, h.2.1, Nat.le_trans h.2.2 hg.size⟩
  rcases h.1.2 with hn | ⟨g', cap, cur, hv, hl, hb, rest⟩
  · exact .inl hn
  · refine .inr ⟨g', cap, cur, hv, hl, ?_, rest⟩
    injection hv with hA
    rw [hg.block g' (Array.getElem?_eq_some_iff.1 hb).1 (hne _ hA)]
    exact hb
/-- .. which is no cells -/
theorem Row.turn {w w' : World} {lo hi : Nat} {e : TypeId} {sz : Nat} {A : Option Addr} {n c : Nat} {xs : List Value} {row : Option Nat} (h : Row w lo hi e sz A n c xs) (hg : w.grownBy w' row) (hr : ∀ r, row = some r → ∃ o : Obj, w.heap[r]? = some o ∧ o.isCells = false) : Row w' lo hi e sz A n c xs := by
  refine h.grown hg fun a ha he => ?_
  subst ha
  obtain ⟨g, rfl, _⟩ := h.at0
  obtain ⟨cs, hc⟩ := h.obj
  obtain ⟨o, ho, hoc⟩ := hr g he.symm
  rw [hc] at ho
  injection ho with ho
  subst ho
  cases hoc
theorem Mat.turn {w w' : World} {lo hi : Nat} {A : Option Addr} {n c : Nat} {ps : List Pt} {row : Option Nat} (h : Mat w lo hi A n c ps) (hg : w.grownBy w' row) (hr : ∀ r, row = some r → ∃ o : Obj, w.heap[r]? = some o ∧ o.isCells = false) : Mat w' lo hi A n c ps :=
  ⟨h.out.turn hg hr, fun p hp => (h.own p hp).turn hg hr, h.apart⟩

/-- a chunk that may come -/
abbrev Ck (w : World) : Type := { p : Pt // Sees w p.A p.n 1 (iv p.xs) ∧ p.n ≤ 17592186044416 }
def Ck.enc {w : World} (x : Ck w) : Array Value := #[.slice x.1.A x.1.n x.1.c]

theorem chunk_stops (w : World) (k : Nat) (hk : 1 ≤ k) (Bs Bn n₀ Y : Nat) (A : Option Addr) (len cap m : Nat) (hm : 1 ≤ m) (hmb : (m : Int) ≤ 9223372036854775807) (hlen : len ≤ 17592186044416) (hcap : len ≤ cap)
    (hs1 : Bs < n₀) (hs2 : Bs ≠ Y) (hn1 : Bn < n₀) (hn2 : Bn ≠ Y) (part : Nat → Ck w) (henc : ∀ j, (part j).enc = #[ckv A len m j]) (W0 : World) (hn0 : n₀ ≤ W0.heap.size) (hBs : W0.cell? ⟨Bs, 0, none⟩ = some (.slice A len cap)) (hBn : W0.cell? ⟨Bn, 0, none⟩ = some (.int .i64 m)) :
    SeqStopsK Fence.wide k Try.prog 45 #[.pointer (some ⟨Bs, 0, none⟩), .pointer (some ⟨Bn, 0, none⟩)] Ck.enc (Kq n₀ Y) (fun ys => ∃ k, ys = (List.range k).map part ∧ len ≤ k * m ∧ ∀ j, j < k → j * m < len) (fun _ => True) len W0 :=
  fun l J Jx W hW hJ hJx hY h0 =>
    chunk1_in k hk l Bs Bn n₀ Y A len cap m hm hmb hlen hcap hs1 hs2 hn1 hn2 part Ck.enc henc J Jx
      (fun pre W' h => hJ pre W' W'.drew none h ⟨rfl, rfl, rfl, Nat.le_refl _, fun _ _ _ => rfl⟩ (fun r hr => by cases hr)) hY W
      ((hW.cell (p := ⟨Bs, 0, none⟩) (by show Bs < _; omega)).trans hBs) ((hW.cell (p := ⟨Bn, 0, none⟩) (by show Bn < _; omega)).trans hBn) h0

/-- the chunks of a list, k of them -/
def chk (m : Nat) (xs : List Int) (k : Nat) : List (List Int) := (List.range k).map fun j => (xs.drop (j * m)).take m
theorem sees_cut3 {w : World} {A : Option Addr} {n : Nat} {xs : List Int} (h : Sees w A n 1 (iv xs)) {k e : Nat} (hke : k + e ≤ n) : Sees w (cutA A (k + e) k 1) e 1 (iv ((xs.drop k).take e)) := by
  rcases Nat.eq_zero_or_pos e with h0 | h0
  · subst h0
    rw [List.take_zero]
    exact Sees.nil_
  · have h1 := h.cutA (k := k) (m := e) (c := n + k + 1) hke (by omega)
    rw [Nat.mul_one, Nat.mul_one, ← iv_drop, ← iv_take] at h1
    have e1 : cutA A (k + e) k 1 = cutA A (n + k + 1) k 1 := by rw [cutA, cutA, if_neg (by omega), if_neg (by omega)]
    rw [e1]
    exact h1
theorem part_ok {w : World} {A : Option Addr} {n : Nat} {xs : List Int} (h : Sees w A n 1 (iv xs)) (hn : n ≤ 17592186044416) (m j : Nat) :
    Sees w (cutA A (j * m + min m (n - j * m)) (j * m) 1) (min m (n - j * m)) 1 (iv ((xs.drop (j * m)).take (min m (n - j * m)))) ∧ min m (n - j * m) ≤ 17592186044416 := by
  refine ⟨?_, by omega⟩
  rcases Nat.lt_or_ge n (j * m) with h1 | h1
  · have e : min m (n - j * m) = 0 := by omega
    rw [e, List.take_zero]
    exact Sees.nil_
  · exact sees_cut3 h (by omega)
def ckPart (w : World) (A : Option Addr) (n : Nat) (xs : List Int) (m : Nat) (h : Sees w A n 1 (iv xs)) (hn : n ≤ 17592186044416) (j : Nat) : Ck w :=
  ⟨⟨cutA A (j * m + min m (n - j * m)) (j * m) 1, min m (n - j * m), min m (n - j * m), (xs.drop (j * m)).take (min m (n - j * m))⟩, part_ok h hn m j⟩
theorem take_min (xs : List Int) (i m n : Nat) (hn : xs.length = n) : (xs.drop i).take (min m (n - i)) = (xs.drop i).take m := by
  rcases Nat.le_total m (n - i) with h | h
  · rw [Nat.min_eq_left h]
  · rw [Nat.min_eq_right h, List.take_of_length_le (by rw [List.length_drop]; omega), List.take_of_length_le (by rw [List.length_drop]; omega)]

theorem Blk.turn {w w' : World} {g : Nat} {e : TypeId} {cs : List Value} {row : Option Nat} (h : Blk w g e cs) (hg : w.grownBy w' row) (hr : ∀ r, row = some r → ∃ o : Obj, w.heap[r]? = some o ∧ o.isCells = false) : Blk w' g e cs := by
  refine (hg.block g h.lt fun he => ?_).trans h
  obtain ⟨o, ho, hoc⟩ := hr g he.symm
  have h2 : w.heap[g]? = some (.cells cs.toArray e (0, 0)) := h
  rw [h2] at ho
  injection ho with ho
  subst ho
  cases hoc
/-- what a round of the loop finds -/
def Cki (w : World) (pre : List (Ck w)) (W : World) : Prop :=
  ∃ (B : Option Addr) (d : Nat) (qs : List Pt), Blk W w.heap.size 22 [.slice B pre.length d] ∧ Blk W (w.heap.size + 1) 4 [.bool false] ∧ Mat W (w.heap.size + 4) W.heap.size B pre.length d qs ∧ qs.map Pt.xs = pre.map (fun x => x.1.xs) ∧ Below w.heap.size w W ∧ w.heap.size + 4 ≤ W.heap.size
theorem Cki.own (w : World) : OwnFrom (w.heap.size + 4) (Cki w) := by
  rintro pre W W' row ⟨B, d, qs, h1, h2, h3, h4, h5, h6⟩ hg hr
  have hr2 : ∀ r, row = some r → ∃ o : Obj, W.heap[r]? = some o ∧ o.isCells = false := fun r h => (hr r h).2
  refine ⟨B, d, qs, h1.turn hg hr2, h2.turn hg hr2, (h3.turn hg hr2).more (Nat.le_refl _) hg.size (Nat.le_refl _), h4, ?_, Nat.le_trans h6 hg.size⟩
  exact h5.grown hg h5.size (fun k hk => by have := (hr k hk).1; omega)
theorem Kq.put {n₀ Y B : Nat} (hB : n₀ ≤ B) (W : World) (l : Nat) (o o' : Obj) (hl : B ≤ l) (h : W.heap[l]? = some o) : Kq n₀ Y W (W.putObj l o') :=
  ⟨by simp [World.putObj], fun k hk _ => World.putObj_heap_other (by omega)⟩

theorem idleIn_ChunkInts (k : Nat) (p q : Addr) (w : World) :
    CallsDIn Fence.wide k Try.prog 36 #[.pointer (some p), .pointer (some q)] .returning w fun e u' w' => e = .returned (.tuple #[]) ∧ u' = .returning ∧ w' = w := by
  refine callsDIn_of_wpSIn Try.func36 rfl trivial fun c₀ cs hu => ?_
  apply wpSIn_seq
  apply wpSIn_region
  simp [wpOpsSIn, go_sem, recoverD, hu, Try.ntmps36, Exit.thenS]
  refine wpSIn_cond (t := false) (by simp [Act.eval, Array.replicate]) ?_
  simp only [Bool.false_eq_true, if_false]
  refine wpSIn_of_wpIn rfl (wpIn_skip ?_)
  cases c₀
  simp_all [bodyPostS, results, Try.results36]
theorem keeps_below {B : Nat} {W W' : World} (h : Below W.heap.size W W') : KeepsFrom B W W' :=
  ⟨h.size, fun k o _ hk _ => (h.block k (Array.getElem?_eq_some_iff.1 hk).1).trans hk⟩

set_option maxRecDepth 100000 in
set_option maxHeartbeats 4000000 in
theorem ChunkInts_ok (A : Option Addr) (n c m : Nat) (xs : List Int) (w : World) (hs : Sees w A n 1 (iv xs)) (hc : n ≤ c) (hn : n ≤ 1048576) (hm : 1 ≤ m) (hmb : (m : Int) ≤ 9223372036854775807) :
    Calls Try.prog 23 #[.slice A n c, .int .i64 m] w fun e w' =>
      ∃ (A' : Option Addr) (c' k : Nat) (qs : List Pt), e = .returned (.tuple #[.slice A' k c', .bool true]) ∧ Mat w' w.heap.size w'.heap.size A' k c' qs ∧ (qs.map Pt.xs = chk m xs k ∧ n ≤ k * m ∧ ∀ j, j < k → j * m < n) ∧ Below w.heap.size w w' := by
  obtain ⟨i0, hi0, hz0, hz1, hz2⟩ := info_parts infoInts
  have hmf : ∀ (fn : Fn) (first cap : Array Value) (w : World), (Instr.makeFunc fn first cap).run Try.prog w = .ok (.func fn first cap) w := fun _ _ _ _ => rfl
  refine (callsIn_wide (n := 5)).1 ?_
  refine callsIn_of_wp_marks Try.func23 rfl trivial ?_ rfl
  simp only [Try.ntmps23, List.size_toArray, List.length_cons, List.length_nil, Nat.reduceAdd, Nat.reduceSub, Array.replicate_succ, Array.replicate_zero, List.push_toArray, List.append_toArray, List.nil_append, List.cons_append]
  gi_wp2_with fail
  refine ⟨trivial, (callsIn_wide.2 (Chunk_ok A n c m _ hm)).mono ?_⟩
  rintro e w' ⟨rfl, rfl⟩
  gi_wp2_with fail
  have k0 : Blk ((((w.alloc (.cells #[.slice none 0 0] 22)).alloc (.cells #[.bool false] 4)).alloc (.cells #[.slice A n c] 23)).alloc (.cells #[.int .i64 m] 3)) w.heap.size 22 [.slice none 0 0] := (((Blk.new w 22 #[.slice none 0 0]).alloc _).alloc _).alloc _
  have k1 : Blk ((((w.alloc (.cells #[.slice none 0 0] 22)).alloc (.cells #[.bool false] 4)).alloc (.cells #[.slice A n c] 23)).alloc (.cells #[.int .i64 m] 3)) (w.heap.size + 1) 4 [.bool false] := by
    have := ((Blk.new (w.alloc (.cells #[.slice none 0 0] 22)) 4 #[.bool false]).alloc (.cells #[.slice A n c] 23)).alloc (.cells #[.int .i64 m] 3)
    simpa using this
  have k2 : Blk ((((w.alloc (.cells #[.slice none 0 0] 22)).alloc (.cells #[.bool false] 4)).alloc (.cells #[.slice A n c] 23)).alloc (.cells #[.int .i64 m] 3)) (w.heap.size + 2) 23 [.slice A n c] := by
    have := (Blk.new ((w.alloc (.cells #[.slice none 0 0] 22)).alloc (.cells #[.bool false] 4)) 23 #[.slice A n c]).alloc (.cells #[.int .i64 m] 3)
    simpa using this
  have k3 : Blk ((((w.alloc (.cells #[.slice none 0 0] 22)).alloc (.cells #[.bool false] 4)).alloc (.cells #[.slice A n c] 23)).alloc (.cells #[.int .i64 m] 3)) (w.heap.size + 3) 3 [.int .i64 m] := by
    have := Blk.new (((w.alloc (.cells #[.slice none 0 0] 22)).alloc (.cells #[.bool false] 4)).alloc (.cells #[.slice A n c] 23)) 3 #[.int .i64 m]
    simpa using this
  have b0 : Below w.heap.size w ((((w.alloc (.cells #[.slice none 0 0] 22)).alloc (.cells #[.bool false] 4)).alloc (.cells #[.slice A n c] 23)).alloc (.cells #[.int .i64 m] 3)) := ((((Below.refl _ _).alloc (Nat.le_refl _) _).alloc (by simp) _).alloc (by simp; omega) _).alloc (by simp; omega) _
  have z0 : ((((w.alloc (.cells #[.slice none 0 0] 22)).alloc (.cells #[.bool false] 4)).alloc (.cells #[.slice A n c] 23)).alloc (.cells #[.int .i64 m] 3)).heap.size = w.heap.size + 4 := by simp
  generalize ((((w.alloc (.cells #[.slice none 0 0] 22)).alloc (.cells #[.bool false] 4)).alloc (.cells #[.slice A n c] 23)).alloc (.cells #[.int .i64 m] 3)) = W0 at k0 k1 k2 k3 b0 z0 ⊢
  have hn44 : n ≤ 17592186044416 := by omega
  refine wpIn_rangeFunc_ownG rfl (by omega) (gf := 45) (lb := #[.pointer (some ⟨w.heap.size + 2, 0, none⟩), .pointer (some ⟨w.heap.size + 3, 0, none⟩)]) rfl trivial (enters_of Try.func45 (by kernel_rfl) rfl)
    (chunk_stops w 4 (by omega) (w.heap.size + 2) (w.heap.size + 3) (w.heap.size + 4) w.heap.size A n c m hm hmb hn44 hc (by omega) (by omega) (by omega) (by omega) (ckPart w A n xs m hs hn44) (fun j => rfl) W0 (by omega) (k2.cell (i := 0) rfl) (k3.cell (i := 0) rfl))
    (fun h k => h.trans k) (fun W l o o' hl ho _ _ => Kq.put (by omega) W l o o' hl ho) (Below.refl _ _) (fun _ => rfl)
    (Cki w) (fun _ _ _ => False) (by rw [z0]; exact Cki.own w) (fun c s W W' row h _ _ => h)
    ⟨none, 0, [], k0, k1, ⟨Row.none_ _ _ _ _ _ (Nat.le_refl _), (fun p hp => by cases hp), (fun i j p q hp => by simp at hp)⟩, rfl, b0, by omega⟩
    (fun x => { tmps := #[.slice A n c, .int .i64 m, undef, undef, .pointer (some ⟨w.heap.size, 0, none⟩), .pointer (some ⟨w.heap.size + 1, 0, none⟩), .slice x.1.A x.1.n x.1.c, .func (.func 36) #[] #[.pointer (some ⟨w.heap.size, 0, none⟩), .pointer (some ⟨w.heap.size + 1, 0, none⟩)], .slice A n c, .int .i64 m, .func (.func 45) #[] #[.pointer (some ⟨w.heap.size + 2, 0, none⟩), .pointer (some ⟨w.heap.size + 3, 0, none⟩)], .slice x.1.A x.1.n x.1.c, undef, undef, undef, undef, undef, undef], defers := [] }) ?assign ?body ?done ?stop
  case assign =>
    intro l x W K hK
    obtain ⟨p, hp⟩ := x
    simp only [Ck.enc]
    gi_wp2
    exact hK
  case body =>
    rintro l pre ⟨p, hp1, hp2⟩ W ⟨B, d, qs, kY, kO, hM, hL, hB, hsz⟩ hlen
    have KY := hide kY
    have HSP : Hid (Sees W.drew p.A p.n 1 (iv p.xs)) := (hp1.below hB).drew
    have HPN := hide hp2
    have HY0 : Hid (w.heap.size < W.drew.heap.size) := by show w.heap.size < W.heap.size; omega
    have HM := hide hM
    have HSZ := hide hsz
    have cYd : W.drew.cell? ⟨w.heap.size, 0, none⟩ = some (.slice B pre.length d) := kY.cell (i := 0) rfl
    have hmx : Try.prog.follows .mixedOrders = true := by kernel_rfl
    have hl2 : pre.length < 1048576 := by omega
    have FIN : Hid (∀ (w1 : World) (A1 : Option Addr) (c1 : Nat) (A2 : Option Addr) (c2 : Nat) (w3 : World), Below W.drew.heap.size W.drew w1 → Row w1 W.drew.heap.size w1.heap.size 3 1 A1 p.n c1 (iv p.xs) →
        Row w3 (w.heap.size + 4) w3.heap.size 23 1 A2 (pre.length + 1) c2 (qv qs ++ qv [⟨A1, p.n, c1, p.xs⟩]) → (w1.alloc (.cells #[.slice A1 p.n c1] 23)).grownBy w3 (Value.slice B pre.length d).ownBlock →
        w3.cell? ⟨w.heap.size, 0, none⟩ = some (.slice B pre.length d) ∧ w3.frozen? ⟨w.heap.size, 0, none⟩ = false ∧
        (KeepsFrom W0.heap.size W (w3.setCell ⟨w.heap.size, 0, none⟩ (.slice A2 (pre.length + 1) c2)) ∧ Kq (w.heap.size + 4) w.heap.size W (w3.setCell ⟨w.heap.size, 0, none⟩ (.slice A2 (pre.length + 1) c2)) ∧ Cki w (pre ++ [⟨p, hp1, hp2⟩]) (w3.setCell ⟨w.heap.size, 0, none⟩ (.slice A2 (pre.length + 1) c2)))) := by
      intro w1 A1 c1 A2 c2 w3 d1 r1 r3 g3
      have hne := hM.out.blk
      have sz1 : W.heap.size ≤ w1.heap.size := d1.size
      have sza : (w1.alloc (.cells #[.slice A1 p.n c1] 23)).heap.size = w1.heap.size + 1 := by simp
      have sz3 := g3.size
      have own3 : ∀ {lo hi : Nat} {e : TypeId} {Aq : Option Addr} {nq cq : Nat} {ys : List Value}, Row W lo hi e 1 Aq nq cq ys → (∀ a, Aq = some a → some a.block ≠ (Value.slice B pre.length d).ownBlock) → Row w3 lo hi e 1 Aq nq cq ys := fun h hq =>
        ((h.drew.next d1).alloc _).grown g3 hq
      have blk3 : ∀ {g : Nat} {e : TypeId} {cs : List Value}, Blk W g e cs → g < w.heap.size + 4 → Blk w3 g e cs := fun {g} {e} {cs} h hg => by
        have h1 : Blk (w1.alloc (.cells #[.slice A1 p.n c1] 23)) g e cs := (h.drew.below d1 h.lt).alloc _
        refine (g3.block g h1.lt fun he => ?_).trans h1
        have := hne g he.symm
        omega
      have kY3 := blk3 kY (by omega)
      have kO3 := blk3 kO (by omega)
      have dk : ∀ a, A1 = some a → W.heap.size ≤ a.block := fun a ha => by
        subst ha
        obtain ⟨g, rfl, h1, _⟩ := r1.at0
        exact h1
      have p3 : Row w3 (w.heap.size + 4) w3.heap.size 3 1 A1 p.n c1 (iv p.xs) := by
        refine ((r1.alloc (.cells #[.slice A1 p.n c1] 23)).grown g3 fun a ha he => ?_).more (by show _ ≤ W.heap.size; omega) (by omega) (Nat.le_refl _)
        have h1 := dk a ha
        have h2 := hne a.block he.symm
        omega
      have hs4 : (w3.setCell ⟨w.heap.size, 0, none⟩ (.slice A2 (pre.length + 1) c2)).heap.size = w3.heap.size := by simp [World.setCell]
      refine ⟨kY3.cell (i := 0) rfl, kY3.frozen 0, ?_, ?_, ?_⟩
      · refine ((keeps_below (W := W) ((below_drewN (Below.refl _ _) 1).trans d1)).trans ((KeepsOthers.alloc w1 _).from _)).trans (((KeepsOthers.of_grownBy g3 fun j o hj ho => ?_).from _).trans ((KeepsOthers.setCell _ _ _).from _))
        cases B with
        | none => simp [Value.ownBlock] at hj
        | some a =>
          obtain ⟨g, rfl, _⟩ := hM.out.at0
          simp [Value.ownBlock] at hj
          subst hj
          obtain ⟨cs, hcs⟩ := (((hM.out.drew.next d1).alloc (.cells #[.slice A1 p.n c1] 23))).obj
          rw [hcs] at ho
          injection ho with ho
          subst ho
          rfl
      · refine ⟨by rw [hs4]; omega, fun k hk hkY => ?_⟩
        rw [Below.heap_setCell w3 ⟨w.heap.size, 0, none⟩ _ k hkY]
        rw [g3.block k (by omega) (fun he => by have := hne k he.symm; omega), Below.heap_alloc w1 _ k (by omega)]
        exact d1.block k (by show k < W.heap.size; omega)
      · have hpl : (pre ++ [(⟨p, hp1, hp2⟩ : Ck w)]).length = pre.length + 1 := by simp
        refine ⟨A2, c2, qs ++ [⟨A1, p.n, c1, p.xs⟩], ?_, kO3.far (p := ⟨w.heap.size, 0, none⟩) (by show w.heap.size + 1 ≠ w.heap.size; omega) _, ⟨?_, fun q hq => ?_, fun i j q r hq hr hij a b ha hb => ?_⟩, ?_, ?_, by rw [hs4]; omega⟩
        · rw [hpl]
          exact kY3.set 0 (.slice A2 (pre.length + 1) c2)
        · rw [hpl, hs4]
          have e1 : qv qs ++ qv [⟨A1, p.n, c1, p.xs⟩] = qv (qs ++ [⟨A1, p.n, c1, p.xs⟩]) := by simp [qv]
          rw [e1] at r3
          exact r3.far (p := ⟨w.heap.size, 0, none⟩) (.inl (by show w.heap.size < w.heap.size + 4; omega)) _
        · rw [hs4]
          refine Row.far (p := ⟨w.heap.size, 0, none⟩) ?_ (.inl (by show w.heap.size < w.heap.size + 4; omega)) _
          rcases List.mem_append.1 hq with hq | hq
          · refine (own3 (hM.own q hq) fun a ha he => ?_).more (Nat.le_refl _) (by omega) (Nat.le_refl _)
            cases B with
            | none => simp [Value.ownBlock] at he
            | some a' =>
              simp [Value.ownBlock] at he
              exact hM.off q hq a' a rfl ha he.symm
          · simp only [List.mem_singleton] at hq
            subst hq
            exact p3
        · have old : ∀ q' ∈ qs, ∀ a, q'.A = some a → a.block < W.heap.size := fun q' h a ha => (hM.own q' h).2.1 a ha
          have hl : qs.length = pre.length := by have := hM.sees.qlen; exact this
          rcases Nat.lt_or_ge i qs.length with hi | hi
          · rw [List.getElem?_append_left hi] at hq
            rcases Nat.lt_or_ge j qs.length with hj | hj
            · rw [List.getElem?_append_left hj] at hr
              exact hM.apart i j q r hq hr hij a b ha hb
            · rw [List.getElem?_append_right hj] at hr
              have h1 := old q (List.mem_of_getElem? hq) a ha
              have h2 : r = ⟨A1, p.n, c1, p.xs⟩ := by
                have := List.mem_of_getElem? hr
                simpa using this
              subst h2
              have h3 := dk b hb
              omega
          · rw [List.getElem?_append_right hi] at hq
            have h2 : q = ⟨A1, p.n, c1, p.xs⟩ := by
              have := List.mem_of_getElem? hq
              simpa using this
            subst h2
            have h3 := dk a ha
            rcases Nat.lt_or_ge j qs.length with hj | hj
            · rw [List.getElem?_append_left hj] at hr
              have h1 := old r (List.mem_of_getElem? hr) b hb
              omega
            · have e1 := (List.getElem?_eq_some_iff.1 hr).1
              have e2 := (List.getElem?_eq_some_iff.1 hq).1
              simp at e1 e2
              omega
        · rw [List.map_append, List.map_append, hL]
          rfl
        · refine (((((hB.drew).trans (d1.mono (by show w.heap.size ≤ W.heap.size; omega))).alloc (by omega) _).grown g3 (by omega) fun k hk => ?_)).setCell (p := ⟨w.heap.size, 0, none⟩) (Nat.le_refl _) _
          have := hne k hk
          omega
    clear kY kO hM hL hB hsz hlen
    gi_wp2
    refine wpIn_region_any hmx ?_
    change wpAnyIn _ _ _ _ _ _ _ _ _ (World.drew _)
    refine wpAnyIn_ready (rs := [0, 1]) (by kernel_rfl) (by simp) ?_
    refine AllReadyIn.cons rfl (fun K hK => ?_) ?_
    · go_simp
      refine hK _ _ ?_
      clear hK K
      refine wpAnyIn_ready (rs := [1]) (by kernel_rfl) (by simp) ?_
      refine AllReadyIn.cons rfl (fun K hK => ?_) AllReadyIn.nil
      go_simp
      refine hK _ _ ?_
      clear hK K
      refine wpAnyIn_ready (rs := [2]) (by kernel_rfl) (by simp) ?_
      refine AllReadyIn.cons rfl (fun K hK => ?_) AllReadyIn.nil
      go_simp
      gi_wp2_with (refine ⟨trivial, ?_⟩; gi_at_call 38; refine (CallsIn.inRound l (callsIn_wide.2 (numbers_any p.A p.n p.c p.xs W.drew HSP.out HPN.out))).mono ?_; rintro e w1 ⟨A1, c1, rfl, r1, d1⟩; have cY1 := (KY.out.drew.below d1 HY0.out).cell (i := 0) rfl; have D1 := hide d1; have R1 := hide r1; clear d1 r1)
      refine wpAnyIn_ready (rs := [3]) (by kernel_rfl) (by simp) ?_
      refine AllReadyIn.cons rfl (fun K hK => ?_) AllReadyIn.nil
      go_simp
      refine hK _ _ ?_
      clear hK K
      have cY2 : (w1.alloc (.cells #[.slice A1 p.n c1] 23)).cell? ⟨w.heap.size, 0, none⟩ = some (.slice B pre.length d) := ((KY.out.drew.below D1.out HY0.out).alloc _).cell (i := 0) rfl
      refine wpAnyIn_ready (rs := [4]) (by kernel_rfl) (by simp) ?_
      refine AllReadyIn.cons rfl (fun K hK => ?_) AllReadyIn.nil
      have z1 : Sees (w1.alloc (.cells #[.slice A1 p.n c1] 23)) (some ⟨w1.heap.size, 0, none⟩) 1 1 (qv [⟨A1, p.n, c1, p.xs⟩]) := (Blk.new w1 23 #[.slice A1 p.n c1]).sees (off := 0) (n := 1) (sz := 1) (pre := []) (xs := qv [⟨A1, p.n, c1, p.xs⟩]) (post := []) rfl rfl
      refine stepIn_append (w1.alloc (.cells #[.slice A1 p.n c1] 23)) rfl (.tmp 12) (.tmp 15) _ rfl (w.heap.size + 4) w1.heap.size 23 i0 _ 1 24 Try.underlying22 hi0 hz0 hz1 hz2 rfl (by omega) B pre.length d (qv qs) (by simp [Act.eval]) (((HM.out.out.drew.next D1.out).more (Nat.le_refl _) D1.out.size (Nat.le_refl _)).alloc _) _ 1 1 _ (by simp [Act.eval]) z1 (qv_one _) (by unfold maxLen; omega) (by omega) (by have := D1.out.size; have := HSZ.out; simp at *; omega) ?_
      intro A2 c2 w3 r3 g3
      refine hK _ _ ?_
      clear hK K
      obtain ⟨cY3, fY3, FIN3⟩ := FIN.out w1 A1 c1 A2 c2 w3 D1.out R1.out r3 g3
      refine wpAnyIn_ready (rs := [5]) (by kernel_rfl) (by simp) ?_
      refine AllReadyIn.cons rfl (fun K hK => ?_) AllReadyIn.nil
      go_simp
      refine hK _ _ ?_
      clear hK K
      refine wpAnyIn_done (by kernel_rfl) ?_ _
      go_simp
      exact FIN3
    refine AllReadyIn.cons rfl (fun K hK => ?_) AllReadyIn.nil
    go_simp
    refine hK _ _ ?_
    clear hK K
    refine wpAnyIn_ready (rs := [0, 2]) (by kernel_rfl) (by simp) ?_
    refine AllReadyIn.cons rfl (fun K hK => ?_) ?_
    · go_simp
      refine hK _ _ ?_
      clear hK K
      refine wpAnyIn_ready (rs := [2]) (by kernel_rfl) (by simp) ?_
      refine AllReadyIn.cons rfl (fun K hK => ?_) AllReadyIn.nil
      go_simp
      gi_wp2_with (refine ⟨trivial, ?_⟩; gi_at_call 38; refine (CallsIn.inRound l (callsIn_wide.2 (numbers_any p.A p.n p.c p.xs W.drew HSP.out HPN.out))).mono ?_; rintro e w1 ⟨A1, c1, rfl, r1, d1⟩; have cY1 := (KY.out.drew.below d1 HY0.out).cell (i := 0) rfl; have D1 := hide d1; have R1 := hide r1; clear d1 r1)
      refine wpAnyIn_ready (rs := [3]) (by kernel_rfl) (by simp) ?_
      refine AllReadyIn.cons rfl (fun K hK => ?_) AllReadyIn.nil
      go_simp
      refine hK _ _ ?_
      clear hK K
      have cY2 : (w1.alloc (.cells #[.slice A1 p.n c1] 23)).cell? ⟨w.heap.size, 0, none⟩ = some (.slice B pre.length d) := ((KY.out.drew.below D1.out HY0.out).alloc _).cell (i := 0) rfl
      refine wpAnyIn_ready (rs := [4]) (by kernel_rfl) (by simp) ?_
      refine AllReadyIn.cons rfl (fun K hK => ?_) AllReadyIn.nil
      have z1 : Sees (w1.alloc (.cells #[.slice A1 p.n c1] 23)) (some ⟨w1.heap.size, 0, none⟩) 1 1 (qv [⟨A1, p.n, c1, p.xs⟩]) := (Blk.new w1 23 #[.slice A1 p.n c1]).sees (off := 0) (n := 1) (sz := 1) (pre := []) (xs := qv [⟨A1, p.n, c1, p.xs⟩]) (post := []) rfl rfl
      refine stepIn_append (w1.alloc (.cells #[.slice A1 p.n c1] 23)) rfl (.tmp 12) (.tmp 15) _ rfl (w.heap.size + 4) w1.heap.size 23 i0 _ 1 24 Try.underlying22 hi0 hz0 hz1 hz2 rfl (by omega) B pre.length d (qv qs) (by simp [Act.eval]) (((HM.out.out.drew.next D1.out).more (Nat.le_refl _) D1.out.size (Nat.le_refl _)).alloc _) _ 1 1 _ (by simp [Act.eval]) z1 (qv_one _) (by unfold maxLen; omega) (by omega) (by have := D1.out.size; have := HSZ.out; simp at *; omega) ?_
      intro A2 c2 w3 r3 g3
      refine hK _ _ ?_
      clear hK K
      obtain ⟨cY3, fY3, FIN3⟩ := FIN.out w1 A1 c1 A2 c2 w3 D1.out R1.out r3 g3
      refine wpAnyIn_ready (rs := [5]) (by kernel_rfl) (by simp) ?_
      refine AllReadyIn.cons rfl (fun K hK => ?_) AllReadyIn.nil
      go_simp
      refine hK _ _ ?_
      clear hK K
      refine wpAnyIn_done (by kernel_rfl) ?_ _
      go_simp
      exact FIN3
    refine AllReadyIn.cons rfl (fun K hK => ?_) AllReadyIn.nil
    go_simp
    gi_wp2_with (refine ⟨trivial, ?_⟩; gi_at_call 38; refine (CallsIn.inRound l (callsIn_wide.2 (numbers_any p.A p.n p.c p.xs W.drew HSP.out HPN.out))).mono ?_; rintro e w1 ⟨A1, c1, rfl, r1, d1⟩; have cY1 := (KY.out.drew.below d1 HY0.out).cell (i := 0) rfl; have D1 := hide d1; have R1 := hide r1; clear d1 r1)
    refine wpAnyIn_ready (rs := [0, 3]) (by kernel_rfl) (by simp) ?_
    refine AllReadyIn.cons rfl (fun K hK => ?_) ?_
    · go_simp
      refine hK _ _ ?_
      clear hK K
      refine wpAnyIn_ready (rs := [3]) (by kernel_rfl) (by simp) ?_
      refine AllReadyIn.cons rfl (fun K hK => ?_) AllReadyIn.nil
      go_simp
      refine hK _ _ ?_
      clear hK K
      have cY2 : (w1.alloc (.cells #[.slice A1 p.n c1] 23)).cell? ⟨w.heap.size, 0, none⟩ = some (.slice B pre.length d) := ((KY.out.drew.below D1.out HY0.out).alloc _).cell (i := 0) rfl
      refine wpAnyIn_ready (rs := [4]) (by kernel_rfl) (by simp) ?_
      refine AllReadyIn.cons rfl (fun K hK => ?_) AllReadyIn.nil
      have z1 : Sees (w1.alloc (.cells #[.slice A1 p.n c1] 23)) (some ⟨w1.heap.size, 0, none⟩) 1 1 (qv [⟨A1, p.n, c1, p.xs⟩]) := (Blk.new w1 23 #[.slice A1 p.n c1]).sees (off := 0) (n := 1) (sz := 1) (pre := []) (xs := qv [⟨A1, p.n, c1, p.xs⟩]) (post := []) rfl rfl
      refine stepIn_append (w1.alloc (.cells #[.slice A1 p.n c1] 23)) rfl (.tmp 12) (.tmp 15) _ rfl (w.heap.size + 4) w1.heap.size 23 i0 _ 1 24 Try.underlying22 hi0 hz0 hz1 hz2 rfl (by omega) B pre.length d (qv qs) (by simp [Act.eval]) (((HM.out.out.drew.next D1.out).more (Nat.le_refl _) D1.out.size (Nat.le_refl _)).alloc _) _ 1 1 _ (by simp [Act.eval]) z1 (qv_one _) (by unfold maxLen; omega) (by omega) (by have := D1.out.size; have := HSZ.out; simp at *; omega) ?_
      intro A2 c2 w3 r3 g3
      refine hK _ _ ?_
      clear hK K
      obtain ⟨cY3, fY3, FIN3⟩ := FIN.out w1 A1 c1 A2 c2 w3 D1.out R1.out r3 g3
      refine wpAnyIn_ready (rs := [5]) (by kernel_rfl) (by simp) ?_
      refine AllReadyIn.cons rfl (fun K hK => ?_) AllReadyIn.nil
      go_simp
      refine hK _ _ ?_
      clear hK K
      refine wpAnyIn_done (by kernel_rfl) ?_ _
      go_simp
      exact FIN3
    refine AllReadyIn.cons rfl (fun K hK => ?_) AllReadyIn.nil
    go_simp
    refine hK _ _ ?_
    clear hK K
    have cY2 : (w1.alloc (.cells #[.slice A1 p.n c1] 23)).cell? ⟨w.heap.size, 0, none⟩ = some (.slice B pre.length d) := ((KY.out.drew.below D1.out HY0.out).alloc _).cell (i := 0) rfl
    refine wpAnyIn_ready (rs := [0]) (by kernel_rfl) (by simp) ?_
    refine AllReadyIn.cons rfl (fun K hK => ?_) AllReadyIn.nil
    go_simp
    refine hK _ _ ?_
    clear hK K
    refine wpAnyIn_ready (rs := [4]) (by kernel_rfl) (by simp) ?_
    refine AllReadyIn.cons rfl (fun K hK => ?_) AllReadyIn.nil
    have z1 : Sees (w1.alloc (.cells #[.slice A1 p.n c1] 23)) (some ⟨w1.heap.size, 0, none⟩) 1 1 (qv [⟨A1, p.n, c1, p.xs⟩]) := (Blk.new w1 23 #[.slice A1 p.n c1]).sees (off := 0) (n := 1) (sz := 1) (pre := []) (xs := qv [⟨A1, p.n, c1, p.xs⟩]) (post := []) rfl rfl
    refine stepIn_append (w1.alloc (.cells #[.slice A1 p.n c1] 23)) rfl (.tmp 12) (.tmp 15) _ rfl (w.heap.size + 4) w1.heap.size 23 i0 _ 1 24 Try.underlying22 hi0 hz0 hz1 hz2 rfl (by omega) B pre.length d (qv qs) (by simp [Act.eval]) (((HM.out.out.drew.next D1.out).more (Nat.le_refl _) D1.out.size (Nat.le_refl _)).alloc _) _ 1 1 _ (by simp [Act.eval]) z1 (qv_one _) (by unfold maxLen; omega) (by omega) (by have := D1.out.size; have := HSZ.out; simp at *; omega) ?_
    intro A2 c2 w3 r3 g3
    refine hK _ _ ?_
    clear hK K
    obtain ⟨cY3, fY3, FIN3⟩ := FIN.out w1 A1 c1 A2 c2 w3 D1.out R1.out r3 g3
    refine wpAnyIn_ready (rs := [5]) (by kernel_rfl) (by simp) ?_
    refine AllReadyIn.cons rfl (fun K hK => ?_) AllReadyIn.nil
    go_simp
    refine hK _ _ ?_
    clear hK K
    refine wpAnyIn_done (by kernel_rfl) ?_ _
    go_simp
    exact FIN3
  case done =>
    rintro D ys W hD ⟨k, rfl, hk1, hk2⟩ ⟨B, d, qs, kY, kO, hM, hL, hB, hsz⟩ hK
    have hkk : ((List.range k).map (ckPart w A n xs m hs hn44)).length = k := by simp
    rw [hkk] at kY hM
    have cY := kY.cell (i := 0) rfl
    have fY := kY.frozen 0
    have cO := kO.cell (i := 0) rfl
    have fO := kO.frozen 0
    have HL := hide hL
    have HK1 := hide hk1
    have HK2 := hide hk2
    have HB2 := hide hB
    have HM := hide hM
    have HKY := hide kY
    have HKO := hide kO
    have HKD := hide hK
    clear hL hk1 hk2 hB hM kY kO hK hkk
    gi_wp2
    have o1 : Only w.heap.size (w.heap.size + 2) W ((W.setCell ⟨w.heap.size, 0, none⟩ (.slice B k d)).setCell ⟨w.heap.size + 1, 0, none⟩ (.bool true)) :=
      ((Only.refl w.heap.size (w.heap.size + 2) W).setCell (p := ⟨w.heap.size, 0, none⟩) (Nat.le_refl _) (by show w.heap.size < _; omega) _).setCell (p := ⟨w.heap.size + 1, 0, none⟩) (by show _ ≤ w.heap.size + 1; omega) (by show w.heap.size + 1 < _; omega) _
    have y1 : Blk ((W.setCell ⟨w.heap.size, 0, none⟩ (.slice B k d)).setCell ⟨w.heap.size + 1, 0, none⟩ (.bool true)) w.heap.size 22 [.slice B k d] := (HKY.out.set 0 (.slice B k d)).far (p := ⟨w.heap.size + 1, 0, none⟩) (by show w.heap.size ≠ w.heap.size + 1; omega) _
    have y2 : Blk ((W.setCell ⟨w.heap.size, 0, none⟩ (.slice B k d)).setCell ⟨w.heap.size + 1, 0, none⟩ (.bool true)) (w.heap.size + 1) 4 [.bool true] := (HKO.out.far (p := ⟨w.heap.size, 0, none⟩) (by show w.heap.size + 1 ≠ w.heap.size; omega) (.slice B k d)).set 0 (.bool true)
    have bb : Below w.heap.size w ((W.setCell ⟨w.heap.size, 0, none⟩ (.slice B k d)).setCell ⟨w.heap.size + 1, 0, none⟩ (.bool true)) := HB2.out.trans (o1.below (Nat.le_refl _) HB2.out.size)
    have mm : Mat ((W.setCell ⟨w.heap.size, 0, none⟩ (.slice B k d)).setCell ⟨w.heap.size + 1, 0, none⟩ (.bool true)) (w.heap.size + 4) W.heap.size B k d qs := HM.out.only o1 (.inr (by omega))
    have kd : ((W.setCell ⟨w.heap.size, 0, none⟩ (.slice B k d)).setCell ⟨w.heap.size + 1, 0, none⟩ (.bool true)).heap[D]? = some (.deferred (some [])) := (o1.block D (Array.getElem?_eq_some_iff.1 HKD.out).1 (.inr (by omega))).trans HKD.out
    generalize ((W.setCell ⟨w.heap.size, 0, none⟩ (.slice B k d)).setCell ⟨w.heap.size + 1, 0, none⟩ (.bool true)) = W1 at o1 y1 y2 bb mm kd ⊢
    refine ⟨by simp, .inl ⟨D, W1.putObj D (.deferred none), rfl, run_takeDeferred kd, ?_⟩⟩
    have g1 : W1.grownBy (W1.putObj D (.deferred none)) (some D) := ⟨rfl, rfl, rfl, by simp [World.putObj], fun k _ hk => World.putObj_heap_other (fun e => hk (by rw [e]))⟩
    have gr : ∀ r, some D = some r → ∃ o : Obj, W1.heap[r]? = some o ∧ o.isCells = false := fun r hr => by
      obtain rfl := Option.some.inj hr
      exact ⟨_, kd, rfl⟩
    replace y1 := y1.turn g1 gr
    replace y2 := y2.turn g1 gr
    replace mm := (mm.turn g1 gr).more (lo' := w.heap.size) (hi' := (W1.putObj D (.deferred none)).heap.size) (by omega) (Nat.le_trans o1.size g1.size) (Nat.le_refl _)
    replace bb := bb.grown g1 bb.size (fun j hj => by obtain rfl := Option.some.inj hj; omega)
    clear o1 kd gr g1
    generalize (W1.putObj D (.deferred none)) = W2 at y1 y2 bb mm ⊢
    refine ⟨by simp, .inr ⟨fun _ => by omega, .func 36, _, 36, #[.pointer (some ⟨w.heap.size, 0, none⟩), .pointer (some ⟨w.heap.size + 1, 0, none⟩)], rfl, by simp [go_sem], fun _ _ => trivial, ?_⟩⟩
    refine (idleIn_ChunkInts _ _ _ _).mono ?_
    rintro e u' w'' ⟨rfl, rfl, rfl⟩
    have c1 := y1.cell (i := 0) rfl
    have c2 := y2.cell (i := 0) rfl
    simp [LeavesInM, LeavesIn, settle, results, Try.results23, go_sem, c1, c2]
    refine ⟨B, d, k, ⟨rfl, rfl, rfl⟩, qs, mm, ⟨?_, HK1.out, HK2.out⟩, bb⟩
    rw [HL.out, List.map_map, chk]
    refine List.map_congr_left fun j _ => ?_
    exact take_min xs (j * m) m n hs.ilen
  case stop =>
    rintro D c pre W _ _ h _
    exact h.elim
end Go.Proofs.Ytjmceapdokkleaa
