/-
  Words for memory used by all proofs of this seat: a slice that reads as a list of cells, rows owned by the call, and how both are kept. No program in sight.
-/
import Derived.WalkKit
import Derived.WalkSpells
import Derived.WalkLawsBesides
import Derived.Maps.AppendAt
import Derived.Laws.CopyOwn
import Derived.Laws.OwnMore
import Derived.Deep.Draws
namespace Go.Proofs.Ytjmceapdokkleaa
open Go.RowKit
set_option linter.unusedVariables false

theorem blk_add (a : Addr) (n : Nat) : (a.add n).block = a.block := by
  unfold Addr.add
  split <;> rfl

theorem add_plus (a : Addr) (i j : Nat) : (a.add i).add j = a.add (i + j) := by
  unfold Addr.add
  by_cases hi : i = 0 <;> by_cases hj : j = 0 <;> simp [hi, hj, Nat.add_assoc]

/-- the cells of a list of numbers -/
def iv (xs : List Int) : List Value := xs.map (Value.int .i64)
theorem iv_len (xs : List Int) : (iv xs).length = xs.length := by simp [iv]
theorem iv_get (xs : List Int) (k : Nat) : (iv xs)[k]? = (xs[k]?).map (Value.int .i64) := by simp [iv]
theorem iv_append (xs ys : List Int) : iv (xs ++ ys) = iv xs ++ iv ys := by simp [iv]
theorem iv_take (xs : List Int) (k : Nat) : iv (xs.take k) = (iv xs).take k := by simp [iv, List.map_take]
theorem iv_drop (xs : List Int) (k : Nat) : iv (xs.drop k) = (iv xs).drop k := by simp [iv, List.map_drop]
theorem iv_one (xs : List Int) : ∀ u ∈ iv xs, u.oneCell' = true := ints_oneCell .i64 xs
theorem iv_inj {xs ys : List Int} (h : iv xs = iv ys) : xs = ys := by
  induction xs generalizing ys with
  | nil => cases ys with
    | nil => rfl
    | cons y ys => simp [iv] at h
  | cons x xs ih => cases ys with
    | nil => simp [iv] at h
    | cons y ys =>
      simp only [iv, List.map_cons, List.cons.injEq, Value.int.injEq, true_and] at h
      rw [h.1, ih h.2]

/-- the slice at address A with n elements of sz cells reads as the cells xs, and lies in memory that is there -/
def Sees (w : World) (A : Option Addr) (n sz : Nat) (xs : List Value) : Prop :=
  xs.length = n * sz ∧ ∀ j u, xs[j]? = some u → ∃ ad, A = some ad ∧ ad.block < w.heap.size ∧ w.cell? (ad.add j) = some u

section
variable {w w' : World} {A : Option Addr} {n sz B : Nat} {xs : List Value}

theorem Sees.nil_ : Sees w A 0 sz [] := ⟨by simp, fun j u h => by simp at h⟩
theorem Sees.len (h : Sees w A n sz xs) : xs.length = n * sz := h.1
theorem Sees.at1 (h : Sees w A n 1 xs) {k : Nat} (hk : k < n) : ∃ ad u, A = some ad ∧ ad.block < w.heap.size ∧ xs[k]? = some u ∧ w.cell? (ad.add k) = some u := by
  have hl : k < xs.length := by have := h.1; omega
  obtain ⟨ad, e, hb, hc⟩ := h.2 k _ (List.getElem?_eq_getElem hl)
  exact ⟨ad, _, e, hb, List.getElem?_eq_getElem hl, hc⟩
/-- what is there stays as it was: the same slice reads the same -/
theorem Sees.keep (h : Sees w A n sz xs) (hs : w.heap.size ≤ w'.heap.size) (hk : ∀ ad, A = some ad → w'.heap[ad.block]? = w.heap[ad.block]?) : Sees w' A n sz xs :=
  ⟨h.1, fun j u hu => by
    obtain ⟨ad, e, hb, hc⟩ := h.2 j u hu
    refine ⟨ad, e, Nat.lt_of_lt_of_le hb hs, ?_⟩
    rw [← hc]
    exact World.cell?_of_block (by rw [blk_add]; exact hk ad e)⟩
theorem Sees.below (h : Sees w A n sz xs) (hb : Below w.heap.size w w') : Sees w' A n sz xs :=
  ⟨h.1, fun j u hu => by
    obtain ⟨ad, e, hbl, hc⟩ := h.2 j u hu
    refine ⟨ad, e, Nat.lt_of_lt_of_le hbl hb.size, ?_⟩
    rw [← hc]
    exact hb.cell (by rw [blk_add]; exact hbl)⟩
theorem Sees.drew (h : Sees w A n sz xs) : Sees w.drew A n sz xs := h
theorem Sees.drewN (h : Sees w A n sz xs) (k : Nat) : Sees (w.drewN k) A n sz xs := h
theorem Sees.alloc (h : Sees w A n sz xs) (o : Obj) : Sees (w.alloc o) A n sz xs := h.below ((Below.refl _ _).alloc (Nat.le_refl _) o)
/-- a part from k on, as the model makes it -/
theorem Sees.cut (h : Sees w A n sz xs) {k m cap : Nat} (hkm : k + m ≤ n) (hc : n ≤ cap) :
    Sees w (if cap = k then A else A.map (·.add (k * sz))) m sz ((xs.drop (k * sz)).take (m * sz)) := by
  have hx := h.1
  refine ⟨?_, fun j u hu => ?_⟩
  · rw [List.length_take, List.length_drop, hx]
    have : m * sz ≤ n * sz - k * sz := by
      rw [← Nat.sub_mul]
      exact Nat.mul_le_mul_right _ (by omega)
    omega
  · rw [List.getElem?_take] at hu
    split at hu
    · rename_i hjm
      rw [List.getElem?_drop] at hu
      obtain ⟨ad, e, hb, hcell⟩ := h.2 _ u hu
      have hm : 0 < m := by
        rcases Nat.eq_zero_or_pos m with h0 | h0
        · subst h0
          omega
        · exact h0
      rw [if_neg (by omega), e]
      refine ⟨ad.add (k * sz), rfl, by rw [blk_add]; exact hb, ?_⟩
      rw [add_plus]
      exact hcell
    · cases hu
end

/-- a row of the call's own: it lies in a block from lo on and below hi -/
def Row (w : World) (lo hi : Nat) (e : TypeId) (sz : Nat) (A : Option Addr) (n c : Nat) (xs : List Value) : Prop :=
  w.ownsRow lo e sz (.slice A n c) n xs ∧ (∀ ad, A = some ad → ad.block < hi) ∧ hi ≤ w.heap.size

section
variable {w w' : World} {lo hi : Nat} {e : TypeId} {sz : Nat} {A : Option Addr} {n c : Nat} {xs : List Value}

theorem Row.len (h : Row w lo hi e sz A n c xs) : xs.length = n * sz := h.1.1
theorem Row.cap (h : Row w lo hi e sz A n c xs) : n ≤ c ∧ c ≤ maxLen := by
  rcases h.1.2 with ⟨hv, _⟩ | ⟨g, cap, cur, hv, _, _, h1, h2, _⟩
  · injection hv with _ h1 h2
    subst h1 h2
    exact ⟨Nat.le_refl _, Nat.zero_le _⟩
  · injection hv with _ _ h3
    subst h3
    exact ⟨h1, h2⟩
theorem Row.sees (h : Row w lo hi e sz A n c xs) : Sees w A n sz xs := by
  refine ⟨h.1.1, fun j u hu => ?_⟩
  rcases h.1.2 with ⟨hv, hn⟩ | ⟨g, cap, cur, hv, _, hg, _⟩
  · have hx := h.1.1
    subst hn
    have : xs = [] := List.eq_nil_of_length_eq_zero (by simpa using hx)
    subst this
    simp at hu
  · injection hv with hA
    subst hA
    exact ⟨_, rfl, (Array.getElem?_eq_some_iff.1 hg).1, h.1.cells (g := g) rfl j u hu⟩
theorem Row.blk (h : Row w lo hi e sz A n c xs) : ∀ k, (Value.slice A n c).ownBlock = some k → lo ≤ k ∧ k < hi := by
  intro k hk
  have h1 := (h.1.lt k hk).1
  refine ⟨h1, ?_⟩
  cases A with
  | none => simp [Value.ownBlock] at hk
  | some ad =>
    have := h.2.1 ad rfl
    simp [Value.ownBlock] at hk
    omega
/-- of another block than a later one -/
theorem Row.kept (h : Row w lo hi e sz A n c xs) {row : Option Nat} (hg : w.grownBy w' row) (hr : ∀ k, row = some k → k < lo ∨ hi ≤ k) : Row w' lo hi e sz A n c xs := by
  refine ⟨h.1.kept hg ?_, h.2.1, Nat.le_trans h.2.2 hg.size⟩
  rcases hb : (Value.slice A n c).ownBlock with _ | k
  · exact .inl rfl
  · right
    intro he
    have h1 := h.blk k hb
    have := hr k he.symm
    omega
theorem Row.below (h : Row w lo hi e sz A n c xs) {B : Nat} (hb : Below B w w') (hB : hi ≤ B) : Row w' lo hi e sz A n c xs := by
  refine ⟨⟨h.1.1, ?_⟩, h.2.1, Nat.le_trans h.2.2 hb.size⟩
  rcases h.1.2 with hn | ⟨g, cap, cur, hv, hl, hg, rest⟩
  · exact .inl hn
  · refine .inr ⟨g, cap, cur, hv, hl, ?_, rest⟩
    injection hv with hA
    have := h.2.1 _ hA
    rw [hb.block g (by simp at this; omega)]
    exact hg
theorem Row.next (h : Row w lo hi e sz A n c xs) (hb : Below w.heap.size w w') : Row w' lo hi e sz A n c xs := h.below hb h.2.2
theorem Row.drew (h : Row w lo hi e sz A n c xs) : Row w.drew lo hi e sz A n c xs := h
theorem Row.drewN (h : Row w lo hi e sz A n c xs) (k : Nat) : Row (w.drewN k) lo hi e sz A n c xs := h
theorem Row.alloc (h : Row w lo hi e sz A n c xs) (o : Obj) : Row (w.alloc o) lo hi e sz A n c xs :=
  ⟨h.1.alloc o, h.2.1, Nat.le_trans h.2.2 (by simp)⟩
theorem Row.more (h : Row w lo hi e sz A n c xs) {lo' hi' : Nat} (hl : lo' ≤ lo) (hh : hi ≤ hi') (hw : hi' ≤ w.heap.size) : Row w lo' hi' e sz A n c xs := by
  refine ⟨⟨h.1.1, ?_⟩, fun ad ha => Nat.lt_of_lt_of_le (h.2.1 ad ha) hh, hw⟩
  rcases h.1.2 with hn | ⟨g, cap, cur, hv, hlo, rest⟩
  · exact .inl hn
  · exact .inr ⟨g, cap, cur, hv, Nat.le_trans hl hlo, rest⟩
/-- the address of a row that has an element -/
theorem Row.form (h : Row w lo hi e sz A n c xs) (hn : 0 < n) : ∃ g, A = some ⟨g, 0, none⟩ ∧ lo ≤ g ∧ g < hi := by
  rcases h.1.2 with ⟨_, h0⟩ | ⟨g, cap, cur, hv, hlo, hg, _⟩
  · omega
  · injection hv with hA
    exact ⟨g, hA, hlo, by have := h.2.1 _ hA; simpa using this⟩
theorem Row.of_own {v : Value} (h : w.ownsRow lo e sz v n xs) (hh : ∀ k, v.ownBlock = some k → k < hi) (hw : hi ≤ w.heap.size) : ∃ A c, v = .slice A n c ∧ Row w lo hi e sz A n c xs := by
  rcases h.2 with ⟨rfl, rfl⟩ | ⟨g, cap, cur, rfl, _⟩
  · exact ⟨none, 0, rfl, h, (fun ad ha => by cases ha), hw⟩
  · exact ⟨_, _, rfl, h, fun ad ha => by
      injection ha with ha
      subst ha
      exact hh g rfl, hw⟩
end

/-- only blocks from lo on and below hi have turned, and new ones have come -/
structure Only (lo hi : Nat) (w w' : World) : Prop where
  os : w'.os = w.os
  tape : w'.tape = w.tape
  output : w'.output = w.output
  size : w.heap.size ≤ w'.heap.size
  block : ∀ k, k < w.heap.size → (k < lo ∨ hi ≤ k) → w'.heap[k]? = w.heap[k]?

section
variable {w w' w2 : World} {lo hi : Nat}
theorem Only.refl (lo hi : Nat) (w : World) : Only lo hi w w := ⟨rfl, rfl, rfl, Nat.le_refl _, fun _ _ _ => rfl⟩
theorem Only.trans (h : Only lo hi w w') (k : Only lo hi w' w2) : Only lo hi w w2 :=
  ⟨k.os.trans h.os, k.tape.trans h.tape, k.output.trans h.output, Nat.le_trans h.size k.size, fun i hi h2 => (k.block i (Nat.lt_of_lt_of_le hi h.size) h2).trans (h.block i hi h2)⟩
theorem Only.below {B : Nat} (h : Only lo hi w w') (hB : B ≤ lo) (hw : B ≤ w.heap.size) : Below B w w' :=
  ⟨h.os, h.tape, h.output, h.size, fun k hk => h.block k (by omega) (by omega)⟩
theorem Only.of_below {B : Nat} (h : Below B w w') (hB : w.heap.size ≤ B) : Only lo hi w w' :=
  ⟨h.os, h.tape, h.output, h.size, fun k hk _ => h.block k (by omega)⟩
theorem Only.drew (h : Only lo hi w w') : Only lo hi w w'.drew := ⟨h.os, h.tape, h.output, h.size, h.block⟩
theorem Only.drewN (h : Only lo hi w w') (n : Nat) : Only lo hi w (w'.drewN n) := ⟨h.os, h.tape, h.output, h.size, h.block⟩
theorem Only.setCell (h : Only lo hi w w') {p : Addr} (h1 : lo ≤ p.block) (h2 : p.block < hi) (u : Value) : Only lo hi w (w'.setCell p u) :=
  ⟨h.os, h.tape, h.output, by simpa [World.setCell] using h.size, fun k hk hne => (Below.heap_setCell w' p u k (by omega)).trans (h.block k hk hne)⟩
theorem Only.alloc (h : Only lo hi w w') (o : Obj) : Only lo hi w (w'.alloc o) :=
  ⟨h.os, h.tape, h.output, Nat.le_trans h.size (by simp), fun k hk hne => (Below.heap_alloc w' o k (Nat.lt_of_lt_of_le hk h.size)).trans (h.block k hk hne)⟩
theorem Row.only {e : TypeId} {sz n c : Nat} {A : Option Addr} {xs : List Value} {lo' hi' : Nat} (h : Row w lo hi e sz A n c xs) (ho : Only lo' hi' w w') (hd : hi ≤ lo' ∨ hi' ≤ lo) : Row w' lo hi e sz A n c xs := by
  refine ⟨⟨h.1.1, ?_⟩, h.2.1, Nat.le_trans h.2.2 ho.size⟩
  rcases h.1.2 with hn | ⟨g, cap, cur, hv, hl, hg, rest⟩
  · exact .inl hn
  · refine .inr ⟨g, cap, cur, hv, hl, ?_, rest⟩
    injection hv with hA
    have := h.2.1 _ hA
    have h3 := (Array.getElem?_eq_some_iff.1 hg).1
    rw [ho.block g h3 (by simp at this; omega)]
    exact hg
theorem Row.far {e : TypeId} {sz n c : Nat} {A : Option Addr} {xs : List Value} (h : Row w lo hi e sz A n c xs) {p : Addr} (hp : p.block < lo ∨ hi ≤ p.block) (u : Value) : Row (w.setCell p u) lo hi e sz A n c xs :=
  h.only ((Only.refl p.block (p.block + 1) w).setCell (Nat.le_refl _) (Nat.lt_succ_self _) u) (by omega)
/-- the beginning of a row -/
theorem Row.short {e : TypeId} {sz n c m : Nat} {A : Option Addr} {xs ys : List Value} (h : Row w lo hi e sz A n c (xs ++ ys)) (hx : xs.length = m * sz) (hm : m ≤ n) : Row w lo hi e sz A m c xs := by
  refine ⟨⟨hx, ?_⟩, h.2.1, h.2.2⟩
  rcases h.1.2 with ⟨hv, hn⟩ | ⟨g, cap, cur, hv, hlo, hg, h1, h2, h3, h4⟩
  · injection hv with hA hn0 hc0
    subst hA hc0
    exact .inl ⟨by rw [show m = 0 by omega], by omega⟩
  · injection hv with hA _ hc0
    subst hA hc0
    refine .inr ⟨g, c, cur, rfl, hlo, hg, by omega, h2, h3, ?_⟩
    have e1 : cur.toList.take (m * sz) = (cur.toList.take (n * sz)).take (m * sz) := by
      rw [List.take_take, Nat.min_eq_left (Nat.mul_le_mul_right _ hm)]
    rw [e1, h4, ← hx, List.take_left]
theorem below_drewN {B : Nat} {a w : World} (h : Below B a w) (n : Nat) : Below B a (w.drewN n) := ⟨h.os, h.tape, h.output, h.size, h.block⟩
/-- a store into an owned row -/
theorem Row.stored {e : TypeId} {sz n c : Nat} {A : Option Addr} {xs : List Value} {g : Nat} (h : Row w lo hi e sz A n c xs) (hA : A = some ⟨g, 0, none⟩) (j : Nat) (u : Value) :
    Row (w.setCell ⟨g, j, none⟩ u) lo hi e sz A n c (xs.set j u) := by
  subst hA
  exact ⟨(h.1.stored j u).1, h.2.1, by simpa using h.2.2⟩
/-- a cell of an owned row, and that it may be written -/
theorem Row.int {A : Option Addr} {e : TypeId} {n c k : Nat} {xs : List Int} (h : Row w lo hi e 1 A n c (iv xs)) (hk : k < n) :
    ∃ g x, A = some ⟨g, 0, none⟩ ∧ lo ≤ g ∧ g < hi ∧ Hid (xs[k]? = some x) ∧ w.cell? ⟨g, k, none⟩ = some (.int .i64 x) ∧ w.frozen? ⟨g, k, none⟩ = false := by
  obtain ⟨g, rfl, h1, h2⟩ := h.form (by omega)
  have hc := h.1.cellAt k (by omega)
  have hl := h.len
  rw [iv_len] at hl
  have hx : xs[k]? = some (xs[k]'(by omega)) := List.getElem?_eq_getElem (by omega)
  refine ⟨g, _, rfl, h1, h2, hx, ?_, h.1.frozenAt k⟩
  rw [hc, iv_get, hx]
  rfl
end

theorem Sees.int {w : World} {A : Option Addr} {n : Nat} {xs : List Int} (h : Sees w A n 1 (iv xs)) {k : Nat} (hk : k < n) :
    ∃ ad x, A = some ad ∧ ad.block < w.heap.size ∧ Hid (xs[k]? = some x) ∧ w.cell? (ad.add k) = some (.int .i64 x) := by
  obtain ⟨ad, u, hA, hb, hu, hc⟩ := h.at1 hk
  rw [iv_get] at hu
  obtain ⟨x, hx, rfl⟩ := Option.map_eq_some_iff.1 hu
  exact ⟨ad, x, hA, hb, hx, hc⟩
theorem Sees.ilen {w : World} {A : Option Addr} {n : Nat} {xs : List Int} (h : Sees w A n 1 (iv xs)) : xs.length = n := by
  have := h.len
  rw [iv_len] at this
  omega

theorem hide {p : Prop} (h : p) : Hid p := h
theorem quiet_b {P : Program} {f : FuncId} {args : Array Value} {w : World} {r : Ending} (h : Calls P f args w fun e w' => e = r ∧ ∃ q, w' = w.drewN q) : Calls P f args w fun e w' => e = r ∧ Below w.heap.size w w' :=
  h.mono fun _ _ ⟨he, q, hq⟩ => ⟨he, hq ▸ below_drewN (Below.refl _ _) q⟩
/-- a place at which the walk stands still -/
structure Halted (p : Prop) : Prop where
  out : p
theorem halt_here {p : Prop} (h : Halted p) : p := h.out

section
variable {P : Program}
/-- append onto a row of the call's own, whatever the source -/
theorem run_append_sees (w : World) (lo hi : Nat) (t ty e : TypeId) (i : TypeInfo) (z : Value) (sz bytes : Nat) (ht : P.underlying t = some (.slice e)) (hi0 : P.info? e = some i) (hz : i.zero = some z)
    (hsize : i.size = sz) (hby : i.bytes = bytes) (hzs : z.cells.size = sz) (hsz : 0 < sz)
    (A : Option Addr) (n c : Nat) (xs : List Value) (hr : Row w lo hi e sz A n c xs) (B : Option Addr) (m d : Nat) (ys : List Value) (hs : Sees w B m sz ys) (h1 : ∀ u ∈ ys, u.oneCell' = true)
    (h63 : n + m ≤ maxLen) (hbytes : (n + m) * bytes ≤ 140737488355328) (hlo : lo ≤ w.heap.size) :
    ∃ A' c' w', (Builtin.append_ #[t, t] ty #[.slice A n c, .slice B m d]).run P w = .ok (.slice A' (n + m) c') w' ∧ Row w' lo w'.heap.size e sz A' (n + m) c' (xs ++ ys) ∧ Only lo hi w w' ∧
      (∀ ad, A' = some ad → A = some ad ∨ w.heap.size ≤ ad.block) := by
  cases B with
  | none =>
    have hm : m = 0 ∧ ys = [] := by
      have hl := hs.len
      rcases ys with _ | ⟨y, ys⟩
      · refine ⟨?_, rfl⟩
        simp only [List.length_nil] at hl
        rcases Nat.mul_eq_zero.1 hl.symm with h | h
        · exact h
        · omega
      · obtain ⟨ad, h, _⟩ := hs.2 0 y rfl
        cases h
    obtain ⟨rfl, rfl⟩ := hm
    refine ⟨A, c, w, ?_, ?_, Only.refl _ _ _, fun ad h => .inl h⟩
    · have hnc := hr.cap
      cases A with
      | none => simp [Builtin.append_, run_underlying ht, sizeOf, typeInfo, hi0, Builtin.lenOf, Builtin.firstCells, hnc.1]
      | some ad => simp [Builtin.append_, run_underlying ht, sizeOf, typeInfo, hi0, Builtin.lenOf, Builtin.firstCells, hnc.1, storeCells]
    · simpa using hr.more (Nat.le_refl _) hr.2.2 (Nat.le_refl _)
  | some bd =>
    obtain ⟨v', w', hrun, h2, h3, _, h5⟩ := run_append_own_at (P := P) w lo t ty e i z sz bytes ht hi0 hz hsize hby hzs hsz (.slice A n c) n xs hr.1 bd m d ys hs.len
      (fun j u hu => by
        obtain ⟨ad, h, _, hc⟩ := hs.2 j u hu
        injection h with h
        subst h
        exact hc) h1 h63 hbytes hlo
    have hlt : ∀ k, v'.ownBlock = some k → k < w'.heap.size := fun k hk => (h2.lt k hk).2
    obtain ⟨A', c', rfl, hrow⟩ := Row.of_own h2 hlt (Nat.le_refl _)
    refine ⟨A', c', w', hrun, hrow, ⟨h3.os, h3.tape, h3.output, h3.size, fun k hk hne => h3.block k hk (fun he => ?_)⟩, fun ad had => ?_⟩
    · have := hr.blk k he.symm
      omega
    · subst had
      rcases hrow.1.2 with ⟨hv, _⟩ | ⟨g, cap, cur, hv, _⟩
      · cases hv
      · injection hv with hv
        injection hv with hv
        subst hv
        rcases h5 with h5 | h5
        · left
          rcases hr.1.2 with ⟨hv, _⟩ | ⟨g', cap', cur', hv, _⟩
          · injection hv with hv
            subst hv
            simp [Value.ownBlock] at h5
          · injection hv with hv
            subst hv
            simp [Value.ownBlock] at h5
            rw [h5]
        · right
          simp only [Value.ownBlock, Option.some.injEq] at h5
          show w.heap.size ≤ g
          omega

theorem wpList_append_sees (w : World) {ops : Array Oper} {rest : List Oper} {o : Oper} {a : Act} {Q : Exit → Act → World → Prop} (hgd : o.guard = none) (s x : Operand) (t : TypeId)
    (ho : o.op = .call { callee := .builtin .append, args := #[s, x], argTypes := #[t, t] })
    (lo hi : Nat) (e : TypeId) (i : TypeInfo) (z : Value) (sz bytes : Nat) (ht : P.underlying t = some (.slice e)) (hi0 : P.info? e = some i) (hz : i.zero = some z)
    (hsize : i.size = sz) (hby : i.bytes = bytes) (hzs : z.cells.size = sz) (hsz : 0 < sz)
    (A : Option Addr) (n c : Nat) (xs : List Value) (hA : a.eval s = .slice A n c) (hr : Row w lo hi e sz A n c xs)
    (B : Option Addr) (m d : Nat) (ys : List Value) (hB : a.eval x = .slice B m d) (hs : Sees w B m sz ys) (h1 : ∀ u ∈ ys, u.oneCell' = true)
    (h63 : n + m ≤ maxLen) (hbytes : (n + m) * bytes ≤ 140737488355328) (hlo : lo ≤ w.heap.size)
    (h : ∀ A' c' w', Row w' lo w'.heap.size e sz A' (n + m) c' (xs ++ ys) → Only lo hi w w' → (∀ ad, A' = some ad → A = some ad ∨ w.heap.size ≤ ad.block) → wpList P ops Q rest (a.put o.dst (.slice A' (n + m) c')) w') :
    wpList P ops Q (o :: rest) a w := by
  refine wpList_plain hgd fun K hK => ?_
  obtain ⟨A', c', w', hr', h2, h3, h4⟩ := run_append_sees (P := P) w lo hi t o.type e i z sz bytes ht hi0 hz hsize hby hzs hsz A n c xs hr B m d ys hs h1 h63 hbytes hlo
  unfold Oper.wp execOp
  simp only [ho, resolve, invoke, builtin, Sem.run_bind, Sem.run_pure, Result.andThen_ok, List.map_toArray, List.map_cons, List.map_nil, hA, hB, hr']
  exact hK _ _ (h A' c' w' h2 h3 h4)
end

theorem step_append_sees {P : Program} (w : World) {ops : Array Oper} {o : Oper} {a : Act} {K : Act → World → Prop} {Q : Exit → Act → World → Prop} {E : Prop} (hgd : o.guard = none) (s x : Operand) (t : TypeId)
    (ho : o.op = .call { callee := .builtin .append, args := #[s, x], argTypes := #[t, t] })
    (lo hi : Nat) (e : TypeId) (i : TypeInfo) (z : Value) (sz bytes : Nat) (ht : P.underlying t = some (.slice e)) (hi0 : P.info? e = some i) (hz : i.zero = some z)
    (hsize : i.size = sz) (hby : i.bytes = bytes) (hzs : z.cells.size = sz) (hsz : 0 < sz)
    (A : Option Addr) (n c : Nat) (xs : List Value) (hA : a.eval s = .slice A n c) (hr : Row w lo hi e sz A n c xs)
    (B : Option Addr) (m d : Nat) (ys : List Value) (hB : a.eval x = .slice B m d) (hs : Sees w B m sz ys) (h1 : ∀ u ∈ ys, u.oneCell' = true)
    (h63 : n + m ≤ maxLen) (hbytes : (n + m) * bytes ≤ 140737488355328) (hlo : lo ≤ w.heap.size)
    (h : ∀ A' c' w', Row w' lo w'.heap.size e sz A' (n + m) c' (xs ++ ys) ∧ Only lo hi w w' → K (a.put o.dst (.slice A' (n + m) c')) w') :
    if Region.wanted o (yielded ops a.tmps) = true then Oper.wp P o a w K Q else E := by
  have hw : Region.wanted o (yielded ops a.tmps) = true := by simp [Region.wanted, hgd]
  rw [if_pos hw]
  obtain ⟨A', c', w', hr', h2, h3, h4⟩ := run_append_sees (P := P) w lo hi t o.type e i z sz bytes ht hi0 hz hsize hby hzs hsz A n c xs hr B m d ys hs h1 h63 hbytes hlo
  unfold Oper.wp execOp
  simp only [ho, resolve, invoke, builtin, Sem.run_bind, Sem.run_pure, Result.andThen_ok, List.map_toArray, List.map_cons, List.map_nil, hA, hB, hr']
  exact h A' c' w' ⟨h2, h3⟩

/-- a block that is known whole -/
def Blk (w : World) (g : Nat) (e : TypeId) (cs : List Value) : Prop := w.heap[g]? = some (.cells cs.toArray e (0, 0))

section
variable {w w' : World} {g : Nat} {e : TypeId} {cs : List Value}
theorem Blk.lt (h : Blk w g e cs) : g < w.heap.size := (Array.getElem?_eq_some_iff.1 h).1
theorem Blk.cell (h : Blk w g e cs) {i : Nat} {u : Value} (hu : cs[i]? = some u) : w.cell? ⟨g, i, none⟩ = some u := by
  rw [cell_of_row w g i cs.toArray e (0, 0) h]
  simpa using hu
theorem Blk.some_cell (h : Blk w g e cs) {i : Nat} (hi : i < cs.length) : ∃ u, w.cell? ⟨g, i, none⟩ = some u := ⟨_, h.cell (List.getElem?_eq_getElem hi)⟩
theorem Blk.frozen (h : Blk w g e cs) (i : Nat) : w.frozen? ⟨g, i, none⟩ = false := by
  unfold Blk at h
  simp [World.frozen?, h]
theorem Blk.drew (h : Blk w g e cs) : Blk w.drew g e cs := h
theorem Blk.drewN (h : Blk w g e cs) (n : Nat) : Blk (w.drewN n) g e cs := h
theorem Blk.set (h : Blk w g e cs) (i : Nat) (u : Value) : Blk (w.setCell ⟨g, i, none⟩ u) g e (cs.set i u) := by
  unfold Blk at h ⊢
  simp [World.setCell, Array.getElem?_modify, h]
theorem Blk.far (h : Blk w g e cs) {p : Addr} (hp : g ≠ p.block) (u : Value) : Blk (w.setCell p u) g e cs := (Below.heap_setCell w p u g hp).trans h
theorem Blk.alloc (h : Blk w g e cs) (o : Obj) : Blk (w.alloc o) g e cs := (Below.heap_alloc w o g h.lt).trans h
theorem Blk.only {lo hi : Nat} (h : Blk w g e cs) (ho : Only lo hi w w') (hd : g < lo ∨ hi ≤ g) : Blk w' g e cs := (ho.block g h.lt hd).trans h
theorem Blk.below {B : Nat} (h : Blk w g e cs) (hb : Below B w w') (hg : g < B) : Blk w' g e cs := (hb.block g hg).trans h
theorem Blk.new (w : World) (e : TypeId) (cs : Array Value) : Blk (w.alloc (.cells cs e)) w.heap.size e cs.toList := by
  have := heap_alloc_new w (.cells cs e)
  simpa [Blk] using this
theorem Blk.sees {off n sz : Nat} {pre xs post : List Value} (h : Blk w g e (pre ++ xs ++ post)) (ho : pre.length = off) (hn : xs.length = n * sz) : Sees w (some ⟨g, off, none⟩) n sz xs := by
  refine ⟨hn, fun j u hu => ⟨_, rfl, h.lt, ?_⟩⟩
  rw [Addr.add_lit]
  refine h.cell ?_
  have hj := (List.getElem?_eq_some_iff.1 hu).1
  rw [List.append_assoc, List.getElem?_append_right (by omega), List.getElem?_append_left (by omega)]
  rw [← hu, ← ho, Nat.add_sub_cancel_left]
/-- the block behind an owned row -/
theorem Row.block {lo hi sz n c : Nat} {A : Option Addr} {xs : List Value} (h : Row w lo hi e sz A n c xs) {ad : Addr} (hA : A = some ad) :
    ∃ g post, A = some ⟨g, 0, none⟩ ∧ lo ≤ g ∧ g < hi ∧ Blk w g e (xs ++ post) ∧ (xs ++ post).length = c * sz := by
  rcases h.1.2 with ⟨hv, _⟩ | ⟨g, cap, cur, hv, hlo, hg, h1, h2, h3, h4⟩
  · injection hv with hv
    rw [hv] at hA
    cases hA
  · injection hv with hv _ hcap
    subst hcap
    refine ⟨g, cur.toList.drop (n * sz), hv, hlo, by have := h.2.1 _ hv; simpa using this, ?_, ?_⟩
    · rw [← h4, List.take_append_drop]
      simpa [Blk] using hg
    · rw [← h4, List.take_append_drop]
      simpa using h3
theorem Row.of_blk {lo hi sz n c : Nat} {xs post : List Value} (h : Blk w g e (xs ++ post)) (hl : (xs ++ post).length = c * sz) (hx : xs.length = n * sz) (hnc : n ≤ c) (hc : c ≤ maxLen) (hlo : lo ≤ g) (hhi : g < hi) (hw : hi ≤ w.heap.size) :
    Row w lo hi e sz (some ⟨g, 0, none⟩) n c xs := by
  refine ⟨⟨hx, .inr ⟨g, c, (xs ++ post).toArray, rfl, hlo, h, hnc, hc, by simpa using hl, ?_⟩⟩, fun ad ha => ?_, hw⟩
  · simp only [← hx]
    simp
  · obtain rfl := Option.some.inj ha
    exact hhi
end

theorem Row.none_ (w : World) (lo hi : Nat) (e : TypeId) (sz : Nat) (h : hi ≤ w.heap.size) : Row w lo hi e sz none 0 0 [] :=
  ⟨World.ownsRow_nil w lo e sz, (fun ad ha => by cases ha), h⟩

end Go.Proofs.Ytjmceapdokkleaa
