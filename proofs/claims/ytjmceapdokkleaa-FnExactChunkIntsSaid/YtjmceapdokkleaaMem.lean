/-
  Laws on a block that is known whole: append within the room, copy, clear; a slice expression out of its bounds. No program in sight.
-/
import Derived.Test.YtjmceapdokkleaaBase
import Derived.Laws.Panics
import Derived.Defers
import Derived.Recover
import Derived.StillTailTactics
namespace Go.Proofs.Ytjmceapdokkleaa
open Go.RowKit
set_option linter.unusedVariables false

section
variable {P : Program}

theorem only_setRow (w : World) (g : Nat) (cs : Array Value) : Only g (g + 1) w (w.setRow g cs) :=
  ⟨rfl, rfl, rfl, by simp, fun k _ h => setRow_other w g k cs (by omega)⟩

theorem Sees.load {w : World} {B : Option Addr} {m sz d : Nat} {ys : List Value} (hs : Sees w B m sz ys) {k : Nat} (hk : k ≤ m) :
    (Builtin.firstCells sz k (.slice B m d)).run P w = .ok (ys.take (k * sz)).toArray w := by
  have hl := hs.len
  have hkm : k * sz ≤ m * sz := Nat.mul_le_mul_right _ hk
  cases B with
  | none =>
    rw [run_firstCells_none]
    have : ys = [] := by
      rcases ys with _ | ⟨y, ys⟩
      · rfl
      · obtain ⟨ad, h, _⟩ := hs.2 0 y rfl
        cases h
    subst this
    simp
  | some bd =>
    refine run_firstCells_some (P := P) w sz k bd m d _ (by rw [List.length_take]; omega) fun j u hu => ?_
    rw [List.getElem?_take] at hu
    split at hu
    · obtain ⟨ad, h, _, hc⟩ := hs.2 j u hu
      injection h with h
      subst h
      exact hc
    · cases hu

/-- append within the room of a block that is known whole -/
theorem run_append_blk (w : World) (t ty e : TypeId) (i : TypeInfo) (sz : Nat) (ht : P.underlying t = some (.slice e)) (hi : P.info? e = some i) (hz : i.size = sz)
    (g k c : Nat) (cs : List Value) (hb : Blk w g e cs) (hc : cs.length = c * sz) (B : Option Addr) (m d : Nat) (ys : List Value) (hs : Sees w B m sz ys) (h1 : ∀ u ∈ ys, u.oneCell' = true) (hroom : k + m ≤ c) :
    ∃ w', (Builtin.append_ #[t, t] ty #[.slice (some ⟨g, 0, none⟩) k c, .slice B m d]).run P w = .ok (.slice (some ⟨g, 0, none⟩) (k + m) c) w' ∧
      Blk w' g e (cs.take (k * sz) ++ ys ++ cs.drop ((k + m) * sz)) ∧ Only g (g + 1) w w' ∧ w'.heap.size = w.heap.size := by
  subst hz
  have hl := hs.len
  cases B with
  | none =>
    have hy : ys = [] := by
      rcases ys with _ | ⟨y, ys⟩
      · rfl
      · obtain ⟨ad, h, _⟩ := hs.2 0 y rfl
        cases h
    subst hy
    have hm : m * i.size = 0 := by simpa using hl.symm
    refine ⟨w, ?_, ?_, Only.refl _ _ _, rfl⟩
    · simp [Builtin.append_, run_underlying ht, sizeOf, typeInfo, hi, Builtin.lenOf, Builtin.firstCells, hroom, storeCells]
    · rw [Nat.add_mul, hm, Nat.add_zero, List.append_nil, List.take_append_drop]
      exact hb
  | some bd =>
    have hr := run_append_room (P := P) w t ty e i ht hi g k c cs.toArray hb bd m d ys hl (fun j u hu => by
      obtain ⟨ad, h, _, hc⟩ := hs.2 j u hu
      injection h with h
      subst h
      exact hc) h1 hroom (by
        simp only [List.size_toArray]
        rw [hl, hc, ← Nat.add_mul]
        exact Nat.mul_le_mul_right _ hroom)
    refine ⟨_, hr, ?_, only_setRow _ _ _, by simp⟩
    have := setRow_heap w g cs.toArray (cs.toArray.toList.take (k * i.size) ++ ys ++ cs.toArray.toList.drop (k * i.size + ys.length)).toArray e (0, 0) hb
    rw [Nat.add_mul, ← hl]
    exact this

theorem wpList_append_blk (w : World) {ops : Array Oper} {rest : List Oper} {o : Oper} {a : Act} {Q : Exit → Act → World → Prop} (hgd : o.guard = none) (s x : Operand) (t : TypeId)
    (ho : o.op = .call { callee := .builtin .append, args := #[s, x], argTypes := #[t, t] })
    (e : TypeId) (i : TypeInfo) (sz : Nat) (ht : P.underlying t = some (.slice e)) (hi : P.info? e = some i) (hz : i.size = sz)
    (g k c : Nat) (cs : List Value) (hb : Blk w g e cs) (hc : cs.length = c * sz) (hA : a.eval s = .slice (some ⟨g, 0, none⟩) k c)
    (B : Option Addr) (m d : Nat) (ys : List Value) (hB : a.eval x = .slice B m d) (hs : Sees w B m sz ys) (h1 : ∀ u ∈ ys, u.oneCell' = true) (hroom : k + m ≤ c)
    (h : ∀ w', Blk w' g e (cs.take (k * sz) ++ ys ++ cs.drop ((k + m) * sz)) → Only g (g + 1) w w' → w'.heap.size = w.heap.size → wpList P ops Q rest (a.put o.dst (.slice (some ⟨g, 0, none⟩) (k + m) c)) w') :
    wpList P ops Q (o :: rest) a w := by
  refine wpList_plain hgd fun K hK => ?_
  obtain ⟨w', hr', h2, h3, h4⟩ := run_append_blk (P := P) w t o.type e i sz ht hi hz g k c cs hb hc B m d ys hs h1 hroom
  unfold Oper.wp execOp
  simp only [ho, resolve, invoke, builtin, Sem.run_bind, Sem.run_pure, Result.andThen_ok, List.map_toArray, List.map_cons, List.map_nil, hA, hB, hr']
  exact hK _ _ (h w' h2 h3 h4)

/-- copy into a block that is known whole -/
theorem run_copy_blk (w : World) (t ty e : TypeId) (i : TypeInfo) (sz : Nat) (ht : P.underlying t = some (.slice e)) (hi : P.info? e = some i) (hz : i.size = sz)
    (g off dl dc : Nat) (cs : List Value) (hb : Blk w g e cs) (hc : off + dl * sz ≤ cs.length) (B : Option Addr) (m d : Nat) (ys : List Value) (hs : Sees w B m sz ys) (h1 : ∀ u ∈ ys, u.oneCell' = true) :
    ∃ w', (Builtin.copy_ #[t, t] ty #[.slice (some ⟨g, off, none⟩) dl dc, .slice B m d]).run P w = .ok (.int .i64 ((min m dl : Nat) : Int)) w' ∧
      Blk w' g e (cs.take off ++ ys.take (min m dl * sz) ++ cs.drop (off + min m dl * sz)) ∧ Only g (g + 1) w w' ∧ w'.heap.size = w.heap.size := by
  subst hz
  have hl := hs.len
  have hle : min m dl * i.size ≤ m * i.size := Nat.mul_le_mul_right _ (Nat.min_le_left _ _)
  have hle2 : min m dl * i.size ≤ dl * i.size := Nat.mul_le_mul_right _ (Nat.min_le_right _ _)
  have hlt : (ys.take (min m dl * i.size)).length = min m dl * i.size := by rw [List.length_take]; omega
  have hld := hs.load (P := P) (d := d) (k := min m dl) (Nat.min_le_left _ _)
  have hst := run_storeCells_at P g off e (ys.take (min m dl * i.size)) 0 cs.toArray w hb (by simp only [List.size_toArray, Nat.add_zero]; omega) (fun v hv => h1 v (List.mem_of_mem_take hv))
  simp only [Nat.add_zero, hlt] at hst
  refine ⟨w.setRow g (cs.take off ++ ys.take (min m dl * i.size) ++ cs.drop (off + min m dl * i.size)).toArray, ?_, setRow_heap w g cs.toArray _ e (0, 0) hb, only_setRow _ _ _, by simp⟩
  have hmin : Nat.min m dl = min m dl := rfl
  simp [Builtin.copy_, run_underlying ht, sizeOf, typeInfo, hi, Builtin.lenOf, hmin, hld, hst, goInt]

theorem wpList_copy_blk (w : World) {ops : Array Oper} {rest : List Oper} {o : Oper} {a : Act} {Q : Exit → Act → World → Prop} (hgd : o.guard = none) (s x : Operand) (t : TypeId)
    (ho : o.op = .call { callee := .builtin .copy, args := #[s, x], argTypes := #[t, t] })
    (e : TypeId) (i : TypeInfo) (sz : Nat) (ht : P.underlying t = some (.slice e)) (hi : P.info? e = some i) (hz : i.size = sz)
    (g off dl dc : Nat) (cs : List Value) (hb : Blk w g e cs) (hc : off + dl * sz ≤ cs.length) (hA : a.eval s = .slice (some ⟨g, off, none⟩) dl dc)
    (B : Option Addr) (m d : Nat) (ys : List Value) (hB : a.eval x = .slice B m d) (hs : Sees w B m sz ys) (h1 : ∀ u ∈ ys, u.oneCell' = true)
    (h : ∀ w', Blk w' g e (cs.take off ++ ys.take (min m dl * sz) ++ cs.drop (off + min m dl * sz)) → Only g (g + 1) w w' → w'.heap.size = w.heap.size → wpList P ops Q rest (a.put o.dst (.int .i64 ((min m dl : Nat) : Int))) w') :
    wpList P ops Q (o :: rest) a w := by
  refine wpList_plain hgd fun K hK => ?_
  obtain ⟨w', hr', h2, h3, h4⟩ := run_copy_blk (P := P) w t o.type e i sz ht hi hz g off dl dc cs hb hc B m d ys hs h1
  unfold Oper.wp execOp
  simp only [ho, resolve, invoke, builtin, Sem.run_bind, Sem.run_pure, Result.andThen_ok, List.map_toArray, List.map_cons, List.map_nil, hA, hB, hr']
  exact hK _ _ (h w' h2 h3 h4)

/-- clear of a part of a block that is known whole -/
theorem run_clear_blk (w : World) (t ty e : TypeId) (i : TypeInfo) (z : Value) (sz : Nat) (ht : P.underlying t = some (.slice e)) (hi : P.info? e = some i) (hz0 : i.zero = some z) (hzs : z.cells.size = sz) (hz1 : ∀ u ∈ z.cells.toList, u.oneCell' = true) (hsz : 0 < sz)
    (g off m c : Nat) (cs : List Value) (hb : Blk w g e cs) (hc : off + m * sz ≤ cs.length) (hm : 0 < m) :
    ∃ w', (Builtin.clear_ #[t] ty #[.slice (some ⟨g, off, none⟩) m c]).run P w = .ok (.tuple #[]) w' ∧
      Blk w' g e (cs.take off ++ (Builtin.zeroCells z.cells m).toList ++ cs.drop (off + m * sz)) ∧ Only g (g + 1) w w' ∧ w'.heap.size = w.heap.size := by
  have hl : (Builtin.zeroCells z.cells m).toList.length = m * sz := by rw [Array.length_toList, size_zeroCells, hzs]
  have hst := run_storeCells_at P g off e (Builtin.zeroCells z.cells m).toList 0 cs.toArray w hb (by simp only [List.size_toArray, Nat.add_zero]; omega) (by
    intro v hv
    simp only [Builtin.zeroCells, Array.toList_map, List.mem_map] at hv
    obtain ⟨j, _, rfl⟩ := hv
    have hlt : j % z.cells.size < z.cells.size := Nat.mod_lt _ (by omega)
    rw [getElem!_pos z.cells _ hlt]
    exact hz1 _ (by simp))
  simp only [Nat.add_zero, hl] at hst
  refine ⟨w.setRow g (cs.take off ++ (Builtin.zeroCells z.cells m).toList ++ cs.drop (off + m * sz)).toArray, ?_, setRow_heap w g cs.toArray _ e (0, 0) hb, only_setRow _ _ _, by simp⟩
  obtain ⟨m, rfl⟩ : ∃ k, m = k + 1 := ⟨m - 1, by omega⟩
  simp [Builtin.clear_, run_underlying ht, zeroValue, typeInfo, hi, hz0, hst]

theorem wpList_clear_blk (w : World) {ops : Array Oper} {rest : List Oper} {o : Oper} {a : Act} {Q : Exit → Act → World → Prop} (hgd : o.guard = none) (s : Operand) (t : TypeId)
    (ho : o.op = .call { callee := .builtin .clear, args := #[s], argTypes := #[t] })
    (e : TypeId) (i : TypeInfo) (z : Value) (sz : Nat) (ht : P.underlying t = some (.slice e)) (hi : P.info? e = some i) (hz0 : i.zero = some z) (hzs : z.cells.size = sz) (hz1 : ∀ u ∈ z.cells.toList, u.oneCell' = true) (hsz : 0 < sz)
    (g off m c : Nat) (cs : List Value) (hb : Blk w g e cs) (hc : off + m * sz ≤ cs.length) (hm : 0 < m) (hA : a.eval s = .slice (some ⟨g, off, none⟩) m c)
    (h : ∀ w', Blk w' g e (cs.take off ++ (Builtin.zeroCells z.cells m).toList ++ cs.drop (off + m * sz)) → Only g (g + 1) w w' → w'.heap.size = w.heap.size → wpList P ops Q rest (a.put o.dst (.tuple #[])) w') :
    wpList P ops Q (o :: rest) a w := by
  refine wpList_plain hgd fun K hK => ?_
  obtain ⟨w', hr', h2, h3, h4⟩ := run_clear_blk (P := P) w t o.type e i z sz ht hi hz0 hzs hz1 hsz g off m c cs hb hc hm
  unfold Oper.wp execOp
  simp only [ho, resolve, invoke, builtin, Sem.run_bind, Sem.run_pure, Result.andThen_ok, List.map_toArray, List.map_cons, List.map_nil, hA, hr']
  exact hK _ _ (h w' h2 h3 h4)

/-- places at which the walk stands still: a copy, a clear -/
theorem halt_copy {ops : Array Oper} {rest : List Oper} {a : Act} {Q : Exit → Act → World → Prop} {w : World} {dst : Option Tmp} {ar : Array Operand} {ts : Array TypeId} {ty : TypeId} {pos : String} {af : Array Edge} {gd : Option (Nat × Bool)}
    (h : Halted (wpList P ops Q (⟨dst, .call { callee := .builtin .copy, args := ar, argTypes := ts }, ty, pos, af, gd⟩ :: rest) a w)) : wpList P ops Q (⟨dst, .call { callee := .builtin .copy, args := ar, argTypes := ts }, ty, pos, af, gd⟩ :: rest) a w := h.out
theorem halt_clear {ops : Array Oper} {rest : List Oper} {a : Act} {Q : Exit → Act → World → Prop} {w : World} {dst : Option Tmp} {ar : Array Operand} {ts : Array TypeId} {ty : TypeId} {pos : String} {af : Array Edge} {gd : Option (Nat × Bool)}
    (h : Halted (wpList P ops Q (⟨dst, .call { callee := .builtin .clear, args := ar, argTypes := ts }, ty, pos, af, gd⟩ :: rest) a w)) : wpList P ops Q (⟨dst, .call { callee := .builtin .clear, args := ar, argTypes := ts }, ty, pos, af, gd⟩ :: rest) a w := h.out

/-- what a call that panics leaves: a panic of Go's own, memory as it was -/
def Panics (w : World) (e : Ending) (w' : World) : Prop := ∃ u pv, e = .panicked [{ v := .iface u pv, recovered := false }] ∧ Below w.heap.size w w'

theorem run_bounds {α : Type} (w : World) (k : IntKind) (x y : Int) (code : BoundsCode) :
    ∃ pv q, (boundsPanic k x y code : Sem α).run P w = .halt (.panic (.iface P.rt.boundsError pv)) (w.drewN q) := by
  unfold boundsPanic
  split
  · exact ⟨.agg #[.int .i64 (IntKind.i64.wrap x), .int .i64 y, .bool ((Question.extern "runtime.boundsError.signed" 2).cut (w.tape w.drawn (Question.extern "runtime.boundsError.signed" 2)) == 1), .int .u8 code.toNat], 1, by simp [runtimePanic, goPanic, go_sem, World.drewN]⟩
  · exact ⟨.agg #[.int .i64 (IntKind.i64.wrap x), .int .i64 y, .bool (k != .u64), .int .u8 code.toNat], 0, by simp [runtimePanic, goPanic, go_sem, World.drewN]⟩
theorem run_bound_out (w : World) (k : IntKind) (i : Int) (y : Nat) (code : BoundsCode) (ho : i < 0 ∨ (y : Int) < i) :
    ∃ pv q, (Instr.sliceBound (.int k i) y code).run P w = .halt (.panic (.iface P.rt.boundsError pv)) (w.drewN q) := by
  have hn : ¬ (0 ≤ i ∧ i ≤ (y : Int)) := by omega
  have e1 : (Instr.sliceBound (.int k i) y code).run P w = (boundsPanic k i y code).run P w := by
    simp [Instr.sliceBound, asIntOf, hn, go_sem]
  rw [e1]
  exact run_bounds w k i y code
theorem run_bound_in (w : World) (k : IntKind) (i : Int) (y : Nat) (code : BoundsCode) (h0 : 0 ≤ i) (h1 : i ≤ (y : Int)) : (Instr.sliceBound (.int k i) y code).run P w = .ok i.toNat w := by
  simp [Instr.sliceBound, asIntOf, h0, h1, go_sem]
/-- where a part from k on begins -/
def cutA (A : Option Addr) (c k sz : Nat) : Option Addr := if c = k then A else A.map (·.add (k * sz))
theorem cutA_some (g off c k sz : Nat) (h : ¬ c = k) : cutA (some ⟨g, off, none⟩) c k sz = some ⟨g, off + k * sz, none⟩ := by
  rw [cutA, if_neg h, Option.map_some, Addr.add_lit]
theorem cutA_zero (A : Option Addr) (c sz : Nat) : cutA A c 0 sz = A := by
  unfold cutA
  split
  · rfl
  · rw [Nat.zero_mul]
    cases A with
    | none => rfl
    | some a => rw [Option.map_some, Addr.add_zero']
theorem Sees.cutA {w : World} {A : Option Addr} {n sz : Nat} {xs : List Value} (h : Sees w A n sz xs) {k m c : Nat} (hkm : k + m ≤ n) (hc : n ≤ c) : Sees w (cutA A c k sz) m sz ((xs.drop (k * sz)).take (m * sz)) := h.cut hkm hc
/-- s[:j] -/
theorem run_slice_hi (w : World) (t e : TypeId) (i : TypeInfo) (ht : P.underlying t = some (.slice e)) (hi : P.info? e = some i) (A : Option Addr) (n c : Nat) (k : IntKind) (j : Nat) (hj : j ≤ c) :
    (Instr.slice t (.slice A n c) none (some (.int k (j : Int))) none).run P w = .ok (.slice A j c) w := by
  have hjj := run_bound_in (P := P) w k (j : Int) c .sliceAcap (by omega) (by omega)
  have hA : (if c = 0 then A else A.map (·.add (0 * i.size))) = A := cutA_zero A c i.size
  simp only [Nat.zero_mul] at hA
  simp [Instr.slice, run_underlying ht, Instr.sliceBounds, hjj, sizeOf, typeInfo, hi, hA]
/-- s[j:] -/
theorem run_slice_lo (w : World) (t e : TypeId) (i : TypeInfo) (sz : Nat) (ht : P.underlying t = some (.slice e)) (hi : P.info? e = some i) (hs : i.size = sz) (A : Option Addr) (n c : Nat) (k : IntKind) (j : Nat) (hj : j ≤ n) :
    (Instr.slice t (.slice A n c) (some (.int k (j : Int))) none none).run P w = .ok (.slice (cutA A c j sz) (n - j) (c - j)) w := by
  subst hs
  have hjj := run_bound_in (P := P) w k (j : Int) n .sliceB (by omega) (by omega)
  simp [Instr.slice, run_underlying ht, Instr.sliceBounds, hjj, sizeOf, typeInfo, hi, cutA]
/-- s[i:j] -/
theorem run_slice_mid (w : World) (t e : TypeId) (inf : TypeInfo) (sz : Nat) (ht : P.underlying t = some (.slice e)) (hi : P.info? e = some inf) (hs : inf.size = sz) (A : Option Addr) (n c : Nat) (k k2 : IntKind) (i j : Nat) (hij : i ≤ j) (hj : j ≤ c) :
    (Instr.slice t (.slice A n c) (some (.int k (i : Int))) (some (.int k2 (j : Int))) none).run P w = .ok (.slice (cutA A c i sz) (j - i) (c - i)) w := by
  subst hs
  have hjj := run_bound_in (P := P) w k2 (j : Int) c .sliceAcap (by omega) (by omega)
  have hii := run_bound_in (P := P) w k (i : Int) j .sliceB (by omega) (by omega)
  simp [Instr.slice, run_underlying ht, Instr.sliceBounds, hjj, hii, sizeOf, typeInfo, hi, cutA]
/-- s[i:j:m] -/
theorem run_slice3 (w : World) (t e : TypeId) (inf : TypeInfo) (sz : Nat) (ht : P.underlying t = some (.slice e)) (hi : P.info? e = some inf) (hs : inf.size = sz) (A : Option Addr) (n c : Nat) (k k2 k3 : IntKind) (i j m : Nat) (hij : i ≤ j) (hj : j ≤ m) (hm : m ≤ c) :
    (Instr.slice t (.slice A n c) (some (.int k (i : Int))) (some (.int k2 (j : Int))) (some (.int k3 (m : Int)))).run P w = .ok (.slice (cutA A m i sz) (j - i) (m - i)) w := by
  subst hs
  have hmm := run_bound_in (P := P) w k3 (m : Int) c .slice3Acap (by omega) (by omega)
  have hjj := run_bound_in (P := P) w k2 (j : Int) m .slice3B (by omega) (by omega)
  have hii := run_bound_in (P := P) w k (i : Int) j .slice3C (by omega) (by omega)
  simp [Instr.slice, run_underlying ht, Instr.sliceBounds, hmm, hjj, hii, sizeOf, typeInfo, hi, cutA]
/-- s[i:j:m] with i and j no ends of a part of the first m -/
theorem run_slice3_out (w : World) (t e : TypeId) (ht : P.underlying t = some (.slice e)) (A : Option Addr) (n c m : Nat) (k1 k2 k3 : IntKind) (i j : Int) (hm : m ≤ c) (ho : j < 0 ∨ (m : Int) < j ∨ i < 0 ∨ j < i) :
    ∃ pv q, (Instr.slice t (.slice A n c) (some (.int k1 i)) (some (.int k2 j)) (some (.int k3 m))).run P w = .halt (.panic (.iface P.rt.boundsError pv)) (w.drewN q) := by
  have hmm := run_bound_in (P := P) w k3 (m : Int) c .slice3Acap (by omega) (by omega)
  by_cases hj : j < 0 ∨ (m : Int) < j
  · obtain ⟨pv, q, hb⟩ := run_bound_out (P := P) w k2 j m .slice3B hj
    exact ⟨pv, q, by simp [Instr.slice, run_underlying ht, Instr.sliceBounds, hmm, hb]⟩
  · have hjj := run_bound_in (P := P) w k2 j m .slice3B (by omega) (by omega)
    obtain ⟨pv, q, hb⟩ := run_bound_out (P := P) w k1 i j.toNat .slice3C (by omega)
    exact ⟨pv, q, by simp [Instr.slice, run_underlying ht, Instr.sliceBounds, hmm, hjj, hb]⟩
/-- s[i:] with i no end of a part -/
theorem run_slice_low_out (w : World) (t e : TypeId) (ht : P.underlying t = some (.slice e)) (A : Option Addr) (n c : Nat) (k1 : IntKind) (i : Int) (ho : i < 0 ∨ (n : Int) < i) :
    ∃ pv q, (Instr.slice t (.slice A n c) (some (.int k1 i)) none none).run P w = .halt (.panic (.iface P.rt.boundsError pv)) (w.drewN q) := by
  obtain ⟨pv, q, hb⟩ := run_bound_out (P := P) w k1 i n .sliceB ho
  exact ⟨pv, q, by simp [Instr.slice, run_underlying ht, Instr.sliceBounds, hb]⟩
/-- s[i:j] with i and j no ends of a part of the memory -/
theorem run_slice2_out (w : World) (t e : TypeId) (ht : P.underlying t = some (.slice e)) (A : Option Addr) (n c : Nat) (k1 k2 : IntKind) (i j : Int) (ho : j < 0 ∨ (c : Int) < j ∨ i < 0 ∨ j < i) :
    ∃ pv q, (Instr.slice t (.slice A n c) (some (.int k1 i)) (some (.int k2 j)) none).run P w = .halt (.panic (.iface P.rt.boundsError pv)) (w.drewN q) := by
  by_cases hj : j < 0 ∨ (c : Int) < j
  · obtain ⟨pv, q, hb⟩ := run_bound_out (P := P) w k2 j c .sliceAcap hj
    exact ⟨pv, q, by simp [Instr.slice, run_underlying ht, Instr.sliceBounds, hb]⟩
  · have hjj := run_bound_in (P := P) w k2 j c .sliceAcap (by omega) (by omega)
    obtain ⟨pv, q, hb⟩ := run_bound_out (P := P) w k1 i j.toNat .sliceB (by omega)
    exact ⟨pv, q, by simp [Instr.slice, run_underlying ht, Instr.sliceBounds, hjj, hb]⟩
end
end Go.Proofs.Ytjmceapdokkleaa
