/-
  Laws on a block that is known whole: append of zeros beyond the room, copy whose source has more than is copied; slices.overlaps of an own block and any other memory. No program in sight.
-/
import Derived.Test.YtjmceapdokkleaaMem
import Derived.Lib.AppendZeros
import Derived.Laws.Externs
namespace Go.Proofs.Ytjmceapdokkleaa
open Go.RowKit
set_option linter.unusedVariables false
set_option linter.unusedSimpArgs false

section
variable {P : Program}

/-- append of m zeros onto the first k elements of a block that is known whole, beyond its room: a new block -/
theorem run_append_zeros (w : World) (t tn ty e : TypeId) (i : TypeInfo) (z : Value) (ki kn : IntKind) (ht : P.underlying t = some (.slice e)) (htn : P.underlying tn = some (.int kn)) (hi : P.info? e = some i) (hz : i.zero = some z) (hs : i.size = 1)
    (hby : i.bytes = 8) (g k c m : Nat) (cs : List Value) (hb : Blk w g e cs) (hk : k ≤ cs.length) (hm : 0 < m) (hroom : c < k + m) (hbytes : (k + m) * 8 ≤ 140737488355328) (M : Int) (hM : M = (m : Int)) :
    ∃ c' w', (Builtin.append_ #[t, tn] ty #[.slice (some ⟨g, 0, none⟩) k c, .int ki M]).run P w = .ok (.slice (some ⟨w.heap.size, 0, none⟩) (k + m) c') w' ∧
      k + m ≤ c' ∧ c' ≤ maxLen ∧ Blk w' w.heap.size e (cs.take k ++ (Builtin.zeroCells z.cells m).toList ++ (Builtin.zeroCells z.cells (c' - (k + m))).toList) ∧ Below w.heap.size w w' ∧ w'.heap.size = w.heap.size + 1 := by
  subst hM
  have hn : ¬ (k + m ≤ c) := by omega
  have hw : IntKind.i64.wrap (m : Int) = m := by rw [IntKind.wrap_i64]; omega
  have h63' : ¬ (9223372036854775807 < ((k : Int) + (m : Int))) := by omega
  have hfit := growslice_fits (bytes := 8) hroom hbytes
  have h48' : ¬ (281474976710656 < Builtin.nextslicecap (k + m) c * i.bytes) := by rw [hby]; omega
  have h48i : ¬ (281474976710656 < (m : Int) * (i.bytes : Int)) := by rw [hby]; omega
  have hneg : ¬ ((m : Int) < 0) := by omega
  have hm0 : ¬ (m = 0) := by omega
  have hold : (Builtin.firstCells i.size k (.slice (some ⟨g, 0, none⟩) k c)).run P w.drew = .ok (cs.take k).toArray w.drew := by
    rw [hs]
    refine run_firstCells_some (P := P) w.drew 1 k ⟨g, 0, none⟩ k c _ (by rw [List.length_take]; omega) fun j u hu => ?_
    rw [List.getElem?_take] at hu
    split at hu
    · rw [Addr.add_lit, Nat.zero_add]
      exact hb.cell hu
    · cases hu
  have hrun : (Builtin.append_ #[t, tn] ty #[.slice (some ⟨g, 0, none⟩) k c, .int ki (m : Int)]).run P w =
      .ok (.slice (some ⟨w.heap.size, 0, none⟩) (k + m) (grownCap w (k + m) c e)) (w.drew.alloc (.cells ((cs.take k).toArray ++ Builtin.zeroCells z.cells m ++ Builtin.zeroCells z.cells (grownCap w (k + m) c e - (k + m))) e)) := by
    rw [hs] at hold
    simp [Builtin.append_, run_underlying ht, run_underlying htn, sizeOf, typeInfo, zeroValue, hi, hz, hs, asInt, asIntOf, hw, hn, hneg, hm0, h63', h48', h48i, Question.forced, hold, newRow, grownCap]
  refine ⟨_, _, hrun, grownCap_ge _ _ _ _, grownCap_le_maxLen _ _ _ _ (by unfold maxLen; omega), ?_, ?_, by simp⟩
  · have := Blk.new w.drew e ((cs.take k).toArray ++ Builtin.zeroCells z.cells m ++ Builtin.zeroCells z.cells (grownCap w (k + m) c e - (k + m)))
    simpa using this
  · exact ((Below.refl _ _).drew).alloc (Nat.le_refl _) _

/-- copy into a block that is known whole; of the source only what is copied is asked -/
theorem run_copy_blk2 (w : World) (t ty e : TypeId) (i : TypeInfo) (sz : Nat) (ht : P.underlying t = some (.slice e)) (hi : P.info? e = some i) (hz : i.size = sz)
    (g off dl dc : Nat) (cs : List Value) (hb : Blk w g e cs) (hc : off + dl * sz ≤ cs.length) (B : Option Addr) (m d : Nat) (ys : List Value) (hs : Sees w B m sz ys) (h1 : ∀ u ∈ ys.take (min m dl * sz), u.oneCell' = true) :
    ∃ w', (Builtin.copy_ #[t, t] ty #[.slice (some ⟨g, off, none⟩) dl dc, .slice B m d]).run P w = .ok (.int .i64 ((min m dl : Nat) : Int)) w' ∧
      Blk w' g e (cs.take off ++ ys.take (min m dl * sz) ++ cs.drop (off + min m dl * sz)) ∧ Only g (g + 1) w w' ∧ w'.heap.size = w.heap.size := by
  subst hz
  have hl := hs.len
  have hle : min m dl * i.size ≤ m * i.size := Nat.mul_le_mul_right _ (Nat.min_le_left _ _)
  have hle2 : min m dl * i.size ≤ dl * i.size := Nat.mul_le_mul_right _ (Nat.min_le_right _ _)
  have hlt : (ys.take (min m dl * i.size)).length = min m dl * i.size := by rw [List.length_take]; omega
  have hld := hs.load (P := P) (d := d) (k := min m dl) (Nat.min_le_left _ _)
  have hst := run_storeCells_at P g off e (ys.take (min m dl * i.size)) 0 cs.toArray w hb (by simp only [List.size_toArray, Nat.add_zero]; omega) h1
  simp only [Nat.add_zero, hlt] at hst
  refine ⟨w.setRow g (cs.take off ++ ys.take (min m dl * i.size) ++ cs.drop (off + min m dl * i.size)).toArray, ?_, setRow_heap w g cs.toArray _ e (0, 0) hb, only_setRow _ _ _, by simp⟩
  have hmin : Nat.min m dl = min m dl := rfl
  simp [Builtin.copy_, run_underlying ht, sizeOf, typeInfo, hi, Builtin.lenOf, hmin, hld, hst, goInt]

theorem wpList_copy_blk2 (w : World) {ops : Array Oper} {rest : List Oper} {o : Oper} {a : Act} {Q : Exit → Act → World → Prop} (hgd : o.guard = none) (s x : Operand) (t : TypeId)
    (ho : o.op = .call { callee := .builtin .copy, args := #[s, x], argTypes := #[t, t] })
    (e : TypeId) (i : TypeInfo) (sz : Nat) (ht : P.underlying t = some (.slice e)) (hi : P.info? e = some i) (hz : i.size = sz)
    (g off dl dc : Nat) (cs : List Value) (hb : Blk w g e cs) (hc : off + dl * sz ≤ cs.length) (hA : a.eval s = .slice (some ⟨g, off, none⟩) dl dc)
    (B : Option Addr) (m d : Nat) (ys : List Value) (hB : a.eval x = .slice B m d) (hs : Sees w B m sz ys) (h1 : ∀ u ∈ ys.take (min m dl * sz), u.oneCell' = true)
    (h : ∀ w', Blk w' g e (cs.take off ++ ys.take (min m dl * sz) ++ cs.drop (off + min m dl * sz)) → Only g (g + 1) w w' → w'.heap.size = w.heap.size → wpList P ops Q rest (a.put o.dst (.int .i64 ((min m dl : Nat) : Int))) w') :
    wpList P ops Q (o :: rest) a w := by
  refine wpList_plain hgd fun K hK => ?_
  obtain ⟨w', hr', h2, h3, h4⟩ := run_copy_blk2 (P := P) w t o.type e i sz ht hi hz g off dl dc cs hb hc B m d ys hs h1
  unfold Oper.wp execOp
  simp only [ho, resolve, invoke, builtin, Sem.run_bind, Sem.run_pure, Result.andThen_ok, List.map_toArray, List.map_cons, List.map_nil, hA, hB, hr']
  exact hK _ _ (h w' h2 h3 h4)

theorem wpList_append_zeros (w : World) {ops : Array Oper} {rest : List Oper} {o : Oper} {a : Act} {Q : Exit → Act → World → Prop} (hgd : o.guard = none) (s x : Operand) (t tn : TypeId)
    (ho : o.op = .call { callee := .builtin .append, args := #[s, x], argTypes := #[t, tn] })
    (e : TypeId) (i : TypeInfo) (z : Value) (ki kn : IntKind) (ht : P.underlying t = some (.slice e)) (htn : P.underlying tn = some (.int kn)) (hi : P.info? e = some i) (hz : i.zero = some z) (hs : i.size = 1)
    (hby : i.bytes = 8) (g k c m : Nat) (cs : List Value) (hb : Blk w g e cs) (hk : k ≤ cs.length) (hm : 0 < m) (hroom : c < k + m) (hbytes : (k + m) * 8 ≤ 140737488355328) (M : Int) (hM : M = (m : Int))
    (hA : a.eval s = .slice (some ⟨g, 0, none⟩) k c) (hX : a.eval x = .int ki M)
    (h : ∀ c' w', k + m ≤ c' → c' ≤ maxLen → Blk w' w.heap.size e (cs.take k ++ (Builtin.zeroCells z.cells m).toList ++ (Builtin.zeroCells z.cells (c' - (k + m))).toList) → Below w.heap.size w w' → w'.heap.size = w.heap.size + 1 →
      wpList P ops Q rest (a.put o.dst (.slice (some ⟨w.heap.size, 0, none⟩) (k + m) c')) w') :
    wpList P ops Q (o :: rest) a w := by
  refine wpList_plain hgd fun K hK => ?_
  obtain ⟨c', w', hr', h2, h3, h4, h5, h6⟩ := run_append_zeros (P := P) w t tn o.type e i z ki kn ht htn hi hz hs hby g k c m cs hb hk hm hroom hbytes M hM
  unfold Oper.wp execOp
  simp only [ho, resolve, invoke, builtin, Sem.run_bind, Sem.run_pure, Result.andThen_ok, List.map_toArray, List.map_cons, List.map_nil, hA, hX, hr']
  exact hK _ _ (h c' w' h2 h3 h4 h5 h6)

theorem bind_form {α β : Type} (x : Sem α) (f : α → Sem β) : x.bind f = x >>= f := rfl
theorem run_program {α : Type} (k : Program → Sem α) (w : World) : (Sem.program k).run P w = (k P).run P w := rfl
theorem run_shape (r : Nat) (w : World) : (shape r).run P w = .ok (w.shape? r) w := rfl
theorem run_frozen (a : Addr) (w : World) : (frozen a).run P w = .ok (w.frozen? a) w := rfl
theorem shape_of_cell {w : World} {a : Addr} {u : Value} (h : w.cell? a = some u) : ∃ t k, w.shape? a.block = some (t, k + 1) := by
  unfold World.cell? at h
  unfold World.shape?
  split at h
  · split at h
    · cases h
    · rename_i c t f hb _
      have := (Array.getElem?_eq_some_iff.1 h).1
      exact ⟨t, c.size - 1, by simp only [Option.some.injEq, Prod.mk.injEq, true_and]; omega⟩
  · cases h
theorem shape_of_blk {w : World} {g : Nat} {e : TypeId} {cs : List Value} (h : Blk w g e cs) : w.shape? g = some (e, cs.length) := by
  unfold Blk at h
  simp [World.shape?, h]

/-- an own block and other memory: the own one second -/
theorem run_overlaps_b (w : World) (t r e : TypeId) (i : TypeInfo) (ht : P.underlying t = some (.slice e)) (hi : P.info? e = some i)
    (B : Option Addr) (m d : Nat) (ys : List Value) (hs : Sees w B m 1 ys) {g : Nat} {cs : List Value} (hne : 0 < m → ∀ ad, B = some ad → ad.block ≠ g) (hb : Blk w g e cs) (off l c : Nat) :
    (Extern.SlicesOverlaps.overlaps #[t, t] #[r] #[.slice B m d, .slice (some ⟨g, off, none⟩) l c]).run P w = .ok (.bool false) w := by
  cases B with
  | none =>
    unfold Extern.SlicesOverlaps.overlaps
    conv => lhs; arg 2; whnf
    simp [bind_form, run_program, ht, sizeOf, typeInfo, hi]
  | some a =>
    by_cases h0 : m = 0 ∨ l = 0 ∨ i.size = 0
    · unfold Extern.SlicesOverlaps.overlaps
      conv => lhs; arg 2; whnf
      simp [bind_form, run_program, ht, sizeOf, typeInfo, hi, h0]
    · have hm : 0 < m := by omega
      have hn := hne hm a rfl
      have hnb : (a.block != g) = true := by simpa using hn
      have hnb' : (a.block == g) = false := by simpa using hn
      obtain ⟨ad, u, hA, _, _, hc⟩ := hs.at1 hm
      obtain rfl := Option.some.inj hA
      obtain ⟨t1, k1, h1⟩ := shape_of_cell hc
      rw [blk_add] at h1
      have h2 := shape_of_blk hb
      have f1 := hb.frozen off
      have f2 := hb.frozen cs.length
      unfold Extern.SlicesOverlaps.overlaps
      conv => lhs; arg 2; whnf
      simp [bind_form, run_program, ht, sizeOf, typeInfo, hi, h0, hnb, hnb', hn, noView, viewAt, mayBeOne, stringish, run_shape, run_frozen, h1, h2, f1, f2]
/-- .. first -/
theorem run_overlaps_a (w : World) (t r e : TypeId) (i : TypeInfo) (ht : P.underlying t = some (.slice e)) (hi : P.info? e = some i)
    (B : Option Addr) (m d : Nat) (ys : List Value) (hs : Sees w B m 1 ys) {g : Nat} {cs : List Value} (hne : 0 < m → ∀ ad, B = some ad → ad.block ≠ g) (hb : Blk w g e cs) (off l c : Nat) :
    (Extern.SlicesOverlaps.overlaps #[t, t] #[r] #[.slice (some ⟨g, off, none⟩) l c, .slice B m d]).run P w = .ok (.bool false) w := by
  cases B with
  | none =>
    unfold Extern.SlicesOverlaps.overlaps
    conv => lhs; arg 2; whnf
    simp [bind_form, run_program, ht, sizeOf, typeInfo, hi]
  | some a =>
    by_cases h0 : l = 0 ∨ m = 0 ∨ i.size = 0
    · unfold Extern.SlicesOverlaps.overlaps
      conv => lhs; arg 2; whnf
      simp [bind_form, run_program, ht, sizeOf, typeInfo, hi, h0]
    · have hm : 0 < m := by omega
      have hn := Ne.symm (hne hm a rfl)
      have hnb : (g != a.block) = true := by simpa using hn
      have hnb' : (g == a.block) = false := by simpa using hn
      obtain ⟨ad, u, hA, _, _, hc⟩ := hs.at1 hm
      obtain rfl := Option.some.inj hA
      obtain ⟨t1, k1, h1⟩ := shape_of_cell hc
      rw [blk_add] at h1
      have h2 := shape_of_blk hb
      have f1 := hb.frozen off
      have f2 := hb.frozen cs.length
      unfold Extern.SlicesOverlaps.overlaps
      conv => lhs; arg 2; whnf
      simp [bind_form, run_program, ht, sizeOf, typeInfo, hi, h0, hnb, hnb', hn, noView, viewAt, mayBeOne, stringish, run_shape, run_frozen, h1, h2, f1, f2]
end
end Go.Proofs.Ytjmceapdokkleaa
