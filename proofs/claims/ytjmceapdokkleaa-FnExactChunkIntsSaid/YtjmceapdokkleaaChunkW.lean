/-
  Contracts: impl.ChunkInts where it panics inside and recovers; what the chunks are.
-/
import Derived.Test.YtjmceapdokkleaaChunk
import Derived.Test.YtjmceapdokkleaaMem
namespace Go.Proofs.Ytjmceapdokkleaa
open Go.RowKit
set_option linter.unusedVariables false

theorem catch_ChunkInts (p q : Addr) (x y : Value) (u : TypeId) (pv : Value) (older : List PanicEntry) (w : World) (hp : w.cell? p = some x) (hpf : w.frozen? p = false) (hq : w.cell? q = some y) (hqf : w.frozen? q = false) (hne : p.block ≠ q.block) :
    CallsD Try.prog 36 #[.pointer (some p), .pointer (some q)] (.panicking ({ v := .iface u pv, recovered := false } :: older)) w fun e u' w' =>
      e = .returned (.tuple #[]) ∧ u' = .panicking ({ v := .iface u pv, recovered := true } :: older) ∧ w' = (w.setCell p (.slice none 0 0)).setCell q (.bool false) := by
  have hq2 : (w.setCell p (.slice none 0 0)).cell? q = some y := (World.cell?_setCell_other w p q _ (fun e => hne (by rw [e]))).trans hq
  have hqf2 : (w.setCell p (.slice none 0 0)).frozen? q = false := by simpa using hqf
  refine callsD_of_wpS Try.func36 rfl fun c₀ cs hu => ?_
  apply wpS_seq
  apply wpS_region
  simp [wpOpsS, go_sem, recoverD, hu, Try.ntmps36, Exit.thenS]
  refine wpS_cond (t := true) (by simp [Act.eval, Array.replicate]) ?_
  simp only [if_true]
  apply wpS_region
  simp [wpOpsS, go_sem, hp, hpf, hq2, hqf2, bodyPostS, results, Try.results36]
theorem idle_ChunkInts (p q : Addr) (w : World) :
    CallsD Try.prog 36 #[.pointer (some p), .pointer (some q)] .returning w fun e u' w' => e = .returned (.tuple #[]) ∧ u' = .returning ∧ w' = w := by
  refine callsD_of_wpS Try.func36 rfl fun c₀ cs hu => ?_
  apply wpS_seq
  apply wpS_region
  simp [wpOpsS, go_sem, recoverD, hu, Try.ntmps36, Exit.thenS]
  refine wpS_cond (t := false) (by simp [Act.eval, Array.replicate]) ?_
  simp only [Bool.false_eq_true, if_false]
  refine wpS_of_wp (wp_skip ?_)
  cases c₀
  simp_all [bodyPostS, results, Try.results36]

set_option maxHeartbeats 1000000 in
theorem ChunkInts_bad (A : Option Addr) (n c : Nat) (m : Int) (w : World) (hm : m < 1) :
    Calls Try.prog 23 #[.slice A n c, .int .i64 m] w fun e w' => e = .returned (.tuple #[.slice none 0 0, .bool false]) ∧ Below w.heap.size w w' := by
  have hmf : ∀ (fn : Fn) (first cap : Array Value) (w : World), (Instr.makeFunc fn first cap).run Try.prog w = .ok (.func fn first cap) w := fun _ _ _ _ => rfl
  go_enter_defers Try.func23, Try.ntmps23
  go_wp2_with fail
  have z0 : ((w.alloc (.cells #[.slice none 0 0] 22)).alloc (.cells #[.bool false] 4)).heap.size = w.heap.size + 2 := by simp
  have b0 : Below w.heap.size w ((w.alloc (.cells #[.slice none 0 0] 22)).alloc (.cells #[.bool false] 4)) := ((Below.refl _ _).alloc (Nat.le_refl _) _).alloc (by simp) _
  have k0 : Blk ((w.alloc (.cells #[.slice none 0 0] 22)).alloc (.cells #[.bool false] 4)) w.heap.size 22 [.slice none 0 0] := (Blk.new w 22 #[.slice none 0 0]).alloc _
  have k1 : Blk ((w.alloc (.cells #[.slice none 0 0] 22)).alloc (.cells #[.bool false] 4)) (w.heap.size + 1) 4 [.bool false] := by
    have := Blk.new (w.alloc (.cells #[.slice none 0 0] 22)) 4 #[.bool false]
    simpa using this
  generalize ((w.alloc (.cells #[.slice none 0 0] 22)).alloc (.cells #[.bool false] 4)) = W0 at z0 b0 k0 k1 ⊢
  refine (Chunk_panics A n c m _ hm).mono ?_
  rintro e w2 ⟨u, pv, rfl, d2⟩
  replace k0 := k0.below d2 (by omega)
  replace k1 := k1.below d2 (by omega)
  replace b0 := b0.trans (d2.mono b0.size)
  clear d2
  have x0 := k0.cell (i := 0) rfl
  have x1 := k0.frozen 0
  have x2 := k1.cell (i := 0) rfl
  have x3 := k1.frozen 0
  have H0 := hide z0
  clear z0
  go_wp2_with fail
  refine leaves_cons (f := 36) (args := #[.pointer (some ⟨w.heap.size, 0, none⟩), .pointer (some ⟨w.heap.size + 1, 0, none⟩)]) (by simp) (by simp [go_sem]) ?_
  refine (catch_ChunkInts ⟨w.heap.size, 0, none⟩ ⟨w.heap.size + 1, 0, none⟩ _ _ _ _ [] _ x0 x1 x2 x3 (by simp)).mono ?_
  rintro e u' w'' ⟨rfl, rfl, rfl⟩
  have y0 := ((k0.set 0 (.slice none 0 0)).far (p := ⟨w.heap.size + 1, 0, none⟩) (by simp) (.bool false)).cell (i := 0) rfl
  have y1 := ((k1.far (p := ⟨w.heap.size, 0, none⟩) (by simp) (.slice none 0 0)).set 0 (.bool false)).cell (i := 0) rfl
  simp [Leaves, settle, results, Try.results23, go_sem, y0, y1]
  exact (b0.setCell (p := ⟨w.heap.size, 0, none⟩) (Nat.le_refl _) _).setCell (p := ⟨w.heap.size + 1, 0, none⟩) (by simp) _

theorem chk_step (m : Nat) (xs : List Int) (k : Nat) : chk m xs (k + 1) = chk m xs k ++ [(xs.drop (k * m)).take m] := by simp [chk, List.range_succ]
theorem chk_len (m : Nat) (xs : List Int) (k : Nat) : (chk m xs k).length = k := by simp [chk]
theorem chk_flat (m : Nat) (xs : List Int) (k : Nat) : (chk m xs k).flatten = xs.take (k * m) := by
  induction k with
  | zero => simp [chk]
  | succ k ih =>
    rw [chk_step, List.flatten_append, ih, Nat.add_mul, Nat.one_mul, List.take_add]
    simp
theorem chk_get (m : Nat) (xs : List Int) (k j : Nat) (h : j < k) : (chk m xs k)[j]? = some ((xs.drop (j * m)).take m) := by simp [chk, h]
/-- how long the j-th chunk is -/
theorem chunk_n {w : World} {ps : List Pt} {m n k j : Nat} {xs : List Int} {p : Pt} (hx : xs.length = n) (ha : All w ps) (hl : ps.map Pt.xs = chk m xs k) (hp : ps[j]? = some p) (hj : j < k) : p.n = min m (n - j * m) := by
  have h1 : (ps.map Pt.xs)[j]? = some p.xs := by simp [hp]
  rw [hl, chk_get m xs k j hj] at h1
  have h2 := (ha p (List.mem_of_getElem? hp)).1.ilen
  rw [← h2, ← Option.some.inj h1, List.length_take, List.length_drop, hx]
theorem chunks_tot {w : World} {ps : List Pt} {m n k : Nat} {xs : List Int} (hx : xs.length = n) (ha : All w ps) (hl : ps.map Pt.xs = chk m xs k) (hk : n ≤ k * m) : tot ps = n ∧ cat ps = xs := by
  have h1 : cat ps = xs := by rw [cat, hl, chk_flat, List.take_of_length_le (by omega)]
  refine ⟨?_, h1⟩
  have h2 : (cat ps).length = tot ps := by
    rw [cat, List.length_flatten, List.map_map, tot]
    congr 1
    exact List.map_congr_left fun p hp => (ha p hp).1.ilen
  rw [← h2, h1, hx]
end Go.Proofs.Ytjmceapdokkleaa
