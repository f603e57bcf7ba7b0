/-
  Contracts: the wrapper over slices.Insert, and its reference.
-/
import Derived.Test.YtnbgopagjahkpaaDelete
import Derived.Test.YtnbgopagjahkpaaInsert
namespace Go.Proofs.Ytnbgopagjahkpaa
open Go.RowKit
set_option linter.unusedVariables false

theorem Sees.blk {w : World} {B : Option Addr} {m : Nat} {ys : List Value} (h : Sees w B m 1 ys) (hm : 0 < m) (ad : Addr) (ha : B = some ad) : ad.block < w.heap.size := by
  obtain ⟨a2, _, h2, hb, _⟩ := h.at1 hm
  rw [ha] at h2
  obtain rfl := Option.some.inj h2
  exact hb

set_option maxHeartbeats 400000 in
theorem Insert_panics (A : Option Addr) (n c : Nat) (i : Int) (v : Value) (w : World) (h : i < 0 ∨ (n : Int) < i) :
    Calls Try.prog 12 #[.slice A n c, .int .i64 i, v] w (Panics w) := by
  obtain ⟨pv, q, hrun⟩ := run_slice_low_out (P := Try.prog) w 22 3 Try.underlying22 A n c .i64 i h
  go_enter Try.func12, Try.ntmps12
  go_wp2_with fail
  exact ⟨rfl, _, _, rfl, below_drewN (Below.refl _ _) q⟩

theorem catch_InsertInts (p q : Addr) (x y : Value) (u : TypeId) (pv : Value) (older : List PanicEntry) (w : World) (hp : w.cell? p = some x) (hpf : w.frozen? p = false) (hq : w.cell? q = some y) (hqf : w.frozen? q = false) (hne : p.block ≠ q.block) :
    CallsD Try.prog 11 #[.pointer (some p), .pointer (some q)] (.panicking ({ v := .iface u pv, recovered := false } :: older)) w fun e u' w' =>
      e = .returned (.tuple #[]) ∧ u' = .panicking ({ v := .iface u pv, recovered := true } :: older) ∧ w' = (w.setCell p (.slice none 0 0)).setCell q (.bool false) := by
  have hq2 : (w.setCell p (.slice none 0 0)).cell? q = some y := (World.cell?_setCell_other w p q _ (fun e => hne (by rw [e]))).trans hq
  have hqf2 : (w.setCell p (.slice none 0 0)).frozen? q = false := by simpa using hqf
  refine callsD_of_wpS Try.func11 rfl fun c₀ cs hu => ?_
  apply wpS_seq
  apply wpS_region
  simp [wpOpsS, go_sem, recoverD, hu, Try.ntmps11, Exit.thenS]
  refine wpS_cond (t := true) (by simp [Act.eval, Array.replicate]) ?_
  simp only [if_true]
  apply wpS_region
  simp [wpOpsS, go_sem, hp, hpf, hq2, hqf2, bodyPostS, results, Try.results11]
theorem idle_InsertInts (p q : Addr) (w : World) :
    CallsD Try.prog 11 #[.pointer (some p), .pointer (some q)] .returning w fun e u' w' => e = .returned (.tuple #[]) ∧ u' = .returning ∧ w' = w := by
  refine callsD_of_wpS Try.func11 rfl fun c₀ cs hu => ?_
  apply wpS_seq
  apply wpS_region
  simp [wpOpsS, go_sem, recoverD, hu, Try.ntmps11, Exit.thenS]
  refine wpS_cond (t := false) (by simp [Act.eval, Array.replicate]) ?_
  simp only [Bool.false_eq_true, if_false]
  refine wpS_of_wp (wp_skip ?_)
  cases c₀
  simp_all [bodyPostS, results, Try.results11]

set_option maxHeartbeats 1000000 in
theorem InsertInts_ok (A : Option Addr) (n c i : Nat) (xs : List Int) (B : Option Addr) (m d : Nat) (vs : List Int) (w : World) (hs : Sees w A n 1 (iv xs)) (hv : Sees w B m 1 (iv vs)) (hin : i ≤ n) (hn : n + m ≤ 17592186044416) :
    Calls Try.prog 4 #[.slice A n c, .int .i64 i, .slice B m d] w fun e w' =>
      ∃ A' c', e = .returned (.tuple #[.slice A' (n + m) c', .bool true]) ∧ Row w' w.heap.size w'.heap.size 3 1 A' (n + m) c' (iv (ins xs i vs i)) ∧ Below w.heap.size w w' := by
  have hv0 := fun W (h : Below w.heap.size w W) => hv.below h
  have HV0 := hide hv0
  have HVB : Hid (0 < m → ∀ ad, B = some ad → ad.block < w.heap.size) := fun h ad ha => hv.blk h ad ha
  clear hv0 hv
  have hmf : ∀ (fn : Fn) (first cap : Array Value) (w : World), (Instr.makeFunc fn first cap).run Try.prog w = .ok (.func fn first cap) w := fun _ _ _ _ => rfl
  go_enter_defers Try.func4, Try.ntmps4
  go_wp2_with fail
  have z0 : ((w.alloc (.cells #[.slice none 0 0] 22)).alloc (.cells #[.bool false] 4)).heap.size = w.heap.size + 2 := by simp
  have b0 : Below w.heap.size w ((w.alloc (.cells #[.slice none 0 0] 22)).alloc (.cells #[.bool false] 4)) := ((Below.refl _ _).alloc (Nat.le_refl _) _).alloc (by simp) _
  have k0 : Blk ((w.alloc (.cells #[.slice none 0 0] 22)).alloc (.cells #[.bool false] 4)) w.heap.size 22 [.slice none 0 0] := (Blk.new w 22 #[.slice none 0 0]).alloc _
  have k1 : Blk ((w.alloc (.cells #[.slice none 0 0] 22)).alloc (.cells #[.bool false] 4)) (w.heap.size + 1) 4 [.bool false] := by
    have := Blk.new (w.alloc (.cells #[.slice none 0 0] 22)) 4 #[.bool false]
    simpa using this
  refine (numbers_any A n c xs _ (hs.below b0) (by omega)).mono ?_
  generalize ((w.alloc (.cells #[.slice none 0 0] 22)).alloc (.cells #[.bool false] 4)) = W0 at z0 b0 k0 k1 ⊢
  rintro e w1 ⟨A1, c1, rfl, r1, d1⟩
  replace k0 := k0.below d1 (by omega)
  replace k1 := k1.below d1 (by omega)
  replace b0 := b0.trans (d1.mono b0.size)
  have s1 := d1.size
  clear d1
  go_wp2_with fail
  refine (Insert_ok A1 _ _ n c1 i xs B m d vs _ r1 (HV0.out _ b0) (fun h ad ha => by have := HVB.out h ad ha; omega) hin hn (by omega)).mono ?_
  rintro e w2 ⟨A2, c2, rfl, r2, d2⟩
  clear r1
  replace k0 := k0.below d2 (by omega)
  replace k1 := k1.below d2 (by omega)
  replace b0 := b0.trans (d2.mono (by omega))
  have s2 := d2.size
  clear d2
  have x0 := k0.cell (i := 0) rfl
  have x1 := k0.frozen 0
  have x2 := k1.cell (i := 0) rfl
  have x3 := k1.frozen 0
  have H0 := hide z0
  clear z0
  go_wp2_with fail
  refine leaves_cons (f := 11) (args := #[.pointer (some ⟨w.heap.size, 0, none⟩), .pointer (some ⟨w.heap.size + 1, 0, none⟩)]) (by simp) (by simp [go_sem]) ?_
  refine (idle_InsertInts _ _ _).mono ?_
  rintro e u' w'' ⟨rfl, rfl, rfl⟩
  have y0 := ((k0.set 0 (.slice A2 (n + m) c2)).far (p := ⟨w.heap.size + 1, 0, none⟩) (by simp) (.bool true)).cell (i := 0) rfl
  have y1 := ((k1.far (p := ⟨w.heap.size, 0, none⟩) (by simp) (.slice A2 (n + m) c2)).set 0 (.bool true)).cell (i := 0) rfl
  have h0 := H0.out
  simp [Leaves, settle, results, Try.results4, go_sem, y0, y1]
  have h3 := ((r2.far (p := ⟨w.heap.size, 0, none⟩) (.inl (by simp; omega)) (.slice A2 (n + m) c2)).far (p := ⟨w.heap.size + 1, 0, none⟩) (.inl (by simp; omega)) (.bool true)).more (lo' := w.heap.size) (hi' := w2.heap.size) (by omega) (Nat.le_refl _) (by simp)
  refine ⟨A2, c2, ⟨rfl, rfl⟩, ?_, ?_⟩
  · simpa using h3
  · exact (b0.setCell (p := ⟨w.heap.size, 0, none⟩) (Nat.le_refl _) _).setCell (p := ⟨w.heap.size + 1, 0, none⟩) (by simp) _

set_option maxHeartbeats 1000000 in
theorem InsertInts_bad (A : Option Addr) (n c : Nat) (i : Int) (xs : List Int) (v : Value) (w : World) (hs : Sees w A n 1 (iv xs)) (hn : n ≤ 17592186044416) (hout : i < 0 ∨ (n : Int) < i) :
    Calls Try.prog 4 #[.slice A n c, .int .i64 i, v] w fun e w' => e = .returned (.tuple #[.slice none 0 0, .bool false]) ∧ Below w.heap.size w w' := by
  have hmf : ∀ (fn : Fn) (first cap : Array Value) (w : World), (Instr.makeFunc fn first cap).run Try.prog w = .ok (.func fn first cap) w := fun _ _ _ _ => rfl
  go_enter_defers Try.func4, Try.ntmps4
  go_wp2_with fail
  have z0 : ((w.alloc (.cells #[.slice none 0 0] 22)).alloc (.cells #[.bool false] 4)).heap.size = w.heap.size + 2 := by simp
  have b0 : Below w.heap.size w ((w.alloc (.cells #[.slice none 0 0] 22)).alloc (.cells #[.bool false] 4)) := ((Below.refl _ _).alloc (Nat.le_refl _) _).alloc (by simp) _
  have k0 : Blk ((w.alloc (.cells #[.slice none 0 0] 22)).alloc (.cells #[.bool false] 4)) w.heap.size 22 [.slice none 0 0] := (Blk.new w 22 #[.slice none 0 0]).alloc _
  have k1 : Blk ((w.alloc (.cells #[.slice none 0 0] 22)).alloc (.cells #[.bool false] 4)) (w.heap.size + 1) 4 [.bool false] := by
    have := Blk.new (w.alloc (.cells #[.slice none 0 0] 22)) 4 #[.bool false]
    simpa using this
  refine (numbers_any A n c xs _ (hs.below b0) (by omega)).mono ?_
  generalize ((w.alloc (.cells #[.slice none 0 0] 22)).alloc (.cells #[.bool false] 4)) = W0 at z0 b0 k0 k1 ⊢
  rintro e w1 ⟨A1, c1, rfl, r1, d1⟩
  replace k0 := k0.below d1 (by omega)
  replace k1 := k1.below d1 (by omega)
  replace b0 := b0.trans (d1.mono b0.size)
  have s1 := d1.size
  clear d1
  go_wp2_with fail
  refine (Insert_panics A1 n c1 i v _ hout).mono ?_
  rintro e w2 ⟨u, pv, rfl, d2⟩
  replace k0 := k0.below d2 (by omega)
  replace k1 := k1.below d2 (by omega)
  replace b0 := b0.trans (d2.mono b0.size)
  clear d2
  have x0 := k0.cell (i := 0) rfl
  have x1 := k0.frozen 0
  have x2 := k1.cell (i := 0) rfl
  have x3 := k1.frozen 0
  have H0 := hide z0
  clear z0
  go_wp2_with fail
  refine leaves_cons (f := 11) (args := #[.pointer (some ⟨w.heap.size, 0, none⟩), .pointer (some ⟨w.heap.size + 1, 0, none⟩)]) (by simp) (by simp [go_sem]) ?_
  refine (catch_InsertInts ⟨w.heap.size, 0, none⟩ ⟨w.heap.size + 1, 0, none⟩ _ _ _ _ [] _ x0 x1 x2 x3 (by simp)).mono ?_
  rintro e u' w'' ⟨rfl, rfl, rfl⟩
  have y0 := ((k0.set 0 (.slice none 0 0)).far (p := ⟨w.heap.size + 1, 0, none⟩) (by simp) (.bool false)).cell (i := 0) rfl
  have y1 := ((k1.far (p := ⟨w.heap.size, 0, none⟩) (by simp) (.slice none 0 0)).set 0 (.bool false)).cell (i := 0) rfl
  simp [Leaves, settle, results, Try.results4, go_sem, y0, y1]
  exact (b0.setCell (p := ⟨w.heap.size, 0, none⟩) (Nat.le_refl _) _).setCell (p := ⟨w.heap.size + 1, 0, none⟩) (by simp) _

theorem InsertInts_at (A : Option Addr) (n c i : Nat) (xs : List Int) (B : Option Addr) (m d : Nat) (vs : List Int) (w : World) (hs : Sees w A n 1 (iv xs)) (hv : Sees w B m 1 (iv vs)) (hin : i ≤ n) (hn : n + m ≤ 17592186044416) (I : Int) (hI : I = (i : Int)) :
    Calls Try.prog 4 #[.slice A n c, .int .i64 I, .slice B m d] w fun e w' =>
      ∃ A' c', e = .returned (.tuple #[.slice A' (n + m) c', .bool true]) ∧ Row w' w.heap.size w'.heap.size 3 1 A' (n + m) c' (iv (ins xs i vs i)) ∧ Below w.heap.size w w' := by
  subst hI
  exact InsertInts_ok A n c i xs B m d vs w hs hv hin hn

end Go.Proofs.Ytnbgopagjahkpaa
