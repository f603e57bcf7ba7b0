/-
  Contracts: the wrappers over slices.Delete, and their references.
-/
import Derived.Test.YtkjknjigjdpkoaaDeleteCore
namespace Go.Proofs.Ytkjknjigjdpkoaa
open Go.RowKit
set_option linter.unusedVariables false

theorem catch_DeleteInts (p q : Addr) (x y : Value) (u : TypeId) (pv : Value) (older : List PanicEntry) (w : World) (hp : w.cell? p = some x) (hpf : w.frozen? p = false) (hq : w.cell? q = some y) (hqf : w.frozen? q = false) (hne : p.block ≠ q.block) :
    CallsD Try.prog 39 #[.pointer (some p), .pointer (some q)] (.panicking ({ v := .iface u pv, recovered := false } :: older)) w fun e u' w' =>
      e = .returned (.tuple #[]) ∧ u' = .panicking ({ v := .iface u pv, recovered := true } :: older) ∧ w' = (w.setCell p (.slice none 0 0)).setCell q (.bool false) := by
  have hq2 : (w.setCell p (.slice none 0 0)).cell? q = some y := (World.cell?_setCell_other w p q _ (fun e => hne (by rw [e]))).trans hq
  have hqf2 : (w.setCell p (.slice none 0 0)).frozen? q = false := by simpa using hqf
  refine callsD_of_wpS Try.func39 rfl fun c₀ cs hu => ?_
  apply wpS_seq
  apply wpS_region
  simp [wpOpsS, go_sem, recoverD, hu, Try.ntmps39, Exit.thenS]
  refine wpS_cond (t := true) (by simp [Act.eval, Array.replicate]) ?_
  simp only [if_true]
  apply wpS_region
  simp [wpOpsS, go_sem, hp, hpf, hq2, hqf2, bodyPostS, results, Try.results39]
theorem idle_DeleteInts (p q : Addr) (w : World) :
    CallsD Try.prog 39 #[.pointer (some p), .pointer (some q)] .returning w fun e u' w' => e = .returned (.tuple #[]) ∧ u' = .returning ∧ w' = w := by
  refine callsD_of_wpS Try.func39 rfl fun c₀ cs hu => ?_
  apply wpS_seq
  apply wpS_region
  simp [wpOpsS, go_sem, recoverD, hu, Try.ntmps39, Exit.thenS]
  refine wpS_cond (t := false) (by simp [Act.eval, Array.replicate]) ?_
  simp only [Bool.false_eq_true, if_false]
  refine wpS_of_wp (wp_skip ?_)
  cases c₀
  simp_all [bodyPostS, results, Try.results39]

theorem catch_DeleteRest (p q : Addr) (x y : Value) (u : TypeId) (pv : Value) (older : List PanicEntry) (w : World) (hp : w.cell? p = some x) (hpf : w.frozen? p = false) (hq : w.cell? q = some y) (hqf : w.frozen? q = false) (hne : p.block ≠ q.block) :
    CallsD Try.prog 44 #[.pointer (some p), .pointer (some q)] (.panicking ({ v := .iface u pv, recovered := false } :: older)) w fun e u' w' =>
      e = .returned (.tuple #[]) ∧ u' = .panicking ({ v := .iface u pv, recovered := true } :: older) ∧ w' = (w.setCell p (.slice none 0 0)).setCell q (.bool false) := by
  have hq2 : (w.setCell p (.slice none 0 0)).cell? q = some y := (World.cell?_setCell_other w p q _ (fun e => hne (by rw [e]))).trans hq
  have hqf2 : (w.setCell p (.slice none 0 0)).frozen? q = false := by simpa using hqf
  refine callsD_of_wpS Try.func44 rfl fun c₀ cs hu => ?_
  apply wpS_seq
  apply wpS_region
  simp [wpOpsS, go_sem, recoverD, hu, Try.ntmps44, Exit.thenS]
  refine wpS_cond (t := true) (by simp [Act.eval, Array.replicate]) ?_
  simp only [if_true]
  apply wpS_region
  simp [wpOpsS, go_sem, hp, hpf, hq2, hqf2, bodyPostS, results, Try.results44]
theorem idle_DeleteRest (p q : Addr) (w : World) :
    CallsD Try.prog 44 #[.pointer (some p), .pointer (some q)] .returning w fun e u' w' => e = .returned (.tuple #[]) ∧ u' = .returning ∧ w' = w := by
  refine callsD_of_wpS Try.func44 rfl fun c₀ cs hu => ?_
  apply wpS_seq
  apply wpS_region
  simp [wpOpsS, go_sem, recoverD, hu, Try.ntmps44, Exit.thenS]
  refine wpS_cond (t := false) (by simp [Act.eval, Array.replicate]) ?_
  simp only [Bool.false_eq_true, if_false]
  refine wpS_of_wp (wp_skip ?_)
  cases c₀
  simp_all [bodyPostS, results, Try.results44]

set_option maxHeartbeats 1000000 in
theorem DeleteInts_ok (A : Option Addr) (n c i j : Nat) (xs : List Int) (w : World) (hs : Sees w A n 1 (iv xs)) (hij : i ≤ j) (hj : j ≤ n) (hn : n ≤ 17592186044416) :
    Calls Try.prog 15 #[.slice A n c, .int .i64 i, .int .i64 j] w fun e w' =>
      ∃ A' c', e = .returned (.tuple #[.slice A' (i + (n - j)) c', .bool true]) ∧ Row w' w.heap.size w'.heap.size 3 1 A' (i + (n - j)) c' (iv (xs.take i ++ xs.drop j)) ∧ Below w.heap.size w w' := by
  have hmf : ∀ (fn : Fn) (first cap : Array Value) (w : World), (Instr.makeFunc fn first cap).run Try.prog w = .ok (.func fn first cap) w := fun _ _ _ _ => rfl
  go_enter_defers Try.func15, Try.ntmps15
  go_wp2_with fail
  have z0 : ((w.alloc (.cells #[.slice none 0 0] 22)).alloc (.cells #[.bool false] 4)).heap.size = w.heap.size + 2 := by simp
  have b0 : Below w.heap.size w ((w.alloc (.cells #[.slice none 0 0] 22)).alloc (.cells #[.bool false] 4)) := ((Below.refl _ _).alloc (Nat.le_refl _) _).alloc (by simp) _
  have k0 : Blk ((w.alloc (.cells #[.slice none 0 0] 22)).alloc (.cells #[.bool false] 4)) w.heap.size 22 [.slice none 0 0] := (Blk.new w 22 #[.slice none 0 0]).alloc _
  have k1 : Blk ((w.alloc (.cells #[.slice none 0 0] 22)).alloc (.cells #[.bool false] 4)) (w.heap.size + 1) 4 [.bool false] := by
    have := Blk.new (w.alloc (.cells #[.slice none 0 0] 22)) 4 #[.bool false]
    simpa using this
  refine (numbers_any A n c xs _ (hs.below b0) (by omega)).mono ?_
  generalize ((w.alloc (.cells #[.slice none 0 0] 22)).alloc (.cells #[.bool false] 4)) = W0 at z0 b0 k0 k1 ⊢
  rintro e w1 ⟨A1, c1, rfl, r1, d1⟩
  replace k0 := k0.below d1 (by omega)
  replace k1 := k1.below d1 (by omega)
  replace b0 := b0.trans (d1.mono b0.size)
  have s1 := d1.size
  clear d1
  go_wp2_with fail
  refine (Delete_ok A1 _ _ n c1 i j xs _ r1 hij hj (by omega)).mono ?_
  rintro e w2 ⟨rfl, r2, o2⟩
  clear r1
  replace k0 := k0.only o2 (.inl (by omega))
  replace k1 := k1.only o2 (.inl (by omega))
  replace b0 := b0.trans (o2.below (by omega) (by omega))
  have s2 := o2.size
  clear o2
  have x0 := k0.cell (i := 0) rfl
  have x1 := k0.frozen 0
  have x2 := k1.cell (i := 0) rfl
  have x3 := k1.frozen 0
  have H0 := hide z0
  clear z0
  go_wp2_with fail
  refine leaves_cons (f := 39) (args := #[.pointer (some ⟨w.heap.size, 0, none⟩), .pointer (some ⟨w.heap.size + 1, 0, none⟩)]) (by simp) (by simp [go_sem]) ?_
  refine (idle_DeleteInts _ _ _).mono ?_
  rintro e u' w'' ⟨rfl, rfl, rfl⟩
  have y0 := ((k0.set 0 (.slice A1 (i + (n - j)) c1)).far (p := ⟨w.heap.size + 1, 0, none⟩) (by simp) (.bool true)).cell (i := 0) rfl
  have y1 := ((k1.far (p := ⟨w.heap.size, 0, none⟩) (by simp) (.slice A1 (i + (n - j)) c1)).set 0 (.bool true)).cell (i := 0) rfl
  have h0 := H0.out
  simp [Leaves, settle, results, Try.results15, go_sem, y0, y1]
  have hx := hs.ilen
  rw [iv_append] at r2
  have h2 := r2.short (m := i + (n - j)) (by rw [iv_len, List.length_append, List.length_take, List.length_drop]; omega) (by omega)
  have h3 := ((h2.far (p := ⟨w.heap.size, 0, none⟩) (.inl (by simp; omega)) (.slice A1 (i + (n - j)) c1)).far (p := ⟨w.heap.size + 1, 0, none⟩) (.inl (by simp; omega)) (.bool true)).more (lo' := w.heap.size) (hi' := w2.heap.size) (by omega) s2 (by simp)
  refine ⟨A1, c1, ⟨rfl, rfl⟩, ?_, ?_⟩
  · simpa using h3
  · exact (b0.setCell (p := ⟨w.heap.size, 0, none⟩) (Nat.le_refl _) _).setCell (p := ⟨w.heap.size + 1, 0, none⟩) (by simp) _

set_option maxHeartbeats 1000000 in
theorem DeleteRest_ok (A : Option Addr) (n c i j : Nat) (xs : List Int) (w : World) (hs : Sees w A n 1 (iv xs)) (hij : i ≤ j) (hj : j ≤ n) (hn : n ≤ 17592186044416) :
    Calls Try.prog 23 #[.slice A n c, .int .i64 i, .int .i64 j] w fun e w' =>
      ∃ A' c', e = .returned (.tuple #[.slice A' (n) c', .bool true]) ∧ Row w' w.heap.size w'.heap.size 3 1 A' (n) c' (iv (xs.take i ++ xs.drop j ++ List.replicate (j - i) 0)) ∧ Below w.heap.size w w' := by
  have hmf : ∀ (fn : Fn) (first cap : Array Value) (w : World), (Instr.makeFunc fn first cap).run Try.prog w = .ok (.func fn first cap) w := fun _ _ _ _ => rfl
  go_enter_defers Try.func23, Try.ntmps23
  go_wp2_with fail
  have z0 : ((w.alloc (.cells #[.slice none 0 0] 22)).alloc (.cells #[.bool false] 4)).heap.size = w.heap.size + 2 := by simp
  have b0 : Below w.heap.size w ((w.alloc (.cells #[.slice none 0 0] 22)).alloc (.cells #[.bool false] 4)) := ((Below.refl _ _).alloc (Nat.le_refl _) _).alloc (by simp) _
  have k0 : Blk ((w.alloc (.cells #[.slice none 0 0] 22)).alloc (.cells #[.bool false] 4)) w.heap.size 22 [.slice none 0 0] := (Blk.new w 22 #[.slice none 0 0]).alloc _
  have k1 : Blk ((w.alloc (.cells #[.slice none 0 0] 22)).alloc (.cells #[.bool false] 4)) (w.heap.size + 1) 4 [.bool false] := by
    have := Blk.new (w.alloc (.cells #[.slice none 0 0] 22)) 4 #[.bool false]
    simpa using this
  refine (numbers_any A n c xs _ (hs.below b0) (by omega)).mono ?_
  generalize ((w.alloc (.cells #[.slice none 0 0] 22)).alloc (.cells #[.bool false] 4)) = W0 at z0 b0 k0 k1 ⊢
  rintro e w1 ⟨A1, c1, rfl, r1, d1⟩
  replace k0 := k0.below d1 (by omega)
  replace k1 := k1.below d1 (by omega)
  replace b0 := b0.trans (d1.mono b0.size)
  have s1 := d1.size
  clear d1
  go_wp2_with fail
  refine (Delete_ok A1 _ _ n c1 i j xs _ r1 hij hj (by omega)).mono ?_
  rintro e w2 ⟨rfl, r2, o2⟩
  clear r1
  replace k0 := k0.only o2 (.inl (by omega))
  replace k1 := k1.only o2 (.inl (by omega))
  replace b0 := b0.trans (o2.below (by omega) (by omega))
  have s2 := o2.size
  clear o2
  have x0 := k0.cell (i := 0) rfl
  have x1 := k0.frozen 0
  have x2 := k1.cell (i := 0) rfl
  have x3 := k1.frozen 0
  have H0 := hide z0
  clear z0
  go_wp2_with fail
  refine leaves_cons (f := 44) (args := #[.pointer (some ⟨w.heap.size, 0, none⟩), .pointer (some ⟨w.heap.size + 1, 0, none⟩)]) (by simp) (by simp [go_sem]) ?_
  refine (idle_DeleteRest _ _ _).mono ?_
  rintro e u' w'' ⟨rfl, rfl, rfl⟩
  have y0 := ((k0.set 0 (.slice A1 n c1)).far (p := ⟨w.heap.size + 1, 0, none⟩) (by simp) (.bool true)).cell (i := 0) rfl
  have y1 := ((k1.far (p := ⟨w.heap.size, 0, none⟩) (by simp) (.slice A1 n c1)).set 0 (.bool true)).cell (i := 0) rfl
  have h0 := H0.out
  simp [Leaves, settle, results, Try.results23, go_sem, y0, y1]
  have h2 := r2
  have h3 := ((h2.far (p := ⟨w.heap.size, 0, none⟩) (.inl (by simp; omega)) (.slice A1 n c1)).far (p := ⟨w.heap.size + 1, 0, none⟩) (.inl (by simp; omega)) (.bool true)).more (lo' := w.heap.size) (hi' := w2.heap.size) (by omega) s2 (by simp)
  refine ⟨A1, c1, ⟨rfl, rfl⟩, ?_, ?_⟩
  · simpa using h3
  · exact (b0.setCell (p := ⟨w.heap.size, 0, none⟩) (Nat.le_refl _) _).setCell (p := ⟨w.heap.size + 1, 0, none⟩) (by simp) _

set_option maxHeartbeats 1000000 in
theorem DeleteInts_bad (A : Option Addr) (n c : Nat) (i j : Int) (xs : List Int) (w : World) (hs : Sees w A n 1 (iv xs)) (hn : n ≤ 17592186044416) (hout : j < 0 ∨ (n : Int) < j ∨ i < 0 ∨ j < i) :
    Calls Try.prog 15 #[.slice A n c, .int .i64 i, .int .i64 j] w fun e w' => e = .returned (.tuple #[.slice none 0 0, .bool false]) ∧ Below w.heap.size w w' := by
  have hmf : ∀ (fn : Fn) (first cap : Array Value) (w : World), (Instr.makeFunc fn first cap).run Try.prog w = .ok (.func fn first cap) w := fun _ _ _ _ => rfl
  go_enter_defers Try.func15, Try.ntmps15
  go_wp2_with fail
  have z0 : ((w.alloc (.cells #[.slice none 0 0] 22)).alloc (.cells #[.bool false] 4)).heap.size = w.heap.size + 2 := by simp
  have b0 : Below w.heap.size w ((w.alloc (.cells #[.slice none 0 0] 22)).alloc (.cells #[.bool false] 4)) := ((Below.refl _ _).alloc (Nat.le_refl _) _).alloc (by simp) _
  have k0 : Blk ((w.alloc (.cells #[.slice none 0 0] 22)).alloc (.cells #[.bool false] 4)) w.heap.size 22 [.slice none 0 0] := (Blk.new w 22 #[.slice none 0 0]).alloc _
  have k1 : Blk ((w.alloc (.cells #[.slice none 0 0] 22)).alloc (.cells #[.bool false] 4)) (w.heap.size + 1) 4 [.bool false] := by
    have := Blk.new (w.alloc (.cells #[.slice none 0 0] 22)) 4 #[.bool false]
    simpa using this
  refine (numbers_any A n c xs _ (hs.below b0) (by omega)).mono ?_
  generalize ((w.alloc (.cells #[.slice none 0 0] 22)).alloc (.cells #[.bool false] 4)) = W0 at z0 b0 k0 k1 ⊢
  rintro e w1 ⟨A1, c1, rfl, r1, d1⟩
  replace k0 := k0.below d1 (by omega)
  replace k1 := k1.below d1 (by omega)
  replace b0 := b0.trans (d1.mono b0.size)
  have s1 := d1.size
  clear d1
  go_wp2_with fail
  have hcap := r1.cap.1
  refine (Delete_panics A1 n c1 i j _ hcap hout).mono ?_
  rintro e w2 ⟨u, pv, rfl, d2⟩
  replace k0 := k0.below d2 (by omega)
  replace k1 := k1.below d2 (by omega)
  replace b0 := b0.trans (d2.mono b0.size)
  clear d2
  have x0 := k0.cell (i := 0) rfl
  have x1 := k0.frozen 0
  have x2 := k1.cell (i := 0) rfl
  have x3 := k1.frozen 0
  have H0 := hide z0
  clear z0
  go_wp2_with fail
  refine leaves_cons (f := 39) (args := #[.pointer (some ⟨w.heap.size, 0, none⟩), .pointer (some ⟨w.heap.size + 1, 0, none⟩)]) (by simp) (by simp [go_sem]) ?_
  refine (catch_DeleteInts ⟨w.heap.size, 0, none⟩ ⟨w.heap.size + 1, 0, none⟩ _ _ _ _ [] _ x0 x1 x2 x3 (by simp)).mono ?_
  rintro e u' w'' ⟨rfl, rfl, rfl⟩
  have y0 := ((k0.set 0 (.slice none 0 0)).far (p := ⟨w.heap.size + 1, 0, none⟩) (by simp) (.bool false)).cell (i := 0) rfl
  have y1 := ((k1.far (p := ⟨w.heap.size, 0, none⟩) (by simp) (.slice none 0 0)).set 0 (.bool false)).cell (i := 0) rfl
  simp [Leaves, settle, results, Try.results15, go_sem, y0, y1]
  exact (b0.setCell (p := ⟨w.heap.size, 0, none⟩) (Nat.le_refl _) _).setCell (p := ⟨w.heap.size + 1, 0, none⟩) (by simp) _

set_option maxHeartbeats 1000000 in
theorem DeleteRest_bad (A : Option Addr) (n c : Nat) (i j : Int) (xs : List Int) (w : World) (hs : Sees w A n 1 (iv xs)) (hn : n ≤ 17592186044416) (hout : j < 0 ∨ (n : Int) < j ∨ i < 0 ∨ j < i) :
    Calls Try.prog 23 #[.slice A n c, .int .i64 i, .int .i64 j] w fun e w' => e = .returned (.tuple #[.slice none 0 0, .bool false]) ∧ Below w.heap.size w w' := by
  have hmf : ∀ (fn : Fn) (first cap : Array Value) (w : World), (Instr.makeFunc fn first cap).run Try.prog w = .ok (.func fn first cap) w := fun _ _ _ _ => rfl
  go_enter_defers Try.func23, Try.ntmps23
  go_wp2_with fail
  have z0 : ((w.alloc (.cells #[.slice none 0 0] 22)).alloc (.cells #[.bool false] 4)).heap.size = w.heap.size + 2 := by simp
  have b0 : Below w.heap.size w ((w.alloc (.cells #[.slice none 0 0] 22)).alloc (.cells #[.bool false] 4)) := ((Below.refl _ _).alloc (Nat.le_refl _) _).alloc (by simp) _
  have k0 : Blk ((w.alloc (.cells #[.slice none 0 0] 22)).alloc (.cells #[.bool false] 4)) w.heap.size 22 [.slice none 0 0] := (Blk.new w 22 #[.slice none 0 0]).alloc _
  have k1 : Blk ((w.alloc (.cells #[.slice none 0 0] 22)).alloc (.cells #[.bool false] 4)) (w.heap.size + 1) 4 [.bool false] := by
    have := Blk.new (w.alloc (.cells #[.slice none 0 0] 22)) 4 #[.bool false]
    simpa using this
  refine (numbers_any A n c xs _ (hs.below b0) (by omega)).mono ?_
  generalize ((w.alloc (.cells #[.slice none 0 0] 22)).alloc (.cells #[.bool false] 4)) = W0 at z0 b0 k0 k1 ⊢
  rintro e w1 ⟨A1, c1, rfl, r1, d1⟩
  replace k0 := k0.below d1 (by omega)
  replace k1 := k1.below d1 (by omega)
  replace b0 := b0.trans (d1.mono b0.size)
  have s1 := d1.size
  clear d1
  go_wp2_with fail
  have hcap := r1.cap.1
  refine (Delete_panics A1 n c1 i j _ hcap hout).mono ?_
  rintro e w2 ⟨u, pv, rfl, d2⟩
  replace k0 := k0.below d2 (by omega)
  replace k1 := k1.below d2 (by omega)
  replace b0 := b0.trans (d2.mono b0.size)
  clear d2
  have x0 := k0.cell (i := 0) rfl
  have x1 := k0.frozen 0
  have x2 := k1.cell (i := 0) rfl
  have x3 := k1.frozen 0
  have H0 := hide z0
  clear z0
  go_wp2_with fail
  refine leaves_cons (f := 44) (args := #[.pointer (some ⟨w.heap.size, 0, none⟩), .pointer (some ⟨w.heap.size + 1, 0, none⟩)]) (by simp) (by simp [go_sem]) ?_
  refine (catch_DeleteRest ⟨w.heap.size, 0, none⟩ ⟨w.heap.size + 1, 0, none⟩ _ _ _ _ [] _ x0 x1 x2 x3 (by simp)).mono ?_
  rintro e u' w'' ⟨rfl, rfl, rfl⟩
  have y0 := ((k0.set 0 (.slice none 0 0)).far (p := ⟨w.heap.size + 1, 0, none⟩) (by simp) (.bool false)).cell (i := 0) rfl
  have y1 := ((k1.far (p := ⟨w.heap.size, 0, none⟩) (by simp) (.slice none 0 0)).set 0 (.bool false)).cell (i := 0) rfl
  simp [Leaves, settle, results, Try.results23, go_sem, y0, y1]
  exact (b0.setCell (p := ⟨w.heap.size, 0, none⟩) (Nat.le_refl _) _).setCell (p := ⟨w.heap.size + 1, 0, none⟩) (by simp) _

theorem DeleteInts_at (A : Option Addr) (n c i j : Nat) (xs : List Int) (w : World) (hs : Sees w A n 1 (iv xs)) (hij : i ≤ j) (hj : j ≤ n) (hn : n ≤ 17592186044416) (I J : Int) (hI : I = (i : Int)) (hJ : J = (j : Int)) :
    Calls Try.prog 15 #[.slice A n c, .int .i64 I, .int .i64 J] w fun e w' =>
      ∃ A' c', e = .returned (.tuple #[.slice A' (i + (n - j)) c', .bool true]) ∧ Row w' w.heap.size w'.heap.size 3 1 A' (i + (n - j)) c' (iv (xs.take i ++ xs.drop j)) ∧ Below w.heap.size w w' := by
  subst hI hJ
  exact DeleteInts_ok A n c i j xs w hs hij hj hn

set_option maxHeartbeats 400000 in
theorem within_ok (i j n : Nat) (w : World) (hij : i ≤ j) (hj : j ≤ n) :
    Calls Try.prog 42 #[.int .i64 i, .int .i64 j, .int .i64 n] w fun e w' => e = .returned (.bool true) ∧ w = w' := by
  go_enter Try.func42, Try.ntmps42
  go_wp2
  go_ret
  exact ⟨rfl, rfl⟩
set_option maxHeartbeats 800000 in
theorem within_bad (i j : Int) (n : Nat) (w : World) (hout : j < 0 ∨ (n : Int) < j ∨ i < 0 ∨ j < i) :
    Calls Try.prog 42 #[.int .i64 i, .int .i64 j, .int .i64 n] w fun e w' => e = .returned (.bool false) ∧ w = w' := by
  by_cases h1 : 0 ≤ i
  · by_cases h2 : i ≤ j
    · have h3 : ¬ j ≤ (n : Int) := by omega
      clear hout
      go_enter Try.func42, Try.ntmps42
      go_wp2
      go_ret
      exact ⟨rfl, rfl⟩
    · clear hout
      go_enter Try.func42, Try.ntmps42
      go_wp2
      go_ret
      exact ⟨rfl, rfl⟩
  · clear hout
    go_enter Try.func42, Try.ntmps42
    go_wp2
    go_ret
    exact ⟨rfl, rfl⟩

set_option maxHeartbeats 800000 in
theorem specDeleteInts_ok (A : Option Addr) (n c i j : Nat) (xs : List Int) (w : World) (hs : Sees w A n 1 (iv xs)) (hnc : n ≤ c) (hij : i ≤ j) (hj : j ≤ n) (hn : n ≤ 17592186044416) :
    Calls Try.prog 17 #[.slice A n c, .int .i64 i, .int .i64 j] w fun e w' =>
      ∃ A' c', e = .returned (.tuple #[.slice A' (i + (n - j)) c', .bool true]) ∧ Row w' w.heap.size w'.heap.size 3 1 A' (i + (n - j)) c' (iv (xs.take i ++ xs.drop j)) ∧ Below w.heap.size w w' := by
  obtain ⟨i0, hi0, hz0, hz1, hz2⟩ := info_parts intInfo
  have HX := hide hs.ilen
  have q1 := fun W => run_slice_hi (P := Try.prog) W 22 3 i0 Try.underlying22 hi0 A n c .i64 i (by omega)
  have q2 := fun W => run_slice_lo (P := Try.prog) W 22 3 i0 1 Try.underlying22 hi0 hz1 A n c .i64 j (by omega)
  have v1 : Sees w A i 1 (iv (xs.take i)) := by
    have h1 := hs.cutA (k := 0) (m := i) (c := c) (by omega) hnc
    rw [cutA_zero, Nat.zero_mul, List.drop_zero, Nat.mul_one, ← iv_take] at h1
    exact h1
  have v2 : Sees w (cutA A c j 1) (n - j) 1 (iv (xs.drop j)) := by
    have h1 := hs.cutA (k := j) (m := n - j) (c := c) (by omega) hnc
    rw [Nat.mul_one, Nat.mul_one, ← iv_drop, ← iv_take, List.take_of_length_le (by rw [List.length_drop, HX.out]; exact Nat.le_refl _)] at h1
    exact h1
  go_enter Try.func17, Try.ntmps17
  go_wp2_with fail
  refine (within_ok i j n _ hij hj).mono ?_
  rintro e w' ⟨rfl, rfl⟩
  go_wp2_with (at_builtin; refine halt_here ?_)
  refine ⟨wpList_append_sees w rfl _ _ _ rfl w.heap.size w.heap.size 3 i0 _ 1 8 Try.underlying22 hi0 hz0 hz1 hz2 rfl (by omega) none 0 0 [] rfl (Row.none_ w _ _ _ _ (Nat.le_refl _)) A i c (iv (xs.take i)) rfl v1 (iv_one _) (by unfold maxLen; omega) (by omega) (Nat.le_refl _) ?_⟩
  intro A1 c1 w1 hrow1 ho1 _
  rw [Nat.zero_add, List.nil_append] at hrow1
  rw [Nat.zero_add]
  have hb1 := ho1.below (Nat.le_refl _) (Nat.le_refl _)
  go_wp2_with (at_builtin; refine halt_here ?_)
  refine ⟨wpList_append_sees w1 rfl _ _ _ rfl w.heap.size w1.heap.size 3 i0 _ 1 8 Try.underlying22 hi0 hz0 hz1 hz2 rfl (by omega) A1 i c1 (iv (xs.take i)) rfl hrow1 _ (n - j) (c - j) (iv (xs.drop j)) rfl (v2.below hb1) (iv_one _) (by unfold maxLen; omega) (by omega) hb1.size ?_⟩
  intro A2 c2 w2 hrow2 ho2 _
  go_wp2_with fail
  go_ret2
  rw [← iv_append] at hrow2
  exact ⟨A2, c2, rfl, hrow2, hb1.trans (ho2.below (Nat.le_refl _) hb1.size)⟩
set_option maxHeartbeats 400000 in
theorem specDeleteInts_bad (A : Option Addr) (n c : Nat) (i j : Int) (w : World) (hn : n ≤ 17592186044416) (hout : j < 0 ∨ (n : Int) < j ∨ i < 0 ∨ j < i) :
    Calls Try.prog 17 #[.slice A n c, .int .i64 i, .int .i64 j] w fun e w' => e = .returned (.tuple #[.slice none 0 0, .bool false]) ∧ Below w.heap.size w w' := by
  have HO := hide hout
  clear hout
  go_enter Try.func17, Try.ntmps17
  go_wp2_with fail
  refine (within_bad i j n _ HO.out).mono ?_
  rintro e w' ⟨rfl, rfl⟩
  go_wp2_with fail
  go_ret2
  exact ⟨rfl, Below.refl _ _⟩

theorem fill_step (xs : List Int) (k : Nat) : iv (xs ++ List.replicate k 0) ++ iv [0] = iv (xs ++ List.replicate (k + 1) 0) := by
  rw [← iv_append, List.append_assoc, List.replicate_succ']
set_option maxHeartbeats 800000 in
theorem filled_any (A : Option Addr) (m c n : Nat) (xs : List Int) (w : World) (hs : Sees w A m 1 (iv xs)) (hmn : m ≤ n) (hn : n ≤ 17592186044416) :
    Calls Try.prog 43 #[.slice A m c, .int .i64 n] w fun e w' =>
      ∃ A' c', e = .returned (.slice A' n c') ∧ Row w' w.heap.size w'.heap.size 3 1 A' n c' (iv (xs ++ List.replicate (n - m) 0)) ∧ Below w.heap.size w w' := by
  obtain ⟨i0, hi0, hz0, hz1, hz2⟩ := info_parts intInfo
  go_enter Try.func43, Try.ntmps43
  go_wp2_with (at_builtin; refine halt_here ?_)
  refine ⟨wpList_append_sees w rfl _ _ _ rfl w.heap.size w.heap.size 3 i0 _ 1 8 Try.underlying22 hi0 hz0 hz1 hz2 rfl (by omega) none 0 0 [] rfl (Row.none_ w _ _ _ _ (Nat.le_refl _)) A m c (iv xs) rfl hs (iv_one _) (by unfold maxLen; omega) (by omega) (Nat.le_refl _) ?_⟩
  intro A1 c1 w1 hrow1 ho1 _
  rw [Nat.zero_add, List.nil_append] at hrow1
  rw [Nat.zero_add]
  have hb1 := ho1.below (Nat.le_refl _) (Nat.le_refl _)
  clear ho1
  go_wp2_with fail
  go_loopw [5] (fun v wr => ∃ k B d, m + k ≤ n ∧ v = .slice B (m + k) d ∧ Row wr w.heap.size wr.heap.size 3 1 B (m + k) d (iv (xs ++ List.replicate k 0)) ∧ Below w.heap.size w wr) (fun v _ => match v with | .slice _ l _ => n - l | _ => 0)
  case atStart => exact ⟨0, A1, c1, hmn, rfl, by simpa using hrow1, hb1⟩
  case round =>
    obtain ⟨k, B, d, hk, rfl, hrow, hb⟩ := hrel
    by_cases hlt : m + k < n
    · go_wp2_with (at_builtin; refine halt_here ?_)
      have z1 : Sees (wr.alloc (.cells #[.int .i64 0] 3)) (some ⟨wr.heap.size, 0, none⟩) 1 1 (iv [0]) := (Blk.new wr 3 #[.int .i64 0]).sees (pre := []) (post := []) rfl rfl
      refine ⟨wpList_append_sees _ rfl _ _ _ rfl w.heap.size wr.heap.size 3 i0 _ 1 8 Try.underlying22 hi0 hz0 hz1 hz2 rfl (by omega) B (m + k) d _ rfl (hrow.alloc _) _ 1 1 (iv [0]) rfl z1 (iv_one _) (by unfold maxLen; omega) (by omega) (by have := hb.size; simp; omega) ?_⟩
      intro A2 c2 w2 hrow2 ho2 _
      rw [fill_step] at hrow2
      have hb2 : Below w.heap.size w w2 := (hb.alloc hb.size _).trans (ho2.below (Nat.le_refl _) (by have := hb.size; simp; omega))
      clear ho2 z1
      go_wp2_with fail
      go_roundw
      case rel => exact ⟨k + 1, A2, c2, by omega, rfl, hrow2, hb2⟩
      case measure => simp; omega
    · obtain rfl : n = m + k := by omega
      go_wp2_with fail
      go_ret
      rw [show m + k - m = k by omega]
      exact ⟨B, d, rfl, hrow, hb⟩

set_option maxHeartbeats 800000 in
theorem specDeleteRest_ok (A : Option Addr) (n c i j : Nat) (xs : List Int) (w : World) (hs : Sees w A n 1 (iv xs)) (hnc : n ≤ c) (hij : i ≤ j) (hj : j ≤ n) (hn : n ≤ 17592186044416) :
    Calls Try.prog 22 #[.slice A n c, .int .i64 i, .int .i64 j] w fun e w' =>
      ∃ A' c', e = .returned (.tuple #[.slice A' n c', .bool true]) ∧ Row w' w.heap.size w'.heap.size 3 1 A' n c' (iv (xs.take i ++ xs.drop j ++ List.replicate (j - i) 0)) ∧ Below w.heap.size w w' := by
  go_enter Try.func22, Try.ntmps22
  go_wp2_with fail
  refine (specDeleteInts_ok A n c i j xs _ hs hnc hij hj hn).mono ?_
  rintro e w1 ⟨A1, c1, rfl, r1, d1⟩
  go_wp2_with fail
  refine (filled_any A1 (i + (n - j)) c1 n _ _ r1.sees (by omega) hn).mono ?_
  rintro e w2 ⟨A2, c2, rfl, r2, d2⟩
  go_wp2_with fail
  go_ret2
  rw [show n - (i + (n - j)) = j - i by omega] at r2
  exact ⟨A2, c2, rfl, r2.more d1.size (Nat.le_refl _) (Nat.le_refl _), d1.trans (d2.mono d1.size)⟩
set_option maxHeartbeats 400000 in
theorem specDeleteRest_bad (A : Option Addr) (n c : Nat) (i j : Int) (w : World) (hn : n ≤ 17592186044416) (hout : j < 0 ∨ (n : Int) < j ∨ i < 0 ∨ j < i) :
    Calls Try.prog 22 #[.slice A n c, .int .i64 i, .int .i64 j] w fun e w' => e = .returned (.tuple #[.slice none 0 0, .bool false]) ∧ Below w.heap.size w w' := by
  have HO := hide hout
  clear hout
  go_enter Try.func22, Try.ntmps22
  go_wp2_with fail
  refine (specDeleteInts_bad A n c i j _ hn HO.out).mono ?_
  rintro e w1 ⟨rfl, d1⟩
  go_wp2_with fail
  go_ret2
  exact ⟨rfl, d1⟩
end Go.Proofs.Ytkjknjigjdpkoaa
