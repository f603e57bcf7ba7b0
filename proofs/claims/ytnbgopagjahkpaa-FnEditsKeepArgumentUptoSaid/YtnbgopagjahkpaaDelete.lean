/-
  Contracts: the wrappers over slices.Delete, and their references.
-/
import Derived.Test.YtnbgopagjahkpaaDeleteCore
namespace Go.Proofs.Ytnbgopagjahkpaa
open Go.RowKit
set_option linter.unusedVariables false

theorem catch_DeleteInts (p q : Addr) (x y : Value) (u : TypeId) (pv : Value) (older : List PanicEntry) (w : World) (hp : w.cell? p = some x) (hpf : w.frozen? p = false) (hq : w.cell? q = some y) (hqf : w.frozen? q = false) (hne : p.block ≠ q.block) :
    CallsD Try.prog 14 #[.pointer (some p), .pointer (some q)] (.panicking ({ v := .iface u pv, recovered := false } :: older)) w fun e u' w' =>
      e = .returned (.tuple #[]) ∧ u' = .panicking ({ v := .iface u pv, recovered := true } :: older) ∧ w' = (w.setCell p (.slice none 0 0)).setCell q (.bool false) := by
  have hq2 : (w.setCell p (.slice none 0 0)).cell? q = some y := (World.cell?_setCell_other w p q _ (fun e => hne (by rw [e]))).trans hq
  have hqf2 : (w.setCell p (.slice none 0 0)).frozen? q = false := by simpa using hqf
  refine callsD_of_wpS Try.func14 rfl fun c₀ cs hu => ?_
  apply wpS_seq
  apply wpS_region
  simp [wpOpsS, go_sem, recoverD, hu, Try.ntmps14, Exit.thenS]
  refine wpS_cond (t := true) (by simp [Act.eval, Array.replicate]) ?_
  simp only [if_true]
  apply wpS_region
  simp [wpOpsS, go_sem, hp, hpf, hq2, hqf2, bodyPostS, results, Try.results14]
theorem idle_DeleteInts (p q : Addr) (w : World) :
    CallsD Try.prog 14 #[.pointer (some p), .pointer (some q)] .returning w fun e u' w' => e = .returned (.tuple #[]) ∧ u' = .returning ∧ w' = w := by
  refine callsD_of_wpS Try.func14 rfl fun c₀ cs hu => ?_
  apply wpS_seq
  apply wpS_region
  simp [wpOpsS, go_sem, recoverD, hu, Try.ntmps14, Exit.thenS]
  refine wpS_cond (t := false) (by simp [Act.eval, Array.replicate]) ?_
  simp only [Bool.false_eq_true, if_false]
  refine wpS_of_wp (wp_skip ?_)
  cases c₀
  simp_all [bodyPostS, results, Try.results14]

set_option maxHeartbeats 1000000 in
theorem DeleteInts_ok (A : Option Addr) (n c i j : Nat) (xs : List Int) (w : World) (hs : Sees w A n 1 (iv xs)) (hij : i ≤ j) (hj : j ≤ n) (hn : n ≤ 17592186044416) :
    Calls Try.prog 5 #[.slice A n c, .int .i64 i, .int .i64 j] w fun e w' =>
      ∃ A' c', e = .returned (.tuple #[.slice A' (i + (n - j)) c', .bool true]) ∧ Row w' w.heap.size w'.heap.size 3 1 A' (i + (n - j)) c' (iv (xs.take i ++ xs.drop j)) ∧ Below w.heap.size w w' := by
  have hmf : ∀ (fn : Fn) (first cap : Array Value) (w : World), (Instr.makeFunc fn first cap).run Try.prog w = .ok (.func fn first cap) w := fun _ _ _ _ => rfl
  go_enter_defers Try.func5, Try.ntmps5
  go_wp2_with fail
  have z0 : ((w.alloc (.cells #[.slice none 0 0] 22)).alloc (.cells #[.bool false] 4)).heap.size = w.heap.size + 2 := by simp
  have b0 : Below w.heap.size w ((w.alloc (.cells #[.slice none 0 0] 22)).alloc (.cells #[.bool false] 4)) := ((Below.refl _ _).alloc (Nat.le_refl _) _).alloc (by simp) _
  have k0 : Blk ((w.alloc (.cells #[.slice none 0 0] 22)).alloc (.cells #[.bool false] 4)) w.heap.size 22 [.slice none 0 0] := (Blk.new w 22 #[.slice none 0 0]).alloc _
  have k1 : Blk ((w.alloc (.cells #[.slice none 0 0] 22)).alloc (.cells #[.bool false] 4)) (w.heap.size + 1) 4 [.bool false] := by
    have := Blk.new (w.alloc (.cells #[.slice none 0 0] 22)) 4 #[.bool false]
    simpa using this
  refine (numbers_any A n c xs _ (hs.below b0) (by omega)).mono ?_
  generalize ((w.alloc (.cells #[.slice none 0 0] 22)).alloc (.cells #[.bool false] 4)) = W0 at z0 b0 k0 k1 ⊢
  rintro e w1 ⟨A1, c1, rfl, r1, d1⟩
  replace k0 := k0.below d1 (by omega)
  replace k1 := k1.below d1 (by omega)
  replace b0 := b0.trans (d1.mono b0.size)
  have s1 := d1.size
  clear d1
  go_wp2_with fail
  refine (Delete_ok A1 _ _ n c1 i j xs _ r1 hij hj (by omega)).mono ?_
  rintro e w2 ⟨rfl, r2, o2⟩
  clear r1
  replace k0 := k0.only o2 (.inl (by omega))
  replace k1 := k1.only o2 (.inl (by omega))
  replace b0 := b0.trans (o2.below (by omega) (by omega))
  have s2 := o2.size
  clear o2
  have x0 := k0.cell (i := 0) rfl
  have x1 := k0.frozen 0
  have x2 := k1.cell (i := 0) rfl
  have x3 := k1.frozen 0
  have H0 := hide z0
  clear z0
  go_wp2_with fail
  refine leaves_cons (f := 14) (args := #[.pointer (some ⟨w.heap.size, 0, none⟩), .pointer (some ⟨w.heap.size + 1, 0, none⟩)]) (by simp) (by simp [go_sem]) ?_
  refine (idle_DeleteInts _ _ _).mono ?_
  rintro e u' w'' ⟨rfl, rfl, rfl⟩
  have y0 := ((k0.set 0 (.slice A1 (i + (n - j)) c1)).far (p := ⟨w.heap.size + 1, 0, none⟩) (by simp) (.bool true)).cell (i := 0) rfl
  have y1 := ((k1.far (p := ⟨w.heap.size, 0, none⟩) (by simp) (.slice A1 (i + (n - j)) c1)).set 0 (.bool true)).cell (i := 0) rfl
  have h0 := H0.out
  simp [Leaves, settle, results, Try.results5, go_sem, y0, y1]
  have hx := hs.ilen
  rw [iv_append] at r2
  have h2 := r2.short (m := i + (n - j)) (by rw [iv_len, List.length_append, List.length_take, List.length_drop]; omega) (by omega)
  have h3 := ((h2.far (p := ⟨w.heap.size, 0, none⟩) (.inl (by simp; omega)) (.slice A1 (i + (n - j)) c1)).far (p := ⟨w.heap.size + 1, 0, none⟩) (.inl (by simp; omega)) (.bool true)).more (lo' := w.heap.size) (hi' := w2.heap.size) (by omega) s2 (by simp)
  refine ⟨A1, c1, ⟨rfl, rfl⟩, ?_, ?_⟩
  · simpa using h3
  · exact (b0.setCell (p := ⟨w.heap.size, 0, none⟩) (Nat.le_refl _) _).setCell (p := ⟨w.heap.size + 1, 0, none⟩) (by simp) _

set_option maxHeartbeats 1000000 in
theorem DeleteInts_bad (A : Option Addr) (n c : Nat) (i j : Int) (xs : List Int) (w : World) (hs : Sees w A n 1 (iv xs)) (hn : n ≤ 17592186044416) (hout : j < 0 ∨ (n : Int) < j ∨ i < 0 ∨ j < i) :
    Calls Try.prog 5 #[.slice A n c, .int .i64 i, .int .i64 j] w fun e w' => e = .returned (.tuple #[.slice none 0 0, .bool false]) ∧ Below w.heap.size w w' := by
  have hmf : ∀ (fn : Fn) (first cap : Array Value) (w : World), (Instr.makeFunc fn first cap).run Try.prog w = .ok (.func fn first cap) w := fun _ _ _ _ => rfl
  go_enter_defers Try.func5, Try.ntmps5
  go_wp2_with fail
  have z0 : ((w.alloc (.cells #[.slice none 0 0] 22)).alloc (.cells #[.bool false] 4)).heap.size = w.heap.size + 2 := by simp
  have b0 : Below w.heap.size w ((w.alloc (.cells #[.slice none 0 0] 22)).alloc (.cells #[.bool false] 4)) := ((Below.refl _ _).alloc (Nat.le_refl _) _).alloc (by simp) _
  have k0 : Blk ((w.alloc (.cells #[.slice none 0 0] 22)).alloc (.cells #[.bool false] 4)) w.heap.size 22 [.slice none 0 0] := (Blk.new w 22 #[.slice none 0 0]).alloc _
  have k1 : Blk ((w.alloc (.cells #[.slice none 0 0] 22)).alloc (.cells #[.bool false] 4)) (w.heap.size + 1) 4 [.bool false] := by
    have := Blk.new (w.alloc (.cells #[.slice none 0 0] 22)) 4 #[.bool false]
    simpa using this
  refine (numbers_any A n c xs _ (hs.below b0) (by omega)).mono ?_
  generalize ((w.alloc (.cells #[.slice none 0 0] 22)).alloc (.cells #[.bool false] 4)) = W0 at z0 b0 k0 k1 ⊢
  rintro e w1 ⟨A1, c1, rfl, r1, d1⟩
  replace k0 := k0.below d1 (by omega)
  replace k1 := k1.below d1 (by omega)
  replace b0 := b0.trans (d1.mono b0.size)
  have s1 := d1.size
  clear d1
  go_wp2_with fail
  have hcap := r1.cap.1
  refine (Delete_panics A1 n c1 i j _ hcap hout).mono ?_
  rintro e w2 ⟨u, pv, rfl, d2⟩
  replace k0 := k0.below d2 (by omega)
  replace k1 := k1.below d2 (by omega)
  replace b0 := b0.trans (d2.mono b0.size)
  clear d2
  have x0 := k0.cell (i := 0) rfl
  have x1 := k0.frozen 0
  have x2 := k1.cell (i := 0) rfl
  have x3 := k1.frozen 0
  have H0 := hide z0
  clear z0
  go_wp2_with fail
  refine leaves_cons (f := 14) (args := #[.pointer (some ⟨w.heap.size, 0, none⟩), .pointer (some ⟨w.heap.size + 1, 0, none⟩)]) (by simp) (by simp [go_sem]) ?_
  refine (catch_DeleteInts ⟨w.heap.size, 0, none⟩ ⟨w.heap.size + 1, 0, none⟩ _ _ _ _ [] _ x0 x1 x2 x3 (by simp)).mono ?_
  rintro e u' w'' ⟨rfl, rfl, rfl⟩
  have y0 := ((k0.set 0 (.slice none 0 0)).far (p := ⟨w.heap.size + 1, 0, none⟩) (by simp) (.bool false)).cell (i := 0) rfl
  have y1 := ((k1.far (p := ⟨w.heap.size, 0, none⟩) (by simp) (.slice none 0 0)).set 0 (.bool false)).cell (i := 0) rfl
  simp [Leaves, settle, results, Try.results5, go_sem, y0, y1]
  exact (b0.setCell (p := ⟨w.heap.size, 0, none⟩) (Nat.le_refl _) _).setCell (p := ⟨w.heap.size + 1, 0, none⟩) (by simp) _

theorem DeleteInts_at (A : Option Addr) (n c i j : Nat) (xs : List Int) (w : World) (hs : Sees w A n 1 (iv xs)) (hij : i ≤ j) (hj : j ≤ n) (hn : n ≤ 17592186044416) (I J : Int) (hI : I = (i : Int)) (hJ : J = (j : Int)) :
    Calls Try.prog 5 #[.slice A n c, .int .i64 I, .int .i64 J] w fun e w' =>
      ∃ A' c', e = .returned (.tuple #[.slice A' (i + (n - j)) c', .bool true]) ∧ Row w' w.heap.size w'.heap.size 3 1 A' (i + (n - j)) c' (iv (xs.take i ++ xs.drop j)) ∧ Below w.heap.size w w' := by
  subst hI hJ
  exact DeleteInts_ok A n c i j xs w hs hij hj hn

theorem fill_step (xs : List Int) (k : Nat) : iv (xs ++ List.replicate k 0) ++ iv [0] = iv (xs ++ List.replicate (k + 1) 0) := by
  rw [← iv_append, List.append_assoc, List.replicate_succ']
end Go.Proofs.Ytnbgopagjahkpaa
