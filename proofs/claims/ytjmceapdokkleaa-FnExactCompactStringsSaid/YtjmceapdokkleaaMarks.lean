/-
  Contracts: strings that mark: laws.markText, markStringS, heldStringS.
-/
import Derived.Test.YtjmceapdokkleaaStrs
import Derived.Deep.RegionWith
import Derived.Laws.BytesString
namespace Go.Proofs.Ytjmceapdokkleaa
open Go.RowKit
set_option linter.unusedVariables false

/-- a text of one byte -/
def oneByte (d : Int) : ByteArray := [d].foldl (fun r n => r.push (UInt8.ofNat n.toNat)) ByteArray.empty
theorem oneByte_size (d : Int) : (oneByte d).size = 1 := rfl
/-- the digits of a number ahead of a text -/
def digs : Nat → Nat → ByteArray → ByteArray
  | 0, _, t => t
  | f + 1, m, t => if m = 0 then t else digs f (m / 10) (oneByte (48 + (m : Int) % 10) ++ t)
theorem digs_zero (f : Nat) (t : ByteArray) : digs f 0 t = t := by cases f <;> simp [digs]
theorem digs_step (f m : Nat) (t : ByteArray) (h : 0 < m) : digs (f + 1) m t = digs f (m / 10) (oneByte (48 + (m : Int) % 10) ++ t) := by rw [digs, if_neg (by omega)]
/-- the mark of a number -/
def mt (k : Nat) : ByteArray := ⟨#[109]⟩ ++ digs k k ⟨#[]⟩

theorem run_conv (d : Int) (w : World) : (convert 52 9 (.slice (some ⟨w.heap.size, 0, none⟩) 1 1)).run Try.prog (w.alloc (.cells #[.int .u8 d] 5)) = .ok (.string (oneByte d)) (w.alloc (.cells #[.int .u8 d] 5)) := by
  rw [run_convert_bytes_string _ 52 9 5 _ 1 1 Try.underlying52 Try.underlying5 Try.underlying9]
  refine run_bytesToString _ _ 1 1 [d] ?_
  have hc := (Blk.new w 5 #[.int .u8 d]).cell (i := 0) rfl
  have := run_firstCells_some (P := Try.prog) (w.alloc (.cells #[.int .u8 d] 5)) 1 1 ⟨w.heap.size, 0, none⟩ 1 1 [.int .u8 d] rfl (fun j u hu => by
    cases j with
    | zero => simp at hu; subst hu; rw [Addr.add_zero']; exact hc
    | succ j => simp at hu)
  simpa [Builtin.firstCells] using this

set_option maxHeartbeats 400000 in
theorem markText_any (k : Nat) (w : World) (hk : k ≤ 70368744177664) (h0 : 0 < k) :
    Calls Try.prog 43 #[.int .i64 k] w fun e w' => e = .returned (.string (mt k)) ∧ Below w.heap.size w w' := by
  have hq := run_conv
  go_enter Try.func43, Try.ntmps43
  go_wp2_with fail
  go_loopw [0, 3] (fun v s wr => ∃ (m f : Nat) (t : ByteArray), m ≤ f ∧ t.size + m ≤ k ∧ v = .int .i64 m ∧ s = .string t ∧ Hid (digs f m t = digs k k ⟨#[]⟩) ∧ Below w.heap.size w wr) (fun v _ _ => (intOf v).toNat)
  case atStart => exact ⟨k, k, ⟨#[]⟩, Nat.le_refl _, by show 0 + k ≤ k; omega, rfl, rfl, rfl, Below.refl _ _⟩
  case round =>
    obtain ⟨m, f, t, hmf, hmk, rfl, rfl, HD, hb⟩ := hrel
    by_cases hlt : 0 < m
    · obtain ⟨f, rfl⟩ : ∃ g, f = g + 1 := ⟨f - 1, by omega⟩
      have HD2 : Hid (digs f (m / 10) (oneByte (48 + (m : Int) % 10) ++ t) = digs k k ⟨#[]⟩) := by
        show _ = _
        rw [← digs_step f m t hlt]
        exact HD.out
      have hsz : (oneByte (48 + (m : Int) % 10)).size = 1 := rfl
      have hs2 : ¬ ((oneByte (48 + (m : Int) % 10)).size + t.size > 9223372036854775807) := by omega
      have hs3 : (oneByte (48 + (m : Int) % 10) ++ t).size = 1 + t.size := by rw [ByteArray.size_append, hsz]
      have HS3 := hide hs3
      have b2 : Below w.heap.size w (wr.alloc (.cells #[.int .u8 (48 + (m : Int) % 10)] 5)) := hb.alloc hb.size _
      clear HD hs3 hb hsz
      go_wp2_with fail
      go_roundw
      case rel => exact ⟨m / 10, f, _, by omega, by rw [HS3.out]; omega, by go_num, rfl, HD2, b2⟩
      case measure => simp [intOf]; omega
    · obtain rfl : m = 0 := by omega
      rw [digs_zero] at HD
      have hs2 : ¬ ((ByteArray.mk #[109]).size + t.size > 9223372036854775807) := by
        have : (ByteArray.mk #[109]).size = 1 := rfl
        omega
      go_wp2_with fail
      go_ret
      rw [mt, ← HD.out]
      exact ⟨rfl, hb⟩

/-- the marks from k on -/
def uptoS (k n : Nat) : List ByteArray := (List.range n).map fun j => mt (k + j)
theorem uptoS_len (k n : Nat) : (uptoS k n).length = n := by simp [uptoS]
theorem uptoS_get (k n j : Nat) (h : j < n) : (uptoS k n)[j]? = some (mt (k + j)) := by simp [uptoS, h]
theorem uptoS_snoc (k j : Nat) : uptoS k (j + 1) = uptoS k j ++ [mt (k + j)] := by simp [uptoS, List.range_succ]
theorem mark_stepS (xs : List ByteArray) (k j n : Nat) (hn : xs.length = n) (hj : j < n) : (sv (uptoS k j ++ xs.drop j)).set j (.string (mt (k + j))) = sv (uptoS k (j + 1) ++ xs.drop (j + 1)) := by
  have h1 : xs.drop j = (xs[j]'(by omega)) :: xs.drop (j + 1) := List.drop_eq_getElem_cons (by omega)
  have hl : (sv (uptoS k j)).length = j := by rw [sv_len, uptoS_len]
  rw [h1, sv_append, List.set_append_right _ _ (by omega), hl, Nat.sub_self, uptoS_snoc, sv_append, sv_append, List.append_assoc]
  rfl

set_option maxHeartbeats 800000 in
theorem markStringS_any (A : Option Addr) (lo hi n c k : Nat) (xs : List ByteArray) (w : World) (hr : Row w lo hi 9 1 A n c (sv xs)) (hn : n ≤ 8388608) (hk0 : 0 < k) (hk1 : k ≤ 8388608) :
    Calls Try.prog 32 #[.slice A n c, .int .i64 k] w fun e w' =>
      e = .returned (.int .i64 ((k + n : Nat) : Int)) ∧ Row w' lo hi 9 1 A n c (sv (uptoS k n)) ∧ Only lo hi w w' := by
  have HX := hide hr.sees.slen
  go_enter Try.func32, Try.ntmps32
  go_wp2
  go_loopw [1, 5] (fun m i wr => ∃ j : Nat, j ≤ n ∧ i = .int .i64 j ∧ m = .int .i64 ((k + j : Nat) : Int) ∧ Row wr lo hi 9 1 A n c (sv (uptoS k j ++ xs.drop j)) ∧ Only lo hi w wr) (fun _ i _ => n - (intOf i).toNat)
  case atStart =>
    refine ⟨0, Nat.zero_le _, rfl, rfl, ?_, Only.refl _ _ _⟩
    simpa [uptoS] using hr
  case round =>
    clear hr
    obtain ⟨j, hj, rfl, rfl, hrow, ho⟩ := hrel
    by_cases hlt : j < n
    · obtain ⟨q, hq⟩ : ∃ q, k + j = q := ⟨_, rfl⟩
      have hq1 : 0 < q := by omega
      have hq2 : q ≤ 16777216 := by omega
      have HQ := hide hq
      rw [hq]
      clear hq
      go_wp2_with fail
      refine (markText_any q _ (by omega) hq1).mono ?_
      rintro e w2 ⟨rfl, d2⟩
      have r2 := hrow.next d2
      have o2 : Only lo hi w w2 := ho.trans (Only.of_below d2 (Nat.le_refl _))
      clear d2 hrow ho
      obtain ⟨g, rfl, hg1, hg2⟩ := r2.form (by omega)
      obtain ⟨u, hc⟩ : ∃ u, w2.cell? ⟨g, j, none⟩ = some u := by
        have hc := r2.1.cellAt j (by omega)
        have hl := r2.len
        rw [List.getElem?_eq_getElem (by omega)] at hc
        exact ⟨_, hc⟩
      have hf := r2.1.frozenAt j
      go_wp2_with fail
      go_roundw
      case rel =>
        have hst := r2.stored rfl j (.string (mt q))
        rw [← HQ.out, mark_stepS xs k j n HX.out hlt] at hst
        refine ⟨j + 1, by omega, by go_num, by rw [← Nat.add_assoc, HQ.out]; rfl, ?_, o2.setCell (p := ⟨g, j, none⟩) hg1 hg2 _⟩
        rw [← HQ.out]
        exact hst
      case measure => simp [intOf]; omega
    · obtain rfl : j = n := by omega
      go_wp2_with fail
      go_ret
      refine ⟨rfl, ?_, ho⟩
      rw [List.drop_of_length_le (by rw [HX.out]; exact Nat.le_refl _), List.append_nil] at hrow
      exact hrow

set_option maxHeartbeats 800000 in
theorem heldStringS_any (A : Option Addr) (n c k : Nat) (w : World) (hs : Sees w A n 1 (sv (uptoS k n))) (hn : n ≤ 8388608) (hk0 : 0 < k) (hk1 : k ≤ 8388608) :
    Calls Try.prog 33 #[.slice A n c, .int .i64 k] w fun e w' => e = .returned (.int .i64 ((k + n : Nat) : Int)) ∧ Below w.heap.size w w' := by
  go_enter Try.func33, Try.ntmps33
  go_wp2_with fail
  go_loopw [1, 5] (fun m i wr => ∃ j : Nat, j ≤ n ∧ i = .int .i64 j ∧ m = .int .i64 ((k + j : Nat) : Int) ∧ Below w.heap.size w wr) (fun _ i _ => n - (intOf i).toNat)
  case atStart => exact ⟨0, Nat.zero_le _, rfl, rfl, Below.refl _ _⟩
  case round =>
    obtain ⟨j, hj, rfl, rfl, hb⟩ := hrel
    by_cases hlt : j < n
    · obtain ⟨ad, x, rfl, hbl, HX, hc⟩ := (hs.below hb).str hlt
      have hx : x = mt (k + j) := by
        have h1 := HX.out
        rw [uptoS_get k n j hlt] at h1
        exact (Option.some.inj h1).symm
      obtain ⟨q, hq⟩ : ∃ q, k + j = q := ⟨_, rfl⟩
      have hq1 : 0 < q := by omega
      have hq2 : q ≤ 16777216 := by omega
      have HQ := hide hq
      rw [hq] at hx ⊢
      subst hx
      have e1 : ((mt q).toList == (mt q).toList) = true := by simp
      have hcd : wr.drew.cell? (ad.add j) = some (.string (mt q)) := hc
      have HB : Hid (Below w.heap.size w wr.drew) := hb.drew
      have HBL : Hid (ad.block < wr.drew.heap.size) := hbl
      have HC : Hid (wr.drew.cell? (ad.add j) = some (.string (mt q))) := hc
      clear hq hb hbl hs hc
      go_wp2_with fail
      go_region_with (go_at_call 43; refine (markText_any q _ (by omega) hq1).mono ?_; rintro e w2 ⟨rfl, d2⟩; have hc2 : w2.cell? (ad.add j) = some (.string (mt q)) := (d2.cell (p := ad.add j) (by rw [blk_add]; exact HBL.out)).trans HC.out; have b2 : Below w.heap.size w w2 := HB.out.trans (d2.mono HB.out.size); clear d2)
      all_goals
        go_wp2_with fail
        go_roundw
        case rel => exact ⟨j + 1, by omega, by go_num, by rw [← Nat.add_assoc, HQ.out]; rfl, b2⟩
        case measure => simp [intOf]; omega
    · obtain rfl : j = n := by omega
      go_wp2_with fail
      go_ret
      exact ⟨rfl, hb⟩
end Go.Proofs.Ytjmceapdokkleaa
