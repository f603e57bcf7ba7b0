/-
  Lists of lists of numbers in memory of the call's own.
-/
import Derived.Test.YtjmceapdokkleaaConcat
namespace Go.Proofs.Ytjmceapdokkleaa
open Go.RowKit
set_option linter.unusedVariables false

theorem infoInts : (Try.prog.info? 23).map (fun i => (i.zero, i.size, i.bytes)) = some (some (.slice none 0 0), 1, 24) := by kernel_rfl

section
variable {w w' : World} {lo hi : Nat} {e : TypeId} {sz : Nat} {A : Option Addr} {n c : Nat} {xs : List Value}
theorem Row.tight {g : Nat} (h : Row w lo hi e sz (some ⟨g, 0, none⟩) n c xs) : Row w g (g + 1) e sz (some ⟨g, 0, none⟩) n c xs := by
  rcases h.1.2 with ⟨hv, _⟩ | ⟨g', cap, cur, hv, _, hg, rest⟩
  · cases hv
  · have he := hv
    injection he with he
    injection he with he
    injection he with he
    subst he
    refine ⟨⟨h.1.1, .inr ⟨g, cap, cur, hv, Nat.le_refl _, hg, rest⟩⟩, fun ad ha => ?_, (Array.getElem?_eq_some_iff.1 hg).1⟩
    obtain rfl := Option.some.inj ha
    exact Nat.lt_succ_self _
theorem Row.away {g : Nat} (h : Row w lo hi e sz A n c xs) (ho : Only g (g + 1) w w') (hne : ∀ a, A = some a → a.block ≠ g) : Row w' lo hi e sz A n c xs := by
  refine ⟨⟨h.1.1, ?_⟩, h.2.1, Nat.le_trans h.2.2 ho.size⟩
  rcases h.1.2 with hn | ⟨g', cap, cur, hv, hl, hg, rest⟩
  · exact .inl hn
  · refine .inr ⟨g', cap, cur, hv, hl, ?_, rest⟩
    injection hv with hA
    have h3 := (Array.getElem?_eq_some_iff.1 hg).1
    have h4 := hne _ hA
    rw [ho.block g' h3 (by simp at h4; omega)]
    exact hg
theorem Row.obj {g : Nat} (h : Row w lo hi e sz (some ⟨g, 0, none⟩) n c xs) : ∃ cs, w.heap[g]? = some (.cells cs e (0, 0)) := by
  obtain ⟨g', post, hA, _, _, hb, _⟩ := h.block rfl
  injection hA with hA
  injection hA with hA
  subst hA
  exact ⟨_, hb⟩
theorem Row.at0 {ad : Addr} (h : Row w lo hi e sz (some ad) n c xs) : ∃ g, ad = ⟨g, 0, none⟩ ∧ lo ≤ g ∧ g < hi := by
  obtain ⟨g, post, hA, h1, h2, _⟩ := h.block rfl
  exact ⟨g, Option.some.inj hA, h1, h2⟩
theorem Row.none0 (h : Row w lo hi e sz none n c xs) : n = 0 ∧ c = 0 := by
  rcases h.1.2 with ⟨hv, _⟩ | ⟨g', cap, cur, hv, _⟩
  · injection hv with _ h1 h2
    exact ⟨h1, h2⟩
  · cases hv
end

structure Mat (w : World) (lo hi : Nat) (A : Option Addr) (n c : Nat) (ps : List Pt) : Prop where
  out : Row w lo hi 23 1 A n c (qv ps)
  own : ∀ p ∈ ps, Row w lo hi 3 1 p.A p.n p.c (iv p.xs)
  apart : ∀ (i j : Nat) (p q : Pt), ps[i]? = some p → ps[j]? = some q → i ≠ j → ∀ a b, p.A = some a → q.A = some b → a.block ≠ b.block

section
variable {w w' : World} {lo hi : Nat} {A : Option Addr} {n c : Nat} {ps : List Pt}
theorem Mat.all (h : Mat w lo hi A n c ps) : All w ps := fun p hp => ⟨(h.own p hp).sees, (h.own p hp).cap.1⟩
theorem Mat.sees (h : Mat w lo hi A n c ps) : Sees w A n 1 (qv ps) := h.out.sees
theorem Mat.next (h : Mat w lo hi A n c ps) (hb : Below w.heap.size w w') : Mat w' lo hi A n c ps :=
  ⟨h.out.next hb, fun p hp => (h.own p hp).next hb, h.apart⟩
theorem Mat.more {lo' hi' : Nat} (h : Mat w lo hi A n c ps) (hl : lo' ≤ lo) (hh : hi ≤ hi') (hw : hi' ≤ w.heap.size) : Mat w lo' hi' A n c ps :=
  ⟨h.out.more hl hh hw, fun p hp => (h.own p hp).more hl hh hw, h.apart⟩
theorem Mat.only {lo' hi' : Nat} (h : Mat w lo hi A n c ps) (ho : Only lo' hi' w w') (hd : hi ≤ lo' ∨ hi' ≤ lo) : Mat w' lo hi A n c ps :=
  ⟨h.out.only ho hd, fun p hp => (h.own p hp).only ho hd, h.apart⟩
/-- the outer memory is of another type than the inner ones -/
theorem Mat.off (h : Mat w lo hi A n c ps) (p : Pt) (hp : p ∈ ps) (a b : Addr) (ha : A = some a) (hb : p.A = some b) : a.block ≠ b.block := by
  have h1 := h.out
  have h2 := h.own p hp
  rw [ha] at h1
  rw [hb] at h2
  obtain ⟨g, rfl, _⟩ := h1.at0
  obtain ⟨g', rfl, _⟩ := h2.at0
  obtain ⟨cs, hc⟩ := h1.obj
  obtain ⟨ds, hd⟩ := h2.obj
  intro he
  change g = g' at he
  subst he
  rw [hc] at hd
  injection hd with hd
  injection hd with _ hd
  exact absurd hd (by decide)
theorem qv_set (ps : List Pt) (j : Nat) (p : Pt) : (qv ps).set j (ptv p) = qv (ps.set j p) := by simp [qv, List.map_set]
/-- a new list laid into a place -/
theorem Mat.put {G j : Nat} (h : Mat w lo hi (some ⟨G, 0, none⟩) n c ps) (p : Pt) (hp : Row w lo hi 3 1 p.A p.n p.c (iv p.xs)) (hg : ∀ b, p.A = some b → b.block ≠ G)
    (hd : ∀ q ∈ ps, ∀ a b, q.A = some a → p.A = some b → a.block ≠ b.block) : Mat (w.setCell ⟨G, j, none⟩ (ptv p)) lo hi (some ⟨G, 0, none⟩) n c (ps.set j p) := by
  have ho : Only G (G + 1) w (w.setCell ⟨G, j, none⟩ (ptv p)) := (Only.refl G (G + 1) w).setCell (p := ⟨G, j, none⟩) (Nat.le_refl _) (Nat.lt_succ_self _) _
  have hs : (w.setCell ⟨G, j, none⟩ (ptv p)).heap.size = w.heap.size := by simp [World.setCell]
  refine ⟨?_, fun q hq => ?_, fun i k q r hq hr hik a b ha hb => ?_⟩
  · have h1 := h.out.stored rfl j (ptv p)
    rw [qv_set] at h1
    exact h1
  · rcases List.mem_or_eq_of_mem_set hq with hq | rfl
    · exact (h.own q hq).away ho (fun a ha => Ne.symm (h.off q hq ⟨G, 0, none⟩ a rfl ha))
    · exact hp.away ho (fun a ha => hg a ha)
  · rw [List.getElem?_set] at hq hr
    by_cases hi : j = i
    · subst hi
      rw [if_pos rfl] at hq
      rw [if_neg hik] at hr
      split at hq
      · obtain rfl := Option.some.inj hq
        exact fun e => hd r (List.mem_of_getElem? hr) b a hb ha e.symm
      · cases hq
    · rw [if_neg hi] at hq
      by_cases hk : j = k
      · subst hk
        rw [if_pos rfl] at hr
        split at hr
        · obtain rfl := Option.some.inj hr
          exact hd q (List.mem_of_getElem? hq) a b ha hb
        · cases hr
      · rw [if_neg hk] at hr
        exact h.apart i k q r hq hr hik a b ha hb
/-- an inner list written over -/
theorem Mat.wrote {g j : Nat} {p : Pt} {ys : List Int} (h : Mat w lo hi A n c ps) (hj : ps[j]? = some p) (hA : p.A = some ⟨g, 0, none⟩) (ho : Only g (g + 1) w w') (hr : Row w' g (g + 1) 3 1 p.A p.n p.c (iv ys)) :
    Mat w' lo hi A n c (ps.set j { p with xs := ys }) := by
  have hm := List.mem_of_getElem? hj
  have hlo : lo ≤ g ∧ g < hi := by
    have h1 := h.own p hm
    rw [hA] at h1
    obtain ⟨g', hg, h2, h3⟩ := h1.at0
    injection hg with hg
    subst hg
    exact ⟨h2, h3⟩
  have hjl := (List.getElem?_eq_some_iff.1 hj).1
  have hq : qv (ps.set j { p with xs := ys }) = qv ps := by
    rw [← qv_set]
    have : (qv ps)[j]? = some (ptv p) := by rw [qv_get, hj]; rfl
    refine List.ext_getElem? fun i => ?_
    rw [List.getElem?_set]
    split
    · rename_i hi
      subst hi
      rw [if_pos (by rw [qv_len]; exact hjl), this]
      rfl
    · rfl
  refine ⟨?_, fun q hqm => ?_, fun i k q r hq2 hr2 hik a b ha hb => ?_⟩
  · rw [hq]
    exact h.out.away ho (fun a ha => by have := h.off p hm a ⟨g, 0, none⟩ ha hA; simpa using this)
  · by_cases hqp : ∃ i, ps[i]? = some q ∧ i ≠ j
    · obtain ⟨i, hi, hij⟩ := hqp
      exact (h.own q (List.mem_of_getElem? hi)).away ho (fun a ha => by have := h.apart i j q p hi hj hij a ⟨g, 0, none⟩ ha hA; simpa using this)
    · obtain ⟨i, hi⟩ := List.mem_iff_getElem?.1 hqm
      rw [List.getElem?_set] at hi
      split at hi
      · obtain rfl := Option.some.inj hi
        exact hr.more hlo.1 hlo.2 (Nat.le_trans h.out.2.2 ho.size)
      · rename_i hij
        exact absurd ⟨i, hi, Ne.symm hij⟩ hqp
  · have e1 : ∃ q', ps[i]? = some q' ∧ q'.A = q.A := by
      rw [List.getElem?_set] at hq2
      split at hq2
      · rename_i hi
        subst hi
        obtain rfl := Option.some.inj hq2
        exact ⟨p, hj, rfl⟩
      · exact ⟨q, hq2, rfl⟩
    have e2 : ∃ r', ps[k]? = some r' ∧ r'.A = r.A := by
      rw [List.getElem?_set] at hr2
      split at hr2
      · rename_i hi
        subst hi
        obtain rfl := Option.some.inj hr2
        exact ⟨p, hj, rfl⟩
      · exact ⟨r, hr2, rfl⟩
    obtain ⟨q', h1, h2⟩ := e1
    obtain ⟨r', h3, h4⟩ := e2
    exact h.apart i k q' r' h1 h3 hik a b (h2.trans ha) (h4.trans hb)
end
end Go.Proofs.Ytjmceapdokkleaa
