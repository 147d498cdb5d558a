import Derived.Test.Qxb6601010aP1
namespace Go.Proofs.Qxb6601010a
set_option linter.unusedVariables false

/-- [x, y) holds its own places, sorted. -/
structure Blk (L : Nat → Nat → Bool) (t : Nat → Nat) (x y : Nat) : Prop where
  fro : ∀ j, x ≤ j → j < y → x ≤ t j ∧ t j < y
  to : ∀ v, x ≤ v → v < y → ∃ j, x ≤ j ∧ j < y ∧ t j = v
  sorted : Sorted L t x y
theorem Blk.congr {L : Nat → Nat → Bool} {t u : Nat → Nat} {x y : Nat} (h : Blk L t x y) (he : ∀ j, x ≤ j → j < y → u j = t j) : Blk L u x y :=
  ⟨fun j h1 h2 => by rw [he j h1 h2]; exact h.fro j h1 h2, fun v h1 h2 => by
    obtain ⟨j, q1, q2, q3⟩ := h.to v h1 h2
    exact ⟨j, q1, q2, (he j q1 q2).trans q3⟩, h.sorted.congr he⟩
/-- Out of a merge. -/
theorem Blk.of_mrg {L : Nat → Nat → Bool} {t u : Nat → Nat} {x m y : Nat} (h1 : Blk L t x m) (h2 : Blk L t m y) (hx : x ≤ m) (hy : m ≤ y) (hm : Mrg L x y t u) : Blk L u x y := by
  refine ⟨fun j q1 q2 => ?_, fun v q1 q2 => ?_, hm.sorted⟩
  · obtain ⟨i, r1, r2, r3⟩ := hm.same.fro j q1 q2
    rw [r3]
    by_cases c : i < m
    · have := h1.fro i r1 c; omega
    · have := h2.fro i (by omega) r2; omega
  · by_cases c : v < m
    · obtain ⟨i, r1, r2, r3⟩ := h1.to v q1 c
      obtain ⟨j, p1, p2, p3⟩ := hm.same.to i r1 (by omega)
      exact ⟨j, p1, p2, p3.trans r3⟩
    · obtain ⟨i, r1, r2, r3⟩ := h2.to v (by omega) q2
      obtain ⟨j, p1, p2, p3⟩ := hm.same.to i (by omega) r2
      exact ⟨j, p1, p2, p3.trans r3⟩
theorem Blk.of_ins {L : Nat → Nat → Bool} {t u : Nat → Nat} {x y : Nat} (hid : ∀ j, x ≤ j → j < y → t j = j) (hm : Mrg L x y t u) : Blk L u x y := by
  refine ⟨fun j q1 q2 => ?_, fun v q1 q2 => ?_, hm.sorted⟩
  · obtain ⟨i, r1, r2, r3⟩ := hm.same.fro j q1 q2
    rw [r3, hid i r1 r2]; exact ⟨r1, r2⟩
  · obtain ⟨j, p1, p2, p3⟩ := hm.same.to v q1 q2
    exact ⟨j, p1, p2, p3.trans (hid v q1 q2)⟩
theorem Blk.sep {L : Nat → Nat → Bool} {t : Nat → Nat} {x m y : Nat} (h1 : Blk L t x m) (h2 : Blk L t m y) : Sep t x m y := fun i j i1 i2 j1 j2 => by
  have := h1.fro i i1 i2
  have := h2.fro j j1 j2
  omega

/-- [x, n) in blocks of bs, the last one may be short. -/
inductive Cov (L : Nat → Nat → Bool) (bs : Nat) (t : Nat → Nat) (n : Nat) : Nat → Prop
  | nil {x : Nat} : x = n → Cov L bs t n x
  | last {x : Nat} : x < n → n ≤ x + bs → Blk L t x n → Cov L bs t n x
  | cons {x : Nat} : x + bs ≤ n → Blk L t x (x + bs) → Cov L bs t n (x + bs) → Cov L bs t n x
theorem Cov.congr {L : Nat → Nat → Bool} {bs n x : Nat} {t u : Nat → Nat} (h : Cov L bs t n x) (he : ∀ j, x ≤ j → u j = t j) : Cov L bs u n x := by
  induction h with
  | nil e => exact .nil e
  | last h1 h2 h3 => exact .last h1 h2 (h3.congr fun j q1 q2 => he j q1)
  | cons h1 h2 h3 ih => exact .cons h1 (h2.congr fun j q1 q2 => he j q1) (ih fun j q => he j (by omega))
/-- [0, a) in full blocks. -/
inductive Pre (L : Nat → Nat → Bool) (bs : Nat) (t : Nat → Nat) : Nat → Prop
  | zero : Pre L bs t 0
  | snoc {a : Nat} : Pre L bs t a → Blk L t a (a + bs) → Pre L bs t (a + bs)
theorem Pre.congr {L : Nat → Nat → Bool} {bs a : Nat} {t u : Nat → Nat} (h : Pre L bs t a) (he : ∀ j, j < a → u j = t j) : Pre L bs u a := by
  induction h with
  | zero => exact .zero
  | snoc h1 h2 ih => exact .snoc (ih fun j q => he j (by omega)) (h2.congr fun j q1 q2 => he j q2)
theorem Pre.cov {L : Nat → Nat → Bool} {bs a n : Nat} {t : Nat → Nat} (h : Pre L bs t a) (hc : Cov L bs t n a) (ha : a ≤ n) : Cov L bs t n 0 := by
  induction h with
  | zero => exact hc
  | snoc h1 h2 ih => exact ih (.cons ha h2 hc) (by omega)
theorem Cov.two {L : Nat → Nat → Bool} {bs n x : Nat} {t : Nat → Nat} (h : Cov L bs t n x) (h0 : 0 < bs) (hn : x + (bs + bs) ≤ n) : Blk L t x (x + bs) ∧ Blk L t (x + bs) (x + bs + bs) ∧ Cov L bs t n (x + bs + bs) := by
  cases h with
  | nil e => omega
  | last h1 h2 h3 => omega
  | cons h1 h2 h3 =>
    refine ⟨h2, ?_⟩
    cases h3 with
    | nil e => omega
    | last g1 g2 g3 =>
      have e : n = x + bs + bs := by omega
      rw [e] at g3
      exact ⟨g3, .nil e.symm⟩
    | cons g1 g2 g3 => exact ⟨g2, g3⟩
theorem Cov.rest {L : Nat → Nat → Bool} {bs n x : Nat} {t : Nat → Nat} (h : Cov L bs t n x) (h0 : 0 < bs) (h1 : x + bs < n) (h2 : n < x + (bs + bs)) : Blk L t x (x + bs) ∧ Blk L t (x + bs) n := by
  cases h with
  | nil e => omega
  | last h1 h2 h3 => omega
  | cons h1 h2 h3 =>
    refine ⟨h2, ?_⟩
    cases h3 with
    | nil e => omega
    | last g1 g2 g3 => exact g3
    | cons g1 g2 g3 => omega
theorem Cov.end' {L : Nat → Nat → Bool} {bs n x : Nat} {t : Nat → Nat} (h : Cov L bs t n x) (h0 : 0 < bs) (h1 : n ≤ x + bs) : x = n ∨ (x < n ∧ Blk L t x n) := by
  cases h with
  | nil e => exact .inl e
  | last g1 g2 g3 => exact .inr ⟨g1, g3⟩
  | cons g1 g2 g3 =>
    have e : n = x + bs := by omega
    subst e
    exact .inr ⟨by omega, g2⟩

end Go.Proofs.Qxb6601010a
