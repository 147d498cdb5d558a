import Derived.Lib.Bytealg
namespace Go.Proofs.Qxb6601010a
set_option linter.unusedVariables false

/-- A strict weak order on places. -/
structure Weak (L : Nat → Nat → Bool) : Prop where
  asym : ∀ i j, L i j = true → L j i = false
  neg : ∀ i j k, L i j = true → L i k = true ∨ L k j = true

/-- By the name, then by the place in the input. -/
def Lt (L : Nat → Nat → Bool) (i j : Nat) : Prop := L i j = true ∨ (L j i = false ∧ i < j)

section
variable {L : Nat → Nat → Bool} (hL : Weak L)
include hL
theorem Lt.trans {i j k : Nat} (h1 : Lt L i j) (h2 : Lt L j k) : Lt L i k := by
  rcases h1 with h1 | ⟨h1, l1⟩
  · rcases h2 with h2 | ⟨h2, l2⟩
    · rcases hL.neg i j k h1 with h | h
      · exact .inl h
      · have := hL.asym _ _ h2; rw [this] at h; cases h
    · rcases hL.neg i j k h1 with h | h
      · exact .inl h
      · rw [h2] at h; cases h
  · rcases h2 with h2 | ⟨h2, l2⟩
    · rcases hL.neg j k i h2 with h | h
      · rw [h1] at h; cases h
      · exact .inl h
    · refine .inr ⟨?_, by omega⟩
      cases e : L k i
      · rfl
      · rcases hL.neg k i j e with h | h
        · rw [h2] at h; cases h
        · rw [h1] at h; cases h
theorem Lt.nle {i j : Nat} (h : Lt L i j) : L j i = false := by
  rcases h with h | ⟨h, -⟩
  · exact hL.asym _ _ h
  · exact h
end

def Sorted (L : Nat → Nat → Bool) (s : Nat → Nat) (a b : Nat) : Prop := ∀ i j, a ≤ i → i < j → j < b → Lt L (s i) (s j)

/-- t is s with the places of [a, b) permuted. -/
structure Same (a b : Nat) (s t : Nat → Nat) : Prop where
  fro : ∀ j, a ≤ j → j < b → ∃ i, a ≤ i ∧ i < b ∧ t j = s i
  to : ∀ i, a ≤ i → i < b → ∃ j, a ≤ j ∧ j < b ∧ t j = s i
  out : ∀ j, ¬ (a ≤ j ∧ j < b) → t j = s j
theorem Same.refl (a b : Nat) (s : Nat → Nat) : Same a b s s := ⟨fun j h1 h2 => ⟨j, h1, h2, rfl⟩, fun j h1 h2 => ⟨j, h1, h2, rfl⟩, fun _ _ => rfl⟩
theorem Same.trans {a b : Nat} {s t u : Nat → Nat} (h : Same a b s t) (k : Same a b t u) : Same a b s u := by
  refine ⟨fun j h1 h2 => ?_, fun i h1 h2 => ?_, fun j hj => (k.out j hj).trans (h.out j hj)⟩
  · obtain ⟨i, q1, q2, q3⟩ := k.fro j h1 h2
    obtain ⟨i', r1, r2, r3⟩ := h.fro i q1 q2
    exact ⟨i', r1, r2, q3.trans r3⟩
  · obtain ⟨i', q1, q2, q3⟩ := h.to i h1 h2
    obtain ⟨j, r1, r2, r3⟩ := k.to i' q1 q2
    exact ⟨j, r1, r2, r3.trans q3⟩
theorem Same.wide {a b c d : Nat} {s t : Nat → Nat} (h : Same a b s t) (h1 : c ≤ a) (h2 : b ≤ d) : Same c d s t := by
  refine ⟨fun j q1 q2 => ?_, fun i q1 q2 => ?_, fun j hj => h.out j (by omega)⟩
  · by_cases hj : a ≤ j ∧ j < b
    · obtain ⟨i, r1, r2, r3⟩ := h.fro j hj.1 hj.2
      exact ⟨i, by omega, by omega, r3⟩
    · exact ⟨j, q1, q2, h.out j hj⟩
  · by_cases hi : a ≤ i ∧ i < b
    · obtain ⟨j, r1, r2, r3⟩ := h.to i hi.1 hi.2
      exact ⟨j, by omega, by omega, r3⟩
    · exact ⟨i, q1, q2, h.out i hi⟩

def sw (s : Nat → Nat) (i j : Nat) : Nat → Nat := fun t => if t = i then s j else if t = j then s i else s t
theorem sw_l (s : Nat → Nat) (i j : Nat) : sw s i j i = s j := by simp [sw]
theorem sw_r (s : Nat → Nat) (i j : Nat) : sw s i j j = s i := by unfold sw; split <;> simp_all
theorem sw_o (s : Nat → Nat) (i j : Nat) {t : Nat} (h1 : t ≠ i) (h2 : t ≠ j) : sw s i j t = s t := by simp [sw, h1, h2]
theorem Same.sw {a b i j : Nat} (s : Nat → Nat) (hi : a ≤ i ∧ i < b) (hj : a ≤ j ∧ j < b) : Same a b s (sw s i j) := by
  refine ⟨fun t h1 h2 => ?_, fun t h1 h2 => ?_, fun t ht => sw_o s i j (fun e => ht (e ▸ hi)) (fun e => ht (e ▸ hj))⟩
  · by_cases e1 : t = i
    · exact ⟨j, hj.1, hj.2, by rw [e1, sw_l]⟩
    · by_cases e2 : t = j
      · exact ⟨i, hi.1, hi.2, by rw [e2, sw_r]⟩
      · exact ⟨t, h1, h2, sw_o s i j e1 e2⟩
  · by_cases e1 : t = i
    · exact ⟨j, hj.1, hj.2, by rw [e1, sw_r]⟩
    · by_cases e2 : t = j
      · exact ⟨i, hi.1, hi.2, by rw [e2, sw_l]⟩
      · exact ⟨t, h1, h2, sw_o s i j e1 e2⟩

/-- Ranges swapped. -/
def swr (s : Nat → Nat) (p q n : Nat) : Nat → Nat := fun t => if p ≤ t ∧ t < p + n then s (t - p + q) else if q ≤ t ∧ t < q + n then s (t - q + p) else s t
theorem swr_zero (s : Nat → Nat) (p q : Nat) : swr s p q 0 = s := by
  funext t; simp only [swr]
  rw [if_neg (by omega), if_neg (by omega)]
theorem swr_succ (s : Nat → Nat) (p q n : Nat) (h : p + n < q) : sw (swr s p q n) (p + n) (q + n) = swr s p q (n + 1) := by
  funext t
  simp only [sw, swr]
  by_cases e1 : t = p + n
  · subst e1
    rw [if_pos rfl, if_neg (by omega), if_neg (by omega), if_pos (by omega)]
    congr 1; omega
  · rw [if_neg e1]
    by_cases e2 : t = q + n
    · subst e2
      rw [if_pos rfl, if_neg (by omega), if_neg (by omega), if_neg (by omega), if_pos (by omega)]
      congr 1; omega
    · rw [if_neg e2]
      repeat' split
      all_goals first | (exfalso; omega) | rfl

/-- [a, m) and [m, b) change places. -/
def rot (s : Nat → Nat) (a m b : Nat) : Nat → Nat := fun t => if a ≤ t ∧ t < b then (if t < a + (b - m) then s (t + (m - a)) else s (t - (b - m))) else s t
theorem rot_gt (s : Nat → Nat) (m i j : Nat) (hi : i ≤ m) (h : j < i) (h0 : 0 < j) : rot (swr s (m - i) m j) (m - (i - j)) m (m + j) = rot s (m - i) m (m + j) := by
  funext t
  simp only [rot, swr]
  repeat' split
  all_goals first | (exfalso; omega) | (congr 1; omega) | rfl
theorem rot_lt (s : Nat → Nat) (m i j : Nat) (hi : i ≤ m) (h : i < j) (h0 : 0 < i) : rot (swr s (m - i) (m + j - i) i) (m - i) m (m + (j - i)) = rot s (m - i) m (m + j) := by
  funext t
  simp only [rot, swr]
  repeat' split
  all_goals first | (exfalso; omega) | (congr 1; omega) | rfl
theorem rot_eq (s : Nat → Nat) (m i : Nat) (hi : i ≤ m) : swr s (m - i) m i = rot s (m - i) m (m + i) := by
  funext t
  simp only [rot, swr]
  repeat' split
  all_goals first | (exfalso; omega) | (congr 1; omega) | rfl
theorem rot_same (s : Nat → Nat) {a m b : Nat} (h1 : a ≤ m) (h2 : m ≤ b) : Same a b s (rot s a m b) := by
  refine ⟨fun t q1 q2 => ?_, fun t q1 q2 => ?_, fun t ht => by simp only [rot]; rw [if_neg ht]⟩
  · by_cases c : t < a + (b - m)
    · exact ⟨t + (m - a), by omega, by omega, by simp only [rot]; rw [if_pos ⟨q1, q2⟩, if_pos c]⟩
    · exact ⟨t - (b - m), by omega, by omega, by simp only [rot]; rw [if_pos ⟨q1, q2⟩, if_neg c]⟩
  · by_cases c : t < m
    · exact ⟨t + (b - m), by omega, by omega, by simp only [rot]; rw [if_pos (by omega), if_neg (by omega)]; congr 1; omega⟩
    · exact ⟨t - (m - a), by omega, by omega, by simp only [rot]; rw [if_pos (by omega), if_pos (by omega)]; congr 1; omega⟩
theorem rot_l (s : Nat → Nat) {a m b t : Nat} (h1 : a ≤ t) (h2 : t < a + (b - m)) (hb : a ≤ m) (hm : m ≤ b) : rot s a m b t = s (t + (m - a)) := by
  simp only [rot]; rw [if_pos (by omega), if_pos h2]
theorem rot_r (s : Nat → Nat) {a m b t : Nat} (h1 : a + (b - m) ≤ t) (h2 : t < b) : rot s a m b t = s (t - (b - m)) := by
  simp only [rot]; rw [if_pos (by omega), if_neg (by omega)]

/-- Two sorted halves, every one of the first ahead of every one of the second. -/
theorem Sorted.join {L : Nat → Nat → Bool} {s : Nat → Nat} {a m b : Nat} (h1 : Sorted L s a m) (h2 : Sorted L s m b) (h : ∀ i j, a ≤ i → i < m → m ≤ j → j < b → Lt L (s i) (s j)) : Sorted L s a b := by
  intro i j q1 q2 q3
  by_cases c1 : j < m
  · exact h1 i j q1 q2 c1
  · by_cases c2 : i < m
    · exact h i j q1 c2 (by omega) q3
    · exact h2 i j (by omega) q2 q3
theorem Sorted.sub {L : Nat → Nat → Bool} {s : Nat → Nat} {a b c d : Nat} (h : Sorted L s a b) (h1 : a ≤ c) (h2 : d ≤ b) : Sorted L s c d := fun i j q1 q2 q3 => h i j (by omega) q2 (by omega)
theorem Sorted.congr {L : Nat → Nat → Bool} {s t : Nat → Nat} {a b : Nat} (h : Sorted L s a b) (he : ∀ i, a ≤ i → i < b → t i = s i) : Sorted L t a b := fun i j q1 q2 q3 => by
  rw [he i q1 (by omega), he j (by omega) q3]; exact h i j q1 q2 q3
theorem Sorted.le {L : Nat → Nat → Bool} {s : Nat → Nat} {a b : Nat} (h : Sorted L s a b) {i j : Nat} (h1 : a ≤ i) (h2 : i ≤ j) (h3 : j < b) : i = j ∨ Lt L (s i) (s j) := by
  rcases Nat.eq_or_lt_of_le h2 with e | e
  · exact .inl e
  · exact .inr (h i j h1 e h3)

/-- Each of the first half stood ahead of each of the second in the input. -/
def Sep (s : Nat → Nat) (a m b : Nat) : Prop := ∀ i j, a ≤ i → i < m → m ≤ j → j < b → s i < s j

/-- What a merge leaves. -/
structure Mrg (L : Nat → Nat → Bool) (a b : Nat) (s t : Nat → Nat) : Prop where
  same : Same a b s t
  sorted : Sorted L t a b

section
variable {L : Nat → Nat → Bool} (hL : Weak L)
include hL

/-- The step of symMerge: where to cut, and what the two smaller merges leave. -/
theorem sym_step {s : Nat → Nat} {a m b st en md : Nat} {t u : Nat → Nat} (h1 : Sorted L s a m) (h2 : Sorted L s m b) (hS : Sep s a m b)
    (ham : a < m) (hmb : m < b) (q1 : a ≤ st) (q2 : st ≤ m) (q3 : m ≤ en) (q4 : en ≤ b) (hmd : md = st + (en - m))
    (c1 : a < st → en < b → L (s en) (s (st - 1)) = false) (c2 : m < en → st < m → L (s (en - 1)) (s st) = true)
    (m1 : Mrg L a md (rot s st m en) t) (m2 : Mrg L md b t u) : Mrg L a b s u := by
  have cross : ∀ x y, (a ≤ x ∧ x < st ∨ m ≤ x ∧ x < en) → (st ≤ y ∧ y < m ∨ en ≤ y ∧ y < b) → Lt L (s x) (s y) := by
    rintro x y (⟨x1, x2⟩ | ⟨x1, x2⟩) (⟨y1, y2⟩ | ⟨y1, y2⟩)
    · exact h1 x y x1 (by omega) y2
    · have c := c1 (by omega) (by omega)
      have e0 : Lt L (s (st - 1)) (s en) := .inr ⟨c, hS _ _ (by omega) (by omega) q3 (by omega)⟩
      have e1 : Lt L (s x) (s en) := by
        rcases h1.le x1 (show x ≤ st - 1 by omega) (by omega) with e | e
        · rw [e]; exact e0
        · exact Lt.trans hL e e0
      rcases h2.le q3 y1 y2 with e | e
      · rw [← e]; exact e1
      · exact Lt.trans hL e1 e
    · have c := c2 (by omega) (by omega)
      have e0 : Lt L (s (en - 1)) (s st) := .inl c
      have e1 : Lt L (s x) (s st) := by
        rcases h2.le x1 (show x ≤ en - 1 by omega) (by omega) with e | e
        · rw [e]; exact e0
        · exact Lt.trans hL e e0
      rcases h1.le q1 y1 y2 with e | e
      · rw [← e]; exact e1
      · exact Lt.trans hL e1 e
    · exact h2 x y x1 (by omega) y2
  have rs := rot_same s q2 q3
  have wr : Same a b s (rot s st m en) := rs.wide q1 q4
  refine ⟨(wr.trans (m1.same.wide (Nat.le_refl _) (by omega))).trans (m2.same.wide (by omega) (Nat.le_refl _)), ?_⟩
  have lo : ∀ i, a ≤ i → i < md → ∃ x, (a ≤ x ∧ x < st ∨ m ≤ x ∧ x < en) ∧ t i = s x := fun i i1 i2 => by
    obtain ⟨k, k1, k2, k3⟩ := m1.same.fro i i1 i2
    by_cases c : k < st
    · exact ⟨k, .inl ⟨k1, c⟩, by rw [k3]; exact rs.out k (by omega)⟩
    · refine ⟨k + (m - st), .inr ⟨by omega, by omega⟩, by rw [k3]; exact rot_l s (by omega) (by omega) q2 q3⟩
  have hi : ∀ j, md ≤ j → j < b → ∃ y, (st ≤ y ∧ y < m ∨ en ≤ y ∧ y < b) ∧ t j = s y := fun j j1 j2 => by
    rw [m1.same.out j (by omega)]
    by_cases c : j < en
    · exact ⟨j - (en - m), .inl ⟨by omega, by omega⟩, rot_r s (by omega) c⟩
    · exact ⟨j, .inr ⟨by omega, j2⟩, rs.out j (by omega)⟩
  refine Sorted.join (m := md) ?_ m2.sorted (fun i j i1 i2 j1 j2 => ?_)
  · exact m1.sorted.congr (fun i i1 i2 => m2.same.out i (by omega))
  · rw [m2.same.out i (by omega)]
    obtain ⟨x, hx, ex⟩ := lo i i1 i2
    obtain ⟨j', g1, g2, g3⟩ := m2.same.fro j j1 j2
    obtain ⟨y, hy, ey⟩ := hi j' g1 g2
    rw [ex, g3, ey]
    exact cross x y hx hy

omit hL in
/-- What the two smaller merges are given. -/
theorem sym_parts {s : Nat → Nat} {a m b st en md : Nat} (h1 : Sorted L s a m) (h2 : Sorted L s m b) (hS : Sep s a m b) (q1 : a ≤ st) (q2 : st ≤ m) (q3 : m ≤ en) (q4 : en ≤ b) (hmd : md = st + (en - m)) :
    Sorted L (rot s st m en) a st ∧ Sorted L (rot s st m en) st md ∧ Sep (rot s st m en) a st md ∧ Sorted L (rot s st m en) md en ∧ Sorted L (rot s st m en) en b ∧ Sep (rot s st m en) md en b := by
  have rs := rot_same s q2 q3
  have eL1 : ∀ i, a ≤ i → i < st → rot s st m en i = s i := fun i i1 i2 => rs.out i (by omega)
  have eR1 : ∀ i, st ≤ i → i < md → rot s st m en i = s (i + (m - st)) := fun i i1 i2 => rot_l s i1 (by omega) q2 q3
  have eL2 : ∀ i, md ≤ i → i < en → rot s st m en i = s (i - (en - m)) := fun i i1 i2 => rot_r s (by omega) i2
  have eR2 : ∀ i, en ≤ i → i < b → rot s st m en i = s i := fun i i1 i2 => rs.out i (by omega)
  refine ⟨?_, ?_, ?_, ?_, ?_, ?_⟩
  · exact (h1.sub (Nat.le_refl _) q2).congr eL1
  · intro i j i1 ij j1
    rw [eR1 i i1 (by omega), eR1 j (by omega) j1]
    exact h2 _ _ (by omega) (by omega) (by omega)
  · intro i j i1 i2 j1 j2
    rw [eL1 i i1 i2, eR1 j j1 j2]
    exact hS _ _ i1 (by omega) (by omega) (by omega)
  · intro i j i1 ij j1
    rw [eL2 i i1 (by omega), eL2 j (by omega) j1]
    exact h1 _ _ (by omega) (by omega) (by omega)
  · exact (h2.sub q3 (Nat.le_refl _)).congr eR2
  · intro i j i1 i2 j1 j2
    rw [eL2 i i1 i2, eR2 j j1 j2]
    exact hS _ _ (by omega) (by omega) (by omega) j2

/-- x' not behind x, y not behind y': what holds of x, y holds of x', y'. -/
theorem Weak.mono {x y x' y' : Nat} (h : L x y = true) (hx : x' = x ∨ Lt L x' x) (hy : y = y' ∨ Lt L y y') : L x' y' = true := by
  have h1 : L x' y = true := by
    rcases hx with e | e
    · rw [e]; exact h
    · rcases hL.neg x y x' h with q | q
      · rw [Lt.nle hL e] at q; cases q
      · exact q
  rcases hy with e | e
  · rw [← e]; exact h1
  · rcases hL.neg x' y y' h1 with q | q
    · exact q
    · rw [Lt.nle hL e] at q; cases q

/-- Insertion sort, within a round: the one that moves stands at j. -/
structure Ins (L : Nat → Nat → Bool) (s : Nat → Nat) (a i j : Nat) : Prop where
  lo : a ≤ j
  hi : j ≤ i
  ord : ∀ p q, a ≤ p → p < q → q ≤ i → p ≠ j → q ≠ j → Lt L (s p) (s q)
  right : ∀ q, j < q → q ≤ i → Lt L (s j) (s q)
  big : ∀ p, a ≤ p → p < j → s p < s j
omit hL in
theorem Ins.start {s : Nat → Nat} {a i : Nat} (h : Sorted L s a i) (ha : a ≤ i) (hb : ∀ p, a ≤ p → p < i → s p < s i) : Ins L s a i i :=
  ⟨ha, Nat.le_refl _, fun p q p1 pq q1 hp hq => h p q p1 pq (by omega), fun q q1 q2 => by omega, hb⟩
omit hL in
theorem Ins.step {s : Nat → Nat} {a i j : Nat} (h : Ins L s a i j) (hj : a < j) (hl : L (s j) (s (j - 1)) = true) : Ins L (sw s j (j - 1)) a i (j - 1) := by
  have e1 : sw s j (j - 1) (j - 1) = s j := sw_r _ _ _
  have e2 : sw s j (j - 1) j = s (j - 1) := sw_l _ _ _
  have e3 : ∀ t, t ≠ j → t ≠ j - 1 → sw s j (j - 1) t = s t := fun t h1 h2 => sw_o _ _ _ h1 h2
  refine ⟨by omega, by have := h.hi; omega, fun p q p1 pq q1 hp hq => ?_, fun q q1 q2 => ?_, fun p p1 p2 => ?_⟩
  · by_cases ep : p = j
    · rw [ep, e2, e3 q (by omega) (by omega)]
      exact h.ord (j - 1) q (by omega) (by omega) q1 (by omega) (by omega)
    · by_cases eq : q = j
      · rw [eq, e2, e3 p ep hp]
        exact h.ord p (j - 1) p1 (by omega) (by have := h.hi; omega) ep (by omega)
      · rw [e3 p ep hp, e3 q eq hq]
        exact h.ord p q p1 pq q1 ep eq
  · rw [e1]
    by_cases eq : q = j
    · rw [eq, e2]; exact .inl hl
    · rw [e3 q eq (by omega)]; exact h.right q (by omega) q2
  · rw [e1, e3 p (by omega) (by omega)]
    exact h.big p p1 (by omega)
theorem Ins.done {s : Nat → Nat} {a i j : Nat} (h : Ins L s a i j) (hj : a = j ∨ L (s j) (s (j - 1)) = false) : Sorted L s a (i + 1) := by
  intro p q p1 pq q1
  by_cases ep : p = j
  · rw [ep]; exact h.right q (by omega) (by omega)
  · by_cases eq : q = j
    · rcases hj with e | e
      · omega
      · have l1 : Lt L (s (j - 1)) (s j) := .inr ⟨e, h.big (j - 1) (by omega) (by omega)⟩
        rw [eq]
        by_cases e1 : p = j - 1
        · rw [e1]; exact l1
        · exact Lt.trans hL (h.ord p (j - 1) p1 (by omega) (by have := h.hi; omega) ep (by omega)) l1
    · exact h.ord p q p1 pq (by omega) ep eq

omit hL in
/-- One element ahead of a sorted row: it goes to its place. -/
theorem one_left {s : Nat → Nat} {a b i : Nat} (h2 : Sorted L s (a + 1) b) (hS : Sep s a (a + 1) b) (q1 : a + 1 ≤ i) (q2 : i ≤ b) (c1 : ∀ h, a + 1 ≤ h → h < i → L (s h) (s a) = true) (c2 : ∀ h, i ≤ h → h < b → L (s h) (s a) = false) : Mrg L a b s (rot s a (a + 1) i) := by
  have rs := rot_same s (a := a) (m := a + 1) (b := i) (by omega) q1
  refine ⟨rs.wide (Nat.le_refl _) q2, ?_⟩
  have e1 : ∀ t, a ≤ t → t < i - 1 → rot s a (a + 1) i t = s (t + 1) := fun t t1 t2 => by rw [rot_l s t1 (by omega) (by omega) q1]; congr 1; omega
  have e2 : rot s a (a + 1) i (i - 1) = s a := by rw [rot_r s (by omega) (by omega)]; congr 1; omega
  have e3 : ∀ t, i ≤ t → rot s a (a + 1) i t = s t := fun t t1 => rs.out t (by omega)
  intro p q p1 pq q3
  by_cases g1 : q < i - 1
  · rw [e1 p p1 (by omega), e1 q (by omega) g1]; exact h2 _ _ (by omega) (by omega) (by omega)
  · by_cases g2 : q = i - 1
    · rw [g2, e2, e1 p p1 (by omega)]; exact .inl (c1 _ (by omega) (by omega))
    · rw [e3 q (by omega)]
      by_cases g3 : p < i - 1
      · rw [e1 p p1 g3]; exact h2 _ _ (by omega) (by omega) q3
      · by_cases g4 : p = i - 1
        · rw [g4, e2]; exact .inr ⟨c2 q (by omega) q3, hS _ _ (Nat.le_refl _) (by omega) (by omega) q3⟩
        · rw [e3 p (by omega)]; exact h2 _ _ (by omega) pq q3
omit hL in
/-- One element behind a sorted row. -/
theorem one_right {s : Nat → Nat} {a m i : Nat} (h1 : Sorted L s a m) (hS : Sep s a m (m + 1)) (q1 : a ≤ i) (q2 : i ≤ m) (c1 : ∀ h, a ≤ h → h < i → L (s m) (s h) = false) (c2 : ∀ h, i ≤ h → h < m → L (s m) (s h) = true) : Mrg L a (m + 1) s (rot s i m (m + 1)) := by
  have rs := rot_same s (a := i) (m := m) (b := m + 1) q2 (by omega)
  refine ⟨rs.wide q1 (Nat.le_refl _), ?_⟩
  have e1 : rot s i m (m + 1) i = s m := by rw [rot_l s (Nat.le_refl _) (by omega) q2 (by omega)]; congr 1; omega
  have e2 : ∀ t, i < t → t ≤ m → rot s i m (m + 1) t = s (t - 1) := fun t t1 t2 => by rw [rot_r s (by omega) (by omega)]; congr 1; omega
  have e3 : ∀ t, t < i → rot s i m (m + 1) t = s t := fun t t1 => rs.out t (by omega)
  intro p q p1 pq q3
  by_cases g1 : q < i
  · rw [e3 p (by omega), e3 q g1]; exact h1 _ _ p1 pq (by omega)
  · by_cases g2 : q = i
    · rw [g2, e1, e3 p (by omega)]; exact .inr ⟨c1 p p1 (by omega), hS _ _ p1 (by omega) (Nat.le_refl _) (by omega)⟩
    · rw [e2 q (by omega) (by omega)]
      by_cases g3 : p < i
      · rw [e3 p g3]; exact h1 _ _ p1 (by omega) (by omega)
      · by_cases g4 : p = i
        · rw [g4, e1]; exact .inl (c2 _ (by omega) (by omega))
        · rw [e2 p (by omega) (by omega)]; exact h1 _ _ (by omega) (by omega) (by omega)
omit hL in
theorem rot_up (s : Nat → Nat) (a k : Nat) (h : a ≤ k) : sw (rot s a (a + 1) (k + 1)) k (k + 1) = rot s a (a + 1) (k + 2) := by
  funext t
  simp only [sw, rot]
  repeat' split
  all_goals first | (exfalso; omega) | (congr 1; omega) | rfl
omit hL in
theorem rot_down (s : Nat → Nat) (m k : Nat) (h : k ≤ m) (h0 : 0 < k) : sw (rot s k m (m + 1)) k (k - 1) = rot s (k - 1) m (m + 1) := by
  funext t
  simp only [sw, rot]
  repeat' split
  all_goals first | (exfalso; omega) | (congr 1; omega) | rfl
omit hL in
theorem rot_none (s : Nat → Nat) (a m : Nat) : rot s a m m = s := by
  funext t
  simp only [rot]
  repeat' split
  all_goals first | (exfalso; omega) | (congr 1; omega) | rfl
omit hL in
theorem rot_none' (s : Nat → Nat) (m b : Nat) : rot s m m b = s := by
  funext t
  simp only [rot]
  repeat' split
  all_goals first | (exfalso; omega) | (congr 1; omega) | rfl
end

end Go.Proofs.Qxb6601010a
