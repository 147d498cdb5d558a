import Derived.Test.Qxb6601010aP2
import Derived.Test.Qxb6601010aR1
namespace Go.Proofs.Qxb6601010a
set_option linter.unusedVariables false

def IsLast (nm : Nat → ByteArray) (n i : Nat) : Prop := ∀ j, i < j → j < n → nm j ≠ nm i

/-- What inMapOrder hands back: place j holds header r j. -/
structure Res (nm : Nat → ByteArray) (n K : Nat) (r : Nat → Nat) : Prop where
  lt : ∀ j, j < K → r j < n
  last : ∀ j, j < K → IsLast nm n (r j)
  inc : ∀ i j, i < j → j < K → nl (nm (r i)) (nm (r j)) = true
  all : ∀ i, i < n → IsLast nm n i → ∃ j, j < K ∧ r j = i

/-- In order already. -/
theorem nl_trans {a b c : ByteArray} (h1 : nl a b = true) (h2 : nl b c = true) : nl a c = true := by
  rcases bl_neg _ _ c.toList h1 with h | h
  · exact h
  · have := bl_asym _ _ h2
    rw [this] at h; cases h
theorem nl_ne {a b : ByteArray} (h : nl a b = true) : b ≠ a := fun e => by subst e; rw [nl_irr] at h; cases h
theorem chain {nm : Nat → ByteArray} {n : Nat} (h : ∀ i, i + 1 < n → nl (nm i) (nm (i + 1)) = true) : ∀ i d, i + d + 1 < n → nl (nm i) (nm (i + d + 1)) = true
  | i, 0, hd => h i hd
  | i, d + 1, hd => nl_trans (chain h i d (by omega)) (h (i + d + 1) hd)
theorem Res.ordered {nm : Nat → ByteArray} {n : Nat} (h : ∀ i, i + 1 < n → nl (nm i) (nm (i + 1)) = true) : Res nm n n (fun j => j) := by
  have hc : ∀ i j, i < j → j < n → nl (nm i) (nm j) = true := fun i j h1 h2 => by
    have := chain h i (j - i - 1) (by omega)
    rwa [show i + (j - i - 1) + 1 = j by omega] at this
  exact ⟨fun j hj => hj, fun j hj i h1 h2 => nl_ne (hc j i h1 h2), hc, fun i hi _ => ⟨i, hi, rfl⟩⟩

/-- The last of its name in the sorted row. -/
def lastAt (nm : Nat → ByteArray) (t : Nat → Nat) (n q : Nat) : Prop := q + 1 = n ∨ nm (t (q + 1)) ≠ nm (t q)
/-- The places kept so far. -/
structure Keep (nm : Nat → ByteArray) (t : Nat → Nat) (n k K : Nat) (th : Nat → Nat) : Prop where
  le : K ≤ k
  lt : ∀ j, j < K → th j < k ∧ lastAt nm t n (th j)
  inc : ∀ i j, i < j → j < K → th i < th j
  all : ∀ q, q < k → lastAt nm t n q → ∃ j, j < K ∧ th j = q
theorem Keep.zero (nm : Nat → ByteArray) (t : Nat → Nat) (n : Nat) : Keep nm t n 0 0 (fun _ => 0) := ⟨Nat.le_refl _, fun j hj => by omega, fun i j h1 h2 => by omega, fun q hq => by omega⟩
theorem Keep.skip {nm : Nat → ByteArray} {t : Nat → Nat} {n k K : Nat} {th : Nat → Nat} (h : Keep nm t n k K th) (hn : ¬ lastAt nm t n k) : Keep nm t n (k + 1) K th :=
  ⟨by have := h.le; omega, fun j hj => ⟨by have := (h.lt j hj).1; omega, (h.lt j hj).2⟩, h.inc, fun q hq hl => by
    by_cases e : q = k
    · subst e; exact absurd hl hn
    · exact h.all q (by omega) hl⟩
theorem Keep.add {nm : Nat → ByteArray} {t : Nat → Nat} {n k K : Nat} {th : Nat → Nat} (h : Keep nm t n k K th) (hl : lastAt nm t n k) : Keep nm t n (k + 1) (K + 1) (fun j => if j = K then k else th j) := by
  refine ⟨by have := h.le; omega, fun j hj => ?_, fun i j h1 h2 => ?_, fun q hq hq2 => ?_⟩
  · by_cases e : j = K
    · simp only [e, if_true]; exact ⟨by omega, hl⟩
    · simp only [e, if_false]; exact ⟨by have := (h.lt j (by omega)).1; omega, (h.lt j (by omega)).2⟩
  · by_cases e : j = K
    · have e1 : i ≠ K := by omega
      simp only [e, e1, if_true, if_false]
      exact (h.lt i (by omega)).1
    · have e1 : i ≠ K := by omega
      simp only [e, e1, if_false]
      exact h.inc i j h1 (by omega)
  · by_cases e : q = k
    · exact ⟨K, by omega, by simp [e]⟩
    · obtain ⟨j, j1, j2⟩ := h.all q (by omega) hq2
      exact ⟨j, by omega, by rw [if_neg (by omega)]; exact j2⟩

section
variable {nm : Nat → ByteArray} {E : Nat → Hd} {t : Nat → Nat} {n : Nat} (hE : ∀ i, (E i).nm = nm i) (hB : Blk (LE E) t 0 n)
include hE hB
theorem srt_le {p q : Nat} (h1 : p ≤ q) (h2 : q < n) : nl (nm (t q)) (nm (t p)) = false := by
  rcases Nat.eq_or_lt_of_le h1 with e | e
  · rw [e]; exact nl_irr _
  · have := Lt.nle (weakLE E) (hB.sorted p q (Nat.zero_le _) e h2)
    rw [LE_nl, hE, hE] at this; exact this
theorem squeeze {p q : Nat} (h1 : p < q) (h2 : q < n) (he : nm (t q) = nm (t p)) : nm (t (p + 1)) = nm (t p) := by
  refine nl_tot (srt_le hE hB (by omega) (by omega)) ?_
  have := srt_le hE hB (show p + 1 ≤ q by omega) h2
  rw [he] at this; exact this
theorem same_lt {p q : Nat} (h1 : p < q) (h2 : q < n) (he : nm (t q) = nm (t p)) : t p < t q := by
  rcases hB.sorted p q (Nat.zero_le _) h1 h2 with h | ⟨-, h⟩
  · rw [LE_nl, hE, hE, he, nl_irr] at h; cases h
  · exact h
theorem Res.of_keep {K : Nat} {th : Nat → Nat} (h : Keep nm t n n K th) : Res nm n K (fun j => t (th j)) := by
  refine ⟨fun j hj => (hB.fro _ (Nat.zero_le _) (h.lt j hj).1).2, fun j hj i h1 h2 he => ?_, fun i j h1 h2 => ?_, fun i hi hl => ?_⟩
  · obtain ⟨q, -, q2, rfl⟩ := hB.to i (Nat.zero_le _) h2
    obtain ⟨p1, p2⟩ := h.lt j hj
    rcases Nat.lt_trichotomy q (th j) with g | g | g
    · have := same_lt hE hB g p1 he.symm
      omega
    · rw [g] at h1; omega
    · rcases p2 with e | e
      · omega
      · exact e (squeeze hE hB g q2 he)
  · obtain ⟨p1, p2⟩ := h.lt i (by omega)
    obtain ⟨q1, q2⟩ := h.lt j h2
    have hlt := h.inc i j h1 h2
    rcases hB.sorted (th i) (th j) (Nat.zero_le _) hlt q1 with g | ⟨g, -⟩
    · rw [LE_nl, hE, hE] at g; exact g
    · cases e : nl (nm (t (th i))) (nm (t (th j)))
      · have he : nm (t (th j)) = nm (t (th i)) := by
          rw [LE_nl, hE, hE] at g
          exact nl_tot g e
        rcases p2 with e2 | e2
        · omega
        · exact absurd (squeeze hE hB hlt q1 he) e2
      · rfl
  · obtain ⟨q, -, q2, rfl⟩ := hB.to i (Nat.zero_le _) hi
    have hla : lastAt nm t n q := by
      by_cases e : q + 1 = n
      · exact .inl e
      · refine .inr fun he => ?_
        have := same_lt hE hB (show q < q + 1 by omega) (by omega) he
        exact hl _ this (hB.fro _ (Nat.zero_le _) (by omega)).2 he
    obtain ⟨j, j1, j2⟩ := h.all q q2 hla
    exact ⟨j, j1, by rw [j2]⟩
end

end Go.Proofs.Qxb6601010a
