import Derived.Test.Qxb6601010aP3
namespace Go.Proofs.Qxb6601010a
set_option linter.unusedVariables false

/-- How many below n. -/
def cnt (f : Nat → Bool) : Nat → Nat
  | 0 => 0
  | n + 1 => cnt f n + if f n then 1 else 0
theorem cnt_congr {f g : Nat → Bool} : ∀ n, (∀ i, i < n → f i = g i) → cnt f n = cnt g n
  | 0, _ => rfl
  | n + 1, h => by rw [cnt, cnt, cnt_congr n (fun i hi => h i (by omega)), h n (by omega)]
theorem cnt_le (f : Nat → Bool) : ∀ n, cnt f n ≤ n
  | 0 => Nat.le_refl _
  | n + 1 => by rw [cnt]; have := cnt_le f n; split <;> omega
theorem cnt_add {f g : Nat → Bool} {p : Nat} (hf : f p = true) (hg : g p = false) : ∀ n, p < n → (∀ i, i < n → i ≠ p → f i = g i) → cnt f n = cnt g n + 1
  | 0, h, _ => by omega
  | n + 1, h, he => by
    rw [cnt, cnt]
    by_cases e : p = n
    · subst e
      rw [cnt_congr p (fun i hi => he i (by omega) (by omega)), hf, hg]; simp
    · rw [cnt_add hf hg n (by omega) (fun i hi => he i (by omega)), he n (by omega) (by omega)]; omega

/-- Among the first K. -/
def had (r : Nat → Nat) : Nat → Nat → Bool
  | 0, _ => false
  | K + 1, i => had r K i || r K == i
theorem had_iff (r : Nat → Nat) (i : Nat) : ∀ K, had r K i = true ↔ ∃ j, j < K ∧ r j = i
  | 0 => by simp [had]
  | K + 1 => by
    rw [had, Bool.or_eq_true, had_iff r i K, beq_iff_eq]
    constructor
    · rintro (⟨j, h1, h2⟩ | h)
      · exact ⟨j, by omega, h2⟩
      · exact ⟨K, by omega, h⟩
    · rintro ⟨j, h1, h2⟩
      by_cases e : j = K
      · subst e; exact .inr h2
      · exact .inl ⟨j, by omega, h2⟩
theorem cnt_had {r : Nat → Nat} {n : Nat} : ∀ K, (∀ j, j < K → r j < n) → (∀ i j, i < j → j < K → r i ≠ r j) → cnt (had r K) n = K
  | 0, _, _ => by
    have : ∀ n, cnt (had r 0) n = 0 := fun n => by
      induction n with
      | zero => rfl
      | succ n ih => rw [cnt, ih]; simp [had]
    exact this n
  | K + 1, h1, h2 => by
    rw [cnt_add (g := had r K) (p := r K) (by simp [had]) ?_ n (h1 K (by omega)) ?_, cnt_had K (fun j hj => h1 j (by omega)) (fun i j a b => h2 i j a (by omega))]
    · cases e : had r K (r K)
      · rfl
      · obtain ⟨j, j1, j2⟩ := (had_iff _ _ _).1 e
        exact absurd j2 (h2 j K j1 (by omega))
    · intro i hi hne
      rw [had, show (r K == i) = false by simpa using fun e => hne e.symm, Bool.or_false]

open Classical in
/-- The last of its name, as a truth value. -/
noncomputable def ls (nm : Nat → ByteArray) (n i : Nat) : Bool := decide (IsLast nm n i)
theorem ls_iff {nm : Nat → ByteArray} {n i : Nat} : ls nm n i = true ↔ IsLast nm n i := by simp [ls]

section
variable {nm : Nat → ByteArray} {n K : Nat} {r : Nat → Nat} (h : Res nm n K r)
include h
theorem Res.ne {i j : Nat} (h1 : i < j) (h2 : j < K) : r i ≠ r j := fun e => by
  have := h.inc i j h1 h2
  rw [e, nl_irr] at this; cases this
theorem Res.count : cnt (ls nm n) n = K := by
  rw [← cnt_had (r := r) (n := n) K h.lt (fun i j a b => h.ne a b)]
  refine cnt_congr n fun i hi => Bool.eq_iff_iff.2 ?_
  rw [ls_iff, had_iff]
  exact ⟨h.all i hi, fun ⟨j, j1, j2⟩ => j2 ▸ h.last j j1⟩
theorem Res.rank {p : Nat} (hp : p < K) : cnt (fun i => ls nm n i && nl (nm i) (nm (r p))) n = p := by
  refine Eq.trans ?_ (cnt_had (r := r) (n := n) p (fun j hj => h.lt j (by omega)) (fun i j a b => h.ne a (by omega)))
  refine cnt_congr n fun i hi => Bool.eq_iff_iff.2 ?_
  rw [Bool.and_eq_true, ls_iff, had_iff]
  constructor
  · rintro ⟨h1, h2⟩
    obtain ⟨j, j1, j2⟩ := h.all i hi h1
    subst j2
    rcases Nat.lt_trichotomy j p with e | e | e
    · exact ⟨j, e, rfl⟩
    · rw [e, nl_irr] at h2; cases h2
    · have := nl_trans h2 (h.inc p j e j1)
      rw [nl_irr] at this; cases this
  · rintro ⟨j, j1, rfl⟩
    exact ⟨h.last j (by omega), h.inc j p j1 hp⟩
end

end Go.Proofs.Qxb6601010a
