import Derived.WalkKit
namespace Go.Proofs.Qxb6602526a

/-- f 0 + .. + f (n-1). -/
def sumTo (f : Nat → Int) : Nat → Int
  | 0 => 0
  | n + 1 => sumTo f n + f n

/-- The rounds, weighted. -/
def totTo (f : Nat → Int) (n : Nat) : Int := sumTo (fun i => ((i : Int) + 1) * f i) n

theorem sumTo_bd (f : Nat → Int) (c : Int) (m : Nat) (h : ∀ i, i < m → 0 ≤ f i ∧ f i ≤ c) : ∀ k, k ≤ m → 0 ≤ sumTo f k ∧ sumTo f k ≤ k * c
  | 0, _ => by simp [sumTo]
  | k + 1, hk => by
    have ih := sumTo_bd f c m h k (by omega)
    have := h k (by omega)
    have e : ((k + 1 : Nat) : Int) * c = k * c + c := by rw [Int.natCast_add, Int.add_mul]; simp
    rw [sumTo, e]; omega

theorem sumTo_congr (f g : Nat → Int) : ∀ n, (∀ i, i < n → f i = g i) → sumTo f n = sumTo g n
  | 0, _ => rfl
  | n + 1, h => by rw [sumTo, sumTo, sumTo_congr f g n (fun i hi => h i (by omega)), h n (by omega)]

theorem sum_step (f : Nat → Int) (m k : Nat) (hm : m ≤ 65536) (hk : k < m) (hf : ∀ i, i < m → 0 ≤ f i ∧ f i ≤ 1099511627777) :
    IntKind.u64.wrap (sumTo f k + f k) = sumTo f (k + 1) := by
  have h := sumTo_bd f 1099511627777 m hf (k + 1) (by omega)
  have e : sumTo f (k + 1) = sumTo f k + f k := rfl
  rw [IntKind.wrap_u64, ← e]
  omega

theorem tot_step (f : Nat → Int) (k : Nat) :
    IntKind.u64.wrap (totTo f k % 18446744073709551616 + IntKind.u64.wrap (((k : Int) + 1) * f k)) = totTo f (k + 1) % 18446744073709551616 := by
  rw [IntKind.wrap_u64, IntKind.wrap_u64, ← Int.add_emod]
  rfl

theorem sum_small (f : Nat → Int) (m : Nat) (hm : m ≤ 65536) (hf : ∀ i, i < m → 0 ≤ f i ∧ f i ≤ 1099511627777) :
    0 ≤ sumTo f m ∧ sumTo f m < 18446744073709551616 := by
  have h := sumTo_bd f 1099511627777 m hf m (Nat.le_refl _)
  omega

theorem sumTo_ge (f : Nat → Int) (j : Nat) : ∀ n, (∀ i, i < n → 0 ≤ f i) → j < n → f j ≤ sumTo f n
  | 0, _, hj => by omega
  | n + 1, h, hj => by
    rw [sumTo]
    by_cases e : j = n
    · subst e
      have h0 : ∀ m, m ≤ j → 0 ≤ sumTo f m := fun m => by
        induction m with
        | zero => intro _; exact Int.le_refl 0
        | succ m ih => intro hm; rw [sumTo]; have := ih (by omega); have := h m (by omega); omega
      have := h0 j (Nat.le_refl _)
      omega
    · have := sumTo_ge f j n (fun i hi => h i (by omega)) (by omega)
      have := h n (by omega)
      omega

end Go.Proofs.Qxb6602526a
