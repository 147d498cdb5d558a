import Derived.Test.Qxb6602526aA8
import Derived.Test.Qxb6602526aA7
import Derived.Test.Qxb6602526aA5
namespace Go.Proofs.Qxb6602526a
open Go.RowKit
set_option linter.unusedSimpArgs false
set_option linter.unusedVariables false

/-! PLAIN FACTS ON COUNTS. -/
theorem cnt_bd (N : Nat → NodeD) (p : Int → Bool) : ∀ k : Nat, 0 ≤ cnt N p k ∧ cnt N p k ≤ k
  | 0 => by simp [cnt, sumTo]
  | k + 1 => by
    have := cnt_bd N p k
    rw [cnt_succ]
    split <;> omega

theorem any_cnt (N : Nat → NodeD) (v : Int) : ∀ k : Nat, anyTo (fun i => reports v (N i)) k = decide (0 < cnt N (· == v) k)
  | 0 => by simp [anyTo, cnt, sumTo]
  | k + 1 => by
    have ih := any_cnt N v k
    have bd := cnt_bd N (· == v) k
    rw [cnt_succ, anyTo, ih]
    have e : reports v (N k) = (!(N k).fa && (N k).rv == v) := rfl
    rw [← e]
    cases h : reports v (N k)
    · simp
    · have : 0 < cnt N (· == v) k + 1 := by omega
      simp [this]

theorem anyTo_congr (p q : Nat → Bool) : ∀ k, (∀ i, i < k → p i = q i) → anyTo p k = anyTo q k
  | 0, _ => rfl
  | k + 1, h => by rw [anyTo, anyTo, anyTo_congr p q k (fun i hi => h i (by omega)), h k (by omega)]

theorem lastTo_congr (N M : Nat → NodeD) : ∀ k, (∀ i, i < k → (N i).fa = (M i).fa ∧ ((N i).fa = false → (N i).ro.isSome = (M i).ro.isSome ∧ (N i).dv = (M i).dv)) → lastTo N k = lastTo M k
  | 0, _ => rfl
  | k + 1, h => by
    have ih := lastTo_congr N M k (fun i hi => h i (by omega))
    obtain ⟨h1, h2⟩ := h k (by omega)
    rw [lastTo, lastTo, ih]
    cases hf : (N k).fa
    · obtain ⟨h3, h4⟩ := h2 hf
      rw [h3, h4, ← h1, hf]
    · rw [← h1, hf]; simp

theorem lastTo_bd (N : Nat → NodeD) (c : Int) (hc : 0 ≤ c) : ∀ k, (∀ i, i < k → 0 ≤ (N i).dv ∧ (N i).dv ≤ c) → 0 ≤ lastTo N k ∧ lastTo N k ≤ c
  | 0, _ => by simp [lastTo, hc]
  | k + 1, h => by
    have ih := lastTo_bd N c hc k (fun i hi => h i (by omega))
    have := h k (by omega)
    rw [lastTo]
    split <;> omega

theorem cnt_congr (N M : Nat → NodeD) (p : Int → Bool) : ∀ k, (∀ i, i < k → (N i).fa = (M i).fa ∧ ((N i).fa = false → (N i).rv = (M i).rv)) → cnt N p k = cnt M p k
  | 0, _ => rfl
  | k + 1, h => by
    rw [cnt_succ, cnt_succ, cnt_congr N M p k (fun i hi => h i (by omega))]
    obtain ⟨h1, h2⟩ := h k (by omega)
    cases hf : (N k).fa
    · rw [h2 hf, ← h1, hf]
    · rw [← h1, hf]; simp

theorem Stands.und {x : NodeC} {y : NodeD} (h : Stands x y) : undecided y = undecided x.toD := by
  unfold undecided
  cases hf : x.fa
  · have h1 := h.ro hf
    have h2 : y.ro.isNone = !x.hr := by rw [← h1]; cases y.ro <;> rfl
    rw [h2, h.fa, hf]
    simp only [NodeC.toD, hf]
    cases x.hr <;> rfl
  · rw [h.fa, hf]; simp [NodeC.toD, hf]
theorem Stands.rep {x : NodeC} {y : NodeD} (h : Stands x y) (v : Int) : reports v y = reports v x.toD := by
  unfold reports
  cases hf : x.fa
  · rw [h.fa, h.rv hf]; rfl
  · rw [h.fa, hf]; simp [NodeC.toD, hf]
theorem Stands.prop {x : NodeC} {y : NodeD} (h : Stands x y) (v : Int) : proposes v y = proposes v x.toD := by
  unfold proposes
  cases hf : x.fa
  · rw [h.fa, h.pv hf, h.pa hf, hf]
    simp only [NodeC.toD, hf]
    cases x.hp <;> rfl
  · rw [h.fa, hf]; simp [NodeC.toD, hf]
theorem Stands.last {x : NodeC} {y : NodeD} (h : Stands x y) : y.fa = x.toD.fa ∧ (y.fa = false → y.ro.isSome = x.toD.ro.isSome ∧ y.dv = x.toD.dv) := by
  refine ⟨h.fa, fun hf => ?_⟩
  have hf' : x.fa = false := by rw [← h.fa]; exact hf
  refine ⟨?_, h.dv hf'⟩
  rw [h.ro hf']
  simp only [NodeC.toD]
  cases x.hr <;> rfl
theorem Stands.res {x : NodeC} {y : NodeD} (h : Stands x y) : y.fa = x.toD.fa ∧ (y.fa = false → y.rv = x.toD.rv) :=
  ⟨h.fa, fun hf => h.rv (by rw [← h.fa]; exact hf)⟩

theorem wrap_ind (x : Int) (b : Bool) (h : 0 ≤ x ∧ x < 18446744073709551616) : IntKind.u64.wrap (x + ind b) = inc64 b x := by
  cases b
  · simp only [ind, inc64, Bool.false_eq_true, if_false, Int.add_zero]; rw [IntKind.wrap_u64]; omega
  · simp only [ind, inc64, if_true]

/-- The end of the law. -/
def Fin8 (w0 : World) : Exit → Act → World → Prop := bodyPost Try.prog Try.f8 fun e w' => e = .returned (.bool true) ∧ Below w0.heap.size w0 w'
theorem fin8 {w0 w : World} {a : Act} (hf : Fr 375 a) (h : sl a 6 = .bool true) (hk : Kept [] w0 w) : Fin8 w0 .ret a w :=
  bodyPost_ret (results_tmp rfl _ _ _) hf.defers ⟨by rw [show a.tmps.getD 6 undef = .bool true from h], hk.below _ (Nat.le_refl _) (by simp)⟩

end Go.Proofs.Qxb6602526a
