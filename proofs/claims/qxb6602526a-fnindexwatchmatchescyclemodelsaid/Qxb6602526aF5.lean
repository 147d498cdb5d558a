import Derived.Test.Qxb6602526aE4
namespace Go.Proofs.Qxb6602526a
open Go.RowKit
set_option linter.unusedSimpArgs false
set_option linter.unusedVariables false

/-- The watch behind k pulses (the held row aside). -/
def IW.run (kap st : Int) (n : Nat) (p ck : Nat → Int) (res idx : Nat → Nat → Int) : Nat → IW
  | 0 => IW.new kap st
  | k + 1 => (IW.run kap st n p ck res idx k).obs n (p k) (ck k) (idx (k - 1)) (res k) (idx k)

theorem IW.run_kap (kap st : Int) (n : Nat) (p ck : Nat → Int) (res idx : Nat → Nat → Int) : ∀ k, (IW.run kap st n p ck res idx k).kap = kap
  | 0 => rfl
  | k + 1 => IW.run_kap kap st n p ck res idx k
theorem IW.run_st (kap st : Int) (n : Nat) (p ck : Nat → Int) (res idx : Nat → Nat → Int) : ∀ k, (IW.run kap st n p ck res idx k).st = st
  | 0 => rfl
  | k + 1 => IW.run_st kap st n p ck res idx k
theorem IW.run_seen (kap st : Int) (n : Nat) (p ck : Nat → Int) (res idx : Nat → Nat → Int) : ∀ k, (IW.run kap st n p ck res idx k).seen = decide (0 < k)
  | 0 => rfl
  | k + 1 => by simp [IW.run, IW.obs]
theorem IW.run_viol (kap st : Int) (n : Nat) (p ck : Nat → Int) (res idx : Nat → Nat → Int) : ∀ k, 0 ≤ (IW.run kap st n p ck res idx k).viol ∧ (IW.run kap st n p ck res idx k).viol ≤ k
  | 0 => ⟨Int.le_refl _, Int.le_refl _⟩
  | k + 1 => by
    have := IW.run_viol kap st n p ck res idx k
    simp only [IW.run, IW.obs]
    split
    · omega
    · split <;> omega

theorem IW.obs_congr (T : IW) (n : Nat) (p ck : Int) (prev res idx prev' res' idx' : Nat → Int) (h1 : dif idx (idx 0) n = dif idx' (idx' 0) n) (h2 : cls T.kap T.st ck prev res idx n = cls T.kap T.st ck prev' res' idx' n) :
    T.obs n p ck prev res idx = T.obs n p ck prev' res' idx' := by
  simp only [IW.obs, h1, h2]

theorem dif_rev (f : Nat → Int) (n : Nat) : dif (fun i => f (n - 1 - i)) (f (n - 1 - 0)) n = dif f (f 0) n := by
  rcases Nat.eq_zero_or_pos n with e | e
  · subst e; rfl
  cases h : dif f (f 0) n
  · have ha := dif_false.1 h
    refine dif_false.2 fun i hi => ?_
    rw [ha (n - 1 - i) (by omega), ha (n - 1 - 0) (by omega)]
  · cases h2 : dif (fun i => f (n - 1 - i)) (f (n - 1 - 0)) n
    · have hb := dif_false.1 h2
      have : dif f (f 0) n = false := dif_false.2 fun i hi => by
        have a := hb (n - 1 - i) (by omega)
        have b := hb (n - 1) (by omega)
        rw [show n - 1 - (n - 1 - i) = i by omega] at a
        rw [show n - 1 - (n - 1) = 0 by omega] at b
        omega
      rw [this] at h; cases h
    · rfl
theorem cls_rev (kap st ck : Int) (prev res idx : Nat → Int) (n : Nat) : cls kap st ck (fun i => prev (n - 1 - i)) (fun i => res (n - 1 - i)) (fun i => idx (n - 1 - i)) n = cls kap st ck prev res idx n := by
  cases h : cls kap st ck prev res idx n
  · cases h2 : cls kap st ck (fun i => prev (n - 1 - i)) (fun i => res (n - 1 - i)) (fun i => idx (n - 1 - i)) n
    · rfl
    · have hb := cls_true.1 h2
      have : cls kap st ck prev res idx n = true := cls_true.2 fun i hi => by
        have a := hb (n - 1 - i) (by omega)
        rwa [show n - 1 - (n - 1 - i) = i by omega] at a
      rw [this] at h; cases h
  · have ha := cls_true.1 h
    exact cls_true.2 fun i hi => ha (n - 1 - i) (by omega)

/-- THE PLAIN LAW of the node order. -/
theorem IW.run_rev (kap st : Int) (n : Nat) (p ck : Nat → Int) (res idx : Nat → Nat → Int) : ∀ k, IW.run kap st n p ck (fun k i => res k (n - 1 - i)) (fun k i => idx k (n - 1 - i)) k = IW.run kap st n p ck res idx k
  | 0 => rfl
  | k + 1 => by
    rw [IW.run, IW.run_rev kap st n p ck res idx k, IW.run]
    exact IW.obs_congr _ _ _ _ _ _ _ _ _ _ (dif_rev (idx k) n) (cls_rev _ _ _ _ _ _ _)

/-- The bounds of a place in a pulse's row. -/
theorem place {k m K I i : Nat} (hI : I = m * K) (hk : k < K) (hi : i < m) (lI : (I : Int) ≤ 1048576) :
    IntKind.i64.wrap ((k : Int) * (m : Int)) = ((k * m : Nat) : Int) ∧ IntKind.i64.wrap (((k * m : Nat) : Int) + (i : Int)) = ((k * m + i : Nat) : Int) ∧ IntKind.i64.wrap (((k * m : Nat) : Int) + (m : Int)) = ((k * m : Nat) : Int) + m ∧ IntKind.i64.wrap (((k * m : Nat) : Int) + m - 1) = ((k * m : Nat) : Int) + m - 1 ∧
    IntKind.i64.wrap (((k * m : Nat) : Int) + m - 1 - i) = ((k * m + (m - 1 - i) : Nat) : Int) ∧ k * m + m ≤ I := by
  have e1 : (k + 1) * m = k * m + m := Nat.succ_mul k m
  have h1 : (k + 1) * m ≤ I := by rw [hI, Nat.mul_comm m K]; exact Nat.mul_le_mul_right m hk
  have c1 : (k : Int) * (m : Int) = ((k * m : Nat) : Int) := (Int.natCast_mul k m).symm
  rw [c1]
  generalize k * m = a at *
  simp only [IntKind.wrap_i64]
  omega

theorem wf_u8 {n : Int} (h : (Lit.int .u8 n).wf = true) : 0 ≤ n ∧ n < 256 := by
  simp [Lit.wf, IntKind.min, IntKind.max, IntKind.signed, IntKind.bits] at h
  omega
theorem wf_u32 {n : Int} (h : (Lit.int .u32 n).wf = true) : 0 ≤ n ∧ n < 4294967296 := by
  simp [Lit.wf, IntKind.min, IntKind.max, IntKind.signed, IntKind.bits] at h
  omega

/-- The place in the reversed rows. -/
def rev (m j : Nat) : Nat := j / m * m + (m - 1 - j % m)
theorem rev_at {m k i : Nat} (hi : i < m) : rev m (k * m + i) = k * m + (m - 1 - i) := by
  unfold rev
  rw [show k * m + i = i + m * k by rw [Nat.mul_comm m k]; omega, Nat.add_mul_div_left _ _ (by omega), Nat.add_mul_mod_self_left, Nat.div_eq_of_lt hi, Nat.mod_eq_of_lt hi, Nat.zero_add]

end Go.Proofs.Qxb6602526a
