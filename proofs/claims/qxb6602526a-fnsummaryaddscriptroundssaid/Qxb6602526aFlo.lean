import GoSem.Core.Float
import Derived.Laws.FloatBits
namespace Go.Proofs.Qxb6602526a
open Ieee

theorem read_word (rung : Nat) (neg : Bool) (h : rung ≤ double.infRung) :
    (double.read (double.word neg rung)).order (double.read (double.word neg rung)) = some .eq := by
  have hlt := double.infRung_lt
  have hr : double.word neg rung % double.signWeight = rung := by
    unfold Format.word
    split
    · rw [Nat.add_mod_left, Nat.mod_eq_of_lt (by omega)]
    · rw [Nat.mod_eq_of_lt (by omega)]
  unfold Format.read
  simp only [hr]
  split
  · simp [Datum.order]
  · split
    · simp [Datum.order]
    · rw [if_pos (by omega)]
      simp [Datum.order]

theorem order_write (neg : Bool) (m : Nat) (p : Int) : double.order (double.write (.number neg m p)) (double.write (.number neg m p)) = some .eq := by
  unfold Format.order Format.write Format.nearest
  dsimp only
  split
  · exact read_word _ _ (Nat.zero_le _)
  · exact read_word _ _ (Nat.min_le_right _ _)

theorem order_write_inf (neg : Bool) : double.order (double.write (.infinity neg)) (double.write (.infinity neg)) = some .eq := by
  unfold Format.order Format.write
  exact read_word _ _ (Nat.le_refl _)

theorem cut_le (n : Nat) : Toward.even.cut false (n <<< ((0 : Int) - ((n.log2 : Int) - 52)).toNat) (((n.log2 : Int) - 52) - 0).toNat ≤ 2 * 2 ^ 52 := by
  have hhi : n < 2 ^ (n.log2 + 1) := Nat.lt_log2_self
  have h53 : 2 * 2 ^ 52 = 2 ^ 53 := rfl
  unfold Toward.cut
  dsimp only
  by_cases hs : n.log2 ≤ 52
  · have e1 : (((n.log2 : Int) - 52) - 0).toNat = 0 := by omega
    have e2 : ((0 : Int) - ((n.log2 : Int) - 52)).toNat = 52 - n.log2 := by omega
    rw [e1, e2, Nat.zero_min]
    simp only [Nat.shiftLeft_zero, Nat.div_one, Nat.mod_one]
    have : n <<< (52 - n.log2) < 2 ^ 53 := by
      rw [Nat.shiftLeft_eq]
      have h2 : n * 2 ^ (52 - n.log2) < 2 ^ (n.log2 + 1) * 2 ^ (52 - n.log2) := Nat.mul_lt_mul_of_pos_right hhi (Nat.two_pow_pos _)
      rw [← Nat.pow_add] at h2
      have : n.log2 + 1 + (52 - n.log2) = 53 := by omega
      rw [this] at h2
      exact h2
    rw [h53]
    simpa using Nat.le_of_lt this
  · have e2 : ((0 : Int) - ((n.log2 : Int) - 52)).toNat = 0 := by omega
    have e1 : (((n.log2 : Int) - 52) - 0).toNat = n.log2 - 52 := by omega
    rw [e1, e2, Nat.shiftLeft_zero]
    have e3 : min (n.log2 - 52) (n.log2 + 2) = n.log2 - 52 := by omega
    rw [e3, Nat.shiftLeft_eq, Nat.one_mul, h53]
    have hd : n / 2 ^ (n.log2 - 52) < 2 ^ 53 := by
      apply Nat.div_lt_of_lt_mul
      rw [← Nat.pow_add]
      have : n.log2 - 52 + 53 = n.log2 + 1 := by omega
      rw [this]; exact hhi
    have hb : ∀ b : Bool, b.toNat ≤ 1 := fun b => by cases b <;> decide
    exact Nat.le_trans (Nat.add_le_add_left (hb _) _) hd

theorem read_at (B rung : Nat) (hB : double.binade = B) (hI : double.infRung = 2047 * B) (hS : double.signWeight = 2048 * B) (h1 : B ≤ rung) (h0 : 0 < B) (h2 : rung < 2047 * B) :
    ∃ mag place, double.read (double.word false rung) = .number false mag place ∧ mag ≠ 0 := by
  unfold Format.word Format.read
  simp only [hS, hB, hI]
  have hm : rung % (2048 * B) = rung := Nat.mod_eq_of_lt (by omega)
  have hd : rung / (2048 * B) = 0 := Nat.div_eq_of_lt (by omega)
  simp only [Bool.false_eq_true, if_false, hm, hd]
  rw [if_neg (by omega), if_pos h2]
  exact ⟨_, _, rfl, by omega⟩

theorem nearest_at (B n : Nat) (hB : double.binade = B) (hI : double.infRung = 2047 * B) (h0 : 0 < B) (hn : n ≠ 0) (hl : n.log2 < 64)
    (hk : Toward.even.cut false (n <<< ((0 : Int) - ((n.log2 : Int) - 52)).toNat) (((n.log2 : Int) - 52) - 0).toNat ≤ 2 * B) :
    ∃ rung, double.nearest false n 0 = double.word false rung ∧ B ≤ rung ∧ rung < 2047 * B := by
  have hlp : double.leastPlace = -1074 := by decide
  have hlast : max ((0 : Int) + n.log2 - (double.fractionBits : Nat)) double.leastPlace = (n.log2 : Int) - 52 := by
    rw [hlp]
    show max ((0 : Int) + n.log2 - (52 : Nat)) _ = _
    omega
  have er : ((n.log2 : Int) - 52 - -1074).toNat = n.log2 + 1022 := by omega
  unfold Format.nearest
  rw [if_neg hn]
  dsimp only
  rw [hlast, hI, hlp, hB, er]
  refine ⟨_, rfl, ?_, ?_⟩
  all_goals
    generalize Toward.even.cut false (n <<< ((0 : Int) - ((n.log2 : Int) - 52)).toNat) (((n.log2 : Int) - 52) - 0).toNat = kept at hk ⊢
    have u1 : (n.log2 + 1022) * B ≤ 1085 * B := Nat.mul_le_mul_right _ (by omega)
    have u2 : 1 * B ≤ (n.log2 + 1022) * B := Nat.mul_le_mul_right _ (by omega)
    generalize (n.log2 + 1022) * B = X at u1 u2 ⊢
    omega

/-- The word of a whole number below 2^64 that is not zero stands for a number that is not zero. -/
theorem read_nearest (n : Nat) (h0 : n ≠ 0) (h : n < 2 ^ 64) : ∃ mag place, double.read (double.nearest false n 0) = .number false mag place ∧ mag ≠ 0 := by
  have hl : n.log2 < 64 := (Nat.log2_lt h0).2 h
  have hB : double.binade = 2 ^ 52 := by decide
  have hI : double.infRung = 2047 * 2 ^ 52 := by decide
  have hS : double.signWeight = 2048 * 2 ^ 52 := by decide
  have hk := cut_le n
  have hp : 0 < 2 ^ 52 := Nat.two_pow_pos _
  generalize 2 ^ 52 = B at *
  obtain ⟨rung, e, r1, r2⟩ := nearest_at B n hB hI hp h0 hl hk
  rw [e]
  exact read_at B rung hB hI hS r1 hp r2

/-- The word of a whole number below 2^64 stands for a number. -/
theorem read_nearest0 (n : Nat) (h : n < 2 ^ 64) : ∃ mag place, double.read (double.nearest false n 0) = .number false mag place := by
  by_cases h0 : n = 0
  · subst h0
    exact ⟨0, double.leastPlace, by decide⟩
  · obtain ⟨m, p, h1, _⟩ := read_nearest n h0 h
    exact ⟨m, p, h1⟩

/-- float64(m) / float64(n), whole numbers below 2^64, n not zero. -/
def fdiv (m n : Int) : Nat := (double.div (FloatKind.nearest .f64 m) (FloatKind.nearest .f64 n)).getD 0

theorem fdiv_eq (m n : Int) (hm0 : 0 ≤ m) (hm : m < 18446744073709551616) (hn0 : 0 < n) (hn : n < 18446744073709551616) :
    double.div (FloatKind.nearest .f64 m) (FloatKind.nearest .f64 n) = some (fdiv m n) ∧ double.order (fdiv m n) (fdiv m n) = some .eq := by
  have em : FloatKind.nearest .f64 m = double.nearest false m.natAbs 0 := by
    simp only [FloatKind.nearest, FloatKind.encode, FloatKind.format, Format.write]
    rw [decide_eq_false (by omega)]
  have en : FloatKind.nearest .f64 n = double.nearest false n.natAbs 0 := by
    simp only [FloatKind.nearest, FloatKind.encode, FloatKind.format, Format.write]
    rw [decide_eq_false (by omega)]
  obtain ⟨a, p, ha⟩ := read_nearest0 m.natAbs (by omega)
  obtain ⟨b, q, hb, hb0⟩ := read_nearest n.natAbs (by omega) (by omega)
  have key : ∃ mg pl, double.div (FloatKind.nearest .f64 m) (FloatKind.nearest .f64 n) = some (double.write (.number false mg pl)) := by
    rw [em, en]
    unfold Format.div
    rw [ha, hb]
    simp only [Datum.quotient]
    rw [if_neg hb0]
    exact ⟨_, _, rfl⟩
  obtain ⟨mg, pl, hk⟩ := key
  have e : fdiv m n = double.write (.number false mg pl) := by rw [fdiv, hk]; rfl
  rw [e]
  exact ⟨hk, order_write _ _ _⟩

end Go.Proofs.Qxb6602526a
