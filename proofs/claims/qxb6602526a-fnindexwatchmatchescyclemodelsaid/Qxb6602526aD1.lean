import Derived.Test.Qxb6602526aC5
namespace Go.Proofs.Qxb6602526a
open Go.RowKit
set_option linter.unusedSimpArgs false
set_option linter.unusedVariables false

/-- The least and the greatest of f 0 .. f (n-1) (of f 0 alone for n = 0). -/
def minTo (f : Nat → Int) : Nat → Int
  | 0 => f 0
  | n + 1 => if f n < minTo f n then f n else minTo f n
def maxTo (f : Nat → Int) : Nat → Int
  | 0 => f 0
  | n + 1 => if maxTo f n < f n then f n else maxTo f n

theorem minTo_le (f : Nat → Int) : ∀ n i, i < n → minTo f n ≤ f i
  | 0, i, h => by omega
  | n + 1, i, h => by
    rw [minTo]
    by_cases e : i = n
    · subst e; split <;> omega
    · have := minTo_le f n i (by omega)
      split <;> omega
theorem le_maxTo (f : Nat → Int) : ∀ n i, i < n → f i ≤ maxTo f n
  | 0, i, h => by omega
  | n + 1, i, h => by
    rw [maxTo]
    by_cases e : i = n
    · subst e; split <;> omega
    · have := le_maxTo f n i (by omega)
      split <;> omega
theorem minTo_eq (f : Nat → Int) (v : Int) : ∀ n, 0 < n → (∀ i, i < n → f i = v) → minTo f n = v
  | 0, h, _ => by omega
  | n + 1, h, ha => by
    have e0 := ha 0 (by omega)
    have en := ha n (by omega)
    have hm : minTo f n = v := by
      rcases Nat.eq_zero_or_pos n with e | e
      · subst e; exact e0
      · exact minTo_eq f v n e (fun i hi => ha i (by omega))
    rw [minTo, hm, en]; simp
theorem maxTo_eq (f : Nat → Int) (v : Int) : ∀ n, 0 < n → (∀ i, i < n → f i = v) → maxTo f n = v
  | 0, h, _ => by omega
  | n + 1, h, ha => by
    have e0 := ha 0 (by omega)
    have en := ha n (by omega)
    have hm : maxTo f n = v := by
      rcases Nat.eq_zero_or_pos n with e | e
      · subst e; exact e0
      · exact maxTo_eq f v n e (fun i hi => ha i (by omega))
    rw [maxTo, hm, en]; simp

theorem dif_false {f : Nat → Int} {v : Int} : ∀ {n}, dif f v n = false ↔ ∀ i, i < n → f i = v
  | 0 => ⟨fun _ i hi => by omega, fun _ => rfl⟩
  | n + 1 => by
    rw [dif_succ, Bool.or_eq_false_iff, dif_false]
    constructor
    · rintro ⟨h1, h2⟩ i hi
      by_cases e : i = n
      · subst e; simpa using h2
      · exact h1 i (by omega)
    · intro h
      exact ⟨fun i hi => h i (by omega), by simpa using h n (by omega)⟩

theorem dif_mm (f : Nat → Int) (v : Int) (n : Nat) (hn : 0 < n) : dif f v n = !(minTo f n == v && maxTo f n == v) := by
  cases h : dif f v n
  · have ha := dif_false.1 h
    rw [minTo_eq f v n hn ha, maxTo_eq f v n hn ha]; simp
  · have : ¬ (minTo f n = v ∧ maxTo f n = v) := by
      rintro ⟨h1, h2⟩
      have : dif f v n = false := dif_false.2 (fun i hi => by have := minTo_le f n i hi; have := le_maxTo f n i hi; omega)
      rw [this] at h; cases h
    symm
    simp
    omega
theorem eq_mm (f : Nat → Int) (n : Nat) (hn : 0 < n) : (minTo f n == maxTo f n) = !dif f (f 0) n := by
  rw [dif_mm f (f 0) n hn, Bool.not_not]
  have h1 := minTo_le f n 0 hn
  have h2 := le_maxTo f n 0 hn
  by_cases e : minTo f n = maxTo f n
  · have a : minTo f n = f 0 := by omega
    have b : maxTo f n = f 0 := by omega
    rw [a, b]; simp
  · have e1 : (minTo f n == maxTo f n) = false := by simpa using e
    rw [e1]; symm
    rw [Bool.and_eq_false_iff]
    by_cases a : minTo f n = f 0
    · right; simp; omega
    · left; simpa using a

theorem mm36 (b o n cap : Nat) (f : Nat → Int) (w : World) (h0 : 0 < n) (ln : (n : Int) ≤ 1048576) (hc : ∀ i, i < n → w.cell? ⟨b, o + i, none⟩ = some (.int .u8 (f i))) :
    Calls Try.prog 36 #[.slice (some ⟨b, o, none⟩) n cap] w fun e w' => e = .returned (.tuple #[.int .u8 (minTo f n), .int .u8 (maxTo f n)]) ∧ w' = w := by
  have c0 : w.cell? ⟨b, o, none⟩ = some (.int .u8 (f 0)) := hc 0 h0
  have l0 : (0 : Int) < n := by omega
  have m1 : minTo f 1 = f 0 := by simp [minTo]
  have M1 : maxTo f 1 = f 0 := by simp [maxTo]
  have HC : Hid _ := hc
  have Hm : Hid _ := m1
  have HM : Hid _ := M1
  clear hc m1 M1
  go_enter Try.func36, Try.ntmps36
  go_wp2
  go_loop [4, 5, 6] (fun lo hi i => ∃ k : Nat, 1 ≤ k ∧ k ≤ n ∧ i = .int .i64 k ∧ lo = .int .u8 (minTo f k) ∧ hi = .int .u8 (maxTo f k)) (fun _ _ i => n - (intOf i).toNat)
  case atStart => exact ⟨1, by omega, by omega, rfl, by rw [Hm.out], by rw [HM.out]⟩
  case round =>
    obtain ⟨k, hk1, hk, rfl, rfl, rfl⟩ := hrel
    by_cases hlt : k < n
    · have ck := HC.out k hlt
      have lk : (k : Int) < n := by omega
      have e1 : minTo f (k + 1) = if f k < minTo f k then f k else minTo f k := rfl
      have e2 : maxTo f (k + 1) = if maxTo f k < f k then f k else maxTo f k := rfl
      have E1 : Hid _ := e1
      have E2 : Hid _ := e2
      clear e1 e2
      by_cases g1 : f k < minTo f k
      · by_cases g2 : maxTo f k < f k
        · go_wp2
          go_round
          case rel => exact ⟨k + 1, by omega, by omega, by go_num, by rw [E1.out, if_pos g1], by rw [E2.out, if_pos g2]⟩
          case measure => simp [intOf]; omega
        · go_wp2
          go_round
          case rel => exact ⟨k + 1, by omega, by omega, by go_num, by rw [E1.out, if_pos g1], by rw [E2.out, if_neg g2]⟩
          case measure => simp [intOf]; omega
      · by_cases g2 : maxTo f k < f k
        · go_wp2
          go_round
          case rel => exact ⟨k + 1, by omega, by omega, by go_num, by rw [E1.out, if_neg g1], by rw [E2.out, if_pos g2]⟩
          case measure => simp [intOf]; omega
        · go_wp2
          go_round
          case rel => exact ⟨k + 1, by omega, by omega, by go_num, by rw [E1.out, if_neg g1], by rw [E2.out, if_neg g2]⟩
          case measure => simp [intOf]; omega
    · have e : k = n := by omega
      subst e
      go_wp2
      go_ret2
      exact ⟨rfl, rfl⟩

end Go.Proofs.Qxb6602526a
