import Derived.Test.Qxb6601010aZ2
namespace Go.Proofs.Qxb6601010a
open Go.RowKit
set_option linter.unusedSimpArgs false
set_option linter.unusedVariables false

theorem u8_tri (a b : UInt8) : (decide (a < b) = true ∧ decide (b < a) = false ∧ (a == b) = false) ∨ (decide (a < b) = false ∧ decide (b < a) = true ∧ (a == b) = false) ∨ (a = b ∧ decide (a < b) = false ∧ decide (b < a) = false) := by
  rcases Nat.lt_trichotomy a.toNat b.toNat with h | h | h
  · left
    refine ⟨by simpa [UInt8.lt_iff_toNat_lt] using h, by simp [UInt8.lt_iff_toNat_lt, UInt8.le_iff_toNat_le]; omega, ?_⟩
    simp only [beq_eq_false_iff_ne]; intro e; subst e; omega
  · right; right
    have e : a = b := UInt8.toNat_inj.1 h
    subst e
    exact ⟨rfl, by simp, by simp⟩
  · right; left
    refine ⟨by simp [UInt8.lt_iff_toNat_lt, UInt8.le_iff_toNat_le]; omega, by simpa [UInt8.lt_iff_toNat_lt] using h, ?_⟩
    simp only [beq_eq_false_iff_ne]; intro e; subst e; omega
theorem bl_cons (a b : UInt8) (x y : List UInt8) : Op.bytesLess (a :: x) (b :: y) = (decide (a < b) || (a == b && Op.bytesLess x y)) := rfl
theorem bl_irr : ∀ x, Op.bytesLess x x = false
  | [] => rfl
  | a :: x => by rw [bl_cons, bl_irr x]; simp
theorem cmp_bl : ∀ x y, decide (Lib.compareBytes x y < 0) = Op.bytesLess x y
  | [], [] => by decide
  | [], _ :: _ => by simp [Lib.compareBytes, Op.bytesLess]
  | _ :: _, [] => by simp [Lib.compareBytes, Op.bytesLess]
  | a :: x, b :: y => by
    rw [bl_cons, ← cmp_bl x y]
    have hc : Lib.compareBytes (a :: x) (b :: y) = if a < b then -1 else if b < a then 1 else Lib.compareBytes x y := by rw [Lib.compareBytes]
    rw [hc]
    rcases u8_tri a b with ⟨h1, h2, h3⟩ | ⟨h1, h2, h3⟩ | ⟨rfl, h1, h2⟩
    · rw [if_pos (by simpa using h1), h1]; simp
    · rw [if_neg (by simpa using h1), if_pos (by simpa using h2), h1, h3]; simp
    · rw [if_neg (by simp), if_neg (by simp), h1]; simp
theorem bl_asym : ∀ x y, Op.bytesLess x y = true → Op.bytesLess y x = false
  | [], [], h => by cases h
  | [], _ :: _, _ => rfl
  | _ :: _, [], h => by cases h
  | a :: x, b :: y, h => by
    rw [bl_cons] at h ⊢
    rcases u8_tri a b with ⟨h1, h2, h3⟩ | ⟨h1, h2, h3⟩ | ⟨rfl, h1, h2⟩
    · rw [h2]
      have : (b == a) = false := by
        simp only [beq_eq_false_iff_ne] at *
        exact fun e => h3 e.symm
      rw [this]; rfl
    · rw [h1, h3] at h; cases h
    · rw [h1] at h ⊢
      simp at h ⊢
      exact bl_asym x y h
theorem bl_neg : ∀ x y z, Op.bytesLess x y = true → Op.bytesLess x z = true ∨ Op.bytesLess z y = true
  | [], [], _, h => by cases h
  | _ :: _, [], _, h => by cases h
  | [], b :: y, [], _ => .inr rfl
  | [], b :: y, c :: z, _ => .inl rfl
  | a :: x, b :: y, [], _ => .inr rfl
  | a :: x, b :: y, c :: z, h => by
    rw [bl_cons] at h
    rw [bl_cons, bl_cons]
    rcases u8_tri a c with ⟨h1, h2, h3⟩ | ⟨h1, h2, h3⟩ | ⟨rfl, h1, h2⟩
    · left; rw [h1]; rfl
    · right
      have hc : decide (c < b) = true := by
        rcases u8_tri a b with ⟨g1, g2, g3⟩ | ⟨g1, g2, g3⟩ | ⟨rfl, g1, g2⟩
        · simp only [decide_eq_true_eq, UInt8.lt_iff_toNat_lt] at *; omega
        · rw [g1, g3] at h; cases h
        · exact h2
      rw [hc]; rfl
    · rcases u8_tri a b with ⟨g1, g2, g3⟩ | ⟨g1, g2, g3⟩ | ⟨rfl, g1, g2⟩
      · right; rw [g1]; rfl
      · rw [g1, g3] at h; cases h
      · rw [g1] at h ⊢
        simp at h ⊢
        exact bl_neg x y z h
theorem bl_tot : ∀ x y, Op.bytesLess x y = false → Op.bytesLess y x = false → x = y
  | [], [], _, _ => rfl
  | [], _ :: _, h, _ => by cases h
  | _ :: _, [], _, h => by cases h
  | a :: x, b :: y, h, k => by
    rw [bl_cons] at h k
    rcases u8_tri a b with ⟨h1, h2, h3⟩ | ⟨h1, h2, h3⟩ | ⟨rfl, h1, h2⟩
    · rw [h1] at h; cases h
    · rw [h2] at k; cases k
    · rw [h1] at h k
      simp at h k
      rw [bl_tot x y h k]

/-- The order of two names. -/
def nl (a b : ByteArray) : Bool := Op.bytesLess a.toList b.toList
theorem LE_nl (E : Nat → Hd) (i j : Nat) : LE E i j = nl (E i).nm (E j).nm := by
  unfold LE nl cmpB
  rw [ByteArray.toList_eq, ByteArray.toList_eq]
  exact cmp_bl _ _
theorem weakLE (E : Nat → Hd) : Weak (LE E) := ⟨fun i j h => by rw [LE_nl] at *; exact bl_asym _ _ h, fun i j k h => by rw [LE_nl] at h; rw [LE_nl, LE_nl]; exact bl_neg _ _ _ h⟩
theorem name_eq {a b : ByteArray} (h : a.toList = b.toList) : a = b := by
  rw [ByteArray.toList_eq, ByteArray.toList_eq] at h
  apply ByteArray.ext
  exact Array.toList_inj.1 h
theorem nl_tot {a b : ByteArray} (h1 : nl a b = false) (h2 : nl b a = false) : a = b := name_eq (bl_tot _ _ h1 h2)
theorem nl_irr (a : ByteArray) : nl a a = false := bl_irr _

end Go.Proofs.Qxb6601010a
