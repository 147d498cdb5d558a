import Derived.Test.Qxb6605258aT5
namespace Go.Proofs.Qxb6605258a
open Go.RowKit
set_option linter.unusedSimpArgs false
set_option linter.unusedVariables false

/-- The dot at place 0, d digits behind it, and no more. -/
structure Run (z : Nat → Int) (L d : Nat) : Prop where
  dot : z 0 = 46
  le : d + 1 ≤ L
  digs : allD z 1 d = true
  stop : d + 1 = L ∨ dig (z (d + 1)) = false
theorem Run.key {z : Nat → Int} {L d m : Nat} (h : Run z L d) (hf : frOk z m = true) (hm : m < L) (hd : dig (z m) = false) (h46 : z m ≠ 46) : m = d + 1 ∧ 1 ≤ d ∧ d ≤ 9 := by
  have h0 : m ≠ 0 := fun e => by subst e; exact h46 h.dot
  have g : decide (m = 0) = false := by simpa using h0
  unfold frOk at hf
  rw [g] at hf
  simp only [Bool.false_or, Bool.and_eq_true, decide_eq_true_eq] at hf
  obtain ⟨⟨⟨-, h2⟩, h10⟩, ha⟩ := hf
  have hm1 : ¬ m ≤ d := fun hle => by
    have := allD_true.1 h.digs (m - 1) (by omega)
    rw [show 1 + (m - 1) = m by omega, hd] at this
    cases this
  have hm2 : ¬ d + 1 < m := fun hlt => by
    rcases h.stop with e | e
    · omega
    · have := allD_true.1 ha d (by omega)
      rw [show 1 + d = d + 1 by omega, e] at this
      cases this
  omega
theorem Run.ok {z : Nat → Int} {L d : Nat} (h : Run z L d) (h1 : 1 ≤ d) (h9 : d ≤ 9) : frOk z (d + 1) = true ∧ frN (d + 1) = d := by
  constructor
  · unfold frOk
    have a : decide (2 ≤ d + 1) = true := by simp; omega
    have b : decide (d + 1 ≤ 10) = true := by simp; omega
    rw [a, b, h.dot, show d + 1 - 1 = d by omega, h.digs]; simp
  · simp [frN]

/-- Where the zone begins, and how many digits stand ahead of it. -/
def Zn (z : Nat → Int) (L zs d : Nat) : Prop := (zs = 0 ∧ d = 0 ∧ (L = 0 ∨ z 0 ≠ 46)) ∨ (zs = d + 1 ∧ 1 ≤ d ∧ d ≤ 9 ∧ Run z L d)
theorem Zn.key {z : Nat → Int} {L zs d m : Nat} (h : Zn z L zs d) (hf : frOk z m = true) (hm : m < L) (hd : dig (z m) = false) (h46 : z m ≠ 46) : zs = m := by
  rcases h with ⟨rfl, rfl, h0⟩ | ⟨rfl, h1, h9, hr⟩
  · by_cases e : m = 0
    · exact e.symm
    · have g : decide (m = 0) = false := by simpa using e
      unfold frOk at hf
      rw [g] at hf
      simp only [Bool.false_or, Bool.and_eq_true, decide_eq_true_eq, beq_iff_eq] at hf
      rcases h0 with h0 | h0
      · omega
      · exact absurd hf.1.1.1 h0
  · exact (hr.key hf hm hd h46).1.symm
theorem Zn.ok {z : Nat → Int} {L zs d : Nat} (h : Zn z L zs d) : frOk z zs = true ∧ frN zs = d := by
  rcases h with ⟨rfl, rfl, h0⟩ | ⟨rfl, h1, h9, hr⟩
  · exact ⟨rfl, rfl⟩
  · exact hr.ok h1 h9
theorem Zn.le {z : Nat → Int} {L zs d : Nat} (h : Zn z L zs d) : zs ≤ L := by
  rcases h with ⟨rfl, rfl, h0⟩ | ⟨rfl, h1, h9, hr⟩
  · omega
  · exact hr.le

theorem sign_dig {c : Int} (h : c = 43 ∨ c = 45) : dig c = false ∧ c ≠ 46 := by rcases h with rfl | rfl <;> decide
theorem zed_dig {c : Int} (h : c = 90 ∨ c = 122) : dig c = false ∧ c ≠ 46 := by rcases h with rfl | rfl <;> decide

section
variable {s : ByteArray}
theorem c6_iff : c6 s = true ↔ 25 ≤ s.size ∧ (zb s (s.size - 25) = 43 ∨ zb s (s.size - 25) = 45) ∧ zb s (s.size - 22) = 58 := by
  unfold c6
  simp only [Bool.and_eq_true, Bool.or_eq_true, decide_eq_true_eq, beq_iff_eq, zb]
  constructor
  · rintro ⟨⟨h1, h2⟩, h3⟩
    rw [show 19 + (s.size - 25) = s.size - 6 by omega, show 19 + (s.size - 22) = s.size - 3 by omega]
    exact ⟨h1, h2, h3⟩
  · rintro ⟨h1, h2, h3⟩
    rw [show 19 + (s.size - 25) = s.size - 6 by omega] at h2
    rw [show 19 + (s.size - 22) = s.size - 3 by omega] at h3
    exact ⟨⟨h1, h2⟩, h3⟩
theorem cZ_iff (h : 20 ≤ s.size) : cZ s = true ↔ (zb s (s.size - 20) = 90 ∨ zb s (s.size - 20) = 122) := by
  unfold cZ
  simp only [Bool.or_eq_true, beq_iff_eq, zb]
  rw [show 19 + (s.size - 20) = s.size - 1 by omega]

theorem td_zed {zs d : Nat} (h19 : 19 ≤ s.size) (hh : headB s = true) (h : Zn (zb s) (s.size - 19) zs d) (h1 : s.size - 19 - zs = 1) (hz : zb s zs = 90 ∨ zb s zs = 122) : mdl s = ((d : Int), true) := by
  have hle := h.le
  have ez : s.size - 20 = zs := by omega
  have h20 : 20 ≤ s.size := by omega
  unfold mdl
  rw [if_pos ⟨h20, hh⟩, if_neg, if_pos, ez, h.ok.2]
  · rw [cZ_iff h20, ez]
    exact ⟨hz, h.ok.1⟩
  · rintro ⟨g1, g2⟩
    obtain ⟨g3, g4, g5⟩ := c6_iff.1 g1
    have := h.key g2 (by omega) (sign_dig g4).1 (sign_dig g4).2
    omega
theorem td_off {zs d : Nat} (h19 : 19 ≤ s.size) (hh : headB s = true) (h : Zn (zb s) (s.size - 19) zs d) (h1 : s.size - 19 - zs = 6) (hz : zb s zs = 43 ∨ zb s zs = 45) (hc : zb s (zs + 3) = 58) : mdl s = ((d : Int), offs s) := by
  have hle := h.le
  have ez : s.size - 25 = zs := by omega
  have h20 : 20 ≤ s.size := by omega
  unfold mdl
  rw [if_pos ⟨h20, hh⟩, if_pos, ez, h.ok.2]
  rw [c6_iff, ez, show s.size - 22 = zs + 3 by omega]
  exact ⟨⟨by omega, hz, hc⟩, h.ok.1⟩
theorem td_no {zs d : Nat} (h19 : 19 ≤ s.size) (hh : headB s = true) (h : Zn (zb s) (s.size - 19) zs d) (n1 : ¬ (s.size - 19 - zs = 1 ∧ (zb s zs = 90 ∨ zb s zs = 122))) (n2 : ¬ (s.size - 19 - zs = 6 ∧ (zb s zs = 43 ∨ zb s zs = 45) ∧ zb s (zs + 3) = 58)) : mdl s = (0, false) := by
  have hle := h.le
  unfold mdl
  by_cases h20 : 20 ≤ s.size
  · rw [if_pos ⟨h20, hh⟩, if_neg, if_neg]
    · rintro ⟨g1, g2⟩
      have g3 := (cZ_iff h20).1 g1
      have e := h.key g2 (by omega) (zed_dig g3).1 (zed_dig g3).2
      refine n1 ⟨by omega, ?_⟩
      rw [e]; exact g3
    · rintro ⟨g1, g2⟩
      obtain ⟨g3, g4, g5⟩ := c6_iff.1 g1
      have e := h.key g2 (by omega) (sign_dig g4).1 (sign_dig g4).2
      refine n2 ⟨by omega, ?_, ?_⟩
      · rw [e]; exact g4
      · rw [e, show s.size - 25 + 3 = s.size - 22 by omega]; exact g5
  · rw [if_neg (fun hh => h20 hh.1)]
theorem td_early {d : Nat} (h : Run (zb s) (s.size - 19) d) (hn : ¬ (1 ≤ d ∧ d ≤ 9)) : mdl s = (0, false) := by
  unfold mdl
  split
  · rename_i hh
    rw [if_neg, if_neg]
    · rintro ⟨g1, g2⟩
      have g3 := (cZ_iff hh.1).1 g1
      exact hn (h.key g2 (by have := h.le; omega) (zed_dig g3).1 (zed_dig g3).2).2
    · rintro ⟨g1, g2⟩
      obtain ⟨g3, g4, g5⟩ := c6_iff.1 g1
      exact hn (h.key g2 (by omega) (sign_dig g4).1 (sign_dig g4).2).2
  · rfl
theorem td_nohead (h : headB s = false) : mdl s = (0, false) := by
  unfold mdl
  rw [if_neg (fun hh => by rw [h] at hh; cases hh.2)]
theorem td_short (h : s.size < 19) : mdl s = (0, false) := by
  unfold mdl
  rw [if_neg (fun hh => by omega)]
end

/-- Two bytes: all digits and at most 'hl' is timeAtMost. -/
theorem two_le (a b h l : Int) (hh : 48 ≤ h) (hl : h ≤ 57) (l0 : 48 ≤ l) (l9 : l ≤ 57) : (dig a && dig b && (decide (a < h) || (a == h && (decide (b < l) || b == l)))) = atM a b ((h - 48) * 10 + (l - 48)) := by
  unfold atM
  cases ha : dig a
  · rfl
  cases hb : dig b
  · rfl
  simp only [dig, Bool.and_eq_true, decide_eq_true_eq] at ha hb
  simp only [Bool.true_and]
  rw [Bool.eq_iff_iff]
  simp only [Bool.or_eq_true, Bool.and_eq_true, decide_eq_true_eq, beq_iff_eq]
  omega

theorem toList_two {x : ByteArray} (h : x.size = 2) : ∃ a b : UInt8, x.toList = [a, b] ∧ bt x 0 = (a.toNat : Int) ∧ bt x 1 = (b.toNat : Int) := by
  have h0 : 0 < x.size := by omega
  have h1 : 1 < x.size := by omega
  refine ⟨x[0], x[1], ?_, by simp [bt, h0], by simp [bt, h1]⟩
  rw [ByteArray.toList_eq]
  have hd : x.data.toList.length = 2 := by simpa using h
  match hx : x.data.toList, hd with
  | [a, b], _ =>
    have e0 : x.data.toList[0]? = some a := by rw [hx]; rfl
    have e1 : x.data.toList[1]? = some b := by rw [hx]; rfl
    have d0 : x.data[0]? = some a := by simpa using e0
    have d1 : x.data[1]? = some b := by simpa using e1
    have q0 : x[0] = a := by
      have : x.data[0]? = some (x[0]) := by
        rw [Array.getElem?_eq_getElem h0]; rfl
      rw [d0] at this
      exact (Option.some.inj this).symm
    have q1 : x[1] = b := by
      have : x.data[1]? = some (x[1]) := by
        rw [Array.getElem?_eq_getElem h1]; rfl
      rw [d1] at this
      exact (Option.some.inj this).symm
    rw [q0, q1]
theorem toList_len (x : ByteArray) : x.toList.length = x.size := by rw [ByteArray.toList_eq]; simp
theorem toList_one {x : ByteArray} (c : UInt8) : (x.toList == [c]) = (decide (x.size = 1) && (bt x 0 == (c.toNat : Int))) := by
  by_cases h : x.size = 1
  · have h0 : 0 < x.size := by omega
    have hl := toList_len x
    rw [h] at hl
    match hx : x.toList, hl with
    | [a], _ =>
      have e : bt x 0 = (a.toNat : Int) := by
        have e0 : x.data.toList[0]? = some a := by rw [← ByteArray.toList_eq, hx]; rfl
        have d0 : x.data[0]? = some a := by simpa using e0
        have : x.data[0]? = some (x[0]) := by
          rw [Array.getElem?_eq_getElem h0]; rfl
        rw [d0] at this
        have q0 : x[0] = a := (Option.some.inj this).symm
        simp [bt, h0, q0]
      rw [e, h]
      by_cases g : a = c
      · subst g; simp
      · have g2 : ¬ ((a.toNat : Int) = (c.toNat : Int)) := fun hh => g (UInt8.toNat_inj.1 (by omega))
        have k1 : ((a.toNat : Int) == (c.toNat : Int)) = false := by simpa using g2
        rw [k1]
        simpa using g
  · have : decide (x.size = 1) = false := by simpa using h
    rw [this, Bool.false_and]
    have hl := toList_len x
    cases e : (x.toList == [c])
    · rfl
    · have := congrArg List.length (eq_of_beq e)
      rw [hl] at this
      exact absurd this h

/-- x <= "hl" for two bytes. -/
theorem leq_two (x : ByteArray) (hx : x.size = 2) (h l : UInt8) (t : TypeId) : binOp .leq t (.string x) (.string ⟨#[h, l]⟩) = pure (.bool (decide (bt x 0 < (h.toNat : Int)) || ((bt x 0 == (h.toNat : Int)) && (decide (bt x 1 < (l.toNat : Int)) || (bt x 1 == (l.toNat : Int)))))) := by
  obtain ⟨a, b, hl, e0, e1⟩ := toList_two hx
  have hL : (ByteArray.mk #[h, l]).toList = [h, l] := ByteArray.toList_mk [h, l]
  simp only [binOp, Op.stringOp, hl, hL]
  rw [e0, e1]
  congr 2
  have n1 : (a == h) = ((a.toNat : Int) == (h.toNat : Int)) := by
    rw [Bool.eq_iff_iff]; simp only [beq_iff_eq]
    exact ⟨fun e => by rw [e], fun e => UInt8.toNat_inj.1 (by omega)⟩
  have n2 : (b == l) = ((b.toNat : Int) == (l.toNat : Int)) := by
    rw [Bool.eq_iff_iff]; simp only [beq_iff_eq]
    exact ⟨fun e => by rw [e], fun e => UInt8.toNat_inj.1 (by omega)⟩
  have m1 : decide (a < h) = decide ((a.toNat : Int) < (h.toNat : Int)) := by
    rw [decide_eq_decide, UInt8.lt_iff_toNat_lt]; omega
  have m2 : decide (b < l) = decide ((b.toNat : Int) < (l.toNat : Int)) := by
    rw [decide_eq_decide, UInt8.lt_iff_toNat_lt]; omega
  have q : ([a, b] == [h, l]) = ((a == h) && (b == l)) := by
    show (a == h && (b == l && true)) = _
    rw [Bool.and_true]
  have r : Op.bytesLess [a, b] [h, l] = (decide (a < h) || ((a == h) && (decide (b < l) || ((b == l) && false)))) := rfl
  rw [q, r, n1, n2, m1, m2, Bool.and_false, Bool.or_false]
  cases decide ((a.toNat : Int) < (h.toNat : Int)) <;> cases ((a.toNat : Int) == (h.toNat : Int)) <;> cases decide ((b.toNat : Int) < (l.toNat : Int)) <;> cases ((b.toNat : Int) == (l.toNat : Int)) <;> rfl

end Go.Proofs.Qxb6605258a
