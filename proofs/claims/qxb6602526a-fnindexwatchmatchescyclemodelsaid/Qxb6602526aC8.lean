import Derived.Test.Qxb6602526aC7
namespace Go.Proofs.Qxb6602526a
open Go.RowKit
set_option linter.unusedSimpArgs false
set_option linter.unusedVariables false

set_option maxRecDepth 10000 in
set_option maxHeartbeats 1000000 in
theorem l5_13 (b1 b2 : Nat) (g1 i1 y1 : Bool) (z1 : Int) (a : Act) (w : World) (Q : Exit → Act → World → Prop) (hfr : Fr 178 a) (hs : Slots [(15, .pointer (some ⟨b1, 0, none⟩)), (16, .pointer (some ⟨b2, 0, none⟩))] a)
    (hcall : Calls Try.prog 21 #[.pointer (some ⟨b1, 0, none⟩)] w fun e w' => e = .returned (.tuple #[.bool g1, .bool i1, .bool y1, .int .u64 z1]) ∧ ∃ n, w' = w.drewN n) (hQ : ∀ a' n, Fr 178 a' → Slots [(15, .pointer (some ⟨b1, 0, none⟩)), (16, .pointer (some ⟨b2, 0, none⟩)), (18, .bool g1), (19, .bool i1), (20, .bool y1)] a' → Q .normal a' (w.drewN n)) :
    Code.wp Try.prog (nthC 13 (bodyC Try.f5)) Q a w := by
  obtain ⟨u, hu, rfl⟩ := lay178 hfr
  obtain ⟨s15, s16, -⟩ := hs
  replace s15 : u 15 = .pointer (some ⟨b1, 0, none⟩) := (hu 15).symm.trans s15
  replace s16 : u 16 = .pointer (some ⟨b2, 0, none⟩) := (hu 16).symm.trans s16
  rw [s15, s16]
  clear hfr hu s15 s16
  conv => arg 2; whnf
  have HC : Hid _ := hcall
  clear hcall
  have H : Hid _ := hQ
  clear hQ
  go_wp2_with (go_at_call 21; refine Calls.mono HC.out ?_; rintro e w' ⟨rfl, nq, rfl⟩)
  exact H.out _ _ ⟨rfl, rfl⟩ ⟨rfl, rfl, rfl, rfl, rfl, trivial⟩

set_option maxRecDepth 10000 in
set_option maxHeartbeats 1000000 in
theorem l5_14 (b1 b2 : Nat) (g1 i1 y1 : Bool) (g2 i2 y2 : Bool) (z2 : Int) (a : Act) (w : World) (Q : Exit → Act → World → Prop) (hfr : Fr 178 a) (hs : Slots [(15, .pointer (some ⟨b1, 0, none⟩)), (16, .pointer (some ⟨b2, 0, none⟩)), (18, .bool g1), (19, .bool i1), (20, .bool y1)] a)
    (hcall : Calls Try.prog 21 #[.pointer (some ⟨b2, 0, none⟩)] w fun e w' => e = .returned (.tuple #[.bool g2, .bool i2, .bool y2, .int .u64 z2]) ∧ ∃ n, w' = w.drewN n) (hQ : ∀ a' n, Fr 178 a' → Slots [(18, .bool g1), (19, .bool i1), (20, .bool y1), (22, .bool g2), (23, .bool i2), (24, .bool y2)] a' → Q .normal a' (w.drewN n)) :
    Code.wp Try.prog (nthC 14 (bodyC Try.f5)) Q a w := by
  obtain ⟨u, hu, rfl⟩ := lay178 hfr
  obtain ⟨s15, s16, s18, s19, s20, -⟩ := hs
  replace s15 : u 15 = .pointer (some ⟨b1, 0, none⟩) := (hu 15).symm.trans s15
  replace s16 : u 16 = .pointer (some ⟨b2, 0, none⟩) := (hu 16).symm.trans s16
  replace s18 : u 18 = .bool g1 := (hu 18).symm.trans s18
  replace s19 : u 19 = .bool i1 := (hu 19).symm.trans s19
  replace s20 : u 20 = .bool y1 := (hu 20).symm.trans s20
  rw [s15, s16, s18, s19, s20]
  clear hfr hu s15 s16 s18 s19 s20
  conv => arg 2; whnf
  have HC : Hid _ := hcall
  clear hcall
  have H : Hid _ := hQ
  clear hQ
  go_wp2_with (go_at_call 21; refine Calls.mono HC.out ?_; rintro e w' ⟨rfl, nq, rfl⟩)
  exact H.out _ _ ⟨rfl, rfl⟩ ⟨rfl, rfl, rfl, rfl, rfl, rfl, trivial⟩

set_option maxRecDepth 10000 in
set_option maxHeartbeats 1000000 in
theorem l5_15 (g1 i1 y1 i2 y2 : Bool) (a : Act) (w : World) (Q : Exit → Act → World → Prop) (hfr : Fr 178 a) (hs : Slots [(18, .bool g1), (19, .bool i1), (20, .bool y1), (22, .bool g1), (23, .bool i2), (24, .bool y2)] a)
    (hi : i2 = true → i1 = true) (hy : y2 = true → y1 = true) (hQ : ∀ a', Fr 178 a' → sl a' 14 = .bool true → Q .ret a' w) :
    Code.wp Try.prog (dropC 15 (bodyC Try.f5)) Q a w := by
  obtain ⟨u, hu, rfl⟩ := lay178 hfr
  obtain ⟨s18, s19, s20, s22, s23, s24, -⟩ := hs
  replace s18 : u 18 = .bool g1 := (hu 18).symm.trans s18
  replace s19 : u 19 = .bool i1 := (hu 19).symm.trans s19
  replace s20 : u 20 = .bool y1 := (hu 20).symm.trans s20
  replace s22 : u 22 = .bool g1 := (hu 22).symm.trans s22
  replace s23 : u 23 = .bool i2 := (hu 23).symm.trans s23
  replace s24 : u 24 = .bool y2 := (hu 24).symm.trans s24
  rw [s18, s19, s20, s22, s23, s24]
  clear hfr hu s18 s19 s20 s22 s23 s24
  conv => arg 2; whnf
  have H : Hid _ := hQ
  clear hQ
  cases g1 <;> cases i1 <;> cases i2 <;> cases y1 <;> cases y2 <;> first | (exfalso; simp at hi; done) | (exfalso; simp at hy; done) | skip
  all_goals
    clear hi hy
    go_wp2
    exact H.out _ ⟨rfl, rfl⟩ rfl

/-- The watch behind k pulses. -/
def AW.run (fc : Int) (n : Nat) (p ck : Nat → Int) (ins res : Nat → Nat → Int) : Nat → AW
  | 0 => AW.new fc
  | k + 1 => (AW.run fc n p ck ins res k).obs n (p k) (ck k) (ins k) (res k)

/-- How two watches stand that differ in firstChecked alone. -/
structure Later (fa fb : Int) (A B : AW) : Prop where
  fca : A.fc = fa
  fcb : B.fc = fb
  cb : A.cb = B.cb
  un : A.un = B.un
  cs : A.cs = B.cs
  bit : A.bit = B.bit
  ag : A.ag = B.ag
  inv : B.inv = true → A.inv = true
  any : B.any = true → A.any = true

theorem Later.obs {fa fb : Int} {A B : AW} (h : Later fa fb A B) (hle : fa ≤ fb) (n : Nat) (p ck : Int) (ins res : Nat → Int) : Later fa fb (A.obs n p ck ins res) (B.obs n p ck ins res) := by
  obtain ⟨h1, h2, h3, h4, h5, h6, h7, h8, h9⟩ := h
  have hd : decide (fb ≤ B.cs) = true → decide (fa ≤ B.cs) = true := fun h => by simp at h ⊢; omega
  refine ⟨h1, h2, by simp [AW.obs, h3], by simp [AW.obs, h4], by simp [AW.obs, h5], by simp [AW.obs, h6], by simp [AW.obs], ?_, ?_⟩
  · simp only [AW.obs, h1, h2, h3, h4, h5, h6]
    intro hb
    cases e1 : B.inv
    · rw [e1] at hb
      cases e2 : decide (fb ≤ B.cs)
      · rw [e2] at hb; simp at hb
      · rw [hd e2]; rw [e2] at hb; simp at hb; simp [hb]
    · simp [h8 e1]
  · simp only [AW.obs, h1, h2, h3, h4, h5, h6]
    intro hb
    cases e1 : B.any
    · rw [e1] at hb
      cases e2 : decide (fb ≤ B.cs)
      · rw [e2] at hb; simp at hb; simp [hb]
      · rw [hd e2]; rw [e2] at hb; simp only [Bool.false_or] at hb; rw [hb]; simp
    · simp [h9 e1]

theorem later_run {fa fb : Int} (hle : fa ≤ fb) (n : Nat) (p ck : Nat → Int) (ins res : Nat → Nat → Int) : ∀ k, Later fa fb (AW.run fa n p ck ins res k) (AW.run fb n p ck ins res k)
  | 0 => ⟨rfl, rfl, rfl, rfl, rfl, rfl, rfl, fun h => h, fun h => h⟩
  | k + 1 => (later_run hle n p ck ins res k).obs hle n _ _ _ _

/-- The bounds of a pulse's row. -/
theorem bounds {k m K I : Nat} (hI : I = m * K) (hk : k < K) (hm : 0 < m) (lI : (I : Int) ≤ 1048576) :
    IntKind.i64.wrap ((k : Int) * (m : Int)) = ((k * m : Nat) : Int) ∧ IntKind.i64.wrap ((k : Int) + 1) = (k : Int) + 1 ∧ IntKind.i64.wrap (((k : Int) + 1) * (m : Int)) = (((k + 1) * m : Nat) : Int) ∧ ((k * m : Nat) : Int) ≤ ((k + 1) * m : Nat) ∧ (((k + 1) * m : Nat) : Int) ≤ I ∧ ¬ (I = k * m) ∧ (k + 1) * m - k * m = m ∧ (k + 1) * m ≤ I := by
  have e1 : (k + 1) * m = k * m + m := Nat.succ_mul k m
  have h1 : (k + 1) * m ≤ I := by rw [hI, Nat.mul_comm m K]; exact Nat.mul_le_mul_right m hk
  have h2 : k ≤ k * m := Nat.le_mul_of_pos_right k hm
  have c1 : (k : Int) * (m : Int) = ((k * m : Nat) : Int) := (Int.natCast_mul k m).symm
  have c2 : ((k : Int) + 1) * (m : Int) = (((k + 1) * m : Nat) : Int) := by rw [Int.natCast_mul]; rfl
  rw [c1, c2]
  generalize k * m = a at *
  generalize (k + 1) * m = b at *
  simp only [IntKind.wrap_i64]
  omega

end Go.Proofs.Qxb6602526a
