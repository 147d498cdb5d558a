import Derived.Test.Qxb6602526aF2
import Derived.Test.Qxb6602526aF5
import Derived.Test.Qxb6602526aC9
namespace Go.Proofs.Qxb6602526a
open Go.RowKit
set_option linter.unusedSimpArgs false
set_option linter.unusedVariables false

theorem l7_inner (kap st : Int) (m K I : Nat) (xp xc xr xi : Option Addr) (q1 q2 : Nat) (rb ib : Nat) (fr fi : Nat → Int) (k : Nat) (a : Act) (w : World) (Q : Exit → Act → World → Prop) (hfr : Fr 282 a) (hs : Slots [(0, .int .i64 kap), (1, .int .u32 st), (2, .int .i64 (m : Nat)), (3, .slice xp K K), (4, .slice xc K K), (5, .slice xr I I), (6, .slice xi I I), (15, .slice (some ⟨q1, 0, none⟩) I I), (16, .slice (some ⟨q2, 0, none⟩) I I), (17, .int .i64 (k : Nat)), (18, .int .i64 (0 : Nat))] a)
    (hI : I = m * K) (lI : (I : Int) ≤ 1048576) (lm : (m : Int) ≤ 65536) (hR : RowR .u8 xr rb 0 I fr w) (hX : RowR .u32 xi ib 0 I fi w) (hne : 0 < I → rb ∉ [q1, q2] ∧ ib ∉ [q1, q2]) (hq : q1 ≠ q2) (hk : k < K) (hB : IsB w q1 (part (fun j => .int .u8 (fr (rev m j))) (.int .u8 0) I (k * m)) 5 ∧ IsB w q2 (part (fun j => .int .u32 (fi (rev m j))) (.int .u32 0) I (k * m)) 22)
    (hexit : ∀ a' w', Kept [q1, q2] w w' → IsB w' q1 (part (fun j => .int .u8 (fr (rev m j))) (.int .u8 0) I ((k + 1) * m)) 5 ∧ IsB w' q2 (part (fun j => .int .u32 (fi (rev m j))) (.int .u32 0) I ((k + 1) * m)) 22 → Fr 282 a' → Slots [(0, .int .i64 kap), (1, .int .u32 st), (2, .int .i64 (m : Nat)), (3, .slice xp K K), (4, .slice xc K K), (5, .slice xr I I), (6, .slice xi I I), (15, .slice (some ⟨q1, 0, none⟩) I I), (16, .slice (some ⟨q2, 0, none⟩) I I), (17, .int .i64 (k : Nat))] a' → Q (.exit 2) a' w') :
    Code.wp Try.prog (inC (tlC (inC (hdC (tlC (inC (inC (tlC (nthC 11 (bodyC Try.f7)))))))))) Q a w := by
  refine wp_navL rfl (wp_loop (fun a' w' => ∃ i : Nat, i ≤ m ∧ Kept [q1, q2] w w' ∧ (IsB w' q1 (part (fun j => .int .u8 (fr (rev m j))) (.int .u8 0) I (k * m + i)) 5 ∧ IsB w' q2 (part (fun j => .int .u32 (fi (rev m j))) (.int .u32 0) I (k * m + i)) 22) ∧ Fr 282 a' ∧ Slots [(0, .int .i64 kap), (1, .int .u32 st), (2, .int .i64 (m : Nat)), (3, .slice xp K K), (4, .slice xc K K), (5, .slice xr I I), (6, .slice xi I I), (15, .slice (some ⟨q1, 0, none⟩) I I), (16, .slice (some ⟨q2, 0, none⟩) I I), (17, .int .i64 (k : Nat)), (18, .int .i64 (i : Nat))] a') (fun a' _ => m - (intOf (sl a' 18)).toNat) ⟨0, Nat.zero_le _, Kept.refl _ _, hB, hfr, hs⟩ ?_)
  rintro a1 w1 ⟨i, hi, kp, ⟨B1, B2⟩, fr1, s1⟩
  have mu : (intOf (sl a1 18)).toNat = i := by
    have : sl a1 18 = .int .i64 (i : Nat) := s1.2.2.2.2.2.2.2.2.2.2.1
    rw [this]; simp only [intOf]; omega
  refine wp_nav rfl (l7_18h _ _ _ _ _ _ _ _ _ _ _ _ i a1 w1 _ fr1 s1 hi lm (fun a2 hlt fr2 s2 => ?_) (fun a2 hke fr2 s2 => ?_))
  · obtain ⟨e1, e2, e3, e4, e5, hle⟩ := place hI hk hlt lI
    have hI0 : 0 < I := by omega
    have p1 := hR.ptr hI0
    have p2 := hX.ptr hI0
    subst p1 p2
    have c1 := (hR.keep kp (fun h => (hne h).1)).cell (k * m + (m - 1 - i)) (by omega)
    rw [Nat.zero_add] at c1
    have rv := rev_at (k := k) hlt
    refine wp_nav rfl (wp_navB (id := 3) rfl ?_)
    refine wp_nav rfl (l7_21 _ _ _ _ _ _ _ _ _ _ _ _ rb (k * m) (k * m + i) (k * m + (m - 1 - i)) (fr (k * m + (m - 1 - i))) _ (.int .u8 0) a2 w1 _ fr2 s2 e1 e2 e3 e4 e5 (by omega) (by omega) c1 B1 (part_at _ _ _ _ (by omega)) fun a3 fr3 s3 => ?_)
    have B1' := B1.set (k * m + i) (.int .u8 (fr (k * m + (m - 1 - i))))
    have B2' := B2.off (a := ⟨q1, k * m + i, none⟩) (.int .u8 (fr (k * m + (m - 1 - i)))) hq
    have kp2 : Kept [q1, q2] w (w1.setCell ⟨q1, k * m + i, none⟩ (.int .u8 (fr (k * m + (m - 1 - i))))) := kp.set _ (.inl (by simp))
    rw [← rv, part_succ (fun j => .int .u8 (fr (rev m j)))] at B1'
    rw [rv] at B1'
    generalize w1.setCell ⟨q1, k * m + i, none⟩ (.int .u8 (fr (k * m + (m - 1 - i)))) = w2 at *
    have c2 := (hX.keep kp2 (fun h => (hne h).2)).cell (k * m + (m - 1 - i)) (by omega)
    rw [Nat.zero_add] at c2
    refine l7_22 _ _ _ _ _ _ _ _ _ _ _ _ ib (k * m) (k * m + i) (k * m + (m - 1 - i)) (fi (k * m + (m - 1 - i))) _ (.int .u32 0) a3 w2 _ fr3 s3 e1 e2 e3 e4 e5 (by omega) (by omega) c2 B2' (part_at _ _ _ _ (by omega)) fun a4 fr4 s4 => ?_
    have B2'' := B2'.set (k * m + i) (.int .u32 (fi (k * m + (m - 1 - i))))
    have B1'' := B1'.off (a := ⟨q2, k * m + i, none⟩) (.int .u32 (fi (k * m + (m - 1 - i)))) (fun e => hq e.symm)
    have kp3 : Kept [q1, q2] w (w2.setCell ⟨q2, k * m + i, none⟩ (.int .u32 (fi (k * m + (m - 1 - i))))) := kp2.set _ (.inl (by simp))
    rw [← rv, part_succ (fun j => .int .u32 (fi (rev m j)))] at B2''
    rw [rv] at B2''
    refine l7_18n _ _ _ _ _ _ _ _ _ _ _ _ i a4 _ _ fr4 s4 (by omega) (fun a5 fr5 s5 => ?_)
    refine ⟨⟨i + 1, by omega, kp3, ⟨B1'', B2''⟩, fr5, s5⟩, ?_⟩
    have mu2 : (intOf (sl a5 18)).toNat = i + 1 := by
      have : sl a5 18 = .int .i64 (i + 1 : Nat) := s5.2.2.2.2.2.2.2.2.2.2.1
      rw [this]; simp only [intOf]; omega
    rw [mu, mu2]; omega
  · subst hke
    have e : (k + 1) * i = k * i + i := Nat.succ_mul k i
    exact hexit a2 w1 kp (by rw [e]; exact ⟨B1, B2⟩) fr2 s2

theorem l7_fill (kap st : Int) (m K I : Nat) (xp xc xr xi : Option Addr) (q1 q2 : Nat) (rb ib : Nat) (fr fi : Nat → Int) (a : Act) (w : World) (Q : Exit → Act → World → Prop) (hfr : Fr 282 a) (hs : Slots [(0, .int .i64 kap), (1, .int .u32 st), (2, .int .i64 (m : Nat)), (3, .slice xp K K), (4, .slice xc K K), (5, .slice xr I I), (6, .slice xi I I), (15, .slice (some ⟨q1, 0, none⟩) I I), (16, .slice (some ⟨q2, 0, none⟩) I I), (17, .int .i64 (0 : Nat))] a)
    (hI : I = m * K) (lI : (I : Int) ≤ 1048576) (lm : (m : Int) ≤ 65536) (hR : RowR .u8 xr rb 0 I fr w) (hX : RowR .u32 xi ib 0 I fi w) (hne : 0 < I → rb ∉ [q1, q2] ∧ ib ∉ [q1, q2]) (hq : q1 ≠ q2) (lK : (K : Int) ≤ 65536) (hB : IsB w q1 (part (fun j => .int .u8 (fr (rev m j))) (.int .u8 0) I 0) 5 ∧ IsB w q2 (part (fun j => .int .u32 (fi (rev m j))) (.int .u32 0) I 0) 22)
    (hexit : ∀ a' w', Kept [q1, q2] w w' → IsB w' q1 (part (fun j => .int .u8 (fr (rev m j))) (.int .u8 0) I I) 5 ∧ IsB w' q2 (part (fun j => .int .u32 (fi (rev m j))) (.int .u32 0) I I) 22 → Fr 282 a' → Slots [(0, .int .i64 kap), (1, .int .u32 st), (2, .int .i64 (m : Nat)), (3, .slice xp K K), (4, .slice xc K K), (5, .slice xr I I), (6, .slice xi I I), (15, .slice (some ⟨q1, 0, none⟩) I I), (16, .slice (some ⟨q2, 0, none⟩) I I)] a' → Q (.exit 0) a' w') :
    Code.wp Try.prog (inC (tlC (nthC 11 (bodyC Try.f7)))) Q a w := by
  refine wp_navL rfl (wp_loop (fun a' w' => ∃ k : Nat, k ≤ K ∧ Kept [q1, q2] w w' ∧ (IsB w' q1 (part (fun j => .int .u8 (fr (rev m j))) (.int .u8 0) I (k * m)) 5 ∧ IsB w' q2 (part (fun j => .int .u32 (fi (rev m j))) (.int .u32 0) I (k * m)) 22) ∧ Fr 282 a' ∧ Slots [(0, .int .i64 kap), (1, .int .u32 st), (2, .int .i64 (m : Nat)), (3, .slice xp K K), (4, .slice xc K K), (5, .slice xr I I), (6, .slice xi I I), (15, .slice (some ⟨q1, 0, none⟩) I I), (16, .slice (some ⟨q2, 0, none⟩) I I), (17, .int .i64 (k : Nat))] a') (fun a' _ => K - (intOf (sl a' 17)).toNat) ⟨0, Nat.zero_le _, Kept.refl _ _, by rw [Nat.zero_mul]; exact hB, hfr, hs⟩ ?_)
  rintro a1 w1 ⟨k, hk, kp, B1, fr1, s1⟩
  have mu : (intOf (sl a1 17)).toNat = k := by
    have : sl a1 17 = .int .i64 (k : Nat) := s1.2.2.2.2.2.2.2.2.2.1
    rw [this]; simp only [intOf]; omega
  refine wp_nav rfl (l7_11h _ _ _ _ _ _ _ _ _ _ _ k a1 w1 _ fr1 s1 hk lK (fun a2 hlt fr2 s2 => ?_) (fun a2 hke fr2 s2 => ?_))
  · refine wp_nav rfl (wp_navB (id := 1) rfl ?_)
    refine wp_nav rfl (l7_18 _ _ _ _ _ _ _ _ _ _ _ k a2 w1 _ fr2 s2 fun a3 fr3 s3 => ?_)
    refine wp_navB (id := 2) rfl ?_
    refine l7_inner _ _ _ _ _ _ _ _ _ _ _ rb ib fr fi k a3 w1 _ fr3 s3 hI lI lm (hR.keep kp (fun h => (hne h).1)) (hX.keep kp (fun h => (hne h).2)) hne hq hlt B1 (fun a4 w4 kp4 B4 fr4 s4 => ?_)
    simp only [Exit.inBlock, Exit.then, if_true]
    refine l7_11n _ _ _ _ _ _ _ _ _ _ _ k a4 w4 _ fr4 s4 (by omega) (fun a5 fr5 s5 => ?_)
    refine ⟨⟨k + 1, by omega, kp.trans kp4, B4, fr5, s5⟩, ?_⟩
    have mu2 : (intOf (sl a5 17)).toNat = k + 1 := by
      have : sl a5 17 = .int .i64 (k + 1 : Nat) := s5.2.2.2.2.2.2.2.2.2.1
      rw [this]; simp only [intOf]; omega
    rw [mu, mu2]; omega
  · subst hke
    rw [Nat.mul_comm k m, ← hI] at B1
    exact hexit a2 w1 kp B1 fr2 s2

/-- The rows held, compared. -/
theorem l7_cmp (u1 u2 : Option Addr) (n1 c1 c2 : Nat) (f : Nat → Int) (a : Act) (w : World) (Q : Exit → Act → World → Prop) (hfr : Fr 282 a) (hs : Slots [(32, .slice u1 n1 c1), (33, .slice u2 n1 c2), (34, .int .i64 (n1 : Nat)), (35, .int .i64 (0 : Nat))] a)
    (ln : (n1 : Int) ≤ 65536) (H1 : Held w (.slice u1 n1 c1) n1 f) (H2 : Held w (.slice u2 n1 c2) n1 (fun i => f (n1 - 1 - i)))
    (hexit : ∀ a' m, Fr 282 a' → Q (.exit 6) a' (w.drewN m)) :
    Code.wp Try.prog (inC (tlC (nthC 22 (bodyC Try.f7)))) Q a w := by
  refine wp_navL rfl (wp_loop (fun a' w' => (∃ m, w' = w.drewN m) ∧ ∃ i : Nat, i ≤ n1 ∧ Fr 282 a' ∧ Slots [(32, .slice u1 n1 c1), (33, .slice u2 n1 c2), (34, .int .i64 (n1 : Nat)), (35, .int .i64 (i : Nat))] a') (fun a' _ => n1 - (intOf (sl a' 35)).toNat) ⟨⟨0, rfl⟩, 0, Nat.zero_le _, hfr, hs⟩ ?_)
  rintro a1 w1 ⟨⟨q, rfl⟩, i, hi, fr1, s1⟩
  have mu : (intOf (sl a1 35)).toNat = i := by
    have : sl a1 35 = .int .i64 (i : Nat) := s1.2.2.2.1
    rw [this]; simp only [intOf]; omega
  refine wp_nav rfl (l7_22h _ _ _ _ _ i a1 _ _ fr1 s1 hi ln (fun a2 hlt fr2 s2 => ?_) (fun a2 hke fr2 s2 => hexit a2 q fr2))
  obtain ⟨g1, rfl, k1⟩ := H1.cell hlt
  obtain ⟨g2, rfl, k2⟩ := H2.cell (k := n1 - 1 - i) (by omega)
  rw [show n1 - 1 - (n1 - 1 - i) = i by omega] at k2
  refine wp_nav rfl (l7_22b g1 g2 n1 c1 c2 i (n1 - 1 - i) (f i) a2 _ _ fr2 s2 (by omega) ln (by rw [IntKind.wrap_i64]; omega) (by rw [IntKind.wrap_i64]; omega) (by omega) k1 k2 fun a3 q2 fr3 s3 => ?_)
  refine l7_22n _ _ _ _ _ i a3 _ _ fr3 s3 (by omega) (fun a4 fr4 s4 => ?_)
  refine ⟨⟨⟨q + q2, by simp [World.drewN, Nat.add_assoc]⟩, i + 1, by omega, fr4, s4⟩, ?_⟩
  have mu2 : (intOf (sl a4 35)).toNat = i + 1 := by
    have : sl a4 35 = .int .i64 (i + 1 : Nat) := s4.2.2.2.1
    rw [this]; simp only [intOf]; omega
  rw [mu, mu2]; omega

end Go.Proofs.Qxb6602526a
