import Derived.Test.Qxb6601010aY2
import Derived.Test.Qxb6601010aP2
import Derived.Test.Qxb6601010aZ1
namespace Go.Proofs.Qxb6601010a
open Go.RowKit
set_option linter.unusedSimpArgs false
set_option linter.unusedVariables false

/-- One pass of merges. -/
theorem pass29 (b n c bs : Nat) (E : Nat → Hd) (hL : Weak (LE E)) (ln : n ≤ 4096) (t0 : Nat → Nat) (a : Act) (w0 w : World) (Q : Exit → Act → World → Prop) (hfr : Fr 63 a) (hs : Slots [(0, .slice (some ⟨b, 0, none⟩) n c), (1, .int .i64 (n : Nat)), (2, .func (.func 27) #[] #[]), (6, .int .i64 (bs : Nat))] a) (k0 : Kept [b] w0 w) (hH : HB w b n E t0) (hbs : 0 < bs) (hlt : bs < n) (hC : Cov (LE E) bs t0 n 0)
    (hQ : ∀ a' w' t, Kept [b] w0 w' → HB w' b n E t → Cov (LE E) (bs + bs) t n 0 → Fr 63 a' → Slots [(0, .slice (some ⟨b, 0, none⟩) n c), (1, .int .i64 (n : Nat)), (2, .func (.func 27) #[] #[]), (6, .int .i64 (bs + bs : Nat))] a' → Q .normal a' w') :
    Code.wp Try.prog (tlC (inC (inC (dropC 4 (bodyC Try.f29))))) Q a w := by
  refine wp_navB (id := 3) rfl ?_
  refine wp_nav rfl (b8 _ _ _ _ (bs + bs) _ _ _ hfr hs (by rw [IntKind.wrap_i64]; omega) fun a1 f1 s1 => ?_)
  have s1' : Slots [(0, .slice (some ⟨b, 0, none⟩) n c), (1, .int .i64 (n : Nat)), (2, .func (.func 27) #[] #[]), (6, .int .i64 (bs : Nat)), (7, .int .i64 (0 : Nat)), (8, .int .i64 (0 + (bs + bs) : Nat))] a1 := by rw [Nat.zero_add]; exact s1
  refine wp_nav rfl (wp_navB (id := 4) rfl ?_)
  refine wp_navL rfl (wp_loop (fun a' w' => ∃ (x : Nat) (t : Nat → Nat), x ≤ n ∧ Pre (LE E) (bs + bs) t x ∧ Cov (LE E) bs t n x ∧ Kept [b] w0 w' ∧ HB w' b n E t ∧ Fr 63 a' ∧ Slots [(0, .slice (some ⟨b, 0, none⟩) n c), (1, .int .i64 (n : Nat)), (2, .func (.func 27) #[] #[]), (6, .int .i64 (bs : Nat)), (7, .int .i64 (x : Nat)), (8, .int .i64 (x + (bs + bs) : Nat))] a') (fun a' _ => n - (intOf (sl a' 7)).toNat) ⟨0, t0, Nat.zero_le _, .zero, hC, k0, hH, f1, s1'⟩ ?_)
  rintro a2 w2 ⟨x, t, hx, hP, hCx, kp, hB, f2, s2⟩
  have mu : (intOf (sl a2 7)).toNat = x := by
    have : sl a2 7 = .int .i64 (x : Nat) := s2.2.2.2.2.1
    rw [this]; simp only [intOf]; omega
  refine wp_nav rfl (b9h _ _ _ _ _ _ _ _ _ f2 s2 (fun a3 hle f3 s3 => ?_) (fun a3 hle f3 s3 => ?_))
  · obtain ⟨B1, B2, hC2⟩ := hCx.two hbs hle
    have e1 : x + (bs + bs) = x + bs + bs := by omega
    refine wp_navB (id := 5) rfl ?_
    refine wp_nav rfl (b10 _ _ _ _ x (x + (bs + bs)) (x + bs) _ _ _ _ f3 s3 (by rw [IntKind.wrap_i64]; omega) (merge32 b n c E hL ln _ x (x + bs) (x + (bs + bs)) t w2 rfl hB (by omega) (by omega) hle B1.sorted (by rw [e1]; exact B2.sorted) (by rw [e1]; exact B1.sep B2)) fun a4 w4 hG f4 s4 => ?_)
    obtain ⟨k4, u, hB4, hM⟩ := hG
    refine wp_nav rfl (b11 _ _ _ _ _ _ _ _ _ f4 s4 fun a5 f5 s5 => ?_)
    refine b12 _ _ _ _ _ _ (bs + bs) (x + (bs + bs) + (bs + bs)) _ _ _ f5 s5 (by rw [IntKind.wrap_i64]; omega) (by rw [IntKind.wrap_i64]; omega) fun a6 f6 s6 => ?_
    have BB : Blk (LE E) u x (x + (bs + bs)) := Blk.of_mrg B1 (by rw [e1]; exact B2) (by omega) (by omega) hM
    refine ⟨⟨x + (bs + bs), u, hle, .snoc (hP.congr fun j hj => hM.same.out j (by omega)) BB, ?_, kp.trans k4, hB4, f6, s6⟩, ?_⟩
    · rw [e1]; exact hC2.congr fun j hj => hM.same.out j (by omega)
    have mu2 : (intOf (sl a6 7)).toNat = x + (bs + bs) := by
      have : sl a6 7 = .int .i64 (x + (bs + bs) : Nat) := s6.2.2.2.2.1
      rw [this]; simp only [intOf]; omega
    rw [mu, mu2]; omega
  · simp only [Exit.inBlock, Exit.then, if_true]
    have fin : ∀ (u : Nat → Nat) (a6 : Act) (w6 : World), Kept [b] w0 w6 → HB w6 b n E u → Cov (LE E) (bs + bs) u n 0 → Fr 63 a6 → Slots [(0, .slice (some ⟨b, 0, none⟩) n c), (1, .int .i64 (n : Nat)), (2, .func (.func 27) #[] #[]), (6, .int .i64 (bs : Nat))] a6 → Code.wp Try.prog (dropC 3 (inC (tlC (inC (inC (dropC 4 (bodyC Try.f29))))))) (Exit.inBlock 3 Q) a6 w6 := by
      intro u a6 w6 k6 hB6 hC6 f6 s6
      refine b16 _ _ _ _ (bs + bs) _ _ _ f6 s6 (by rw [IntKind.wrap_i64]; omega) fun a7 f7 s7 => ?_
      simp only [Exit.inBlock]
      exact hQ a7 w6 u k6 hB6 hC6 f7 s7
    refine wp_nav rfl (wp_nav rfl (b13 _ _ _ _ _ _ (x + bs) _ _ _ f3 s3 (by rw [IntKind.wrap_i64]; omega) fun a4 f4 s4 => ?_))
    refine wp_nav rfl (b14 _ _ _ _ _ _ _ _ _ _ f4 s4 fun a5 f5 s5 => ?_)
    refine wp_navI (j := 54) rfl s5.2.2.2.2.2.2.2.1 (fun hc => ?_) (fun hc => ?_)
    · have hm : x + bs < n := by simpa using hc
      obtain ⟨B1, B2⟩ := hCx.rest hbs hm (by omega)
      refine b15 _ _ _ _ _ _ _ _ _ _ _ f5 ⟨s5.1, s5.2.1, s5.2.2.1, s5.2.2.2.1, s5.2.2.2.2.1, s5.2.2.2.2.2.1, s5.2.2.2.2.2.2.1, trivial⟩ (merge32 b n c E hL ln _ x (x + bs) n t w2 rfl hB (by omega) hm (Nat.le_refl _) B1.sorted B2.sorted (B1.sep B2)) fun a6 w6 hG f6 s6 => ?_
      obtain ⟨k6, u, hB6, hM⟩ := hG
      simp only [Exit.then]
      refine fin u a6 w6 (kp.trans k6) hB6 ?_ f6 s6
      exact (hP.congr fun j hj => hM.same.out j (by omega)).cov (.last (by omega) (by omega) (Blk.of_mrg B1 B2 (by omega) (by omega) hM)) hx
    · have hm : ¬ x + bs < n := by simpa using hc
      refine wp_skip' rfl ?_
      simp only [Exit.then]
      refine fin t a5 w2 kp hB ?_ f5 ⟨s5.1, s5.2.1, s5.2.2.1, s5.2.2.2.1, trivial⟩
      refine hP.cov ?_ hx
      rcases hCx.end' hbs (by omega) with e | ⟨e1, e2⟩
      · exact .nil e
      · exact .last e1 (by omega) e2

/-- stableCmpFunc -/
theorem stable29 (b n c : Nat) (E : Nat → Hd) (hL : Weak (LE E)) (ln : n ≤ 4096) (w : World) (hH : HB w b n E (fun j => j)) :
    Calls Try.prog 29 #[.slice (some ⟨b, 0, none⟩) n c, .int .i64 (n : Nat), .func (.func 27) #[] #[]] w fun e w' => e = .returned (.tuple #[]) ∧ Kept [b] w w' ∧ ∃ t, HB w' b n E t ∧ (0 < n → Blk (LE E) t 0 n) := by
  refine calls_nav 63 Try.func29 rfl rfl (by simp) fun a fr0 ha => ?_
  have s0 : Slots [(0, .slice (some ⟨b, 0, none⟩) n c), (1, .int .i64 (n : Nat)), (2, .func (.func 27) #[] #[])] a := ⟨ha 0 (by simp), ha 1 (by simp), ha 2 (by simp), trivial⟩
  refine wp_nav rfl (b0 _ _ _ _ _ _ fr0 s0 fun a1 f1 s1 => ?_)
  refine wp_nav rfl (b1 _ _ _ _ _ _ _ f1 s1 fun a2 f2 s2 => ?_)
  refine wp_nav rfl (wp_navB (id := 0) rfl ?_)
  refine wp_navL rfl (wp_loop (fun a' w' => ∃ (x : Nat) (t : Nat → Nat), x ≤ n ∧ Pre (LE E) 20 t x ∧ (∀ j, x ≤ j → t j = j) ∧ Kept [b] w w' ∧ HB w' b n E t ∧ Fr 63 a' ∧ Slots [(0, .slice (some ⟨b, 0, none⟩) n c), (1, .int .i64 (n : Nat)), (2, .func (.func 27) #[] #[]), (6, .int .i64 (20 : Nat)), (7, .int .i64 (x : Nat)), (8, .int .i64 (x + 20 : Nat))] a') (fun a' _ => n - (intOf (sl a' 7)).toNat) ⟨0, fun j => j, Nat.zero_le _, .zero, fun _ _ => rfl, Kept.refl _ _, hH, f2, s2⟩ ?_)
  rintro a3 w3 ⟨x, t, hx, hP, hid, kp, hB, f3, s3⟩
  have mu : (intOf (sl a3 7)).toNat = x := by
    have : sl a3 7 = .int .i64 (x : Nat) := s3.2.2.2.2.1
    rw [this]; simp only [intOf]; omega
  refine wp_nav rfl (b2h _ _ _ _ _ _ _ _ _ f3 s3 (fun a4 hle f4 s4 => ?_) (fun a4 hle f4 s4 => ?_))
  · refine wp_navB (id := 1) rfl ?_
    refine wp_nav rfl (b3 _ _ _ _ _ _ _ _ _ _ f4 s4 (insert31 b n c x (x + 20) E hL t w3 hB ln (by omega) hle (fun p q p1 pq q1 => by rw [hid p p1, hid q (by omega)]; exact pq)) fun a5 w5 hG f5 s5 => ?_)
    obtain ⟨k5, u, hB5, hM⟩ := hG
    refine wp_nav rfl (b4 _ _ _ _ _ _ _ _ _ f5 s5 fun a6 f6 s6 => ?_)
    refine b5 _ _ _ _ _ _ (x + 20 + 20) _ _ _ f6 s6 (by rw [IntKind.wrap_i64]; omega) fun a7 f7 s7 => ?_
    refine ⟨⟨x + 20, u, hle, .snoc (hP.congr fun j hj => hM.same.out j (by omega)) (Blk.of_ins (fun j q1 q2 => hid j q1) hM), fun j hj => by rw [hM.same.out j (by omega)]; exact hid j (by omega), kp.trans k5, hB5, f7, s7⟩, ?_⟩
    have mu2 : (intOf (sl a7 7)).toNat = x + 20 := by
      have : sl a7 7 = .int .i64 (x + 20 : Nat) := s7.2.2.2.2.1
      rw [this]; simp only [intOf]; omega
    rw [mu, mu2]; omega
  · simp only [Exit.inBlock, Exit.then, if_true]
    refine wp_nav rfl (b6 _ _ _ _ _ _ _ _ _ _ f4 s4 (insert31 b n c x n E hL t w3 hB ln hx (Nat.le_refl _) (fun p q p1 pq q1 => by rw [hid p p1, hid q (by omega)]; exact pq)) fun a5 w5 hG f5 s5 => ?_)
    obtain ⟨k5, u, hB5, hM⟩ := hG
    have hC : Cov (LE E) 20 u n 0 := by
      refine (hP.congr fun j hj => hM.same.out j (by omega)).cov ?_ hx
      by_cases e : x = n
      · exact .nil e
      · exact .last (by omega) (by omega) (Blk.of_ins (fun j q1 q2 => hid j q1) hM)
    have kp5 := kp.trans k5
    refine wp_navB (id := 2) rfl ?_
    refine wp_navL rfl (wp_loop (fun a' w' => ∃ (bs : Nat) (t : Nat → Nat), 0 < bs ∧ Cov (LE E) bs t n 0 ∧ Kept [b] w w' ∧ HB w' b n E t ∧ Fr 63 a' ∧ Slots [(0, .slice (some ⟨b, 0, none⟩) n c), (1, .int .i64 (n : Nat)), (2, .func (.func 27) #[] #[]), (6, .int .i64 (bs : Nat))] a') (fun a' _ => n - (intOf (sl a' 6)).toNat) ⟨20, u, by omega, hC, kp5, hB5, f5, s5⟩ ?_)
    rintro a6 w6 ⟨bs, v, hbs, hCv, kp6, hB6, f6, s6⟩
    have mu6 : (intOf (sl a6 6)).toNat = bs := by
      have : sl a6 6 = .int .i64 (bs : Nat) := s6.2.2.2.1
      rw [this]; simp only [intOf]; omega
    refine wp_nav rfl (b7h _ _ _ _ _ _ _ f6 s6 (fun a7 hlt f7 s7 => ?_) (fun a7 hke f7 s7 => ?_))
    · refine pass29 b n c bs E hL ln v a7 w w6 _ f7 s7 kp6 hB6 hbs hlt hCv fun a8 w8 v8 k8 hB8 hC8 f8 s8 => ?_
      refine ⟨⟨bs + bs, v8, by omega, hC8, k8, hB8, f8, s8⟩, ?_⟩
      have mu8 : (intOf (sl a8 6)).toNat = bs + bs := by
        have : sl a8 6 = .int .i64 (bs + bs : Nat) := s8.2.2.2.1
        rw [this]; simp only [intOf]; omega
      rw [mu6, mu8]; omega
    · simp only [Exit.inBlock, Exit.then, if_true]
      refine bodyPost_end (results_none rfl _ _ _) f7.defers ⟨rfl, kp6, v, hB6, fun h0 => ?_⟩
      rcases hCv.end' hbs (by omega) with e | ⟨-, e⟩
      · omega
      · exact e

theorem sort26 (b n c : Nat) (E : Nat → Hd) (hL : Weak (LE E)) (ln : n ≤ 4096) (w : World) (hH : HB w b n E (fun j => j)) :
    Calls Try.prog 26 #[.slice (some ⟨b, 0, none⟩) n c, .func (.func 27) #[] #[]] w fun e w' => e = .returned (.tuple #[]) ∧ Kept [b] w w' ∧ ∃ t, HB w' b n E t ∧ (0 < n → Blk (LE E) t 0 n) := by
  have HC : Hid _ := stable29 b n c E hL ln w hH
  clear hH ln
  go_enter Try.func26, Try.ntmps26
  go_wp2_with (go_at_call 29; refine Calls.mono HC.out ?_; rintro e w' ⟨rfl, hp⟩)
  go_end0
  exact ⟨rfl, hp⟩

end Go.Proofs.Qxb6601010a
