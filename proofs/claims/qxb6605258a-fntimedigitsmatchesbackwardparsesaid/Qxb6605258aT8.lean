import Derived.Test.Qxb6605258aT6
import Derived.Test.Qxb6605258aT7
namespace Go.Proofs.Qxb6605258a
open Go.RowKit
set_option linter.unusedSimpArgs false
set_option linter.unusedVariables false

theorem form0 : bt form 0 = 48 := by decide
theorem form1 : bt form 1 = 48 := by decide
theorem form2 : bt form 2 = 48 := by decide
theorem form3 : bt form 3 = 48 := by decide
theorem form4 : bt form 4 = 45 := by decide
theorem form5 : bt form 5 = 48 := by decide
theorem form6 : bt form 6 = 48 := by decide
theorem form7 : bt form 7 = 45 := by decide
theorem form8 : bt form 8 = 48 := by decide
theorem form9 : bt form 9 = 48 := by decide
theorem form10 : bt form 10 = 84 := by decide
theorem form11 : bt form 11 = 48 := by decide
theorem form12 : bt form 12 = 48 := by decide
theorem form13 : bt form 13 = 58 := by decide
theorem form14 : bt form 14 = 48 := by decide
theorem form15 : bt form 15 = 48 := by decide
theorem form16 : bt form 16 = 58 := by decide
theorem form17 : bt form 17 = 48 := by decide
theorem form18 : bt form 18 = 48 := by decide
theorem head_ok (s : ByteArray) : headB s = true ↔ ∀ k, k < 19 → okAt s k = true := by
  have o0 : okAt s 0 = dig (bt s 0) := by rw [okAt, form0]; rfl
  have o1 : okAt s 1 = dig (bt s 1) := by rw [okAt, form1]; rfl
  have o2 : okAt s 2 = dig (bt s 2) := by rw [okAt, form2]; rfl
  have o3 : okAt s 3 = dig (bt s 3) := by rw [okAt, form3]; rfl
  have o4 : okAt s 4 = (bt s 4 == 45) := by rw [okAt, form4]; rfl
  have o5 : okAt s 5 = dig (bt s 5) := by rw [okAt, form5]; rfl
  have o6 : okAt s 6 = dig (bt s 6) := by rw [okAt, form6]; rfl
  have o7 : okAt s 7 = (bt s 7 == 45) := by rw [okAt, form7]; rfl
  have o8 : okAt s 8 = dig (bt s 8) := by rw [okAt, form8]; rfl
  have o9 : okAt s 9 = dig (bt s 9) := by rw [okAt, form9]; rfl
  have o10 : okAt s 10 = ((bt s 10 == 84) || (bt s 10 == 116)) := by rw [okAt, form10]; rfl
  have o11 : okAt s 11 = dig (bt s 11) := by rw [okAt, form11]; rfl
  have o12 : okAt s 12 = dig (bt s 12) := by rw [okAt, form12]; rfl
  have o13 : okAt s 13 = (bt s 13 == 58) := by rw [okAt, form13]; rfl
  have o14 : okAt s 14 = dig (bt s 14) := by rw [okAt, form14]; rfl
  have o15 : okAt s 15 = dig (bt s 15) := by rw [okAt, form15]; rfl
  have o16 : okAt s 16 = (bt s 16 == 58) := by rw [okAt, form16]; rfl
  have o17 : okAt s 17 = dig (bt s 17) := by rw [okAt, form17]; rfl
  have o18 : okAt s 18 = dig (bt s 18) := by rw [okAt, form18]; rfl
  have e : headB s = (okAt s 0 && okAt s 1 && okAt s 2 && okAt s 3 && okAt s 4 && okAt s 5 && okAt s 6 && okAt s 7 && okAt s 8 && okAt s 9 && okAt s 10 && okAt s 11 && okAt s 12 && okAt s 13 && okAt s 14 && okAt s 15 && okAt s 16 && okAt s 17 && okAt s 18) := by
    rw [o0, o1, o2, o3, o4, o5, o6, o7, o8, o9, o10, o11, o12, o13, o14, o15, o16, o17, o18]
    show ((true && dig (bt s 0) && dig (bt s 1) && dig (bt s 2) && dig (bt s 3)) && (bt s 4 == 45) && (true && dig (bt s 5) && dig (bt s 6)) && (bt s 7 == 45) && (true && dig (bt s 8) && dig (bt s 9)) && ((bt s 10 == 84) || (bt s 10 == 116)) && (true && dig (bt s 11) && dig (bt s 12)) && (bt s 13 == 58) && (true && dig (bt s 14) && dig (bt s 15)) && (bt s 16 == 58) && (true && dig (bt s 17) && dig (bt s 18))) = _
    simp only [Bool.true_and, Bool.and_assoc]
  rw [e]
  simp only [Bool.and_eq_true]
  constructor
  · intro h k hk
    match k, hk with
    | 0, _ => exact h.1.1.1.1.1.1.1.1.1.1.1.1.1.1.1.1.1.1
    | 1, _ => exact h.1.1.1.1.1.1.1.1.1.1.1.1.1.1.1.1.1.2
    | 2, _ => exact h.1.1.1.1.1.1.1.1.1.1.1.1.1.1.1.1.2
    | 3, _ => exact h.1.1.1.1.1.1.1.1.1.1.1.1.1.1.1.2
    | 4, _ => exact h.1.1.1.1.1.1.1.1.1.1.1.1.1.1.2
    | 5, _ => exact h.1.1.1.1.1.1.1.1.1.1.1.1.1.2
    | 6, _ => exact h.1.1.1.1.1.1.1.1.1.1.1.1.2
    | 7, _ => exact h.1.1.1.1.1.1.1.1.1.1.1.2
    | 8, _ => exact h.1.1.1.1.1.1.1.1.1.1.2
    | 9, _ => exact h.1.1.1.1.1.1.1.1.1.2
    | 10, _ => exact h.1.1.1.1.1.1.1.1.2
    | 11, _ => exact h.1.1.1.1.1.1.1.2
    | 12, _ => exact h.1.1.1.1.1.1.2
    | 13, _ => exact h.1.1.1.1.1.2
    | 14, _ => exact h.1.1.1.1.2
    | 15, _ => exact h.1.1.1.2
    | 16, _ => exact h.1.1.2
    | 17, _ => exact h.1.2
    | 18, _ => exact h.2
    | n + 19, h19 => exact absurd h19 (by omega)
  · intro h
    exact ⟨⟨⟨⟨⟨⟨⟨⟨⟨⟨⟨⟨⟨⟨⟨⟨⟨⟨h 0 (by omega), h 1 (by omega)⟩, h 2 (by omega)⟩, h 3 (by omega)⟩, h 4 (by omega)⟩, h 5 (by omega)⟩, h 6 (by omega)⟩, h 7 (by omega)⟩, h 8 (by omega)⟩, h 9 (by omega)⟩, h 10 (by omega)⟩, h 11 (by omega)⟩, h 12 (by omega)⟩, h 13 (by omega)⟩, h 14 (by omega)⟩, h 15 (by omega)⟩, h 16 (by omega)⟩, h 17 (by omega)⟩, h 18 (by omega)⟩

theorem isDigits_at (s : ByteArray) (k : Nat) (w : World) (hs : s.size ≤ 1048576) (hk : k < s.size) : Calls Try.prog 27 #[.string (s.extract k (k + 1))] w fun e w' => e = .returned (.bool (dig (bt s k))) ∧ w' = w := by
  have h := isDigits27 (s.extract k (k + 1)) w (by rw [ext_size s k (k + 1) (by omega)]; omega)
  rw [ext_size s k (k + 1) (by omega), show k + 1 - k = 1 by omega] at h
  rw [show allD (bt (s.extract k (k + 1))) 0 1 = dig (bt s k) by
    show (true && dig (bt (s.extract k (k + 1)) (0 + 0))) = _
    rw [bt_ext s k (k + 1) 0 (by omega) (by omega), Bool.true_and]; rfl] at h
  exact h

/-- The zone string y stands for the bytes behind the head from zs on. -/
structure Zone (s y : ByteArray) (zs : Nat) : Prop where
  size : y.size = s.size - 19 - zs
  at_ : ∀ i, i < s.size - 19 - zs → bt y i = zb s (zs + i)

def Post19 (s : ByteArray) (w : World) (e : Ending) (w' : World) : Prop := Post s w e w'

theorem fin19 {s : ByteArray} {w : World} {a' : Act} {N : Int} {ok : Bool} {m : Nat} (hm : mdl s = (N, ok)) (f' : Fr 122 a') (s2 : sl a' 2 = .int .i64 N) (s3 : sl a' 3 = .bool ok) : bodyPost Try.prog Try.f19 (Post s w) .ret a' (w.drewN m) := by
  refine bodyPost_ret (results_tmp2 rfl _ _ _) f'.defers ⟨?_, m, rfl⟩
  rw [show a'.tmps.getD 2 undef = _ from s2, show a'.tmps.getD 3 undef = _ from s3, hm]

set_option maxHeartbeats 1000000 in
/-- Behind the fraction. -/
theorem td_tail (s z : ByteArray) (zs d : Nat) (a : Act) (w : World) (hfr : Fr 122 a) (hs : Slots [(6, .string z), (7, .int .i64 (d : Nat))] a) (lz : s.size ≤ 1048576) (h19 : 19 ≤ s.size) (hh : headB s = true) (hz : Zn (zb s) (s.size - 19) zs d) (hZ : Zone s z zs) :
    Code.wp Try.prog (dropC 5 (bodyC Try.f19)) (bodyPost Try.prog Try.f19 (Post s w)) a w := by
  have zt := fun hx : 0 < z.size => hZ.at_ 0 (by rw [← hZ.size]; exact hx)
  have hzz : (z.toList == [90] || z.toList == [122]) = true ↔ (s.size - 19 - zs = 1 ∧ (zb s zs = 90 ∨ zb s zs = 122)) := by
    rw [toList_one, toList_one, ← hZ.size]
    simp only [Bool.or_eq_true, Bool.and_eq_true, decide_eq_true_eq, beq_iff_eq]
    constructor
    · rintro (⟨h1, h2⟩ | ⟨h1, h2⟩)
      · rw [zt (by omega)] at h2; exact ⟨h1, .inl h2⟩
      · rw [zt (by omega)] at h2; exact ⟨h1, .inr h2⟩
    · rintro ⟨h1, h2 | h2⟩
      · exact .inl ⟨h1, by rw [zt (by omega)]; exact h2⟩
      · exact .inr ⟨h1, by rw [zt (by omega)]; exact h2⟩
  refine wp_nav rfl (d5 z d _ _ _ _ _ hfr hs rfl rfl (fun a1 hb f1 s1 => ?_) (fun a1 hb f1 t2 t3 => ?_))
  · refine wp_nav rfl (d6 z d _ _ _ f1 s1 (fun a2 hc f2 s2 => ?_) (fun a2 hc f2 t2 t3 => ?_))
    · obtain ⟨c1, c2, c3⟩ := hc
      have sz := hZ.size
      rw [c1] at sz
      have z0 : bt z 0 = zb s zs := zt (by omega)
      have zi : ∀ i, i < 6 → bt z i = zb s (zs + i) := fun i hi => hZ.at_ i (by omega)
      rw [z0] at c2
      rw [zi 3 (by omega)] at c3
      have hm := td_off h19 hh hz sz.symm c2 c3
      refine wp_nav rfl (d7 z d _ _ _ f2 s2 (by omega) fun a3 m f3 s3 => ?_)
      have x1 : (z.extract 1 3).size = 2 := by rw [ext_size z 1 3 (by omega)]
      have y1 : (z.extract 4 z.size).size = 2 := by rw [ext_size z 4 z.size (Nat.le_refl _)]; omega
      have b1 : bt (z.extract 1 3) 0 = zb s (zs + 1) := by rw [bt_ext z 1 3 0 (by omega) (by omega)]; exact zi 1 (by omega)
      have b2 : bt (z.extract 1 3) 1 = zb s (zs + 2) := by rw [bt_ext z 1 3 1 (by omega) (by omega)]; exact zi 2 (by omega)
      have b3 : bt (z.extract 4 z.size) 0 = zb s (zs + 4) := by rw [bt_ext z 4 z.size 0 (Nat.le_refl _) (by omega)]; exact zi 4 (by omega)
      have b4 : bt (z.extract 4 z.size) 1 = zb s (zs + 5) := by rw [bt_ext z 4 z.size 1 (Nat.le_refl _) (by omega)]; exact zi 5 (by omega)
      have q1 := isDigits27 (z.extract 1 3) (w.drewN m) (by omega)
      have q2 := isDigits27 (z.extract 4 z.size) (w.drewN m) (by omega)
      rw [x1] at q1
      rw [y1] at q2
      have v1 : allD (bt (z.extract 1 3)) 0 2 = (dig (zb s (zs + 1)) && dig (zb s (zs + 2))) := by
        show (true && dig (bt (z.extract 1 3) 0) && dig (bt (z.extract 1 3) 1)) = _
        rw [b1, b2, Bool.true_and]
      have v2 : allD (bt (z.extract 4 z.size)) 0 2 = (dig (zb s (zs + 4)) && dig (zb s (zs + 5))) := by
        show (true && dig (bt (z.extract 4 z.size) 0) && dig (bt (z.extract 4 z.size) 1)) = _
        rw [b3, b4, Bool.true_and]
      rw [v1] at q1
      rw [v2] at q2
      have l1 : ∀ t, binOp .leq t (.string (z.extract 1 3)) (.string ⟨#[50, 51]⟩) = pure (.bool (decide (zb s (zs + 1) < 50) || ((zb s (zs + 1) == 50) && (decide (zb s (zs + 2) < 51) || (zb s (zs + 2) == 51))))) := fun t => by
        have := leq_two (z.extract 1 3) x1 50 51 t
        rw [b1, b2] at this
        exact this
      have l2 : ∀ t, binOp .leq t (.string (z.extract 4 z.size)) (.string ⟨#[53, 57]⟩) = pure (.bool (decide (zb s (zs + 4) < 53) || ((zb s (zs + 4) == 53) && (decide (zb s (zs + 5) < 57) || (zb s (zs + 5) == 57))))) := fun t => by
        have := leq_two (z.extract 4 z.size) y1 53 57 t
        rw [b3, b4] at this
        exact this
      refine d8 _ _ d _ _ _ _ _ _ _ f3 s3 q1 q2 l1 l2 fun a4 f4 t2 t3 => ?_
      refine fin19 hm f4 t2 ?_
      have u1 := two_le (zb s (zs + 1)) (zb s (zs + 2)) 50 51 (by omega) (by omega) (by omega) (by omega)
      have u2 := two_le (zb s (zs + 4)) (zb s (zs + 5)) 53 57 (by omega) (by omega) (by omega) (by omega)
      rw [show ((50 : Int) - 48) * 10 + (51 - 48) = 23 by decide] at u1
      rw [show ((53 : Int) - 48) * 10 + (57 - 48) = 59 by decide] at u2
      have hle := hz.le
      have ez : zs = s.size - 25 := by omega
      have k1 : bt s (s.size - 5) = zb s (zs + 1) := congrArg (bt s) (by omega)
      have k2 : bt s (s.size - 4) = zb s (zs + 2) := congrArg (bt s) (by omega)
      have k3 : bt s (s.size - 2) = zb s (zs + 4) := congrArg (bt s) (by omega)
      have k4 : bt s (s.size - 1) = zb s (zs + 5) := congrArg (bt s) (by omega)
      rw [t3, u1, u2]
      unfold offs
      rw [k1, k2, k3, k4]
    · have hm := td_no h19 hh hz (fun h => by rw [hzz.2 h] at hb; cases hb) (fun h => hc ?_)
      · exact fin19 (m := 0) hm f2 t2 t3
      · obtain ⟨c1, c2, c3⟩ := h
        have sz := hZ.size
        refine ⟨by omega, ?_, ?_⟩
        · rw [zt (by omega)]; exact c2
        · rw [hZ.at_ 3 (by omega)]; exact c3
  · have h := hzz.1 hb
    exact fin19 (m := 0) (td_zed h19 hh hz h.1 h.2) f1 t2 t3

/-- timeDigits -/
theorem digits19 (s : ByteArray) (w : World) (hs : s.size ≤ 1048576) : Calls Try.prog 19 #[.string s] w (Post s w) := by
  refine calls_nav 122 Try.func19 rfl rfl (by simp) fun a fr0 ha => ?_
  have s0 : Slots [(0, .string s)] a := ⟨ha 0 (by simp), trivial⟩
  refine wp_nav rfl (d0 _ _ _ _ fr0 s0 fun a1 f1 s1 => ?_)
  refine wp_nav rfl (d1 _ _ _ _ f1 s1 (fun a2 h19 f2 s2 => ?_) (fun a2 hn f2 t2 t3 => fin19 (m := 0) (td_short hn) f2 t2 t3))
  refine wp_nav rfl (wp_nav rfl (d2i _ _ _ _ f2 s2 fun a3 f3 s3 => ?_))
  refine wp_navB (id := 0) rfl ?_
  refine wp_navL rfl (wp_loop (fun a' w' => w' = w ∧ ∃ k : Nat, k ≤ 19 ∧ (∀ j, j < k → okAt s j = true) ∧ Fr 122 a' ∧ Slots [(0, .string s), (13, .int .i64 (k : Nat))] a') (fun a' _ => 19 - (intOf (sl a' 13)).toNat) ⟨rfl, 0, by omega, fun j hj => by omega, f3, s3⟩ ?_)
  rintro a4 w4 ⟨rfl, k, hk, hok, f4, s4⟩
  have mu : (intOf (sl a4 13)).toNat = k := by
    have : sl a4 13 = .int .i64 (k : Nat) := s4.2.1
    rw [this]; simp only [intOf]; omega
  by_cases hlt : k < 19
  · refine d2r s k _ _ _ f4 s4 hlt h19 (isDigits_at s k _ hs (by omega)) (fun a5 ho f5 s5 => ?_) (fun a5 ho f5 t2 t3 => ?_)
    · refine ⟨⟨rfl, k + 1, by omega, fun j hj => ?_, f5, s5⟩, ?_⟩
      · by_cases e : j = k
        · rw [e]; exact ho
        · exact hok j (by omega)
      have mu2 : (intOf (sl a5 13)).toNat = k + 1 := by
        have : sl a5 13 = .int .i64 (k + 1 : Nat) := s5.2.1
        rw [this]; simp only [intOf]; omega
      rw [mu, mu2]; omega
    · have hn : headB s = false := by
        cases e : headB s
        · rfl
        · rw [(head_ok s).1 e k hlt] at ho; cases ho
      simp only [Exit.inBlock, Exit.then]
      exact fin19 (m := 0) (td_nohead hn) f5 t2 t3
  · obtain rfl : k = 19 := by omega
    have hh : headB s = true := (head_ok s).2 hok
    refine d2x s 19 _ _ _ f4 s4 rfl fun a5 f5 s5 => ?_
    simp only [Exit.inBlock, Exit.then, if_true]
    refine wp_nav rfl (d3 s _ _ _ f5 s5 (by omega) fun a6 f6 s6 => ?_)
    have zsz : (s.extract 19 s.size).size = s.size - 19 := ext_size s 19 s.size (Nat.le_refl _)
    have zat : ∀ i, i < s.size - 19 → bt (s.extract 19 s.size) i = zb s i := fun i hi => bt_ext s 19 s.size i (Nat.le_refl _) hi
    have ZZ : Zone s (s.extract 19 s.size) 0 := ⟨by rw [zsz]; omega, fun i hi => by rw [zat i (by omega), Nat.zero_add]⟩
    have ee : ∀ c, c ≤ s.size - 19 → (s.extract 19 s.size).extract c (s.size - 19) = s.extract (19 + c) s.size := fun c hc => by
      rw [ext_ext s 19 s.size c (s.size - 19) (by omega) (Nat.le_refl _) (Nat.le_refl _)]; exact congrArg (s.extract (19 + c)) (by omega)
    generalize s.extract 19 s.size = z at *
    refine wp_nav rfl (wp_nav rfl (d4h z 0 _ _ _ f6 s6 fun a7 f7 s7 => ?_))
    refine wp_navI (j := 51) rfl s7.2.2.1 (fun ht => ?_) (fun ht => ?_)
    · simp only [Bool.and_eq_true, decide_eq_true_eq, beq_iff_eq] at ht
      obtain ⟨hp, hdot⟩ := ht
      rw [zat 0 (by omega)] at hdot
      refine wp_nav rfl (wp_navB (id := 3) rfl ?_)
      refine wp_navL rfl (wp_loop (fun a' w' => w' = w4 ∧ ∃ d : Nat, d + 1 ≤ z.size ∧ allD (zb s) 1 d = true ∧ Fr 122 a' ∧ Slots [(6, .string z), (7, .int .i64 (d : Nat))] a') (fun a' _ => z.size - (intOf (sl a' 7)).toNat) ⟨rfl, 0, by omega, rfl, f7, ⟨s7.1, s7.2.1, trivial⟩⟩ ?_)
      rintro a8 w8 ⟨rfl, d, hd, had, f8, s8⟩
      have mu8 : (intOf (sl a8 7)).toNat = d := by
        have : sl a8 7 = .int .i64 (d : Nat) := s8.2.1
        rw [this]; simp only [intOf]; omega
      have out : ∀ a9, (d + 1 = s.size - 19 ∨ dig (zb s (d + 1)) = false) → Fr 122 a9 → Slots [(6, .string z), (7, .int .i64 (d : Nat))] a9 → Code.wp Try.prog (tlC (thC (tlC (nthC 4 (bodyC Try.f19))))) (Exit.then (fun a' w' => Code.wp Try.prog (dropC 5 (bodyC Try.f19)) (bodyPost Try.prog Try.f19 (Post s w8)) a' w') (bodyPost Try.prog Try.f19 (Post s w8))) a9 w8 := by
        intro a9 hstop f9 s9
        have hr : Run (zb s) (s.size - 19) d := ⟨hdot, by omega, had, hstop⟩
        refine wp_nav rfl (d21 z d _ _ _ f9 s9 (fun a10 h1 h9 f10 s10 => ?_) (fun a10 hn f10 t2 t3 => ?_))
        · refine d23 z d _ _ _ f10 s10 (by omega) (by omega) fun a11 f11 s11 => ?_
          simp only [Exit.then]
          refine td_tail s (z.extract (d + 1) z.size) (d + 1) d a11 _ f11 s11 hs h19 hh (.inr ⟨rfl, h1, h9, hr⟩) ⟨?_, fun i hi => ?_⟩
          · rw [ext_size z (d + 1) z.size (Nat.le_refl _)]; omega
          · rw [bt_ext z (d + 1) z.size i (Nat.le_refl _) (by omega)]; exact zat _ (by omega)
        · simp only [Exit.then]
          exact fin19 (m := 0) (td_early hr hn) f10 t2 t3
      by_cases hlt2 : d + 1 < z.size
      · refine wp_nav rfl (d19 z d _ _ _ _ f8 s8 hlt2 (by omega) (isDigits_at z (d + 1) _ (by omega) hlt2) (fun a9 hb f9 s9 => ?_) (fun a9 hb f9 s9 => ?_))
        · refine d20 z d _ _ _ f9 s9 (by omega) (fun a10 f10 s10 => ?_)
          refine ⟨⟨rfl, d + 1, by omega, ?_, f10, s10⟩, ?_⟩
          · rw [allD, had, Bool.true_and, show 1 + d = d + 1 by omega, ← zat (d + 1) (by omega)]; exact hb
          have mu9 : (intOf (sl a10 7)).toNat = d + 1 := by
            have : sl a10 7 = .int .i64 (d + 1 : Nat) := s10.2.1
            rw [this]; simp only [intOf]; omega
          rw [mu8, mu9]; omega
        · simp only [Exit.inBlock, Exit.then, if_true]
          rw [zat (d + 1) (by omega)] at hb
          exact out a9 (.inr hb) f9 s9
      · refine wp_nav rfl (d19x z d _ _ _ f8 s8 (by omega) (by omega) (fun a9 f9 s9 => ?_))
        simp only [Exit.inBlock, Exit.then, if_true]
        exact out a9 (.inl (by omega)) f9 s9
    · refine wp_skip' rfl ?_
      simp only [Exit.then]
      refine td_tail s z 0 0 a7 _ f7 ⟨s7.1, s7.2.1, trivial⟩ hs h19 hh (.inl ⟨rfl, rfl, ?_⟩) ZZ
      by_cases h0 : s.size - 19 = 0
      · exact .inl h0
      · refine .inr fun e => ?_
        rw [← zat 0 (by omega)] at e
        have hp : decide (0 < z.size) = true := by simp; omega
        rw [e, hp] at ht
        cases ht

end Go.Proofs.Qxb6605258a
