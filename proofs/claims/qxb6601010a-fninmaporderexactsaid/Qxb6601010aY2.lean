import Derived.Test.Qxb6601010aY1
import Derived.Test.Qxb6601010aV3
import Derived.Test.Qxb6601010aV4
import Derived.Test.Qxb6601010aV5
import Derived.Test.Qxb6601010aX2
import Derived.Test.Qxb6601010aX3
namespace Go.Proofs.Qxb6601010a
open Go.RowKit
set_option linter.unusedSimpArgs false
set_option linter.unusedVariables false

def MPost (b n : Nat) (E : Nat → Hd) (lo hi : Nat) (s : Nat → Nat) (w : World) (e : Ending) (w' : World) : Prop := e = .returned (.tuple #[]) ∧ Kept [b] w w' ∧ ∃ t, HB w' b n E t ∧ Mrg (LE E) lo hi s t

theorem mg_a (b n c lo m hi : Nat) (E : Nat → Hd) (hL : Weak (LE E)) (s : Nat → Nat) (a : Act) (w : World) (hfr : Fr 220 a) (hs : Slots [(0, .slice (some ⟨b, 0, none⟩) n c), (1, .int .i64 (lo : Nat)), (2, .int .i64 (m : Nat)), (3, .int .i64 (hi : Nat)), (4, .func (.func 27) #[] #[])] a) (hH : HB w b n E s) (ln : n ≤ 4096) (hm : m = lo + 1) (h2 : m < hi) (h3 : hi ≤ n) (so : Sorted (LE E) s m hi) (sp : Sep s lo m hi)
    (Q : Exit → Act → World → Prop) (hret : ∀ a' w', Fr 220 a' → (Kept [b] w w' ∧ ∃ t, HB w' b n E t ∧ Mrg (LE E) lo hi s t) → Q .ret a' w') :
    Code.wp Try.prog (thC (tlC (hdC (bodyC Try.f32)))) Q a w := by
  refine wp_nav rfl (m1 _ _ _ _ _ _ _ _ _ hfr hs fun a1 f1 s1 => ?_)
  refine wp_nav rfl (m2 _ _ _ _ _ _ _ _ _ _ f1 s1 fun a2 f2 s2 => ?_)
  refine wp_nav rfl (wp_navB (id := 0) rfl ?_)
  refine wp_navL rfl (wp_loop (fun a' w' => ∃ i j : Nat, lo + 1 ≤ i ∧ i ≤ j ∧ j ≤ hi ∧ (∀ h, lo + 1 ≤ h → h < i → LE E (s h) (s lo) = true) ∧ (∀ h, j ≤ h → h < hi → LE E (s h) (s lo) = false) ∧ Kept [b] w w' ∧ HB w' b n E s ∧ Fr 220 a' ∧ Slots [(0, .slice (some ⟨b, 0, none⟩) n c), (1, .int .i64 (lo : Nat)), (2, .int .i64 (m : Nat)), (3, .int .i64 (hi : Nat)), (4, .func (.func 27) #[] #[]), (10, .int .i64 (i : Nat)), (11, .int .i64 (j : Nat))] a') (fun a' _ => (intOf (sl a' 11)).toNat - (intOf (sl a' 10)).toNat) ⟨m, hi, by omega, by omega, Nat.le_refl _, fun h q1 q2 => by omega, fun h q1 q2 => by omega, Kept.refl _ _, hH, f2, s2⟩ ?_)
  rintro a3 w3 ⟨i, j, g1, g2, g3, c1, c2, kp, hB, f3, s3⟩
  have mu : (intOf (sl a3 10)).toNat = i := by
    have : sl a3 10 = .int .i64 (i : Nat) := s3.2.2.2.2.2.1
    rw [this]; simp only [intOf]; omega
  have mv : (intOf (sl a3 11)).toNat = j := by
    have : sl a3 11 = .int .i64 (j : Nat) := s3.2.2.2.2.2.2.1
    rw [this]; simp only [intOf]; omega
  have so' : Sorted (LE E) s (lo + 1) hi := by rw [← hm]; exact so
  refine wp_nav rfl (m3h _ _ _ _ _ _ i j _ _ _ f3 s3 (fun a4 hlt f4 s4 => ?_) (fun a4 hke f4 s4 => ?_))
  · refine wp_navB (id := 1) rfl ?_
    refine wp_nav rfl (m4 _ _ _ _ _ _ i j ((i + j) / 2) _ _ _ f4 s4 rfl (by omega) (by omega) fun a5 f5 s5 => ?_)
    generalize hh : (i + j) / 2 = h at *
    refine wp_nav rfl (r32a b n c lo m hi i j h (E (s h)) (E (s lo)) _ (fun w' => Kept [] w3 w') _ _ _ f5 s5 (by omega) (by omega) (cellsE hB (by omega) (by omega)) (cmpE hB (by omega) (by omega)) fun a6 w6 k6 f6 s6 => ?_)
    have s6' : Slots [(0, .slice (some ⟨b, 0, none⟩) n c), (1, .int .i64 (lo : Nat)), (2, .int .i64 (m : Nat)), (3, .int .i64 (hi : Nat)), (4, .func (.func 27) #[] #[]), (10, .int .i64 (i : Nat)), (11, .int .i64 (j : Nat)), (12, .int .i64 (h : Nat))] a6 := ⟨s6.1, s6.2.1, s6.2.2.1, s6.2.2.2.1, s6.2.2.2.2.1, s6.2.2.2.2.2.1, s6.2.2.2.2.2.2.1, s6.2.2.2.2.2.2.2.1, trivial⟩
    have hB6 := hB.keep k6 (by simp)
    have kp6 := kp.trans (k6.wide (Y := [b]) (by simp))
    refine wp_navI (j := 50) rfl s6.2.2.2.2.2.2.2.2.1 (fun hc => ?_) (fun hc => ?_)
    · refine m6 _ _ _ _ _ _ i j h _ _ _ f6 s6' (by omega) fun a7 f7 s7 => ?_
      refine ⟨⟨h + 1, j, by omega, by omega, g3, fun x q1 q2 => ?_, c2, kp6, hB6, f7, s7⟩, ?_⟩
      · exact hL.mono hc (so'.le q1 (show x ≤ h by omega) (by omega) |>.imp (fun e => by rw [e]) id) (.inl rfl)
      have mu2 : (intOf (sl a7 10)).toNat = h + 1 := by
        have : sl a7 10 = .int .i64 (h + 1 : Nat) := s7.2.2.2.2.2.1
        rw [this]; simp only [intOf]; omega
      have mv2 : (intOf (sl a7 11)).toNat = j := by
        have : sl a7 11 = .int .i64 (j : Nat) := s7.2.2.2.2.2.2.1
        rw [this]; simp only [intOf]; omega
      rw [mu, mv, mu2, mv2]; omega
    · refine m7 _ _ _ _ _ _ i j h _ _ _ f6 s6' fun a7 f7 s7 => ?_
      refine ⟨⟨i, h, g1, by omega, by omega, c1, fun x q1 q2 => ?_, kp6, hB6, f7, s7⟩, ?_⟩
      · cases e : LE E (s x) (s lo)
        · rfl
        · have := hL.mono e (so'.le (show lo + 1 ≤ h by omega) q1 q2 |>.imp (fun e => by rw [e]) id) (.inl rfl)
          rw [show LE E (s h) (s lo) = false from hc] at this; cases this
      have mu2 : (intOf (sl a7 10)).toNat = i := by
        have : sl a7 10 = .int .i64 (i : Nat) := s7.2.2.2.2.2.1
        rw [this]; simp only [intOf]; omega
      have mv2 : (intOf (sl a7 11)).toNat = h := by
        have : sl a7 11 = .int .i64 (h : Nat) := s7.2.2.2.2.2.2.1
        rw [this]; simp only [intOf]; omega
      rw [mu, mv, mu2, mv2]; omega
  · obtain rfl : i = j := by omega
    simp only [Exit.inBlock, Exit.then, if_true]
    refine wp_nav rfl (wp_nav rfl (m8 _ _ _ _ _ _ i _ _ _ f4 s4 fun a5 f5 s5 => ?_))
    refine wp_navB (id := 2) rfl ?_
    refine wp_navL rfl (wp_loop (fun a' w' => ∃ k : Nat, lo ≤ k ∧ k ≤ i - 1 ∧ Kept [b] w w' ∧ HB w' b n E (rot s lo (lo + 1) (k + 1)) ∧ Fr 220 a' ∧ Slots [(0, .slice (some ⟨b, 0, none⟩) n c), (1, .int .i64 (lo : Nat)), (2, .int .i64 (m : Nat)), (3, .int .i64 (hi : Nat)), (4, .func (.func 27) #[] #[]), (10, .int .i64 (i : Nat)), (13, .int .i64 (k : Nat))] a') (fun a' _ => i - (intOf (sl a' 13)).toNat) ⟨lo, Nat.le_refl _, by omega, kp, by rw [rot_none]; exact hB, f5, s5⟩ ?_)
    rintro a6 w6 ⟨k, q1, q2, kp6, hB6, f6, s6⟩
    have mu6 : (intOf (sl a6 13)).toNat = k := by
      have : sl a6 13 = .int .i64 (k : Nat) := s6.2.2.2.2.2.2.1
      rw [this]; simp only [intOf]; omega
    refine wp_nav rfl (m9h _ _ _ _ _ _ i k (i - 1) _ _ _ f6 s6 (by rw [IntKind.wrap_i64]; omega) (fun a7 hlt f7 s7 => ?_) (fun a7 hke2 f7 s7 => ?_))
    · refine wp_nav rfl (wp_navB (id := 3) rfl ?_)
      refine w32a b n c lo m hi i k (k + 1) _ _ a7 w6 _ f7 s7 (by rw [IntKind.wrap_i64]; omega) (by omega) (hB6.c0 (by omega)) (hB6.c1 (by omega)) (by omega) (hB6.c0 (by omega)) (hB6.c1 (by omega)) (by omega) hB6.frozen fun a8 f8 s8 => ?_
      refine m10 _ _ _ _ _ _ i k _ _ _ f8 s8 (by omega) fun a9 f9 s9 => ?_
      refine ⟨⟨k + 1, by omega, by omega, kp6.trans (keptSwap _ _ _ _), ?_, f9, s9⟩, ?_⟩
      · have := hB6.swap' (i := k) (j := k + 1) (by omega) (by omega)
        rw [rot_up s lo k q1] at this; exact this
      have mu9 : (intOf (sl a9 13)).toNat = k + 1 := by
        have : sl a9 13 = .int .i64 (k + 1 : Nat) := s9.2.2.2.2.2.2.1
        rw [this]; simp only [intOf]; omega
      rw [mu6, mu9]; omega
    · simp only [Exit.inBlock, Exit.then, if_true]
      refine m11r _ _ _ f7 fun a8 f8 => ?_
      refine hret a8 _ f8 ⟨kp6, _, hB6, ?_⟩
      rw [show k + 1 = i by omega]
      exact one_left so' (by rw [← hm]; exact sp) g1 g3 c1 c2

theorem mg_b (b n c lo m hi : Nat) (E : Nat → Hd) (hL : Weak (LE E)) (s : Nat → Nat) (a : Act) (w : World) (hfr : Fr 220 a) (hs : Slots [(0, .slice (some ⟨b, 0, none⟩) n c), (1, .int .i64 (lo : Nat)), (2, .int .i64 (m : Nat)), (3, .int .i64 (hi : Nat)), (4, .func (.func 27) #[] #[])] a) (hH : HB w b n E s) (ln : n ≤ 4096) (h1 : lo < m) (hm : hi = m + 1) (h3 : hi ≤ n) (so : Sorted (LE E) s lo m) (sp : Sep s lo m hi)
    (Q : Exit → Act → World → Prop) (hret : ∀ a' w', Fr 220 a' → (Kept [b] w w' ∧ ∃ t, HB w' b n E t ∧ Mrg (LE E) lo hi s t) → Q .ret a' w') :
    Code.wp Try.prog (thC (tlC (nthC 1 (bodyC Try.f32)))) Q a w := by
  refine wp_nav rfl (m13 _ _ _ _ _ _ _ _ _ hfr hs fun a1 f1 s1 => ?_)
  refine wp_nav rfl (m14 _ _ _ _ _ _ _ _ _ _ f1 s1 fun a2 f2 s2 => ?_)
  refine wp_nav rfl (wp_navB (id := 4) rfl ?_)
  refine wp_navL rfl (wp_loop (fun a' w' => ∃ i j : Nat, lo ≤ i ∧ i ≤ j ∧ j ≤ m ∧ (∀ h, lo ≤ h → h < i → LE E (s m) (s h) = false) ∧ (∀ h, j ≤ h → h < m → LE E (s m) (s h) = true) ∧ Kept [b] w w' ∧ HB w' b n E s ∧ Fr 220 a' ∧ Slots [(0, .slice (some ⟨b, 0, none⟩) n c), (1, .int .i64 (lo : Nat)), (2, .int .i64 (m : Nat)), (3, .int .i64 (hi : Nat)), (4, .func (.func 27) #[] #[]), (14, .int .i64 (i : Nat)), (15, .int .i64 (j : Nat))] a') (fun a' _ => (intOf (sl a' 15)).toNat - (intOf (sl a' 14)).toNat) ⟨lo, m, by omega, by omega, Nat.le_refl _, fun h q1 q2 => by omega, fun h q1 q2 => by omega, Kept.refl _ _, hH, f2, s2⟩ ?_)
  rintro a3 w3 ⟨i, j, g1, g2, g3, c1, c2, kp, hB, f3, s3⟩
  have mu : (intOf (sl a3 14)).toNat = i := by
    have : sl a3 14 = .int .i64 (i : Nat) := s3.2.2.2.2.2.1
    rw [this]; simp only [intOf]; omega
  have mv : (intOf (sl a3 15)).toNat = j := by
    have : sl a3 15 = .int .i64 (j : Nat) := s3.2.2.2.2.2.2.1
    rw [this]; simp only [intOf]; omega
  refine wp_nav rfl (m15h _ _ _ _ _ _ i j _ _ _ f3 s3 (fun a4 hlt f4 s4 => ?_) (fun a4 hke f4 s4 => ?_))
  · refine wp_navB (id := 5) rfl ?_
    refine wp_nav rfl (m16 _ _ _ _ _ _ i j ((i + j) / 2) _ _ _ f4 s4 rfl (by omega) (by omega) fun a5 f5 s5 => ?_)
    generalize hh : (i + j) / 2 = h at *
    refine wp_nav rfl (r32b b n c lo m hi i j h (E (s m)) (E (s h)) _ (fun w' => Kept [] w3 w') _ _ _ f5 s5 (by omega) (by omega) (cellsE hB (by omega) (by omega)) (cmpE hB (by omega) (by omega)) fun a6 w6 k6 f6 s6 => ?_)
    have s6' : Slots [(0, .slice (some ⟨b, 0, none⟩) n c), (1, .int .i64 (lo : Nat)), (2, .int .i64 (m : Nat)), (3, .int .i64 (hi : Nat)), (4, .func (.func 27) #[] #[]), (14, .int .i64 (i : Nat)), (15, .int .i64 (j : Nat)), (16, .int .i64 (h : Nat))] a6 := ⟨s6.1, s6.2.1, s6.2.2.1, s6.2.2.2.1, s6.2.2.2.2.1, s6.2.2.2.2.2.1, s6.2.2.2.2.2.2.1, s6.2.2.2.2.2.2.2.1, trivial⟩
    have hB6 := hB.keep k6 (by simp)
    have kp6 := kp.trans (k6.wide (Y := [b]) (by simp))
    refine wp_navI (j := 103) rfl s6.2.2.2.2.2.2.2.2.1 (fun hc => ?_) (fun hc => ?_)
    · have hc' : LE E (s m) (s h) = false := by
        have : (!LE E (s m) (s h)) = true := hc
        simpa using this
      refine m18 _ _ _ _ _ _ i j h _ _ _ f6 s6' (by omega) fun a7 f7 s7 => ?_
      refine ⟨⟨h + 1, j, by omega, by omega, g3, fun x q1 q2 => ?_, c2, kp6, hB6, f7, s7⟩, ?_⟩
      · cases e : LE E (s m) (s x)
        · rfl
        · have := hL.mono e (.inl rfl) (so.le q1 (show x ≤ h by omega) (by omega) |>.imp (fun e => by rw [e]) id)
          rw [hc'] at this; cases this
      have mu2 : (intOf (sl a7 14)).toNat = h + 1 := by
        have : sl a7 14 = .int .i64 (h + 1 : Nat) := s7.2.2.2.2.2.1
        rw [this]; simp only [intOf]; omega
      have mv2 : (intOf (sl a7 15)).toNat = j := by
        have : sl a7 15 = .int .i64 (j : Nat) := s7.2.2.2.2.2.2.1
        rw [this]; simp only [intOf]; omega
      rw [mu, mv, mu2, mv2]; omega
    · have hc' : LE E (s m) (s h) = true := by
        have : (!LE E (s m) (s h)) = false := hc
        simpa using this
      refine m19 _ _ _ _ _ _ i j h _ _ _ f6 s6' fun a7 f7 s7 => ?_
      refine ⟨⟨i, h, g1, by omega, by omega, c1, fun x q1 q2 => ?_, kp6, hB6, f7, s7⟩, ?_⟩
      · exact hL.mono hc' (.inl rfl) (so.le (show lo ≤ h by omega) q1 q2 |>.imp (fun e => by rw [e]) id)
      have mu2 : (intOf (sl a7 14)).toNat = i := by
        have : sl a7 14 = .int .i64 (i : Nat) := s7.2.2.2.2.2.1
        rw [this]; simp only [intOf]; omega
      have mv2 : (intOf (sl a7 15)).toNat = h := by
        have : sl a7 15 = .int .i64 (h : Nat) := s7.2.2.2.2.2.2.1
        rw [this]; simp only [intOf]; omega
      rw [mu, mv, mu2, mv2]; omega
  · obtain rfl : i = j := by omega
    simp only [Exit.inBlock, Exit.then, if_true]
    refine wp_nav rfl (wp_nav rfl (m20 _ _ _ _ _ _ i _ _ _ f4 s4 fun a5 f5 s5 => ?_))
    refine wp_navB (id := 6) rfl ?_
    refine wp_navL rfl (wp_loop (fun a' w' => ∃ k : Nat, i ≤ k ∧ k ≤ m ∧ Kept [b] w w' ∧ HB w' b n E (rot s k m (m + 1)) ∧ Fr 220 a' ∧ Slots [(0, .slice (some ⟨b, 0, none⟩) n c), (1, .int .i64 (lo : Nat)), (2, .int .i64 (m : Nat)), (3, .int .i64 (hi : Nat)), (4, .func (.func 27) #[] #[]), (14, .int .i64 (i : Nat)), (17, .int .i64 (k : Nat))] a') (fun a' _ => (intOf (sl a' 17)).toNat) ⟨m, by omega, Nat.le_refl _, kp, by rw [rot_none']; exact hB, f5, s5⟩ ?_)
    rintro a6 w6 ⟨k, q1, q2, kp6, hB6, f6, s6⟩
    have mu6 : (intOf (sl a6 17)).toNat = k := by
      have : sl a6 17 = .int .i64 (k : Nat) := s6.2.2.2.2.2.2.1
      rw [this]; simp only [intOf]; omega
    refine wp_nav rfl (m21h _ _ _ _ _ _ i k _ _ _ f6 s6 (fun a7 hlt f7 s7 => ?_) (fun a7 hke2 f7 s7 => ?_))
    · refine wp_nav rfl (wp_navB (id := 7) rfl ?_)
      refine w32b b n c lo m hi i k (k - 1) _ _ a7 w6 _ f7 s7 (by rw [IntKind.wrap_i64]; omega) (by omega) (hB6.c0 (by omega)) (hB6.c1 (by omega)) (by omega) (hB6.c0 (by omega)) (hB6.c1 (by omega)) (by omega) hB6.frozen fun a8 f8 s8 => ?_
      refine m22 _ _ _ _ _ _ i k (k - 1) _ _ _ f8 s8 (by rw [IntKind.wrap_i64]; omega) fun a9 f9 s9 => ?_
      refine ⟨⟨k - 1, by omega, by omega, kp6.trans (keptSwap _ _ _ _), ?_, f9, s9⟩, ?_⟩
      · have := hB6.swap' (i := k) (j := k - 1) (by omega) (by omega)
        rw [rot_down s m k q2 (by omega)] at this; exact this
      have mu9 : (intOf (sl a9 17)).toNat = k - 1 := by
        have : sl a9 17 = .int .i64 (k - 1 : Nat) := s9.2.2.2.2.2.2.1
        rw [this]; simp only [intOf]; omega
      rw [mu6, mu9]; omega
    · simp only [Exit.inBlock, Exit.then, if_true]
      refine m23r _ _ _ f7 fun a8 f8 => ?_
      refine hret a8 _ f8 ⟨kp6, _, hB6, ?_⟩
      rw [show k = i by omega, hm]
      exact one_right so (by rw [← hm]; exact sp) g1 g3 c1 c2

theorem mg_tail (b n c lo m hi : Nat) (E : Nat → Hd) (hL : Weak (LE E)) (s : Nat → Nat) (st en md : Nat) (a : Act) (w0 w : World) (hfr : Fr 220 a) (hs : Slots [(0, .slice (some ⟨b, 0, none⟩) n c), (1, .int .i64 (lo : Nat)), (2, .int .i64 (m : Nat)), (3, .int .i64 (hi : Nat)), (4, .func (.func 27) #[] #[]), (18, .int .i64 (md : Nat)), (20, .int .i64 (st : Nat)), (24, .int .i64 (en : Nat))] a) (k0 : Kept [b] w0 w) (hH : HB w b n E s) (ln : n ≤ 4096) (h1 : lo < m) (h2 : m < hi) (h3 : hi ≤ n) (so1 : Sorted (LE E) s lo m) (so2 : Sorted (LE E) s m hi) (sp : Sep s lo m hi)
    (q1 : lo ≤ st) (q2 : st ≤ m) (q3 : m ≤ en) (q4 : en ≤ hi) (hmd : md = st + (en - m)) (d1 : lo < md) (d2 : md < hi)
    (c1 : lo < st → en < hi → LE E (s en) (s (st - 1)) = false) (c2 : m < en → st < m → LE E (s (en - 1)) (s st) = true)
    (ih : ∀ (lo' m' hi' : Nat) (s' : Nat → Nat) (w' : World), hi' - lo' < hi - lo → HB w' b n E s' → lo' < m' → m' < hi' → hi' ≤ n → Sorted (LE E) s' lo' m' → Sorted (LE E) s' m' hi' → Sep s' lo' m' hi' → Calls Try.prog 32 #[.slice (some ⟨b, 0, none⟩) n c, .int .i64 (lo' : Nat), .int .i64 (m' : Nat), .int .i64 (hi' : Nat), .func (.func 27) #[] #[]] w' (MPost b n E lo' hi' s' w')) :
    Code.wp Try.prog (dropC 9 (bodyC Try.f32)) (bodyPost Try.prog Try.f32 (MPost b n E lo hi s w0)) a w := by
  obtain ⟨p1, p2, p3, p4, p5, p6⟩ := sym_parts so1 so2 sp q1 q2 q3 q4 hmd
  -- behind the rotation
  have step2 : ∀ (t : Nat → Nat) (a2 : Act) (w2 : World), Kept [b] w0 w2 → HB w2 b n E t → Mrg (LE E) lo md (rot s st m en) t → Fr 220 a2 → Slots [(0, .slice (some ⟨b, 0, none⟩) n c), (1, .int .i64 (lo : Nat)), (2, .int .i64 (m : Nat)), (3, .int .i64 (hi : Nat)), (4, .func (.func 27) #[] #[]), (18, .int .i64 (md : Nat)), (20, .int .i64 (st : Nat)), (24, .int .i64 (en : Nat))] a2 → Code.wp Try.prog (dropC 11 (bodyC Try.f32)) (bodyPost Try.prog Try.f32 (MPost b n E lo hi s w0)) a2 w2 := by
    intro t a2 w2 k2 hB2 hM1 f2 s2
    have et : ∀ i, md ≤ i → t i = rot s st m en i := fun i hi => hM1.same.out i (by omega)
    refine wp_nav rfl (n43 _ _ _ _ _ _ _ _ _ _ _ _ f2 s2 fun a3 f3 s3 => ?_)
    refine wp_navI (j := 213) rfl s3.2.2.2.2.2.2.2.2.1 (fun hc => ?_) (fun hc => ?_)
    · simp only [Bool.and_eq_true, decide_eq_true_eq] at hc
      refine n44 _ _ _ _ _ _ _ _ _ _ _ _ _ f3 ⟨s3.1, s3.2.1, s3.2.2.1, s3.2.2.2.1, s3.2.2.2.2.1, s3.2.2.2.2.2.1, s3.2.2.2.2.2.2.1, s3.2.2.2.2.2.2.2.1, trivial⟩ (ih md en hi t w2 (by omega) hB2 hc.1 hc.2 h3 (p4.congr fun i i1 i2 => et i i1) (p5.congr fun i i1 i2 => et i (by omega)) (fun i j i1 i2 j1 j2 => by rw [et i i1, et j (by omega)]; exact p6 i j i1 i2 j1 j2)) fun a4 w4 hG f4 s4 => ?_
      obtain ⟨k4, u, hB4, hM2⟩ := hG
      exact bodyPost_end (results_none rfl _ _ _) f4.defers ⟨rfl, k2.trans k4, u, hB4, sym_step hL so1 so2 sp h1 h2 q1 q2 q3 q4 hmd c1 c2 hM1 hM2⟩
    · refine wp_skip' rfl ?_
      refine bodyPost_end (results_none rfl _ _ _) f3.defers ⟨rfl, k2, t, hB2, sym_step hL so1 so2 sp h1 h2 q1 q2 q3 q4 hmd c1 c2 hM1 ⟨Same.refl _ _ _, ?_⟩⟩
      have hc' : ¬ (md < en ∧ en < hi) := fun h => by
        rw [show decide (md < en) = true by simpa using h.1, show decide (en < hi) = true by simpa using h.2] at hc; cases hc
      by_cases e : md = en
      · exact (show Sorted (LE E) (rot s st m en) md hi by rw [e]; exact p5).congr fun i i1 i2 => et i i1
      · have e2 : en = hi := by omega
        exact (show Sorted (LE E) (rot s st m en) md hi by rw [← e2]; exact p4).congr fun i i1 i2 => et i i1
  have step1 : ∀ (a2 : Act) (w2 : World), Kept [b] w0 w2 → HB w2 b n E (rot s st m en) → Fr 220 a2 → Slots [(0, .slice (some ⟨b, 0, none⟩) n c), (1, .int .i64 (lo : Nat)), (2, .int .i64 (m : Nat)), (3, .int .i64 (hi : Nat)), (4, .func (.func 27) #[] #[]), (18, .int .i64 (md : Nat)), (20, .int .i64 (st : Nat)), (24, .int .i64 (en : Nat))] a2 → Code.wp Try.prog (dropC 10 (bodyC Try.f32)) (bodyPost Try.prog Try.f32 (MPost b n E lo hi s w0)) a2 w2 := by
    intro a2 w2 k2 hB2 f2 s2
    refine wp_nav rfl (wp_nav rfl (n41 _ _ _ _ _ _ _ _ _ _ _ _ f2 s2 fun a3 f3 s3 => ?_))
    refine wp_navI (j := 199) rfl s3.2.2.2.2.2.2.2.2.1 (fun hc => ?_) (fun hc => ?_)
    · simp only [Bool.and_eq_true, decide_eq_true_eq] at hc
      refine n42 _ _ _ _ _ _ _ _ _ _ _ _ _ f3 ⟨s3.1, s3.2.1, s3.2.2.1, s3.2.2.2.1, s3.2.2.2.2.1, s3.2.2.2.2.2.1, s3.2.2.2.2.2.2.1, s3.2.2.2.2.2.2.2.1, trivial⟩ (ih lo st md _ w2 (by omega) hB2 hc.1 hc.2 (by omega) p1 p2 p3) fun a4 w4 hG f4 s4 => ?_
      obtain ⟨k4, t, hB4, hM1⟩ := hG
      exact step2 t a4 w4 (k2.trans k4) hB4 hM1 f4 s4
    · refine wp_skip' rfl ?_
      refine step2 _ a3 w2 k2 hB2 ⟨Same.refl _ _ _, ?_⟩ f3 ⟨s3.1, s3.2.1, s3.2.2.1, s3.2.2.2.1, s3.2.2.2.2.1, s3.2.2.2.2.2.1, s3.2.2.2.2.2.2.1, s3.2.2.2.2.2.2.2.1, trivial⟩
      have hc' : ¬ (lo < st ∧ st < md) := fun h => by
        rw [show decide (lo < st) = true by simpa using h.1, show decide (st < md) = true by simpa using h.2] at hc; cases hc
      by_cases e : lo = st
      · rw [e]; exact p2
      · have e2 : st = md := by omega
        rw [← e2]; exact p1
  refine wp_nav rfl (wp_nav rfl (n39 _ _ _ _ _ _ _ _ _ _ _ _ hfr hs fun a1 f1 s1 => ?_))
  refine wp_navI (j := 185) rfl s1.2.2.2.2.2.2.2.2.1 (fun hc => ?_) (fun hc => ?_)
  · simp only [Bool.and_eq_true, decide_eq_true_eq] at hc
    refine n40 _ _ _ _ _ _ _ _ _ _ _ _ _ f1 ⟨s1.1, s1.2.1, s1.2.2.1, s1.2.2.2.1, s1.2.2.2.2.1, s1.2.2.2.2.2.1, s1.2.2.2.2.2.2.1, s1.2.2.2.2.2.2.2.1, trivial⟩ (rotate34 b n c st m en E s w hH ln hc.1 hc.2 (by omega)) fun a2 w2 hG f2 s2 => ?_
    exact step1 a2 w2 (k0.trans hG.1) hG.2 f2 s2
  · refine wp_skip' rfl ?_
    refine step1 a1 w k0 ?_ f1 ⟨s1.1, s1.2.1, s1.2.2.1, s1.2.2.2.1, s1.2.2.2.2.1, s1.2.2.2.2.2.1, s1.2.2.2.2.2.2.1, s1.2.2.2.2.2.2.2.1, trivial⟩
    have hc' : ¬ (st < m ∧ m < en) := fun h => by
      rw [show decide (st < m) = true by simpa using h.1, show decide (m < en) = true by simpa using h.2] at hc; cases hc
    by_cases e : st = m
    · rw [e, rot_none']; exact hH
    · have e2 : m = en := by omega
      rw [← e2, rot_none]; exact hH

theorem mg_search (b n c lo m hi : Nat) (E : Nat → Hd) (hL : Weak (LE E)) (s : Nat → Nat) (md nn st0 r0 : Nat) (a : Act) (w0 w : World) (hfr : Fr 220 a) (hs : Slots [(0, .slice (some ⟨b, 0, none⟩) n c), (1, .int .i64 (lo : Nat)), (2, .int .i64 (m : Nat)), (3, .int .i64 (hi : Nat)), (4, .func (.func 27) #[] #[]), (18, .int .i64 (md : Nat)), (19, .int .i64 (nn : Nat)), (20, .int .i64 (st0 : Nat)), (21, .int .i64 (r0 : Nat))] a) (k0 : Kept [b] w0 w) (hH : HB w b n E s) (ln : n ≤ 4096) (h1 : lo < m) (h2 : m < hi) (h3 : hi ≤ n) (so1 : Sorted (LE E) s lo m) (so2 : Sorted (LE E) s m hi) (sp : Sep s lo m hi)
    (hmd : md = (lo + hi) / 2) (hnn : nn = md + m) (b1 : lo ≤ st0) (b2 : st0 ≤ r0) (b3 : r0 ≤ m) (b4 : r0 ≤ md) (b5 : nn ≤ hi + st0) (b6 : st0 = lo ∨ nn = hi + st0) (b7 : r0 = m ∨ r0 = md)
    (ih : ∀ (lo' m' hi' : Nat) (s' : Nat → Nat) (w' : World), hi' - lo' < hi - lo → HB w' b n E s' → lo' < m' → m' < hi' → hi' ≤ n → Sorted (LE E) s' lo' m' → Sorted (LE E) s' m' hi' → Sep s' lo' m' hi' → Calls Try.prog 32 #[.slice (some ⟨b, 0, none⟩) n c, .int .i64 (lo' : Nat), .int .i64 (m' : Nat), .int .i64 (hi' : Nat), .func (.func 27) #[] #[]] w' (MPost b n E lo' hi' s' w')) :
    Code.wp Try.prog (dropC 6 (bodyC Try.f32)) (bodyPost Try.prog Try.f32 (MPost b n E lo hi s w0)) a w := by
  refine wp_nav rfl (n32 _ _ _ _ _ _ _ _ _ _ (nn - 1) _ _ _ hfr hs (by rw [IntKind.wrap_i64]; omega) fun a1 f1 s1 => ?_)
  refine wp_nav rfl (wp_navB (id := 8) rfl ?_)
  refine wp_navL rfl (wp_loop (fun a' w' => ∃ st r : Nat, st0 ≤ st ∧ st ≤ r ∧ r ≤ r0 ∧ (∀ x, st0 ≤ x → x < st → LE E (s (nn - 1 - x)) (s x) = false) ∧ (∀ x, r ≤ x → x < r0 → LE E (s (nn - 1 - x)) (s x) = true) ∧ Kept [b] w0 w' ∧ HB w' b n E s ∧ Fr 220 a' ∧ Slots [(0, .slice (some ⟨b, 0, none⟩) n c), (1, .int .i64 (lo : Nat)), (2, .int .i64 (m : Nat)), (3, .int .i64 (hi : Nat)), (4, .func (.func 27) #[] #[]), (18, .int .i64 (md : Nat)), (19, .int .i64 (nn : Nat)), (20, .int .i64 (st : Nat)), (21, .int .i64 (r : Nat)), (22, .int .i64 (nn - 1 : Nat))] a') (fun a' _ => (intOf (sl a' 21)).toNat - (intOf (sl a' 20)).toNat) ⟨st0, r0, Nat.le_refl _, b2, Nat.le_refl _, fun x q1 q2 => by omega, fun x q1 q2 => by omega, k0, hH, f1, s1⟩ ?_)
  rintro a3 w3 ⟨st, r, g1, g2, g3, c1, c2, kp, hB, f3, s3⟩
  have mu : (intOf (sl a3 20)).toNat = st := by
    have : sl a3 20 = .int .i64 (st : Nat) := s3.2.2.2.2.2.2.2.1
    rw [this]; simp only [intOf]; omega
  have mv : (intOf (sl a3 21)).toNat = r := by
    have : sl a3 21 = .int .i64 (r : Nat) := s3.2.2.2.2.2.2.2.2.1
    rw [this]; simp only [intOf]; omega
  refine wp_nav rfl (n33h _ _ _ _ _ _ _ _ st r _ _ _ _ f3 s3 (fun a4 hlt f4 s4 => ?_) (fun a4 hke f4 s4 => ?_))
  · refine wp_navB (id := 9) rfl ?_
    refine wp_nav rfl (n34 _ _ _ _ _ _ _ _ st r _ ((st + r) / 2) _ _ _ f4 s4 rfl (by omega) (by omega) fun a5 f5 s5 => ?_)
    generalize hh : (st + r) / 2 = x at *
    refine wp_nav rfl (r32c b n c lo m hi md nn st r (nn - 1) x (nn - 1 - x) (E (s (nn - 1 - x))) (E (s x)) _ (fun w' => Kept [] w3 w') _ _ _ f5 s5 (by rw [IntKind.wrap_i64]; omega) (by omega) (by omega) (cellsE hB (by omega) (by omega)) (cmpE hB (by omega) (by omega)) fun a6 w6 k6 f6 s6 => ?_)
    have s6' : Slots [(0, .slice (some ⟨b, 0, none⟩) n c), (1, .int .i64 (lo : Nat)), (2, .int .i64 (m : Nat)), (3, .int .i64 (hi : Nat)), (4, .func (.func 27) #[] #[]), (18, .int .i64 (md : Nat)), (19, .int .i64 (nn : Nat)), (20, .int .i64 (st : Nat)), (21, .int .i64 (r : Nat)), (22, .int .i64 (nn - 1 : Nat)), (23, .int .i64 (x : Nat))] a6 := ⟨s6.1, s6.2.1, s6.2.2.1, s6.2.2.2.1, s6.2.2.2.2.1, s6.2.2.2.2.2.1, s6.2.2.2.2.2.2.1, s6.2.2.2.2.2.2.2.1, s6.2.2.2.2.2.2.2.2.1, s6.2.2.2.2.2.2.2.2.2.1, s6.2.2.2.2.2.2.2.2.2.2.1, trivial⟩
    have hB6 := hB.keep k6 (by simp)
    have kp6 := kp.trans (k6.wide (Y := [b]) (by simp))
    refine wp_navI (j := 171) rfl s6.2.2.2.2.2.2.2.2.2.2.2.1 (fun hc => ?_) (fun hc => ?_)
    · have hc' : LE E (s (nn - 1 - x)) (s x) = false := by
        have : (!LE E (s (nn - 1 - x)) (s x)) = true := hc
        simpa using this
      refine n36 _ _ _ _ _ _ _ _ st r _ x _ _ _ f6 s6' (by omega) fun a7 f7 s7 => ?_
      refine ⟨⟨x + 1, r, by omega, by omega, g3, fun y q1 q2 => ?_, c2, kp6, hB6, f7, s7⟩, ?_⟩
      · cases e : LE E (s (nn - 1 - y)) (s y)
        · rfl
        · have := hL.mono e (so2.le (show m ≤ nn - 1 - x by omega) (show nn - 1 - x ≤ nn - 1 - y by omega) (by omega) |>.imp (fun e => by rw [e]) id) (so1.le (show lo ≤ y by omega) (show y ≤ x by omega) (by omega) |>.imp (fun e => by rw [e]) id)
          rw [hc'] at this; cases this
      have mu2 : (intOf (sl a7 20)).toNat = x + 1 := by
        have : sl a7 20 = .int .i64 (x + 1 : Nat) := s7.2.2.2.2.2.2.2.1
        rw [this]; simp only [intOf]; omega
      have mv2 : (intOf (sl a7 21)).toNat = r := by
        have : sl a7 21 = .int .i64 (r : Nat) := s7.2.2.2.2.2.2.2.2.1
        rw [this]; simp only [intOf]; omega
      rw [mu, mv, mu2, mv2]; omega
    · have hc' : LE E (s (nn - 1 - x)) (s x) = true := by
        have : (!LE E (s (nn - 1 - x)) (s x)) = false := hc
        simpa using this
      refine n37 _ _ _ _ _ _ _ _ st r _ x _ _ _ f6 s6' fun a7 f7 s7 => ?_
      refine ⟨⟨st, x, g1, by omega, by omega, c1, fun y q1 q2 => ?_, kp6, hB6, f7, s7⟩, ?_⟩
      · exact hL.mono hc' (so2.le (show m ≤ nn - 1 - y by omega) (show nn - 1 - y ≤ nn - 1 - x by omega) (by omega) |>.imp (fun e => by rw [e]) id) (so1.le (show lo ≤ x by omega) q1 (by omega) |>.imp (fun e => by rw [e]) id)
      have mu2 : (intOf (sl a7 20)).toNat = st := by
        have : sl a7 20 = .int .i64 (st : Nat) := s7.2.2.2.2.2.2.2.1
        rw [this]; simp only [intOf]; omega
      have mv2 : (intOf (sl a7 21)).toNat = x := by
        have : sl a7 21 = .int .i64 (x : Nat) := s7.2.2.2.2.2.2.2.2.1
        rw [this]; simp only [intOf]; omega
      rw [mu, mv, mu2, mv2]; omega
  · obtain rfl : st = r := by omega
    simp only [Exit.inBlock, Exit.then, if_true]
    refine wp_nav rfl (n38 _ _ _ _ _ _ _ _ st (nn - st) _ _ _ f4 ⟨s4.1, s4.2.1, s4.2.2.1, s4.2.2.2.1, s4.2.2.2.2.1, s4.2.2.2.2.2.1, s4.2.2.2.2.2.2.1, s4.2.2.2.2.2.2.2.1, trivial⟩ (by rw [IntKind.wrap_i64]; omega) fun a5 f5 s5 => ?_)
    refine mg_tail b n c lo m hi E hL s st (nn - st) md a5 w0 w3 f5 s5 kp hB ln h1 h2 h3 so1 so2 sp (by omega) (by omega) (by omega) (by omega) (by omega) (by omega) (by omega) (fun x1 x2 => ?_) (fun x1 x2 => ?_) ih
    · have := c1 (st - 1) (by omega) (by omega)
      rw [show nn - 1 - (st - 1) = nn - st by omega] at this; exact this
    · have := c2 st (Nat.le_refl _) (by omega)
      rw [show nn - 1 - st = nn - st - 1 by omega] at this; exact this

/-- symMerge -/
theorem merge32 (b n c : Nat) (E : Nat → Hd) (hL : Weak (LE E)) (ln : n ≤ 4096) : ∀ (d lo m hi : Nat) (s : Nat → Nat) (w : World), hi - lo = d → HB w b n E s → lo < m → m < hi → hi ≤ n → Sorted (LE E) s lo m → Sorted (LE E) s m hi → Sep s lo m hi →
    Calls Try.prog 32 #[.slice (some ⟨b, 0, none⟩) n c, .int .i64 (lo : Nat), .int .i64 (m : Nat), .int .i64 (hi : Nat), .func (.func 27) #[] #[]] w (MPost b n E lo hi s w) := by
  intro d
  induction d using Nat.strongRecOn with
  | _ d ih =>
    intro lo m hi s w hd hH h1 h2 h3 so1 so2 sp
    have ih' : ∀ (lo' m' hi' : Nat) (s' : Nat → Nat) (w' : World), hi' - lo' < hi - lo → HB w' b n E s' → lo' < m' → m' < hi' → hi' ≤ n → Sorted (LE E) s' lo' m' → Sorted (LE E) s' m' hi' → Sep s' lo' m' hi' → Calls Try.prog 32 #[.slice (some ⟨b, 0, none⟩) n c, .int .i64 (lo' : Nat), .int .i64 (m' : Nat), .int .i64 (hi' : Nat), .func (.func 27) #[] #[]] w' (MPost b n E lo' hi' s' w') :=
      fun lo' m' hi' s' w' hlt => ih (hi' - lo') (by omega) lo' m' hi' s' w' rfl
    refine calls_nav 220 Try.func32 rfl rfl (by simp) fun a fr0 ha => ?_
    have s0 : Slots [(0, .slice (some ⟨b, 0, none⟩) n c), (1, .int .i64 (lo : Nat)), (2, .int .i64 (m : Nat)), (3, .int .i64 (hi : Nat)), (4, .func (.func 27) #[] #[])] a := ⟨ha 0 (by simp), ha 1 (by simp), ha 2 (by simp), ha 3 (by simp), ha 4 (by simp), trivial⟩
    refine wp_nav rfl (wp_nav rfl (m0 _ _ _ _ _ _ (m - lo) _ _ _ fr0 s0 (by rw [IntKind.wrap_i64]; omega) fun a1 f1 s1 => ?_))
    have s1' : Slots [(0, .slice (some ⟨b, 0, none⟩) n c), (1, .int .i64 (lo : Nat)), (2, .int .i64 (m : Nat)), (3, .int .i64 (hi : Nat)), (4, .func (.func 27) #[] #[])] a1 := ⟨s1.1, s1.2.1, s1.2.2.1, s1.2.2.2.1, s1.2.2.2.2.1, trivial⟩
    refine wp_navI (j := 28) rfl s1.2.2.2.2.2.1 (fun hc => ?_) (fun hc => ?_)
    · have hm : m - lo = 1 := by simpa using hc
      refine mg_a b n c lo m hi E hL s a1 w f1 s1' hH ln (by omega) h2 h3 so2 sp _ fun a' w' f' hp => ?_
      simp only [Exit.then]
      exact bodyPost_ret (results_none rfl _ _ _) f'.defers ⟨rfl, hp⟩
    · refine wp_skip' rfl ?_
      simp only [Exit.then]
      refine wp_nav rfl (wp_nav rfl (m12 _ _ _ _ _ _ (hi - m) _ _ _ f1 s1' (by rw [IntKind.wrap_i64]; omega) fun a2 f2 s2 => ?_))
      have s2' : Slots [(0, .slice (some ⟨b, 0, none⟩) n c), (1, .int .i64 (lo : Nat)), (2, .int .i64 (m : Nat)), (3, .int .i64 (hi : Nat)), (4, .func (.func 27) #[] #[])] a2 := ⟨s2.1, s2.2.1, s2.2.2.1, s2.2.2.2.1, s2.2.2.2.2.1, trivial⟩
      refine wp_navI (j := 80) rfl s2.2.2.2.2.2.1 (fun hc => ?_) (fun hc => ?_)
      · have hm : hi - m = 1 := by simpa using hc
        refine mg_b b n c lo m hi E hL s a2 w f2 s2' hH ln h1 (by omega) h3 so1 sp _ fun a' w' f' hp => ?_
        simp only [Exit.then]
        exact bodyPost_ret (results_none rfl _ _ _) f'.defers ⟨rfl, hp⟩
      · refine wp_skip' rfl ?_
        simp only [Exit.then]
        refine wp_nav rfl (n24 _ _ _ _ _ _ ((lo + hi) / 2) _ _ _ f2 s2' rfl (by omega) (by omega) fun a3 f3 s3 => ?_)
        generalize hmd : (lo + hi) / 2 = md at *
        refine wp_nav rfl (n25 _ _ _ _ _ _ _ (md + m) _ _ _ f3 s3 (by rw [IntKind.wrap_i64]; omega) fun a4 f4 s4 => ?_)
        refine wp_nav rfl (n26 _ _ _ _ _ _ _ _ _ _ _ f4 s4 fun a5 f5 s5 => ?_)
        refine wp_nav rfl (wp_nav rfl (n27 _ _ _ _ _ _ _ _ _ _ _ f5 s5 fun a6 f6 s6 => ?_))
        have s6' : Slots [(0, .slice (some ⟨b, 0, none⟩) n c), (1, .int .i64 (lo : Nat)), (2, .int .i64 (m : Nat)), (3, .int .i64 (hi : Nat)), (4, .func (.func 27) #[] #[]), (18, .int .i64 (md : Nat)), (19, .int .i64 (md + m : Nat))] a6 := ⟨s6.1, s6.2.1, s6.2.2.1, s6.2.2.2.1, s6.2.2.2.2.1, s6.2.2.2.2.2.1, s6.2.2.2.2.2.2.1, trivial⟩
        refine wp_navI (j := 140) rfl s6.2.2.2.2.2.2.2.1 (fun hg => ?_) (fun hg => ?_)
        · have hlt : md < m := by simpa using hg
          refine n28 _ _ _ _ _ _ _ _ (md + m - hi) _ _ _ f6 s6' (by rw [IntKind.wrap_i64]; omega) fun a7 f7 s7 => ?_
          simp only [Exit.then]
          exact mg_search b n c lo m hi E hL s md (md + m) (md + m - hi) md a7 w w f7 s7 (Kept.refl _ _) hH ln h1 h2 h3 so1 so2 sp hmd.symm rfl (by omega) (by omega) (by omega) (by omega) (by omega) (by omega) (.inr rfl) ih'
        · have hlt : ¬ md < m := by simpa using hg
          refine n30 _ _ _ _ _ _ _ _ _ _ _ f6 s6' fun a7 f7 s7 => ?_
          simp only [Exit.then]
          exact mg_search b n c lo m hi E hL s md (md + m) lo m a7 w w f7 s7 (Kept.refl _ _) hH ln h1 h2 h3 so1 so2 sp hmd.symm rfl (Nat.le_refl _) (by omega) (Nat.le_refl _) (by omega) (by omega) (.inl rfl) (.inl rfl) ih'

end Go.Proofs.Qxb6601010a
