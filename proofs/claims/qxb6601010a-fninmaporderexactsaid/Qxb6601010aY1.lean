import Derived.Test.Qxb6601010aV1
import Derived.Test.Qxb6601010aV2
import Derived.Test.Qxb6601010aX1
namespace Go.Proofs.Qxb6601010a
open Go.RowKit
set_option linter.unusedSimpArgs false
set_option linter.unusedVariables false

/-- The order of the names. -/
def LE (E : Nat → Hd) (i j : Nat) : Bool := decide (cmpB (E i).nm (E j).nm < 0)

theorem cmpE {w : World} {b n : Nat} {E : Nat → Hd} {s : Nat → Nat} (h : HB w b n E s) {x y : Nat} (hx : x < n) (hy : y < n) :
    Calls Try.prog 27 #[.agg #[.string (E (s x)).nm, .slice (some ⟨(E (s x)).vb, 0, none⟩) 2 2], .agg #[.string (E (s y)).nm, .slice (some ⟨(E (s y)).vb, 0, none⟩) 2 2]] w.drew fun e w' => e = .returned (.int .i64 (cmpB (E (s x)).nm (E (s y)).nm)) ∧
      (fun w' : World => w'.cell? ⟨b, x * 2, none⟩ = some (.string (E (s x)).nm) ∧ w'.cell? ⟨b, x * 2 + 1, none⟩ = some (.slice (some ⟨(E (s x)).vb, 0, none⟩) 2 2) ∧ w'.cell? ⟨b, y * 2, none⟩ = some (.string (E (s y)).nm) ∧ w'.cell? ⟨b, y * 2 + 1, none⟩ = some (.slice (some ⟨(E (s y)).vb, 0, none⟩) 2 2)) w' ∧ Kept [] w w' := by
  refine (cmp27 _ _ _ _ _ _ _ _ w.drew).mono ?_
  rintro e w' ⟨he, k⟩
  have k' : Kept [] w w' := (Kept.refl _ _).drew.trans k
  have h' := h.keep k' (by simp)
  exact ⟨he, ⟨h'.c0 hx, h'.c1 hx, h'.c0 hy, h'.c1 hy⟩, k'⟩
theorem cellsE {w : World} {b n : Nat} {E : Nat → Hd} {s : Nat → Nat} (h : HB w b n E s) {x y : Nat} (hx : x < n) (hy : y < n) :
    (fun w' : World => w'.cell? ⟨b, x * 2, none⟩ = some (.string (E (s x)).nm) ∧ w'.cell? ⟨b, x * 2 + 1, none⟩ = some (.slice (some ⟨(E (s x)).vb, 0, none⟩) 2 2) ∧ w'.cell? ⟨b, y * 2, none⟩ = some (.string (E (s y)).nm) ∧ w'.cell? ⟨b, y * 2 + 1, none⟩ = some (.slice (some ⟨(E (s y)).vb, 0, none⟩) 2 2)) w :=
  ⟨h.c0 hx, h.c1 hx, h.c0 hy, h.c1 hy⟩
theorem HB.swap' {w : World} {b n : Nat} {E : Nat → Hd} {s : Nat → Nat} (h : HB w b n E s) {i j : Nat} (hi : i < n) (hj : j < n) : HB (put2 (put2 w.drew b i (E (s j))) b j (E (s i))) b n E (sw s i j) := (h.keep (Kept.refl [] w).drew (by simp)).swap hi hj
theorem keptSwap {w : World} {b : Nat} (i j : Nat) (x y : Hd) : Kept [b] w (put2 (put2 w.drew b i x) b j y) := ((Kept.refl [b] w).drew.put2 i x (.inl (by simp))).put2 j y (.inl (by simp))

theorem swap35 (b n c p q m : Nat) (E : Nat → Hd) (s : Nat → Nat) (w : World) (hH : HB w b n E s) (ln : n ≤ 4096) (h1 : p + m ≤ q) (h2 : q + m ≤ n) :
    Calls Try.prog 35 #[.slice (some ⟨b, 0, none⟩) n c, .int .i64 (p : Nat), .int .i64 (q : Nat), .int .i64 (m : Nat), .func (.func 27) #[] #[]] w fun e w' => e = .returned (.tuple #[]) ∧ Kept [b] w w' ∧ HB w' b n E (swr s p q m) := by
  refine calls_nav 38 Try.func35 rfl rfl (by simp) fun a fr0 ha => ?_
  have s0 : Slots [(0, .slice (some ⟨b, 0, none⟩) n c), (1, .int .i64 (p : Nat)), (2, .int .i64 (q : Nat)), (3, .int .i64 (m : Nat)), (4, .func (.func 27) #[] #[])] a := ⟨ha 0 (by simp), ha 1 (by simp), ha 2 (by simp), ha 3 (by simp), ha 4 (by simp), trivial⟩
  refine wp_nav rfl (z35i _ _ _ _ _ _ _ _ _ fr0 s0 fun a1 f1 s1 => ?_)
  refine wp_navB (id := 0) rfl ?_
  refine wp_navL rfl (wp_loop (fun a' w' => ∃ i : Nat, i ≤ m ∧ Kept [b] w w' ∧ HB w' b n E (swr s p q i) ∧ Fr 38 a' ∧ Slots [(0, .slice (some ⟨b, 0, none⟩) n c), (1, .int .i64 (p : Nat)), (2, .int .i64 (q : Nat)), (3, .int .i64 (m : Nat)), (4, .func (.func 27) #[] #[]), (10, .int .i64 (i : Nat))] a') (fun a' _ => m - (intOf (sl a' 10)).toNat) ⟨0, Nat.zero_le _, Kept.refl _ _, by rw [swr_zero]; exact hH, f1, s1⟩ ?_)
  rintro a2 w2 ⟨i, hi, kp, hB, f2, s2⟩
  have mu : (intOf (sl a2 10)).toNat = i := by
    have : sl a2 10 = .int .i64 (i : Nat) := s2.2.2.2.2.2.1
    rw [this]; simp only [intOf]; omega
  refine wp_nav rfl (z35h _ _ _ _ _ _ i _ _ _ f2 s2 (fun a3 hlt f3 s3 => ?_) (fun a3 hke f3 s3 => ?_))
  · refine wp_nav rfl (wp_navB (id := 1) rfl ?_)
    refine s35 b n c p q m i (p + i) (q + i) (E (swr s p q i (q + i))) (E (swr s p q i (p + i))) a3 w2 _ f3 s3 (by rw [IntKind.wrap_i64]; omega) (by rw [IntKind.wrap_i64]; omega) (by omega) (hB.c0 (by omega)) (hB.c1 (by omega)) (by omega) (hB.c0 (by omega)) (hB.c1 (by omega)) (by omega) hB.frozen fun a4 f4 s4 => ?_
    refine z35n _ _ _ _ _ _ i _ _ _ f4 s4 (by omega) fun a5 f5 s5 => ?_
    refine ⟨⟨i + 1, by omega, kp.trans (keptSwap _ _ _ _), ?_, f5, s5⟩, ?_⟩
    · rw [← swr_succ s p q i (by omega)]; exact hB.swap' (by omega) (by omega)
    have mu2 : (intOf (sl a5 10)).toNat = i + 1 := by
      have : sl a5 10 = .int .i64 (i + 1 : Nat) := s5.2.2.2.2.2.1
      rw [this]; simp only [intOf]; omega
    rw [mu, mu2]; omega
  · obtain rfl : i = m := by omega
    simp only [Exit.inBlock, Exit.then, if_true]
    exact bodyPost_end (results_none rfl _ _ _) f3.defers ⟨rfl, kp, hB⟩

theorem rotate34 (b n c lo m hi : Nat) (E : Nat → Hd) (s : Nat → Nat) (w : World) (hH : HB w b n E s) (ln : n ≤ 4096) (h1 : lo < m) (h2 : m < hi) (h3 : hi ≤ n) :
    Calls Try.prog 34 #[.slice (some ⟨b, 0, none⟩) n c, .int .i64 (lo : Nat), .int .i64 (m : Nat), .int .i64 (hi : Nat), .func (.func 27) #[] #[]] w fun e w' => e = .returned (.tuple #[]) ∧ Kept [b] w w' ∧ HB w' b n E (rot s lo m hi) := by
  refine calls_nav 58 Try.func34 rfl rfl (by simp) fun a fr0 ha => ?_
  have s0 : Slots [(0, .slice (some ⟨b, 0, none⟩) n c), (1, .int .i64 (lo : Nat)), (2, .int .i64 (m : Nat)), (3, .int .i64 (hi : Nat)), (4, .func (.func 27) #[] #[])] a := ⟨ha 0 (by simp), ha 1 (by simp), ha 2 (by simp), ha 3 (by simp), ha 4 (by simp), trivial⟩
  refine wp_nav rfl (y0 _ _ _ _ _ _ (m - lo) _ _ _ fr0 s0 (by rw [IntKind.wrap_i64]; omega) fun a1 f1 s1 => ?_)
  refine wp_nav rfl (y1 _ _ _ _ _ _ _ (hi - m) _ _ _ f1 s1 (by rw [IntKind.wrap_i64]; omega) fun a2 f2 s2 => ?_)
  refine wp_nav rfl (wp_navB (id := 0) rfl ?_)
  refine wp_navL rfl (wp_loop (fun a' w' => ∃ (i j : Nat) (t : Nat → Nat), 0 < i ∧ i ≤ m - lo ∧ 0 < j ∧ j ≤ hi - m ∧ rot t (m - i) m (m + j) = rot s lo m hi ∧ Kept [b] w w' ∧ HB w' b n E t ∧ Fr 58 a' ∧ Slots [(0, .slice (some ⟨b, 0, none⟩) n c), (1, .int .i64 (lo : Nat)), (2, .int .i64 (m : Nat)), (3, .int .i64 (hi : Nat)), (4, .func (.func 27) #[] #[]), (10, .int .i64 (i : Nat)), (11, .int .i64 (j : Nat))] a') (fun a' _ => (intOf (sl a' 10)).toNat + (intOf (sl a' 11)).toNat) ⟨m - lo, hi - m, s, by omega, by omega, by omega, by omega, by rw [show m - (m - lo) = lo by omega, show m + (hi - m) = hi by omega], Kept.refl _ _, hH, f2, s2⟩ ?_)
  rintro a3 w3 ⟨i, j, t, i0, i1, j0, j1, ht, kp, hB, f3, s3⟩
  have mu : (intOf (sl a3 10)).toNat = i := by
    have : sl a3 10 = .int .i64 (i : Nat) := s3.2.2.2.2.2.1
    rw [this]; simp only [intOf]; omega
  have mv : (intOf (sl a3 11)).toNat = j := by
    have : sl a3 11 = .int .i64 (j : Nat) := s3.2.2.2.2.2.2.1
    rw [this]; simp only [intOf]; omega
  refine wp_nav rfl (yh _ _ _ _ _ _ i j _ _ _ f3 s3 (fun a4 hne f4 s4 => ?_) (fun a4 heq f4 s4 => ?_))
  · refine wp_navB (id := 1) rfl ?_
    refine wp_nav rfl (y3 _ _ _ _ _ _ i j _ _ _ f4 s4 fun a5 f5 s5 => ?_)
    have s5' : Slots [(0, .slice (some ⟨b, 0, none⟩) n c), (1, .int .i64 (lo : Nat)), (2, .int .i64 (m : Nat)), (3, .int .i64 (hi : Nat)), (4, .func (.func 27) #[] #[]), (10, .int .i64 (i : Nat)), (11, .int .i64 (j : Nat))] a5 := ⟨s5.1, s5.2.1, s5.2.2.1, s5.2.2.2.1, s5.2.2.2.2.1, s5.2.2.2.2.2.1, s5.2.2.2.2.2.2.1, trivial⟩
    refine wp_navI (j := 23) rfl s5.2.2.2.2.2.2.2.1 (fun hg => ?_) (fun hg => ?_)
    · have hlt : j < i := by simpa using hg
      refine y4 _ _ _ _ _ _ i j (m - i) (i - j) _ _ _ _ f5 s5' (by rw [IntKind.wrap_i64]; omega) (by rw [IntKind.wrap_i64]; omega) (swap35 b n c (m - i) m j E t w3 hB ln (by omega) (by omega)) fun a6 w6 hG f6 s6 => ?_
      refine ⟨⟨i - j, j, _, by omega, by omega, j0, j1, ?_, kp.trans hG.1, hG.2, f6, s6⟩, ?_⟩
      · rw [rot_gt t m i j (by omega) hlt j0]; exact ht
      have mu2 : (intOf (sl a6 10)).toNat = i - j := by
        have : sl a6 10 = .int .i64 (i - j : Nat) := s6.2.2.2.2.2.1
        rw [this]; simp only [intOf]; omega
      have mv2 : (intOf (sl a6 11)).toNat = j := by
        have : sl a6 11 = .int .i64 (j : Nat) := s6.2.2.2.2.2.2.1
        rw [this]; simp only [intOf]; omega
      rw [mu, mv, mu2, mv2]; omega
    · have hlt : i < j := by
        have : ¬ j < i := by simpa using hg
        omega
      refine y6 _ _ _ _ _ _ i j (m - i) (m + j) (m + j - i) (j - i) _ _ _ _ f5 s5' (by rw [IntKind.wrap_i64]; omega) (by rw [IntKind.wrap_i64]; omega) (by rw [IntKind.wrap_i64]; omega) (by rw [IntKind.wrap_i64]; omega) (swap35 b n c (m - i) (m + j - i) i E t w3 hB ln (by omega) (by omega)) fun a6 w6 hG f6 s6 => ?_
      refine ⟨⟨i, j - i, _, i0, i1, by omega, by omega, ?_, kp.trans hG.1, hG.2, f6, s6⟩, ?_⟩
      · rw [rot_lt t m i j (by omega) hlt i0]; exact ht
      have mu2 : (intOf (sl a6 10)).toNat = i := by
        have : sl a6 10 = .int .i64 (i : Nat) := s6.2.2.2.2.2.1
        rw [this]; simp only [intOf]; omega
      have mv2 : (intOf (sl a6 11)).toNat = j - i := by
        have : sl a6 11 = .int .i64 (j - i : Nat) := s6.2.2.2.2.2.2.1
        rw [this]; simp only [intOf]; omega
      rw [mu, mv, mu2, mv2]; omega
  · subst heq
    simp only [Exit.inBlock, Exit.then, if_true]
    refine y8 _ _ _ _ _ _ i (m - i) _ _ _ _ f4 ⟨s4.1, s4.2.1, s4.2.2.1, s4.2.2.2.1, s4.2.2.2.2.1, s4.2.2.2.2.2.1, trivial⟩ (by rw [IntKind.wrap_i64]; omega) (swap35 b n c (m - i) m i E t w3 hB ln (by omega) (by omega)) fun a6 w6 hG f6 s6 => ?_
    refine bodyPost_end (results_none rfl _ _ _) f6.defers ⟨rfl, kp.trans hG.1, ?_⟩
    rw [← ht, ← rot_eq t m i (by omega)]; exact hG.2

theorem ins_inner (b n c lo hi i : Nat) (E : Nat → Hd) (hL : Weak (LE E)) (s : Nat → Nat) (a : Act) (w : World) (Q : Exit → Act → World → Prop) (hfr : Fr 53 a) (hs : Slots [(0, .slice (some ⟨b, 0, none⟩) n c), (1, .int .i64 (lo : Nat)), (2, .int .i64 (hi : Nat)), (3, .func (.func 27) #[] #[]), (8, .int .i64 (i : Nat)), (9, .int .i64 (i : Nat))] a) (hH : HB w b n E s) (ln : n ≤ 4096) (hin : i < n)
    (hI : Ins (LE E) s lo i i)
    (hexit : ∀ a' w' t, Kept [b] w w' → HB w' b n E t → Same lo (i + 1) s t → Sorted (LE E) t lo (i + 1) → Fr 53 a' → Slots [(0, .slice (some ⟨b, 0, none⟩) n c), (1, .int .i64 (lo : Nat)), (2, .int .i64 (hi : Nat)), (3, .func (.func 27) #[] #[]), (8, .int .i64 (i : Nat))] a' → Q (.exit 2) a' w') :
    Code.wp Try.prog (inC (tlC (inC (hdC (tlC (inC (inC (tlC (bodyC Try.f31))))))))) Q a w := by
  refine wp_navL rfl (wp_loop (fun a' w' => ∃ (j : Nat) (t : Nat → Nat), Ins (LE E) t lo i j ∧ Same lo (i + 1) s t ∧ Kept [b] w w' ∧ HB w' b n E t ∧ Fr 53 a' ∧ Slots [(0, .slice (some ⟨b, 0, none⟩) n c), (1, .int .i64 (lo : Nat)), (2, .int .i64 (hi : Nat)), (3, .func (.func 27) #[] #[]), (8, .int .i64 (i : Nat)), (9, .int .i64 (j : Nat))] a') (fun a' _ => (intOf (sl a' 9)).toNat) ⟨i, s, hI, Same.refl _ _ _, Kept.refl _ _, hH, hfr, hs⟩ ?_)
  rintro a1 w1 ⟨j, t, hJ, hsm, kp, hB, f1, s1⟩
  have mu : (intOf (sl a1 9)).toNat = j := by
    have : sl a1 9 = .int .i64 (j : Nat) := s1.2.2.2.2.2.1
    rw [this]; simp only [intOf]; omega
  have hjl := hJ.lo
  have hjh := hJ.hi
  by_cases hlt : lo < j
  · refine wp_nav rfl (wp_nav rfl (r31 b n c lo hi i j (j - 1) (E (t j)) (E (t (j - 1))) _ (fun w' => Kept [] w1 w') _ _ _ f1 s1 (by rw [IntKind.wrap_i64]; omega) (by omega) (by omega) (cellsE hB (by omega) (by omega)) (by omega) (cmpE hB (by omega) (by omega)) fun a2 w2 k2 f2 s2 => ?_))
    have s2' : Slots [(0, .slice (some ⟨b, 0, none⟩) n c), (1, .int .i64 (lo : Nat)), (2, .int .i64 (hi : Nat)), (3, .func (.func 27) #[] #[]), (8, .int .i64 (i : Nat)), (9, .int .i64 (j : Nat))] a2 := ⟨s2.1, s2.2.1, s2.2.2.1, s2.2.2.2.1, s2.2.2.2.2.1, s2.2.2.2.2.2.1, trivial⟩
    have hB2 := hB.keep k2 (by simp)
    have kp2 := kp.trans (k2.wide (Y := [b]) (by simp))
    refine wp_navI (j := 34) rfl s2.2.2.2.2.2.2.1 (fun hc => ?_) (fun hc => ?_)
    · refine wp_skip' rfl ?_
      simp only [Exit.then]
      refine wp_nav rfl (wp_navB (id := 3) rfl ?_)
      refine w31 b n c lo hi i j (j - 1) (E (t (j - 1))) (E (t j)) a2 w2 _ f2 s2' (by rw [IntKind.wrap_i64]; omega) (by omega) (hB2.c0 (by omega)) (hB2.c1 (by omega)) (by omega) (hB2.c0 (by omega)) (hB2.c1 (by omega)) (by omega) hB2.frozen fun a3 f3 s3 => ?_
      refine i5 _ _ _ _ _ _ j (j - 1) _ _ _ f3 s3 (by rw [IntKind.wrap_i64]; omega) fun a4 f4 s4 => ?_
      refine ⟨⟨j - 1, _, hJ.step hlt hc, hsm.trans (Same.sw t (by omega) (by omega)), kp2.trans (keptSwap _ _ _ _), hB2.swap' (by omega) (by omega), f4, s4⟩, ?_⟩
      have mu2 : (intOf (sl a4 9)).toNat = j - 1 := by
        have : sl a4 9 = .int .i64 (j - 1 : Nat) := s4.2.2.2.2.2.1
        rw [this]; simp only [intOf]; omega
      rw [mu, mu2]; omega
    · have ex : Code.wp Try.prog (elC (tlC (hdC (inC (inC (tlC (inC (hdC (tlC (inC (inC (tlC (bodyC Try.f31))))))))))))) (fun e a' w' => e = .exit 2 ∧ a' = a2 ∧ w' = w2) a2 w2 := by
        show Code.wp Try.prog (Code.exit 2) _ _ _
        exact wp_exit ⟨rfl, rfl, rfl⟩
      refine wp_mono ex ?_
      rintro e a' w' ⟨rfl, ha1, hw1⟩
      rw [ha1, hw1]
      exact hexit a2 w2 t kp2 hB2 hsm (hJ.done hL (.inr hc)) f2 ⟨s2.1, s2.2.1, s2.2.2.1, s2.2.2.2.1, s2.2.2.2.2.1, trivial⟩
  · refine wp_nav rfl (wp_nav rfl (i4z _ _ _ _ _ _ j _ _ _ f1 s1 (by omega) fun a2 q f2 s2 => ?_))
    refine wp_navI (j := 34) rfl s2.2.2.2.2.2.2.1 (fun hc => by cases hc) (fun hc => ?_)
    have ex : Code.wp Try.prog (elC (tlC (hdC (inC (inC (tlC (inC (hdC (tlC (inC (inC (tlC (bodyC Try.f31))))))))))))) (fun e a' w' => e = .exit 2 ∧ a' = a2 ∧ w' = w1.drewN q) a2 (w1.drewN q) := by
      show Code.wp Try.prog (Code.exit 2) _ _ _
      exact wp_exit ⟨rfl, rfl, rfl⟩
    refine wp_mono ex ?_
    rintro e a' w' ⟨rfl, ha1, hw1⟩
    rw [ha1, hw1]
    exact hexit a2 _ t (kp.drewN q) (hB.keep ((Kept.refl [] w1).drewN q) (by simp)) hsm (hJ.done hL (.inl (by omega))) f2 ⟨s2.1, s2.2.1, s2.2.2.1, s2.2.2.2.1, s2.2.2.2.2.1, trivial⟩

theorem insert31 (b n c lo hi : Nat) (E : Nat → Hd) (hL : Weak (LE E)) (s : Nat → Nat) (w : World) (hH : HB w b n E s) (ln : n ≤ 4096) (h1 : lo ≤ hi) (h2 : hi ≤ n) (asc : ∀ p q, lo ≤ p → p < q → q < hi → s p < s q) :
    Calls Try.prog 31 #[.slice (some ⟨b, 0, none⟩) n c, .int .i64 (lo : Nat), .int .i64 (hi : Nat), .func (.func 27) #[] #[]] w fun e w' => e = .returned (.tuple #[]) ∧ Kept [b] w w' ∧ ∃ t, HB w' b n E t ∧ Mrg (LE E) lo hi s t := by
  refine calls_nav 53 Try.func31 rfl rfl (by simp) fun a fr0 ha => ?_
  have s0 : Slots [(0, .slice (some ⟨b, 0, none⟩) n c), (1, .int .i64 (lo : Nat)), (2, .int .i64 (hi : Nat)), (3, .func (.func 27) #[] #[])] a := ⟨ha 0 (by simp), ha 1 (by simp), ha 2 (by simp), ha 3 (by simp), trivial⟩
  refine wp_nav rfl (i0 _ _ _ _ _ _ _ _ fr0 s0 (by omega) fun a1 f1 s1 => ?_)
  refine wp_navB (id := 0) rfl ?_
  refine wp_navL rfl (wp_loop (fun a' w' => ∃ (i : Nat) (t : Nat → Nat), lo + 1 ≤ i ∧ (i ≤ hi ∨ i = lo + 1) ∧ Same lo i s t ∧ Sorted (LE E) t lo i ∧ Kept [b] w w' ∧ HB w' b n E t ∧ Fr 53 a' ∧ Slots [(0, .slice (some ⟨b, 0, none⟩) n c), (1, .int .i64 (lo : Nat)), (2, .int .i64 (hi : Nat)), (3, .func (.func 27) #[] #[]), (8, .int .i64 (i : Nat))] a') (fun a' _ => hi - (intOf (sl a' 8)).toNat) ⟨lo + 1, s, Nat.le_refl _, .inr rfl, Same.refl _ _ _, fun p q p1 pq q1 => by omega, Kept.refl _ _, hH, f1, s1⟩ ?_)
  rintro a2 w2 ⟨i, t, g1, g2, hsm, hso, kp, hB, f2, s2⟩
  have mu : (intOf (sl a2 8)).toNat = i := by
    have : sl a2 8 = .int .i64 (i : Nat) := s2.2.2.2.2.1
    rw [this]; simp only [intOf]; omega
  refine wp_nav rfl (i1h _ _ _ _ _ i _ _ _ f2 s2 (fun a3 hlt f3 s3 => ?_) (fun a3 hke f3 s3 => ?_))
  · refine wp_nav rfl (wp_navB (id := 1) rfl ?_)
    refine wp_nav rfl (i3 _ _ _ _ _ i _ _ _ f3 s3 fun a4 f4 s4 => ?_)
    refine wp_navB (id := 2) rfl ?_
    refine ins_inner b n c lo hi i E hL t a4 w2 _ f4 s4 hB ln (by omega) (Ins.start hso (by omega) fun p p1 p2 => ?_) (fun a5 w5 t5 k5 hB5 hs5 ho5 f5 s5 => ?_)
    · obtain ⟨p', q1, q2, q3⟩ := hsm.fro p p1 p2
      rw [q3, hsm.out i (by omega)]
      exact asc p' i q1 (by omega) hlt
    · simp only [Exit.inBlock, Exit.then, if_true]
      refine i2 _ _ _ _ _ i _ _ _ f5 s5 (by omega) fun a6 f6 s6 => ?_
      refine ⟨⟨i + 1, t5, by omega, by omega, (hsm.wide (Nat.le_refl _) (by omega)).trans hs5, ho5, kp.trans k5, hB5, f6, s6⟩, ?_⟩
      have mu2 : (intOf (sl a6 8)).toNat = i + 1 := by
        have : sl a6 8 = .int .i64 (i + 1 : Nat) := s6.2.2.2.2.1
        rw [this]; simp only [intOf]; omega
      rw [mu, mu2]; omega
  · simp only [Exit.inBlock, Exit.then, if_true]
    refine bodyPost_end (results_none rfl _ _ _) f3.defers ⟨rfl, kp, t, hB, ?_⟩
    by_cases e : i = hi
    · subst e; exact ⟨hsm, hso⟩
    · have e1 : i = lo + 1 := by omega
      have e2 : hi ≤ lo := by omega
      obtain rfl : lo = hi := by omega
      subst e1
      have eq : ∀ j, t j = s j := fun j => by
        by_cases ej : j = lo
        · obtain ⟨k, k1, k2, k3⟩ := hsm.fro lo (Nat.le_refl _) (by omega)
          rw [ej, k3, show k = lo by omega]
        · exact hsm.out j (by omega)
      exact ⟨⟨fun j j1 j2 => by omega, fun j j1 j2 => by omega, fun j _ => eq j⟩, fun p q p1 pq q1 => by omega⟩

end Go.Proofs.Qxb6601010a
