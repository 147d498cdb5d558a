import Derived.Test.Qxb6602526aC8
import Derived.Test.Qxb6602526aIn
namespace Go.Proofs.Qxb6602526a
open Go.RowKit
set_option linter.unusedSimpArgs false
set_option linter.unusedVariables false

/-- The copies' rows. -/
structure PRows (K I : Nat) (xp xc xi xr : Option Addr) (pb cb ib rb : Nat) (p ck fi fr : Nat → Int) (w : World) : Prop where
  e : 0 < K → xp = some ⟨pb, 0, none⟩ ∧ xc = some ⟨cb, 0, none⟩ ∧ xi = some ⟨ib, 0, none⟩ ∧ xr = some ⟨rb, 0, none⟩
  lt : 0 < K → pb < w.heap.size ∧ cb < w.heap.size ∧ ib < w.heap.size ∧ rb < w.heap.size
  cp : ∀ i, i < K → w.cell? ⟨pb, i, none⟩ = some (.int .u64 (p i))
  cc : ∀ i, i < K → w.cell? ⟨cb, i, none⟩ = some (.int .i64 (ck i))
  ci : ∀ i, i < I → w.cell? ⟨ib, i, none⟩ = some (.int .u8 (fi i))
  cr : ∀ i, i < I → w.cell? ⟨rb, i, none⟩ = some (.int .u8 (fr i))
theorem PRows.keep {K I : Nat} {xp xc xi xr : Option Addr} {pb cb ib rb : Nat} {p ck fi fr : Nat → Int} {w w' : World} {X : List Nat} (h : PRows K I xp xc xi xr pb cb ib rb p ck fi fr w) (hI : 0 < I → 0 < K) (hk : Kept X w w')
    (hX : 0 < K → pb ∉ X ∧ cb ∉ X ∧ ib ∉ X ∧ rb ∉ X) : PRows K I xp xc xi xr pb cb ib rb p ck fi fr w' := by
  have hs := hk.size
  refine ⟨h.e, fun h0 => ?_, fun i hi => ?_, fun i hi => ?_, fun i hi => ?_, fun i hi => ?_⟩
  · obtain ⟨l1, l2, l3, l4⟩ := h.lt h0
    exact ⟨by omega, by omega, by omega, by omega⟩
  · rw [hk.cell (p := ⟨pb, i, none⟩) (h.lt (by omega)).1 (hX (by omega)).1]; exact h.cp i hi
  · rw [hk.cell (p := ⟨cb, i, none⟩) (h.lt (by omega)).2.1 (hX (by omega)).2.1]; exact h.cc i hi
  · rw [hk.cell (p := ⟨ib, i, none⟩) (h.lt (hI (by omega))).2.2.1 (hX (hI (by omega))).2.2.1]; exact h.ci i hi
  · rw [hk.cell (p := ⟨rb, i, none⟩) (h.lt (hI (by omega))).2.2.2 (hX (hI (by omega))).2.2.2]; exact h.cr i hi

theorem l5_round (fa fb : Int) (m K I : Nat) (xp xc xi xr : Option Addr) (b1 b2 : Nat) (pb cb ib rb k : Nat) (p ck fi fr : Nat → Int) (T1 T2 : AW) (a : Act) (w : World) (Q : Exit → Act → World → Prop) (hfr : Fr 178 a) (hs : Slots [(0, .int .u64 fa), (1, .int .u64 fb), (2, .int .i64 (m : Nat)), (3, .slice xp K K), (4, .slice xc K K), (5, .slice xi I I), (6, .slice xr I I), (15, .pointer (some ⟨b1, 0, none⟩)), (16, .pointer (some ⟨b2, 0, none⟩)), (17, .int .i64 (k : Nat))] a)
    (hR : PRows K I xp xc xi xr pb cb ib rb p ck fi fr w) (hX : pb ∉ [b1, b2] ∧ cb ∉ [b1, b2] ∧ ib ∉ [b1, b2] ∧ rb ∉ [b1, b2]) (hb : b1 ≠ b2)
    (hk : k < K) (hI : I = m * K) (hm : 0 < m) (lI : (I : Int) ≤ 1048576) (lm : (m : Int) ≤ 65536) (B1 : IsB w b1 T1.arr 88) (B2 : IsB w b2 T2.arr 88)
    (hQ : ∀ a' w', Kept [b1, b2] w w' → IsB w' b1 (T1.obs m (p k) (ck k) (fun i => fi (k * m + i)) (fun i => fr (k * m + i))).arr 88 → IsB w' b2 (T2.obs m (p k) (ck k) (fun i => fi (k * m + i)) (fun i => fr (k * m + i))).arr 88 → Fr 178 a' → Slots [(0, .int .u64 fa), (1, .int .u64 fb), (2, .int .i64 (m : Nat)), (3, .slice xp K K), (4, .slice xc K K), (5, .slice xi I I), (6, .slice xr I I), (15, .pointer (some ⟨b1, 0, none⟩)), (16, .pointer (some ⟨b2, 0, none⟩)), (17, .int .i64 (k : Nat))] a' → Q .normal a' w') :
    Code.wp Try.prog (inC (hdC (tlC (inC (inC (tlC (nthC 12 (bodyC Try.f5)))))))) Q a w := by
  obtain ⟨h1, h2, h3, h4, h5, h6, h7, h8⟩ := bounds hI hk hm lI
  have hIK : 0 < I → 0 < K := fun _ => by omega
  obtain ⟨x1, x2, x3, x4⟩ := hX
  simp only [List.mem_cons, List.not_mem_nil, or_false, not_or] at x1 x2 x3 x4
  obtain ⟨e1, e2, e3, e4⟩ := hR.e (by omega)
  subst e1 e2 e3 e4
  have step : ∀ (b : Nat) (T : AW) (w : World), PRows K I (some ⟨pb, 0, none⟩) (some ⟨cb, 0, none⟩) (some ⟨ib, 0, none⟩) (some ⟨rb, 0, none⟩) pb cb ib rb p ck fi fr w → pb ≠ b → cb ≠ b → ib ≠ b → rb ≠ b → IsB w b T.arr 88 →
      Calls Try.prog 20 #[.pointer (some ⟨b, 0, none⟩), .int .u64 (p k), .int .i64 (ck k), .slice (some ⟨ib, k * m, none⟩) ((k + 1) * m - k * m) (I - k * m), .slice (some ⟨rb, k * m, none⟩) ((k + 1) * m - k * m) (I - k * m)] w.drew
        fun e w' => e = .returned (.tuple #[]) ∧ (fun w' : World => w'.cell? ⟨pb, k, none⟩ = some (.int .u64 (p k)) ∧ w'.cell? ⟨cb, k, none⟩ = some (.int .i64 (ck k))) w' ∧ (Kept [b] w w' ∧ IsB w' b (T.obs m (p k) (ck k) (fun i => fi (k * m + i)) (fun i => fr (k * m + i))).arr 88) := by
    intro b T w hR g1 g2 g3 g4 hB
    obtain ⟨l1, l2, l3, l4⟩ := hR.lt (by omega)
    have e1 : (k + 1) * m = k * m + m := Nat.succ_mul k m
    rw [h7]
    refine (obs20 b ib (k * m) rb (k * m) m (I - k * m) (I - k * m) (p k) (ck k) T (fun i => fi (k * m + i)) (fun i => fr (k * m + i)) w.drew lm hm hB g3 g4 l3 l4 (fun i hi => hR.ci _ (by omega)) (fun i hi => hR.cr _ (by omega))).mono ?_
    rintro e w' ⟨he, kp, hB'⟩
    have kp' : Kept [b] w w' := (Kept.refl _ _).drew.trans kp
    refine ⟨he, ⟨?_, ?_⟩, kp', hB'⟩
    · rw [kp'.cell (p := ⟨pb, k, none⟩) l1 (by simpa using g1)]; exact hR.cp k hk
    · rw [kp'.cell (p := ⟨cb, k, none⟩) l2 (by simpa using g2)]; exact hR.cc k hk
  refine wp_nav rfl (l5_20 fa fb m K I pb cb ib rb b1 b2 k (k * m) ((k + 1) * m) (p k) (ck k) _ _ _ _ hfr hs h1 h2 h3 h4 h5 h6 (by omega) (hR.cp k hk) (hR.cc k hk) (step b1 T1 w hR x1.1 x2.1 x3.1 x4.1 B1) fun a1 w1 hG fr1 s1 => ?_)
  obtain ⟨k1, C1⟩ := hG
  have R1 := hR.keep hIK k1 (fun _ => ⟨by simpa using x1.1, by simpa using x2.1, by simpa using x3.1, by simpa using x4.1⟩)
  have D1 := k1.isB B2 (by simpa using fun e => hb e.symm)
  refine l5_21 fa fb m K I pb cb ib rb b1 b2 k (k * m) ((k + 1) * m) (p k) (ck k) _ _ _ _ fr1 s1 h1 h2 h3 h4 h5 h6 (by omega) (R1.cp k hk) (R1.cc k hk) (step b2 T2 w1 R1 x1.2 x2.2 x3.2 x4.2 D1) fun a2 w2 hG fr2 s2 => ?_
  obtain ⟨k2, D2⟩ := hG
  exact hQ a2 w2 ((k1.wide (by simp)).trans (k2.wide (by simp))) (k2.isB C1 (by simpa using hb)) D2 fr2 s2

theorem l5_loop (fa fb : Int) (m K I : Nat) (xp xc xi xr : Option Addr) (b1 b2 : Nat) (pb cb ib rb : Nat) (p ck fi fr : Nat → Int) (a : Act) (w : World) (Q : Exit → Act → World → Prop) (hfr : Fr 178 a) (hs : Slots [(0, .int .u64 fa), (1, .int .u64 fb), (2, .int .i64 (m : Nat)), (3, .slice xp K K), (4, .slice xc K K), (5, .slice xi I I), (6, .slice xr I I), (15, .pointer (some ⟨b1, 0, none⟩)), (16, .pointer (some ⟨b2, 0, none⟩)), (17, .int .i64 (0 : Nat))] a)
    (hR : PRows K I xp xc xi xr pb cb ib rb p ck fi fr w) (hX : 0 < K → pb ∉ [b1, b2] ∧ cb ∉ [b1, b2] ∧ ib ∉ [b1, b2] ∧ rb ∉ [b1, b2]) (hb : b1 ≠ b2)
    (lK : (K : Int) ≤ 65536) (hI : I = m * K) (hm : 0 < m) (lI : (I : Int) ≤ 1048576) (lm : (m : Int) ≤ 65536) (B1 : IsB w b1 (AW.new fa).arr 88) (B2 : IsB w b2 (AW.new fb).arr 88)
    (hexit : ∀ a' w', Kept [b1, b2] w w' → IsB w' b1 (AW.run fa m p ck (fun k i => fi (k * m + i)) (fun k i => fr (k * m + i)) K).arr 88 → IsB w' b2 (AW.run fb m p ck (fun k i => fi (k * m + i)) (fun k i => fr (k * m + i)) K).arr 88 → Fr 178 a' → Slots [(0, .int .u64 fa), (1, .int .u64 fb), (2, .int .i64 (m : Nat)), (3, .slice xp K K), (4, .slice xc K K), (5, .slice xi I I), (6, .slice xr I I), (15, .pointer (some ⟨b1, 0, none⟩)), (16, .pointer (some ⟨b2, 0, none⟩))] a' → Q (.exit 0) a' w') :
    Code.wp Try.prog (inC (tlC (nthC 12 (bodyC Try.f5)))) Q a w := by
  have hIK : 0 < I → 0 < K := fun h => by
    rcases Nat.eq_zero_or_pos K with e | e
    · subst e; simp at hI; omega
    · exact e
  refine wp_navL rfl (wp_loop (fun a' w' => ∃ k : Nat, k ≤ K ∧ Kept [b1, b2] w w' ∧ IsB w' b1 (AW.run fa m p ck (fun k i => fi (k * m + i)) (fun k i => fr (k * m + i)) k).arr 88 ∧ IsB w' b2 (AW.run fb m p ck (fun k i => fi (k * m + i)) (fun k i => fr (k * m + i)) k).arr 88 ∧ Fr 178 a' ∧ Slots [(0, .int .u64 fa), (1, .int .u64 fb), (2, .int .i64 (m : Nat)), (3, .slice xp K K), (4, .slice xc K K), (5, .slice xi I I), (6, .slice xr I I), (15, .pointer (some ⟨b1, 0, none⟩)), (16, .pointer (some ⟨b2, 0, none⟩)), (17, .int .i64 (k : Nat))] a') (fun a' _ => K - (intOf (sl a' 17)).toNat) ⟨0, Nat.zero_le _, Kept.refl _ _, B1, B2, hfr, hs⟩ ?_)
  rintro a1 w1 ⟨k, hk, kp, C1, C2, fr1, s1⟩
  have mu : (intOf (sl a1 17)).toNat = k := by
    have : sl a1 17 = .int .i64 (k : Nat) := s1.2.2.2.2.2.2.2.2.2.1
    rw [this]; simp only [intOf]; omega
  refine wp_nav rfl (l5_12h _ _ _ _ _ _ _ _ _ _ _ k a1 w1 _ fr1 s1 hk lK (fun a2 hlt fr2 s2 => ?_) (fun a2 hke fr2 s2 => by subst hke; exact hexit a2 w1 kp C1 C2 fr2 s2))
  refine wp_nav rfl (wp_navB (id := 1) rfl ?_)
  refine l5_round _ _ _ _ _ _ _ _ _ _ _ pb cb ib rb k p ck fi fr _ _ a2 w1 _ fr2 s2 (hR.keep hIK kp hX) (hX (by omega)) hb hlt hI hm lI lm C1 C2 (fun a3 w3 kp3 D1 D2 fr3 s3 => ?_)
  refine l5_12n _ _ _ _ _ _ _ _ _ _ _ k a3 w3 _ fr3 s3 (by omega) (fun a4 fr4 s4 => ?_)
  refine ⟨⟨k + 1, by omega, kp.trans kp3, D1, D2, fr4, s4⟩, ?_⟩
  have mu2 : (intOf (sl a4 17)).toNat = k + 1 := by
    have : sl a4 17 = .int .i64 (k + 1 : Nat) := s4.2.2.2.2.2.2.2.2.2.1
    rw [this]; simp only [intOf]; omega
  rw [mu, mu2]; omega

def Fin5 (w0 : World) : Exit → Act → World → Prop := bodyPost Try.prog Try.f5 fun e w' => e = .returned (.bool true) ∧ Below w0.heap.size w0 w'
theorem fin5 {w0 w : World} {a : Act} (hf : Fr 178 a) (h : sl a 14 = .bool true) (hk : Kept [] w0 w) : Fin5 w0 .ret a w :=
  bodyPost_ret (results_tmp rfl _ _ _) hf.defers ⟨by rw [show a.tmps.getD 14 undef = .bool true from h], hk.below _ (Nat.le_refl _) (by simp)⟩

/-- THE LAW. -/
theorem l5_walk (fa fb n : Int) (xp : Option Addr) (K kc pb po : Nat) (xc : Option Addr) (C cc cb co : Nat) (xi : Option Addr) (I ic ib io : Nat) (xr : Option Addr) (R rc rb ro : Nat) (p ck fi fr : Nat → Int) (w : World)
    (i1 : RowIn xp pb po K kc w) (i2 : RowIn xc cb co C cc w) (i3 : RowIn xi ib io I ic w) (i4 : RowIn xr rb ro R rc w)
    (v1 : ∀ i, i < K → w.cell? ⟨pb, po + i, none⟩ = some (.int .u64 (p i))) (v2 : ∀ i, i < C → w.cell? ⟨cb, co + i, none⟩ = some (.int .i64 (ck i)))
    (v3 : ∀ i, i < I → w.cell? ⟨ib, io + i, none⟩ = some (.int .u8 (fi i))) (v4 : ∀ i, i < R → w.cell? ⟨rb, ro + i, none⟩ = some (.int .u8 (fr i))) :
    Calls Try.prog 5 #[.int .u64 fa, .int .u64 fb, .int .i64 n, .slice xp K kc, .slice xc C cc, .slice xi I ic, .slice xr R rc] w fun e w' => e = .returned (.bool true) ∧ Below w.heap.size w w' := by
  refine calls_nav 178 Try.func5 rfl rfl (by simp) fun a fr0 ha => ?_
  have s0 : Slots [(0, .int .u64 fa), (1, .int .u64 fb), (2, .int .i64 n), (3, .slice xp K kc), (4, .slice xc C cc), (5, .slice xi I ic), (6, .slice xr R rc)] a := ⟨ha 0 (by simp), ha 1 (by simp), ha 2 (by simp), ha 3 (by simp), ha 4 (by simp), ha 5 (by simp), ha 6 (by simp), trivial⟩
  show Code.wp _ _ (Fin5 w) _ _
  have hret : ∀ a' w', Fr 178 a' → sl a' 14 = .bool true → Kept [] w w' → Fin5 w .ret a' w' := fun a' w' f' s' k' => fin5 f' s' k'
  have e1 := i1.len
  have e2 := i2.len
  have e3 := i3.len
  have e4 := i4.len
  refine wp_nav rfl (l5_0 _ _ _ _ _ _ _ _ _ _ _ _ _ _ _ _ _ _ fr0 s0 fun a1 f1 s1 => ?_)
  refine wp_nav rfl (l5_1 _ _ _ _ _ _ _ _ _ _ _ _ _ _ _ _ _ _ f1 s1 e1 e2 e3 e4 (fun a2 hle f2 s2 => ?_) hret)
  refine wp_nav rfl (l5_2 _ _ _ _ _ _ _ _ _ _ _ _ _ _ _ _ _ _ f2 s2 (by omega) (by omega) (by omega) (by omega) (fun a3 t1 t2 f3 s3 => ?_) hret)
  refine wp_nav rfl (l5_3 _ _ _ _ _ _ _ _ _ _ _ _ _ _ _ _ _ _ f3 s3 (by omega) (by omega) (by omega) (by omega) (fun a4 f4 s4 => ?_) hret)
  refine wp_nav rfl (l5_4 _ _ _ _ _ _ _ _ _ _ _ _ _ _ _ _ _ _ f4 s4 (by omega) (by omega) (by omega) (by omega) (fun a5 hsh f5 s5 => ?_) hret)
  refine wp_nav rfl (l5_5 _ _ _ _ _ _ _ _ _ _ _ _ _ _ _ _ _ _ f5 s5 (fun a6 hab f6 s6 => ?_) hret)
  obtain ⟨g1, g2, rfl, g3, g4⟩ := hsh
  obtain ⟨m, rfl⟩ : ∃ m : Nat, n = m := ⟨n.toNat, by omega⟩
  have gI : I = m * C := by rw [← Int.natCast_mul] at g3; exact Int.ofNat.inj g3
  have gR : R = I := by rw [← g3] at g4; exact Int.ofNat.inj g4
  subst gR
  refine wp_nav rfl (l5_6 _ _ _ _ _ _ _ _ _ _ _ _ _ _ _ _ _ _ _ f6 s6 (copyU64_all xp pb po _ kc p w (by omega) i1.nil i1.ptr v1 i1.lt) (fun a7 y1 w1 hG f7 s7 => ?_))
  obtain ⟨k1, -, d1⟩ := hG
  refine wp_nav rfl (l5_7 _ _ _ _ _ _ _ _ _ _ _ _ _ _ _ _ _ _ _ f7 s7 (copyInt_all xc cb co _ cc ck w1 (by omega) i2.nil i2.ptr (fun i hi => (k1.cell (p := ⟨cb, co + i, none⟩) (i2.lt (by omega)) (by simp)).trans (v2 i hi)) (fun h => Nat.lt_of_lt_of_le (i2.lt h) k1.size)) (fun a8 y2 w2 hG f8 s8 => ?_))
  obtain ⟨kk2, -, d2⟩ := hG
  have k2 := k1.trans kk2
  refine wp_nav rfl (l5_8 _ _ _ _ _ _ _ _ _ _ _ _ _ _ _ _ _ _ _ f8 s8 (copyU8_all xi ib io _ ic fi w2 (by omega) i3.nil i3.ptr (fun i hi => (k2.cell (p := ⟨ib, io + i, none⟩) (i3.lt (by omega)) (by simp)).trans (v3 i hi)) (fun h => Nat.lt_of_lt_of_le (i3.lt h) k2.size)) (fun a9 y3 w3 hG f9 s9 => ?_))
  obtain ⟨kk3, -, d3⟩ := hG
  have k3 := k2.trans kk3
  refine wp_nav rfl (l5_9 _ _ _ _ _ _ _ _ _ _ _ _ _ _ _ _ _ _ _ f9 s9 (copyU8_all xr rb ro _ rc fr w3 (by omega) i4.nil i4.ptr (fun i hi => (k3.cell (p := ⟨rb, ro + i, none⟩) (i4.lt (by omega)) (by simp)).trans (v4 i hi)) (fun h => Nat.lt_of_lt_of_le (i4.lt h) k3.size)) (fun a10 y4 w4 hG f10 s10 => ?_))
  obtain ⟨kk4, -, d4⟩ := hG
  have k4 := k3.trans kk4
  have hIK : 0 < R → 0 < C := fun h => by
    rcases Nat.eq_zero_or_pos C with e | e
    · subst e; simp at gI; omega
    · exact e
  have hKI : 0 < C → 0 < R := fun h => by rw [gI]; exact Nat.mul_pos (by omega) h
  have B1 := fun h => (kk2.trans (kk3.trans kk4)).isB (d1 h).2 (by simp)
  have B2 := fun h => (kk3.trans kk4).isB (d2 h).2 (by simp)
  have B3 := fun h => kk4.isB (d3 h).2 (by simp)
  have B4 := fun h => (d4 h).2
  have R4 : PRows C R y1 y2 y3 y4 w.heap.size w1.heap.size w2.heap.size w3.heap.size p ck fi fr w4 :=
    ⟨fun h => ⟨(d1 h).1, (d2 h).1, (d3 (hKI h)).1, (d4 (hKI h)).1⟩, fun h => ⟨(B1 h).lt, (B2 h).lt, (B3 (hKI h)).lt, (B4 (hKI h)).lt⟩,
     fun k hk => by rw [(B1 (by omega)).cell, rowA_at _ _ _ hk], fun k hk => by rw [(B2 (by omega)).cell, rowA_at _ _ _ hk], fun k hk => by rw [(B3 (by omega)).cell, rowA_at _ _ _ hk], fun k hk => by rw [(B4 (by omega)).cell, rowA_at _ _ _ hk]⟩
  have s10' : Slots [(0, .int .u64 fa), (1, .int .u64 fb), (2, .int .i64 (m : Nat)), (3, .slice y1 C C), (4, .slice y2 C C), (5, .slice y3 R R), (6, .slice y4 R R)] a10 := s10
  refine wp_nav rfl (l5_10 _ _ _ _ _ _ _ _ _ _ _ _ f10 s10' fun a11 f11 s11 => ?_)
  have k5 : Kept [] w4 (w4.alloc (.cells (AW.new fa).arr 88)) := (Kept.refl _ _).alloc _
  have N1 := IsB.new w4 (AW.new fa).arr 88
  have z1 : (w4.alloc (.cells (AW.new fa).arr 88)).heap.size = w4.heap.size + 1 := by simp
  generalize w4.alloc (.cells (AW.new fa).arr 88) = w5 at *
  refine wp_nav rfl (l5_11 _ _ _ _ _ _ _ _ _ _ _ _ _ f11 s11 fun a12 f12 s12 => ?_)
  have k6 : Kept [] w5 (w5.alloc (.cells (AW.new fb).arr 88)) := (Kept.refl _ _).alloc _
  have N1' := N1.alloc (.cells (AW.new fb).arr 88)
  have N2 := IsB.new w5 (AW.new fb).arr 88
  generalize w5.alloc (.cells (AW.new fb).arr 88) = w6 at *
  rw [z1] at N2 s12
  have R6 := R4.keep hIK (k5.trans k6) (fun _ => by simp)
  refine wp_nav rfl (wp_nav rfl (l5_12i _ _ _ _ _ _ _ _ _ _ _ _ _ _ f12 s12 fun a13 f13 s13 => ?_))
  refine wp_navB (id := 0) rfl ?_
  refine l5_loop fa fb m C R y1 y2 y3 y4 w4.heap.size (w4.heap.size + 1) _ _ _ _ p ck fi fr a13 w6 _ f13 s13 R6 (fun h => ?_) (by omega) (by omega) gI (by omega) (by omega) (by omega) N1' N2 (fun a14 w14 k14 O1 O2 f14 s14 => ?_)
  · obtain ⟨l1, l2, l3, l4⟩ := R4.lt h
    simp; omega
  simp only [Exit.inBlock, Exit.then, if_true]
  have lat := later_run hab m p ck (fun k i => fi (k * m + i)) (fun k i => fr (k * m + i)) C
  have k014 : Kept [] w w14 := ((k4.trans k5).trans k6).anew k14 (by simp; have := k4.size; omega)
  refine wp_nav rfl (l5_13 _ _ _ _ _ _ _ _ _ f14 ⟨s14.2.2.2.2.2.2.2.1, s14.2.2.2.2.2.2.2.2.1, trivial⟩ (read21 _ _ _ O1) fun a15 q1 f15 s15 => ?_)
  refine wp_nav rfl (l5_14 _ _ _ _ _ _ _ _ _ _ _ _ f15 s15 (read21 _ _ _ (O2.drewN q1)) fun a16 q2 f16 s16 => ?_)
  rw [← lat.ag] at s16
  exact l5_15 _ _ _ _ _ _ _ _ f16 s16 lat.inv lat.any fun a' f' s' => fin5 f' s' ((k014.drewN q1).drewN q2)

end Go.Proofs.Qxb6602526a
