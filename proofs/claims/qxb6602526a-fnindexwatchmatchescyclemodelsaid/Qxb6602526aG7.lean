import Derived.Test.Qxb6602526aG1
import Derived.Test.Qxb6602526aG3
import Derived.Test.Qxb6602526aG6
namespace Go.Proofs.Qxb6602526a
open Go.RowKit
set_option linter.unusedSimpArgs false
set_option linter.unusedVariables false

theorem l6_17 (kap st : Int) (m K I : Nat) (xp xc xr xi : Option Addr) (b1 : Nat) (pb cb rb ib k : Nat) (p ck fr fi : Nat → Int) (G : World → Prop) (a : Act) (w : World) (Q : Exit → Act → World → Prop) (hfr : Fr 202 a) (hs : Slots [(0, .int .i64 kap), (1, .int .u32 st), (2, .int .i64 (m : Nat)), (3, .slice xp K K), (4, .slice xc K K), (5, .slice xr I I), (6, .slice xi I I), (15, .pointer (some ⟨b1, 0, none⟩)), (16, .int .i64 (k : Nat))] a)
    (hP : RowR .u64 xp pb 0 K p w) (hC : RowR .i64 xc cb 0 K ck w) (hR : RowR .u8 xr rb 0 I fr w) (hX : RowR .u32 xi ib 0 I fi w)
    (hk : k < K) (lK : (K : Int) ≤ 65536) (hI : I = m * K) (lI : (I : Int) ≤ 1048576)
    (hcall : ∀ yr yi rc ic, RowR .u8 yr rb (k * m) m (fun i => fr (k * m + i)) w.drew → RowR .u32 yi ib (k * m) m (fun i => fi (k * m + i)) w.drew →
      Calls Try.prog 27 #[.pointer (some ⟨b1, 0, none⟩), .int .u64 (p k), .int .i64 (ck k), .slice yr m rc, .slice yi m ic] w.drew fun e w' => e = .returned (.tuple #[]) ∧ (fun w' : World => w'.cell? ⟨pb, k, none⟩ = some (.int .u64 (p k)) ∧ w'.cell? ⟨cb, k, none⟩ = some (.int .i64 (ck k))) w' ∧ G w')
    (hQ : ∀ a' w', G w' → Fr 202 a' → Slots [(0, .int .i64 kap), (1, .int .u32 st), (2, .int .i64 (m : Nat)), (3, .slice xp K K), (4, .slice xc K K), (5, .slice xr I I), (6, .slice xi I I), (15, .pointer (some ⟨b1, 0, none⟩)), (16, .int .i64 (k : Nat))] a' → Q .normal a' w') :
    Code.wp Try.prog (inC (hdC (tlC (inC (inC (tlC (nthC 10 (bodyC Try.f6)))))))) Q a w := by
  have e1 := hP.ptr (by omega)
  have e2 := hC.ptr (by omega)
  subst e1 e2
  have cp := hP.cell k hk
  have cc := hC.cell k hk
  rw [Nat.zero_add] at cp cc
  rcases Nat.eq_zero_or_pos m with hm | hm
  · subst hm
    have h0 : I = 0 := by rw [hI, Nat.zero_mul]
    subst h0
    refine l6_17z kap st K pb cb b1 k xr xi (p k) (ck k) G a w Q hfr hs (by decide) (by rw [IntKind.wrap_i64]; omega) (by omega) cp cc (hcall _ _ 0 0 RowR.none RowR.none) hQ
  · obtain ⟨g1, g2, g3, g4, g5, g6, g7, g8⟩ := bounds hI hk hm lI
    have hI0 : 0 < I := by omega
    have e3 := hR.ptr hI0
    have e4 := hX.ptr hI0
    subst e3 e4
    have e5 : (k + 1) * m = k * m + m := Nat.succ_mul k m
    refine l6_17p kap st m K I pb cb rb ib b1 k (k * m) ((k + 1) * m) (p k) (ck k) G a w Q hfr hs g1 g3 g4 g5 g6 g2 (by omega) cp cc ?_ hQ
    rw [g7]
    exact hcall _ _ _ _ ((hR.keep (Kept.refl [] w).drew (by simp)).sub (k * m) m (by omega)) ((hX.keep (Kept.refl [] w).drew (by simp)).sub (k * m) m (by omega))

theorem l6_loop (kap st : Int) (m K I : Nat) (xp xc xr xi : Option Addr) (b1 : Nat) (H0 pb cb rb ib : Nat) (p ck fr fi : Nat → Int) (a : Act) (w : World) (Q : Exit → Act → World → Prop) (hfr : Fr 202 a) (hs : Slots [(0, .int .i64 kap), (1, .int .u32 st), (2, .int .i64 (m : Nat)), (3, .slice xp K K), (4, .slice xc K K), (5, .slice xr I I), (6, .slice xi I I), (15, .pointer (some ⟨b1, 0, none⟩)), (16, .int .i64 (0 : Nat))] a)
    (hP : RowR .u64 xp pb 0 K p w) (hC : RowR .i64 xc cb 0 K ck w) (hR : RowR .u8 xr rb 0 I fr w) (hX : RowR .u32 xi ib 0 I fi w) (r8 : ∀ i, i < I → 0 ≤ fr i ∧ fr i < 256) (x32 : ∀ i, i < I → 0 ≤ fi i ∧ fi i < 4294967296) (t0 : 0 < st) (t1 : st < 4294967296)
    (hlt2 : b1 < H0) (hpl : 0 < K → pb < H0 ∧ cb < H0 ∧ pb ≠ b1 ∧ cb ≠ b1) (hpl2 : 0 < I → rb < H0 ∧ ib < H0 ∧ rb ≠ b1 ∧ ib ≠ b1)
    (lK : (K : Int) ≤ 65536) (hI : I = m * K) (lI : (I : Int) ≤ 1048576) (lm : (m : Int) ≤ 65536) (hH0 : w.heap.size = H0) (hW : ∃ lv1, Wat b1 H0 (IW.run kap st m p ck (fun k i => fr (k * m + i)) (fun k i => fi (k * m + i)) 0) (if 0 = 0 then 0 else m) (fun i => fi ((0 - 1) * m + i)) lv1 w)
    (hexit : ∀ a' w', Kept [b1] w w' → (∃ lv1, Wat b1 H0 (IW.run kap st m p ck (fun k i => fr (k * m + i)) (fun k i => fi (k * m + i)) K) (if K = 0 then 0 else m) (fun i => fi ((K - 1) * m + i)) lv1 w') → Fr 202 a' → Slots [(0, .int .i64 kap), (1, .int .u32 st), (2, .int .i64 (m : Nat)), (3, .slice xp K K), (4, .slice xc K K), (5, .slice xr I I), (6, .slice xi I I), (15, .pointer (some ⟨b1, 0, none⟩))] a' → Q (.exit 0) a' w') :
    Code.wp Try.prog (inC (tlC (nthC 10 (bodyC Try.f6)))) Q a w := by
  refine wp_navL rfl (wp_loop (fun a' w' => ∃ k : Nat, k ≤ K ∧ Kept [b1] w w' ∧ (∃ lv1, Wat b1 H0 (IW.run kap st m p ck (fun k i => fr (k * m + i)) (fun k i => fi (k * m + i)) k) (if k = 0 then 0 else m) (fun i => fi ((k - 1) * m + i)) lv1 w') ∧ Fr 202 a' ∧ Slots [(0, .int .i64 kap), (1, .int .u32 st), (2, .int .i64 (m : Nat)), (3, .slice xp K K), (4, .slice xc K K), (5, .slice xr I I), (6, .slice xi I I), (15, .pointer (some ⟨b1, 0, none⟩)), (16, .int .i64 (k : Nat))] a') (fun a' _ => K - (intOf (sl a' 16)).toNat) ⟨0, Nat.zero_le _, Kept.refl _ _, hW, hfr, hs⟩ ?_)
  rintro a1 w1 ⟨k, hk, kp, ⟨lv, A⟩, fr1, s1⟩
  have mu : (intOf (sl a1 16)).toNat = k := by
    have : sl a1 16 = .int .i64 (k : Nat) := s1.2.2.2.2.2.2.2.2.1
    rw [this]; simp only [intOf]; omega
  refine wp_nav rfl (l6_10h _ _ _ _ _ _ _ _ _ _ k a1 w1 _ fr1 s1 hk lK (fun a2 hlt fr2 s2 => ?_) (fun a2 hke fr2 s2 => by subst hke; exact hexit a2 w1 kp ⟨lv, A⟩ fr2 s2))
  refine wp_nav rfl (wp_navB (id := 1) rfl ?_)
  obtain ⟨l1, l2, l3, l4⟩ := hpl (by omega)
  have hHw : H0 ≤ w1.heap.size := by have := kp.size; omega
  have hIm : 0 < m → k * m + m ≤ I ∧ 0 < I := fun h => by
    have e5 : (k + 1) * m = k * m + m := Nat.succ_mul k m
    have : (k + 1) * m ≤ I := by rw [hI, Nat.mul_comm m K]; exact Nat.mul_le_mul_right m hlt
    omega
  have hkm1 : 0 < m → (k - 1) * m + m ≤ I := fun h => by
    have : (k - 1) * m ≤ k * m := Nat.mul_le_mul_right m (by omega)
    have := hIm h
    omega
  have P1 := hP.keep kp (fun _ => by simpa using l3)
  have C1 := hC.keep kp (fun _ => by simpa using l4)
  have R1' := hR.keep kp (fun h => by simpa using (hpl2 h).2.2.1)
  have X1' := hX.keep kp (fun h => by simpa using (hpl2 h).2.2.2)
  have own : ∀ x, x < H0 → x ≠ b1 → x ∉ b1 :: lv.ownBlock.toList := fun x hx hn hm => by
    rcases List.mem_cons.1 hm with e | e
    · exact hn e
    · have := A.g x (by simpa using e)
      omega
  refine l6_17 _ _ _ _ _ _ _ _ _ _ pb cb rb ib k p ck fr fi (fun w' => ∃ lv', Kept (b1 :: lv.ownBlock.toList) w1 w' ∧ Wat b1 H0 (IW.run kap st m p ck (fun k i => fr (k * m + i)) (fun k i => fi (k * m + i)) (k + 1)) m (fun i => fi (k * m + i)) lv' w') a2 w1 _ fr2 s2 P1 C1 R1' X1' hlt lK hI lI (fun yr yi rc ic hyr hyi => ?_) fun a3 w3 hG fr3 s3 => ?_
  · have kd : Kept [] w1 w1.drew := (Kept.refl _ _).drew
    refine (step27 b1 H0 m rc ic rb (k * m) ib (k * m) yr yi (p k) (ck k) _ _ _ ((fun k i => fr (k * m + i)) k) ((fun k i => fi (k * m + i)) k) lv w1.drew lm (A.keep kd (by simp) (by simp)) (fun h => ?_) hlt2 (fun h => ?_) hHw hyr hyi (fun h => ?_) (fun i hi => r8 _ (by have := hIm (by omega); omega)) (fun i hi => x32 _ (by have := hkm1 (by omega); omega)) (by rw [IW.run_st]; exact t0) (by rw [IW.run_st]; exact t1) (IW.run_viol _ _ _ _ _ _ _ _).1 (by have := (IW.run_viol kap st m p ck (fun k i => fr (k * m + i)) (fun k i => fi (k * m + i)) k).2; omega)).mono ?_
    · rw [IW.run_seen] at h
      rw [if_neg (by simp at h; omega)]
    · have := hpl2 (hIm h).2; exact ⟨this.1, this.2.1⟩
    · have := hpl2 (hIm h).2; exact ⟨this.2.2.1, this.2.2.2⟩
    rintro e w' ⟨he, lv', k1, A', hw⟩
    have k2 : Kept (b1 :: lv.ownBlock.toList) w1 w' := (Kept.refl _ _).drew.trans k1
    have c1 := (P1.keep k2 (fun _ => own pb l1 l3)).cell k hlt
    have c2 := (C1.keep k2 (fun _ => own cb l2 l4)).cell k hlt
    rw [Nat.zero_add] at c1 c2
    exact ⟨he, ⟨c1, c2⟩, lv', k2, A'⟩
  obtain ⟨lv', k1, A'⟩ := hG
  have kB : Kept [b1] w w3 := kp.then k1 (fun x hx => by
    rcases List.mem_cons.1 hx with e | e
    · subst e; exact .inl (by simp)
    · have := A.g x (by simpa using e); exact .inr (by omega))
  refine l6_10n _ _ _ _ _ _ _ _ _ _ k a3 w3 _ fr3 s3 (by omega) (fun a4 fr4 s4 => ?_)
  refine ⟨⟨k + 1, by omega, kB, ⟨lv', by simpa using A'⟩, fr4, s4⟩, ?_⟩
  have mu2 : (intOf (sl a4 16)).toNat = k + 1 := by
    have : sl a4 16 = .int .i64 (k + 1 : Nat) := s4.2.2.2.2.2.2.2.2.1
    rw [this]; simp only [intOf]; omega
  rw [mu, mu2]; omega

/-- The row held, compared. -/
theorem l6_cmp (kap st : Int) (m K I : Nat) (xp xc xr xi : Option Addr) (b1 : Nat) (u1 : Option Addr) (c1 ib : Nat) (fi : Nat → Int) (a : Act) (w : World) (Q : Exit → Act → World → Prop) (hfr : Fr 202 a) (hs : Slots [(0, .int .i64 kap), (1, .int .u32 st), (2, .int .i64 (m : Nat)), (3, .slice xp K K), (4, .slice xc K K), (5, .slice xr I I), (6, .slice xi I I), (15, .pointer (some ⟨b1, 0, none⟩)), (27, .slice u1 m c1), (28, .int .i64 (K : Nat)), (29, .int .i64 (0 : Nat))] a)
    (hX : RowR .u32 xi ib 0 I fi w) (hK : 0 < K) (lK : (K : Int) ≤ 65536) (hI : I = m * K) (lI : (I : Int) ≤ 1048576) (lm : (m : Int) ≤ 65536) (H1 : Held w (.slice u1 m c1) m (fun i => fi ((K - 1) * m + i)))
    (hexit : ∀ a' m, Fr 202 a' → Q (.exit 2) a' (w.drewN m)) :
    Code.wp Try.prog (inC (tlC (nthC 18 (bodyC Try.f6)))) Q a w := by
  refine wp_navL rfl (wp_loop (fun a' w' => (∃ m, w' = w.drewN m) ∧ ∃ i : Nat, i ≤ m ∧ Fr 202 a' ∧ Slots [(0, .int .i64 kap), (1, .int .u32 st), (2, .int .i64 (m : Nat)), (3, .slice xp K K), (4, .slice xc K K), (5, .slice xr I I), (6, .slice xi I I), (15, .pointer (some ⟨b1, 0, none⟩)), (27, .slice u1 m c1), (28, .int .i64 (K : Nat)), (29, .int .i64 (i : Nat))] a') (fun a' _ => m - (intOf (sl a' 29)).toNat) ⟨⟨0, rfl⟩, 0, Nat.zero_le _, hfr, hs⟩ ?_)
  rintro a1 w1 ⟨⟨q, rfl⟩, i, hi, fr1, s1⟩
  have mu : (intOf (sl a1 29)).toNat = i := by
    have : sl a1 29 = .int .i64 (i : Nat) := s1.2.2.2.2.2.2.2.2.2.2.1
    rw [this]; simp only [intOf]; omega
  refine wp_nav rfl (l6_18h _ _ _ _ _ _ _ _ _ _ _ _ _ i a1 _ _ fr1 s1 hi lm (fun a2 hlt fr2 s2 => ?_) (fun a2 hke fr2 s2 => hexit a2 q fr2))
  obtain ⟨g1, rfl, k1⟩ := H1.cell hlt
  obtain ⟨d1, d2, -, -, -, hle⟩ := place (k := K - 1) hI (by omega) hlt lI
  have p2 := hX.ptr (by omega)
  subst p2
  have c2 := hX.cell ((K - 1) * m + i) (by omega)
  rw [Nat.zero_add] at c2
  refine wp_nav rfl (l6_18b kap st m K I xp xc xr b1 g1 ib m c1 i (K - 1) ((K - 1) * m) ((K - 1) * m + i) _ a2 _ _ fr2 s2 (by omega) (by rw [IntKind.wrap_i64]; omega) d1 d2 (by omega) k1 c2 fun a3 q2 fr3 s3 => ?_)
  refine l6_18n _ _ _ _ _ _ _ _ _ _ _ _ _ i a3 _ _ fr3 s3 (by omega) (fun a4 fr4 s4 => ?_)
  refine ⟨⟨⟨q + q2, by simp [World.drewN, Nat.add_assoc]⟩, i + 1, by omega, fr4, s4⟩, ?_⟩
  have mu2 : (intOf (sl a4 29)).toNat = i + 1 := by
    have : sl a4 29 = .int .i64 (i + 1 : Nat) := s4.2.2.2.2.2.2.2.2.2.2.1
    rw [this]; simp only [intOf]; omega
  rw [mu, mu2]; omega

def Fin6 (w0 : World) : Exit → Act → World → Prop := bodyPost Try.prog Try.f6 fun e w' => e = .returned (.bool true) ∧ Below w0.heap.size w0 w'
theorem fin6 {w0 w : World} {a : Act} (hf : Fr 202 a) (h : sl a 14 = .bool true) (hk : Kept [] w0 w) : Fin6 w0 .ret a w :=
  bodyPost_ret (results_tmp rfl _ _ _) hf.defers ⟨by rw [show a.tmps.getD 14 undef = .bool true from h], hk.below _ (Nat.le_refl _) (by simp)⟩

/-- Behind the copies. -/
theorem l6_rest (kap st : Int) (m K I : Nat) (xp xc xr xi : Option Addr) (pb cb rb ib : Nat) (p ck fr fi : Nat → Int) (w0 w : World) (a : Act) (hfr : Fr 202 a) (hs : Slots [(0, .int .i64 kap), (1, .int .u32 st), (2, .int .i64 (m : Nat)), (3, .slice xp K K), (4, .slice xc K K), (5, .slice xr I I), (6, .slice xi I I)] a) (k0 : Kept [] w0 w)
    (hP : RowR .u64 xp pb 0 K p w) (hC : RowR .i64 xc cb 0 K ck w) (hR : RowR .u8 xr rb 0 I fr w) (hX : RowR .u32 xi ib 0 I fi w)
    (r8 : ∀ i, i < I → 0 ≤ fr i ∧ fr i < 256) (x32 : ∀ i, i < I → 0 ≤ fi i ∧ fi i < 4294967296) (t0 : 0 < st) (t1 : st < 4294967296) (lK : (K : Int) ≤ 65536) (hI : I = m * K) (lI : (I : Int) ≤ 1048576) (lm : (m : Int) ≤ 65536) :
    Code.wp Try.prog (dropC 9 (bodyC Try.f6)) (Fin6 w0) a w := by
  have zz := k0.size
  refine wp_nav rfl (l6_9 _ _ _ _ _ _ _ _ _ _ _ _ hfr hs fun a5 f5 s5 => ?_)
  have k5 : Kept [] w (w.alloc (.cells (IW.new kap st).arr 93)) := (Kept.refl _ _).alloc _
  have N1 := IsB.new w (IW.new kap st).arr 93
  have z5 : (w.alloc (.cells (IW.new kap st).arr 93)).heap.size = w.heap.size + 1 := by simp
  generalize w.alloc (.cells (IW.new kap st).arr 93) = w5 at *
  refine wp_nav rfl (wp_nav rfl (l6_10i _ _ _ _ _ _ _ _ _ _ _ _ _ f5 s5 fun a7 f7 s7 => ?_))
  refine wp_navB (id := 0) rfl ?_
  refine l6_loop _ _ _ _ _ _ _ _ _ w.heap.size (w.heap.size + 1) pb cb rb ib p ck fr fi a7 w5 _ f7 s7 (hP.keep k5 (by simp)) (hC.keep k5 (by simp)) (hR.keep k5 (by simp)) (hX.keep k5 (by simp)) r8 x32 t0 t1 (by omega) (fun h => ?_) (fun h => ?_) lK hI lI lm (by omega)
    ⟨.slice none 0 0, ⟨N1, Held.nil _ _, fun g hg => by cases hg⟩⟩ (fun a8 w8 k8 hW f8 s8 => ?_)
  · have a1 := hP.lt h
    have a2 := hC.lt h
    omega
  · have a1 := hR.lt h
    have a2 := hX.lt h
    omega
  simp only [Exit.inBlock, Exit.then, if_true]
  obtain ⟨lv1, A1⟩ := hW
  have k08 : Kept [] w0 w8 := (k0.trans k5).anew k8 (by simp; omega)
  have k58 : Kept [w.heap.size] w w8 := (k5.wide (by simp)).trans k8
  have P8 := hP.keep k58 (fun h => by have := hP.lt h; simp; omega)
  have C8 := hC.keep k58 (fun h => by have := hC.lt h; simp; omega)
  have R8 := hR.keep k58 (fun h => by have := hR.lt h; simp; omega)
  have X8 := hX.keep k58 (fun h => by have := hX.lt h; simp; omega)
  obtain ⟨u1, c1, rfl, -⟩ := A1.L.form
  refine wp_nav rfl (l6_11 _ _ _ _ _ _ _ _ _ _ _ _ _ _ _ _ _ _ f8 s8 (read28 _ _ _ A1.B) fun a9 v1 f9 s9 => ?_)
  refine wp_nav rfl (l6_12 _ _ _ _ _ _ _ _ _ _ _ _ _ _ _ _ _ _ f9 s9 (model29 kap st m K I xp xc xr xi pb cb rb ib p ck fr fi (w8.drewN v1) (P8.drewN v1) (C8.drewN v1) (R8.drewN v1) (X8.drewN v1) lK hI lI lm r8 x32 t0 t1) fun a10 f10 s10 => ?_)
  refine wp_nav rfl (l6_13 _ _ _ _ _ _ _ _ _ _ _ _ _ _ _ _ _ _ f10 s10 fun a11 f11 s11 => ?_)
  refine wp_nav rfl (l6_14 _ _ _ _ _ _ _ _ _ _ _ _ _ _ _ _ f11 s11 (last30 _ _ _ _ _ _ (A1.B.drewN v1) rfl) fun a12 f12 s12 => ?_)
  refine wp_nav rfl (l6_15 _ _ _ _ _ _ _ _ _ _ _ _ _ _ _ _ f12 s12 fun a13 f13 s13 => ?_)
  refine wp_nav rfl (l6_16 _ _ _ _ _ _ _ _ _ _ _ _ _ _ _ _ f13 s13 (fun h => by rw [if_pos h]) (fun a14 hK f14 s14 => ?_) (fun a14 f14 s14 => fin6 f14 s14 (k08.drewN v1)))
  have H1 := A1.L
  rw [if_neg (by omega)] at H1 s14
  refine wp_nav rfl (l6_17b _ _ _ _ _ _ _ _ _ _ _ _ _ _ _ _ f14 s14 rfl fun a15 f15 s15 => ?_)
  refine wp_nav rfl (wp_nav rfl (l6_18i _ _ _ _ _ _ _ _ _ _ _ _ _ _ _ _ f15 s15 fun a16 f16 s16 => ?_))
  refine wp_navB (id := 2) rfl ?_
  refine l6_cmp _ _ _ _ _ _ _ _ _ _ _ c1 ib fi a16 _ _ f16 s16 (X8.drewN v1) hK lK hI lI lm H1 (fun a17 v3 f17 => ?_)
  simp only [Exit.inBlock, Exit.then, if_true]
  exact l6_19 _ _ _ f17 fun a18 f18 s18 => fin6 f18 s18 ((k08.drewN v1).drewN v3)

/-- THE LAW. -/
theorem l6_walk (kap st n : Int) (xp : Option Addr) (K kc pb po : Nat) (xc : Option Addr) (C cc cb co : Nat) (xr : Option Addr) (R rc rb ro : Nat) (xi : Option Addr) (I ic ib io : Nat) (p ck fr fi : Nat → Int) (w : World)
    (i1 : RowIn xp pb po K kc w) (i2 : RowIn xc cb co C cc w) (i3 : RowIn xr rb ro R rc w) (i4 : RowIn xi ib io I ic w)
    (v1 : ∀ i, i < K → w.cell? ⟨pb, po + i, none⟩ = some (.int .u64 (p i))) (v2 : ∀ i, i < C → w.cell? ⟨cb, co + i, none⟩ = some (.int .i64 (ck i)))
    (v3 : ∀ i, i < R → w.cell? ⟨rb, ro + i, none⟩ = some (.int .u8 (fr i))) (v4 : ∀ i, i < I → w.cell? ⟨ib, io + i, none⟩ = some (.int .u32 (fi i)))
    (r8 : ∀ i, i < R → 0 ≤ fr i ∧ fr i < 256) (x32 : ∀ i, i < I → 0 ≤ fi i ∧ fi i < 4294967296) (st0 : 0 ≤ st) (st1 : st < 4294967296) :
    Calls Try.prog 6 #[.int .i64 kap, .int .u32 st, .int .i64 n, .slice xp K kc, .slice xc C cc, .slice xr R rc, .slice xi I ic] w fun e w' => e = .returned (.bool true) ∧ Below w.heap.size w w' := by
  refine calls_nav 202 Try.func6 rfl rfl (by simp) fun a fr0 ha => ?_
  have s0 : Slots [(0, .int .i64 kap), (1, .int .u32 st), (2, .int .i64 n), (3, .slice xp K kc), (4, .slice xc C cc), (5, .slice xr R rc), (6, .slice xi I ic)] a := ⟨ha 0 (by simp), ha 1 (by simp), ha 2 (by simp), ha 3 (by simp), ha 4 (by simp), ha 5 (by simp), ha 6 (by simp), trivial⟩
  show Code.wp _ _ (Fin6 w) _ _
  have hret : ∀ a' w', Fr 202 a' → sl a' 14 = .bool true → Kept [] w w' → Fin6 w .ret a' w' := fun a' w' f' s' k' => fin6 f' s' k'
  have e1 := i1.len
  have e2 := i2.len
  have e3 := i3.len
  have e4 := i4.len
  refine wp_nav rfl (l6_0 _ _ _ _ _ _ _ _ _ _ _ _ _ _ _ _ _ _ fr0 s0 fun a1 f1 s1 => ?_)
  refine wp_nav rfl (l6_1 _ _ _ _ _ _ _ _ _ _ _ _ _ _ _ _ _ _ f1 s1 e1 e2 e3 e4 (fun a2 hle f2 s2 => ?_) hret)
  refine wp_nav rfl (l6_2 _ _ _ _ _ _ _ _ _ _ _ _ _ _ _ _ _ _ f2 s2 (by omega) (by omega) (by omega) (by omega) (fun a3 t1 t2 t3 f3 s3 => ?_) hret)
  refine wp_nav rfl (l6_3 _ _ _ _ _ _ _ _ _ _ _ _ _ _ _ _ _ _ f3 s3 (by omega) (by omega) (by omega) (by omega) (fun a4 f4 s4 => ?_) hret)
  refine wp_nav rfl (l6_4 _ _ _ _ _ _ _ _ _ _ _ _ _ _ _ _ _ _ f4 s4 (by omega) (by omega) (by omega) (by omega) (fun a5 hsh f5 s5 => ?_) hret)
  obtain ⟨gst, g1, g2, rfl, g3, g4⟩ := hsh
  obtain ⟨m, rfl⟩ : ∃ m : Nat, n = m := ⟨n.toNat, by omega⟩
  have gI : I = m * C := by rw [← Int.natCast_mul] at g4; exact Int.ofNat.inj g4
  have gR : I = R := by rw [← g3] at g4; exact Int.ofNat.inj g4
  subst gR
  refine wp_nav rfl (l6_5 _ _ _ _ _ _ _ _ _ _ _ _ _ _ _ _ _ _ _ f5 s5 (copyU64_all xp pb po _ kc p w (by omega) i1.nil i1.ptr v1 i1.lt) (fun a7 y1 w1 hG f7 s7 => ?_))
  obtain ⟨k1, -, d1⟩ := hG
  refine wp_nav rfl (l6_6 _ _ _ _ _ _ _ _ _ _ _ _ _ _ _ _ _ _ _ f7 s7 (copyInt_all xc cb co _ cc ck w1 (by omega) i2.nil i2.ptr (fun i hi => (k1.cell (p := ⟨cb, co + i, none⟩) (i2.lt (by omega)) (by simp)).trans (v2 i hi)) (fun h => Nat.lt_of_lt_of_le (i2.lt h) k1.size)) (fun a8 y2 w2 hG f8 s8 => ?_))
  obtain ⟨kk2, -, d2⟩ := hG
  have k2 := k1.trans kk2
  refine wp_nav rfl (l6_7 _ _ _ _ _ _ _ _ _ _ _ _ _ _ _ _ _ _ _ f8 s8 (copyU8_all xr rb ro _ rc fr w2 (by omega) i3.nil i3.ptr (fun i hi => (k2.cell (p := ⟨rb, ro + i, none⟩) (i3.lt (by omega)) (by simp)).trans (v3 i hi)) (fun h => Nat.lt_of_lt_of_le (i3.lt h) k2.size)) (fun a9 y3 w3 hG f9 s9 => ?_))
  obtain ⟨kk3, -, d3⟩ := hG
  have k3 := k2.trans kk3
  refine wp_nav rfl (l6_8 _ _ _ _ _ _ _ _ _ _ _ _ _ _ _ _ _ _ _ f9 s9 (copyU32_all xi ib io _ ic fi w3 (by omega) i4.nil i4.ptr (fun i hi => (k3.cell (p := ⟨ib, io + i, none⟩) (i4.lt (by omega)) (by simp)).trans (v4 i hi)) (fun h => Nat.lt_of_lt_of_le (i4.lt h) k3.size)) (fun a10 y4 w4 hG f10 s10 => ?_))
  obtain ⟨kk4, -, d4⟩ := hG
  have k4 := k3.trans kk4
  have hIK : 0 < I → 0 < C := fun h => by
    rcases Nat.eq_zero_or_pos C with e | e
    · subst e; simp at gI; omega
    · exact e
  have B1 := fun h => (kk2.trans (kk3.trans kk4)).isB (d1 h).2 (by simp)
  have B2 := fun h => (kk3.trans kk4).isB (d2 h).2 (by simp)
  have B3 := fun h => kk4.isB (d3 h).2 (by simp)
  have B4 := fun h => (d4 h).2
  have P4 : RowR .u64 y1 w.heap.size 0 C p w4 := ⟨fun h => (d1 h).1, fun h => (B1 h).lt, fun k hk => by rw [Nat.zero_add, (B1 (by omega)).cell, rowA_at _ _ _ hk]⟩
  have C4 : RowR .i64 y2 w1.heap.size 0 C ck w4 := ⟨fun h => (d2 h).1, fun h => (B2 h).lt, fun k hk => by rw [Nat.zero_add, (B2 (by omega)).cell, rowA_at _ _ _ hk]⟩
  have R4 : RowR .u8 y3 w2.heap.size 0 I fr w4 := ⟨fun h => (d3 h).1, fun h => (B3 h).lt, fun k hk => by rw [Nat.zero_add, (B3 (by omega)).cell, rowA_at _ _ _ hk]⟩
  have X4 : RowR .u32 y4 w3.heap.size 0 I fi w4 := ⟨fun h => (d4 h).1, fun h => (B4 h).lt, fun k hk => by rw [Nat.zero_add, (B4 (by omega)).cell, rowA_at _ _ _ hk]⟩
  exact l6_rest kap st m C I y1 y2 y3 y4 _ _ _ _ p ck fr fi w w4 a10 f10 s10 k4 P4 C4 R4 X4 r8 x32 (by omega) st1 (by omega) gI (by omega) (by omega)

end Go.Proofs.Qxb6602526a
