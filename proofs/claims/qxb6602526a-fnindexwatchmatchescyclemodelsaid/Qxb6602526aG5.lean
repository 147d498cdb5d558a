import Derived.Test.Qxb6602526aG4
namespace Go.Proofs.Qxb6602526a
open Go.RowKit
set_option linter.unusedSimpArgs false
set_option linter.unusedVariables false

/-- closedAt -/
theorem at39 (kap st : Int) (m K I cb k : Nat) (xc xr xi : Option Addr) (rb ib : Nat) (ck fr fi : Nat → Int) (w : World) (hC : RowR .i64 xc cb 0 K ck w) (hR : RowR .u8 xr rb 0 I fr w) (hX : RowR .u32 xi ib 0 I fi w)
    (r8 : ∀ i, i < I → 0 ≤ fr i ∧ fr i < 256) (x32 : ∀ i, i < I → 0 ≤ fi i ∧ fi i < 4294967296) (t0' : 0 < st) (t1' : st < 4294967296) (hk : k < K) (hk1 : 1 ≤ k) (lK : (K : Int) ≤ 65536) (hI : I = m * K) (lI : (I : Int) ≤ 1048576) (lm : (m : Int) ≤ 65536) :
    Calls Try.prog 39 #[.int .i64 kap, .int .u32 st, .int .i64 (m : Nat), .slice xc K K, .slice xr I I, .slice xi I I, .int .i64 (k : Nat)] w
      fun e w' => e = .returned (.bool (cls kap st (ck k) (fun i => fi ((k - 1) * m + i)) (fun i => fr (k * m + i)) (fun i => fi (k * m + i)) m)) ∧ w' = w := by
  have ec := hC.ptr (by omega)
  subst ec
  have cc := hC.cell k hk
  rw [Nat.zero_add] at cc
  generalize hq : IntKind.i64.wrap (kap - 1) = q
  refine calls_nav 69 Try.func39 rfl rfl (by simp) fun a fr0 ha => ?_
  have s0 : Slots [(0, .int .i64 kap), (1, .int .u32 st), (2, .int .i64 (m : Nat)), (3, .slice (some ⟨cb, 0, none⟩) K K), (4, .slice xr I I), (5, .slice xi I I), (6, .int .i64 (k : Nat))] a := ⟨ha 0 (by simp), ha 1 (by simp), ha 2 (by simp), ha 3 (by simp), ha 4 (by simp), ha 5 (by simp), ha 6 (by simp), trivial⟩
  refine wp_nav rfl (t0 _ _ _ _ _ _ _ _ _ _ _ _ fr0 s0 fun a1 fr1 s1 => ?_)
  refine wp_nav rfl (t1 _ _ _ _ _ _ _ _ _ (ck k) q _ _ _ fr1 s1 (by omega) hq cc fun a2 fr2 s2 => ?_)
  refine wp_nav rfl (wp_nav rfl (t2i _ _ _ _ _ _ _ _ _ _ _ _ _ fr2 s2 fun a3 fr3 s3 => ?_))
  refine wp_navB (id := 0) rfl ?_
  refine wp_navL rfl (wp_loop (fun a' w' => w' = w ∧ ∃ i : Nat, i ≤ m ∧ cls kap st (ck k) (fun i => fi ((k - 1) * m + i)) (fun i => fr (k * m + i)) (fun i => fi (k * m + i)) i = true ∧ Fr 69 a' ∧ Slots [(0, .int .i64 kap), (1, .int .u32 st), (2, .int .i64 (m : Nat)), (3, .slice (some ⟨cb, 0, none⟩) K K), (4, .slice xr I I), (5, .slice xi I I), (6, .int .i64 (k : Nat)), (15, .bool (ck k == q)), (16, .int .i64 (i : Nat))] a') (fun a' _ => m - (intOf (sl a' 16)).toNat) ⟨rfl, 0, Nat.zero_le _, rfl, fr3, s3⟩ ?_)
  rintro a4 w4 ⟨rfl, i, hi, hc, fr4, s4⟩
  have mu : (intOf (sl a4 16)).toNat = i := by
    have : sl a4 16 = .int .i64 (i : Nat) := s4.2.2.2.2.2.2.2.2.1
    rw [this]; simp only [intOf]; omega
  refine wp_nav rfl (t2h _ _ _ _ _ _ _ _ _ _ i _ _ _ fr4 s4 hi lm (fun a5 hlt fr5 s5 => ?_) (fun a5 hke fr5 => ?_))
  · obtain ⟨e1, e2, -, -, -, hle⟩ := place hI hk hlt lI
    obtain ⟨d1, d2, -, -, -, hle2⟩ := place (k := k - 1) hI (by omega) hlt lI
    have hI0 : 0 < I := by omega
    have p1 := hR.ptr hI0
    have p2 := hX.ptr hI0
    subst p1 p2
    have c1 := hX.cell ((k - 1) * m + i) (by omega)
    have c2 := hX.cell (k * m + i) (by omega)
    have c3 := hR.cell (k * m + i) (by omega)
    rw [Nat.zero_add] at c1 c2 c3
    have b1 := x32 ((k - 1) * m + i) (by omega)
    have b2 := x32 (k * m + i) (by omega)
    have b3 := r8 (k * m + i) (by omega)
    have hv : wantV kap st (ck k) (fi ((k - 1) * m + i)) (fr (k * m + i)) = if (ck k == q) = true then (fi ((k - 1) * m + i) + fr (k * m + i)) % 4294967296 % st else fi ((k - 1) * m + i) := by rw [wantV, hq]
    refine wp_nav rfl (t2b kap st m K I cb k rb ib (k - 1) ((k - 1) * m) (k * m) ((k - 1) * m + i) (k * m + i) _ i (fi (k * m + i)) _ _ _ _ _ _ fr5 s5 (by rw [IntKind.wrap_i64]; omega) d1 d2 e1 e2 (by omega) (by omega) c1 c2 c3 b1.1 b1.2 b2.1 b2.2 b3.1 b3.2 t0' t1' hv (fun a6 hx fr6 s6 => ?_) (fun a6 hx fr6 s6 => ?_))
    · refine t2n _ _ _ _ _ _ _ _ _ _ i _ _ _ fr6 s6 (by omega) (fun a7 fr7 s7 => ?_)
      refine ⟨⟨rfl, i + 1, by omega, ?_, fr7, s7⟩, ?_⟩
      · rw [cls_succ, hc, Bool.true_and]; simpa using hx
      have mu2 : (intOf (sl a7 16)).toNat = i + 1 := by
        have : sl a7 16 = .int .i64 (i + 1 : Nat) := s7.2.2.2.2.2.2.2.2.1
        rw [this]; simp only [intOf]; omega
      rw [mu, mu2]; omega
    · simp only [Exit.inBlock, Exit.then]
      refine bodyPost_ret (results_tmp rfl _ _ _) fr6.defers ⟨?_, rfl⟩
      rw [show a6.tmps.getD 14 undef = .bool false from s6, cls_bad hlt hx]
  · subst hke
    simp only [Exit.inBlock, Exit.then, if_true]
    refine t3 _ _ _ fr5 (fun a6 fr6 s6 => ?_)
    refine bodyPost_ret (results_tmp rfl _ _ _) fr6.defers ⟨?_, rfl⟩
    rw [show a6.tmps.getD 14 undef = .bool true from s6, hc]

set_option maxRecDepth 10000 in
set_option maxHeartbeats 1000000 in
theorem x0 (kap st : Int) (m K I : Nat) (xp xc xr xi : Option Addr) (a : Act) (w : World) (Q : Exit → Act → World → Prop) (hfr : Fr 123 a) (hs : Slots [(0, .int .i64 kap), (1, .int .u32 st), (2, .int .i64 (m : Nat)), (3, .slice xp K K), (4, .slice xc K K), (5, .slice xr I I), (6, .slice xi I I)] a)
    (hQ : ∀ a', Fr 123 a' → Slots [(0, .int .i64 kap), (1, .int .u32 st), (2, .int .i64 (m : Nat)), (3, .slice xp K K), (4, .slice xc K K), (5, .slice xr I I), (6, .slice xi I I)] a' → Q .normal a' w) :
    Code.wp Try.prog (nthC 0 (bodyC Try.f29)) Q a w := by
  obtain ⟨u, hu, rfl⟩ := lay123 hfr
  obtain ⟨s0, s1, s2, s3, s4, s5, s6, -⟩ := hs
  replace s0 : u 0 = .int .i64 kap := (hu 0).symm.trans s0
  replace s1 : u 1 = .int .u32 st := (hu 1).symm.trans s1
  replace s2 : u 2 = .int .i64 (m : Nat) := (hu 2).symm.trans s2
  replace s3 : u 3 = .slice xp K K := (hu 3).symm.trans s3
  replace s4 : u 4 = .slice xc K K := (hu 4).symm.trans s4
  replace s5 : u 5 = .slice xr I I := (hu 5).symm.trans s5
  replace s6 : u 6 = .slice xi I I := (hu 6).symm.trans s6
  rw [s0, s1, s2, s3, s4, s5, s6]
  clear hfr hu s0 s1 s2 s3 s4 s5 s6
  conv => arg 2; whnf
  have H : Hid _ := hQ
  clear hQ
  go_wp2
  exact H.out _ ⟨rfl, rfl⟩ ⟨rfl, rfl, rfl, rfl, rfl, rfl, rfl, trivial⟩

set_option maxRecDepth 10000 in
set_option maxHeartbeats 1000000 in
theorem x1 (kap st : Int) (m K I : Nat) (xp xc xr xi : Option Addr) (a : Act) (w : World) (Q : Exit → Act → World → Prop) (hfr : Fr 123 a) (hs : Slots [(0, .int .i64 kap), (1, .int .u32 st), (2, .int .i64 (m : Nat)), (3, .slice xp K K), (4, .slice xc K K), (5, .slice xr I I), (6, .slice xi I I)] a)
    (hQ : ∀ a', Fr 123 a' → Slots [(0, .int .i64 kap), (1, .int .u32 st), (2, .int .i64 (m : Nat)), (3, .slice xp K K), (4, .slice xc K K), (5, .slice xr I I), (6, .slice xi I I), (19, .int .i64 (K : Nat))] a' → Q .normal a' w) :
    Code.wp Try.prog (nthC 1 (bodyC Try.f29)) Q a w := by
  obtain ⟨u, hu, rfl⟩ := lay123 hfr
  obtain ⟨s0, s1, s2, s3, s4, s5, s6, -⟩ := hs
  replace s0 : u 0 = .int .i64 kap := (hu 0).symm.trans s0
  replace s1 : u 1 = .int .u32 st := (hu 1).symm.trans s1
  replace s2 : u 2 = .int .i64 (m : Nat) := (hu 2).symm.trans s2
  replace s3 : u 3 = .slice xp K K := (hu 3).symm.trans s3
  replace s4 : u 4 = .slice xc K K := (hu 4).symm.trans s4
  replace s5 : u 5 = .slice xr I I := (hu 5).symm.trans s5
  replace s6 : u 6 = .slice xi I I := (hu 6).symm.trans s6
  rw [s0, s1, s2, s3, s4, s5, s6]
  clear hfr hu s0 s1 s2 s3 s4 s5 s6
  conv => arg 2; whnf
  have H : Hid _ := hQ
  clear hQ
  go_wp2
  exact H.out _ ⟨rfl, rfl⟩ ⟨rfl, rfl, rfl, rfl, rfl, rfl, rfl, rfl, trivial⟩

set_option maxRecDepth 10000 in
set_option maxHeartbeats 1000000 in
theorem x2 (kap st : Int) (m K I : Nat) (xp xc xr xi : Option Addr) (a : Act) (w : World) (Q : Exit → Act → World → Prop) (hfr : Fr 123 a) (hs : Slots [(0, .int .i64 kap), (1, .int .u32 st), (2, .int .i64 (m : Nat)), (3, .slice xp K K), (4, .slice xc K K), (5, .slice xr I I), (6, .slice xi I I), (19, .int .i64 (K : Nat))] a)
    (hQ : ∀ a', Fr 123 a' → Slots [(0, .int .i64 kap), (1, .int .u32 st), (2, .int .i64 (m : Nat)), (3, .slice xp K K), (4, .slice xc K K), (5, .slice xr I I), (6, .slice xi I I), (19, .int .i64 (K : Nat)), (20, .int .i64 (-1))] a' → Q .normal a' w) :
    Code.wp Try.prog (nthC 2 (bodyC Try.f29)) Q a w := by
  obtain ⟨u, hu, rfl⟩ := lay123 hfr
  obtain ⟨s0, s1, s2, s3, s4, s5, s6, s19, -⟩ := hs
  replace s0 : u 0 = .int .i64 kap := (hu 0).symm.trans s0
  replace s1 : u 1 = .int .u32 st := (hu 1).symm.trans s1
  replace s2 : u 2 = .int .i64 (m : Nat) := (hu 2).symm.trans s2
  replace s3 : u 3 = .slice xp K K := (hu 3).symm.trans s3
  replace s4 : u 4 = .slice xc K K := (hu 4).symm.trans s4
  replace s5 : u 5 = .slice xr I I := (hu 5).symm.trans s5
  replace s6 : u 6 = .slice xi I I := (hu 6).symm.trans s6
  replace s19 : u 19 = .int .i64 (K : Nat) := (hu 19).symm.trans s19
  rw [s0, s1, s2, s3, s4, s5, s6, s19]
  clear hfr hu s0 s1 s2 s3 s4 s5 s6 s19
  conv => arg 2; whnf
  have H : Hid _ := hQ
  clear hQ
  go_wp2
  exact H.out _ ⟨rfl, rfl⟩ ⟨rfl, rfl, rfl, rfl, rfl, rfl, rfl, rfl, rfl, trivial⟩

set_option maxRecDepth 10000 in
set_option maxHeartbeats 1000000 in
theorem x3 (kap st : Int) (m K I : Nat) (xp xc xr xi : Option Addr) (s : Int) (a : Act) (w : World) (Q : Exit → Act → World → Prop) (hfr : Fr 123 a) (hs : Slots [(0, .int .i64 kap), (1, .int .u32 st), (2, .int .i64 (m : Nat)), (3, .slice xp K K), (4, .slice xc K K), (5, .slice xr I I), (6, .slice xi I I), (19, .int .i64 (K : Nat)), (20, .int .i64 s)] a)
    (hQ : ∀ a', Fr 123 a' → Slots [(0, .int .i64 kap), (1, .int .u32 st), (2, .int .i64 (m : Nat)), (3, .slice xp K K), (4, .slice xc K K), (5, .slice xr I I), (6, .slice xi I I), (19, .int .i64 (K : Nat)), (20, .int .i64 s), (21, .bool false)] a' → Q .normal a' w) :
    Code.wp Try.prog (nthC 3 (bodyC Try.f29)) Q a w := by
  obtain ⟨u, hu, rfl⟩ := lay123 hfr
  obtain ⟨s0, s1, s2, s3, s4, s5, s6, s19, s20, -⟩ := hs
  replace s0 : u 0 = .int .i64 kap := (hu 0).symm.trans s0
  replace s1 : u 1 = .int .u32 st := (hu 1).symm.trans s1
  replace s2 : u 2 = .int .i64 (m : Nat) := (hu 2).symm.trans s2
  replace s3 : u 3 = .slice xp K K := (hu 3).symm.trans s3
  replace s4 : u 4 = .slice xc K K := (hu 4).symm.trans s4
  replace s5 : u 5 = .slice xr I I := (hu 5).symm.trans s5
  replace s6 : u 6 = .slice xi I I := (hu 6).symm.trans s6
  replace s19 : u 19 = .int .i64 (K : Nat) := (hu 19).symm.trans s19
  replace s20 : u 20 = .int .i64 s := (hu 20).symm.trans s20
  rw [s0, s1, s2, s3, s4, s5, s6, s19, s20]
  clear hfr hu s0 s1 s2 s3 s4 s5 s6 s19 s20
  conv => arg 2; whnf
  have H : Hid _ := hQ
  clear hQ
  go_wp2
  exact H.out _ ⟨rfl, rfl⟩ ⟨rfl, rfl, rfl, rfl, rfl, rfl, rfl, rfl, rfl, rfl, trivial⟩

set_option maxRecDepth 10000 in
set_option maxHeartbeats 1000000 in
theorem x4 (kap st : Int) (m K I : Nat) (xp xc xr xi : Option Addr) (s : Int) (an : Bool) (a : Act) (w : World) (Q : Exit → Act → World → Prop) (hfr : Fr 123 a) (hs : Slots [(0, .int .i64 kap), (1, .int .u32 st), (2, .int .i64 (m : Nat)), (3, .slice xp K K), (4, .slice xc K K), (5, .slice xr I I), (6, .slice xi I I), (19, .int .i64 (K : Nat)), (20, .int .i64 s), (21, .bool an)] a)
    (hQ : ∀ a', Fr 123 a' → Slots [(0, .int .i64 kap), (1, .int .u32 st), (2, .int .i64 (m : Nat)), (3, .slice xp K K), (4, .slice xc K K), (5, .slice xr I I), (6, .slice xi I I), (19, .int .i64 (K : Nat)), (20, .int .i64 s), (21, .bool an), (22, .int .u64 0)] a' → Q .normal a' w) :
    Code.wp Try.prog (nthC 4 (bodyC Try.f29)) Q a w := by
  obtain ⟨u, hu, rfl⟩ := lay123 hfr
  obtain ⟨s0, s1, s2, s3, s4, s5, s6, s19, s20, s21, -⟩ := hs
  replace s0 : u 0 = .int .i64 kap := (hu 0).symm.trans s0
  replace s1 : u 1 = .int .u32 st := (hu 1).symm.trans s1
  replace s2 : u 2 = .int .i64 (m : Nat) := (hu 2).symm.trans s2
  replace s3 : u 3 = .slice xp K K := (hu 3).symm.trans s3
  replace s4 : u 4 = .slice xc K K := (hu 4).symm.trans s4
  replace s5 : u 5 = .slice xr I I := (hu 5).symm.trans s5
  replace s6 : u 6 = .slice xi I I := (hu 6).symm.trans s6
  replace s19 : u 19 = .int .i64 (K : Nat) := (hu 19).symm.trans s19
  replace s20 : u 20 = .int .i64 s := (hu 20).symm.trans s20
  replace s21 : u 21 = .bool an := (hu 21).symm.trans s21
  rw [s0, s1, s2, s3, s4, s5, s6, s19, s20, s21]
  clear hfr hu s0 s1 s2 s3 s4 s5 s6 s19 s20 s21
  conv => arg 2; whnf
  have H : Hid _ := hQ
  clear hQ
  go_wp2
  exact H.out _ ⟨rfl, rfl⟩ ⟨rfl, rfl, rfl, rfl, rfl, rfl, rfl, rfl, rfl, rfl, rfl, trivial⟩

set_option maxRecDepth 10000 in
set_option maxHeartbeats 1000000 in
theorem x5i (kap st : Int) (m K I : Nat) (xp xc xr xi : Option Addr) (s : Int) (an : Bool) (la : Int) (a : Act) (w : World) (Q : Exit → Act → World → Prop) (hfr : Fr 123 a) (hs : Slots [(0, .int .i64 kap), (1, .int .u32 st), (2, .int .i64 (m : Nat)), (3, .slice xp K K), (4, .slice xc K K), (5, .slice xr I I), (6, .slice xi I I), (19, .int .i64 (K : Nat)), (20, .int .i64 s), (21, .bool an), (22, .int .u64 la)] a)
    (hQ : ∀ a', Fr 123 a' → Slots [(0, .int .i64 kap), (1, .int .u32 st), (2, .int .i64 (m : Nat)), (3, .slice xp K K), (4, .slice xc K K), (5, .slice xr I I), (6, .slice xi I I), (19, .int .i64 (K : Nat)), (20, .int .i64 s), (21, .bool an), (22, .int .u64 la), (23, .int .i64 (0 : Nat))] a' → Q .normal a' w) :
    Code.wp Try.prog (hdC (nthC 5 (bodyC Try.f29))) Q a w := by
  obtain ⟨u, hu, rfl⟩ := lay123 hfr
  obtain ⟨s0, s1, s2, s3, s4, s5, s6, s19, s20, s21, s22, -⟩ := hs
  replace s0 : u 0 = .int .i64 kap := (hu 0).symm.trans s0
  replace s1 : u 1 = .int .u32 st := (hu 1).symm.trans s1
  replace s2 : u 2 = .int .i64 (m : Nat) := (hu 2).symm.trans s2
  replace s3 : u 3 = .slice xp K K := (hu 3).symm.trans s3
  replace s4 : u 4 = .slice xc K K := (hu 4).symm.trans s4
  replace s5 : u 5 = .slice xr I I := (hu 5).symm.trans s5
  replace s6 : u 6 = .slice xi I I := (hu 6).symm.trans s6
  replace s19 : u 19 = .int .i64 (K : Nat) := (hu 19).symm.trans s19
  replace s20 : u 20 = .int .i64 s := (hu 20).symm.trans s20
  replace s21 : u 21 = .bool an := (hu 21).symm.trans s21
  replace s22 : u 22 = .int .u64 la := (hu 22).symm.trans s22
  rw [s0, s1, s2, s3, s4, s5, s6, s19, s20, s21, s22]
  clear hfr hu s0 s1 s2 s3 s4 s5 s6 s19 s20 s21 s22
  conv => arg 2; whnf
  have H : Hid _ := hQ
  clear hQ
  go_wp2
  exact H.out _ ⟨rfl, rfl⟩ ⟨rfl, rfl, rfl, rfl, rfl, rfl, rfl, rfl, rfl, rfl, rfl, rfl, trivial⟩

set_option maxRecDepth 10000 in
set_option maxHeartbeats 1000000 in
theorem x5h (kap st : Int) (m K I : Nat) (xp xc xr xi : Option Addr) (s : Int) (an : Bool) (la : Int) (k : Nat) (a : Act) (w : World) (Q : Exit → Act → World → Prop) (hfr : Fr 123 a) (hs : Slots [(0, .int .i64 kap), (1, .int .u32 st), (2, .int .i64 (m : Nat)), (3, .slice xp K K), (4, .slice xc K K), (5, .slice xr I I), (6, .slice xi I I), (19, .int .i64 (K : Nat)), (20, .int .i64 s), (21, .bool an), (22, .int .u64 la), (23, .int .i64 (k : Nat))] a)
    (hk : k ≤ K) (lK : (K : Int) ≤ 65536) (hQ : ∀ a', k < K → Fr 123 a' → Slots [(0, .int .i64 kap), (1, .int .u32 st), (2, .int .i64 (m : Nat)), (3, .slice xp K K), (4, .slice xc K K), (5, .slice xr I I), (6, .slice xi I I), (19, .int .i64 (K : Nat)), (20, .int .i64 s), (21, .bool an), (22, .int .u64 la), (23, .int .i64 (k : Nat))] a' → Q .normal a' w) (hexit : ∀ a', k = K → Fr 123 a' → Slots [(0, .int .i64 kap), (1, .int .u32 st), (2, .int .i64 (m : Nat)), (3, .slice xp K K), (4, .slice xc K K), (5, .slice xr I I), (6, .slice xi I I), (19, .int .i64 (K : Nat)), (20, .int .i64 s), (21, .bool an), (22, .int .u64 la)] a' → Q (.exit 0) a' w) :
    Code.wp Try.prog (hdC (inC (inC (tlC (nthC 5 (bodyC Try.f29)))))) Q a w := by
  obtain ⟨u, hu, rfl⟩ := lay123 hfr
  obtain ⟨s0, s1, s2, s3, s4, s5, s6, s19, s20, s21, s22, s23, -⟩ := hs
  replace s0 : u 0 = .int .i64 kap := (hu 0).symm.trans s0
  replace s1 : u 1 = .int .u32 st := (hu 1).symm.trans s1
  replace s2 : u 2 = .int .i64 (m : Nat) := (hu 2).symm.trans s2
  replace s3 : u 3 = .slice xp K K := (hu 3).symm.trans s3
  replace s4 : u 4 = .slice xc K K := (hu 4).symm.trans s4
  replace s5 : u 5 = .slice xr I I := (hu 5).symm.trans s5
  replace s6 : u 6 = .slice xi I I := (hu 6).symm.trans s6
  replace s19 : u 19 = .int .i64 (K : Nat) := (hu 19).symm.trans s19
  replace s20 : u 20 = .int .i64 s := (hu 20).symm.trans s20
  replace s21 : u 21 = .bool an := (hu 21).symm.trans s21
  replace s22 : u 22 = .int .u64 la := (hu 22).symm.trans s22
  replace s23 : u 23 = .int .i64 (k : Nat) := (hu 23).symm.trans s23
  rw [s0, s1, s2, s3, s4, s5, s6, s19, s20, s21, s22, s23]
  clear hfr hu s0 s1 s2 s3 s4 s5 s6 s19 s20 s21 s22 s23
  conv => arg 2; whnf
  have H : Hid _ := hQ
  have HX : Hid _ := hexit
  clear hQ hexit
  by_cases hlt : k < K
  · have l : (k : Int) < K := by omega
    go_wp2
    exact H.out _ hlt ⟨rfl, rfl⟩ ⟨rfl, rfl, rfl, rfl, rfl, rfl, rfl, rfl, rfl, rfl, rfl, rfl, trivial⟩
  · have l : ¬ ((k : Int) < K) := by omega
    go_wp2
    exact HX.out _ (by omega) ⟨rfl, rfl⟩ ⟨rfl, rfl, rfl, rfl, rfl, rfl, rfl, rfl, rfl, rfl, rfl, trivial⟩

set_option maxRecDepth 10000 in
set_option maxHeartbeats 1000000 in
theorem x5n (kap st : Int) (m K I : Nat) (xp xc xr xi : Option Addr) (s : Int) (an : Bool) (la : Int) (k : Nat) (a : Act) (w : World) (Q : Exit → Act → World → Prop) (hfr : Fr 123 a) (hs : Slots [(0, .int .i64 kap), (1, .int .u32 st), (2, .int .i64 (m : Nat)), (3, .slice xp K K), (4, .slice xc K K), (5, .slice xr I I), (6, .slice xi I I), (19, .int .i64 (K : Nat)), (20, .int .i64 s), (21, .bool an), (22, .int .u64 la), (23, .int .i64 (k : Nat))] a)
    (hk : (k : Int) ≤ 65536) (hQ : ∀ a', Fr 123 a' → Slots [(0, .int .i64 kap), (1, .int .u32 st), (2, .int .i64 (m : Nat)), (3, .slice xp K K), (4, .slice xc K K), (5, .slice xr I I), (6, .slice xi I I), (19, .int .i64 (K : Nat)), (20, .int .i64 s), (21, .bool an), (22, .int .u64 la), (23, .int .i64 (k + 1 : Nat))] a' → Q .normal a' w) :
    Code.wp Try.prog (tlC (tlC (inC (inC (tlC (nthC 5 (bodyC Try.f29))))))) Q a w := by
  obtain ⟨u, hu, rfl⟩ := lay123 hfr
  obtain ⟨s0, s1, s2, s3, s4, s5, s6, s19, s20, s21, s22, s23, -⟩ := hs
  replace s0 : u 0 = .int .i64 kap := (hu 0).symm.trans s0
  replace s1 : u 1 = .int .u32 st := (hu 1).symm.trans s1
  replace s2 : u 2 = .int .i64 (m : Nat) := (hu 2).symm.trans s2
  replace s3 : u 3 = .slice xp K K := (hu 3).symm.trans s3
  replace s4 : u 4 = .slice xc K K := (hu 4).symm.trans s4
  replace s5 : u 5 = .slice xr I I := (hu 5).symm.trans s5
  replace s6 : u 6 = .slice xi I I := (hu 6).symm.trans s6
  replace s19 : u 19 = .int .i64 (K : Nat) := (hu 19).symm.trans s19
  replace s20 : u 20 = .int .i64 s := (hu 20).symm.trans s20
  replace s21 : u 21 = .bool an := (hu 21).symm.trans s21
  replace s22 : u 22 = .int .u64 la := (hu 22).symm.trans s22
  replace s23 : u 23 = .int .i64 (k : Nat) := (hu 23).symm.trans s23
  rw [s0, s1, s2, s3, s4, s5, s6, s19, s20, s21, s22, s23]
  clear hfr hu s0 s1 s2 s3 s4 s5 s6 s19 s20 s21 s22 s23
  conv => arg 2; whnf
  have H : Hid _ := hQ
  clear hQ
  go_wp2
  exact H.out _ ⟨rfl, rfl⟩ ⟨rfl, rfl, rfl, rfl, rfl, rfl, rfl, rfl, rfl, rfl, rfl, rfl, trivial⟩

set_option maxRecDepth 10000 in
set_option maxHeartbeats 1000000 in
theorem x8 (kap st : Int) (m K I : Nat) (xp xc xr xi : Option Addr) (s : Int) (an : Bool) (la : Int) (k : Nat) (lo hi : Nat) (ys : Option Addr) (d : Bool) (a : Act) (w : World) (Q : Exit → Act → World → Prop) (hfr : Fr 123 a) (hs : Slots [(0, .int .i64 kap), (1, .int .u32 st), (2, .int .i64 (m : Nat)), (3, .slice xp K K), (4, .slice xc K K), (5, .slice xr I I), (6, .slice xi I I), (19, .int .i64 (K : Nat)), (20, .int .i64 s), (21, .bool an), (22, .int .u64 la), (23, .int .i64 (k : Nat))] a)
    (hlo : IntKind.i64.wrap ((k : Int) * (m : Int)) = (lo : Int)) (hk1 : IntKind.i64.wrap ((k : Int) + 1) = (k : Int) + 1) (hhi : IntKind.i64.wrap (((k : Int) + 1) * (m : Int)) = (hi : Int)) (hle : (lo : Int) ≤ hi) (hhI : (hi : Int) ≤ I) (hsl : (I = lo ∧ ys = xi) ∨ (¬ (I = lo) ∧ ∃ ib, xi = some ⟨ib, 0, none⟩ ∧ ys = some ⟨ib, lo, none⟩))
    (hcall : Calls Try.prog 38 #[.slice ys (hi - lo) (I - lo)] w fun e w' => e = .returned (.bool d) ∧ w' = w)
    (hQ : ∀ a', Fr 123 a' → Slots [(0, .int .i64 kap), (1, .int .u32 st), (2, .int .i64 (m : Nat)), (3, .slice xp K K), (4, .slice xc K K), (5, .slice xr I I), (6, .slice xi I I), (19, .int .i64 (K : Nat)), (20, .int .i64 s), (21, .bool an), (22, .int .u64 la), (23, .int .i64 (k : Nat)), (47, .bool d)] a' → Q .normal a' w) :
    Code.wp Try.prog (hdC (inC (hdC (tlC (inC (inC (tlC (nthC 5 (bodyC Try.f29))))))))) Q a w := by
  obtain ⟨u, hu, rfl⟩ := lay123 hfr
  obtain ⟨s0, s1, s2, s3, s4, s5, s6, s19, s20, s21, s22, s23, -⟩ := hs
  replace s0 : u 0 = .int .i64 kap := (hu 0).symm.trans s0
  replace s1 : u 1 = .int .u32 st := (hu 1).symm.trans s1
  replace s2 : u 2 = .int .i64 (m : Nat) := (hu 2).symm.trans s2
  replace s3 : u 3 = .slice xp K K := (hu 3).symm.trans s3
  replace s4 : u 4 = .slice xc K K := (hu 4).symm.trans s4
  replace s5 : u 5 = .slice xr I I := (hu 5).symm.trans s5
  replace s6 : u 6 = .slice xi I I := (hu 6).symm.trans s6
  replace s19 : u 19 = .int .i64 (K : Nat) := (hu 19).symm.trans s19
  replace s20 : u 20 = .int .i64 s := (hu 20).symm.trans s20
  replace s21 : u 21 = .bool an := (hu 21).symm.trans s21
  replace s22 : u 22 = .int .u64 la := (hu 22).symm.trans s22
  replace s23 : u 23 = .int .i64 (k : Nat) := (hu 23).symm.trans s23
  rw [s0, s1, s2, s3, s4, s5, s6, s19, s20, s21, s22, s23]
  clear hfr hu s0 s1 s2 s3 s4 s5 s6 s19 s20 s21 s22 s23
  conv => arg 2; whnf
  have HC : Hid _ := hcall
  clear hcall
  have H : Hid _ := hQ
  clear hQ
  rcases hsl with ⟨h1, rfl⟩ | ⟨h1, ib, rfl, rfl⟩
  · subst h1
    have HC' := HC.out
    rw [Nat.sub_self] at HC'
    have HD : Hid _ := HC'
    clear HC' HC
    go_wp2_with (go_at_call 38; refine Calls.mono HD.out ?_; rintro e w' ⟨rfl, rfl⟩)
    exact H.out _ ⟨rfl, rfl⟩ ⟨rfl, rfl, rfl, rfl, rfl, rfl, rfl, rfl, rfl, rfl, rfl, rfl, rfl, trivial⟩
  · skip
    go_wp2_with (go_at_call 38; refine Calls.mono HC.out ?_; rintro e w' ⟨rfl, rfl⟩)
    exact H.out _ ⟨rfl, rfl⟩ ⟨rfl, rfl, rfl, rfl, rfl, rfl, rfl, rfl, rfl, rfl, rfl, rfl, rfl, trivial⟩

set_option maxRecDepth 10000 in
set_option maxHeartbeats 1000000 in
theorem x9 (kap st : Int) (m K I : Nat) (xc xr xi : Option Addr) (s : Int) (an : Bool) (la : Int) (k : Nat) (pb : Nat) (pk : Int) (a : Act) (w : World) (Q : Exit → Act → World → Prop) (hfr : Fr 123 a) (hs : Slots [(0, .int .i64 kap), (1, .int .u32 st), (2, .int .i64 (m : Nat)), (3, .slice (some ⟨pb, 0, none⟩) K K), (4, .slice xc K K), (5, .slice xr I I), (6, .slice xi I I), (19, .int .i64 (K : Nat)), (20, .int .i64 s), (21, .bool an), (22, .int .u64 la), (23, .int .i64 (k : Nat))] a)
    (lk : (k : Int) < K) (hp : w.cell? ⟨pb, k, none⟩ = some (.int .u64 pk)) (hQ : ∀ a', Fr 123 a' → Slots [(0, .int .i64 kap), (1, .int .u32 st), (2, .int .i64 (m : Nat)), (3, .slice (some ⟨pb, 0, none⟩) K K), (4, .slice xc K K), (5, .slice xr I I), (6, .slice xi I I), (19, .int .i64 (K : Nat)), (20, .int .i64 (k : Nat)), (21, .bool true), (22, .int .u64 pk), (23, .int .i64 (k : Nat))] a' → Q .normal a' w) :
    Code.wp Try.prog (thC (tlC (inC (hdC (tlC (inC (inC (tlC (nthC 5 (bodyC Try.f29)))))))))) Q a w := by
  obtain ⟨u, hu, rfl⟩ := lay123 hfr
  obtain ⟨s0, s1, s2, s3, s4, s5, s6, s19, s20, s21, s22, s23, -⟩ := hs
  replace s0 : u 0 = .int .i64 kap := (hu 0).symm.trans s0
  replace s1 : u 1 = .int .u32 st := (hu 1).symm.trans s1
  replace s2 : u 2 = .int .i64 (m : Nat) := (hu 2).symm.trans s2
  replace s3 : u 3 = .slice (some ⟨pb, 0, none⟩) K K := (hu 3).symm.trans s3
  replace s4 : u 4 = .slice xc K K := (hu 4).symm.trans s4
  replace s5 : u 5 = .slice xr I I := (hu 5).symm.trans s5
  replace s6 : u 6 = .slice xi I I := (hu 6).symm.trans s6
  replace s19 : u 19 = .int .i64 (K : Nat) := (hu 19).symm.trans s19
  replace s20 : u 20 = .int .i64 s := (hu 20).symm.trans s20
  replace s21 : u 21 = .bool an := (hu 21).symm.trans s21
  replace s22 : u 22 = .int .u64 la := (hu 22).symm.trans s22
  replace s23 : u 23 = .int .i64 (k : Nat) := (hu 23).symm.trans s23
  rw [s0, s1, s2, s3, s4, s5, s6, s19, s20, s21, s22, s23]
  clear hfr hu s0 s1 s2 s3 s4 s5 s6 s19 s20 s21 s22 s23
  conv => arg 2; whnf
  have H : Hid _ := hQ
  clear hQ
  go_wp2
  exact H.out _ ⟨rfl, rfl⟩ ⟨rfl, rfl, rfl, rfl, rfl, rfl, rfl, rfl, rfl, rfl, rfl, rfl, trivial⟩

set_option maxRecDepth 10000 in
set_option maxHeartbeats 1000000 in
theorem x6 (kap st : Int) (m K I : Nat) (xp xc xr xi : Option Addr) (s : Int) (an : Bool) (la : Int) (a : Act) (w : World) (Q : Exit → Act → World → Prop) (hfr : Fr 123 a) (hs : Slots [(0, .int .i64 kap), (1, .int .u32 st), (2, .int .i64 (m : Nat)), (3, .slice xp K K), (4, .slice xc K K), (5, .slice xr I I), (6, .slice xi I I), (19, .int .i64 (K : Nat)), (20, .int .i64 s), (21, .bool an), (22, .int .u64 la)] a)
    (hQ : ∀ a', Fr 123 a' → Slots [(0, .int .i64 kap), (1, .int .u32 st), (2, .int .i64 (m : Nat)), (3, .slice xp K K), (4, .slice xc K K), (5, .slice xr I I), (6, .slice xi I I), (19, .int .i64 (K : Nat)), (20, .int .i64 s), (21, .bool an), (22, .int .u64 la), (24, .bool (decide (0 < K)))] a' → Q .normal a' w) :
    Code.wp Try.prog (nthC 6 (bodyC Try.f29)) Q a w := by
  obtain ⟨u, hu, rfl⟩ := lay123 hfr
  obtain ⟨s0, s1, s2, s3, s4, s5, s6, s19, s20, s21, s22, -⟩ := hs
  replace s0 : u 0 = .int .i64 kap := (hu 0).symm.trans s0
  replace s1 : u 1 = .int .u32 st := (hu 1).symm.trans s1
  replace s2 : u 2 = .int .i64 (m : Nat) := (hu 2).symm.trans s2
  replace s3 : u 3 = .slice xp K K := (hu 3).symm.trans s3
  replace s4 : u 4 = .slice xc K K := (hu 4).symm.trans s4
  replace s5 : u 5 = .slice xr I I := (hu 5).symm.trans s5
  replace s6 : u 6 = .slice xi I I := (hu 6).symm.trans s6
  replace s19 : u 19 = .int .i64 (K : Nat) := (hu 19).symm.trans s19
  replace s20 : u 20 = .int .i64 s := (hu 20).symm.trans s20
  replace s21 : u 21 = .bool an := (hu 21).symm.trans s21
  replace s22 : u 22 = .int .u64 la := (hu 22).symm.trans s22
  rw [s0, s1, s2, s3, s4, s5, s6, s19, s20, s21, s22]
  clear hfr hu s0 s1 s2 s3 s4 s5 s6 s19 s20 s21 s22
  conv => arg 2; whnf
  have H : Hid _ := hQ
  clear hQ
  rcases Nat.eq_zero_or_pos K with h | h
  · subst h
    go_wp2
    exact H.out _ ⟨rfl, rfl⟩ ⟨rfl, rfl, rfl, rfl, rfl, rfl, rfl, rfl, rfl, rfl, rfl, rfl, trivial⟩
  · have h1 : (0 : Int) < K := by omega
    have h2 : decide (0 < K) = true := by simpa using h
    rw [h2] at H
    go_wp2
    exact H.out _ ⟨rfl, rfl⟩ ⟨rfl, rfl, rfl, rfl, rfl, rfl, rfl, rfl, rfl, rfl, rfl, rfl, trivial⟩

set_option maxRecDepth 10000 in
set_option maxHeartbeats 1000000 in
theorem x7z (kap st : Int) (m K I : Nat) (xp xc xr xi : Option Addr) (s : Int) (an : Bool) (la : Int) (se : Bool) (a : Act) (w : World) (Q : Exit → Act → World → Prop) (hfr : Fr 123 a) (hs : Slots [(0, .int .i64 kap), (1, .int .u32 st), (2, .int .i64 (m : Nat)), (3, .slice xp K K), (4, .slice xc K K), (5, .slice xr I I), (6, .slice xi I I), (19, .int .i64 (K : Nat)), (20, .int .i64 s), (21, .bool an), (22, .int .u64 la), (24, .bool se)] a)
    (hK : K = 0) (hQ : ∀ a', Fr 123 a' → Slots [(0, .int .i64 kap), (1, .int .u32 st), (2, .int .i64 (m : Nat)), (3, .slice xp K K), (4, .slice xc K K), (5, .slice xr I I), (6, .slice xi I I), (19, .int .i64 (K : Nat)), (20, .int .i64 s), (21, .bool an), (22, .int .u64 la), (24, .bool se), (25, .bool false)] a' → Q .normal a' w) :
    Code.wp Try.prog (nthC 7 (bodyC Try.f29)) Q a w := by
  obtain ⟨u, hu, rfl⟩ := lay123 hfr
  obtain ⟨s0, s1, s2, s3, s4, s5, s6, s19, s20, s21, s22, s24, -⟩ := hs
  replace s0 : u 0 = .int .i64 kap := (hu 0).symm.trans s0
  replace s1 : u 1 = .int .u32 st := (hu 1).symm.trans s1
  replace s2 : u 2 = .int .i64 (m : Nat) := (hu 2).symm.trans s2
  replace s3 : u 3 = .slice xp K K := (hu 3).symm.trans s3
  replace s4 : u 4 = .slice xc K K := (hu 4).symm.trans s4
  replace s5 : u 5 = .slice xr I I := (hu 5).symm.trans s5
  replace s6 : u 6 = .slice xi I I := (hu 6).symm.trans s6
  replace s19 : u 19 = .int .i64 (K : Nat) := (hu 19).symm.trans s19
  replace s20 : u 20 = .int .i64 s := (hu 20).symm.trans s20
  replace s21 : u 21 = .bool an := (hu 21).symm.trans s21
  replace s22 : u 22 = .int .u64 la := (hu 22).symm.trans s22
  replace s24 : u 24 = .bool se := (hu 24).symm.trans s24
  rw [s0, s1, s2, s3, s4, s5, s6, s19, s20, s21, s22, s24]
  clear hfr hu s0 s1 s2 s3 s4 s5 s6 s19 s20 s21 s22 s24
  conv => arg 2; whnf
  subst hK
  have H : Hid _ := hQ
  clear hQ
  go_wp2
  exact H.out _ ⟨rfl, rfl⟩ ⟨rfl, rfl, rfl, rfl, rfl, rfl, rfl, rfl, rfl, rfl, rfl, rfl, rfl, trivial⟩

set_option maxRecDepth 10000 in
set_option maxHeartbeats 1000000 in
theorem x7 (kap st : Int) (m K I : Nat) (xp xc xr xi : Option Addr) (s : Int) (an : Bool) (la : Int) (se : Bool) (lo hi : Nat) (ys : Option Addr) (d : Bool) (a : Act) (w : World) (Q : Exit → Act → World → Prop) (hfr : Fr 123 a) (hs : Slots [(0, .int .i64 kap), (1, .int .u32 st), (2, .int .i64 (m : Nat)), (3, .slice xp K K), (4, .slice xc K K), (5, .slice xr I I), (6, .slice xi I I), (19, .int .i64 (K : Nat)), (20, .int .i64 s), (21, .bool an), (22, .int .u64 la), (24, .bool se)] a)
    (lK : (0 : Int) < K) (hk1 : IntKind.i64.wrap ((K : Int) - 1) = (K : Int) - 1) (hlo : IntKind.i64.wrap (((K : Int) - 1) * (m : Int)) = (lo : Int)) (hhi : IntKind.i64.wrap ((K : Int) * (m : Int)) = (hi : Int)) (hle : (lo : Int) ≤ hi) (hhI : (hi : Int) ≤ I) (hsl : (I = lo ∧ ys = xi) ∨ (¬ (I = lo) ∧ ∃ ib, xi = some ⟨ib, 0, none⟩ ∧ ys = some ⟨ib, lo, none⟩))
    (hcall : Calls Try.prog 38 #[.slice ys (hi - lo) (I - lo)] w fun e w' => e = .returned (.bool d) ∧ w' = w)
    (hQ : ∀ a', Fr 123 a' → Slots [(0, .int .i64 kap), (1, .int .u32 st), (2, .int .i64 (m : Nat)), (3, .slice xp K K), (4, .slice xc K K), (5, .slice xr I I), (6, .slice xi I I), (19, .int .i64 (K : Nat)), (20, .int .i64 s), (21, .bool an), (22, .int .u64 la), (24, .bool se), (25, .bool d)] a' → Q .normal a' w) :
    Code.wp Try.prog (nthC 7 (bodyC Try.f29)) Q a w := by
  obtain ⟨u, hu, rfl⟩ := lay123 hfr
  obtain ⟨s0, s1, s2, s3, s4, s5, s6, s19, s20, s21, s22, s24, -⟩ := hs
  replace s0 : u 0 = .int .i64 kap := (hu 0).symm.trans s0
  replace s1 : u 1 = .int .u32 st := (hu 1).symm.trans s1
  replace s2 : u 2 = .int .i64 (m : Nat) := (hu 2).symm.trans s2
  replace s3 : u 3 = .slice xp K K := (hu 3).symm.trans s3
  replace s4 : u 4 = .slice xc K K := (hu 4).symm.trans s4
  replace s5 : u 5 = .slice xr I I := (hu 5).symm.trans s5
  replace s6 : u 6 = .slice xi I I := (hu 6).symm.trans s6
  replace s19 : u 19 = .int .i64 (K : Nat) := (hu 19).symm.trans s19
  replace s20 : u 20 = .int .i64 s := (hu 20).symm.trans s20
  replace s21 : u 21 = .bool an := (hu 21).symm.trans s21
  replace s22 : u 22 = .int .u64 la := (hu 22).symm.trans s22
  replace s24 : u 24 = .bool se := (hu 24).symm.trans s24
  rw [s0, s1, s2, s3, s4, s5, s6, s19, s20, s21, s22, s24]
  clear hfr hu s0 s1 s2 s3 s4 s5 s6 s19 s20 s21 s22 s24
  conv => arg 2; whnf
  have HC : Hid _ := hcall
  clear hcall
  have H : Hid _ := hQ
  clear hQ
  rcases hsl with ⟨h1, rfl⟩ | ⟨h1, ib, rfl, rfl⟩
  · subst h1
    have HC' := HC.out
    rw [Nat.sub_self] at HC'
    have HD : Hid _ := HC'
    clear HC' HC
    go_wp2_with (go_at_call 38; refine Calls.mono HD.out ?_; rintro e w' ⟨rfl, rfl⟩)
    exact H.out _ ⟨rfl, rfl⟩ ⟨rfl, rfl, rfl, rfl, rfl, rfl, rfl, rfl, rfl, rfl, rfl, rfl, rfl, trivial⟩
  · skip
    go_wp2_with (go_at_call 38; refine Calls.mono HC.out ?_; rintro e w' ⟨rfl, rfl⟩)
    exact H.out _ ⟨rfl, rfl⟩ ⟨rfl, rfl, rfl, rfl, rfl, rfl, rfl, rfl, rfl, rfl, rfl, rfl, rfl, trivial⟩

set_option maxRecDepth 10000 in
set_option maxHeartbeats 1000000 in
theorem x8b (kap st : Int) (m K I : Nat) (xp xc xr xi : Option Addr) (s : Int) (an : Bool) (la : Int) (se : Bool) (d : Bool) (a : Act) (w : World) (Q : Exit → Act → World → Prop) (hfr : Fr 123 a) (hs : Slots [(0, .int .i64 kap), (1, .int .u32 st), (2, .int .i64 (m : Nat)), (3, .slice xp K K), (4, .slice xc K K), (5, .slice xr I I), (6, .slice xi I I), (19, .int .i64 (K : Nat)), (20, .int .i64 s), (21, .bool an), (22, .int .u64 la), (24, .bool se), (25, .bool d)] a)
    (hQ : ∀ a', Fr 123 a' → Slots [(0, .int .i64 kap), (1, .int .u32 st), (2, .int .i64 (m : Nat)), (3, .slice xp K K), (4, .slice xc K K), (5, .slice xr I I), (6, .slice xi I I), (19, .int .i64 (K : Nat)), (20, .int .i64 s), (21, .bool an), (22, .int .u64 la), (24, .bool se), (25, .bool d), (26, .int .u64 0)] a' → Q .normal a' w) :
    Code.wp Try.prog (nthC 8 (bodyC Try.f29)) Q a w := by
  obtain ⟨u, hu, rfl⟩ := lay123 hfr
  obtain ⟨s0, s1, s2, s3, s4, s5, s6, s19, s20, s21, s22, s24, s25, -⟩ := hs
  replace s0 : u 0 = .int .i64 kap := (hu 0).symm.trans s0
  replace s1 : u 1 = .int .u32 st := (hu 1).symm.trans s1
  replace s2 : u 2 = .int .i64 (m : Nat) := (hu 2).symm.trans s2
  replace s3 : u 3 = .slice xp K K := (hu 3).symm.trans s3
  replace s4 : u 4 = .slice xc K K := (hu 4).symm.trans s4
  replace s5 : u 5 = .slice xr I I := (hu 5).symm.trans s5
  replace s6 : u 6 = .slice xi I I := (hu 6).symm.trans s6
  replace s19 : u 19 = .int .i64 (K : Nat) := (hu 19).symm.trans s19
  replace s20 : u 20 = .int .i64 s := (hu 20).symm.trans s20
  replace s21 : u 21 = .bool an := (hu 21).symm.trans s21
  replace s22 : u 22 = .int .u64 la := (hu 22).symm.trans s22
  replace s24 : u 24 = .bool se := (hu 24).symm.trans s24
  replace s25 : u 25 = .bool d := (hu 25).symm.trans s25
  rw [s0, s1, s2, s3, s4, s5, s6, s19, s20, s21, s22, s24, s25]
  clear hfr hu s0 s1 s2 s3 s4 s5 s6 s19 s20 s21 s22 s24 s25
  conv => arg 2; whnf
  have H : Hid _ := hQ
  clear hQ
  go_wp2
  exact H.out _ ⟨rfl, rfl⟩ ⟨rfl, rfl, rfl, rfl, rfl, rfl, rfl, rfl, rfl, rfl, rfl, rfl, rfl, rfl, trivial⟩

set_option maxRecDepth 10000 in
set_option maxHeartbeats 1000000 in
theorem x9b (kap st : Int) (m K I : Nat) (xp xc xr xi : Option Addr) (s : Int) (an : Bool) (la : Int) (se : Bool) (d : Bool) (v : Int) (c : Nat) (a : Act) (w : World) (Q : Exit → Act → World → Prop) (hfr : Fr 123 a) (hs : Slots [(0, .int .i64 kap), (1, .int .u32 st), (2, .int .i64 (m : Nat)), (3, .slice xp K K), (4, .slice xc K K), (5, .slice xr I I), (6, .slice xi I I), (19, .int .i64 (K : Nat)), (20, .int .i64 s), (21, .bool an), (22, .int .u64 la), (24, .bool se), (25, .bool d), (26, .int .u64 v)] a)
    (hc : IntKind.i64.wrap (s + 1) = (c : Int)) (hQ : ∀ a', Fr 123 a' → Slots [(0, .int .i64 kap), (1, .int .u32 st), (2, .int .i64 (m : Nat)), (3, .slice xp K K), (4, .slice xc K K), (5, .slice xr I I), (6, .slice xi I I), (19, .int .i64 (K : Nat)), (20, .int .i64 s), (21, .bool an), (22, .int .u64 la), (24, .bool se), (25, .bool d), (26, .int .u64 v), (27, .int .i64 (c : Nat))] a' → Q .normal a' w) :
    Code.wp Try.prog (nthC 9 (bodyC Try.f29)) Q a w := by
  obtain ⟨u, hu, rfl⟩ := lay123 hfr
  obtain ⟨s0, s1, s2, s3, s4, s5, s6, s19, s20, s21, s22, s24, s25, s26, -⟩ := hs
  replace s0 : u 0 = .int .i64 kap := (hu 0).symm.trans s0
  replace s1 : u 1 = .int .u32 st := (hu 1).symm.trans s1
  replace s2 : u 2 = .int .i64 (m : Nat) := (hu 2).symm.trans s2
  replace s3 : u 3 = .slice xp K K := (hu 3).symm.trans s3
  replace s4 : u 4 = .slice xc K K := (hu 4).symm.trans s4
  replace s5 : u 5 = .slice xr I I := (hu 5).symm.trans s5
  replace s6 : u 6 = .slice xi I I := (hu 6).symm.trans s6
  replace s19 : u 19 = .int .i64 (K : Nat) := (hu 19).symm.trans s19
  replace s20 : u 20 = .int .i64 s := (hu 20).symm.trans s20
  replace s21 : u 21 = .bool an := (hu 21).symm.trans s21
  replace s22 : u 22 = .int .u64 la := (hu 22).symm.trans s22
  replace s24 : u 24 = .bool se := (hu 24).symm.trans s24
  replace s25 : u 25 = .bool d := (hu 25).symm.trans s25
  replace s26 : u 26 = .int .u64 v := (hu 26).symm.trans s26
  rw [s0, s1, s2, s3, s4, s5, s6, s19, s20, s21, s22, s24, s25, s26]
  clear hfr hu s0 s1 s2 s3 s4 s5 s6 s19 s20 s21 s22 s24 s25 s26
  conv => arg 2; whnf
  have H : Hid _ := hQ
  clear hQ
  go_wp2
  exact H.out _ ⟨rfl, rfl⟩ ⟨rfl, rfl, rfl, rfl, rfl, rfl, rfl, rfl, rfl, rfl, rfl, rfl, rfl, rfl, rfl, trivial⟩

set_option maxRecDepth 10000 in
set_option maxHeartbeats 1000000 in
theorem x10h (kap st : Int) (m K I : Nat) (xp xc xr xi : Option Addr) (s : Int) (an : Bool) (la : Int) (se : Bool) (d : Bool) (v : Int) (c : Nat) (a : Act) (w : World) (Q : Exit → Act → World → Prop) (hfr : Fr 123 a) (hs : Slots [(0, .int .i64 kap), (1, .int .u32 st), (2, .int .i64 (m : Nat)), (3, .slice xp K K), (4, .slice xc K K), (5, .slice xr I I), (6, .slice xi I I), (19, .int .i64 (K : Nat)), (20, .int .i64 s), (21, .bool an), (22, .int .u64 la), (24, .bool se), (25, .bool d), (26, .int .u64 v), (27, .int .i64 (c : Nat))] a)
    (hk : c ≤ K) (lK : (K : Int) ≤ 65536) (hQ : ∀ a', c < K → Fr 123 a' → Slots [(0, .int .i64 kap), (1, .int .u32 st), (2, .int .i64 (m : Nat)), (3, .slice xp K K), (4, .slice xc K K), (5, .slice xr I I), (6, .slice xi I I), (19, .int .i64 (K : Nat)), (20, .int .i64 s), (21, .bool an), (22, .int .u64 la), (24, .bool se), (25, .bool d), (26, .int .u64 v), (27, .int .i64 (c : Nat))] a' → Q .normal a' w) (hexit : ∀ a', c = K → Fr 123 a' → Slots [(0, .int .i64 kap), (1, .int .u32 st), (2, .int .i64 (m : Nat)), (3, .slice xp K K), (4, .slice xc K K), (5, .slice xr I I), (6, .slice xi I I), (19, .int .i64 (K : Nat)), (20, .int .i64 s), (21, .bool an), (22, .int .u64 la), (24, .bool se), (25, .bool d), (26, .int .u64 v)] a' → Q (.exit 2) a' w) :
    Code.wp Try.prog (hdC (inC (inC (nthC 10 (bodyC Try.f29))))) Q a w := by
  obtain ⟨u, hu, rfl⟩ := lay123 hfr
  obtain ⟨s0, s1, s2, s3, s4, s5, s6, s19, s20, s21, s22, s24, s25, s26, s27, -⟩ := hs
  replace s0 : u 0 = .int .i64 kap := (hu 0).symm.trans s0
  replace s1 : u 1 = .int .u32 st := (hu 1).symm.trans s1
  replace s2 : u 2 = .int .i64 (m : Nat) := (hu 2).symm.trans s2
  replace s3 : u 3 = .slice xp K K := (hu 3).symm.trans s3
  replace s4 : u 4 = .slice xc K K := (hu 4).symm.trans s4
  replace s5 : u 5 = .slice xr I I := (hu 5).symm.trans s5
  replace s6 : u 6 = .slice xi I I := (hu 6).symm.trans s6
  replace s19 : u 19 = .int .i64 (K : Nat) := (hu 19).symm.trans s19
  replace s20 : u 20 = .int .i64 s := (hu 20).symm.trans s20
  replace s21 : u 21 = .bool an := (hu 21).symm.trans s21
  replace s22 : u 22 = .int .u64 la := (hu 22).symm.trans s22
  replace s24 : u 24 = .bool se := (hu 24).symm.trans s24
  replace s25 : u 25 = .bool d := (hu 25).symm.trans s25
  replace s26 : u 26 = .int .u64 v := (hu 26).symm.trans s26
  replace s27 : u 27 = .int .i64 (c : Nat) := (hu 27).symm.trans s27
  rw [s0, s1, s2, s3, s4, s5, s6, s19, s20, s21, s22, s24, s25, s26, s27]
  clear hfr hu s0 s1 s2 s3 s4 s5 s6 s19 s20 s21 s22 s24 s25 s26 s27
  conv => arg 2; whnf
  have H : Hid _ := hQ
  have HX : Hid _ := hexit
  clear hQ hexit
  by_cases hlt : c < K
  · have l : (c : Int) < K := by omega
    go_wp2
    exact H.out _ hlt ⟨rfl, rfl⟩ ⟨rfl, rfl, rfl, rfl, rfl, rfl, rfl, rfl, rfl, rfl, rfl, rfl, rfl, rfl, rfl, trivial⟩
  · have l : ¬ ((c : Int) < K) := by omega
    go_wp2
    exact HX.out _ (by omega) ⟨rfl, rfl⟩ ⟨rfl, rfl, rfl, rfl, rfl, rfl, rfl, rfl, rfl, rfl, rfl, rfl, rfl, rfl, trivial⟩

set_option maxRecDepth 10000 in
set_option maxHeartbeats 1000000 in
theorem x17 (kap st : Int) (m K I : Nat) (xp xr xi : Option Addr) (s : Int) (an : Bool) (la : Int) (se : Bool) (d : Bool) (v : Int) (c : Nat) (cb : Nat) (x : Int) (a : Act) (w : World) (Q : Exit → Act → World → Prop) (hfr : Fr 123 a) (hs : Slots [(0, .int .i64 kap), (1, .int .u32 st), (2, .int .i64 (m : Nat)), (3, .slice xp K K), (4, .slice (some ⟨cb, 0, none⟩) K K), (5, .slice xr I I), (6, .slice xi I I), (19, .int .i64 (K : Nat)), (20, .int .i64 s), (21, .bool an), (22, .int .u64 la), (24, .bool se), (25, .bool d), (26, .int .u64 v), (27, .int .i64 (c : Nat))] a)
    (lk : (c : Int) < K) (hx : w.cell? ⟨cb, c, none⟩ = some (.int .i64 x)) (hQ : ∀ a', Fr 123 a' → Slots [(0, .int .i64 kap), (1, .int .u32 st), (2, .int .i64 (m : Nat)), (3, .slice xp K K), (4, .slice (some ⟨cb, 0, none⟩) K K), (5, .slice xr I I), (6, .slice xi I I), (19, .int .i64 (K : Nat)), (20, .int .i64 s), (21, .bool an), (22, .int .u64 la), (24, .bool se), (25, .bool d), (26, .int .u64 v), (27, .int .i64 (c : Nat)), (78, .bool (!(x == 0)))] a' → Q .normal a' w) :
    Code.wp Try.prog (hdC (nthC 0 (inC (tlC (inC (inC (nthC 10 (bodyC Try.f29)))))))) Q a w := by
  obtain ⟨u, hu, rfl⟩ := lay123 hfr
  obtain ⟨s0, s1, s2, s3, s4, s5, s6, s19, s20, s21, s22, s24, s25, s26, s27, -⟩ := hs
  replace s0 : u 0 = .int .i64 kap := (hu 0).symm.trans s0
  replace s1 : u 1 = .int .u32 st := (hu 1).symm.trans s1
  replace s2 : u 2 = .int .i64 (m : Nat) := (hu 2).symm.trans s2
  replace s3 : u 3 = .slice xp K K := (hu 3).symm.trans s3
  replace s4 : u 4 = .slice (some ⟨cb, 0, none⟩) K K := (hu 4).symm.trans s4
  replace s5 : u 5 = .slice xr I I := (hu 5).symm.trans s5
  replace s6 : u 6 = .slice xi I I := (hu 6).symm.trans s6
  replace s19 : u 19 = .int .i64 (K : Nat) := (hu 19).symm.trans s19
  replace s20 : u 20 = .int .i64 s := (hu 20).symm.trans s20
  replace s21 : u 21 = .bool an := (hu 21).symm.trans s21
  replace s22 : u 22 = .int .u64 la := (hu 22).symm.trans s22
  replace s24 : u 24 = .bool se := (hu 24).symm.trans s24
  replace s25 : u 25 = .bool d := (hu 25).symm.trans s25
  replace s26 : u 26 = .int .u64 v := (hu 26).symm.trans s26
  replace s27 : u 27 = .int .i64 (c : Nat) := (hu 27).symm.trans s27
  rw [s0, s1, s2, s3, s4, s5, s6, s19, s20, s21, s22, s24, s25, s26, s27]
  clear hfr hu s0 s1 s2 s3 s4 s5 s6 s19 s20 s21 s22 s24 s25 s26 s27
  conv => arg 2; whnf
  have H : Hid _ := hQ
  clear hQ
  go_wp2
  exact H.out _ ⟨rfl, rfl⟩ ⟨rfl, rfl, rfl, rfl, rfl, rfl, rfl, rfl, rfl, rfl, rfl, rfl, rfl, rfl, rfl, rfl, trivial⟩

set_option maxRecDepth 10000 in
set_option maxHeartbeats 1000000 in
theorem x18 (kap st : Int) (m K I : Nat) (xp xc xr xi : Option Addr) (s : Int) (an : Bool) (la : Int) (se : Bool) (d : Bool) (v : Int) (c : Nat) (a : Act) (w : World) (Q : Exit → Act → World → Prop) (hfr : Fr 123 a) (hs : Slots [(0, .int .i64 kap), (1, .int .u32 st), (2, .int .i64 (m : Nat)), (3, .slice xp K K), (4, .slice xc K K), (5, .slice xr I I), (6, .slice xi I I), (19, .int .i64 (K : Nat)), (20, .int .i64 s), (21, .bool an), (22, .int .u64 la), (24, .bool se), (25, .bool d), (26, .int .u64 v), (27, .int .i64 (c : Nat))] a)
    (hk : (c : Int) ≤ 65536) (hexit : ∀ a', Fr 123 a' → Slots [(0, .int .i64 kap), (1, .int .u32 st), (2, .int .i64 (m : Nat)), (3, .slice xp K K), (4, .slice xc K K), (5, .slice xr I I), (6, .slice xi I I), (19, .int .i64 (K : Nat)), (20, .int .i64 s), (21, .bool an), (22, .int .u64 la), (24, .bool se), (25, .bool d), (26, .int .u64 v), (27, .int .i64 (c + 1 : Nat))] a' → Q (.exit 3) a' w) :
    Code.wp Try.prog (thC (tlC (nthC 0 (inC (tlC (inC (inC (nthC 10 (bodyC Try.f29))))))))) Q a w := by
  obtain ⟨u, hu, rfl⟩ := lay123 hfr
  obtain ⟨s0, s1, s2, s3, s4, s5, s6, s19, s20, s21, s22, s24, s25, s26, s27, -⟩ := hs
  replace s0 : u 0 = .int .i64 kap := (hu 0).symm.trans s0
  replace s1 : u 1 = .int .u32 st := (hu 1).symm.trans s1
  replace s2 : u 2 = .int .i64 (m : Nat) := (hu 2).symm.trans s2
  replace s3 : u 3 = .slice xp K K := (hu 3).symm.trans s3
  replace s4 : u 4 = .slice xc K K := (hu 4).symm.trans s4
  replace s5 : u 5 = .slice xr I I := (hu 5).symm.trans s5
  replace s6 : u 6 = .slice xi I I := (hu 6).symm.trans s6
  replace s19 : u 19 = .int .i64 (K : Nat) := (hu 19).symm.trans s19
  replace s20 : u 20 = .int .i64 s := (hu 20).symm.trans s20
  replace s21 : u 21 = .bool an := (hu 21).symm.trans s21
  replace s22 : u 22 = .int .u64 la := (hu 22).symm.trans s22
  replace s24 : u 24 = .bool se := (hu 24).symm.trans s24
  replace s25 : u 25 = .bool d := (hu 25).symm.trans s25
  replace s26 : u 26 = .int .u64 v := (hu 26).symm.trans s26
  replace s27 : u 27 = .int .i64 (c : Nat) := (hu 27).symm.trans s27
  rw [s0, s1, s2, s3, s4, s5, s6, s19, s20, s21, s22, s24, s25, s26, s27]
  clear hfr hu s0 s1 s2 s3 s4 s5 s6 s19 s20 s21 s22 s24 s25 s26 s27
  conv => arg 2; whnf
  have H : Hid _ := hexit
  clear hexit
  go_wp2
  exact H.out _ ⟨rfl, rfl⟩ ⟨rfl, rfl, rfl, rfl, rfl, rfl, rfl, rfl, rfl, rfl, rfl, rfl, rfl, rfl, rfl, trivial⟩

set_option maxRecDepth 10000 in
set_option maxHeartbeats 1000000 in
theorem x19 (kap st : Int) (m K I : Nat) (xp xc xr xi : Option Addr) (s : Int) (an : Bool) (la : Int) (se : Bool) (d : Bool) (v : Int) (c : Nat) (a : Act) (w : World) (Q : Exit → Act → World → Prop) (hfr : Fr 123 a) (hs : Slots [(0, .int .i64 kap), (1, .int .u32 st), (2, .int .i64 (m : Nat)), (3, .slice xp K K), (4, .slice xc K K), (5, .slice xr I I), (6, .slice xi I I), (19, .int .i64 (K : Nat)), (20, .int .i64 s), (21, .bool an), (22, .int .u64 la), (24, .bool se), (25, .bool d), (26, .int .u64 v), (27, .int .i64 (c : Nat))] a)
    (hk : (c : Int) ≤ 65536) (hQ : ∀ a', Fr 123 a' → Slots [(0, .int .i64 kap), (1, .int .u32 st), (2, .int .i64 (m : Nat)), (3, .slice xp K K), (4, .slice xc K K), (5, .slice xr I I), (6, .slice xi I I), (19, .int .i64 (K : Nat)), (20, .int .i64 s), (21, .bool an), (22, .int .u64 la), (24, .bool se), (25, .bool d), (26, .int .u64 v), (27, .int .i64 (c : Nat)), (28, .int .i64 (c + 1 : Nat))] a' → Q .normal a' w) :
    Code.wp Try.prog (nthC 1 (inC (tlC (inC (inC (nthC 10 (bodyC Try.f29))))))) Q a w := by
  obtain ⟨u, hu, rfl⟩ := lay123 hfr
  obtain ⟨s0, s1, s2, s3, s4, s5, s6, s19, s20, s21, s22, s24, s25, s26, s27, -⟩ := hs
  replace s0 : u 0 = .int .i64 kap := (hu 0).symm.trans s0
  replace s1 : u 1 = .int .u32 st := (hu 1).symm.trans s1
  replace s2 : u 2 = .int .i64 (m : Nat) := (hu 2).symm.trans s2
  replace s3 : u 3 = .slice xp K K := (hu 3).symm.trans s3
  replace s4 : u 4 = .slice xc K K := (hu 4).symm.trans s4
  replace s5 : u 5 = .slice xr I I := (hu 5).symm.trans s5
  replace s6 : u 6 = .slice xi I I := (hu 6).symm.trans s6
  replace s19 : u 19 = .int .i64 (K : Nat) := (hu 19).symm.trans s19
  replace s20 : u 20 = .int .i64 s := (hu 20).symm.trans s20
  replace s21 : u 21 = .bool an := (hu 21).symm.trans s21
  replace s22 : u 22 = .int .u64 la := (hu 22).symm.trans s22
  replace s24 : u 24 = .bool se := (hu 24).symm.trans s24
  replace s25 : u 25 = .bool d := (hu 25).symm.trans s25
  replace s26 : u 26 = .int .u64 v := (hu 26).symm.trans s26
  replace s27 : u 27 = .int .i64 (c : Nat) := (hu 27).symm.trans s27
  rw [s0, s1, s2, s3, s4, s5, s6, s19, s20, s21, s22, s24, s25, s26, s27]
  clear hfr hu s0 s1 s2 s3 s4 s5 s6 s19 s20 s21 s22 s24 s25 s26 s27
  conv => arg 2; whnf
  have H : Hid _ := hQ
  clear hQ
  go_wp2
  exact H.out _ ⟨rfl, rfl⟩ ⟨rfl, rfl, rfl, rfl, rfl, rfl, rfl, rfl, rfl, rfl, rfl, rfl, rfl, rfl, rfl, rfl, trivial⟩

set_option maxRecDepth 10000 in
set_option maxHeartbeats 1000000 in
theorem x20x (kap st : Int) (m K I : Nat) (xp xc xr xi : Option Addr) (s : Int) (an : Bool) (la : Int) (se : Bool) (d : Bool) (v : Int) (c : Nat) (e : Nat) (a : Act) (w : World) (Q : Exit → Act → World → Prop) (hfr : Fr 123 a) (hs : Slots [(0, .int .i64 kap), (1, .int .u32 st), (2, .int .i64 (m : Nat)), (3, .slice xp K K), (4, .slice xc K K), (5, .slice xr I I), (6, .slice xi I I), (19, .int .i64 (K : Nat)), (20, .int .i64 s), (21, .bool an), (22, .int .u64 la), (24, .bool se), (25, .bool d), (26, .int .u64 v), (27, .int .i64 (c : Nat)), (28, .int .i64 (e : Nat))] a)
    (hk : e = K) (hexit : ∀ a', Fr 123 a' → Slots [(0, .int .i64 kap), (1, .int .u32 st), (2, .int .i64 (m : Nat)), (3, .slice xp K K), (4, .slice xc K K), (5, .slice xr I I), (6, .slice xi I I), (19, .int .i64 (K : Nat)), (20, .int .i64 s), (21, .bool an), (22, .int .u64 la), (24, .bool se), (25, .bool d), (26, .int .u64 v), (27, .int .i64 (c : Nat)), (28, .int .i64 (e : Nat))] a' → Q (.exit 4) a' w) :
    Code.wp Try.prog (hdC (inC (inC (nthC 2 (inC (tlC (inC (inC (nthC 10 (bodyC Try.f29)))))))))) Q a w := by
  obtain ⟨u, hu, rfl⟩ := lay123 hfr
  obtain ⟨s0, s1, s2, s3, s4, s5, s6, s19, s20, s21, s22, s24, s25, s26, s27, s28, -⟩ := hs
  replace s0 : u 0 = .int .i64 kap := (hu 0).symm.trans s0
  replace s1 : u 1 = .int .u32 st := (hu 1).symm.trans s1
  replace s2 : u 2 = .int .i64 (m : Nat) := (hu 2).symm.trans s2
  replace s3 : u 3 = .slice xp K K := (hu 3).symm.trans s3
  replace s4 : u 4 = .slice xc K K := (hu 4).symm.trans s4
  replace s5 : u 5 = .slice xr I I := (hu 5).symm.trans s5
  replace s6 : u 6 = .slice xi I I := (hu 6).symm.trans s6
  replace s19 : u 19 = .int .i64 (K : Nat) := (hu 19).symm.trans s19
  replace s20 : u 20 = .int .i64 s := (hu 20).symm.trans s20
  replace s21 : u 21 = .bool an := (hu 21).symm.trans s21
  replace s22 : u 22 = .int .u64 la := (hu 22).symm.trans s22
  replace s24 : u 24 = .bool se := (hu 24).symm.trans s24
  replace s25 : u 25 = .bool d := (hu 25).symm.trans s25
  replace s26 : u 26 = .int .u64 v := (hu 26).symm.trans s26
  replace s27 : u 27 = .int .i64 (c : Nat) := (hu 27).symm.trans s27
  replace s28 : u 28 = .int .i64 (e : Nat) := (hu 28).symm.trans s28
  rw [s0, s1, s2, s3, s4, s5, s6, s19, s20, s21, s22, s24, s25, s26, s27, s28]
  clear hfr hu s0 s1 s2 s3 s4 s5 s6 s19 s20 s21 s22 s24 s25 s26 s27 s28
  conv => arg 2; whnf
  subst hk
  have H : Hid _ := hexit
  clear hexit
  have lk : ¬ ((e : Int) < e) := by omega
  go_wp2
  exact H.out _ ⟨rfl, rfl⟩ ⟨rfl, rfl, rfl, rfl, rfl, rfl, rfl, rfl, rfl, rfl, rfl, rfl, rfl, rfl, rfl, rfl, trivial⟩

set_option maxRecDepth 10000 in
set_option maxHeartbeats 1000000 in
theorem x20 (kap st : Int) (m K I : Nat) (xp xr xi : Option Addr) (s : Int) (an : Bool) (la : Int) (se : Bool) (d : Bool) (v : Int) (c : Nat) (e : Nat) (cb : Nat) (x : Int) (a : Act) (w : World) (Q : Exit → Act → World → Prop) (hfr : Fr 123 a) (hs : Slots [(0, .int .i64 kap), (1, .int .u32 st), (2, .int .i64 (m : Nat)), (3, .slice xp K K), (4, .slice (some ⟨cb, 0, none⟩) K K), (5, .slice xr I I), (6, .slice xi I I), (19, .int .i64 (K : Nat)), (20, .int .i64 s), (21, .bool an), (22, .int .u64 la), (24, .bool se), (25, .bool d), (26, .int .u64 v), (27, .int .i64 (c : Nat)), (28, .int .i64 (e : Nat))] a)
    (lk : (e : Int) < K) (hx : w.cell? ⟨cb, e, none⟩ = some (.int .i64 x)) (hQ : ∀ a', x ≠ 0 → Fr 123 a' → Slots [(0, .int .i64 kap), (1, .int .u32 st), (2, .int .i64 (m : Nat)), (3, .slice xp K K), (4, .slice (some ⟨cb, 0, none⟩) K K), (5, .slice xr I I), (6, .slice xi I I), (19, .int .i64 (K : Nat)), (20, .int .i64 s), (21, .bool an), (22, .int .u64 la), (24, .bool se), (25, .bool d), (26, .int .u64 v), (27, .int .i64 (c : Nat)), (28, .int .i64 (e : Nat))] a' → Q .normal a' w) (hexit : ∀ a', x = 0 → Fr 123 a' → Slots [(0, .int .i64 kap), (1, .int .u32 st), (2, .int .i64 (m : Nat)), (3, .slice xp K K), (4, .slice (some ⟨cb, 0, none⟩) K K), (5, .slice xr I I), (6, .slice xi I I), (19, .int .i64 (K : Nat)), (20, .int .i64 s), (21, .bool an), (22, .int .u64 la), (24, .bool se), (25, .bool d), (26, .int .u64 v), (27, .int .i64 (c : Nat)), (28, .int .i64 (e : Nat))] a' → Q (.exit 4) a' w) :
    Code.wp Try.prog (hdC (inC (inC (nthC 2 (inC (tlC (inC (inC (nthC 10 (bodyC Try.f29)))))))))) Q a w := by
  obtain ⟨u, hu, rfl⟩ := lay123 hfr
  obtain ⟨s0, s1, s2, s3, s4, s5, s6, s19, s20, s21, s22, s24, s25, s26, s27, s28, -⟩ := hs
  replace s0 : u 0 = .int .i64 kap := (hu 0).symm.trans s0
  replace s1 : u 1 = .int .u32 st := (hu 1).symm.trans s1
  replace s2 : u 2 = .int .i64 (m : Nat) := (hu 2).symm.trans s2
  replace s3 : u 3 = .slice xp K K := (hu 3).symm.trans s3
  replace s4 : u 4 = .slice (some ⟨cb, 0, none⟩) K K := (hu 4).symm.trans s4
  replace s5 : u 5 = .slice xr I I := (hu 5).symm.trans s5
  replace s6 : u 6 = .slice xi I I := (hu 6).symm.trans s6
  replace s19 : u 19 = .int .i64 (K : Nat) := (hu 19).symm.trans s19
  replace s20 : u 20 = .int .i64 s := (hu 20).symm.trans s20
  replace s21 : u 21 = .bool an := (hu 21).symm.trans s21
  replace s22 : u 22 = .int .u64 la := (hu 22).symm.trans s22
  replace s24 : u 24 = .bool se := (hu 24).symm.trans s24
  replace s25 : u 25 = .bool d := (hu 25).symm.trans s25
  replace s26 : u 26 = .int .u64 v := (hu 26).symm.trans s26
  replace s27 : u 27 = .int .i64 (c : Nat) := (hu 27).symm.trans s27
  replace s28 : u 28 = .int .i64 (e : Nat) := (hu 28).symm.trans s28
  rw [s0, s1, s2, s3, s4, s5, s6, s19, s20, s21, s22, s24, s25, s26, s27, s28]
  clear hfr hu s0 s1 s2 s3 s4 s5 s6 s19 s20 s21 s22 s24 s25 s26 s27 s28
  conv => arg 2; whnf
  have H : Hid _ := hQ
  have HX : Hid _ := hexit
  clear hQ hexit
  by_cases h : x = 0
  · subst h
    go_wp2
    exact HX.out _ (by trivial) ⟨rfl, rfl⟩ ⟨rfl, rfl, rfl, rfl, rfl, rfl, rfl, rfl, rfl, rfl, rfl, rfl, rfl, rfl, rfl, rfl, trivial⟩
  · have g : (x == 0) = false := by simpa using h
    have HN : Hid _ := h
    clear h
    go_wp2
    exact H.out _ HN.out ⟨rfl, rfl⟩ ⟨rfl, rfl, rfl, rfl, rfl, rfl, rfl, rfl, rfl, rfl, rfl, rfl, rfl, rfl, rfl, rfl, trivial⟩

set_option maxRecDepth 10000 in
set_option maxHeartbeats 1000000 in
theorem x21 (kap st : Int) (m K I : Nat) (xp xc xr xi : Option Addr) (s : Int) (an : Bool) (la : Int) (se : Bool) (d : Bool) (v : Int) (c : Nat) (e : Nat) (a : Act) (w : World) (Q : Exit → Act → World → Prop) (hfr : Fr 123 a) (hs : Slots [(0, .int .i64 kap), (1, .int .u32 st), (2, .int .i64 (m : Nat)), (3, .slice xp K K), (4, .slice xc K K), (5, .slice xr I I), (6, .slice xi I I), (19, .int .i64 (K : Nat)), (20, .int .i64 s), (21, .bool an), (22, .int .u64 la), (24, .bool se), (25, .bool d), (26, .int .u64 v), (27, .int .i64 (c : Nat)), (28, .int .i64 (e : Nat))] a)
    (hk : (e : Int) ≤ 65536) (hQ : ∀ a', Fr 123 a' → Slots [(0, .int .i64 kap), (1, .int .u32 st), (2, .int .i64 (m : Nat)), (3, .slice xp K K), (4, .slice xc K K), (5, .slice xr I I), (6, .slice xi I I), (19, .int .i64 (K : Nat)), (20, .int .i64 s), (21, .bool an), (22, .int .u64 la), (24, .bool se), (25, .bool d), (26, .int .u64 v), (27, .int .i64 (c : Nat)), (28, .int .i64 (e + 1 : Nat))] a' → Q .normal a' w) :
    Code.wp Try.prog (tlC (inC (inC (nthC 2 (inC (tlC (inC (inC (nthC 10 (bodyC Try.f29)))))))))) Q a w := by
  obtain ⟨u, hu, rfl⟩ := lay123 hfr
  obtain ⟨s0, s1, s2, s3, s4, s5, s6, s19, s20, s21, s22, s24, s25, s26, s27, s28, -⟩ := hs
  replace s0 : u 0 = .int .i64 kap := (hu 0).symm.trans s0
  replace s1 : u 1 = .int .u32 st := (hu 1).symm.trans s1
  replace s2 : u 2 = .int .i64 (m : Nat) := (hu 2).symm.trans s2
  replace s3 : u 3 = .slice xp K K := (hu 3).symm.trans s3
  replace s4 : u 4 = .slice xc K K := (hu 4).symm.trans s4
  replace s5 : u 5 = .slice xr I I := (hu 5).symm.trans s5
  replace s6 : u 6 = .slice xi I I := (hu 6).symm.trans s6
  replace s19 : u 19 = .int .i64 (K : Nat) := (hu 19).symm.trans s19
  replace s20 : u 20 = .int .i64 s := (hu 20).symm.trans s20
  replace s21 : u 21 = .bool an := (hu 21).symm.trans s21
  replace s22 : u 22 = .int .u64 la := (hu 22).symm.trans s22
  replace s24 : u 24 = .bool se := (hu 24).symm.trans s24
  replace s25 : u 25 = .bool d := (hu 25).symm.trans s25
  replace s26 : u 26 = .int .u64 v := (hu 26).symm.trans s26
  replace s27 : u 27 = .int .i64 (c : Nat) := (hu 27).symm.trans s27
  replace s28 : u 28 = .int .i64 (e : Nat) := (hu 28).symm.trans s28
  rw [s0, s1, s2, s3, s4, s5, s6, s19, s20, s21, s22, s24, s25, s26, s27, s28]
  clear hfr hu s0 s1 s2 s3 s4 s5 s6 s19 s20 s21 s22 s24 s25 s26 s27 s28
  conv => arg 2; whnf
  have H : Hid _ := hQ
  clear hQ
  go_wp2
  exact H.out _ ⟨rfl, rfl⟩ ⟨rfl, rfl, rfl, rfl, rfl, rfl, rfl, rfl, rfl, rfl, rfl, rfl, rfl, rfl, rfl, rfl, trivial⟩

set_option maxRecDepth 10000 in
set_option maxHeartbeats 1000000 in
theorem x22 (kap st : Int) (m K I : Nat) (xp xc xr xi : Option Addr) (s : Int) (an : Bool) (la : Int) (se : Bool) (d : Bool) (v : Int) (c : Nat) (e : Nat) (a : Act) (w : World) (Q : Exit → Act → World → Prop) (hfr : Fr 123 a) (hs : Slots [(0, .int .i64 kap), (1, .int .u32 st), (2, .int .i64 (m : Nat)), (3, .slice xp K K), (4, .slice xc K K), (5, .slice xr I I), (6, .slice xi I I), (19, .int .i64 (K : Nat)), (20, .int .i64 s), (21, .bool an), (22, .int .u64 la), (24, .bool se), (25, .bool d), (26, .int .u64 v), (27, .int .i64 (c : Nat)), (28, .int .i64 (e : Nat))] a)
    (hQ : ∀ a', Fr 123 a' → Slots [(0, .int .i64 kap), (1, .int .u32 st), (2, .int .i64 (m : Nat)), (3, .slice xp K K), (4, .slice xc K K), (5, .slice xr I I), (6, .slice xi I I), (19, .int .i64 (K : Nat)), (20, .int .i64 s), (21, .bool an), (22, .int .u64 la), (24, .bool se), (25, .bool d), (26, .int .u64 v), (27, .int .i64 (c : Nat)), (28, .int .i64 (e : Nat)), (29, .bool false)] a' → Q .normal a' w) :
    Code.wp Try.prog (nthC 3 (inC (tlC (inC (inC (nthC 10 (bodyC Try.f29))))))) Q a w := by
  obtain ⟨u, hu, rfl⟩ := lay123 hfr
  obtain ⟨s0, s1, s2, s3, s4, s5, s6, s19, s20, s21, s22, s24, s25, s26, s27, s28, -⟩ := hs
  replace s0 : u 0 = .int .i64 kap := (hu 0).symm.trans s0
  replace s1 : u 1 = .int .u32 st := (hu 1).symm.trans s1
  replace s2 : u 2 = .int .i64 (m : Nat) := (hu 2).symm.trans s2
  replace s3 : u 3 = .slice xp K K := (hu 3).symm.trans s3
  replace s4 : u 4 = .slice xc K K := (hu 4).symm.trans s4
  replace s5 : u 5 = .slice xr I I := (hu 5).symm.trans s5
  replace s6 : u 6 = .slice xi I I := (hu 6).symm.trans s6
  replace s19 : u 19 = .int .i64 (K : Nat) := (hu 19).symm.trans s19
  replace s20 : u 20 = .int .i64 s := (hu 20).symm.trans s20
  replace s21 : u 21 = .bool an := (hu 21).symm.trans s21
  replace s22 : u 22 = .int .u64 la := (hu 22).symm.trans s22
  replace s24 : u 24 = .bool se := (hu 24).symm.trans s24
  replace s25 : u 25 = .bool d := (hu 25).symm.trans s25
  replace s26 : u 26 = .int .u64 v := (hu 26).symm.trans s26
  replace s27 : u 27 = .int .i64 (c : Nat) := (hu 27).symm.trans s27
  replace s28 : u 28 = .int .i64 (e : Nat) := (hu 28).symm.trans s28
  rw [s0, s1, s2, s3, s4, s5, s6, s19, s20, s21, s22, s24, s25, s26, s27, s28]
  clear hfr hu s0 s1 s2 s3 s4 s5 s6 s19 s20 s21 s22 s24 s25 s26 s27 s28
  conv => arg 2; whnf
  have H : Hid _ := hQ
  clear hQ
  go_wp2
  exact H.out _ ⟨rfl, rfl⟩ ⟨rfl, rfl, rfl, rfl, rfl, rfl, rfl, rfl, rfl, rfl, rfl, rfl, rfl, rfl, rfl, rfl, rfl, trivial⟩

set_option maxRecDepth 10000 in
set_option maxHeartbeats 1000000 in
theorem x23 (kap st : Int) (m K I : Nat) (xp xc xr xi : Option Addr) (s : Int) (an : Bool) (la : Int) (se : Bool) (d : Bool) (v : Int) (c : Nat) (e : Nat) (bk : Bool) (a : Act) (w : World) (Q : Exit → Act → World → Prop) (hfr : Fr 123 a) (hs : Slots [(0, .int .i64 kap), (1, .int .u32 st), (2, .int .i64 (m : Nat)), (3, .slice xp K K), (4, .slice xc K K), (5, .slice xr I I), (6, .slice xi I I), (19, .int .i64 (K : Nat)), (20, .int .i64 s), (21, .bool an), (22, .int .u64 la), (24, .bool se), (25, .bool d), (26, .int .u64 v), (27, .int .i64 (c : Nat)), (28, .int .i64 (e : Nat)), (29, .bool bk)] a)
    (hQ : ∀ a', Fr 123 a' → Slots [(0, .int .i64 kap), (1, .int .u32 st), (2, .int .i64 (m : Nat)), (3, .slice xp K K), (4, .slice xc K K), (5, .slice xr I I), (6, .slice xi I I), (19, .int .i64 (K : Nat)), (20, .int .i64 s), (21, .bool an), (22, .int .u64 la), (24, .bool se), (25, .bool d), (26, .int .u64 v), (27, .int .i64 (c : Nat)), (28, .int .i64 (e : Nat)), (29, .bool bk), (30, .int .i64 (c : Nat))] a' → Q .normal a' w) :
    Code.wp Try.prog (hdC (nthC 4 (inC (tlC (inC (inC (nthC 10 (bodyC Try.f29)))))))) Q a w := by
  obtain ⟨u, hu, rfl⟩ := lay123 hfr
  obtain ⟨s0, s1, s2, s3, s4, s5, s6, s19, s20, s21, s22, s24, s25, s26, s27, s28, s29, -⟩ := hs
  replace s0 : u 0 = .int .i64 kap := (hu 0).symm.trans s0
  replace s1 : u 1 = .int .u32 st := (hu 1).symm.trans s1
  replace s2 : u 2 = .int .i64 (m : Nat) := (hu 2).symm.trans s2
  replace s3 : u 3 = .slice xp K K := (hu 3).symm.trans s3
  replace s4 : u 4 = .slice xc K K := (hu 4).symm.trans s4
  replace s5 : u 5 = .slice xr I I := (hu 5).symm.trans s5
  replace s6 : u 6 = .slice xi I I := (hu 6).symm.trans s6
  replace s19 : u 19 = .int .i64 (K : Nat) := (hu 19).symm.trans s19
  replace s20 : u 20 = .int .i64 s := (hu 20).symm.trans s20
  replace s21 : u 21 = .bool an := (hu 21).symm.trans s21
  replace s22 : u 22 = .int .u64 la := (hu 22).symm.trans s22
  replace s24 : u 24 = .bool se := (hu 24).symm.trans s24
  replace s25 : u 25 = .bool d := (hu 25).symm.trans s25
  replace s26 : u 26 = .int .u64 v := (hu 26).symm.trans s26
  replace s27 : u 27 = .int .i64 (c : Nat) := (hu 27).symm.trans s27
  replace s28 : u 28 = .int .i64 (e : Nat) := (hu 28).symm.trans s28
  replace s29 : u 29 = .bool bk := (hu 29).symm.trans s29
  rw [s0, s1, s2, s3, s4, s5, s6, s19, s20, s21, s22, s24, s25, s26, s27, s28, s29]
  clear hfr hu s0 s1 s2 s3 s4 s5 s6 s19 s20 s21 s22 s24 s25 s26 s27 s28 s29
  conv => arg 2; whnf
  have H : Hid _ := hQ
  clear hQ
  go_wp2
  exact H.out _ ⟨rfl, rfl⟩ ⟨rfl, rfl, rfl, rfl, rfl, rfl, rfl, rfl, rfl, rfl, rfl, rfl, rfl, rfl, rfl, rfl, rfl, rfl, trivial⟩

set_option maxRecDepth 10000 in
set_option maxHeartbeats 1000000 in
theorem x24h (kap st : Int) (m K I : Nat) (xp xc xr xi : Option Addr) (s : Int) (an : Bool) (la : Int) (se : Bool) (d : Bool) (v : Int) (c : Nat) (e : Nat) (bk : Bool) (k : Nat) (a : Act) (w : World) (Q : Exit → Act → World → Prop) (hfr : Fr 123 a) (hs : Slots [(0, .int .i64 kap), (1, .int .u32 st), (2, .int .i64 (m : Nat)), (3, .slice xp K K), (4, .slice xc K K), (5, .slice xr I I), (6, .slice xi I I), (19, .int .i64 (K : Nat)), (20, .int .i64 s), (21, .bool an), (22, .int .u64 la), (24, .bool se), (25, .bool d), (26, .int .u64 v), (27, .int .i64 (c : Nat)), (28, .int .i64 (e : Nat)), (29, .bool bk), (30, .int .i64 (k : Nat))] a)
    (hk : k ≤ e) (lK : (e : Int) ≤ 65536) (hQ : ∀ a', k < e → Fr 123 a' → Slots [(0, .int .i64 kap), (1, .int .u32 st), (2, .int .i64 (m : Nat)), (3, .slice xp K K), (4, .slice xc K K), (5, .slice xr I I), (6, .slice xi I I), (19, .int .i64 (K : Nat)), (20, .int .i64 s), (21, .bool an), (22, .int .u64 la), (24, .bool se), (25, .bool d), (26, .int .u64 v), (27, .int .i64 (c : Nat)), (28, .int .i64 (e : Nat)), (29, .bool bk), (30, .int .i64 (k : Nat))] a' → Q .normal a' w) (hexit : ∀ a', k = e → Fr 123 a' → Slots [(0, .int .i64 kap), (1, .int .u32 st), (2, .int .i64 (m : Nat)), (3, .slice xp K K), (4, .slice xc K K), (5, .slice xr I I), (6, .slice xi I I), (19, .int .i64 (K : Nat)), (20, .int .i64 s), (21, .bool an), (22, .int .u64 la), (24, .bool se), (25, .bool d), (26, .int .u64 v), (27, .int .i64 (c : Nat)), (28, .int .i64 (e : Nat)), (29, .bool bk)] a' → Q (.exit 6) a' w) :
    Code.wp Try.prog (hdC (inC (inC (tlC (nthC 4 (inC (tlC (inC (inC (nthC 10 (bodyC Try.f29))))))))))) Q a w := by
  obtain ⟨u, hu, rfl⟩ := lay123 hfr
  obtain ⟨s0, s1, s2, s3, s4, s5, s6, s19, s20, s21, s22, s24, s25, s26, s27, s28, s29, s30, -⟩ := hs
  replace s0 : u 0 = .int .i64 kap := (hu 0).symm.trans s0
  replace s1 : u 1 = .int .u32 st := (hu 1).symm.trans s1
  replace s2 : u 2 = .int .i64 (m : Nat) := (hu 2).symm.trans s2
  replace s3 : u 3 = .slice xp K K := (hu 3).symm.trans s3
  replace s4 : u 4 = .slice xc K K := (hu 4).symm.trans s4
  replace s5 : u 5 = .slice xr I I := (hu 5).symm.trans s5
  replace s6 : u 6 = .slice xi I I := (hu 6).symm.trans s6
  replace s19 : u 19 = .int .i64 (K : Nat) := (hu 19).symm.trans s19
  replace s20 : u 20 = .int .i64 s := (hu 20).symm.trans s20
  replace s21 : u 21 = .bool an := (hu 21).symm.trans s21
  replace s22 : u 22 = .int .u64 la := (hu 22).symm.trans s22
  replace s24 : u 24 = .bool se := (hu 24).symm.trans s24
  replace s25 : u 25 = .bool d := (hu 25).symm.trans s25
  replace s26 : u 26 = .int .u64 v := (hu 26).symm.trans s26
  replace s27 : u 27 = .int .i64 (c : Nat) := (hu 27).symm.trans s27
  replace s28 : u 28 = .int .i64 (e : Nat) := (hu 28).symm.trans s28
  replace s29 : u 29 = .bool bk := (hu 29).symm.trans s29
  replace s30 : u 30 = .int .i64 (k : Nat) := (hu 30).symm.trans s30
  rw [s0, s1, s2, s3, s4, s5, s6, s19, s20, s21, s22, s24, s25, s26, s27, s28, s29, s30]
  clear hfr hu s0 s1 s2 s3 s4 s5 s6 s19 s20 s21 s22 s24 s25 s26 s27 s28 s29 s30
  conv => arg 2; whnf
  have H : Hid _ := hQ
  have HX : Hid _ := hexit
  clear hQ hexit
  by_cases hlt : k < e
  · have l : (k : Int) < e := by omega
    go_wp2
    exact H.out _ hlt ⟨rfl, rfl⟩ ⟨rfl, rfl, rfl, rfl, rfl, rfl, rfl, rfl, rfl, rfl, rfl, rfl, rfl, rfl, rfl, rfl, rfl, rfl, trivial⟩
  · have l : ¬ ((k : Int) < e) := by omega
    go_wp2
    exact HX.out _ (by omega) ⟨rfl, rfl⟩ ⟨rfl, rfl, rfl, rfl, rfl, rfl, rfl, rfl, rfl, rfl, rfl, rfl, rfl, rfl, rfl, rfl, rfl, trivial⟩

set_option maxRecDepth 10000 in
set_option maxHeartbeats 1000000 in
theorem x26z (kap st : Int) (m K I : Nat) (xp xc xr xi : Option Addr) (s : Int) (an : Bool) (la : Int) (se : Bool) (d : Bool) (v : Int) (c : Nat) (e : Nat) (bk : Bool) (k : Nat) (a : Act) (w : World) (Q : Exit → Act → World → Prop) (hfr : Fr 123 a) (hs : Slots [(0, .int .i64 kap), (1, .int .u32 st), (2, .int .i64 (m : Nat)), (3, .slice xp K K), (4, .slice xc K K), (5, .slice xr I I), (6, .slice xi I I), (19, .int .i64 (K : Nat)), (20, .int .i64 s), (21, .bool an), (22, .int .u64 la), (24, .bool se), (25, .bool d), (26, .int .u64 v), (27, .int .i64 (c : Nat)), (28, .int .i64 (e : Nat)), (29, .bool bk), (30, .int .i64 (k : Nat))] a)
    (hk : k = 0) (hQ : ∀ a', Fr 123 a' → Slots [(0, .int .i64 kap), (1, .int .u32 st), (2, .int .i64 (m : Nat)), (3, .slice xp K K), (4, .slice xc K K), (5, .slice xr I I), (6, .slice xi I I), (19, .int .i64 (K : Nat)), (20, .int .i64 s), (21, .bool an), (22, .int .u64 la), (24, .bool se), (25, .bool d), (26, .int .u64 v), (27, .int .i64 (c : Nat)), (28, .int .i64 (e : Nat)), (29, .bool bk), (30, .int .i64 (k : Nat)), (113, .bool false)] a' → Q .normal a' w) :
    Code.wp Try.prog (hdC (inC (hdC (tlC (inC (inC (tlC (nthC 4 (inC (tlC (inC (inC (nthC 10 (bodyC Try.f29)))))))))))))) Q a w := by
  obtain ⟨u, hu, rfl⟩ := lay123 hfr
  obtain ⟨s0, s1, s2, s3, s4, s5, s6, s19, s20, s21, s22, s24, s25, s26, s27, s28, s29, s30, -⟩ := hs
  replace s0 : u 0 = .int .i64 kap := (hu 0).symm.trans s0
  replace s1 : u 1 = .int .u32 st := (hu 1).symm.trans s1
  replace s2 : u 2 = .int .i64 (m : Nat) := (hu 2).symm.trans s2
  replace s3 : u 3 = .slice xp K K := (hu 3).symm.trans s3
  replace s4 : u 4 = .slice xc K K := (hu 4).symm.trans s4
  replace s5 : u 5 = .slice xr I I := (hu 5).symm.trans s5
  replace s6 : u 6 = .slice xi I I := (hu 6).symm.trans s6
  replace s19 : u 19 = .int .i64 (K : Nat) := (hu 19).symm.trans s19
  replace s20 : u 20 = .int .i64 s := (hu 20).symm.trans s20
  replace s21 : u 21 = .bool an := (hu 21).symm.trans s21
  replace s22 : u 22 = .int .u64 la := (hu 22).symm.trans s22
  replace s24 : u 24 = .bool se := (hu 24).symm.trans s24
  replace s25 : u 25 = .bool d := (hu 25).symm.trans s25
  replace s26 : u 26 = .int .u64 v := (hu 26).symm.trans s26
  replace s27 : u 27 = .int .i64 (c : Nat) := (hu 27).symm.trans s27
  replace s28 : u 28 = .int .i64 (e : Nat) := (hu 28).symm.trans s28
  replace s29 : u 29 = .bool bk := (hu 29).symm.trans s29
  replace s30 : u 30 = .int .i64 (k : Nat) := (hu 30).symm.trans s30
  rw [s0, s1, s2, s3, s4, s5, s6, s19, s20, s21, s22, s24, s25, s26, s27, s28, s29, s30]
  clear hfr hu s0 s1 s2 s3 s4 s5 s6 s19 s20 s21 s22 s24 s25 s26 s27 s28 s29 s30
  conv => arg 2; whnf
  subst hk
  have H : Hid _ := hQ
  clear hQ
  go_wp2
  exact H.out _ ⟨rfl, rfl⟩ ⟨rfl, rfl, rfl, rfl, rfl, rfl, rfl, rfl, rfl, rfl, rfl, rfl, rfl, rfl, rfl, rfl, rfl, rfl, rfl, trivial⟩

set_option maxRecDepth 10000 in
set_option maxHeartbeats 1000000 in
theorem x26 (kap st : Int) (m K I : Nat) (xp xc xr xi : Option Addr) (s : Int) (an : Bool) (la : Int) (se : Bool) (d : Bool) (v : Int) (c : Nat) (e : Nat) (bk : Bool) (k : Nat) (cl : Bool) (a : Act) (w : World) (Q : Exit → Act → World → Prop) (hfr : Fr 123 a) (hs : Slots [(0, .int .i64 kap), (1, .int .u32 st), (2, .int .i64 (m : Nat)), (3, .slice xp K K), (4, .slice xc K K), (5, .slice xr I I), (6, .slice xi I I), (19, .int .i64 (K : Nat)), (20, .int .i64 s), (21, .bool an), (22, .int .u64 la), (24, .bool se), (25, .bool d), (26, .int .u64 v), (27, .int .i64 (c : Nat)), (28, .int .i64 (e : Nat)), (29, .bool bk), (30, .int .i64 (k : Nat))] a)
    (hk : (1 : Int) ≤ k) (hcall : Calls Try.prog 39 #[.int .i64 kap, .int .u32 st, .int .i64 (m : Nat), .slice xc K K, .slice xr I I, .slice xi I I, .int .i64 (k : Nat)] w fun e w' => e = .returned (.bool cl) ∧ w' = w)
    (hQ : ∀ a', Fr 123 a' → Slots [(0, .int .i64 kap), (1, .int .u32 st), (2, .int .i64 (m : Nat)), (3, .slice xp K K), (4, .slice xc K K), (5, .slice xr I I), (6, .slice xi I I), (19, .int .i64 (K : Nat)), (20, .int .i64 s), (21, .bool an), (22, .int .u64 la), (24, .bool se), (25, .bool d), (26, .int .u64 v), (27, .int .i64 (c : Nat)), (28, .int .i64 (e : Nat)), (29, .bool bk), (30, .int .i64 (k : Nat)), (113, .bool (!cl))] a' → Q .normal a' w) :
    Code.wp Try.prog (hdC (inC (hdC (tlC (inC (inC (tlC (nthC 4 (inC (tlC (inC (inC (nthC 10 (bodyC Try.f29)))))))))))))) Q a w := by
  obtain ⟨u, hu, rfl⟩ := lay123 hfr
  obtain ⟨s0, s1, s2, s3, s4, s5, s6, s19, s20, s21, s22, s24, s25, s26, s27, s28, s29, s30, -⟩ := hs
  replace s0 : u 0 = .int .i64 kap := (hu 0).symm.trans s0
  replace s1 : u 1 = .int .u32 st := (hu 1).symm.trans s1
  replace s2 : u 2 = .int .i64 (m : Nat) := (hu 2).symm.trans s2
  replace s3 : u 3 = .slice xp K K := (hu 3).symm.trans s3
  replace s4 : u 4 = .slice xc K K := (hu 4).symm.trans s4
  replace s5 : u 5 = .slice xr I I := (hu 5).symm.trans s5
  replace s6 : u 6 = .slice xi I I := (hu 6).symm.trans s6
  replace s19 : u 19 = .int .i64 (K : Nat) := (hu 19).symm.trans s19
  replace s20 : u 20 = .int .i64 s := (hu 20).symm.trans s20
  replace s21 : u 21 = .bool an := (hu 21).symm.trans s21
  replace s22 : u 22 = .int .u64 la := (hu 22).symm.trans s22
  replace s24 : u 24 = .bool se := (hu 24).symm.trans s24
  replace s25 : u 25 = .bool d := (hu 25).symm.trans s25
  replace s26 : u 26 = .int .u64 v := (hu 26).symm.trans s26
  replace s27 : u 27 = .int .i64 (c : Nat) := (hu 27).symm.trans s27
  replace s28 : u 28 = .int .i64 (e : Nat) := (hu 28).symm.trans s28
  replace s29 : u 29 = .bool bk := (hu 29).symm.trans s29
  replace s30 : u 30 = .int .i64 (k : Nat) := (hu 30).symm.trans s30
  rw [s0, s1, s2, s3, s4, s5, s6, s19, s20, s21, s22, s24, s25, s26, s27, s28, s29, s30]
  clear hfr hu s0 s1 s2 s3 s4 s5 s6 s19 s20 s21 s22 s24 s25 s26 s27 s28 s29 s30
  conv => arg 2; whnf
  have HC : Hid _ := hcall
  clear hcall
  have H : Hid _ := hQ
  clear hQ
  go_wp2_with (go_at_call 39; refine Calls.mono HC.out ?_; rintro e w' ⟨rfl, rfl⟩)
  exact H.out _ ⟨rfl, rfl⟩ ⟨rfl, rfl, rfl, rfl, rfl, rfl, rfl, rfl, rfl, rfl, rfl, rfl, rfl, rfl, rfl, rfl, rfl, rfl, rfl, trivial⟩

set_option maxRecDepth 10000 in
set_option maxHeartbeats 1000000 in
theorem x27 (kap st : Int) (m K I : Nat) (xp xc xr xi : Option Addr) (s : Int) (an : Bool) (la : Int) (se : Bool) (d : Bool) (v : Int) (c : Nat) (e : Nat) (bk : Bool) (k : Nat) (a : Act) (w : World) (Q : Exit → Act → World → Prop) (hfr : Fr 123 a) (hs : Slots [(0, .int .i64 kap), (1, .int .u32 st), (2, .int .i64 (m : Nat)), (3, .slice xp K K), (4, .slice xc K K), (5, .slice xr I I), (6, .slice xi I I), (19, .int .i64 (K : Nat)), (20, .int .i64 s), (21, .bool an), (22, .int .u64 la), (24, .bool se), (25, .bool d), (26, .int .u64 v), (27, .int .i64 (c : Nat)), (28, .int .i64 (e : Nat)), (29, .bool bk), (30, .int .i64 (k : Nat))] a)
    (hQ : ∀ a', Fr 123 a' → Slots [(0, .int .i64 kap), (1, .int .u32 st), (2, .int .i64 (m : Nat)), (3, .slice xp K K), (4, .slice xc K K), (5, .slice xr I I), (6, .slice xi I I), (19, .int .i64 (K : Nat)), (20, .int .i64 s), (21, .bool an), (22, .int .u64 la), (24, .bool se), (25, .bool d), (26, .int .u64 v), (27, .int .i64 (c : Nat)), (28, .int .i64 (e : Nat)), (29, .bool true), (30, .int .i64 (k : Nat))] a' → Q .normal a' w) :
    Code.wp Try.prog (thC (tlC (inC (hdC (tlC (inC (inC (tlC (nthC 4 (inC (tlC (inC (inC (nthC 10 (bodyC Try.f29))))))))))))))) Q a w := by
  obtain ⟨u, hu, rfl⟩ := lay123 hfr
  obtain ⟨s0, s1, s2, s3, s4, s5, s6, s19, s20, s21, s22, s24, s25, s26, s27, s28, s29, s30, -⟩ := hs
  replace s0 : u 0 = .int .i64 kap := (hu 0).symm.trans s0
  replace s1 : u 1 = .int .u32 st := (hu 1).symm.trans s1
  replace s2 : u 2 = .int .i64 (m : Nat) := (hu 2).symm.trans s2
  replace s3 : u 3 = .slice xp K K := (hu 3).symm.trans s3
  replace s4 : u 4 = .slice xc K K := (hu 4).symm.trans s4
  replace s5 : u 5 = .slice xr I I := (hu 5).symm.trans s5
  replace s6 : u 6 = .slice xi I I := (hu 6).symm.trans s6
  replace s19 : u 19 = .int .i64 (K : Nat) := (hu 19).symm.trans s19
  replace s20 : u 20 = .int .i64 s := (hu 20).symm.trans s20
  replace s21 : u 21 = .bool an := (hu 21).symm.trans s21
  replace s22 : u 22 = .int .u64 la := (hu 22).symm.trans s22
  replace s24 : u 24 = .bool se := (hu 24).symm.trans s24
  replace s25 : u 25 = .bool d := (hu 25).symm.trans s25
  replace s26 : u 26 = .int .u64 v := (hu 26).symm.trans s26
  replace s27 : u 27 = .int .i64 (c : Nat) := (hu 27).symm.trans s27
  replace s28 : u 28 = .int .i64 (e : Nat) := (hu 28).symm.trans s28
  replace s29 : u 29 = .bool bk := (hu 29).symm.trans s29
  replace s30 : u 30 = .int .i64 (k : Nat) := (hu 30).symm.trans s30
  rw [s0, s1, s2, s3, s4, s5, s6, s19, s20, s21, s22, s24, s25, s26, s27, s28, s29, s30]
  clear hfr hu s0 s1 s2 s3 s4 s5 s6 s19 s20 s21 s22 s24 s25 s26 s27 s28 s29 s30
  conv => arg 2; whnf
  have H : Hid _ := hQ
  clear hQ
  go_wp2
  exact H.out _ ⟨rfl, rfl⟩ ⟨rfl, rfl, rfl, rfl, rfl, rfl, rfl, rfl, rfl, rfl, rfl, rfl, rfl, rfl, rfl, rfl, rfl, rfl, trivial⟩

set_option maxRecDepth 10000 in
set_option maxHeartbeats 1000000 in
theorem x25 (kap st : Int) (m K I : Nat) (xp xc xr xi : Option Addr) (s : Int) (an : Bool) (la : Int) (se : Bool) (d : Bool) (v : Int) (c : Nat) (e : Nat) (bk : Bool) (k : Nat) (a : Act) (w : World) (Q : Exit → Act → World → Prop) (hfr : Fr 123 a) (hs : Slots [(0, .int .i64 kap), (1, .int .u32 st), (2, .int .i64 (m : Nat)), (3, .slice xp K K), (4, .slice xc K K), (5, .slice xr I I), (6, .slice xi I I), (19, .int .i64 (K : Nat)), (20, .int .i64 s), (21, .bool an), (22, .int .u64 la), (24, .bool se), (25, .bool d), (26, .int .u64 v), (27, .int .i64 (c : Nat)), (28, .int .i64 (e : Nat)), (29, .bool bk), (30, .int .i64 (k : Nat))] a)
    (hk : (k : Int) ≤ 65536) (hQ : ∀ a', Fr 123 a' → Slots [(0, .int .i64 kap), (1, .int .u32 st), (2, .int .i64 (m : Nat)), (3, .slice xp K K), (4, .slice xc K K), (5, .slice xr I I), (6, .slice xi I I), (19, .int .i64 (K : Nat)), (20, .int .i64 s), (21, .bool an), (22, .int .u64 la), (24, .bool se), (25, .bool d), (26, .int .u64 v), (27, .int .i64 (c : Nat)), (28, .int .i64 (e : Nat)), (29, .bool bk), (30, .int .i64 (k + 1 : Nat))] a' → Q .normal a' w) :
    Code.wp Try.prog (tlC (tlC (inC (inC (tlC (nthC 4 (inC (tlC (inC (inC (nthC 10 (bodyC Try.f29)))))))))))) Q a w := by
  obtain ⟨u, hu, rfl⟩ := lay123 hfr
  obtain ⟨s0, s1, s2, s3, s4, s5, s6, s19, s20, s21, s22, s24, s25, s26, s27, s28, s29, s30, -⟩ := hs
  replace s0 : u 0 = .int .i64 kap := (hu 0).symm.trans s0
  replace s1 : u 1 = .int .u32 st := (hu 1).symm.trans s1
  replace s2 : u 2 = .int .i64 (m : Nat) := (hu 2).symm.trans s2
  replace s3 : u 3 = .slice xp K K := (hu 3).symm.trans s3
  replace s4 : u 4 = .slice xc K K := (hu 4).symm.trans s4
  replace s5 : u 5 = .slice xr I I := (hu 5).symm.trans s5
  replace s6 : u 6 = .slice xi I I := (hu 6).symm.trans s6
  replace s19 : u 19 = .int .i64 (K : Nat) := (hu 19).symm.trans s19
  replace s20 : u 20 = .int .i64 s := (hu 20).symm.trans s20
  replace s21 : u 21 = .bool an := (hu 21).symm.trans s21
  replace s22 : u 22 = .int .u64 la := (hu 22).symm.trans s22
  replace s24 : u 24 = .bool se := (hu 24).symm.trans s24
  replace s25 : u 25 = .bool d := (hu 25).symm.trans s25
  replace s26 : u 26 = .int .u64 v := (hu 26).symm.trans s26
  replace s27 : u 27 = .int .i64 (c : Nat) := (hu 27).symm.trans s27
  replace s28 : u 28 = .int .i64 (e : Nat) := (hu 28).symm.trans s28
  replace s29 : u 29 = .bool bk := (hu 29).symm.trans s29
  replace s30 : u 30 = .int .i64 (k : Nat) := (hu 30).symm.trans s30
  rw [s0, s1, s2, s3, s4, s5, s6, s19, s20, s21, s22, s24, s25, s26, s27, s28, s29, s30]
  clear hfr hu s0 s1 s2 s3 s4 s5 s6 s19 s20 s21 s22 s24 s25 s26 s27 s28 s29 s30
  conv => arg 2; whnf
  have H : Hid _ := hQ
  clear hQ
  go_wp2
  exact H.out _ ⟨rfl, rfl⟩ ⟨rfl, rfl, rfl, rfl, rfl, rfl, rfl, rfl, rfl, rfl, rfl, rfl, rfl, rfl, rfl, rfl, rfl, rfl, trivial⟩

set_option maxRecDepth 10000 in
set_option maxHeartbeats 1000000 in
theorem x28 (kap st : Int) (m K I : Nat) (xp xc xr xi : Option Addr) (s : Int) (an : Bool) (la : Int) (se : Bool) (d : Bool) (v : Int) (c : Nat) (e : Nat) (bk : Bool) (a : Act) (w : World) (Q : Exit → Act → World → Prop) (hfr : Fr 123 a) (hs : Slots [(0, .int .i64 kap), (1, .int .u32 st), (2, .int .i64 (m : Nat)), (3, .slice xp K K), (4, .slice xc K K), (5, .slice xr I I), (6, .slice xi I I), (19, .int .i64 (K : Nat)), (20, .int .i64 s), (21, .bool an), (22, .int .u64 la), (24, .bool se), (25, .bool d), (26, .int .u64 v), (27, .int .i64 (c : Nat)), (28, .int .i64 (e : Nat)), (29, .bool bk)] a)
    (hQ : ∀ a', Fr 123 a' → Slots [(0, .int .i64 kap), (1, .int .u32 st), (2, .int .i64 (m : Nat)), (3, .slice xp K K), (4, .slice xc K K), (5, .slice xr I I), (6, .slice xi I I), (19, .int .i64 (K : Nat)), (20, .int .i64 s), (21, .bool an), (22, .int .u64 la), (24, .bool se), (25, .bool d), (26, .int .u64 v), (27, .int .i64 (c : Nat)), (28, .int .i64 (e : Nat)), (29, .bool bk), (114, .bool bk)] a' → Q .normal a' w) :
    Code.wp Try.prog (hdC (nthC 5 (inC (tlC (inC (inC (nthC 10 (bodyC Try.f29)))))))) Q a w := by
  obtain ⟨u, hu, rfl⟩ := lay123 hfr
  obtain ⟨s0, s1, s2, s3, s4, s5, s6, s19, s20, s21, s22, s24, s25, s26, s27, s28, s29, -⟩ := hs
  replace s0 : u 0 = .int .i64 kap := (hu 0).symm.trans s0
  replace s1 : u 1 = .int .u32 st := (hu 1).symm.trans s1
  replace s2 : u 2 = .int .i64 (m : Nat) := (hu 2).symm.trans s2
  replace s3 : u 3 = .slice xp K K := (hu 3).symm.trans s3
  replace s4 : u 4 = .slice xc K K := (hu 4).symm.trans s4
  replace s5 : u 5 = .slice xr I I := (hu 5).symm.trans s5
  replace s6 : u 6 = .slice xi I I := (hu 6).symm.trans s6
  replace s19 : u 19 = .int .i64 (K : Nat) := (hu 19).symm.trans s19
  replace s20 : u 20 = .int .i64 s := (hu 20).symm.trans s20
  replace s21 : u 21 = .bool an := (hu 21).symm.trans s21
  replace s22 : u 22 = .int .u64 la := (hu 22).symm.trans s22
  replace s24 : u 24 = .bool se := (hu 24).symm.trans s24
  replace s25 : u 25 = .bool d := (hu 25).symm.trans s25
  replace s26 : u 26 = .int .u64 v := (hu 26).symm.trans s26
  replace s27 : u 27 = .int .i64 (c : Nat) := (hu 27).symm.trans s27
  replace s28 : u 28 = .int .i64 (e : Nat) := (hu 28).symm.trans s28
  replace s29 : u 29 = .bool bk := (hu 29).symm.trans s29
  rw [s0, s1, s2, s3, s4, s5, s6, s19, s20, s21, s22, s24, s25, s26, s27, s28, s29]
  clear hfr hu s0 s1 s2 s3 s4 s5 s6 s19 s20 s21 s22 s24 s25 s26 s27 s28 s29
  conv => arg 2; whnf
  have H : Hid _ := hQ
  clear hQ
  go_wp2
  exact H.out _ ⟨rfl, rfl⟩ ⟨rfl, rfl, rfl, rfl, rfl, rfl, rfl, rfl, rfl, rfl, rfl, rfl, rfl, rfl, rfl, rfl, rfl, rfl, trivial⟩

set_option maxRecDepth 10000 in
set_option maxHeartbeats 1000000 in
theorem x29 (kap st : Int) (m K I : Nat) (xp xc xr xi : Option Addr) (s : Int) (an : Bool) (la : Int) (se : Bool) (d : Bool) (v : Int) (c : Nat) (e : Nat) (a : Act) (w : World) (Q : Exit → Act → World → Prop) (hfr : Fr 123 a) (hs : Slots [(0, .int .i64 kap), (1, .int .u32 st), (2, .int .i64 (m : Nat)), (3, .slice xp K K), (4, .slice xc K K), (5, .slice xr I I), (6, .slice xi I I), (19, .int .i64 (K : Nat)), (20, .int .i64 s), (21, .bool an), (22, .int .u64 la), (24, .bool se), (25, .bool d), (26, .int .u64 v), (27, .int .i64 (c : Nat)), (28, .int .i64 (e : Nat))] a)
    (v0 : 0 ≤ v) (v1 : v ≤ 1000000) (hQ : ∀ a', Fr 123 a' → Slots [(0, .int .i64 kap), (1, .int .u32 st), (2, .int .i64 (m : Nat)), (3, .slice xp K K), (4, .slice xc K K), (5, .slice xr I I), (6, .slice xi I I), (19, .int .i64 (K : Nat)), (20, .int .i64 s), (21, .bool an), (22, .int .u64 la), (24, .bool se), (25, .bool d), (26, .int .u64 (v + 1)), (27, .int .i64 (c : Nat)), (28, .int .i64 (e : Nat))] a' → Q .normal a' w) :
    Code.wp Try.prog (thC (tlC (nthC 5 (inC (tlC (inC (inC (nthC 10 (bodyC Try.f29))))))))) Q a w := by
  obtain ⟨u, hu, rfl⟩ := lay123 hfr
  obtain ⟨s0, s1, s2, s3, s4, s5, s6, s19, s20, s21, s22, s24, s25, s26, s27, s28, -⟩ := hs
  replace s0 : u 0 = .int .i64 kap := (hu 0).symm.trans s0
  replace s1 : u 1 = .int .u32 st := (hu 1).symm.trans s1
  replace s2 : u 2 = .int .i64 (m : Nat) := (hu 2).symm.trans s2
  replace s3 : u 3 = .slice xp K K := (hu 3).symm.trans s3
  replace s4 : u 4 = .slice xc K K := (hu 4).symm.trans s4
  replace s5 : u 5 = .slice xr I I := (hu 5).symm.trans s5
  replace s6 : u 6 = .slice xi I I := (hu 6).symm.trans s6
  replace s19 : u 19 = .int .i64 (K : Nat) := (hu 19).symm.trans s19
  replace s20 : u 20 = .int .i64 s := (hu 20).symm.trans s20
  replace s21 : u 21 = .bool an := (hu 21).symm.trans s21
  replace s22 : u 22 = .int .u64 la := (hu 22).symm.trans s22
  replace s24 : u 24 = .bool se := (hu 24).symm.trans s24
  replace s25 : u 25 = .bool d := (hu 25).symm.trans s25
  replace s26 : u 26 = .int .u64 v := (hu 26).symm.trans s26
  replace s27 : u 27 = .int .i64 (c : Nat) := (hu 27).symm.trans s27
  replace s28 : u 28 = .int .i64 (e : Nat) := (hu 28).symm.trans s28
  rw [s0, s1, s2, s3, s4, s5, s6, s19, s20, s21, s22, s24, s25, s26, s27, s28]
  clear hfr hu s0 s1 s2 s3 s4 s5 s6 s19 s20 s21 s22 s24 s25 s26 s27 s28
  conv => arg 2; whnf
  have wv : IntKind.u64.wrap (v + 1) = v + 1 := by rw [IntKind.wrap_u64]; omega
  have H : Hid _ := hQ
  clear hQ
  go_wp2
  exact H.out _ ⟨rfl, rfl⟩ ⟨rfl, rfl, rfl, rfl, rfl, rfl, rfl, rfl, rfl, rfl, rfl, rfl, rfl, rfl, rfl, rfl, trivial⟩

set_option maxRecDepth 10000 in
set_option maxHeartbeats 1000000 in
theorem x30 (kap st : Int) (m K I : Nat) (xp xc xr xi : Option Addr) (s : Int) (an : Bool) (la : Int) (se : Bool) (d : Bool) (v : Int) (c : Nat) (e : Nat) (a : Act) (w : World) (Q : Exit → Act → World → Prop) (hfr : Fr 123 a) (hs : Slots [(0, .int .i64 kap), (1, .int .u32 st), (2, .int .i64 (m : Nat)), (3, .slice xp K K), (4, .slice xc K K), (5, .slice xr I I), (6, .slice xi I I), (19, .int .i64 (K : Nat)), (20, .int .i64 s), (21, .bool an), (22, .int .u64 la), (24, .bool se), (25, .bool d), (26, .int .u64 v), (27, .int .i64 (c : Nat)), (28, .int .i64 (e : Nat))] a)
    (hQ : ∀ a', Fr 123 a' → Slots [(0, .int .i64 kap), (1, .int .u32 st), (2, .int .i64 (m : Nat)), (3, .slice xp K K), (4, .slice xc K K), (5, .slice xr I I), (6, .slice xi I I), (19, .int .i64 (K : Nat)), (20, .int .i64 s), (21, .bool an), (22, .int .u64 la), (24, .bool se), (25, .bool d), (26, .int .u64 v), (27, .int .i64 (e : Nat))] a' → Q .normal a' w) :
    Code.wp Try.prog (dropC 6 (inC (tlC (inC (inC (nthC 10 (bodyC Try.f29))))))) Q a w := by
  obtain ⟨u, hu, rfl⟩ := lay123 hfr
  obtain ⟨s0, s1, s2, s3, s4, s5, s6, s19, s20, s21, s22, s24, s25, s26, s27, s28, -⟩ := hs
  replace s0 : u 0 = .int .i64 kap := (hu 0).symm.trans s0
  replace s1 : u 1 = .int .u32 st := (hu 1).symm.trans s1
  replace s2 : u 2 = .int .i64 (m : Nat) := (hu 2).symm.trans s2
  replace s3 : u 3 = .slice xp K K := (hu 3).symm.trans s3
  replace s4 : u 4 = .slice xc K K := (hu 4).symm.trans s4
  replace s5 : u 5 = .slice xr I I := (hu 5).symm.trans s5
  replace s6 : u 6 = .slice xi I I := (hu 6).symm.trans s6
  replace s19 : u 19 = .int .i64 (K : Nat) := (hu 19).symm.trans s19
  replace s20 : u 20 = .int .i64 s := (hu 20).symm.trans s20
  replace s21 : u 21 = .bool an := (hu 21).symm.trans s21
  replace s22 : u 22 = .int .u64 la := (hu 22).symm.trans s22
  replace s24 : u 24 = .bool se := (hu 24).symm.trans s24
  replace s25 : u 25 = .bool d := (hu 25).symm.trans s25
  replace s26 : u 26 = .int .u64 v := (hu 26).symm.trans s26
  replace s27 : u 27 = .int .i64 (c : Nat) := (hu 27).symm.trans s27
  replace s28 : u 28 = .int .i64 (e : Nat) := (hu 28).symm.trans s28
  rw [s0, s1, s2, s3, s4, s5, s6, s19, s20, s21, s22, s24, s25, s26, s27, s28]
  clear hfr hu s0 s1 s2 s3 s4 s5 s6 s19 s20 s21 s22 s24 s25 s26 s27 s28
  conv => arg 2; whnf
  have H : Hid _ := hQ
  clear hQ
  go_wp2
  exact H.out _ ⟨rfl, rfl⟩ ⟨rfl, rfl, rfl, rfl, rfl, rfl, rfl, rfl, rfl, rfl, rfl, rfl, rfl, rfl, rfl, trivial⟩

set_option maxRecDepth 10000 in
set_option maxHeartbeats 1000000 in
theorem x31 (kap st : Int) (m K I : Nat) (xp xc xr xi : Option Addr) (s : Int) (an : Bool) (la : Int) (se : Bool) (d : Bool) (v : Int) (a : Act) (w : World) (Q : Exit → Act → World → Prop) (hfr : Fr 123 a) (hs : Slots [(0, .int .i64 kap), (1, .int .u32 st), (2, .int .i64 (m : Nat)), (3, .slice xp K K), (4, .slice xc K K), (5, .slice xr I I), (6, .slice xi I I), (19, .int .i64 (K : Nat)), (20, .int .i64 s), (21, .bool an), (22, .int .u64 la), (24, .bool se), (25, .bool d), (26, .int .u64 v)] a)
    (hQ : ∀ a', Fr 123 a' → Slots [(14, .bool se), (15, .bool d), (16, .bool an), (17, .int .u64 la), (18, .int .u64 v)] a' → Q .ret a' w) :
    Code.wp Try.prog (dropC 11 (bodyC Try.f29)) Q a w := by
  obtain ⟨u, hu, rfl⟩ := lay123 hfr
  obtain ⟨s0, s1, s2, s3, s4, s5, s6, s19, s20, s21, s22, s24, s25, s26, -⟩ := hs
  replace s0 : u 0 = .int .i64 kap := (hu 0).symm.trans s0
  replace s1 : u 1 = .int .u32 st := (hu 1).symm.trans s1
  replace s2 : u 2 = .int .i64 (m : Nat) := (hu 2).symm.trans s2
  replace s3 : u 3 = .slice xp K K := (hu 3).symm.trans s3
  replace s4 : u 4 = .slice xc K K := (hu 4).symm.trans s4
  replace s5 : u 5 = .slice xr I I := (hu 5).symm.trans s5
  replace s6 : u 6 = .slice xi I I := (hu 6).symm.trans s6
  replace s19 : u 19 = .int .i64 (K : Nat) := (hu 19).symm.trans s19
  replace s20 : u 20 = .int .i64 s := (hu 20).symm.trans s20
  replace s21 : u 21 = .bool an := (hu 21).symm.trans s21
  replace s22 : u 22 = .int .u64 la := (hu 22).symm.trans s22
  replace s24 : u 24 = .bool se := (hu 24).symm.trans s24
  replace s25 : u 25 = .bool d := (hu 25).symm.trans s25
  replace s26 : u 26 = .int .u64 v := (hu 26).symm.trans s26
  rw [s0, s1, s2, s3, s4, s5, s6, s19, s20, s21, s22, s24, s25, s26]
  clear hfr hu s0 s1 s2 s3 s4 s5 s6 s19 s20 s21 s22 s24 s25 s26
  conv => arg 2; whnf
  have H : Hid _ := hQ
  clear hQ
  go_wp2
  exact H.out _ ⟨rfl, rfl⟩ ⟨rfl, rfl, rfl, rfl, rfl, trivial⟩

end Go.Proofs.Qxb6602526a
