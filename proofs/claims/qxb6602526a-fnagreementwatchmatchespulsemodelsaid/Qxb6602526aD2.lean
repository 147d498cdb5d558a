import Derived.Test.Qxb6602526aD1
namespace Go.Proofs.Qxb6602526a
open Go.RowKit
set_option linter.unusedSimpArgs false
set_option linter.unusedVariables false

set_option maxRecDepth 10000 in
set_option maxHeartbeats 1000000 in
theorem m0 (fc : Int) (m K I : Nat) (xp xc xi xr : Option Addr) (a : Act) (w : World) (Q : Exit → Act → World → Prop) (hfr : Fr 134 a) (hs : Slots [(0, .int .u64 fc), (1, .int .i64 (m : Nat)), (2, .slice xp K K), (3, .slice xc K K), (4, .slice xi I I), (5, .slice xr I I)] a)
    (hQ : ∀ a', Fr 134 a' → Slots [(0, .int .u64 fc), (1, .int .i64 (m : Nat)), (2, .slice xp K K), (3, .slice xc K K), (4, .slice xi I I), (5, .slice xr I I)] a' → Q .normal a' w) :
    Code.wp Try.prog (nthC 0 (bodyC Try.f22)) Q a w := by
  obtain ⟨u, hu, rfl⟩ := lay134 hfr
  obtain ⟨s0, s1, s2, s3, s4, s5, -⟩ := hs
  replace s0 : u 0 = .int .u64 fc := (hu 0).symm.trans s0
  replace s1 : u 1 = .int .i64 (m : Nat) := (hu 1).symm.trans s1
  replace s2 : u 2 = .slice xp K K := (hu 2).symm.trans s2
  replace s3 : u 3 = .slice xc K K := (hu 3).symm.trans s3
  replace s4 : u 4 = .slice xi I I := (hu 4).symm.trans s4
  replace s5 : u 5 = .slice xr I I := (hu 5).symm.trans s5
  rw [s0, s1, s2, s3, s4, s5]
  clear hfr hu s0 s1 s2 s3 s4 s5
  conv => arg 2; whnf
  have H : Hid _ := hQ
  clear hQ
  go_wp2
  exact H.out _ ⟨rfl, rfl⟩ ⟨rfl, rfl, rfl, rfl, rfl, rfl, trivial⟩

set_option maxRecDepth 10000 in
set_option maxHeartbeats 1000000 in
theorem m1 (fc : Int) (m K I : Nat) (xp xc xi xr : Option Addr) (a : Act) (w : World) (Q : Exit → Act → World → Prop) (hfr : Fr 134 a) (hs : Slots [(0, .int .u64 fc), (1, .int .i64 (m : Nat)), (2, .slice xp K K), (3, .slice xc K K), (4, .slice xi I I), (5, .slice xr I I)] a)
    (hQ : ∀ a', Fr 134 a' → Slots [(0, .int .u64 fc), (1, .int .i64 (m : Nat)), (2, .slice xp K K), (3, .slice xc K K), (4, .slice xi I I), (5, .slice xr I I), (16, .int .i64 (K : Nat))] a' → Q .normal a' w) :
    Code.wp Try.prog (nthC 1 (bodyC Try.f22)) Q a w := by
  obtain ⟨u, hu, rfl⟩ := lay134 hfr
  obtain ⟨s0, s1, s2, s3, s4, s5, -⟩ := hs
  replace s0 : u 0 = .int .u64 fc := (hu 0).symm.trans s0
  replace s1 : u 1 = .int .i64 (m : Nat) := (hu 1).symm.trans s1
  replace s2 : u 2 = .slice xp K K := (hu 2).symm.trans s2
  replace s3 : u 3 = .slice xc K K := (hu 3).symm.trans s3
  replace s4 : u 4 = .slice xi I I := (hu 4).symm.trans s4
  replace s5 : u 5 = .slice xr I I := (hu 5).symm.trans s5
  rw [s0, s1, s2, s3, s4, s5]
  clear hfr hu s0 s1 s2 s3 s4 s5
  conv => arg 2; whnf
  have H : Hid _ := hQ
  clear hQ
  go_wp2
  exact H.out _ ⟨rfl, rfl⟩ ⟨rfl, rfl, rfl, rfl, rfl, rfl, rfl, trivial⟩

set_option maxRecDepth 10000 in
set_option maxHeartbeats 1000000 in
theorem m2 (fc : Int) (m K I : Nat) (xp xc xi xr : Option Addr) (a : Act) (w : World) (Q : Exit → Act → World → Prop) (hfr : Fr 134 a) (hs : Slots [(0, .int .u64 fc), (1, .int .i64 (m : Nat)), (2, .slice xp K K), (3, .slice xc K K), (4, .slice xi I I), (5, .slice xr I I), (16, .int .i64 (K : Nat))] a)
    (hQ : ∀ a', Fr 134 a' → Slots [(0, .int .u64 fc), (1, .int .i64 (m : Nat)), (2, .slice xp K K), (3, .slice xc K K), (4, .slice xi I I), (5, .slice xr I I), (16, .int .i64 (K : Nat)), (17, .bool false)] a' → Q .normal a' w) :
    Code.wp Try.prog (nthC 2 (bodyC Try.f22)) Q a w := by
  obtain ⟨u, hu, rfl⟩ := lay134 hfr
  obtain ⟨s0, s1, s2, s3, s4, s5, s16, -⟩ := hs
  replace s0 : u 0 = .int .u64 fc := (hu 0).symm.trans s0
  replace s1 : u 1 = .int .i64 (m : Nat) := (hu 1).symm.trans s1
  replace s2 : u 2 = .slice xp K K := (hu 2).symm.trans s2
  replace s3 : u 3 = .slice xc K K := (hu 3).symm.trans s3
  replace s4 : u 4 = .slice xi I I := (hu 4).symm.trans s4
  replace s5 : u 5 = .slice xr I I := (hu 5).symm.trans s5
  replace s16 : u 16 = .int .i64 (K : Nat) := (hu 16).symm.trans s16
  rw [s0, s1, s2, s3, s4, s5, s16]
  clear hfr hu s0 s1 s2 s3 s4 s5 s16
  conv => arg 2; whnf
  have H : Hid _ := hQ
  clear hQ
  go_wp2
  exact H.out _ ⟨rfl, rfl⟩ ⟨rfl, rfl, rfl, rfl, rfl, rfl, rfl, rfl, trivial⟩

set_option maxRecDepth 10000 in
set_option maxHeartbeats 1000000 in
theorem m3z (fc : Int) (m K I : Nat) (xp xc xi xr : Option Addr) (a : Act) (w : World) (Q : Exit → Act → World → Prop) (hfr : Fr 134 a) (hs : Slots [(0, .int .u64 fc), (1, .int .i64 (m : Nat)), (2, .slice xp K K), (3, .slice xc K K), (4, .slice xi I I), (5, .slice xr I I), (16, .int .i64 (K : Nat)), (17, .bool false)] a)
    (hK : K = 0) (hQ : ∀ a', Fr 134 a' → Slots [(0, .int .u64 fc), (1, .int .i64 (m : Nat)), (2, .slice xp K K), (3, .slice xc K K), (4, .slice xi I I), (5, .slice xr I I), (16, .int .i64 (K : Nat)), (17, .bool false)] a' → Q .normal a' w) :
    Code.wp Try.prog (nthC 3 (bodyC Try.f22)) Q a w := by
  obtain ⟨u, hu, rfl⟩ := lay134 hfr
  obtain ⟨s0, s1, s2, s3, s4, s5, s16, s17, -⟩ := hs
  replace s0 : u 0 = .int .u64 fc := (hu 0).symm.trans s0
  replace s1 : u 1 = .int .i64 (m : Nat) := (hu 1).symm.trans s1
  replace s2 : u 2 = .slice xp K K := (hu 2).symm.trans s2
  replace s3 : u 3 = .slice xc K K := (hu 3).symm.trans s3
  replace s4 : u 4 = .slice xi I I := (hu 4).symm.trans s4
  replace s5 : u 5 = .slice xr I I := (hu 5).symm.trans s5
  replace s16 : u 16 = .int .i64 (K : Nat) := (hu 16).symm.trans s16
  replace s17 : u 17 = .bool false := (hu 17).symm.trans s17
  rw [s0, s1, s2, s3, s4, s5, s16, s17]
  clear hfr hu s0 s1 s2 s3 s4 s5 s16 s17
  conv => arg 2; whnf
  subst hK
  have H : Hid _ := hQ
  clear hQ
  go_wp2
  exact H.out _ ⟨rfl, rfl⟩ ⟨rfl, rfl, rfl, rfl, rfl, rfl, rfl, rfl, trivial⟩

set_option maxRecDepth 10000 in
set_option maxHeartbeats 1000000 in
theorem m3 (fc : Int) (m K I : Nat) (xp xc xi : Option Addr) (rb : Nat) (lo hi : Nat) (x y : Int) (a : Act) (w : World) (Q : Exit → Act → World → Prop) (hfr : Fr 134 a) (hs : Slots [(0, .int .u64 fc), (1, .int .i64 (m : Nat)), (2, .slice xp K K), (3, .slice xc K K), (4, .slice xi I I), (5, .slice (some ⟨rb, 0, none⟩) I I), (16, .int .i64 (K : Nat)), (17, .bool false)] a)
    (lK : (0 : Int) < K) (lK2 : (K : Int) ≤ 65536) (hk1 : IntKind.i64.wrap ((K : Int) - 1) = (K : Int) - 1) (hlo : IntKind.i64.wrap (((K : Int) - 1) * (m : Int)) = (lo : Int)) (hhi : IntKind.i64.wrap ((K : Int) * (m : Int)) = (hi : Int)) (hle : (lo : Int) ≤ hi) (hhI : (hi : Int) ≤ I) (hIl : ¬ (I = lo))
    (hcall : Calls Try.prog 36 #[.slice (some ⟨rb, lo, none⟩) (hi - lo) (I - lo)] w fun e w' => e = .returned (.tuple #[.int .u8 x, .int .u8 y]) ∧ w' = w)
    (hQ : ∀ a', Fr 134 a' → Slots [(0, .int .u64 fc), (1, .int .i64 (m : Nat)), (2, .slice xp K K), (3, .slice xc K K), (4, .slice xi I I), (5, .slice (some ⟨rb, 0, none⟩) I I), (16, .int .i64 (K : Nat)), (17, .bool (x == y))] a' → Q .normal a' w) :
    Code.wp Try.prog (nthC 3 (bodyC Try.f22)) Q a w := by
  obtain ⟨u, hu, rfl⟩ := lay134 hfr
  obtain ⟨s0, s1, s2, s3, s4, s5, s16, s17, -⟩ := hs
  replace s0 : u 0 = .int .u64 fc := (hu 0).symm.trans s0
  replace s1 : u 1 = .int .i64 (m : Nat) := (hu 1).symm.trans s1
  replace s2 : u 2 = .slice xp K K := (hu 2).symm.trans s2
  replace s3 : u 3 = .slice xc K K := (hu 3).symm.trans s3
  replace s4 : u 4 = .slice xi I I := (hu 4).symm.trans s4
  replace s5 : u 5 = .slice (some ⟨rb, 0, none⟩) I I := (hu 5).symm.trans s5
  replace s16 : u 16 = .int .i64 (K : Nat) := (hu 16).symm.trans s16
  replace s17 : u 17 = .bool false := (hu 17).symm.trans s17
  rw [s0, s1, s2, s3, s4, s5, s16, s17]
  clear hfr hu s0 s1 s2 s3 s4 s5 s16 s17
  conv => arg 2; whnf
  have HC : Hid _ := hcall
  clear hcall
  have H : Hid _ := hQ
  clear hQ
  go_wp2_with (go_at_call 36; refine Calls.mono HC.out ?_; rintro e w' ⟨rfl, rfl⟩)
  exact H.out _ ⟨rfl, rfl⟩ ⟨rfl, rfl, rfl, rfl, rfl, rfl, rfl, rfl, trivial⟩

set_option maxRecDepth 10000 in
set_option maxHeartbeats 1000000 in
theorem m4 (fc : Int) (m K I : Nat) (xp xc xi xr : Option Addr) (ag : Bool) (a : Act) (w : World) (Q : Exit → Act → World → Prop) (hfr : Fr 134 a) (hs : Slots [(0, .int .u64 fc), (1, .int .i64 (m : Nat)), (2, .slice xp K K), (3, .slice xc K K), (4, .slice xi I I), (5, .slice xr I I), (16, .int .i64 (K : Nat)), (17, .bool ag)] a)
    (hQ : ∀ a', Fr 134 a' → Slots [(0, .int .u64 fc), (1, .int .i64 (m : Nat)), (2, .slice xp K K), (3, .slice xc K K), (4, .slice xi I I), (5, .slice xr I I), (16, .int .i64 (K : Nat)), (17, .bool ag), (20, .bool false)] a' → Q .normal a' w) :
    Code.wp Try.prog (nthC 4 (bodyC Try.f22)) Q a w := by
  obtain ⟨u, hu, rfl⟩ := lay134 hfr
  obtain ⟨s0, s1, s2, s3, s4, s5, s16, s17, -⟩ := hs
  replace s0 : u 0 = .int .u64 fc := (hu 0).symm.trans s0
  replace s1 : u 1 = .int .i64 (m : Nat) := (hu 1).symm.trans s1
  replace s2 : u 2 = .slice xp K K := (hu 2).symm.trans s2
  replace s3 : u 3 = .slice xc K K := (hu 3).symm.trans s3
  replace s4 : u 4 = .slice xi I I := (hu 4).symm.trans s4
  replace s5 : u 5 = .slice xr I I := (hu 5).symm.trans s5
  replace s16 : u 16 = .int .i64 (K : Nat) := (hu 16).symm.trans s16
  replace s17 : u 17 = .bool ag := (hu 17).symm.trans s17
  rw [s0, s1, s2, s3, s4, s5, s16, s17]
  clear hfr hu s0 s1 s2 s3 s4 s5 s16 s17
  conv => arg 2; whnf
  have H : Hid _ := hQ
  clear hQ
  go_wp2
  exact H.out _ ⟨rfl, rfl⟩ ⟨rfl, rfl, rfl, rfl, rfl, rfl, rfl, rfl, rfl, trivial⟩

set_option maxRecDepth 10000 in
set_option maxHeartbeats 1000000 in
theorem m5 (fc : Int) (m K I : Nat) (xp xc xi xr : Option Addr) (ag : Bool) (a : Act) (w : World) (Q : Exit → Act → World → Prop) (hfr : Fr 134 a) (hs : Slots [(0, .int .u64 fc), (1, .int .i64 (m : Nat)), (2, .slice xp K K), (3, .slice xc K K), (4, .slice xi I I), (5, .slice xr I I), (16, .int .i64 (K : Nat)), (17, .bool ag), (20, .bool false)] a)
    (hQ : ∀ a', Fr 134 a' → Slots [(0, .int .u64 fc), (1, .int .i64 (m : Nat)), (2, .slice xp K K), (3, .slice xc K K), (4, .slice xi I I), (5, .slice xr I I), (16, .int .i64 (K : Nat)), (17, .bool ag), (20, .bool false), (21, .bool false)] a' → Q .normal a' w) :
    Code.wp Try.prog (nthC 5 (bodyC Try.f22)) Q a w := by
  obtain ⟨u, hu, rfl⟩ := lay134 hfr
  obtain ⟨s0, s1, s2, s3, s4, s5, s16, s17, s20, -⟩ := hs
  replace s0 : u 0 = .int .u64 fc := (hu 0).symm.trans s0
  replace s1 : u 1 = .int .i64 (m : Nat) := (hu 1).symm.trans s1
  replace s2 : u 2 = .slice xp K K := (hu 2).symm.trans s2
  replace s3 : u 3 = .slice xc K K := (hu 3).symm.trans s3
  replace s4 : u 4 = .slice xi I I := (hu 4).symm.trans s4
  replace s5 : u 5 = .slice xr I I := (hu 5).symm.trans s5
  replace s16 : u 16 = .int .i64 (K : Nat) := (hu 16).symm.trans s16
  replace s17 : u 17 = .bool ag := (hu 17).symm.trans s17
  replace s20 : u 20 = .bool false := (hu 20).symm.trans s20
  rw [s0, s1, s2, s3, s4, s5, s16, s17, s20]
  clear hfr hu s0 s1 s2 s3 s4 s5 s16 s17 s20
  conv => arg 2; whnf
  have H : Hid _ := hQ
  clear hQ
  go_wp2
  exact H.out _ ⟨rfl, rfl⟩ ⟨rfl, rfl, rfl, rfl, rfl, rfl, rfl, rfl, rfl, rfl, trivial⟩

set_option maxRecDepth 10000 in
set_option maxHeartbeats 1000000 in
theorem m6 (fc : Int) (m K I : Nat) (xp xc xi xr : Option Addr) (ag : Bool) (a : Act) (w : World) (Q : Exit → Act → World → Prop) (hfr : Fr 134 a) (hs : Slots [(0, .int .u64 fc), (1, .int .i64 (m : Nat)), (2, .slice xp K K), (3, .slice xc K K), (4, .slice xi I I), (5, .slice xr I I), (16, .int .i64 (K : Nat)), (17, .bool ag), (20, .bool false), (21, .bool false)] a)
    (hQ : ∀ a', Fr 134 a' → Slots [(0, .int .u64 fc), (1, .int .i64 (m : Nat)), (2, .slice xp K K), (3, .slice xc K K), (4, .slice xi I I), (5, .slice xr I I), (16, .int .i64 (K : Nat)), (17, .bool ag), (20, .bool false), (21, .bool false), (22, .int .u64 0)] a' → Q .normal a' w) :
    Code.wp Try.prog (nthC 6 (bodyC Try.f22)) Q a w := by
  obtain ⟨u, hu, rfl⟩ := lay134 hfr
  obtain ⟨s0, s1, s2, s3, s4, s5, s16, s17, s20, s21, -⟩ := hs
  replace s0 : u 0 = .int .u64 fc := (hu 0).symm.trans s0
  replace s1 : u 1 = .int .i64 (m : Nat) := (hu 1).symm.trans s1
  replace s2 : u 2 = .slice xp K K := (hu 2).symm.trans s2
  replace s3 : u 3 = .slice xc K K := (hu 3).symm.trans s3
  replace s4 : u 4 = .slice xi I I := (hu 4).symm.trans s4
  replace s5 : u 5 = .slice xr I I := (hu 5).symm.trans s5
  replace s16 : u 16 = .int .i64 (K : Nat) := (hu 16).symm.trans s16
  replace s17 : u 17 = .bool ag := (hu 17).symm.trans s17
  replace s20 : u 20 = .bool false := (hu 20).symm.trans s20
  replace s21 : u 21 = .bool false := (hu 21).symm.trans s21
  rw [s0, s1, s2, s3, s4, s5, s16, s17, s20, s21]
  clear hfr hu s0 s1 s2 s3 s4 s5 s16 s17 s20 s21
  conv => arg 2; whnf
  have H : Hid _ := hQ
  clear hQ
  go_wp2
  exact H.out _ ⟨rfl, rfl⟩ ⟨rfl, rfl, rfl, rfl, rfl, rfl, rfl, rfl, rfl, rfl, rfl, trivial⟩

set_option maxRecDepth 10000 in
set_option maxHeartbeats 1000000 in
theorem m7i (fc : Int) (m K I : Nat) (xp xc xi xr : Option Addr) (ag : Bool) (a : Act) (w : World) (Q : Exit → Act → World → Prop) (hfr : Fr 134 a) (hs : Slots [(0, .int .u64 fc), (1, .int .i64 (m : Nat)), (2, .slice xp K K), (3, .slice xc K K), (4, .slice xi I I), (5, .slice xr I I), (16, .int .i64 (K : Nat)), (17, .bool ag), (20, .bool false), (21, .bool false), (22, .int .u64 0)] a)
    (hQ : ∀ a', Fr 134 a' → Slots [(0, .int .u64 fc), (1, .int .i64 (m : Nat)), (2, .slice xp K K), (3, .slice xc K K), (4, .slice xi I I), (5, .slice xr I I), (16, .int .i64 (K : Nat)), (17, .bool ag), (20, .bool false), (21, .bool false), (22, .int .u64 0), (23, .int .i64 (0 : Nat))] a' → Q .normal a' w) :
    Code.wp Try.prog (hdC (nthC 7 (bodyC Try.f22))) Q a w := by
  obtain ⟨u, hu, rfl⟩ := lay134 hfr
  obtain ⟨s0, s1, s2, s3, s4, s5, s16, s17, s20, s21, s22, -⟩ := hs
  replace s0 : u 0 = .int .u64 fc := (hu 0).symm.trans s0
  replace s1 : u 1 = .int .i64 (m : Nat) := (hu 1).symm.trans s1
  replace s2 : u 2 = .slice xp K K := (hu 2).symm.trans s2
  replace s3 : u 3 = .slice xc K K := (hu 3).symm.trans s3
  replace s4 : u 4 = .slice xi I I := (hu 4).symm.trans s4
  replace s5 : u 5 = .slice xr I I := (hu 5).symm.trans s5
  replace s16 : u 16 = .int .i64 (K : Nat) := (hu 16).symm.trans s16
  replace s17 : u 17 = .bool ag := (hu 17).symm.trans s17
  replace s20 : u 20 = .bool false := (hu 20).symm.trans s20
  replace s21 : u 21 = .bool false := (hu 21).symm.trans s21
  replace s22 : u 22 = .int .u64 0 := (hu 22).symm.trans s22
  rw [s0, s1, s2, s3, s4, s5, s16, s17, s20, s21, s22]
  clear hfr hu s0 s1 s2 s3 s4 s5 s16 s17 s20 s21 s22
  conv => arg 2; whnf
  have H : Hid _ := hQ
  clear hQ
  go_wp2
  exact H.out _ ⟨rfl, rfl⟩ ⟨rfl, rfl, rfl, rfl, rfl, rfl, rfl, rfl, rfl, rfl, rfl, rfl, trivial⟩

set_option maxRecDepth 10000 in
set_option maxHeartbeats 1000000 in
theorem mh (fc : Int) (m K I : Nat) (xp xc xi xr : Option Addr) (ag : Bool) (iv an : Bool) (la : Int) (k : Nat) (a : Act) (w : World) (Q : Exit → Act → World → Prop) (hfr : Fr 134 a) (hs : Slots [(0, .int .u64 fc), (1, .int .i64 (m : Nat)), (2, .slice xp K K), (3, .slice xc K K), (4, .slice xi I I), (5, .slice xr I I), (16, .int .i64 (K : Nat)), (17, .bool ag), (20, .bool iv), (21, .bool an), (22, .int .u64 la), (23, .int .i64 (k : Nat))] a)
    (hk : k ≤ K) (lK : (K : Int) ≤ 65536) (hQ : ∀ a', k < K → Fr 134 a' → Slots [(0, .int .u64 fc), (1, .int .i64 (m : Nat)), (2, .slice xp K K), (3, .slice xc K K), (4, .slice xi I I), (5, .slice xr I I), (16, .int .i64 (K : Nat)), (17, .bool ag), (20, .bool iv), (21, .bool an), (22, .int .u64 la), (23, .int .i64 (k : Nat))] a' → Q .normal a' w) (hexit : ∀ a', k = K → Fr 134 a' → Slots [(0, .int .u64 fc), (1, .int .i64 (m : Nat)), (2, .slice xp K K), (3, .slice xc K K), (4, .slice xi I I), (5, .slice xr I I), (16, .int .i64 (K : Nat)), (17, .bool ag), (20, .bool iv), (21, .bool an), (22, .int .u64 la)] a' → Q (.exit 0) a' w) :
    Code.wp Try.prog (hdC (inC (inC (tlC (nthC 7 (bodyC Try.f22)))))) Q a w := by
  obtain ⟨u, hu, rfl⟩ := lay134 hfr
  obtain ⟨s0, s1, s2, s3, s4, s5, s16, s17, s20, s21, s22, s23, -⟩ := hs
  replace s0 : u 0 = .int .u64 fc := (hu 0).symm.trans s0
  replace s1 : u 1 = .int .i64 (m : Nat) := (hu 1).symm.trans s1
  replace s2 : u 2 = .slice xp K K := (hu 2).symm.trans s2
  replace s3 : u 3 = .slice xc K K := (hu 3).symm.trans s3
  replace s4 : u 4 = .slice xi I I := (hu 4).symm.trans s4
  replace s5 : u 5 = .slice xr I I := (hu 5).symm.trans s5
  replace s16 : u 16 = .int .i64 (K : Nat) := (hu 16).symm.trans s16
  replace s17 : u 17 = .bool ag := (hu 17).symm.trans s17
  replace s20 : u 20 = .bool iv := (hu 20).symm.trans s20
  replace s21 : u 21 = .bool an := (hu 21).symm.trans s21
  replace s22 : u 22 = .int .u64 la := (hu 22).symm.trans s22
  replace s23 : u 23 = .int .i64 (k : Nat) := (hu 23).symm.trans s23
  rw [s0, s1, s2, s3, s4, s5, s16, s17, s20, s21, s22, s23]
  clear hfr hu s0 s1 s2 s3 s4 s5 s16 s17 s20 s21 s22 s23
  conv => arg 2; whnf
  have H : Hid _ := hQ
  have HX : Hid _ := hexit
  clear hQ hexit
  by_cases hlt : k < K
  · have l : (k : Int) < K := by omega
    go_wp2
    exact H.out _ hlt ⟨rfl, rfl⟩ ⟨rfl, rfl, rfl, rfl, rfl, rfl, rfl, rfl, rfl, rfl, rfl, rfl, trivial⟩
  · have l : ¬ ((k : Int) < K) := by omega
    go_wp2
    exact HX.out _ (by omega) ⟨rfl, rfl⟩ ⟨rfl, rfl, rfl, rfl, rfl, rfl, rfl, rfl, rfl, rfl, rfl, trivial⟩

set_option maxRecDepth 10000 in
set_option maxHeartbeats 1000000 in
theorem mn (fc : Int) (m K I : Nat) (xp xc xi xr : Option Addr) (ag : Bool) (iv an : Bool) (la : Int) (k : Nat) (a : Act) (w : World) (Q : Exit → Act → World → Prop) (hfr : Fr 134 a) (hs : Slots [(0, .int .u64 fc), (1, .int .i64 (m : Nat)), (2, .slice xp K K), (3, .slice xc K K), (4, .slice xi I I), (5, .slice xr I I), (16, .int .i64 (K : Nat)), (17, .bool ag), (20, .bool iv), (21, .bool an), (22, .int .u64 la), (23, .int .i64 (k : Nat))] a)
    (hk : (k : Int) ≤ 65536) (hQ : ∀ a', Fr 134 a' → Slots [(0, .int .u64 fc), (1, .int .i64 (m : Nat)), (2, .slice xp K K), (3, .slice xc K K), (4, .slice xi I I), (5, .slice xr I I), (16, .int .i64 (K : Nat)), (17, .bool ag), (20, .bool iv), (21, .bool an), (22, .int .u64 la), (23, .int .i64 (k + 1 : Nat))] a' → Q .normal a' w) :
    Code.wp Try.prog (tlC (tlC (inC (inC (tlC (nthC 7 (bodyC Try.f22))))))) Q a w := by
  obtain ⟨u, hu, rfl⟩ := lay134 hfr
  obtain ⟨s0, s1, s2, s3, s4, s5, s16, s17, s20, s21, s22, s23, -⟩ := hs
  replace s0 : u 0 = .int .u64 fc := (hu 0).symm.trans s0
  replace s1 : u 1 = .int .i64 (m : Nat) := (hu 1).symm.trans s1
  replace s2 : u 2 = .slice xp K K := (hu 2).symm.trans s2
  replace s3 : u 3 = .slice xc K K := (hu 3).symm.trans s3
  replace s4 : u 4 = .slice xi I I := (hu 4).symm.trans s4
  replace s5 : u 5 = .slice xr I I := (hu 5).symm.trans s5
  replace s16 : u 16 = .int .i64 (K : Nat) := (hu 16).symm.trans s16
  replace s17 : u 17 = .bool ag := (hu 17).symm.trans s17
  replace s20 : u 20 = .bool iv := (hu 20).symm.trans s20
  replace s21 : u 21 = .bool an := (hu 21).symm.trans s21
  replace s22 : u 22 = .int .u64 la := (hu 22).symm.trans s22
  replace s23 : u 23 = .int .i64 (k : Nat) := (hu 23).symm.trans s23
  rw [s0, s1, s2, s3, s4, s5, s16, s17, s20, s21, s22, s23]
  clear hfr hu s0 s1 s2 s3 s4 s5 s16 s17 s20 s21 s22 s23
  conv => arg 2; whnf
  have H : Hid _ := hQ
  clear hQ
  go_wp2
  exact H.out _ ⟨rfl, rfl⟩ ⟨rfl, rfl, rfl, rfl, rfl, rfl, rfl, rfl, rfl, rfl, rfl, rfl, trivial⟩

set_option maxRecDepth 10000 in
set_option maxHeartbeats 1000000 in
theorem m12 (fc : Int) (m K I : Nat) (xp xc xi : Option Addr) (rb : Nat) (ag iv an : Bool) (la : Int) (k : Nat) (lo hi : Nat) (x y : Int) (a : Act) (w : World) (Q : Exit → Act → World → Prop) (hfr : Fr 134 a) (hs : Slots [(0, .int .u64 fc), (1, .int .i64 (m : Nat)), (2, .slice xp K K), (3, .slice xc K K), (4, .slice xi I I), (5, .slice (some ⟨rb, 0, none⟩) I I), (16, .int .i64 (K : Nat)), (17, .bool ag), (20, .bool iv), (21, .bool an), (22, .int .u64 la), (23, .int .i64 (k : Nat))] a)
    (lk : (k : Int) < K) (lK : (K : Int) ≤ 65536) (hlo : IntKind.i64.wrap ((k : Int) * (m : Int)) = (lo : Int)) (hk1 : IntKind.i64.wrap ((k : Int) + 1) = (k : Int) + 1) (hhi : IntKind.i64.wrap (((k : Int) + 1) * (m : Int)) = (hi : Int)) (hle : (lo : Int) ≤ hi) (hhI : (hi : Int) ≤ I) (hIl : ¬ (I = lo))
    (hcall : Calls Try.prog 36 #[.slice (some ⟨rb, lo, none⟩) (hi - lo) (I - lo)] w fun e w' => e = .returned (.tuple #[.int .u8 x, .int .u8 y]) ∧ w' = w)
    (hQ : ∀ a', Fr 134 a' → Slots [(0, .int .u64 fc), (1, .int .i64 (m : Nat)), (2, .slice xp K K), (3, .slice xc K K), (4, .slice xi I I), (5, .slice (some ⟨rb, 0, none⟩) I I), (16, .int .i64 (K : Nat)), (17, .bool ag), (20, .bool iv), (21, .bool an), (22, .int .u64 la), (23, .int .i64 (k : Nat)), (24, .int .u8 x), (25, .int .u8 y)] a' → Q .normal a' w) :
    Code.wp Try.prog (nthC 0 (inC (hdC (tlC (inC (inC (tlC (nthC 7 (bodyC Try.f22))))))))) Q a w := by
  obtain ⟨u, hu, rfl⟩ := lay134 hfr
  obtain ⟨s0, s1, s2, s3, s4, s5, s16, s17, s20, s21, s22, s23, -⟩ := hs
  replace s0 : u 0 = .int .u64 fc := (hu 0).symm.trans s0
  replace s1 : u 1 = .int .i64 (m : Nat) := (hu 1).symm.trans s1
  replace s2 : u 2 = .slice xp K K := (hu 2).symm.trans s2
  replace s3 : u 3 = .slice xc K K := (hu 3).symm.trans s3
  replace s4 : u 4 = .slice xi I I := (hu 4).symm.trans s4
  replace s5 : u 5 = .slice (some ⟨rb, 0, none⟩) I I := (hu 5).symm.trans s5
  replace s16 : u 16 = .int .i64 (K : Nat) := (hu 16).symm.trans s16
  replace s17 : u 17 = .bool ag := (hu 17).symm.trans s17
  replace s20 : u 20 = .bool iv := (hu 20).symm.trans s20
  replace s21 : u 21 = .bool an := (hu 21).symm.trans s21
  replace s22 : u 22 = .int .u64 la := (hu 22).symm.trans s22
  replace s23 : u 23 = .int .i64 (k : Nat) := (hu 23).symm.trans s23
  rw [s0, s1, s2, s3, s4, s5, s16, s17, s20, s21, s22, s23]
  clear hfr hu s0 s1 s2 s3 s4 s5 s16 s17 s20 s21 s22 s23
  conv => arg 2; whnf
  have HC : Hid _ := hcall
  clear hcall
  have H : Hid _ := hQ
  clear hQ
  go_wp2_with (go_at_call 36; refine Calls.mono HC.out ?_; rintro e w' ⟨rfl, rfl⟩)
  exact H.out _ ⟨rfl, rfl⟩ ⟨rfl, rfl, rfl, rfl, rfl, rfl, rfl, rfl, rfl, rfl, rfl, rfl, rfl, rfl, trivial⟩

set_option maxRecDepth 10000 in
set_option maxHeartbeats 1000000 in
theorem m13 (fc : Int) (m K I : Nat) (xp xc xi xr : Option Addr) (ag : Bool) (iv an : Bool) (la : Int) (k : Nat) (x y : Int) (a : Act) (w : World) (Q : Exit → Act → World → Prop) (hfr : Fr 134 a) (hs : Slots [(0, .int .u64 fc), (1, .int .i64 (m : Nat)), (2, .slice xp K K), (3, .slice xc K K), (4, .slice xi I I), (5, .slice xr I I), (16, .int .i64 (K : Nat)), (17, .bool ag), (20, .bool iv), (21, .bool an), (22, .int .u64 la), (23, .int .i64 (k : Nat)), (24, .int .u8 x), (25, .int .u8 y)] a)
    (hQ : ∀ a', Fr 134 a' → Slots [(0, .int .u64 fc), (1, .int .i64 (m : Nat)), (2, .slice xp K K), (3, .slice xc K K), (4, .slice xi I I), (5, .slice xr I I), (16, .int .i64 (K : Nat)), (17, .bool ag), (20, .bool iv), (21, .bool an), (22, .int .u64 la), (23, .int .i64 (k : Nat)), (24, .int .u8 x), (25, .int .u8 y), (26, .bool (!(x == y)))] a' → Q .normal a' w) :
    Code.wp Try.prog (nthC 1 (inC (hdC (tlC (inC (inC (tlC (nthC 7 (bodyC Try.f22))))))))) Q a w := by
  obtain ⟨u, hu, rfl⟩ := lay134 hfr
  obtain ⟨s0, s1, s2, s3, s4, s5, s16, s17, s20, s21, s22, s23, s24, s25, -⟩ := hs
  replace s0 : u 0 = .int .u64 fc := (hu 0).symm.trans s0
  replace s1 : u 1 = .int .i64 (m : Nat) := (hu 1).symm.trans s1
  replace s2 : u 2 = .slice xp K K := (hu 2).symm.trans s2
  replace s3 : u 3 = .slice xc K K := (hu 3).symm.trans s3
  replace s4 : u 4 = .slice xi I I := (hu 4).symm.trans s4
  replace s5 : u 5 = .slice xr I I := (hu 5).symm.trans s5
  replace s16 : u 16 = .int .i64 (K : Nat) := (hu 16).symm.trans s16
  replace s17 : u 17 = .bool ag := (hu 17).symm.trans s17
  replace s20 : u 20 = .bool iv := (hu 20).symm.trans s20
  replace s21 : u 21 = .bool an := (hu 21).symm.trans s21
  replace s22 : u 22 = .int .u64 la := (hu 22).symm.trans s22
  replace s23 : u 23 = .int .i64 (k : Nat) := (hu 23).symm.trans s23
  replace s24 : u 24 = .int .u8 x := (hu 24).symm.trans s24
  replace s25 : u 25 = .int .u8 y := (hu 25).symm.trans s25
  rw [s0, s1, s2, s3, s4, s5, s16, s17, s20, s21, s22, s23, s24, s25]
  clear hfr hu s0 s1 s2 s3 s4 s5 s16 s17 s20 s21 s22 s23 s24 s25
  conv => arg 2; whnf
  have H : Hid _ := hQ
  clear hQ
  go_wp2
  exact H.out _ ⟨rfl, rfl⟩ ⟨rfl, rfl, rfl, rfl, rfl, rfl, rfl, rfl, rfl, rfl, rfl, rfl, rfl, rfl, rfl, trivial⟩

set_option maxRecDepth 10000 in
set_option maxHeartbeats 1000000 in
theorem m14 (fc : Int) (m K I : Nat) (xp xi xr : Option Addr) (ag : Bool) (iv an : Bool) (la : Int) (k : Nat) (x y : Int) (bad : Bool) (cb : Nat) (c : Int) (a : Act) (w : World) (Q : Exit → Act → World → Prop) (hfr : Fr 134 a) (hs : Slots [(0, .int .u64 fc), (1, .int .i64 (m : Nat)), (2, .slice xp K K), (3, .slice (some ⟨cb, 0, none⟩) K K), (4, .slice xi I I), (5, .slice xr I I), (16, .int .i64 (K : Nat)), (17, .bool ag), (20, .bool iv), (21, .bool an), (22, .int .u64 la), (23, .int .i64 (k : Nat)), (24, .int .u8 x), (25, .int .u8 y), (26, .bool bad)] a)
    (lk : (k : Int) < K) (hc : w.cell? ⟨cb, k, none⟩ = some (.int .i64 c)) (hQ : ∀ a', Fr 134 a' → Slots [(0, .int .u64 fc), (1, .int .i64 (m : Nat)), (2, .slice xp K K), (3, .slice (some ⟨cb, 0, none⟩) K K), (4, .slice xi I I), (5, .slice xr I I), (16, .int .i64 (K : Nat)), (17, .bool ag), (20, .bool iv), (21, .bool an), (22, .int .u64 la), (23, .int .i64 (k : Nat)), (24, .int .u8 x), (25, .int .u8 y), (26, .bool bad), (75, .bool (c == 0))] a' → Q .normal a' w) :
    Code.wp Try.prog (hdC (nthC 2 (inC (hdC (tlC (inC (inC (tlC (nthC 7 (bodyC Try.f22)))))))))) Q a w := by
  obtain ⟨u, hu, rfl⟩ := lay134 hfr
  obtain ⟨s0, s1, s2, s3, s4, s5, s16, s17, s20, s21, s22, s23, s24, s25, s26, -⟩ := hs
  replace s0 : u 0 = .int .u64 fc := (hu 0).symm.trans s0
  replace s1 : u 1 = .int .i64 (m : Nat) := (hu 1).symm.trans s1
  replace s2 : u 2 = .slice xp K K := (hu 2).symm.trans s2
  replace s3 : u 3 = .slice (some ⟨cb, 0, none⟩) K K := (hu 3).symm.trans s3
  replace s4 : u 4 = .slice xi I I := (hu 4).symm.trans s4
  replace s5 : u 5 = .slice xr I I := (hu 5).symm.trans s5
  replace s16 : u 16 = .int .i64 (K : Nat) := (hu 16).symm.trans s16
  replace s17 : u 17 = .bool ag := (hu 17).symm.trans s17
  replace s20 : u 20 = .bool iv := (hu 20).symm.trans s20
  replace s21 : u 21 = .bool an := (hu 21).symm.trans s21
  replace s22 : u 22 = .int .u64 la := (hu 22).symm.trans s22
  replace s23 : u 23 = .int .i64 (k : Nat) := (hu 23).symm.trans s23
  replace s24 : u 24 = .int .u8 x := (hu 24).symm.trans s24
  replace s25 : u 25 = .int .u8 y := (hu 25).symm.trans s25
  replace s26 : u 26 = .bool bad := (hu 26).symm.trans s26
  rw [s0, s1, s2, s3, s4, s5, s16, s17, s20, s21, s22, s23, s24, s25, s26]
  clear hfr hu s0 s1 s2 s3 s4 s5 s16 s17 s20 s21 s22 s23 s24 s25 s26
  conv => arg 2; whnf
  have H : Hid _ := hQ
  clear hQ
  go_wp2
  exact H.out _ ⟨rfl, rfl⟩ ⟨rfl, rfl, rfl, rfl, rfl, rfl, rfl, rfl, rfl, rfl, rfl, rfl, rfl, rfl, rfl, rfl, trivial⟩

set_option maxRecDepth 10000 in
set_option maxHeartbeats 1000000 in
theorem m15 (fc : Int) (m K I : Nat) (xp xc xi xr : Option Addr) (ag : Bool) (iv an : Bool) (la : Int) (k : Nat) (x y : Int) (bad : Bool) (a : Act) (w : World) (Q : Exit → Act → World → Prop) (hfr : Fr 134 a) (hs : Slots [(0, .int .u64 fc), (1, .int .i64 (m : Nat)), (2, .slice xp K K), (3, .slice xc K K), (4, .slice xi I I), (5, .slice xr I I), (16, .int .i64 (K : Nat)), (17, .bool ag), (20, .bool iv), (21, .bool an), (22, .int .u64 la), (23, .int .i64 (k : Nat)), (24, .int .u8 x), (25, .int .u8 y), (26, .bool bad)] a)
    (hk : (k : Int) ≤ 65536) (hQ : ∀ a', Fr 134 a' → Slots [(0, .int .u64 fc), (1, .int .i64 (m : Nat)), (2, .slice xp K K), (3, .slice xc K K), (4, .slice xi I I), (5, .slice xr I I), (16, .int .i64 (K : Nat)), (17, .bool ag), (20, .bool iv), (21, .bool an), (22, .int .u64 la), (23, .int .i64 (k : Nat)), (24, .int .u8 x), (25, .int .u8 y), (26, .bool bad), (27, .int .i64 ((k : Int) - 1))] a' → Q .normal a' w) :
    Code.wp Try.prog (nthC 0 (thC (tlC (nthC 2 (inC (hdC (tlC (inC (inC (tlC (nthC 7 (bodyC Try.f22)))))))))))) Q a w := by
  obtain ⟨u, hu, rfl⟩ := lay134 hfr
  obtain ⟨s0, s1, s2, s3, s4, s5, s16, s17, s20, s21, s22, s23, s24, s25, s26, -⟩ := hs
  replace s0 : u 0 = .int .u64 fc := (hu 0).symm.trans s0
  replace s1 : u 1 = .int .i64 (m : Nat) := (hu 1).symm.trans s1
  replace s2 : u 2 = .slice xp K K := (hu 2).symm.trans s2
  replace s3 : u 3 = .slice xc K K := (hu 3).symm.trans s3
  replace s4 : u 4 = .slice xi I I := (hu 4).symm.trans s4
  replace s5 : u 5 = .slice xr I I := (hu 5).symm.trans s5
  replace s16 : u 16 = .int .i64 (K : Nat) := (hu 16).symm.trans s16
  replace s17 : u 17 = .bool ag := (hu 17).symm.trans s17
  replace s20 : u 20 = .bool iv := (hu 20).symm.trans s20
  replace s21 : u 21 = .bool an := (hu 21).symm.trans s21
  replace s22 : u 22 = .int .u64 la := (hu 22).symm.trans s22
  replace s23 : u 23 = .int .i64 (k : Nat) := (hu 23).symm.trans s23
  replace s24 : u 24 = .int .u8 x := (hu 24).symm.trans s24
  replace s25 : u 25 = .int .u8 y := (hu 25).symm.trans s25
  replace s26 : u 26 = .bool bad := (hu 26).symm.trans s26
  rw [s0, s1, s2, s3, s4, s5, s16, s17, s20, s21, s22, s23, s24, s25, s26]
  clear hfr hu s0 s1 s2 s3 s4 s5 s16 s17 s20 s21 s22 s23 s24 s25 s26
  conv => arg 2; whnf
  have wk : IntKind.i64.wrap ((k : Int) - 1) = (k : Int) - 1 := by rw [IntKind.wrap_i64]; omega
  have H : Hid _ := hQ
  clear hQ
  go_wp2
  exact H.out _ ⟨rfl, rfl⟩ ⟨rfl, rfl, rfl, rfl, rfl, rfl, rfl, rfl, rfl, rfl, rfl, rfl, rfl, rfl, rfl, rfl, trivial⟩

set_option maxRecDepth 10000 in
set_option maxHeartbeats 1000000 in
theorem mj0 (fc : Int) (m K I : Nat) (xp xc xi xr : Option Addr) (ag : Bool) (iv an : Bool) (la : Int) (k : Nat) (x y : Int) (bad : Bool) (a : Act) (w : World) (Q : Exit → Act → World → Prop) (hfr : Fr 134 a) (hs : Slots [(0, .int .u64 fc), (1, .int .i64 (m : Nat)), (2, .slice xp K K), (3, .slice xc K K), (4, .slice xi I I), (5, .slice xr I I), (16, .int .i64 (K : Nat)), (17, .bool ag), (20, .bool iv), (21, .bool an), (22, .int .u64 la), (23, .int .i64 (k : Nat)), (24, .int .u8 x), (25, .int .u8 y), (26, .bool bad), (27, .int .i64 (-1))] a)
    (hexit : ∀ a', Fr 134 a' → Slots [(0, .int .u64 fc), (1, .int .i64 (m : Nat)), (2, .slice xp K K), (3, .slice xc K K), (4, .slice xi I I), (5, .slice xr I I), (16, .int .i64 (K : Nat)), (17, .bool ag), (20, .bool iv), (21, .bool an), (22, .int .u64 la), (23, .int .i64 (k : Nat)), (24, .int .u8 x), (25, .int .u8 y), (26, .bool bad), (27, .int .i64 (-1))] a' → Q (.exit 2) a' w) :
    Code.wp Try.prog (inC (inC (nthC 1 (thC (tlC (nthC 2 (inC (hdC (tlC (inC (inC (tlC (nthC 7 (bodyC Try.f22)))))))))))))) Q a w := by
  obtain ⟨u, hu, rfl⟩ := lay134 hfr
  obtain ⟨s0, s1, s2, s3, s4, s5, s16, s17, s20, s21, s22, s23, s24, s25, s26, s27, -⟩ := hs
  replace s0 : u 0 = .int .u64 fc := (hu 0).symm.trans s0
  replace s1 : u 1 = .int .i64 (m : Nat) := (hu 1).symm.trans s1
  replace s2 : u 2 = .slice xp K K := (hu 2).symm.trans s2
  replace s3 : u 3 = .slice xc K K := (hu 3).symm.trans s3
  replace s4 : u 4 = .slice xi I I := (hu 4).symm.trans s4
  replace s5 : u 5 = .slice xr I I := (hu 5).symm.trans s5
  replace s16 : u 16 = .int .i64 (K : Nat) := (hu 16).symm.trans s16
  replace s17 : u 17 = .bool ag := (hu 17).symm.trans s17
  replace s20 : u 20 = .bool iv := (hu 20).symm.trans s20
  replace s21 : u 21 = .bool an := (hu 21).symm.trans s21
  replace s22 : u 22 = .int .u64 la := (hu 22).symm.trans s22
  replace s23 : u 23 = .int .i64 (k : Nat) := (hu 23).symm.trans s23
  replace s24 : u 24 = .int .u8 x := (hu 24).symm.trans s24
  replace s25 : u 25 = .int .u8 y := (hu 25).symm.trans s25
  replace s26 : u 26 = .bool bad := (hu 26).symm.trans s26
  replace s27 : u 27 = .int .i64 (-1) := (hu 27).symm.trans s27
  rw [s0, s1, s2, s3, s4, s5, s16, s17, s20, s21, s22, s23, s24, s25, s26, s27]
  clear hfr hu s0 s1 s2 s3 s4 s5 s16 s17 s20 s21 s22 s23 s24 s25 s26 s27
  conv => arg 2; whnf
  have H : Hid _ := hexit
  clear hexit
  go_wp2
  exact H.out _ ⟨rfl, rfl⟩ ⟨rfl, rfl, rfl, rfl, rfl, rfl, rfl, rfl, rfl, rfl, rfl, rfl, rfl, rfl, rfl, rfl, trivial⟩

set_option maxRecDepth 10000 in
set_option maxHeartbeats 1000000 in
theorem mjs (fc : Int) (m K I : Nat) (xp xi xr : Option Addr) (ag : Bool) (iv an : Bool) (la : Int) (k : Nat) (x y : Int) (bad : Bool) (cb : Nat) (j : Nat) (c : Int) (a : Act) (w : World) (Q : Exit → Act → World → Prop) (hfr : Fr 134 a) (hs : Slots [(0, .int .u64 fc), (1, .int .i64 (m : Nat)), (2, .slice xp K K), (3, .slice (some ⟨cb, 0, none⟩) K K), (4, .slice xi I I), (5, .slice xr I I), (16, .int .i64 (K : Nat)), (17, .bool ag), (20, .bool iv), (21, .bool an), (22, .int .u64 la), (23, .int .i64 (k : Nat)), (24, .int .u8 x), (25, .int .u8 y), (26, .bool bad), (27, .int .i64 (j : Nat))] a)
    (lj : (j : Int) < K) (lK : (K : Int) ≤ 65536) (hc : w.cell? ⟨cb, j, none⟩ = some (.int .i64 c)) (hQ : ∀ a', c ≠ 0 → Fr 134 a' → Slots [(0, .int .u64 fc), (1, .int .i64 (m : Nat)), (2, .slice xp K K), (3, .slice (some ⟨cb, 0, none⟩) K K), (4, .slice xi I I), (5, .slice xr I I), (16, .int .i64 (K : Nat)), (17, .bool ag), (20, .bool iv), (21, .bool an), (22, .int .u64 la), (23, .int .i64 (k : Nat)), (24, .int .u8 x), (25, .int .u8 y), (26, .bool bad), (27, .int .i64 ((j : Int) - 1))] a' → Q .normal a' w) (hexit : ∀ a', c = 0 → Fr 134 a' → Slots [(0, .int .u64 fc), (1, .int .i64 (m : Nat)), (2, .slice xp K K), (3, .slice (some ⟨cb, 0, none⟩) K K), (4, .slice xi I I), (5, .slice xr I I), (16, .int .i64 (K : Nat)), (17, .bool ag), (20, .bool iv), (21, .bool an), (22, .int .u64 la), (23, .int .i64 (k : Nat)), (24, .int .u8 x), (25, .int .u8 y), (26, .bool bad), (27, .int .i64 (j : Nat))] a' → Q (.exit 2) a' w) :
    Code.wp Try.prog (inC (inC (nthC 1 (thC (tlC (nthC 2 (inC (hdC (tlC (inC (inC (tlC (nthC 7 (bodyC Try.f22)))))))))))))) Q a w := by
  obtain ⟨u, hu, rfl⟩ := lay134 hfr
  obtain ⟨s0, s1, s2, s3, s4, s5, s16, s17, s20, s21, s22, s23, s24, s25, s26, s27, -⟩ := hs
  replace s0 : u 0 = .int .u64 fc := (hu 0).symm.trans s0
  replace s1 : u 1 = .int .i64 (m : Nat) := (hu 1).symm.trans s1
  replace s2 : u 2 = .slice xp K K := (hu 2).symm.trans s2
  replace s3 : u 3 = .slice (some ⟨cb, 0, none⟩) K K := (hu 3).symm.trans s3
  replace s4 : u 4 = .slice xi I I := (hu 4).symm.trans s4
  replace s5 : u 5 = .slice xr I I := (hu 5).symm.trans s5
  replace s16 : u 16 = .int .i64 (K : Nat) := (hu 16).symm.trans s16
  replace s17 : u 17 = .bool ag := (hu 17).symm.trans s17
  replace s20 : u 20 = .bool iv := (hu 20).symm.trans s20
  replace s21 : u 21 = .bool an := (hu 21).symm.trans s21
  replace s22 : u 22 = .int .u64 la := (hu 22).symm.trans s22
  replace s23 : u 23 = .int .i64 (k : Nat) := (hu 23).symm.trans s23
  replace s24 : u 24 = .int .u8 x := (hu 24).symm.trans s24
  replace s25 : u 25 = .int .u8 y := (hu 25).symm.trans s25
  replace s26 : u 26 = .bool bad := (hu 26).symm.trans s26
  replace s27 : u 27 = .int .i64 (j : Nat) := (hu 27).symm.trans s27
  rw [s0, s1, s2, s3, s4, s5, s16, s17, s20, s21, s22, s23, s24, s25, s26, s27]
  clear hfr hu s0 s1 s2 s3 s4 s5 s16 s17 s20 s21 s22 s23 s24 s25 s26 s27
  conv => arg 2; whnf
  have wk : IntKind.i64.wrap ((j : Int) - 1) = (j : Int) - 1 := by rw [IntKind.wrap_i64]; omega
  have H : Hid _ := hQ
  have HX : Hid _ := hexit
  clear hQ hexit
  by_cases h : c = 0
  · subst h
    go_wp2
    exact HX.out _ (by trivial) ⟨rfl, rfl⟩ ⟨rfl, rfl, rfl, rfl, rfl, rfl, rfl, rfl, rfl, rfl, rfl, rfl, rfl, rfl, rfl, rfl, trivial⟩
  · have g : (c == 0) = false := by simpa using h
    have HH : Hid _ := h
    clear h
    go_wp2
    exact H.out _ HH.out ⟨rfl, rfl⟩ ⟨rfl, rfl, rfl, rfl, rfl, rfl, rfl, rfl, rfl, rfl, rfl, rfl, rfl, rfl, rfl, rfl, trivial⟩

set_option maxRecDepth 10000 in
set_option maxHeartbeats 1000000 in
theorem m18z (fc : Int) (m K I : Nat) (xp xc xi xr : Option Addr) (ag : Bool) (iv an : Bool) (la : Int) (k : Nat) (x y : Int) (bad : Bool) (a : Act) (w : World) (Q : Exit → Act → World → Prop) (hfr : Fr 134 a) (hs : Slots [(0, .int .u64 fc), (1, .int .i64 (m : Nat)), (2, .slice xp K K), (3, .slice xc K K), (4, .slice xi I I), (5, .slice xr I I), (16, .int .i64 (K : Nat)), (17, .bool ag), (20, .bool iv), (21, .bool an), (22, .int .u64 la), (23, .int .i64 (k : Nat)), (24, .int .u8 x), (25, .int .u8 y), (26, .bool bad), (27, .int .i64 (-1))] a)
    (hQ : ∀ a', Fr 134 a' → Slots [(0, .int .u64 fc), (1, .int .i64 (m : Nat)), (2, .slice xp K K), (3, .slice xc K K), (4, .slice xi I I), (5, .slice xr I I), (16, .int .i64 (K : Nat)), (17, .bool ag), (20, .bool iv), (21, .bool an), (22, .int .u64 la), (23, .int .i64 (k : Nat)), (24, .int .u8 x), (25, .int .u8 y), (26, .bool bad), (98, .bool false)] a' → Q .normal a' w) :
    Code.wp Try.prog (nthC 2 (thC (tlC (nthC 2 (inC (hdC (tlC (inC (inC (tlC (nthC 7 (bodyC Try.f22)))))))))))) Q a w := by
  obtain ⟨u, hu, rfl⟩ := lay134 hfr
  obtain ⟨s0, s1, s2, s3, s4, s5, s16, s17, s20, s21, s22, s23, s24, s25, s26, s27, -⟩ := hs
  replace s0 : u 0 = .int .u64 fc := (hu 0).symm.trans s0
  replace s1 : u 1 = .int .i64 (m : Nat) := (hu 1).symm.trans s1
  replace s2 : u 2 = .slice xp K K := (hu 2).symm.trans s2
  replace s3 : u 3 = .slice xc K K := (hu 3).symm.trans s3
  replace s4 : u 4 = .slice xi I I := (hu 4).symm.trans s4
  replace s5 : u 5 = .slice xr I I := (hu 5).symm.trans s5
  replace s16 : u 16 = .int .i64 (K : Nat) := (hu 16).symm.trans s16
  replace s17 : u 17 = .bool ag := (hu 17).symm.trans s17
  replace s20 : u 20 = .bool iv := (hu 20).symm.trans s20
  replace s21 : u 21 = .bool an := (hu 21).symm.trans s21
  replace s22 : u 22 = .int .u64 la := (hu 22).symm.trans s22
  replace s23 : u 23 = .int .i64 (k : Nat) := (hu 23).symm.trans s23
  replace s24 : u 24 = .int .u8 x := (hu 24).symm.trans s24
  replace s25 : u 25 = .int .u8 y := (hu 25).symm.trans s25
  replace s26 : u 26 = .bool bad := (hu 26).symm.trans s26
  replace s27 : u 27 = .int .i64 (-1) := (hu 27).symm.trans s27
  rw [s0, s1, s2, s3, s4, s5, s16, s17, s20, s21, s22, s23, s24, s25, s26, s27]
  clear hfr hu s0 s1 s2 s3 s4 s5 s16 s17 s20 s21 s22 s23 s24 s25 s26 s27
  conv => arg 2; whnf
  have H : Hid _ := hQ
  clear hQ
  go_wp2
  exact H.out _ ⟨rfl, rfl⟩ ⟨rfl, rfl, rfl, rfl, rfl, rfl, rfl, rfl, rfl, rfl, rfl, rfl, rfl, rfl, rfl, rfl, trivial⟩

set_option maxRecDepth 10000 in
set_option maxHeartbeats 1000000 in
theorem m18 (fc : Int) (m K I : Nat) (xc xi xr : Option Addr) (ag : Bool) (iv an : Bool) (la : Int) (k : Nat) (x y : Int) (bad : Bool) (pb : Nat) (j : Nat) (p : Int) (a : Act) (w : World) (Q : Exit → Act → World → Prop) (hfr : Fr 134 a) (hs : Slots [(0, .int .u64 fc), (1, .int .i64 (m : Nat)), (2, .slice (some ⟨pb, 0, none⟩) K K), (3, .slice xc K K), (4, .slice xi I I), (5, .slice xr I I), (16, .int .i64 (K : Nat)), (17, .bool ag), (20, .bool iv), (21, .bool an), (22, .int .u64 la), (23, .int .i64 (k : Nat)), (24, .int .u8 x), (25, .int .u8 y), (26, .bool bad), (27, .int .i64 (j : Nat))] a)
    (lj : (j : Int) < K) (hc : w.cell? ⟨pb, j, none⟩ = some (.int .u64 p)) (hQ : ∀ a', Fr 134 a' → Slots [(0, .int .u64 fc), (1, .int .i64 (m : Nat)), (2, .slice (some ⟨pb, 0, none⟩) K K), (3, .slice xc K K), (4, .slice xi I I), (5, .slice xr I I), (16, .int .i64 (K : Nat)), (17, .bool ag), (20, .bool iv), (21, .bool an), (22, .int .u64 la), (23, .int .i64 (k : Nat)), (24, .int .u8 x), (25, .int .u8 y), (26, .bool bad), (27, .int .i64 (j : Nat)), (98, .bool (decide (fc ≤ p)))] a' → Q .normal a' w) :
    Code.wp Try.prog (nthC 2 (thC (tlC (nthC 2 (inC (hdC (tlC (inC (inC (tlC (nthC 7 (bodyC Try.f22)))))))))))) Q a w := by
  obtain ⟨u, hu, rfl⟩ := lay134 hfr
  obtain ⟨s0, s1, s2, s3, s4, s5, s16, s17, s20, s21, s22, s23, s24, s25, s26, s27, -⟩ := hs
  replace s0 : u 0 = .int .u64 fc := (hu 0).symm.trans s0
  replace s1 : u 1 = .int .i64 (m : Nat) := (hu 1).symm.trans s1
  replace s2 : u 2 = .slice (some ⟨pb, 0, none⟩) K K := (hu 2).symm.trans s2
  replace s3 : u 3 = .slice xc K K := (hu 3).symm.trans s3
  replace s4 : u 4 = .slice xi I I := (hu 4).symm.trans s4
  replace s5 : u 5 = .slice xr I I := (hu 5).symm.trans s5
  replace s16 : u 16 = .int .i64 (K : Nat) := (hu 16).symm.trans s16
  replace s17 : u 17 = .bool ag := (hu 17).symm.trans s17
  replace s20 : u 20 = .bool iv := (hu 20).symm.trans s20
  replace s21 : u 21 = .bool an := (hu 21).symm.trans s21
  replace s22 : u 22 = .int .u64 la := (hu 22).symm.trans s22
  replace s23 : u 23 = .int .i64 (k : Nat) := (hu 23).symm.trans s23
  replace s24 : u 24 = .int .u8 x := (hu 24).symm.trans s24
  replace s25 : u 25 = .int .u8 y := (hu 25).symm.trans s25
  replace s26 : u 26 = .bool bad := (hu 26).symm.trans s26
  replace s27 : u 27 = .int .i64 (j : Nat) := (hu 27).symm.trans s27
  rw [s0, s1, s2, s3, s4, s5, s16, s17, s20, s21, s22, s23, s24, s25, s26, s27]
  clear hfr hu s0 s1 s2 s3 s4 s5 s16 s17 s20 s21 s22 s23 s24 s25 s26 s27
  conv => arg 2; whnf
  have H : Hid _ := hQ
  clear hQ
  go_wp2
  exact H.out _ ⟨rfl, rfl⟩ ⟨rfl, rfl, rfl, rfl, rfl, rfl, rfl, rfl, rfl, rfl, rfl, rfl, rfl, rfl, rfl, rfl, rfl, trivial⟩

set_option maxRecDepth 10000 in
set_option maxHeartbeats 1000000 in
theorem m19 (fc : Int) (m K I : Nat) (xp xc  xr : Option Addr) (ag : Bool) (iv an : Bool) (la : Int) (k : Nat) (x y : Int) (bad : Bool) (ib : Nat) (j lo hi : Nat) (u v : Int) (a : Act) (w : World) (Q : Exit → Act → World → Prop) (hfr : Fr 134 a) (hs : Slots [(0, .int .u64 fc), (1, .int .i64 (m : Nat)), (2, .slice xp K K), (3, .slice xc K K), (4, .slice (some ⟨ib, 0, none⟩) I I), (5, .slice xr I I), (16, .int .i64 (K : Nat)), (17, .bool ag), (20, .bool iv), (21, .bool an), (22, .int .u64 la), (23, .int .i64 (k : Nat)), (24, .int .u8 x), (25, .int .u8 y), (26, .bool bad), (27, .int .i64 (j : Nat))] a)
    (lj : (j : Int) < K) (lK : (K : Int) ≤ 65536) (hlo : IntKind.i64.wrap ((j : Int) * (m : Int)) = (lo : Int)) (hk1 : IntKind.i64.wrap ((j : Int) + 1) = (j : Int) + 1) (hhi : IntKind.i64.wrap (((j : Int) + 1) * (m : Int)) = (hi : Int)) (hle : (lo : Int) ≤ hi) (hhI : (hi : Int) ≤ I) (hIl : ¬ (I = lo))
    (hcall : Calls Try.prog 36 #[.slice (some ⟨ib, lo, none⟩) (hi - lo) (I - lo)] w fun e w' => e = .returned (.tuple #[.int .u8 u, .int .u8 v]) ∧ w' = w)
    (hQ : ∀ a', Fr 134 a' → Slots [(0, .int .u64 fc), (1, .int .i64 (m : Nat)), (2, .slice xp K K), (3, .slice xc K K), (4, .slice (some ⟨ib, 0, none⟩) I I), (5, .slice xr I I), (16, .int .i64 (K : Nat)), (17, .bool ag), (20, .bool iv), (21, .bool an), (22, .int .u64 la), (23, .int .i64 (k : Nat)), (24, .int .u8 x), (25, .int .u8 y), (26, .bool bad), (28, .int .u8 u), (29, .int .u8 v)] a' → Q .normal a' w) :
    Code.wp Try.prog (nthC 0 (thC (dropC 3 (thC (tlC (nthC 2 (inC (hdC (tlC (inC (inC (tlC (nthC 7 (bodyC Try.f22)))))))))))))) Q a w := by
  obtain ⟨u, hu, rfl⟩ := lay134 hfr
  obtain ⟨s0, s1, s2, s3, s4, s5, s16, s17, s20, s21, s22, s23, s24, s25, s26, s27, -⟩ := hs
  replace s0 : u 0 = .int .u64 fc := (hu 0).symm.trans s0
  replace s1 : u 1 = .int .i64 (m : Nat) := (hu 1).symm.trans s1
  replace s2 : u 2 = .slice xp K K := (hu 2).symm.trans s2
  replace s3 : u 3 = .slice xc K K := (hu 3).symm.trans s3
  replace s4 : u 4 = .slice (some ⟨ib, 0, none⟩) I I := (hu 4).symm.trans s4
  replace s5 : u 5 = .slice xr I I := (hu 5).symm.trans s5
  replace s16 : u 16 = .int .i64 (K : Nat) := (hu 16).symm.trans s16
  replace s17 : u 17 = .bool ag := (hu 17).symm.trans s17
  replace s20 : u 20 = .bool iv := (hu 20).symm.trans s20
  replace s21 : u 21 = .bool an := (hu 21).symm.trans s21
  replace s22 : u 22 = .int .u64 la := (hu 22).symm.trans s22
  replace s23 : u 23 = .int .i64 (k : Nat) := (hu 23).symm.trans s23
  replace s24 : u 24 = .int .u8 x := (hu 24).symm.trans s24
  replace s25 : u 25 = .int .u8 y := (hu 25).symm.trans s25
  replace s26 : u 26 = .bool bad := (hu 26).symm.trans s26
  replace s27 : u 27 = .int .i64 (j : Nat) := (hu 27).symm.trans s27
  rw [s0, s1, s2, s3, s4, s5, s16, s17, s20, s21, s22, s23, s24, s25, s26, s27]
  clear hfr hu s0 s1 s2 s3 s4 s5 s16 s17 s20 s21 s22 s23 s24 s25 s26 s27
  conv => arg 2; whnf
  have HC : Hid _ := hcall
  clear hcall
  have H : Hid _ := hQ
  clear hQ
  go_wp2_with (go_at_call 36; refine Calls.mono HC.out ?_; rintro e w' ⟨rfl, rfl⟩)
  exact H.out _ ⟨rfl, rfl⟩ ⟨rfl, rfl, rfl, rfl, rfl, rfl, rfl, rfl, rfl, rfl, rfl, rfl, rfl, rfl, rfl, rfl, rfl, trivial⟩

set_option maxRecDepth 10000 in
set_option maxHeartbeats 1000000 in
theorem m20 (fc : Int) (m K I : Nat) (xp xc xi xr : Option Addr) (ag : Bool) (iv an : Bool) (la : Int) (k : Nat) (x y : Int) (bad : Bool) (u2 v2 : Int) (a : Act) (w : World) (Q : Exit → Act → World → Prop) (hfr : Fr 134 a) (hs : Slots [(0, .int .u64 fc), (1, .int .i64 (m : Nat)), (2, .slice xp K K), (3, .slice xc K K), (4, .slice xi I I), (5, .slice xr I I), (16, .int .i64 (K : Nat)), (17, .bool ag), (20, .bool iv), (21, .bool an), (22, .int .u64 la), (23, .int .i64 (k : Nat)), (24, .int .u8 x), (25, .int .u8 y), (26, .bool bad), (28, .int .u8 u2), (29, .int .u8 v2)] a)
    (hQ : ∀ a', Fr 134 a' → Slots [(0, .int .u64 fc), (1, .int .i64 (m : Nat)), (2, .slice xp K K), (3, .slice xc K K), (4, .slice xi I I), (5, .slice xr I I), (16, .int .i64 (K : Nat)), (17, .bool ag), (20, .bool (iv || ((u2 == v2) && (!(x == u2) || !(y == u2))))), (21, .bool an), (22, .int .u64 la), (23, .int .i64 (k : Nat)), (24, .int .u8 x), (25, .int .u8 y), (26, .bool (bad || ((u2 == v2) && (!(x == u2) || !(y == u2)))))] a' → Q .normal a' w) :
    Code.wp Try.prog (dropC 1 (thC (dropC 3 (thC (tlC (nthC 2 (inC (hdC (tlC (inC (inC (tlC (nthC 7 (bodyC Try.f22)))))))))))))) Q a w := by
  obtain ⟨u, hu, rfl⟩ := lay134 hfr
  obtain ⟨s0, s1, s2, s3, s4, s5, s16, s17, s20, s21, s22, s23, s24, s25, s26, s28, s29, -⟩ := hs
  replace s0 : u 0 = .int .u64 fc := (hu 0).symm.trans s0
  replace s1 : u 1 = .int .i64 (m : Nat) := (hu 1).symm.trans s1
  replace s2 : u 2 = .slice xp K K := (hu 2).symm.trans s2
  replace s3 : u 3 = .slice xc K K := (hu 3).symm.trans s3
  replace s4 : u 4 = .slice xi I I := (hu 4).symm.trans s4
  replace s5 : u 5 = .slice xr I I := (hu 5).symm.trans s5
  replace s16 : u 16 = .int .i64 (K : Nat) := (hu 16).symm.trans s16
  replace s17 : u 17 = .bool ag := (hu 17).symm.trans s17
  replace s20 : u 20 = .bool iv := (hu 20).symm.trans s20
  replace s21 : u 21 = .bool an := (hu 21).symm.trans s21
  replace s22 : u 22 = .int .u64 la := (hu 22).symm.trans s22
  replace s23 : u 23 = .int .i64 (k : Nat) := (hu 23).symm.trans s23
  replace s24 : u 24 = .int .u8 x := (hu 24).symm.trans s24
  replace s25 : u 25 = .int .u8 y := (hu 25).symm.trans s25
  replace s26 : u 26 = .bool bad := (hu 26).symm.trans s26
  replace s28 : u 28 = .int .u8 u2 := (hu 28).symm.trans s28
  replace s29 : u 29 = .int .u8 v2 := (hu 29).symm.trans s29
  rw [s0, s1, s2, s3, s4, s5, s16, s17, s20, s21, s22, s23, s24, s25, s26, s28, s29]
  clear hfr hu s0 s1 s2 s3 s4 s5 s16 s17 s20 s21 s22 s23 s24 s25 s26 s28 s29
  conv => arg 2; whnf
  have H : Hid _ := hQ
  clear hQ
  by_cases h1 : u2 = v2
  · subst h1
    by_cases h2 : x = u2
    · subst h2
      by_cases h3 : y = x
      · subst h3
        go_wp2
        refine H.out _ ⟨rfl, rfl⟩ ?_
        simp only [beq_self_eq_true, Bool.not_true, Bool.or_false, Bool.and_false]
        exact ⟨rfl, rfl, rfl, rfl, rfl, rfl, rfl, rfl, rfl, rfl, rfl, rfl, rfl, rfl, rfl, trivial⟩
      · have g3 : (y == x) = false := by simpa using h3
        go_wp2
        refine H.out _ ⟨rfl, rfl⟩ ?_
        simp only [beq_self_eq_true, g3, Bool.not_true, Bool.not_false, Bool.or_true, Bool.and_true]
        exact ⟨rfl, rfl, rfl, rfl, rfl, rfl, rfl, rfl, rfl, rfl, rfl, rfl, rfl, rfl, rfl, trivial⟩
    · have g2 : (x == u2) = false := by simpa using h2
      go_wp2
      refine H.out _ ⟨rfl, rfl⟩ ?_
      simp only [beq_self_eq_true, g2, Bool.not_false, Bool.true_or, Bool.or_true, Bool.and_true]
      exact ⟨rfl, rfl, rfl, rfl, rfl, rfl, rfl, rfl, rfl, rfl, rfl, rfl, rfl, rfl, rfl, trivial⟩
  · have g1 : (u2 == v2) = false := by simpa using h1
    go_wp2
    refine H.out _ ⟨rfl, rfl⟩ ?_
    simp only [g1, Bool.false_and, Bool.or_false]
    exact ⟨rfl, rfl, rfl, rfl, rfl, rfl, rfl, rfl, rfl, rfl, rfl, rfl, rfl, rfl, rfl, trivial⟩

set_option maxRecDepth 10000 in
set_option maxHeartbeats 1000000 in
theorem m23 (fc : Int) (m K I : Nat) (xc xi xr : Option Addr) (ag : Bool) (iv an : Bool) (la : Int) (k : Nat) (x y : Int) (bad : Bool) (pb : Nat) (p : Int) (a : Act) (w : World) (Q : Exit → Act → World → Prop) (hfr : Fr 134 a) (hs : Slots [(0, .int .u64 fc), (1, .int .i64 (m : Nat)), (2, .slice (some ⟨pb, 0, none⟩) K K), (3, .slice xc K K), (4, .slice xi I I), (5, .slice xr I I), (16, .int .i64 (K : Nat)), (17, .bool ag), (20, .bool iv), (21, .bool an), (22, .int .u64 la), (23, .int .i64 (k : Nat)), (24, .int .u8 x), (25, .int .u8 y), (26, .bool bad)] a)
    (lk : (k : Int) < K) (hc : w.cell? ⟨pb, k, none⟩ = some (.int .u64 p)) (hQ : ∀ a', Fr 134 a' → Slots [(0, .int .u64 fc), (1, .int .i64 (m : Nat)), (2, .slice (some ⟨pb, 0, none⟩) K K), (3, .slice xc K K), (4, .slice xi I I), (5, .slice xr I I), (16, .int .i64 (K : Nat)), (17, .bool ag), (20, .bool iv), (21, .bool (an || bad)), (22, .int .u64 (if bad then p else la)), (23, .int .i64 (k : Nat))] a' → Q .normal a' w) :
    Code.wp Try.prog (dropC 3 (inC (hdC (tlC (inC (inC (tlC (nthC 7 (bodyC Try.f22))))))))) Q a w := by
  obtain ⟨u, hu, rfl⟩ := lay134 hfr
  obtain ⟨s0, s1, s2, s3, s4, s5, s16, s17, s20, s21, s22, s23, s24, s25, s26, -⟩ := hs
  replace s0 : u 0 = .int .u64 fc := (hu 0).symm.trans s0
  replace s1 : u 1 = .int .i64 (m : Nat) := (hu 1).symm.trans s1
  replace s2 : u 2 = .slice (some ⟨pb, 0, none⟩) K K := (hu 2).symm.trans s2
  replace s3 : u 3 = .slice xc K K := (hu 3).symm.trans s3
  replace s4 : u 4 = .slice xi I I := (hu 4).symm.trans s4
  replace s5 : u 5 = .slice xr I I := (hu 5).symm.trans s5
  replace s16 : u 16 = .int .i64 (K : Nat) := (hu 16).symm.trans s16
  replace s17 : u 17 = .bool ag := (hu 17).symm.trans s17
  replace s20 : u 20 = .bool iv := (hu 20).symm.trans s20
  replace s21 : u 21 = .bool an := (hu 21).symm.trans s21
  replace s22 : u 22 = .int .u64 la := (hu 22).symm.trans s22
  replace s23 : u 23 = .int .i64 (k : Nat) := (hu 23).symm.trans s23
  replace s24 : u 24 = .int .u8 x := (hu 24).symm.trans s24
  replace s25 : u 25 = .int .u8 y := (hu 25).symm.trans s25
  replace s26 : u 26 = .bool bad := (hu 26).symm.trans s26
  rw [s0, s1, s2, s3, s4, s5, s16, s17, s20, s21, s22, s23, s24, s25, s26]
  clear hfr hu s0 s1 s2 s3 s4 s5 s16 s17 s20 s21 s22 s23 s24 s25 s26
  conv => arg 2; whnf
  have H : Hid _ := hQ
  clear hQ
  cases bad
  · go_wp2
    refine H.out _ ⟨rfl, rfl⟩ ?_
    simp only [Bool.or_false, Bool.false_eq_true, if_false]
    exact ⟨rfl, rfl, rfl, rfl, rfl, rfl, rfl, rfl, rfl, rfl, rfl, rfl, trivial⟩
  · go_wp2
    refine H.out _ ⟨rfl, rfl⟩ ?_
    simp only [Bool.or_true, if_true]
    exact ⟨rfl, rfl, rfl, rfl, rfl, rfl, rfl, rfl, rfl, rfl, rfl, rfl, trivial⟩

set_option maxRecDepth 10000 in
set_option maxHeartbeats 1000000 in
theorem m26 (fc : Int) (m K I : Nat) (xp xc xi xr : Option Addr) (ag : Bool) (iv an : Bool) (la : Int) (a : Act) (w : World) (Q : Exit → Act → World → Prop) (hfr : Fr 134 a) (hs : Slots [(0, .int .u64 fc), (1, .int .i64 (m : Nat)), (2, .slice xp K K), (3, .slice xc K K), (4, .slice xi I I), (5, .slice xr I I), (16, .int .i64 (K : Nat)), (17, .bool ag), (20, .bool iv), (21, .bool an), (22, .int .u64 la)] a)
    (hQ : ∀ a', Fr 134 a' → Slots [(12, .bool ag), (13, .bool iv), (14, .bool an), (15, .int .u64 la)] a' → Q .ret a' w) :
    Code.wp Try.prog (dropC 8 (bodyC Try.f22)) Q a w := by
  obtain ⟨u, hu, rfl⟩ := lay134 hfr
  obtain ⟨s0, s1, s2, s3, s4, s5, s16, s17, s20, s21, s22, -⟩ := hs
  replace s0 : u 0 = .int .u64 fc := (hu 0).symm.trans s0
  replace s1 : u 1 = .int .i64 (m : Nat) := (hu 1).symm.trans s1
  replace s2 : u 2 = .slice xp K K := (hu 2).symm.trans s2
  replace s3 : u 3 = .slice xc K K := (hu 3).symm.trans s3
  replace s4 : u 4 = .slice xi I I := (hu 4).symm.trans s4
  replace s5 : u 5 = .slice xr I I := (hu 5).symm.trans s5
  replace s16 : u 16 = .int .i64 (K : Nat) := (hu 16).symm.trans s16
  replace s17 : u 17 = .bool ag := (hu 17).symm.trans s17
  replace s20 : u 20 = .bool iv := (hu 20).symm.trans s20
  replace s21 : u 21 = .bool an := (hu 21).symm.trans s21
  replace s22 : u 22 = .int .u64 la := (hu 22).symm.trans s22
  rw [s0, s1, s2, s3, s4, s5, s16, s17, s20, s21, s22]
  clear hfr hu s0 s1 s2 s3 s4 s5 s16 s17 s20 s21 s22
  conv => arg 2; whnf
  have H : Hid _ := hQ
  clear hQ
  go_wp2
  exact H.out _ ⟨rfl, rfl⟩ ⟨rfl, rfl, rfl, rfl, trivial⟩

end Go.Proofs.Qxb6602526a
