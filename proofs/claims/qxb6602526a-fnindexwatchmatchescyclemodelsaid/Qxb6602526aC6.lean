import Derived.Test.Qxb6602526aC5
import Derived.Test.Qxb6602526aZz
import Derived.Test.Qxb6602526aCopy2
namespace Go.Proofs.Qxb6602526a
open Go.RowKit
set_option linter.unusedSimpArgs false
set_option linter.unusedVariables false

set_option maxRecDepth 10000 in
set_option maxHeartbeats 1000000 in
theorem l5_0 (fa fb n : Int) (xp : Option Addr) (K kc : Nat) (xc : Option Addr) (C cc : Nat) (xi : Option Addr) (I ic : Nat) (xr : Option Addr) (R rc : Nat) (a : Act) (w : World) (Q : Exit → Act → World → Prop) (hfr : Fr 178 a) (hs : Slots [(0, .int .u64 fa), (1, .int .u64 fb), (2, .int .i64 n), (3, .slice xp K kc), (4, .slice xc C cc), (5, .slice xi I ic), (6, .slice xr R rc)] a)
    (hQ : ∀ a', Fr 178 a' → Slots [(0, .int .u64 fa), (1, .int .u64 fb), (2, .int .i64 n), (3, .slice xp K kc), (4, .slice xc C cc), (5, .slice xi I ic), (6, .slice xr R rc)] a' → Q .normal a' w) :
    Code.wp Try.prog (nthC 0 (bodyC Try.f5)) Q a w := by
  obtain ⟨u, hu, rfl⟩ := lay178 hfr
  obtain ⟨s0, s1, s2, s3, s4, s5, s6, -⟩ := hs
  replace s0 : u 0 = .int .u64 fa := (hu 0).symm.trans s0
  replace s1 : u 1 = .int .u64 fb := (hu 1).symm.trans s1
  replace s2 : u 2 = .int .i64 n := (hu 2).symm.trans s2
  replace s3 : u 3 = .slice xp K kc := (hu 3).symm.trans s3
  replace s4 : u 4 = .slice xc C cc := (hu 4).symm.trans s4
  replace s5 : u 5 = .slice xi I ic := (hu 5).symm.trans s5
  replace s6 : u 6 = .slice xr R rc := (hu 6).symm.trans s6
  rw [s0, s1, s2, s3, s4, s5, s6]
  clear hfr hu s0 s1 s2 s3 s4 s5 s6
  conv => arg 2; whnf
  have H : Hid _ := hQ
  clear hQ
  go_wp2
  exact H.out _ ⟨rfl, rfl⟩ ⟨rfl, rfl, rfl, rfl, rfl, rfl, rfl, trivial⟩

set_option maxRecDepth 10000 in
set_option maxHeartbeats 1000000 in
theorem l5_1 (fa fb n : Int) (xp : Option Addr) (K kc : Nat) (xc : Option Addr) (C cc : Nat) (xi : Option Addr) (I ic : Nat) (xr : Option Addr) (R rc : Nat) (a : Act) (w : World) (Q : Exit → Act → World → Prop) (hfr : Fr 178 a) (hs : Slots [(0, .int .u64 fa), (1, .int .u64 fb), (2, .int .i64 n), (3, .slice xp K kc), (4, .slice xc C cc), (5, .slice xi I ic), (6, .slice xr R rc)] a)
    (l0 : K ≤ 9223372036854775807) (l1 : C ≤ 9223372036854775807) (l2 : I ≤ 9223372036854775807) (l3 : R ≤ 9223372036854775807)
    (hQ : ∀ a', K + C + I + R ≤ 1048576 → Fr 178 a' → Slots [(0, .int .u64 fa), (1, .int .u64 fb), (2, .int .i64 n), (3, .slice xp K kc), (4, .slice xc C cc), (5, .slice xi I ic), (6, .slice xr R rc)] a' → Q .normal a' w)
    (hret : ∀ a' w', Fr 178 a' → sl a' 14 = .bool true → Kept [] w w' → Q .ret a' w') :
    Code.wp Try.prog (nthC 1 (bodyC Try.f5)) Q a w := by
  obtain ⟨u, hu, rfl⟩ := lay178 hfr
  obtain ⟨s0, s1, s2, s3, s4, s5, s6, -⟩ := hs
  replace s0 : u 0 = .int .u64 fa := (hu 0).symm.trans s0
  replace s1 : u 1 = .int .u64 fb := (hu 1).symm.trans s1
  replace s2 : u 2 = .int .i64 n := (hu 2).symm.trans s2
  replace s3 : u 3 = .slice xp K kc := (hu 3).symm.trans s3
  replace s4 : u 4 = .slice xc C cc := (hu 4).symm.trans s4
  replace s5 : u 5 = .slice xi I ic := (hu 5).symm.trans s5
  replace s6 : u 6 = .slice xr R rc := (hu 6).symm.trans s6
  rw [s0, s1, s2, s3, s4, s5, s6]
  clear hfr hu s0 s1 s2 s3 s4 s5 s6
  conv => arg 2; whnf
  have H : Hid _ := hQ
  have HR : Hid _ := hret
  clear hQ hret
  by_cases h : K + C + I + R ≤ 1048576
  · have HH : Hid _ := h
    clear h
    go_wp2_with (go_at_call 23; refine (zz23_yes _ _ _ _ _ _ _ _ _ _ _ _ _ _ _ _ HH.out).mono ?_; rintro e w' ⟨rfl, rfl⟩)
    exact H.out _ HH.out ⟨rfl, rfl⟩ ⟨rfl, rfl, rfl, rfl, rfl, rfl, rfl, trivial⟩
  · have HH : Hid _ := h
    clear h
    go_wp2_with (go_at_call 23; refine (zz23_no _ _ _ _ _ _ _ _ _ _ _ _ _ _ _ _ HH.out l0 l1 l2 l3).mono ?_; rintro e w' ⟨rfl, rfl⟩)
    exact HR.out _ _ ⟨rfl, rfl⟩ rfl (Kept.refl _ _)

set_option maxRecDepth 10000 in
set_option maxHeartbeats 1000000 in
theorem l5_2 (fa fb n : Int) (xp : Option Addr) (K kc : Nat) (xc : Option Addr) (C cc : Nat) (xi : Option Addr) (I ic : Nat) (xr : Option Addr) (R rc : Nat) (a : Act) (w : World) (Q : Exit → Act → World → Prop) (hfr : Fr 178 a) (hs : Slots [(0, .int .u64 fa), (1, .int .u64 fb), (2, .int .i64 n), (3, .slice xp K kc), (4, .slice xc C cc), (5, .slice xi I ic), (6, .slice xr R rc)] a)
    (l0 : (K : Int) ≤ 1048576) (l1 : (C : Int) ≤ 1048576) (l2 : (I : Int) ≤ 1048576) (l3 : (R : Int) ≤ 1048576)
    (hQ : ∀ a', K ≤ 65536 → C ≤ 65536 → Fr 178 a' → Slots [(0, .int .u64 fa), (1, .int .u64 fb), (2, .int .i64 n), (3, .slice xp K kc), (4, .slice xc C cc), (5, .slice xi I ic), (6, .slice xr R rc)] a' → Q .normal a' w)
    (hret : ∀ a' w', Fr 178 a' → sl a' 14 = .bool true → Kept [] w w' → Q .ret a' w') :
    Code.wp Try.prog (nthC 2 (bodyC Try.f5)) Q a w := by
  obtain ⟨u, hu, rfl⟩ := lay178 hfr
  obtain ⟨s0, s1, s2, s3, s4, s5, s6, -⟩ := hs
  replace s0 : u 0 = .int .u64 fa := (hu 0).symm.trans s0
  replace s1 : u 1 = .int .u64 fb := (hu 1).symm.trans s1
  replace s2 : u 2 = .int .i64 n := (hu 2).symm.trans s2
  replace s3 : u 3 = .slice xp K kc := (hu 3).symm.trans s3
  replace s4 : u 4 = .slice xc C cc := (hu 4).symm.trans s4
  replace s5 : u 5 = .slice xi I ic := (hu 5).symm.trans s5
  replace s6 : u 6 = .slice xr R rc := (hu 6).symm.trans s6
  rw [s0, s1, s2, s3, s4, s5, s6]
  clear hfr hu s0 s1 s2 s3 s4 s5 s6
  conv => arg 2; whnf
  have H : Hid _ := hQ
  have HR : Hid _ := hret
  clear hQ hret
  by_cases hK : (65536 : Int) < K
  · go_wp2
    exact HR.out _ _ ⟨rfl, rfl⟩ rfl (Kept.refl _ _)
  by_cases hC : (65536 : Int) < C
  · go_wp2
    exact HR.out _ _ ⟨rfl, rfl⟩ rfl (Kept.refl _ _)
  by_cases hI : (1048576 : Int) < I
  · go_wp2
    exact HR.out _ _ ⟨rfl, rfl⟩ rfl (Kept.refl _ _)
  by_cases hR : (1048576 : Int) < R
  · go_wp2
    exact HR.out _ _ ⟨rfl, rfl⟩ rfl (Kept.refl _ _)
  go_wp2
  exact H.out _ (by omega) (by omega) ⟨rfl, rfl⟩ ⟨rfl, rfl, rfl, rfl, rfl, rfl, rfl, trivial⟩

set_option maxRecDepth 10000 in
set_option maxHeartbeats 1000000 in
theorem l5_3 (fa fb n : Int) (xp : Option Addr) (K kc : Nat) (xc : Option Addr) (C cc : Nat) (xi : Option Addr) (I ic : Nat) (xr : Option Addr) (R rc : Nat) (a : Act) (w : World) (Q : Exit → Act → World → Prop) (hfr : Fr 178 a) (hs : Slots [(0, .int .u64 fa), (1, .int .u64 fb), (2, .int .i64 n), (3, .slice xp K kc), (4, .slice xc C cc), (5, .slice xi I ic), (6, .slice xr R rc)] a)
    (l0 : (K : Int) ≤ 65536) (l1 : (C : Int) ≤ 65536) (l2 : (I : Int) ≤ 1048576) (l3 : (R : Int) ≤ 1048576)
    (hQ : ∀ a', Fr 178 a' → Slots [(0, .int .u64 fa), (1, .int .u64 fb), (2, .int .i64 n), (3, .slice xp K kc), (4, .slice xc C cc), (5, .slice xi I ic), (6, .slice xr R rc)] a' → Q .normal a' w)
    (hret : ∀ a' w', Fr 178 a' → sl a' 14 = .bool true → Kept [] w w' → Q .ret a' w') :
    Code.wp Try.prog (nthC 3 (bodyC Try.f5)) Q a w := by
  obtain ⟨u, hu, rfl⟩ := lay178 hfr
  obtain ⟨s0, s1, s2, s3, s4, s5, s6, -⟩ := hs
  replace s0 : u 0 = .int .u64 fa := (hu 0).symm.trans s0
  replace s1 : u 1 = .int .u64 fb := (hu 1).symm.trans s1
  replace s2 : u 2 = .int .i64 n := (hu 2).symm.trans s2
  replace s3 : u 3 = .slice xp K kc := (hu 3).symm.trans s3
  replace s4 : u 4 = .slice xc C cc := (hu 4).symm.trans s4
  replace s5 : u 5 = .slice xi I ic := (hu 5).symm.trans s5
  replace s6 : u 6 = .slice xr R rc := (hu 6).symm.trans s6
  rw [s0, s1, s2, s3, s4, s5, s6]
  clear hfr hu s0 s1 s2 s3 s4 s5 s6
  conv => arg 2; whnf
  have H : Hid _ := hQ
  have HR : Hid _ := hret
  clear hQ hret
  by_cases h : (1048576 : Int) < 8 * K + 8 * C + I + R
  · go_wp2
    exact HR.out _ _ ⟨rfl, rfl⟩ rfl (Kept.refl _ _)
  · go_wp2
    exact H.out _ ⟨rfl, rfl⟩ ⟨rfl, rfl, rfl, rfl, rfl, rfl, rfl, trivial⟩

set_option maxRecDepth 10000 in
set_option maxHeartbeats 1000000 in
theorem l5_4 (fa fb n : Int) (xp : Option Addr) (K kc : Nat) (xc : Option Addr) (C cc : Nat) (xi : Option Addr) (I ic : Nat) (xr : Option Addr) (R rc : Nat) (a : Act) (w : World) (Q : Exit → Act → World → Prop) (hfr : Fr 178 a) (hs : Slots [(0, .int .u64 fa), (1, .int .u64 fb), (2, .int .i64 n), (3, .slice xp K kc), (4, .slice xc C cc), (5, .slice xi I ic), (6, .slice xr R rc)] a)
    (l0 : (K : Int) ≤ 1048576) (l1 : (C : Int) ≤ 1048576) (l2 : (I : Int) ≤ 1048576) (l3 : (R : Int) ≤ 1048576)
    (hQ : ∀ a', Shape n K C I R → Fr 178 a' → Slots [(0, .int .u64 fa), (1, .int .u64 fb), (2, .int .i64 n), (3, .slice xp K kc), (4, .slice xc C cc), (5, .slice xi I ic), (6, .slice xr R rc)] a' → Q .normal a' w)
    (hret : ∀ a' w', Fr 178 a' → sl a' 14 = .bool true → Kept [] w w' → Q .ret a' w') :
    Code.wp Try.prog (nthC 4 (bodyC Try.f5)) Q a w := by
  obtain ⟨u, hu, rfl⟩ := lay178 hfr
  obtain ⟨s0, s1, s2, s3, s4, s5, s6, -⟩ := hs
  replace s0 : u 0 = .int .u64 fa := (hu 0).symm.trans s0
  replace s1 : u 1 = .int .u64 fb := (hu 1).symm.trans s1
  replace s2 : u 2 = .int .i64 n := (hu 2).symm.trans s2
  replace s3 : u 3 = .slice xp K kc := (hu 3).symm.trans s3
  replace s4 : u 4 = .slice xc C cc := (hu 4).symm.trans s4
  replace s5 : u 5 = .slice xi I ic := (hu 5).symm.trans s5
  replace s6 : u 6 = .slice xr R rc := (hu 6).symm.trans s6
  rw [s0, s1, s2, s3, s4, s5, s6]
  clear hfr hu s0 s1 s2 s3 s4 s5 s6
  conv => arg 2; whnf
  have H : Hid _ := hQ
  have HR : Hid _ := hret
  clear hQ hret
  have HC : Hid _ := shape16 n K C I R xp xc xi xr kc cc ic rc w l0 l1 l2 l3
  go_wp2_with (go_at_call 16; refine Calls.mono HC.out ?_; rintro e w' ⟨ok, rfl, rfl, hok⟩)
  · exact HR.out _ _ ⟨rfl, rfl⟩ rfl (Kept.refl _ _)
  · rename_i hb
    exact H.out _ (hok (by simpa using hb)) ⟨rfl, rfl⟩ ⟨rfl, rfl, rfl, rfl, rfl, rfl, rfl, trivial⟩

set_option maxRecDepth 10000 in
set_option maxHeartbeats 1000000 in
theorem l5_5 (fa fb n : Int) (xp : Option Addr) (K kc : Nat) (xc : Option Addr) (C cc : Nat) (xi : Option Addr) (I ic : Nat) (xr : Option Addr) (R rc : Nat) (a : Act) (w : World) (Q : Exit → Act → World → Prop) (hfr : Fr 178 a) (hs : Slots [(0, .int .u64 fa), (1, .int .u64 fb), (2, .int .i64 n), (3, .slice xp K kc), (4, .slice xc C cc), (5, .slice xi I ic), (6, .slice xr R rc)] a)
    (hQ : ∀ a', fa ≤ fb → Fr 178 a' → Slots [(0, .int .u64 fa), (1, .int .u64 fb), (2, .int .i64 n), (3, .slice xp K kc), (4, .slice xc C cc), (5, .slice xi I ic), (6, .slice xr R rc)] a' → Q .normal a' w)
    (hret : ∀ a' w', Fr 178 a' → sl a' 14 = .bool true → Kept [] w w' → Q .ret a' w') :
    Code.wp Try.prog (nthC 5 (bodyC Try.f5)) Q a w := by
  obtain ⟨u, hu, rfl⟩ := lay178 hfr
  obtain ⟨s0, s1, s2, s3, s4, s5, s6, -⟩ := hs
  replace s0 : u 0 = .int .u64 fa := (hu 0).symm.trans s0
  replace s1 : u 1 = .int .u64 fb := (hu 1).symm.trans s1
  replace s2 : u 2 = .int .i64 n := (hu 2).symm.trans s2
  replace s3 : u 3 = .slice xp K kc := (hu 3).symm.trans s3
  replace s4 : u 4 = .slice xc C cc := (hu 4).symm.trans s4
  replace s5 : u 5 = .slice xi I ic := (hu 5).symm.trans s5
  replace s6 : u 6 = .slice xr R rc := (hu 6).symm.trans s6
  rw [s0, s1, s2, s3, s4, s5, s6]
  clear hfr hu s0 s1 s2 s3 s4 s5 s6
  conv => arg 2; whnf
  have H : Hid _ := hQ
  have HR : Hid _ := hret
  clear hQ hret
  by_cases h : fb < fa
  · go_wp2
    exact HR.out _ _ ⟨rfl, rfl⟩ rfl (Kept.refl _ _)
  · go_wp2
    exact H.out _ (by omega) ⟨rfl, rfl⟩ ⟨rfl, rfl, rfl, rfl, rfl, rfl, rfl, trivial⟩

set_option maxRecDepth 10000 in
set_option maxHeartbeats 1000000 in
theorem l5_6 (fa fb n : Int) (xp : Option Addr) (K kc : Nat) (xc : Option Addr) (C cc : Nat) (xi : Option Addr) (I ic : Nat) (xr : Option Addr) (R rc : Nat) (G : Option Addr → World → Prop) (a : Act) (w : World) (Q : Exit → Act → World → Prop) (hfr : Fr 178 a) (hs : Slots [(0, .int .u64 fa), (1, .int .u64 fb), (2, .int .i64 n), (3, .slice xp K kc), (4, .slice xc C cc), (5, .slice xi I ic), (6, .slice xr R rc)] a)
    (hcall : Calls Try.prog 10 #[.slice xp K kc] w fun e w' => ∃ y, e = .returned (.slice y K K) ∧ G y w')
    (hQ : ∀ a' y w', G y w' → Fr 178 a' → Slots [(0, .int .u64 fa), (1, .int .u64 fb), (2, .int .i64 n), (3, .slice y K K), (4, .slice xc C cc), (5, .slice xi I ic), (6, .slice xr R rc)] a' → Q .normal a' w') :
    Code.wp Try.prog (nthC 6 (bodyC Try.f5)) Q a w := by
  obtain ⟨u, hu, rfl⟩ := lay178 hfr
  obtain ⟨s0, s1, s2, s3, s4, s5, s6, -⟩ := hs
  replace s0 : u 0 = .int .u64 fa := (hu 0).symm.trans s0
  replace s1 : u 1 = .int .u64 fb := (hu 1).symm.trans s1
  replace s2 : u 2 = .int .i64 n := (hu 2).symm.trans s2
  replace s3 : u 3 = .slice xp K kc := (hu 3).symm.trans s3
  replace s4 : u 4 = .slice xc C cc := (hu 4).symm.trans s4
  replace s5 : u 5 = .slice xi I ic := (hu 5).symm.trans s5
  replace s6 : u 6 = .slice xr R rc := (hu 6).symm.trans s6
  rw [s0, s1, s2, s3, s4, s5, s6]
  clear hfr hu s0 s1 s2 s3 s4 s5 s6
  conv => arg 2; whnf
  have HC : Hid _ := hcall
  have H : Hid _ := hQ
  clear hQ
  clear hcall
  go_wp2_with (go_at_call 10; refine Calls.mono HC.out ?_; rintro e w' ⟨y, rfl, hG⟩)
  exact H.out _ _ _ hG ⟨rfl, rfl⟩ ⟨rfl, rfl, rfl, rfl, rfl, rfl, rfl, trivial⟩

set_option maxRecDepth 10000 in
set_option maxHeartbeats 1000000 in
theorem l5_7 (fa fb n : Int) (xp : Option Addr) (K kc : Nat) (xc : Option Addr) (C cc : Nat) (xi : Option Addr) (I ic : Nat) (xr : Option Addr) (R rc : Nat) (G : Option Addr → World → Prop) (a : Act) (w : World) (Q : Exit → Act → World → Prop) (hfr : Fr 178 a) (hs : Slots [(0, .int .u64 fa), (1, .int .u64 fb), (2, .int .i64 n), (3, .slice xp K kc), (4, .slice xc C cc), (5, .slice xi I ic), (6, .slice xr R rc)] a)
    (hcall : Calls Try.prog 17 #[.slice xc C cc] w fun e w' => ∃ y, e = .returned (.slice y C C) ∧ G y w')
    (hQ : ∀ a' y w', G y w' → Fr 178 a' → Slots [(0, .int .u64 fa), (1, .int .u64 fb), (2, .int .i64 n), (3, .slice xp K kc), (4, .slice y C C), (5, .slice xi I ic), (6, .slice xr R rc)] a' → Q .normal a' w') :
    Code.wp Try.prog (nthC 7 (bodyC Try.f5)) Q a w := by
  obtain ⟨u, hu, rfl⟩ := lay178 hfr
  obtain ⟨s0, s1, s2, s3, s4, s5, s6, -⟩ := hs
  replace s0 : u 0 = .int .u64 fa := (hu 0).symm.trans s0
  replace s1 : u 1 = .int .u64 fb := (hu 1).symm.trans s1
  replace s2 : u 2 = .int .i64 n := (hu 2).symm.trans s2
  replace s3 : u 3 = .slice xp K kc := (hu 3).symm.trans s3
  replace s4 : u 4 = .slice xc C cc := (hu 4).symm.trans s4
  replace s5 : u 5 = .slice xi I ic := (hu 5).symm.trans s5
  replace s6 : u 6 = .slice xr R rc := (hu 6).symm.trans s6
  rw [s0, s1, s2, s3, s4, s5, s6]
  clear hfr hu s0 s1 s2 s3 s4 s5 s6
  conv => arg 2; whnf
  have HC : Hid _ := hcall
  have H : Hid _ := hQ
  clear hQ
  clear hcall
  go_wp2_with (go_at_call 17; refine Calls.mono HC.out ?_; rintro e w' ⟨y, rfl, hG⟩)
  exact H.out _ _ _ hG ⟨rfl, rfl⟩ ⟨rfl, rfl, rfl, rfl, rfl, rfl, rfl, trivial⟩

set_option maxRecDepth 10000 in
set_option maxHeartbeats 1000000 in
theorem l5_8 (fa fb n : Int) (xp : Option Addr) (K kc : Nat) (xc : Option Addr) (C cc : Nat) (xi : Option Addr) (I ic : Nat) (xr : Option Addr) (R rc : Nat) (G : Option Addr → World → Prop) (a : Act) (w : World) (Q : Exit → Act → World → Prop) (hfr : Fr 178 a) (hs : Slots [(0, .int .u64 fa), (1, .int .u64 fb), (2, .int .i64 n), (3, .slice xp K kc), (4, .slice xc C cc), (5, .slice xi I ic), (6, .slice xr R rc)] a)
    (hcall : Calls Try.prog 18 #[.slice xi I ic] w fun e w' => ∃ y, e = .returned (.slice y I I) ∧ G y w')
    (hQ : ∀ a' y w', G y w' → Fr 178 a' → Slots [(0, .int .u64 fa), (1, .int .u64 fb), (2, .int .i64 n), (3, .slice xp K kc), (4, .slice xc C cc), (5, .slice y I I), (6, .slice xr R rc)] a' → Q .normal a' w') :
    Code.wp Try.prog (nthC 8 (bodyC Try.f5)) Q a w := by
  obtain ⟨u, hu, rfl⟩ := lay178 hfr
  obtain ⟨s0, s1, s2, s3, s4, s5, s6, -⟩ := hs
  replace s0 : u 0 = .int .u64 fa := (hu 0).symm.trans s0
  replace s1 : u 1 = .int .u64 fb := (hu 1).symm.trans s1
  replace s2 : u 2 = .int .i64 n := (hu 2).symm.trans s2
  replace s3 : u 3 = .slice xp K kc := (hu 3).symm.trans s3
  replace s4 : u 4 = .slice xc C cc := (hu 4).symm.trans s4
  replace s5 : u 5 = .slice xi I ic := (hu 5).symm.trans s5
  replace s6 : u 6 = .slice xr R rc := (hu 6).symm.trans s6
  rw [s0, s1, s2, s3, s4, s5, s6]
  clear hfr hu s0 s1 s2 s3 s4 s5 s6
  conv => arg 2; whnf
  have HC : Hid _ := hcall
  have H : Hid _ := hQ
  clear hQ
  clear hcall
  go_wp2_with (go_at_call 18; refine Calls.mono HC.out ?_; rintro e w' ⟨y, rfl, hG⟩)
  exact H.out _ _ _ hG ⟨rfl, rfl⟩ ⟨rfl, rfl, rfl, rfl, rfl, rfl, rfl, trivial⟩

set_option maxRecDepth 10000 in
set_option maxHeartbeats 1000000 in
theorem l5_9 (fa fb n : Int) (xp : Option Addr) (K kc : Nat) (xc : Option Addr) (C cc : Nat) (xi : Option Addr) (I ic : Nat) (xr : Option Addr) (R rc : Nat) (G : Option Addr → World → Prop) (a : Act) (w : World) (Q : Exit → Act → World → Prop) (hfr : Fr 178 a) (hs : Slots [(0, .int .u64 fa), (1, .int .u64 fb), (2, .int .i64 n), (3, .slice xp K kc), (4, .slice xc C cc), (5, .slice xi I ic), (6, .slice xr R rc)] a)
    (hcall : Calls Try.prog 18 #[.slice xr R rc] w fun e w' => ∃ y, e = .returned (.slice y R R) ∧ G y w')
    (hQ : ∀ a' y w', G y w' → Fr 178 a' → Slots [(0, .int .u64 fa), (1, .int .u64 fb), (2, .int .i64 n), (3, .slice xp K kc), (4, .slice xc C cc), (5, .slice xi I ic), (6, .slice y R R)] a' → Q .normal a' w') :
    Code.wp Try.prog (nthC 9 (bodyC Try.f5)) Q a w := by
  obtain ⟨u, hu, rfl⟩ := lay178 hfr
  obtain ⟨s0, s1, s2, s3, s4, s5, s6, -⟩ := hs
  replace s0 : u 0 = .int .u64 fa := (hu 0).symm.trans s0
  replace s1 : u 1 = .int .u64 fb := (hu 1).symm.trans s1
  replace s2 : u 2 = .int .i64 n := (hu 2).symm.trans s2
  replace s3 : u 3 = .slice xp K kc := (hu 3).symm.trans s3
  replace s4 : u 4 = .slice xc C cc := (hu 4).symm.trans s4
  replace s5 : u 5 = .slice xi I ic := (hu 5).symm.trans s5
  replace s6 : u 6 = .slice xr R rc := (hu 6).symm.trans s6
  rw [s0, s1, s2, s3, s4, s5, s6]
  clear hfr hu s0 s1 s2 s3 s4 s5 s6
  conv => arg 2; whnf
  have HC : Hid _ := hcall
  have H : Hid _ := hQ
  clear hQ
  clear hcall
  go_wp2_with (go_at_call 18; refine Calls.mono HC.out ?_; rintro e w' ⟨y, rfl, hG⟩)
  exact H.out _ _ _ hG ⟨rfl, rfl⟩ ⟨rfl, rfl, rfl, rfl, rfl, rfl, rfl, trivial⟩

set_option maxRecDepth 10000 in
set_option maxHeartbeats 1000000 in
theorem l5_10 (fa fb : Int) (m K I : Nat) (xp xc xi xr : Option Addr) (a : Act) (w : World) (Q : Exit → Act → World → Prop) (hfr : Fr 178 a) (hs : Slots [(0, .int .u64 fa), (1, .int .u64 fb), (2, .int .i64 (m : Nat)), (3, .slice xp K K), (4, .slice xc K K), (5, .slice xi I I), (6, .slice xr I I)] a)
    (hQ : ∀ a', Fr 178 a' → Slots [(0, .int .u64 fa), (1, .int .u64 fb), (2, .int .i64 (m : Nat)), (3, .slice xp K K), (4, .slice xc K K), (5, .slice xi I I), (6, .slice xr I I), (15, .pointer (some ⟨w.heap.size, 0, none⟩))] a' → Q .normal a' (w.alloc (.cells (AW.new fa).arr 88))) :
    Code.wp Try.prog (nthC 10 (bodyC Try.f5)) Q a w := by
  obtain ⟨u, hu, rfl⟩ := lay178 hfr
  obtain ⟨s0, s1, s2, s3, s4, s5, s6, -⟩ := hs
  replace s0 : u 0 = .int .u64 fa := (hu 0).symm.trans s0
  replace s1 : u 1 = .int .u64 fb := (hu 1).symm.trans s1
  replace s2 : u 2 = .int .i64 (m : Nat) := (hu 2).symm.trans s2
  replace s3 : u 3 = .slice xp K K := (hu 3).symm.trans s3
  replace s4 : u 4 = .slice xc K K := (hu 4).symm.trans s4
  replace s5 : u 5 = .slice xi I I := (hu 5).symm.trans s5
  replace s6 : u 6 = .slice xr I I := (hu 6).symm.trans s6
  rw [s0, s1, s2, s3, s4, s5, s6]
  clear hfr hu s0 s1 s2 s3 s4 s5 s6
  conv => arg 2; whnf
  have H : Hid _ := hQ
  clear hQ
  go_wp2_with (go_at_call 19; refine (new19 _ _).mono ?_; rintro e w' ⟨rfl, rfl⟩)
  exact H.out _ ⟨rfl, rfl⟩ ⟨rfl, rfl, rfl, rfl, rfl, rfl, rfl, rfl, trivial⟩

set_option maxRecDepth 10000 in
set_option maxHeartbeats 1000000 in
theorem l5_11 (fa fb : Int) (m K I : Nat) (xp xc xi xr : Option Addr) (b1 : Nat) (a : Act) (w : World) (Q : Exit → Act → World → Prop) (hfr : Fr 178 a) (hs : Slots [(0, .int .u64 fa), (1, .int .u64 fb), (2, .int .i64 (m : Nat)), (3, .slice xp K K), (4, .slice xc K K), (5, .slice xi I I), (6, .slice xr I I), (15, .pointer (some ⟨b1, 0, none⟩))] a)
    (hQ : ∀ a', Fr 178 a' → Slots [(0, .int .u64 fa), (1, .int .u64 fb), (2, .int .i64 (m : Nat)), (3, .slice xp K K), (4, .slice xc K K), (5, .slice xi I I), (6, .slice xr I I), (15, .pointer (some ⟨b1, 0, none⟩)), (16, .pointer (some ⟨w.heap.size, 0, none⟩))] a' → Q .normal a' (w.alloc (.cells (AW.new fb).arr 88))) :
    Code.wp Try.prog (nthC 11 (bodyC Try.f5)) Q a w := by
  obtain ⟨u, hu, rfl⟩ := lay178 hfr
  obtain ⟨s0, s1, s2, s3, s4, s5, s6, s15, -⟩ := hs
  replace s0 : u 0 = .int .u64 fa := (hu 0).symm.trans s0
  replace s1 : u 1 = .int .u64 fb := (hu 1).symm.trans s1
  replace s2 : u 2 = .int .i64 (m : Nat) := (hu 2).symm.trans s2
  replace s3 : u 3 = .slice xp K K := (hu 3).symm.trans s3
  replace s4 : u 4 = .slice xc K K := (hu 4).symm.trans s4
  replace s5 : u 5 = .slice xi I I := (hu 5).symm.trans s5
  replace s6 : u 6 = .slice xr I I := (hu 6).symm.trans s6
  replace s15 : u 15 = .pointer (some ⟨b1, 0, none⟩) := (hu 15).symm.trans s15
  rw [s0, s1, s2, s3, s4, s5, s6, s15]
  clear hfr hu s0 s1 s2 s3 s4 s5 s6 s15
  conv => arg 2; whnf
  have H : Hid _ := hQ
  clear hQ
  go_wp2_with (go_at_call 19; refine (new19 _ _).mono ?_; rintro e w' ⟨rfl, rfl⟩)
  exact H.out _ ⟨rfl, rfl⟩ ⟨rfl, rfl, rfl, rfl, rfl, rfl, rfl, rfl, rfl, trivial⟩

set_option maxRecDepth 10000 in
set_option maxHeartbeats 1000000 in
theorem l5_12i (fa fb : Int) (m K I : Nat) (xp xc xi xr : Option Addr) (b1 b2 : Nat) (a : Act) (w : World) (Q : Exit → Act → World → Prop) (hfr : Fr 178 a) (hs : Slots [(0, .int .u64 fa), (1, .int .u64 fb), (2, .int .i64 (m : Nat)), (3, .slice xp K K), (4, .slice xc K K), (5, .slice xi I I), (6, .slice xr I I), (15, .pointer (some ⟨b1, 0, none⟩)), (16, .pointer (some ⟨b2, 0, none⟩))] a)
    (hQ : ∀ a', Fr 178 a' → Slots [(0, .int .u64 fa), (1, .int .u64 fb), (2, .int .i64 (m : Nat)), (3, .slice xp K K), (4, .slice xc K K), (5, .slice xi I I), (6, .slice xr I I), (15, .pointer (some ⟨b1, 0, none⟩)), (16, .pointer (some ⟨b2, 0, none⟩)), (17, .int .i64 (0 : Nat))] a' → Q .normal a' w) :
    Code.wp Try.prog (hdC (nthC 12 (bodyC Try.f5))) Q a w := by
  obtain ⟨u, hu, rfl⟩ := lay178 hfr
  obtain ⟨s0, s1, s2, s3, s4, s5, s6, s15, s16, -⟩ := hs
  replace s0 : u 0 = .int .u64 fa := (hu 0).symm.trans s0
  replace s1 : u 1 = .int .u64 fb := (hu 1).symm.trans s1
  replace s2 : u 2 = .int .i64 (m : Nat) := (hu 2).symm.trans s2
  replace s3 : u 3 = .slice xp K K := (hu 3).symm.trans s3
  replace s4 : u 4 = .slice xc K K := (hu 4).symm.trans s4
  replace s5 : u 5 = .slice xi I I := (hu 5).symm.trans s5
  replace s6 : u 6 = .slice xr I I := (hu 6).symm.trans s6
  replace s15 : u 15 = .pointer (some ⟨b1, 0, none⟩) := (hu 15).symm.trans s15
  replace s16 : u 16 = .pointer (some ⟨b2, 0, none⟩) := (hu 16).symm.trans s16
  rw [s0, s1, s2, s3, s4, s5, s6, s15, s16]
  clear hfr hu s0 s1 s2 s3 s4 s5 s6 s15 s16
  conv => arg 2; whnf
  have H : Hid _ := hQ
  clear hQ
  go_wp2
  exact H.out _ ⟨rfl, rfl⟩ ⟨rfl, rfl, rfl, rfl, rfl, rfl, rfl, rfl, rfl, rfl, trivial⟩

set_option maxRecDepth 10000 in
set_option maxHeartbeats 1000000 in
theorem l5_12h (fa fb : Int) (m K I : Nat) (xp xc xi xr : Option Addr) (b1 b2 : Nat) (k : Nat) (a : Act) (w : World) (Q : Exit → Act → World → Prop) (hfr : Fr 178 a) (hs : Slots [(0, .int .u64 fa), (1, .int .u64 fb), (2, .int .i64 (m : Nat)), (3, .slice xp K K), (4, .slice xc K K), (5, .slice xi I I), (6, .slice xr I I), (15, .pointer (some ⟨b1, 0, none⟩)), (16, .pointer (some ⟨b2, 0, none⟩)), (17, .int .i64 (k : Nat))] a)
    (hk : k ≤ K) (lK : (K : Int) ≤ 65536) (hQ : ∀ a', k < K → Fr 178 a' → Slots [(0, .int .u64 fa), (1, .int .u64 fb), (2, .int .i64 (m : Nat)), (3, .slice xp K K), (4, .slice xc K K), (5, .slice xi I I), (6, .slice xr I I), (15, .pointer (some ⟨b1, 0, none⟩)), (16, .pointer (some ⟨b2, 0, none⟩)), (17, .int .i64 (k : Nat))] a' → Q .normal a' w) (hexit : ∀ a', k = K → Fr 178 a' → Slots [(0, .int .u64 fa), (1, .int .u64 fb), (2, .int .i64 (m : Nat)), (3, .slice xp K K), (4, .slice xc K K), (5, .slice xi I I), (6, .slice xr I I), (15, .pointer (some ⟨b1, 0, none⟩)), (16, .pointer (some ⟨b2, 0, none⟩))] a' → Q (.exit 0) a' w) :
    Code.wp Try.prog (hdC (inC (inC (tlC (nthC 12 (bodyC Try.f5)))))) Q a w := by
  obtain ⟨u, hu, rfl⟩ := lay178 hfr
  obtain ⟨s0, s1, s2, s3, s4, s5, s6, s15, s16, s17, -⟩ := hs
  replace s0 : u 0 = .int .u64 fa := (hu 0).symm.trans s0
  replace s1 : u 1 = .int .u64 fb := (hu 1).symm.trans s1
  replace s2 : u 2 = .int .i64 (m : Nat) := (hu 2).symm.trans s2
  replace s3 : u 3 = .slice xp K K := (hu 3).symm.trans s3
  replace s4 : u 4 = .slice xc K K := (hu 4).symm.trans s4
  replace s5 : u 5 = .slice xi I I := (hu 5).symm.trans s5
  replace s6 : u 6 = .slice xr I I := (hu 6).symm.trans s6
  replace s15 : u 15 = .pointer (some ⟨b1, 0, none⟩) := (hu 15).symm.trans s15
  replace s16 : u 16 = .pointer (some ⟨b2, 0, none⟩) := (hu 16).symm.trans s16
  replace s17 : u 17 = .int .i64 (k : Nat) := (hu 17).symm.trans s17
  rw [s0, s1, s2, s3, s4, s5, s6, s15, s16, s17]
  clear hfr hu s0 s1 s2 s3 s4 s5 s6 s15 s16 s17
  conv => arg 2; whnf
  have H : Hid _ := hQ
  have HX : Hid _ := hexit
  clear hQ hexit
  by_cases hlt : k < K
  · have l : (k : Int) < K := by omega
    go_wp2
    exact H.out _ hlt ⟨rfl, rfl⟩ ⟨rfl, rfl, rfl, rfl, rfl, rfl, rfl, rfl, rfl, rfl, trivial⟩
  · have l : ¬ ((k : Int) < K) := by omega
    go_wp2
    exact HX.out _ (by omega) ⟨rfl, rfl⟩ ⟨rfl, rfl, rfl, rfl, rfl, rfl, rfl, rfl, rfl, trivial⟩

set_option maxRecDepth 10000 in
set_option maxHeartbeats 1000000 in
theorem l5_12n (fa fb : Int) (m K I : Nat) (xp xc xi xr : Option Addr) (b1 b2 : Nat) (k : Nat) (a : Act) (w : World) (Q : Exit → Act → World → Prop) (hfr : Fr 178 a) (hs : Slots [(0, .int .u64 fa), (1, .int .u64 fb), (2, .int .i64 (m : Nat)), (3, .slice xp K K), (4, .slice xc K K), (5, .slice xi I I), (6, .slice xr I I), (15, .pointer (some ⟨b1, 0, none⟩)), (16, .pointer (some ⟨b2, 0, none⟩)), (17, .int .i64 (k : Nat))] a)
    (hk : (k : Int) ≤ 65536) (hQ : ∀ a', Fr 178 a' → Slots [(0, .int .u64 fa), (1, .int .u64 fb), (2, .int .i64 (m : Nat)), (3, .slice xp K K), (4, .slice xc K K), (5, .slice xi I I), (6, .slice xr I I), (15, .pointer (some ⟨b1, 0, none⟩)), (16, .pointer (some ⟨b2, 0, none⟩)), (17, .int .i64 (k + 1 : Nat))] a' → Q .normal a' w) :
    Code.wp Try.prog (tlC (tlC (inC (inC (tlC (nthC 12 (bodyC Try.f5))))))) Q a w := by
  obtain ⟨u, hu, rfl⟩ := lay178 hfr
  obtain ⟨s0, s1, s2, s3, s4, s5, s6, s15, s16, s17, -⟩ := hs
  replace s0 : u 0 = .int .u64 fa := (hu 0).symm.trans s0
  replace s1 : u 1 = .int .u64 fb := (hu 1).symm.trans s1
  replace s2 : u 2 = .int .i64 (m : Nat) := (hu 2).symm.trans s2
  replace s3 : u 3 = .slice xp K K := (hu 3).symm.trans s3
  replace s4 : u 4 = .slice xc K K := (hu 4).symm.trans s4
  replace s5 : u 5 = .slice xi I I := (hu 5).symm.trans s5
  replace s6 : u 6 = .slice xr I I := (hu 6).symm.trans s6
  replace s15 : u 15 = .pointer (some ⟨b1, 0, none⟩) := (hu 15).symm.trans s15
  replace s16 : u 16 = .pointer (some ⟨b2, 0, none⟩) := (hu 16).symm.trans s16
  replace s17 : u 17 = .int .i64 (k : Nat) := (hu 17).symm.trans s17
  rw [s0, s1, s2, s3, s4, s5, s6, s15, s16, s17]
  clear hfr hu s0 s1 s2 s3 s4 s5 s6 s15 s16 s17
  conv => arg 2; whnf
  have H : Hid _ := hQ
  clear hQ
  go_wp2
  exact H.out _ ⟨rfl, rfl⟩ ⟨rfl, rfl, rfl, rfl, rfl, rfl, rfl, rfl, rfl, rfl, trivial⟩

end Go.Proofs.Qxb6602526a
