import Derived.Test.Qxb6602526aE4
import Derived.Test.Qxb6602526aZz
import Derived.Test.Qxb6602526aCopy2
namespace Go.Proofs.Qxb6602526a
open Go.RowKit
set_option linter.unusedSimpArgs false
set_option linter.unusedVariables false

set_option maxRecDepth 10000 in
set_option maxHeartbeats 1000000 in
theorem l7_0 (kap st n : Int) (xp : Option Addr) (K kc : Nat) (xc : Option Addr) (C cc : Nat) (xr : Option Addr) (R rc : Nat) (xi : Option Addr) (I ic : Nat) (a : Act) (w : World) (Q : Exit → Act → World → Prop) (hfr : Fr 282 a) (hs : Slots [(0, .int .i64 kap), (1, .int .u32 st), (2, .int .i64 n), (3, .slice xp K kc), (4, .slice xc C cc), (5, .slice xr R rc), (6, .slice xi I ic)] a)
    (hQ : ∀ a', Fr 282 a' → Slots [(0, .int .i64 kap), (1, .int .u32 st), (2, .int .i64 n), (3, .slice xp K kc), (4, .slice xc C cc), (5, .slice xr R rc), (6, .slice xi I ic)] a' → Q .normal a' w) :
    Code.wp Try.prog (nthC 0 (bodyC Try.f7)) Q a w := by
  obtain ⟨u, hu, rfl⟩ := lay282 hfr
  obtain ⟨s0, s1, s2, s3, s4, s5, s6, -⟩ := hs
  replace s0 : u 0 = .int .i64 kap := (hu 0).symm.trans s0
  replace s1 : u 1 = .int .u32 st := (hu 1).symm.trans s1
  replace s2 : u 2 = .int .i64 n := (hu 2).symm.trans s2
  replace s3 : u 3 = .slice xp K kc := (hu 3).symm.trans s3
  replace s4 : u 4 = .slice xc C cc := (hu 4).symm.trans s4
  replace s5 : u 5 = .slice xr R rc := (hu 5).symm.trans s5
  replace s6 : u 6 = .slice xi I ic := (hu 6).symm.trans s6
  rw [s0, s1, s2, s3, s4, s5, s6]
  clear hfr hu s0 s1 s2 s3 s4 s5 s6
  conv => arg 2; whnf
  have H : Hid _ := hQ
  clear hQ
  go_wp2
  exact H.out _ ⟨rfl, rfl⟩ ⟨rfl, rfl, rfl, rfl, rfl, rfl, rfl, trivial⟩

set_option maxRecDepth 10000 in
set_option maxHeartbeats 1000000 in
theorem l7_1 (kap st n : Int) (xp : Option Addr) (K kc : Nat) (xc : Option Addr) (C cc : Nat) (xr : Option Addr) (R rc : Nat) (xi : Option Addr) (I ic : Nat) (a : Act) (w : World) (Q : Exit → Act → World → Prop) (hfr : Fr 282 a) (hs : Slots [(0, .int .i64 kap), (1, .int .u32 st), (2, .int .i64 n), (3, .slice xp K kc), (4, .slice xc C cc), (5, .slice xr R rc), (6, .slice xi I ic)] a)
    (l0 : K ≤ 9223372036854775807) (l1 : C ≤ 9223372036854775807) (l2 : R ≤ 9223372036854775807) (l3 : I ≤ 9223372036854775807)
    (hQ : ∀ a', K + C + R + I ≤ 1048576 → Fr 282 a' → Slots [(0, .int .i64 kap), (1, .int .u32 st), (2, .int .i64 n), (3, .slice xp K kc), (4, .slice xc C cc), (5, .slice xr R rc), (6, .slice xi I ic)] a' → Q .normal a' w)
    (hret : ∀ a' w', Fr 282 a' → sl a' 14 = .bool true → Kept [] w w' → Q .ret a' w') :
    Code.wp Try.prog (nthC 1 (bodyC Try.f7)) Q a w := by
  obtain ⟨u, hu, rfl⟩ := lay282 hfr
  obtain ⟨s0, s1, s2, s3, s4, s5, s6, -⟩ := hs
  replace s0 : u 0 = .int .i64 kap := (hu 0).symm.trans s0
  replace s1 : u 1 = .int .u32 st := (hu 1).symm.trans s1
  replace s2 : u 2 = .int .i64 n := (hu 2).symm.trans s2
  replace s3 : u 3 = .slice xp K kc := (hu 3).symm.trans s3
  replace s4 : u 4 = .slice xc C cc := (hu 4).symm.trans s4
  replace s5 : u 5 = .slice xr R rc := (hu 5).symm.trans s5
  replace s6 : u 6 = .slice xi I ic := (hu 6).symm.trans s6
  rw [s0, s1, s2, s3, s4, s5, s6]
  clear hfr hu s0 s1 s2 s3 s4 s5 s6
  conv => arg 2; whnf
  have H : Hid _ := hQ
  have HR : Hid _ := hret
  clear hQ hret
  by_cases h : K + C + R + I ≤ 1048576
  · have HH : Hid _ := h
    clear h
    go_wp2_with (go_at_call 31; refine (zz31_yes _ _ _ _ _ _ _ _ _ _ _ _ _ _ _ _ HH.out).mono ?_; rintro e w' ⟨rfl, rfl⟩)
    exact H.out _ HH.out ⟨rfl, rfl⟩ ⟨rfl, rfl, rfl, rfl, rfl, rfl, rfl, trivial⟩
  · have HH : Hid _ := h
    clear h
    go_wp2_with (go_at_call 31; refine (zz31_no _ _ _ _ _ _ _ _ _ _ _ _ _ _ _ _ HH.out l0 l1 l2 l3).mono ?_; rintro e w' ⟨rfl, rfl⟩)
    exact HR.out _ _ ⟨rfl, rfl⟩ rfl (Kept.refl _ _)

set_option maxRecDepth 10000 in
set_option maxHeartbeats 1000000 in
theorem l7_2 (kap st n : Int) (xp : Option Addr) (K kc : Nat) (xc : Option Addr) (C cc : Nat) (xr : Option Addr) (R rc : Nat) (xi : Option Addr) (I ic : Nat) (a : Act) (w : World) (Q : Exit → Act → World → Prop) (hfr : Fr 282 a) (hs : Slots [(0, .int .i64 kap), (1, .int .u32 st), (2, .int .i64 n), (3, .slice xp K kc), (4, .slice xc C cc), (5, .slice xr R rc), (6, .slice xi I ic)] a)
    (l0 : (K : Int) ≤ 1048576) (l1 : (C : Int) ≤ 1048576) (l2 : (R : Int) ≤ 1048576) (l3 : (I : Int) ≤ 1048576)
    (hQ : ∀ a', K ≤ 65536 → C ≤ 65536 → I ≤ 262144 → Fr 282 a' → Slots [(0, .int .i64 kap), (1, .int .u32 st), (2, .int .i64 n), (3, .slice xp K kc), (4, .slice xc C cc), (5, .slice xr R rc), (6, .slice xi I ic)] a' → Q .normal a' w)
    (hret : ∀ a' w', Fr 282 a' → sl a' 14 = .bool true → Kept [] w w' → Q .ret a' w') :
    Code.wp Try.prog (nthC 2 (bodyC Try.f7)) Q a w := by
  obtain ⟨u, hu, rfl⟩ := lay282 hfr
  obtain ⟨s0, s1, s2, s3, s4, s5, s6, -⟩ := hs
  replace s0 : u 0 = .int .i64 kap := (hu 0).symm.trans s0
  replace s1 : u 1 = .int .u32 st := (hu 1).symm.trans s1
  replace s2 : u 2 = .int .i64 n := (hu 2).symm.trans s2
  replace s3 : u 3 = .slice xp K kc := (hu 3).symm.trans s3
  replace s4 : u 4 = .slice xc C cc := (hu 4).symm.trans s4
  replace s5 : u 5 = .slice xr R rc := (hu 5).symm.trans s5
  replace s6 : u 6 = .slice xi I ic := (hu 6).symm.trans s6
  rw [s0, s1, s2, s3, s4, s5, s6]
  clear hfr hu s0 s1 s2 s3 s4 s5 s6
  conv => arg 2; whnf
  have H : Hid _ := hQ
  have HR : Hid _ := hret
  clear hQ hret
  by_cases hK : (65536 : Int) < K
  · go_wp2
    exact HR.out _ _ ⟨rfl, rfl⟩ rfl (Kept.refl _ _)
  by_cases hC : (65536 : Int) < C
  · go_wp2
    exact HR.out _ _ ⟨rfl, rfl⟩ rfl (Kept.refl _ _)
  by_cases hR : (1048576 : Int) < R
  · go_wp2
    exact HR.out _ _ ⟨rfl, rfl⟩ rfl (Kept.refl _ _)
  by_cases hI : (262144 : Int) < I
  · go_wp2
    exact HR.out _ _ ⟨rfl, rfl⟩ rfl (Kept.refl _ _)
  go_wp2
  exact H.out _ (by omega) (by omega) (by omega) ⟨rfl, rfl⟩ ⟨rfl, rfl, rfl, rfl, rfl, rfl, rfl, trivial⟩

set_option maxRecDepth 10000 in
set_option maxHeartbeats 1000000 in
theorem l7_3 (kap st n : Int) (xp : Option Addr) (K kc : Nat) (xc : Option Addr) (C cc : Nat) (xr : Option Addr) (R rc : Nat) (xi : Option Addr) (I ic : Nat) (a : Act) (w : World) (Q : Exit → Act → World → Prop) (hfr : Fr 282 a) (hs : Slots [(0, .int .i64 kap), (1, .int .u32 st), (2, .int .i64 n), (3, .slice xp K kc), (4, .slice xc C cc), (5, .slice xr R rc), (6, .slice xi I ic)] a)
    (l0 : (K : Int) ≤ 65536) (l1 : (C : Int) ≤ 65536) (l2 : (R : Int) ≤ 1048576) (l3 : (I : Int) ≤ 262144)
    (hQ : ∀ a', Fr 282 a' → Slots [(0, .int .i64 kap), (1, .int .u32 st), (2, .int .i64 n), (3, .slice xp K kc), (4, .slice xc C cc), (5, .slice xr R rc), (6, .slice xi I ic)] a' → Q .normal a' w)
    (hret : ∀ a' w', Fr 282 a' → sl a' 14 = .bool true → Kept [] w w' → Q .ret a' w') :
    Code.wp Try.prog (nthC 3 (bodyC Try.f7)) Q a w := by
  obtain ⟨u, hu, rfl⟩ := lay282 hfr
  obtain ⟨s0, s1, s2, s3, s4, s5, s6, -⟩ := hs
  replace s0 : u 0 = .int .i64 kap := (hu 0).symm.trans s0
  replace s1 : u 1 = .int .u32 st := (hu 1).symm.trans s1
  replace s2 : u 2 = .int .i64 n := (hu 2).symm.trans s2
  replace s3 : u 3 = .slice xp K kc := (hu 3).symm.trans s3
  replace s4 : u 4 = .slice xc C cc := (hu 4).symm.trans s4
  replace s5 : u 5 = .slice xr R rc := (hu 5).symm.trans s5
  replace s6 : u 6 = .slice xi I ic := (hu 6).symm.trans s6
  rw [s0, s1, s2, s3, s4, s5, s6]
  clear hfr hu s0 s1 s2 s3 s4 s5 s6
  conv => arg 2; whnf
  have H : Hid _ := hQ
  have HR : Hid _ := hret
  clear hQ hret
  by_cases h : (1048576 : Int) < 8 * K + 8 * C + R + 4 * I
  · go_wp2
    exact HR.out _ _ ⟨rfl, rfl⟩ rfl (Kept.refl _ _)
  · go_wp2
    exact H.out _ ⟨rfl, rfl⟩ ⟨rfl, rfl, rfl, rfl, rfl, rfl, rfl, trivial⟩

set_option maxRecDepth 10000 in
set_option maxHeartbeats 1000000 in
theorem l7_4 (kap st n : Int) (xp : Option Addr) (K kc : Nat) (xc : Option Addr) (C cc : Nat) (xr : Option Addr) (R rc : Nat) (xi : Option Addr) (I ic : Nat) (a : Act) (w : World) (Q : Exit → Act → World → Prop) (hfr : Fr 282 a) (hs : Slots [(0, .int .i64 kap), (1, .int .u32 st), (2, .int .i64 n), (3, .slice xp K kc), (4, .slice xc C cc), (5, .slice xr R rc), (6, .slice xi I ic)] a)
    (l0 : (K : Int) ≤ 1048576) (l1 : (C : Int) ≤ 1048576) (l2 : (R : Int) ≤ 1048576) (l3 : (I : Int) ≤ 1048576)
    (hQ : ∀ a', ShapeX st n K C R I → Fr 282 a' → Slots [(0, .int .i64 kap), (1, .int .u32 st), (2, .int .i64 n), (3, .slice xp K kc), (4, .slice xc C cc), (5, .slice xr R rc), (6, .slice xi I ic)] a' → Q .normal a' w)
    (hret : ∀ a' w', Fr 282 a' → sl a' 14 = .bool true → Kept [] w w' → Q .ret a' w') :
    Code.wp Try.prog (nthC 4 (bodyC Try.f7)) Q a w := by
  obtain ⟨u, hu, rfl⟩ := lay282 hfr
  obtain ⟨s0, s1, s2, s3, s4, s5, s6, -⟩ := hs
  replace s0 : u 0 = .int .i64 kap := (hu 0).symm.trans s0
  replace s1 : u 1 = .int .u32 st := (hu 1).symm.trans s1
  replace s2 : u 2 = .int .i64 n := (hu 2).symm.trans s2
  replace s3 : u 3 = .slice xp K kc := (hu 3).symm.trans s3
  replace s4 : u 4 = .slice xc C cc := (hu 4).symm.trans s4
  replace s5 : u 5 = .slice xr R rc := (hu 5).symm.trans s5
  replace s6 : u 6 = .slice xi I ic := (hu 6).symm.trans s6
  rw [s0, s1, s2, s3, s4, s5, s6]
  clear hfr hu s0 s1 s2 s3 s4 s5 s6
  conv => arg 2; whnf
  have H : Hid _ := hQ
  have HR : Hid _ := hret
  clear hQ hret
  have HC : Hid _ := shape25 st n K C R I xp xc xr xi kc cc rc ic w l0 l1 l2 l3
  go_wp2_with (go_at_call 25; refine Calls.mono HC.out ?_; rintro e w' ⟨ok, rfl, rfl, hok⟩)
  · exact HR.out _ _ ⟨rfl, rfl⟩ rfl (Kept.refl _ _)
  · rename_i hb
    exact H.out _ (hok (by simpa using hb)) ⟨rfl, rfl⟩ ⟨rfl, rfl, rfl, rfl, rfl, rfl, rfl, trivial⟩

set_option maxRecDepth 10000 in
set_option maxHeartbeats 1000000 in
theorem l7_5 (kap st n : Int) (xp : Option Addr) (K kc : Nat) (xc : Option Addr) (C cc : Nat) (xr : Option Addr) (R rc : Nat) (xi : Option Addr) (I ic : Nat) (G : Option Addr → World → Prop) (a : Act) (w : World) (Q : Exit → Act → World → Prop) (hfr : Fr 282 a) (hs : Slots [(0, .int .i64 kap), (1, .int .u32 st), (2, .int .i64 n), (3, .slice xp K kc), (4, .slice xc C cc), (5, .slice xr R rc), (6, .slice xi I ic)] a)
    (hcall : Calls Try.prog 10 #[.slice xp K kc] w fun e w' => ∃ y, e = .returned (.slice y K K) ∧ G y w')
    (hQ : ∀ a' y w', G y w' → Fr 282 a' → Slots [(0, .int .i64 kap), (1, .int .u32 st), (2, .int .i64 n), (3, .slice y K K), (4, .slice xc C cc), (5, .slice xr R rc), (6, .slice xi I ic)] a' → Q .normal a' w') :
    Code.wp Try.prog (nthC 5 (bodyC Try.f7)) Q a w := by
  obtain ⟨u, hu, rfl⟩ := lay282 hfr
  obtain ⟨s0, s1, s2, s3, s4, s5, s6, -⟩ := hs
  replace s0 : u 0 = .int .i64 kap := (hu 0).symm.trans s0
  replace s1 : u 1 = .int .u32 st := (hu 1).symm.trans s1
  replace s2 : u 2 = .int .i64 n := (hu 2).symm.trans s2
  replace s3 : u 3 = .slice xp K kc := (hu 3).symm.trans s3
  replace s4 : u 4 = .slice xc C cc := (hu 4).symm.trans s4
  replace s5 : u 5 = .slice xr R rc := (hu 5).symm.trans s5
  replace s6 : u 6 = .slice xi I ic := (hu 6).symm.trans s6
  rw [s0, s1, s2, s3, s4, s5, s6]
  clear hfr hu s0 s1 s2 s3 s4 s5 s6
  conv => arg 2; whnf
  have HC : Hid _ := hcall
  have H : Hid _ := hQ
  clear hQ
  clear hcall
  go_wp2_with (go_at_call 10; refine Calls.mono HC.out ?_; rintro e w' ⟨y, rfl, hG⟩)
  exact H.out _ _ _ hG ⟨rfl, rfl⟩ ⟨rfl, rfl, rfl, rfl, rfl, rfl, rfl, trivial⟩

set_option maxRecDepth 10000 in
set_option maxHeartbeats 1000000 in
theorem l7_6 (kap st n : Int) (xp : Option Addr) (K kc : Nat) (xc : Option Addr) (C cc : Nat) (xr : Option Addr) (R rc : Nat) (xi : Option Addr) (I ic : Nat) (G : Option Addr → World → Prop) (a : Act) (w : World) (Q : Exit → Act → World → Prop) (hfr : Fr 282 a) (hs : Slots [(0, .int .i64 kap), (1, .int .u32 st), (2, .int .i64 n), (3, .slice xp K kc), (4, .slice xc C cc), (5, .slice xr R rc), (6, .slice xi I ic)] a)
    (hcall : Calls Try.prog 17 #[.slice xc C cc] w fun e w' => ∃ y, e = .returned (.slice y C C) ∧ G y w')
    (hQ : ∀ a' y w', G y w' → Fr 282 a' → Slots [(0, .int .i64 kap), (1, .int .u32 st), (2, .int .i64 n), (3, .slice xp K kc), (4, .slice y C C), (5, .slice xr R rc), (6, .slice xi I ic)] a' → Q .normal a' w') :
    Code.wp Try.prog (nthC 6 (bodyC Try.f7)) Q a w := by
  obtain ⟨u, hu, rfl⟩ := lay282 hfr
  obtain ⟨s0, s1, s2, s3, s4, s5, s6, -⟩ := hs
  replace s0 : u 0 = .int .i64 kap := (hu 0).symm.trans s0
  replace s1 : u 1 = .int .u32 st := (hu 1).symm.trans s1
  replace s2 : u 2 = .int .i64 n := (hu 2).symm.trans s2
  replace s3 : u 3 = .slice xp K kc := (hu 3).symm.trans s3
  replace s4 : u 4 = .slice xc C cc := (hu 4).symm.trans s4
  replace s5 : u 5 = .slice xr R rc := (hu 5).symm.trans s5
  replace s6 : u 6 = .slice xi I ic := (hu 6).symm.trans s6
  rw [s0, s1, s2, s3, s4, s5, s6]
  clear hfr hu s0 s1 s2 s3 s4 s5 s6
  conv => arg 2; whnf
  have HC : Hid _ := hcall
  have H : Hid _ := hQ
  clear hQ
  clear hcall
  go_wp2_with (go_at_call 17; refine Calls.mono HC.out ?_; rintro e w' ⟨y, rfl, hG⟩)
  exact H.out _ _ _ hG ⟨rfl, rfl⟩ ⟨rfl, rfl, rfl, rfl, rfl, rfl, rfl, trivial⟩

set_option maxRecDepth 10000 in
set_option maxHeartbeats 1000000 in
theorem l7_7 (kap st n : Int) (xp : Option Addr) (K kc : Nat) (xc : Option Addr) (C cc : Nat) (xr : Option Addr) (R rc : Nat) (xi : Option Addr) (I ic : Nat) (G : Option Addr → World → Prop) (a : Act) (w : World) (Q : Exit → Act → World → Prop) (hfr : Fr 282 a) (hs : Slots [(0, .int .i64 kap), (1, .int .u32 st), (2, .int .i64 n), (3, .slice xp K kc), (4, .slice xc C cc), (5, .slice xr R rc), (6, .slice xi I ic)] a)
    (hcall : Calls Try.prog 18 #[.slice xr R rc] w fun e w' => ∃ y, e = .returned (.slice y R R) ∧ G y w')
    (hQ : ∀ a' y w', G y w' → Fr 282 a' → Slots [(0, .int .i64 kap), (1, .int .u32 st), (2, .int .i64 n), (3, .slice xp K kc), (4, .slice xc C cc), (5, .slice y R R), (6, .slice xi I ic)] a' → Q .normal a' w') :
    Code.wp Try.prog (nthC 7 (bodyC Try.f7)) Q a w := by
  obtain ⟨u, hu, rfl⟩ := lay282 hfr
  obtain ⟨s0, s1, s2, s3, s4, s5, s6, -⟩ := hs
  replace s0 : u 0 = .int .i64 kap := (hu 0).symm.trans s0
  replace s1 : u 1 = .int .u32 st := (hu 1).symm.trans s1
  replace s2 : u 2 = .int .i64 n := (hu 2).symm.trans s2
  replace s3 : u 3 = .slice xp K kc := (hu 3).symm.trans s3
  replace s4 : u 4 = .slice xc C cc := (hu 4).symm.trans s4
  replace s5 : u 5 = .slice xr R rc := (hu 5).symm.trans s5
  replace s6 : u 6 = .slice xi I ic := (hu 6).symm.trans s6
  rw [s0, s1, s2, s3, s4, s5, s6]
  clear hfr hu s0 s1 s2 s3 s4 s5 s6
  conv => arg 2; whnf
  have HC : Hid _ := hcall
  have H : Hid _ := hQ
  clear hQ
  clear hcall
  go_wp2_with (go_at_call 18; refine Calls.mono HC.out ?_; rintro e w' ⟨y, rfl, hG⟩)
  exact H.out _ _ _ hG ⟨rfl, rfl⟩ ⟨rfl, rfl, rfl, rfl, rfl, rfl, rfl, trivial⟩

set_option maxRecDepth 10000 in
set_option maxHeartbeats 1000000 in
theorem l7_8 (kap st n : Int) (xp : Option Addr) (K kc : Nat) (xc : Option Addr) (C cc : Nat) (xr : Option Addr) (R rc : Nat) (xi : Option Addr) (I ic : Nat) (G : Option Addr → World → Prop) (a : Act) (w : World) (Q : Exit → Act → World → Prop) (hfr : Fr 282 a) (hs : Slots [(0, .int .i64 kap), (1, .int .u32 st), (2, .int .i64 n), (3, .slice xp K kc), (4, .slice xc C cc), (5, .slice xr R rc), (6, .slice xi I ic)] a)
    (hcall : Calls Try.prog 12 #[.slice xi I ic] w fun e w' => ∃ y, e = .returned (.slice y I I) ∧ G y w')
    (hQ : ∀ a' y w', G y w' → Fr 282 a' → Slots [(0, .int .i64 kap), (1, .int .u32 st), (2, .int .i64 n), (3, .slice xp K kc), (4, .slice xc C cc), (5, .slice xr R rc), (6, .slice y I I)] a' → Q .normal a' w') :
    Code.wp Try.prog (nthC 8 (bodyC Try.f7)) Q a w := by
  obtain ⟨u, hu, rfl⟩ := lay282 hfr
  obtain ⟨s0, s1, s2, s3, s4, s5, s6, -⟩ := hs
  replace s0 : u 0 = .int .i64 kap := (hu 0).symm.trans s0
  replace s1 : u 1 = .int .u32 st := (hu 1).symm.trans s1
  replace s2 : u 2 = .int .i64 n := (hu 2).symm.trans s2
  replace s3 : u 3 = .slice xp K kc := (hu 3).symm.trans s3
  replace s4 : u 4 = .slice xc C cc := (hu 4).symm.trans s4
  replace s5 : u 5 = .slice xr R rc := (hu 5).symm.trans s5
  replace s6 : u 6 = .slice xi I ic := (hu 6).symm.trans s6
  rw [s0, s1, s2, s3, s4, s5, s6]
  clear hfr hu s0 s1 s2 s3 s4 s5 s6
  conv => arg 2; whnf
  have HC : Hid _ := hcall
  have H : Hid _ := hQ
  clear hQ
  clear hcall
  go_wp2_with (go_at_call 12; refine Calls.mono HC.out ?_; rintro e w' ⟨y, rfl, hG⟩)
  exact H.out _ _ _ hG ⟨rfl, rfl⟩ ⟨rfl, rfl, rfl, rfl, rfl, rfl, rfl, trivial⟩

end Go.Proofs.Qxb6602526a
