import Derived.Test.Qxb6602526aE4
import Derived.Test.Qxb6602526aZz
import Derived.Test.Qxb6602526aCopy2
namespace Go.Proofs.Qxb6602526a
open Go.RowKit
set_option linter.unusedSimpArgs false
set_option linter.unusedVariables false

set_option maxRecDepth 10000 in
set_option maxHeartbeats 1000000 in
theorem l6_0 (kap st n : Int) (xp : Option Addr) (K kc : Nat) (xc : Option Addr) (C cc : Nat) (xr : Option Addr) (R rc : Nat) (xi : Option Addr) (I ic : Nat) (a : Act) (w : World) (Q : Exit → Act → World → Prop) (hfr : Fr 202 a) (hs : Slots [(0, .int .i64 kap), (1, .int .u32 st), (2, .int .i64 n), (3, .slice xp K kc), (4, .slice xc C cc), (5, .slice xr R rc), (6, .slice xi I ic)] a)
    (hQ : ∀ a', Fr 202 a' → Slots [(0, .int .i64 kap), (1, .int .u32 st), (2, .int .i64 n), (3, .slice xp K kc), (4, .slice xc C cc), (5, .slice xr R rc), (6, .slice xi I ic)] a' → Q .normal a' w) :
    Code.wp Try.prog (nthC 0 (bodyC Try.f6)) Q a w := by
  obtain ⟨u, hu, rfl⟩ := lay202 hfr
  obtain ⟨s0, s1, s2, s3, s4, s5, s6, -⟩ := hs
  replace s0 : u 0 = .int .i64 kap := (hu 0).symm.trans s0
  replace s1 : u 1 = .int .u32 st := (hu 1).symm.trans s1
  replace s2 : u 2 = .int .i64 n := (hu 2).symm.trans s2
  replace s3 : u 3 = .slice xp K kc := (hu 3).symm.trans s3
  replace s4 : u 4 = .slice xc C cc := (hu 4).symm.trans s4
  replace s5 : u 5 = .slice xr R rc := (hu 5).symm.trans s5
  replace s6 : u 6 = .slice xi I ic := (hu 6).symm.trans s6
  rw [s0, s1, s2, s3, s4, s5, s6]
  clear hfr hu s0 s1 s2 s3 s4 s5 s6
  conv => arg 2; whnf
  have H : Hid _ := hQ
  clear hQ
  go_wp2
  exact H.out _ ⟨rfl, rfl⟩ ⟨rfl, rfl, rfl, rfl, rfl, rfl, rfl, trivial⟩

set_option maxRecDepth 10000 in
set_option maxHeartbeats 1000000 in
theorem l6_1 (kap st n : Int) (xp : Option Addr) (K kc : Nat) (xc : Option Addr) (C cc : Nat) (xr : Option Addr) (R rc : Nat) (xi : Option Addr) (I ic : Nat) (a : Act) (w : World) (Q : Exit → Act → World → Prop) (hfr : Fr 202 a) (hs : Slots [(0, .int .i64 kap), (1, .int .u32 st), (2, .int .i64 n), (3, .slice xp K kc), (4, .slice xc C cc), (5, .slice xr R rc), (6, .slice xi I ic)] a)
    (l0 : K ≤ 9223372036854775807) (l1 : C ≤ 9223372036854775807) (l2 : R ≤ 9223372036854775807) (l3 : I ≤ 9223372036854775807)
    (hQ : ∀ a', K + C + R + I ≤ 1048576 → Fr 202 a' → Slots [(0, .int .i64 kap), (1, .int .u32 st), (2, .int .i64 n), (3, .slice xp K kc), (4, .slice xc C cc), (5, .slice xr R rc), (6, .slice xi I ic)] a' → Q .normal a' w)
    (hret : ∀ a' w', Fr 202 a' → sl a' 14 = .bool true → Kept [] w w' → Q .ret a' w') :
    Code.wp Try.prog (nthC 1 (bodyC Try.f6)) Q a w := by
  obtain ⟨u, hu, rfl⟩ := lay202 hfr
  obtain ⟨s0, s1, s2, s3, s4, s5, s6, -⟩ := hs
  replace s0 : u 0 = .int .i64 kap := (hu 0).symm.trans s0
  replace s1 : u 1 = .int .u32 st := (hu 1).symm.trans s1
  replace s2 : u 2 = .int .i64 n := (hu 2).symm.trans s2
  replace s3 : u 3 = .slice xp K kc := (hu 3).symm.trans s3
  replace s4 : u 4 = .slice xc C cc := (hu 4).symm.trans s4
  replace s5 : u 5 = .slice xr R rc := (hu 5).symm.trans s5
  replace s6 : u 6 = .slice xi I ic := (hu 6).symm.trans s6
  rw [s0, s1, s2, s3, s4, s5, s6]
  clear hfr hu s0 s1 s2 s3 s4 s5 s6
  conv => arg 2; whnf
  have H : Hid _ := hQ
  have HR : Hid _ := hret
  clear hQ hret
  by_cases h : K + C + R + I ≤ 1048576
  · have HH : Hid _ := h
    clear h
    go_wp2_with (go_at_call 24; refine (zz24_yes _ _ _ _ _ _ _ _ _ _ _ _ _ _ _ _ HH.out).mono ?_; rintro e w' ⟨rfl, rfl⟩)
    exact H.out _ HH.out ⟨rfl, rfl⟩ ⟨rfl, rfl, rfl, rfl, rfl, rfl, rfl, trivial⟩
  · have HH : Hid _ := h
    clear h
    go_wp2_with (go_at_call 24; refine (zz24_no _ _ _ _ _ _ _ _ _ _ _ _ _ _ _ _ HH.out l0 l1 l2 l3).mono ?_; rintro e w' ⟨rfl, rfl⟩)
    exact HR.out _ _ ⟨rfl, rfl⟩ rfl (Kept.refl _ _)

set_option maxRecDepth 10000 in
set_option maxHeartbeats 1000000 in
theorem l6_2 (kap st n : Int) (xp : Option Addr) (K kc : Nat) (xc : Option Addr) (C cc : Nat) (xr : Option Addr) (R rc : Nat) (xi : Option Addr) (I ic : Nat) (a : Act) (w : World) (Q : Exit → Act → World → Prop) (hfr : Fr 202 a) (hs : Slots [(0, .int .i64 kap), (1, .int .u32 st), (2, .int .i64 n), (3, .slice xp K kc), (4, .slice xc C cc), (5, .slice xr R rc), (6, .slice xi I ic)] a)
    (l0 : (K : Int) ≤ 1048576) (l1 : (C : Int) ≤ 1048576) (l2 : (R : Int) ≤ 1048576) (l3 : (I : Int) ≤ 1048576)
    (hQ : ∀ a', K ≤ 65536 → C ≤ 65536 → I ≤ 262144 → Fr 202 a' → Slots [(0, .int .i64 kap), (1, .int .u32 st), (2, .int .i64 n), (3, .slice xp K kc), (4, .slice xc C cc), (5, .slice xr R rc), (6, .slice xi I ic)] a' → Q .normal a' w)
    (hret : ∀ a' w', Fr 202 a' → sl a' 14 = .bool true → Kept [] w w' → Q .ret a' w') :
    Code.wp Try.prog (nthC 2 (bodyC Try.f6)) Q a w := by
  obtain ⟨u, hu, rfl⟩ := lay202 hfr
  obtain ⟨s0, s1, s2, s3, s4, s5, s6, -⟩ := hs
  replace s0 : u 0 = .int .i64 kap := (hu 0).symm.trans s0
  replace s1 : u 1 = .int .u32 st := (hu 1).symm.trans s1
  replace s2 : u 2 = .int .i64 n := (hu 2).symm.trans s2
  replace s3 : u 3 = .slice xp K kc := (hu 3).symm.trans s3
  replace s4 : u 4 = .slice xc C cc := (hu 4).symm.trans s4
  replace s5 : u 5 = .slice xr R rc := (hu 5).symm.trans s5
  replace s6 : u 6 = .slice xi I ic := (hu 6).symm.trans s6
  rw [s0, s1, s2, s3, s4, s5, s6]
  clear hfr hu s0 s1 s2 s3 s4 s5 s6
  conv => arg 2; whnf
  have H : Hid _ := hQ
  have HR : Hid _ := hret
  clear hQ hret
  by_cases hK : (65536 : Int) < K
  · go_wp2
    exact HR.out _ _ ⟨rfl, rfl⟩ rfl (Kept.refl _ _)
  by_cases hC : (65536 : Int) < C
  · go_wp2
    exact HR.out _ _ ⟨rfl, rfl⟩ rfl (Kept.refl _ _)
  by_cases hR : (1048576 : Int) < R
  · go_wp2
    exact HR.out _ _ ⟨rfl, rfl⟩ rfl (Kept.refl _ _)
  by_cases hI : (262144 : Int) < I
  · go_wp2
    exact HR.out _ _ ⟨rfl, rfl⟩ rfl (Kept.refl _ _)
  go_wp2
  exact H.out _ (by omega) (by omega) (by omega) ⟨rfl, rfl⟩ ⟨rfl, rfl, rfl, rfl, rfl, rfl, rfl, trivial⟩

set_option maxRecDepth 10000 in
set_option maxHeartbeats 1000000 in
theorem l6_3 (kap st n : Int) (xp : Option Addr) (K kc : Nat) (xc : Option Addr) (C cc : Nat) (xr : Option Addr) (R rc : Nat) (xi : Option Addr) (I ic : Nat) (a : Act) (w : World) (Q : Exit → Act → World → Prop) (hfr : Fr 202 a) (hs : Slots [(0, .int .i64 kap), (1, .int .u32 st), (2, .int .i64 n), (3, .slice xp K kc), (4, .slice xc C cc), (5, .slice xr R rc), (6, .slice xi I ic)] a)
    (l0 : (K : Int) ≤ 65536) (l1 : (C : Int) ≤ 65536) (l2 : (R : Int) ≤ 1048576) (l3 : (I : Int) ≤ 262144)
    (hQ : ∀ a', Fr 202 a' → Slots [(0, .int .i64 kap), (1, .int .u32 st), (2, .int .i64 n), (3, .slice xp K kc), (4, .slice xc C cc), (5, .slice xr R rc), (6, .slice xi I ic)] a' → Q .normal a' w)
    (hret : ∀ a' w', Fr 202 a' → sl a' 14 = .bool true → Kept [] w w' → Q .ret a' w') :
    Code.wp Try.prog (nthC 3 (bodyC Try.f6)) Q a w := by
  obtain ⟨u, hu, rfl⟩ := lay202 hfr
  obtain ⟨s0, s1, s2, s3, s4, s5, s6, -⟩ := hs
  replace s0 : u 0 = .int .i64 kap := (hu 0).symm.trans s0
  replace s1 : u 1 = .int .u32 st := (hu 1).symm.trans s1
  replace s2 : u 2 = .int .i64 n := (hu 2).symm.trans s2
  replace s3 : u 3 = .slice xp K kc := (hu 3).symm.trans s3
  replace s4 : u 4 = .slice xc C cc := (hu 4).symm.trans s4
  replace s5 : u 5 = .slice xr R rc := (hu 5).symm.trans s5
  replace s6 : u 6 = .slice xi I ic := (hu 6).symm.trans s6
  rw [s0, s1, s2, s3, s4, s5, s6]
  clear hfr hu s0 s1 s2 s3 s4 s5 s6
  conv => arg 2; whnf
  have H : Hid _ := hQ
  have HR : Hid _ := hret
  clear hQ hret
  by_cases h : (1048576 : Int) < 8 * K + 8 * C + R + 4 * I
  · go_wp2
    exact HR.out _ _ ⟨rfl, rfl⟩ rfl (Kept.refl _ _)
  · go_wp2
    exact H.out _ ⟨rfl, rfl⟩ ⟨rfl, rfl, rfl, rfl, rfl, rfl, rfl, trivial⟩

set_option maxRecDepth 10000 in
set_option maxHeartbeats 1000000 in
theorem l6_4 (kap st n : Int) (xp : Option Addr) (K kc : Nat) (xc : Option Addr) (C cc : Nat) (xr : Option Addr) (R rc : Nat) (xi : Option Addr) (I ic : Nat) (a : Act) (w : World) (Q : Exit → Act → World → Prop) (hfr : Fr 202 a) (hs : Slots [(0, .int .i64 kap), (1, .int .u32 st), (2, .int .i64 n), (3, .slice xp K kc), (4, .slice xc C cc), (5, .slice xr R rc), (6, .slice xi I ic)] a)
    (l0 : (K : Int) ≤ 1048576) (l1 : (C : Int) ≤ 1048576) (l2 : (R : Int) ≤ 1048576) (l3 : (I : Int) ≤ 1048576)
    (hQ : ∀ a', ShapeX st n K C R I → Fr 202 a' → Slots [(0, .int .i64 kap), (1, .int .u32 st), (2, .int .i64 n), (3, .slice xp K kc), (4, .slice xc C cc), (5, .slice xr R rc), (6, .slice xi I ic)] a' → Q .normal a' w)
    (hret : ∀ a' w', Fr 202 a' → sl a' 14 = .bool true → Kept [] w w' → Q .ret a' w') :
    Code.wp Try.prog (nthC 4 (bodyC Try.f6)) Q a w := by
  obtain ⟨u, hu, rfl⟩ := lay202 hfr
  obtain ⟨s0, s1, s2, s3, s4, s5, s6, -⟩ := hs
  replace s0 : u 0 = .int .i64 kap := (hu 0).symm.trans s0
  replace s1 : u 1 = .int .u32 st := (hu 1).symm.trans s1
  replace s2 : u 2 = .int .i64 n := (hu 2).symm.trans s2
  replace s3 : u 3 = .slice xp K kc := (hu 3).symm.trans s3
  replace s4 : u 4 = .slice xc C cc := (hu 4).symm.trans s4
  replace s5 : u 5 = .slice xr R rc := (hu 5).symm.trans s5
  replace s6 : u 6 = .slice xi I ic := (hu 6).symm.trans s6
  rw [s0, s1, s2, s3, s4, s5, s6]
  clear hfr hu s0 s1 s2 s3 s4 s5 s6
  conv => arg 2; whnf
  have H : Hid _ := hQ
  have HR : Hid _ := hret
  clear hQ hret
  have HC : Hid _ := shape25 st n K C R I xp xc xr xi kc cc rc ic w l0 l1 l2 l3
  go_wp2_with (go_at_call 25; refine Calls.mono HC.out ?_; rintro e w' ⟨ok, rfl, rfl, hok⟩)
  · exact HR.out _ _ ⟨rfl, rfl⟩ rfl (Kept.refl _ _)
  · rename_i hb
    exact H.out _ (hok (by simpa using hb)) ⟨rfl, rfl⟩ ⟨rfl, rfl, rfl, rfl, rfl, rfl, rfl, trivial⟩

set_option maxRecDepth 10000 in
set_option maxHeartbeats 1000000 in
theorem l6_5 (kap st n : Int) (xp : Option Addr) (K kc : Nat) (xc : Option Addr) (C cc : Nat) (xr : Option Addr) (R rc : Nat) (xi : Option Addr) (I ic : Nat) (G : Option Addr → World → Prop) (a : Act) (w : World) (Q : Exit → Act → World → Prop) (hfr : Fr 202 a) (hs : Slots [(0, .int .i64 kap), (1, .int .u32 st), (2, .int .i64 n), (3, .slice xp K kc), (4, .slice xc C cc), (5, .slice xr R rc), (6, .slice xi I ic)] a)
    (hcall : Calls Try.prog 10 #[.slice xp K kc] w fun e w' => ∃ y, e = .returned (.slice y K K) ∧ G y w')
    (hQ : ∀ a' y w', G y w' → Fr 202 a' → Slots [(0, .int .i64 kap), (1, .int .u32 st), (2, .int .i64 n), (3, .slice y K K), (4, .slice xc C cc), (5, .slice xr R rc), (6, .slice xi I ic)] a' → Q .normal a' w') :
    Code.wp Try.prog (nthC 5 (bodyC Try.f6)) Q a w := by
  obtain ⟨u, hu, rfl⟩ := lay202 hfr
  obtain ⟨s0, s1, s2, s3, s4, s5, s6, -⟩ := hs
  replace s0 : u 0 = .int .i64 kap := (hu 0).symm.trans s0
  replace s1 : u 1 = .int .u32 st := (hu 1).symm.trans s1
  replace s2 : u 2 = .int .i64 n := (hu 2).symm.trans s2
  replace s3 : u 3 = .slice xp K kc := (hu 3).symm.trans s3
  replace s4 : u 4 = .slice xc C cc := (hu 4).symm.trans s4
  replace s5 : u 5 = .slice xr R rc := (hu 5).symm.trans s5
  replace s6 : u 6 = .slice xi I ic := (hu 6).symm.trans s6
  rw [s0, s1, s2, s3, s4, s5, s6]
  clear hfr hu s0 s1 s2 s3 s4 s5 s6
  conv => arg 2; whnf
  have HC : Hid _ := hcall
  have H : Hid _ := hQ
  clear hQ
  clear hcall
  go_wp2_with (go_at_call 10; refine Calls.mono HC.out ?_; rintro e w' ⟨y, rfl, hG⟩)
  exact H.out _ _ _ hG ⟨rfl, rfl⟩ ⟨rfl, rfl, rfl, rfl, rfl, rfl, rfl, trivial⟩

set_option maxRecDepth 10000 in
set_option maxHeartbeats 1000000 in
theorem l6_6 (kap st n : Int) (xp : Option Addr) (K kc : Nat) (xc : Option Addr) (C cc : Nat) (xr : Option Addr) (R rc : Nat) (xi : Option Addr) (I ic : Nat) (G : Option Addr → World → Prop) (a : Act) (w : World) (Q : Exit → Act → World → Prop) (hfr : Fr 202 a) (hs : Slots [(0, .int .i64 kap), (1, .int .u32 st), (2, .int .i64 n), (3, .slice xp K kc), (4, .slice xc C cc), (5, .slice xr R rc), (6, .slice xi I ic)] a)
    (hcall : Calls Try.prog 17 #[.slice xc C cc] w fun e w' => ∃ y, e = .returned (.slice y C C) ∧ G y w')
    (hQ : ∀ a' y w', G y w' → Fr 202 a' → Slots [(0, .int .i64 kap), (1, .int .u32 st), (2, .int .i64 n), (3, .slice xp K kc), (4, .slice y C C), (5, .slice xr R rc), (6, .slice xi I ic)] a' → Q .normal a' w') :
    Code.wp Try.prog (nthC 6 (bodyC Try.f6)) Q a w := by
  obtain ⟨u, hu, rfl⟩ := lay202 hfr
  obtain ⟨s0, s1, s2, s3, s4, s5, s6, -⟩ := hs
  replace s0 : u 0 = .int .i64 kap := (hu 0).symm.trans s0
  replace s1 : u 1 = .int .u32 st := (hu 1).symm.trans s1
  replace s2 : u 2 = .int .i64 n := (hu 2).symm.trans s2
  replace s3 : u 3 = .slice xp K kc := (hu 3).symm.trans s3
  replace s4 : u 4 = .slice xc C cc := (hu 4).symm.trans s4
  replace s5 : u 5 = .slice xr R rc := (hu 5).symm.trans s5
  replace s6 : u 6 = .slice xi I ic := (hu 6).symm.trans s6
  rw [s0, s1, s2, s3, s4, s5, s6]
  clear hfr hu s0 s1 s2 s3 s4 s5 s6
  conv => arg 2; whnf
  have HC : Hid _ := hcall
  have H : Hid _ := hQ
  clear hQ
  clear hcall
  go_wp2_with (go_at_call 17; refine Calls.mono HC.out ?_; rintro e w' ⟨y, rfl, hG⟩)
  exact H.out _ _ _ hG ⟨rfl, rfl⟩ ⟨rfl, rfl, rfl, rfl, rfl, rfl, rfl, trivial⟩

set_option maxRecDepth 10000 in
set_option maxHeartbeats 1000000 in
theorem l6_7 (kap st n : Int) (xp : Option Addr) (K kc : Nat) (xc : Option Addr) (C cc : Nat) (xr : Option Addr) (R rc : Nat) (xi : Option Addr) (I ic : Nat) (G : Option Addr → World → Prop) (a : Act) (w : World) (Q : Exit → Act → World → Prop) (hfr : Fr 202 a) (hs : Slots [(0, .int .i64 kap), (1, .int .u32 st), (2, .int .i64 n), (3, .slice xp K kc), (4, .slice xc C cc), (5, .slice xr R rc), (6, .slice xi I ic)] a)
    (hcall : Calls Try.prog 18 #[.slice xr R rc] w fun e w' => ∃ y, e = .returned (.slice y R R) ∧ G y w')
    (hQ : ∀ a' y w', G y w' → Fr 202 a' → Slots [(0, .int .i64 kap), (1, .int .u32 st), (2, .int .i64 n), (3, .slice xp K kc), (4, .slice xc C cc), (5, .slice y R R), (6, .slice xi I ic)] a' → Q .normal a' w') :
    Code.wp Try.prog (nthC 7 (bodyC Try.f6)) Q a w := by
  obtain ⟨u, hu, rfl⟩ := lay202 hfr
  obtain ⟨s0, s1, s2, s3, s4, s5, s6, -⟩ := hs
  replace s0 : u 0 = .int .i64 kap := (hu 0).symm.trans s0
  replace s1 : u 1 = .int .u32 st := (hu 1).symm.trans s1
  replace s2 : u 2 = .int .i64 n := (hu 2).symm.trans s2
  replace s3 : u 3 = .slice xp K kc := (hu 3).symm.trans s3
  replace s4 : u 4 = .slice xc C cc := (hu 4).symm.trans s4
  replace s5 : u 5 = .slice xr R rc := (hu 5).symm.trans s5
  replace s6 : u 6 = .slice xi I ic := (hu 6).symm.trans s6
  rw [s0, s1, s2, s3, s4, s5, s6]
  clear hfr hu s0 s1 s2 s3 s4 s5 s6
  conv => arg 2; whnf
  have HC : Hid _ := hcall
  have H : Hid _ := hQ
  clear hQ
  clear hcall
  go_wp2_with (go_at_call 18; refine Calls.mono HC.out ?_; rintro e w' ⟨y, rfl, hG⟩)
  exact H.out _ _ _ hG ⟨rfl, rfl⟩ ⟨rfl, rfl, rfl, rfl, rfl, rfl, rfl, trivial⟩

set_option maxRecDepth 10000 in
set_option maxHeartbeats 1000000 in
theorem l6_8 (kap st n : Int) (xp : Option Addr) (K kc : Nat) (xc : Option Addr) (C cc : Nat) (xr : Option Addr) (R rc : Nat) (xi : Option Addr) (I ic : Nat) (G : Option Addr → World → Prop) (a : Act) (w : World) (Q : Exit → Act → World → Prop) (hfr : Fr 202 a) (hs : Slots [(0, .int .i64 kap), (1, .int .u32 st), (2, .int .i64 n), (3, .slice xp K kc), (4, .slice xc C cc), (5, .slice xr R rc), (6, .slice xi I ic)] a)
    (hcall : Calls Try.prog 12 #[.slice xi I ic] w fun e w' => ∃ y, e = .returned (.slice y I I) ∧ G y w')
    (hQ : ∀ a' y w', G y w' → Fr 202 a' → Slots [(0, .int .i64 kap), (1, .int .u32 st), (2, .int .i64 n), (3, .slice xp K kc), (4, .slice xc C cc), (5, .slice xr R rc), (6, .slice y I I)] a' → Q .normal a' w') :
    Code.wp Try.prog (nthC 8 (bodyC Try.f6)) Q a w := by
  obtain ⟨u, hu, rfl⟩ := lay202 hfr
  obtain ⟨s0, s1, s2, s3, s4, s5, s6, -⟩ := hs
  replace s0 : u 0 = .int .i64 kap := (hu 0).symm.trans s0
  replace s1 : u 1 = .int .u32 st := (hu 1).symm.trans s1
  replace s2 : u 2 = .int .i64 n := (hu 2).symm.trans s2
  replace s3 : u 3 = .slice xp K kc := (hu 3).symm.trans s3
  replace s4 : u 4 = .slice xc C cc := (hu 4).symm.trans s4
  replace s5 : u 5 = .slice xr R rc := (hu 5).symm.trans s5
  replace s6 : u 6 = .slice xi I ic := (hu 6).symm.trans s6
  rw [s0, s1, s2, s3, s4, s5, s6]
  clear hfr hu s0 s1 s2 s3 s4 s5 s6
  conv => arg 2; whnf
  have HC : Hid _ := hcall
  have H : Hid _ := hQ
  clear hQ
  clear hcall
  go_wp2_with (go_at_call 12; refine Calls.mono HC.out ?_; rintro e w' ⟨y, rfl, hG⟩)
  exact H.out _ _ _ hG ⟨rfl, rfl⟩ ⟨rfl, rfl, rfl, rfl, rfl, rfl, rfl, trivial⟩

set_option maxRecDepth 10000 in
set_option maxHeartbeats 1000000 in
theorem l6_9 (kap st : Int) (m K I : Nat) (xp xc xr xi : Option Addr) (a : Act) (w : World) (Q : Exit → Act → World → Prop) (hfr : Fr 202 a) (hs : Slots [(0, .int .i64 kap), (1, .int .u32 st), (2, .int .i64 (m : Nat)), (3, .slice xp K K), (4, .slice xc K K), (5, .slice xr I I), (6, .slice xi I I)] a)
    (hQ : ∀ a', Fr 202 a' → Slots [(0, .int .i64 kap), (1, .int .u32 st), (2, .int .i64 (m : Nat)), (3, .slice xp K K), (4, .slice xc K K), (5, .slice xr I I), (6, .slice xi I I), (15, .pointer (some ⟨w.heap.size, 0, none⟩))] a' → Q .normal a' (w.alloc (.cells (IW.new kap st).arr 93))) :
    Code.wp Try.prog (nthC 9 (bodyC Try.f6)) Q a w := by
  obtain ⟨u, hu, rfl⟩ := lay202 hfr
  obtain ⟨s0, s1, s2, s3, s4, s5, s6, -⟩ := hs
  replace s0 : u 0 = .int .i64 kap := (hu 0).symm.trans s0
  replace s1 : u 1 = .int .u32 st := (hu 1).symm.trans s1
  replace s2 : u 2 = .int .i64 (m : Nat) := (hu 2).symm.trans s2
  replace s3 : u 3 = .slice xp K K := (hu 3).symm.trans s3
  replace s4 : u 4 = .slice xc K K := (hu 4).symm.trans s4
  replace s5 : u 5 = .slice xr I I := (hu 5).symm.trans s5
  replace s6 : u 6 = .slice xi I I := (hu 6).symm.trans s6
  rw [s0, s1, s2, s3, s4, s5, s6]
  clear hfr hu s0 s1 s2 s3 s4 s5 s6
  conv => arg 2; whnf
  have H : Hid _ := hQ
  clear hQ
  go_wp2_with (go_at_call 26; refine (new26 _ _ _).mono ?_; rintro e w' ⟨rfl, rfl⟩)
  exact H.out _ ⟨rfl, rfl⟩ ⟨rfl, rfl, rfl, rfl, rfl, rfl, rfl, rfl, trivial⟩

set_option maxRecDepth 10000 in
set_option maxHeartbeats 1000000 in
theorem l6_10i (kap st : Int) (m K I : Nat) (xp xc xr xi : Option Addr) (b1 : Nat) (a : Act) (w : World) (Q : Exit → Act → World → Prop) (hfr : Fr 202 a) (hs : Slots [(0, .int .i64 kap), (1, .int .u32 st), (2, .int .i64 (m : Nat)), (3, .slice xp K K), (4, .slice xc K K), (5, .slice xr I I), (6, .slice xi I I), (15, .pointer (some ⟨b1, 0, none⟩))] a)
    (hQ : ∀ a', Fr 202 a' → Slots [(0, .int .i64 kap), (1, .int .u32 st), (2, .int .i64 (m : Nat)), (3, .slice xp K K), (4, .slice xc K K), (5, .slice xr I I), (6, .slice xi I I), (15, .pointer (some ⟨b1, 0, none⟩)), (16, .int .i64 (0 : Nat))] a' → Q .normal a' w) :
    Code.wp Try.prog (hdC (nthC 10 (bodyC Try.f6))) Q a w := by
  obtain ⟨u, hu, rfl⟩ := lay202 hfr
  obtain ⟨s0, s1, s2, s3, s4, s5, s6, s15, -⟩ := hs
  replace s0 : u 0 = .int .i64 kap := (hu 0).symm.trans s0
  replace s1 : u 1 = .int .u32 st := (hu 1).symm.trans s1
  replace s2 : u 2 = .int .i64 (m : Nat) := (hu 2).symm.trans s2
  replace s3 : u 3 = .slice xp K K := (hu 3).symm.trans s3
  replace s4 : u 4 = .slice xc K K := (hu 4).symm.trans s4
  replace s5 : u 5 = .slice xr I I := (hu 5).symm.trans s5
  replace s6 : u 6 = .slice xi I I := (hu 6).symm.trans s6
  replace s15 : u 15 = .pointer (some ⟨b1, 0, none⟩) := (hu 15).symm.trans s15
  rw [s0, s1, s2, s3, s4, s5, s6, s15]
  clear hfr hu s0 s1 s2 s3 s4 s5 s6 s15
  conv => arg 2; whnf
  have H : Hid _ := hQ
  clear hQ
  go_wp2
  exact H.out _ ⟨rfl, rfl⟩ ⟨rfl, rfl, rfl, rfl, rfl, rfl, rfl, rfl, rfl, trivial⟩

set_option maxRecDepth 10000 in
set_option maxHeartbeats 1000000 in
theorem l6_10h (kap st : Int) (m K I : Nat) (xp xc xr xi : Option Addr) (b1 : Nat) (k : Nat) (a : Act) (w : World) (Q : Exit → Act → World → Prop) (hfr : Fr 202 a) (hs : Slots [(0, .int .i64 kap), (1, .int .u32 st), (2, .int .i64 (m : Nat)), (3, .slice xp K K), (4, .slice xc K K), (5, .slice xr I I), (6, .slice xi I I), (15, .pointer (some ⟨b1, 0, none⟩)), (16, .int .i64 (k : Nat))] a)
    (hk : k ≤ K) (lK : (K : Int) ≤ 65536) (hQ : ∀ a', k < K → Fr 202 a' → Slots [(0, .int .i64 kap), (1, .int .u32 st), (2, .int .i64 (m : Nat)), (3, .slice xp K K), (4, .slice xc K K), (5, .slice xr I I), (6, .slice xi I I), (15, .pointer (some ⟨b1, 0, none⟩)), (16, .int .i64 (k : Nat))] a' → Q .normal a' w) (hexit : ∀ a', k = K → Fr 202 a' → Slots [(0, .int .i64 kap), (1, .int .u32 st), (2, .int .i64 (m : Nat)), (3, .slice xp K K), (4, .slice xc K K), (5, .slice xr I I), (6, .slice xi I I), (15, .pointer (some ⟨b1, 0, none⟩))] a' → Q (.exit 0) a' w) :
    Code.wp Try.prog (hdC (inC (inC (tlC (nthC 10 (bodyC Try.f6)))))) Q a w := by
  obtain ⟨u, hu, rfl⟩ := lay202 hfr
  obtain ⟨s0, s1, s2, s3, s4, s5, s6, s15, s16, -⟩ := hs
  replace s0 : u 0 = .int .i64 kap := (hu 0).symm.trans s0
  replace s1 : u 1 = .int .u32 st := (hu 1).symm.trans s1
  replace s2 : u 2 = .int .i64 (m : Nat) := (hu 2).symm.trans s2
  replace s3 : u 3 = .slice xp K K := (hu 3).symm.trans s3
  replace s4 : u 4 = .slice xc K K := (hu 4).symm.trans s4
  replace s5 : u 5 = .slice xr I I := (hu 5).symm.trans s5
  replace s6 : u 6 = .slice xi I I := (hu 6).symm.trans s6
  replace s15 : u 15 = .pointer (some ⟨b1, 0, none⟩) := (hu 15).symm.trans s15
  replace s16 : u 16 = .int .i64 (k : Nat) := (hu 16).symm.trans s16
  rw [s0, s1, s2, s3, s4, s5, s6, s15, s16]
  clear hfr hu s0 s1 s2 s3 s4 s5 s6 s15 s16
  conv => arg 2; whnf
  have H : Hid _ := hQ
  have HX : Hid _ := hexit
  clear hQ hexit
  by_cases hlt : k < K
  · have l : (k : Int) < K := by omega
    go_wp2
    exact H.out _ hlt ⟨rfl, rfl⟩ ⟨rfl, rfl, rfl, rfl, rfl, rfl, rfl, rfl, rfl, trivial⟩
  · have l : ¬ ((k : Int) < K) := by omega
    go_wp2
    exact HX.out _ (by omega) ⟨rfl, rfl⟩ ⟨rfl, rfl, rfl, rfl, rfl, rfl, rfl, rfl, trivial⟩

set_option maxRecDepth 10000 in
set_option maxHeartbeats 1000000 in
theorem l6_10n (kap st : Int) (m K I : Nat) (xp xc xr xi : Option Addr) (b1 : Nat) (k : Nat) (a : Act) (w : World) (Q : Exit → Act → World → Prop) (hfr : Fr 202 a) (hs : Slots [(0, .int .i64 kap), (1, .int .u32 st), (2, .int .i64 (m : Nat)), (3, .slice xp K K), (4, .slice xc K K), (5, .slice xr I I), (6, .slice xi I I), (15, .pointer (some ⟨b1, 0, none⟩)), (16, .int .i64 (k : Nat))] a)
    (hk : (k : Int) ≤ 65536) (hQ : ∀ a', Fr 202 a' → Slots [(0, .int .i64 kap), (1, .int .u32 st), (2, .int .i64 (m : Nat)), (3, .slice xp K K), (4, .slice xc K K), (5, .slice xr I I), (6, .slice xi I I), (15, .pointer (some ⟨b1, 0, none⟩)), (16, .int .i64 (k + 1 : Nat))] a' → Q .normal a' w) :
    Code.wp Try.prog (tlC (tlC (inC (inC (tlC (nthC 10 (bodyC Try.f6))))))) Q a w := by
  obtain ⟨u, hu, rfl⟩ := lay202 hfr
  obtain ⟨s0, s1, s2, s3, s4, s5, s6, s15, s16, -⟩ := hs
  replace s0 : u 0 = .int .i64 kap := (hu 0).symm.trans s0
  replace s1 : u 1 = .int .u32 st := (hu 1).symm.trans s1
  replace s2 : u 2 = .int .i64 (m : Nat) := (hu 2).symm.trans s2
  replace s3 : u 3 = .slice xp K K := (hu 3).symm.trans s3
  replace s4 : u 4 = .slice xc K K := (hu 4).symm.trans s4
  replace s5 : u 5 = .slice xr I I := (hu 5).symm.trans s5
  replace s6 : u 6 = .slice xi I I := (hu 6).symm.trans s6
  replace s15 : u 15 = .pointer (some ⟨b1, 0, none⟩) := (hu 15).symm.trans s15
  replace s16 : u 16 = .int .i64 (k : Nat) := (hu 16).symm.trans s16
  rw [s0, s1, s2, s3, s4, s5, s6, s15, s16]
  clear hfr hu s0 s1 s2 s3 s4 s5 s6 s15 s16
  conv => arg 2; whnf
  have H : Hid _ := hQ
  clear hQ
  go_wp2
  exact H.out _ ⟨rfl, rfl⟩ ⟨rfl, rfl, rfl, rfl, rfl, rfl, rfl, rfl, rfl, trivial⟩

set_option maxRecDepth 10000 in
set_option maxHeartbeats 1000000 in
theorem l6_11 (kap st : Int) (m K I : Nat) (xp xc xr xi : Option Addr) (b1 : Nat) (s q y : Bool) (l v : Int) (a : Act) (w : World) (Q : Exit → Act → World → Prop) (hfr : Fr 202 a) (hs : Slots [(0, .int .i64 kap), (1, .int .u32 st), (2, .int .i64 (m : Nat)), (3, .slice xp K K), (4, .slice xc K K), (5, .slice xr I I), (6, .slice xi I I), (15, .pointer (some ⟨b1, 0, none⟩))] a)
    (hcall : Calls Try.prog 28 #[.pointer (some ⟨b1, 0, none⟩)] w fun e w' => e = .returned (.tuple #[.bool s, .bool q, .bool y, .int .u64 l, .int .u64 v]) ∧ ∃ n, w' = w.drewN n) (hQ : ∀ a' n, Fr 202 a' → Slots [(0, .int .i64 kap), (1, .int .u32 st), (2, .int .i64 (m : Nat)), (3, .slice xp K K), (4, .slice xc K K), (5, .slice xr I I), (6, .slice xi I I), (15, .pointer (some ⟨b1, 0, none⟩)), (17, .bool s), (18, .bool q), (19, .bool y), (20, .int .u64 l), (21, .int .u64 v)] a' → Q .normal a' (w.drewN n)) :
    Code.wp Try.prog (nthC 11 (bodyC Try.f6)) Q a w := by
  obtain ⟨u, hu, rfl⟩ := lay202 hfr
  obtain ⟨s0, s1, s2, s3, s4, s5, s6, s15, -⟩ := hs
  replace s0 : u 0 = .int .i64 kap := (hu 0).symm.trans s0
  replace s1 : u 1 = .int .u32 st := (hu 1).symm.trans s1
  replace s2 : u 2 = .int .i64 (m : Nat) := (hu 2).symm.trans s2
  replace s3 : u 3 = .slice xp K K := (hu 3).symm.trans s3
  replace s4 : u 4 = .slice xc K K := (hu 4).symm.trans s4
  replace s5 : u 5 = .slice xr I I := (hu 5).symm.trans s5
  replace s6 : u 6 = .slice xi I I := (hu 6).symm.trans s6
  replace s15 : u 15 = .pointer (some ⟨b1, 0, none⟩) := (hu 15).symm.trans s15
  rw [s0, s1, s2, s3, s4, s5, s6, s15]
  clear hfr hu s0 s1 s2 s3 s4 s5 s6 s15
  conv => arg 2; whnf
  have HC : Hid _ := hcall
  clear hcall
  have H : Hid _ := hQ
  clear hQ
  go_wp2_with (go_at_call 28; refine Calls.mono HC.out ?_; rintro e w' ⟨rfl, nq, rfl⟩)
  exact H.out _ _ ⟨rfl, rfl⟩ ⟨rfl, rfl, rfl, rfl, rfl, rfl, rfl, rfl, rfl, rfl, rfl, rfl, rfl, trivial⟩

set_option maxRecDepth 10000 in
set_option maxHeartbeats 1000000 in
theorem l6_12 (kap st : Int) (m K I : Nat) (xp xc xr xi : Option Addr) (b1 : Nat) (s q y : Bool) (l v : Int) (a : Act) (w : World) (Q : Exit → Act → World → Prop) (hfr : Fr 202 a) (hs : Slots [(0, .int .i64 kap), (1, .int .u32 st), (2, .int .i64 (m : Nat)), (3, .slice xp K K), (4, .slice xc K K), (5, .slice xr I I), (6, .slice xi I I), (15, .pointer (some ⟨b1, 0, none⟩)), (17, .bool s), (18, .bool q), (19, .bool y), (20, .int .u64 l), (21, .int .u64 v)] a)
    (hcall : Calls Try.prog 29 #[.int .i64 kap, .int .u32 st, .int .i64 (m : Nat), .slice xp K K, .slice xc K K, .slice xr I I, .slice xi I I] w fun e w' => e = .returned (.tuple #[.bool s, .bool q, .bool y, .int .u64 l, .int .u64 v]) ∧ w' = w) (hQ : ∀ a', Fr 202 a' → Slots [(0, .int .i64 kap), (1, .int .u32 st), (2, .int .i64 (m : Nat)), (3, .slice xp K K), (4, .slice xc K K), (5, .slice xr I I), (6, .slice xi I I), (15, .pointer (some ⟨b1, 0, none⟩)), (17, .bool s), (18, .bool q), (19, .bool y), (20, .int .u64 l), (21, .int .u64 v), (22, .bool s), (23, .bool q), (24, .bool y), (25, .int .u64 l), (26, .int .u64 v)] a' → Q .normal a' w) :
    Code.wp Try.prog (nthC 12 (bodyC Try.f6)) Q a w := by
  obtain ⟨u, hu, rfl⟩ := lay202 hfr
  obtain ⟨s0, s1, s2, s3, s4, s5, s6, s15, s17, s18, s19, s20, s21, -⟩ := hs
  replace s0 : u 0 = .int .i64 kap := (hu 0).symm.trans s0
  replace s1 : u 1 = .int .u32 st := (hu 1).symm.trans s1
  replace s2 : u 2 = .int .i64 (m : Nat) := (hu 2).symm.trans s2
  replace s3 : u 3 = .slice xp K K := (hu 3).symm.trans s3
  replace s4 : u 4 = .slice xc K K := (hu 4).symm.trans s4
  replace s5 : u 5 = .slice xr I I := (hu 5).symm.trans s5
  replace s6 : u 6 = .slice xi I I := (hu 6).symm.trans s6
  replace s15 : u 15 = .pointer (some ⟨b1, 0, none⟩) := (hu 15).symm.trans s15
  replace s17 : u 17 = .bool s := (hu 17).symm.trans s17
  replace s18 : u 18 = .bool q := (hu 18).symm.trans s18
  replace s19 : u 19 = .bool y := (hu 19).symm.trans s19
  replace s20 : u 20 = .int .u64 l := (hu 20).symm.trans s20
  replace s21 : u 21 = .int .u64 v := (hu 21).symm.trans s21
  rw [s0, s1, s2, s3, s4, s5, s6, s15, s17, s18, s19, s20, s21]
  clear hfr hu s0 s1 s2 s3 s4 s5 s6 s15 s17 s18 s19 s20 s21
  conv => arg 2; whnf
  have HC : Hid _ := hcall
  clear hcall
  have H : Hid _ := hQ
  clear hQ
  go_wp2_with (go_at_call 29; refine Calls.mono HC.out ?_; rintro e w' ⟨rfl, rfl⟩)
  exact H.out _ ⟨rfl, rfl⟩ ⟨rfl, rfl, rfl, rfl, rfl, rfl, rfl, rfl, rfl, rfl, rfl, rfl, rfl, rfl, rfl, rfl, rfl, rfl, trivial⟩

set_option maxRecDepth 10000 in
set_option maxHeartbeats 1000000 in
theorem l6_13 (kap st : Int) (m K I : Nat) (xp xc xr xi : Option Addr) (b1 : Nat) (s q y : Bool) (l v : Int) (a : Act) (w : World) (Q : Exit → Act → World → Prop) (hfr : Fr 202 a) (hs : Slots [(0, .int .i64 kap), (1, .int .u32 st), (2, .int .i64 (m : Nat)), (3, .slice xp K K), (4, .slice xc K K), (5, .slice xr I I), (6, .slice xi I I), (15, .pointer (some ⟨b1, 0, none⟩)), (17, .bool s), (18, .bool q), (19, .bool y), (20, .int .u64 l), (21, .int .u64 v), (22, .bool s), (23, .bool q), (24, .bool y), (25, .int .u64 l), (26, .int .u64 v)] a)
    (hQ : ∀ a', Fr 202 a' → Slots [(0, .int .i64 kap), (1, .int .u32 st), (2, .int .i64 (m : Nat)), (3, .slice xp K K), (4, .slice xc K K), (5, .slice xr I I), (6, .slice xi I I), (15, .pointer (some ⟨b1, 0, none⟩))] a' → Q .normal a' w) :
    Code.wp Try.prog (nthC 13 (bodyC Try.f6)) Q a w := by
  obtain ⟨u, hu, rfl⟩ := lay202 hfr
  obtain ⟨s0, s1, s2, s3, s4, s5, s6, s15, s17, s18, s19, s20, s21, s22, s23, s24, s25, s26, -⟩ := hs
  replace s0 : u 0 = .int .i64 kap := (hu 0).symm.trans s0
  replace s1 : u 1 = .int .u32 st := (hu 1).symm.trans s1
  replace s2 : u 2 = .int .i64 (m : Nat) := (hu 2).symm.trans s2
  replace s3 : u 3 = .slice xp K K := (hu 3).symm.trans s3
  replace s4 : u 4 = .slice xc K K := (hu 4).symm.trans s4
  replace s5 : u 5 = .slice xr I I := (hu 5).symm.trans s5
  replace s6 : u 6 = .slice xi I I := (hu 6).symm.trans s6
  replace s15 : u 15 = .pointer (some ⟨b1, 0, none⟩) := (hu 15).symm.trans s15
  replace s17 : u 17 = .bool s := (hu 17).symm.trans s17
  replace s18 : u 18 = .bool q := (hu 18).symm.trans s18
  replace s19 : u 19 = .bool y := (hu 19).symm.trans s19
  replace s20 : u 20 = .int .u64 l := (hu 20).symm.trans s20
  replace s21 : u 21 = .int .u64 v := (hu 21).symm.trans s21
  replace s22 : u 22 = .bool s := (hu 22).symm.trans s22
  replace s23 : u 23 = .bool q := (hu 23).symm.trans s23
  replace s24 : u 24 = .bool y := (hu 24).symm.trans s24
  replace s25 : u 25 = .int .u64 l := (hu 25).symm.trans s25
  replace s26 : u 26 = .int .u64 v := (hu 26).symm.trans s26
  rw [s0, s1, s2, s3, s4, s5, s6, s15, s17, s18, s19, s20, s21, s22, s23, s24, s25, s26]
  clear hfr hu s0 s1 s2 s3 s4 s5 s6 s15 s17 s18 s19 s20 s21 s22 s23 s24 s25 s26
  conv => arg 2; whnf
  have H : Hid _ := hQ
  clear hQ
  cases s <;> cases q <;> cases y
  all_goals
    go_wp2
    exact H.out _ ⟨rfl, rfl⟩ ⟨rfl, rfl, rfl, rfl, rfl, rfl, rfl, rfl, trivial⟩

set_option maxRecDepth 10000 in
set_option maxHeartbeats 1000000 in
theorem l6_14 (kap st : Int) (m K I : Nat) (xp xc xr xi : Option Addr) (b1 : Nat) (u1 : Option Addr) (n1 c1 : Nat) (a : Act) (w : World) (Q : Exit → Act → World → Prop) (hfr : Fr 202 a) (hs : Slots [(0, .int .i64 kap), (1, .int .u32 st), (2, .int .i64 (m : Nat)), (3, .slice xp K K), (4, .slice xc K K), (5, .slice xr I I), (6, .slice xi I I), (15, .pointer (some ⟨b1, 0, none⟩))] a)
    (hcall : Calls Try.prog 30 #[.pointer (some ⟨b1, 0, none⟩)] w fun e w' => e = .returned (.slice u1 n1 c1) ∧ w' = w) (hQ : ∀ a', Fr 202 a' → Slots [(0, .int .i64 kap), (1, .int .u32 st), (2, .int .i64 (m : Nat)), (3, .slice xp K K), (4, .slice xc K K), (5, .slice xr I I), (6, .slice xi I I), (15, .pointer (some ⟨b1, 0, none⟩)), (27, .slice u1 n1 c1)] a' → Q .normal a' w) :
    Code.wp Try.prog (nthC 14 (bodyC Try.f6)) Q a w := by
  obtain ⟨u, hu, rfl⟩ := lay202 hfr
  obtain ⟨s0, s1, s2, s3, s4, s5, s6, s15, -⟩ := hs
  replace s0 : u 0 = .int .i64 kap := (hu 0).symm.trans s0
  replace s1 : u 1 = .int .u32 st := (hu 1).symm.trans s1
  replace s2 : u 2 = .int .i64 (m : Nat) := (hu 2).symm.trans s2
  replace s3 : u 3 = .slice xp K K := (hu 3).symm.trans s3
  replace s4 : u 4 = .slice xc K K := (hu 4).symm.trans s4
  replace s5 : u 5 = .slice xr I I := (hu 5).symm.trans s5
  replace s6 : u 6 = .slice xi I I := (hu 6).symm.trans s6
  replace s15 : u 15 = .pointer (some ⟨b1, 0, none⟩) := (hu 15).symm.trans s15
  rw [s0, s1, s2, s3, s4, s5, s6, s15]
  clear hfr hu s0 s1 s2 s3 s4 s5 s6 s15
  conv => arg 2; whnf
  have HC : Hid _ := hcall
  clear hcall
  have H : Hid _ := hQ
  clear hQ
  go_wp2_with (go_at_call 30; refine Calls.mono HC.out ?_; rintro e w' ⟨rfl, rfl⟩)
  exact H.out _ ⟨rfl, rfl⟩ ⟨rfl, rfl, rfl, rfl, rfl, rfl, rfl, rfl, rfl, trivial⟩

set_option maxRecDepth 10000 in
set_option maxHeartbeats 1000000 in
theorem l6_15 (kap st : Int) (m K I : Nat) (xp xc xr xi : Option Addr) (b1 : Nat) (u1 : Option Addr) (n1 c1 : Nat) (a : Act) (w : World) (Q : Exit → Act → World → Prop) (hfr : Fr 202 a) (hs : Slots [(0, .int .i64 kap), (1, .int .u32 st), (2, .int .i64 (m : Nat)), (3, .slice xp K K), (4, .slice xc K K), (5, .slice xr I I), (6, .slice xi I I), (15, .pointer (some ⟨b1, 0, none⟩)), (27, .slice u1 n1 c1)] a)
    (hQ : ∀ a', Fr 202 a' → Slots [(0, .int .i64 kap), (1, .int .u32 st), (2, .int .i64 (m : Nat)), (3, .slice xp K K), (4, .slice xc K K), (5, .slice xr I I), (6, .slice xi I I), (15, .pointer (some ⟨b1, 0, none⟩)), (27, .slice u1 n1 c1), (28, .int .i64 (K : Nat))] a' → Q .normal a' w) :
    Code.wp Try.prog (nthC 15 (bodyC Try.f6)) Q a w := by
  obtain ⟨u, hu, rfl⟩ := lay202 hfr
  obtain ⟨s0, s1, s2, s3, s4, s5, s6, s15, s27, -⟩ := hs
  replace s0 : u 0 = .int .i64 kap := (hu 0).symm.trans s0
  replace s1 : u 1 = .int .u32 st := (hu 1).symm.trans s1
  replace s2 : u 2 = .int .i64 (m : Nat) := (hu 2).symm.trans s2
  replace s3 : u 3 = .slice xp K K := (hu 3).symm.trans s3
  replace s4 : u 4 = .slice xc K K := (hu 4).symm.trans s4
  replace s5 : u 5 = .slice xr I I := (hu 5).symm.trans s5
  replace s6 : u 6 = .slice xi I I := (hu 6).symm.trans s6
  replace s15 : u 15 = .pointer (some ⟨b1, 0, none⟩) := (hu 15).symm.trans s15
  replace s27 : u 27 = .slice u1 n1 c1 := (hu 27).symm.trans s27
  rw [s0, s1, s2, s3, s4, s5, s6, s15, s27]
  clear hfr hu s0 s1 s2 s3 s4 s5 s6 s15 s27
  conv => arg 2; whnf
  have H : Hid _ := hQ
  clear hQ
  go_wp2
  exact H.out _ ⟨rfl, rfl⟩ ⟨rfl, rfl, rfl, rfl, rfl, rfl, rfl, rfl, rfl, rfl, trivial⟩

set_option maxRecDepth 10000 in
set_option maxHeartbeats 1000000 in
theorem l6_16 (kap st : Int) (m K I : Nat) (xp xc xr xi : Option Addr) (b1 : Nat) (u1 : Option Addr) (n1 c1 : Nat) (a : Act) (w : World) (Q : Exit → Act → World → Prop) (hfr : Fr 202 a) (hs : Slots [(0, .int .i64 kap), (1, .int .u32 st), (2, .int .i64 (m : Nat)), (3, .slice xp K K), (4, .slice xc K K), (5, .slice xr I I), (6, .slice xi I I), (15, .pointer (some ⟨b1, 0, none⟩)), (27, .slice u1 n1 c1), (28, .int .i64 (K : Nat))] a)
    (hn : K = 0 → n1 = 0) (hQ : ∀ a', 0 < K → Fr 202 a' → Slots [(0, .int .i64 kap), (1, .int .u32 st), (2, .int .i64 (m : Nat)), (3, .slice xp K K), (4, .slice xc K K), (5, .slice xr I I), (6, .slice xi I I), (15, .pointer (some ⟨b1, 0, none⟩)), (27, .slice u1 n1 c1), (28, .int .i64 (K : Nat))] a' → Q .normal a' w) (hret : ∀ a', Fr 202 a' → sl a' 14 = .bool true → Q .ret a' w) :
    Code.wp Try.prog (nthC 16 (bodyC Try.f6)) Q a w := by
  obtain ⟨u, hu, rfl⟩ := lay202 hfr
  obtain ⟨s0, s1, s2, s3, s4, s5, s6, s15, s27, s28, -⟩ := hs
  replace s0 : u 0 = .int .i64 kap := (hu 0).symm.trans s0
  replace s1 : u 1 = .int .u32 st := (hu 1).symm.trans s1
  replace s2 : u 2 = .int .i64 (m : Nat) := (hu 2).symm.trans s2
  replace s3 : u 3 = .slice xp K K := (hu 3).symm.trans s3
  replace s4 : u 4 = .slice xc K K := (hu 4).symm.trans s4
  replace s5 : u 5 = .slice xr I I := (hu 5).symm.trans s5
  replace s6 : u 6 = .slice xi I I := (hu 6).symm.trans s6
  replace s15 : u 15 = .pointer (some ⟨b1, 0, none⟩) := (hu 15).symm.trans s15
  replace s27 : u 27 = .slice u1 n1 c1 := (hu 27).symm.trans s27
  replace s28 : u 28 = .int .i64 (K : Nat) := (hu 28).symm.trans s28
  rw [s0, s1, s2, s3, s4, s5, s6, s15, s27, s28]
  clear hfr hu s0 s1 s2 s3 s4 s5 s6 s15 s27 s28
  conv => arg 2; whnf
  have H : Hid _ := hQ
  have HR : Hid _ := hret
  clear hQ hret
  by_cases h : K = 0
  · have e := hn h
    subst h e
    clear hn
    go_wp2
    exact HR.out _ ⟨rfl, rfl⟩ rfl
  · have h1 : ¬ ((K : Int) = 0) := by omega
    clear hn
    go_wp2
    exact H.out _ (by omega) ⟨rfl, rfl⟩ ⟨rfl, rfl, rfl, rfl, rfl, rfl, rfl, rfl, rfl, rfl, trivial⟩

set_option maxRecDepth 10000 in
set_option maxHeartbeats 1000000 in
theorem l6_17b (kap st : Int) (m K I : Nat) (xp xc xr xi : Option Addr) (b1 : Nat) (u1 : Option Addr) (n1 c1 : Nat) (a : Act) (w : World) (Q : Exit → Act → World → Prop) (hfr : Fr 202 a) (hs : Slots [(0, .int .i64 kap), (1, .int .u32 st), (2, .int .i64 (m : Nat)), (3, .slice xp K K), (4, .slice xc K K), (5, .slice xr I I), (6, .slice xi I I), (15, .pointer (some ⟨b1, 0, none⟩)), (27, .slice u1 n1 c1), (28, .int .i64 (K : Nat))] a)
    (hn : n1 = m) (hQ : ∀ a', Fr 202 a' → Slots [(0, .int .i64 kap), (1, .int .u32 st), (2, .int .i64 (m : Nat)), (3, .slice xp K K), (4, .slice xc K K), (5, .slice xr I I), (6, .slice xi I I), (15, .pointer (some ⟨b1, 0, none⟩)), (27, .slice u1 n1 c1), (28, .int .i64 (K : Nat))] a' → Q .normal a' w) :
    Code.wp Try.prog (nthC 17 (bodyC Try.f6)) Q a w := by
  obtain ⟨u, hu, rfl⟩ := lay202 hfr
  obtain ⟨s0, s1, s2, s3, s4, s5, s6, s15, s27, s28, -⟩ := hs
  replace s0 : u 0 = .int .i64 kap := (hu 0).symm.trans s0
  replace s1 : u 1 = .int .u32 st := (hu 1).symm.trans s1
  replace s2 : u 2 = .int .i64 (m : Nat) := (hu 2).symm.trans s2
  replace s3 : u 3 = .slice xp K K := (hu 3).symm.trans s3
  replace s4 : u 4 = .slice xc K K := (hu 4).symm.trans s4
  replace s5 : u 5 = .slice xr I I := (hu 5).symm.trans s5
  replace s6 : u 6 = .slice xi I I := (hu 6).symm.trans s6
  replace s15 : u 15 = .pointer (some ⟨b1, 0, none⟩) := (hu 15).symm.trans s15
  replace s27 : u 27 = .slice u1 n1 c1 := (hu 27).symm.trans s27
  replace s28 : u 28 = .int .i64 (K : Nat) := (hu 28).symm.trans s28
  rw [s0, s1, s2, s3, s4, s5, s6, s15, s27, s28]
  clear hfr hu s0 s1 s2 s3 s4 s5 s6 s15 s27 s28
  conv => arg 2; whnf
  subst hn
  have H : Hid _ := hQ
  clear hQ
  go_wp2
  exact H.out _ ⟨rfl, rfl⟩ ⟨rfl, rfl, rfl, rfl, rfl, rfl, rfl, rfl, rfl, rfl, trivial⟩

set_option maxRecDepth 10000 in
set_option maxHeartbeats 1000000 in
theorem l6_18i (kap st : Int) (m K I : Nat) (xp xc xr xi : Option Addr) (b1 : Nat) (u1 : Option Addr) (n1 c1 : Nat) (a : Act) (w : World) (Q : Exit → Act → World → Prop) (hfr : Fr 202 a) (hs : Slots [(0, .int .i64 kap), (1, .int .u32 st), (2, .int .i64 (m : Nat)), (3, .slice xp K K), (4, .slice xc K K), (5, .slice xr I I), (6, .slice xi I I), (15, .pointer (some ⟨b1, 0, none⟩)), (27, .slice u1 n1 c1), (28, .int .i64 (K : Nat))] a)
    (hQ : ∀ a', Fr 202 a' → Slots [(0, .int .i64 kap), (1, .int .u32 st), (2, .int .i64 (m : Nat)), (3, .slice xp K K), (4, .slice xc K K), (5, .slice xr I I), (6, .slice xi I I), (15, .pointer (some ⟨b1, 0, none⟩)), (27, .slice u1 n1 c1), (28, .int .i64 (K : Nat)), (29, .int .i64 (0 : Nat))] a' → Q .normal a' w) :
    Code.wp Try.prog (hdC (nthC 18 (bodyC Try.f6))) Q a w := by
  obtain ⟨u, hu, rfl⟩ := lay202 hfr
  obtain ⟨s0, s1, s2, s3, s4, s5, s6, s15, s27, s28, -⟩ := hs
  replace s0 : u 0 = .int .i64 kap := (hu 0).symm.trans s0
  replace s1 : u 1 = .int .u32 st := (hu 1).symm.trans s1
  replace s2 : u 2 = .int .i64 (m : Nat) := (hu 2).symm.trans s2
  replace s3 : u 3 = .slice xp K K := (hu 3).symm.trans s3
  replace s4 : u 4 = .slice xc K K := (hu 4).symm.trans s4
  replace s5 : u 5 = .slice xr I I := (hu 5).symm.trans s5
  replace s6 : u 6 = .slice xi I I := (hu 6).symm.trans s6
  replace s15 : u 15 = .pointer (some ⟨b1, 0, none⟩) := (hu 15).symm.trans s15
  replace s27 : u 27 = .slice u1 n1 c1 := (hu 27).symm.trans s27
  replace s28 : u 28 = .int .i64 (K : Nat) := (hu 28).symm.trans s28
  rw [s0, s1, s2, s3, s4, s5, s6, s15, s27, s28]
  clear hfr hu s0 s1 s2 s3 s4 s5 s6 s15 s27 s28
  conv => arg 2; whnf
  have H : Hid _ := hQ
  clear hQ
  go_wp2
  exact H.out _ ⟨rfl, rfl⟩ ⟨rfl, rfl, rfl, rfl, rfl, rfl, rfl, rfl, rfl, rfl, rfl, trivial⟩

set_option maxRecDepth 10000 in
set_option maxHeartbeats 1000000 in
theorem l6_18h (kap st : Int) (m K I : Nat) (xp xc xr xi : Option Addr) (b1 : Nat) (u1 : Option Addr) (n1 c1 : Nat) (i : Nat) (a : Act) (w : World) (Q : Exit → Act → World → Prop) (hfr : Fr 202 a) (hs : Slots [(0, .int .i64 kap), (1, .int .u32 st), (2, .int .i64 (m : Nat)), (3, .slice xp K K), (4, .slice xc K K), (5, .slice xr I I), (6, .slice xi I I), (15, .pointer (some ⟨b1, 0, none⟩)), (27, .slice u1 n1 c1), (28, .int .i64 (K : Nat)), (29, .int .i64 (i : Nat))] a)
    (hk : i ≤ m) (lK : (m : Int) ≤ 65536) (hQ : ∀ a', i < m → Fr 202 a' → Slots [(0, .int .i64 kap), (1, .int .u32 st), (2, .int .i64 (m : Nat)), (3, .slice xp K K), (4, .slice xc K K), (5, .slice xr I I), (6, .slice xi I I), (15, .pointer (some ⟨b1, 0, none⟩)), (27, .slice u1 n1 c1), (28, .int .i64 (K : Nat)), (29, .int .i64 (i : Nat))] a' → Q .normal a' w) (hexit : ∀ a', i = m → Fr 202 a' → Slots [(0, .int .i64 kap), (1, .int .u32 st), (2, .int .i64 (m : Nat)), (3, .slice xp K K), (4, .slice xc K K), (5, .slice xr I I), (6, .slice xi I I), (15, .pointer (some ⟨b1, 0, none⟩)), (27, .slice u1 n1 c1), (28, .int .i64 (K : Nat))] a' → Q (.exit 2) a' w) :
    Code.wp Try.prog (hdC (inC (inC (tlC (nthC 18 (bodyC Try.f6)))))) Q a w := by
  obtain ⟨u, hu, rfl⟩ := lay202 hfr
  obtain ⟨s0, s1, s2, s3, s4, s5, s6, s15, s27, s28, s29, -⟩ := hs
  replace s0 : u 0 = .int .i64 kap := (hu 0).symm.trans s0
  replace s1 : u 1 = .int .u32 st := (hu 1).symm.trans s1
  replace s2 : u 2 = .int .i64 (m : Nat) := (hu 2).symm.trans s2
  replace s3 : u 3 = .slice xp K K := (hu 3).symm.trans s3
  replace s4 : u 4 = .slice xc K K := (hu 4).symm.trans s4
  replace s5 : u 5 = .slice xr I I := (hu 5).symm.trans s5
  replace s6 : u 6 = .slice xi I I := (hu 6).symm.trans s6
  replace s15 : u 15 = .pointer (some ⟨b1, 0, none⟩) := (hu 15).symm.trans s15
  replace s27 : u 27 = .slice u1 n1 c1 := (hu 27).symm.trans s27
  replace s28 : u 28 = .int .i64 (K : Nat) := (hu 28).symm.trans s28
  replace s29 : u 29 = .int .i64 (i : Nat) := (hu 29).symm.trans s29
  rw [s0, s1, s2, s3, s4, s5, s6, s15, s27, s28, s29]
  clear hfr hu s0 s1 s2 s3 s4 s5 s6 s15 s27 s28 s29
  conv => arg 2; whnf
  have H : Hid _ := hQ
  have HX : Hid _ := hexit
  clear hQ hexit
  by_cases hlt : i < m
  · have l : (i : Int) < m := by omega
    go_wp2
    exact H.out _ hlt ⟨rfl, rfl⟩ ⟨rfl, rfl, rfl, rfl, rfl, rfl, rfl, rfl, rfl, rfl, rfl, trivial⟩
  · have l : ¬ ((i : Int) < m) := by omega
    go_wp2
    exact HX.out _ (by omega) ⟨rfl, rfl⟩ ⟨rfl, rfl, rfl, rfl, rfl, rfl, rfl, rfl, rfl, rfl, trivial⟩

set_option maxRecDepth 10000 in
set_option maxHeartbeats 1000000 in
theorem l6_18b (kap st : Int) (m K I : Nat) (xp xc xr : Option Addr) (b1 g1 ib n1 c1 i k1 km j : Nat) (x : Int) (a : Act) (w : World) (Q : Exit → Act → World → Prop) (hfr : Fr 202 a) (hs : Slots [(0, .int .i64 kap), (1, .int .u32 st), (2, .int .i64 (m : Nat)), (3, .slice xp K K), (4, .slice xc K K), (5, .slice xr I I), (6, .slice (some ⟨ib, 0, none⟩) I I), (15, .pointer (some ⟨b1, 0, none⟩)), (27, .slice (some ⟨g1, 0, none⟩) n1 c1), (28, .int .i64 (K : Nat)), (29, .int .i64 (i : Nat))] a)
    (li : (i : Int) < n1) (e0 : IntKind.i64.wrap ((K : Int) - 1) = (k1 : Int)) (e1 : IntKind.i64.wrap ((k1 : Int) * (m : Int)) = (km : Int)) (e2 : IntKind.i64.wrap ((km : Int) + (i : Int)) = (j : Int)) (lj : (j : Int) < I) (h1 : w.cell? ⟨g1, i, none⟩ = some (.int .u32 x)) (h2 : w.cell? ⟨ib, j, none⟩ = some (.int .u32 x))
    (hQ : ∀ a' nq, Fr 202 a' → Slots [(0, .int .i64 kap), (1, .int .u32 st), (2, .int .i64 (m : Nat)), (3, .slice xp K K), (4, .slice xc K K), (5, .slice xr I I), (6, .slice (some ⟨ib, 0, none⟩) I I), (15, .pointer (some ⟨b1, 0, none⟩)), (27, .slice (some ⟨g1, 0, none⟩) n1 c1), (28, .int .i64 (K : Nat)), (29, .int .i64 (i : Nat))] a' → Q .normal a' (w.drewN nq)) :
    Code.wp Try.prog (hdC (tlC (inC (inC (tlC (nthC 18 (bodyC Try.f6))))))) Q a w := by
  obtain ⟨u, hu, rfl⟩ := lay202 hfr
  obtain ⟨s0, s1, s2, s3, s4, s5, s6, s15, s27, s28, s29, -⟩ := hs
  replace s0 : u 0 = .int .i64 kap := (hu 0).symm.trans s0
  replace s1 : u 1 = .int .u32 st := (hu 1).symm.trans s1
  replace s2 : u 2 = .int .i64 (m : Nat) := (hu 2).symm.trans s2
  replace s3 : u 3 = .slice xp K K := (hu 3).symm.trans s3
  replace s4 : u 4 = .slice xc K K := (hu 4).symm.trans s4
  replace s5 : u 5 = .slice xr I I := (hu 5).symm.trans s5
  replace s6 : u 6 = .slice (some ⟨ib, 0, none⟩) I I := (hu 6).symm.trans s6
  replace s15 : u 15 = .pointer (some ⟨b1, 0, none⟩) := (hu 15).symm.trans s15
  replace s27 : u 27 = .slice (some ⟨g1, 0, none⟩) n1 c1 := (hu 27).symm.trans s27
  replace s28 : u 28 = .int .i64 (K : Nat) := (hu 28).symm.trans s28
  replace s29 : u 29 = .int .i64 (i : Nat) := (hu 29).symm.trans s29
  rw [s0, s1, s2, s3, s4, s5, s6, s15, s27, s28, s29]
  clear hfr hu s0 s1 s2 s3 s4 s5 s6 s15 s27 s28 s29
  conv => arg 2; whnf
  have H : Hid _ := hQ
  clear hQ
  go_wp2_with fail
  go_quiet (fail)
  go_wp2
  exact H.out _ _ ⟨rfl, rfl⟩ ⟨rfl, rfl, rfl, rfl, rfl, rfl, rfl, rfl, rfl, rfl, rfl, trivial⟩

set_option maxRecDepth 10000 in
set_option maxHeartbeats 1000000 in
theorem l6_18n (kap st : Int) (m K I : Nat) (xp xc xr xi : Option Addr) (b1 : Nat) (u1 : Option Addr) (n1 c1 : Nat) (i : Nat) (a : Act) (w : World) (Q : Exit → Act → World → Prop) (hfr : Fr 202 a) (hs : Slots [(0, .int .i64 kap), (1, .int .u32 st), (2, .int .i64 (m : Nat)), (3, .slice xp K K), (4, .slice xc K K), (5, .slice xr I I), (6, .slice xi I I), (15, .pointer (some ⟨b1, 0, none⟩)), (27, .slice u1 n1 c1), (28, .int .i64 (K : Nat)), (29, .int .i64 (i : Nat))] a)
    (hk : (i : Int) ≤ 65536) (hQ : ∀ a', Fr 202 a' → Slots [(0, .int .i64 kap), (1, .int .u32 st), (2, .int .i64 (m : Nat)), (3, .slice xp K K), (4, .slice xc K K), (5, .slice xr I I), (6, .slice xi I I), (15, .pointer (some ⟨b1, 0, none⟩)), (27, .slice u1 n1 c1), (28, .int .i64 (K : Nat)), (29, .int .i64 (i + 1 : Nat))] a' → Q .normal a' w) :
    Code.wp Try.prog (tlC (tlC (inC (inC (tlC (nthC 18 (bodyC Try.f6))))))) Q a w := by
  obtain ⟨u, hu, rfl⟩ := lay202 hfr
  obtain ⟨s0, s1, s2, s3, s4, s5, s6, s15, s27, s28, s29, -⟩ := hs
  replace s0 : u 0 = .int .i64 kap := (hu 0).symm.trans s0
  replace s1 : u 1 = .int .u32 st := (hu 1).symm.trans s1
  replace s2 : u 2 = .int .i64 (m : Nat) := (hu 2).symm.trans s2
  replace s3 : u 3 = .slice xp K K := (hu 3).symm.trans s3
  replace s4 : u 4 = .slice xc K K := (hu 4).symm.trans s4
  replace s5 : u 5 = .slice xr I I := (hu 5).symm.trans s5
  replace s6 : u 6 = .slice xi I I := (hu 6).symm.trans s6
  replace s15 : u 15 = .pointer (some ⟨b1, 0, none⟩) := (hu 15).symm.trans s15
  replace s27 : u 27 = .slice u1 n1 c1 := (hu 27).symm.trans s27
  replace s28 : u 28 = .int .i64 (K : Nat) := (hu 28).symm.trans s28
  replace s29 : u 29 = .int .i64 (i : Nat) := (hu 29).symm.trans s29
  rw [s0, s1, s2, s3, s4, s5, s6, s15, s27, s28, s29]
  clear hfr hu s0 s1 s2 s3 s4 s5 s6 s15 s27 s28 s29
  conv => arg 2; whnf
  have H : Hid _ := hQ
  clear hQ
  go_wp2
  exact H.out _ ⟨rfl, rfl⟩ ⟨rfl, rfl, rfl, rfl, rfl, rfl, rfl, rfl, rfl, rfl, rfl, trivial⟩

set_option maxRecDepth 10000 in
set_option maxHeartbeats 1000000 in
theorem l6_19  (a : Act) (w : World) (Q : Exit → Act → World → Prop) (hfr : Fr 202 a)
    (hQ : ∀ a', Fr 202 a' → sl a' 14 = .bool true → Q .ret a' w) :
    Code.wp Try.prog (dropC 19 (bodyC Try.f6)) Q a w := by
  obtain ⟨u, hu, rfl⟩ := lay202 hfr
  clear hfr hu
  conv => arg 2; whnf
  have H : Hid _ := hQ
  clear hQ
  go_wp2
  exact H.out _ ⟨rfl, rfl⟩ rfl

end Go.Proofs.Qxb6602526a
