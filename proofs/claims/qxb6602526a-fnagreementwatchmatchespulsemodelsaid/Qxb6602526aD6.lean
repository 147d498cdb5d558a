import Derived.Test.Qxb6602526aD5
namespace Go.Proofs.Qxb6602526a
open Go.RowKit
set_option linter.unusedSimpArgs false
set_option linter.unusedVariables false

set_option maxRecDepth 10000 in
set_option maxHeartbeats 1000000 in
theorem l4_0 (fc n : Int) (xp : Option Addr) (K kc : Nat) (xc : Option Addr) (C cc : Nat) (xi : Option Addr) (I ic : Nat) (xr : Option Addr) (R rc : Nat) (a : Act) (w : World) (Q : Exit → Act → World → Prop) (hfr : Fr 151 a) (hs : Slots [(0, .int .u64 fc), (1, .int .i64 n), (2, .slice xp K kc), (3, .slice xc C cc), (4, .slice xi I ic), (5, .slice xr R rc)] a)
    (hQ : ∀ a', Fr 151 a' → Slots [(0, .int .u64 fc), (1, .int .i64 n), (2, .slice xp K kc), (3, .slice xc C cc), (4, .slice xi I ic), (5, .slice xr R rc)] a' → Q .normal a' w) :
    Code.wp Try.prog (nthC 0 (bodyC Try.f4)) Q a w := by
  obtain ⟨u, hu, rfl⟩ := lay151 hfr
  obtain ⟨s0, s1, s2, s3, s4, s5, -⟩ := hs
  replace s0 : u 0 = .int .u64 fc := (hu 0).symm.trans s0
  replace s1 : u 1 = .int .i64 n := (hu 1).symm.trans s1
  replace s2 : u 2 = .slice xp K kc := (hu 2).symm.trans s2
  replace s3 : u 3 = .slice xc C cc := (hu 3).symm.trans s3
  replace s4 : u 4 = .slice xi I ic := (hu 4).symm.trans s4
  replace s5 : u 5 = .slice xr R rc := (hu 5).symm.trans s5
  rw [s0, s1, s2, s3, s4, s5]
  clear hfr hu s0 s1 s2 s3 s4 s5
  conv => arg 2; whnf
  have H : Hid _ := hQ
  clear hQ
  go_wp2
  exact H.out _ ⟨rfl, rfl⟩ ⟨rfl, rfl, rfl, rfl, rfl, rfl, trivial⟩

set_option maxRecDepth 10000 in
set_option maxHeartbeats 1000000 in
theorem l4_1 (fc n : Int) (xp : Option Addr) (K kc : Nat) (xc : Option Addr) (C cc : Nat) (xi : Option Addr) (I ic : Nat) (xr : Option Addr) (R rc : Nat) (a : Act) (w : World) (Q : Exit → Act → World → Prop) (hfr : Fr 151 a) (hs : Slots [(0, .int .u64 fc), (1, .int .i64 n), (2, .slice xp K kc), (3, .slice xc C cc), (4, .slice xi I ic), (5, .slice xr R rc)] a)
    (l0 : K ≤ 9223372036854775807) (l1 : C ≤ 9223372036854775807) (l2 : I ≤ 9223372036854775807) (l3 : R ≤ 9223372036854775807)
    (hQ : ∀ a', K + C + I + R ≤ 1048576 → Fr 151 a' → Slots [(0, .int .u64 fc), (1, .int .i64 n), (2, .slice xp K kc), (3, .slice xc C cc), (4, .slice xi I ic), (5, .slice xr R rc)] a' → Q .normal a' w)
    (hret : ∀ a' w', Fr 151 a' → sl a' 12 = .bool true → Kept [] w w' → Q .ret a' w') :
    Code.wp Try.prog (nthC 1 (bodyC Try.f4)) Q a w := by
  obtain ⟨u, hu, rfl⟩ := lay151 hfr
  obtain ⟨s0, s1, s2, s3, s4, s5, -⟩ := hs
  replace s0 : u 0 = .int .u64 fc := (hu 0).symm.trans s0
  replace s1 : u 1 = .int .i64 n := (hu 1).symm.trans s1
  replace s2 : u 2 = .slice xp K kc := (hu 2).symm.trans s2
  replace s3 : u 3 = .slice xc C cc := (hu 3).symm.trans s3
  replace s4 : u 4 = .slice xi I ic := (hu 4).symm.trans s4
  replace s5 : u 5 = .slice xr R rc := (hu 5).symm.trans s5
  rw [s0, s1, s2, s3, s4, s5]
  clear hfr hu s0 s1 s2 s3 s4 s5
  conv => arg 2; whnf
  have H : Hid _ := hQ
  have HR : Hid _ := hret
  clear hQ hret
  by_cases h : K + C + I + R ≤ 1048576
  · have HH : Hid _ := h
    clear h
    go_wp2_with (go_at_call 15; refine (zz15_yes _ _ _ _ _ _ _ _ _ _ _ _ _ _ _ HH.out).mono ?_; rintro e w' ⟨rfl, rfl⟩)
    exact H.out _ HH.out ⟨rfl, rfl⟩ ⟨rfl, rfl, rfl, rfl, rfl, rfl, trivial⟩
  · have HH : Hid _ := h
    clear h
    go_wp2_with (go_at_call 15; refine (zz15_no _ _ _ _ _ _ _ _ _ _ _ _ _ _ _ HH.out l0 l1 l2 l3).mono ?_; rintro e w' ⟨rfl, rfl⟩)
    exact HR.out _ _ ⟨rfl, rfl⟩ rfl (Kept.refl _ _)

set_option maxRecDepth 10000 in
set_option maxHeartbeats 1000000 in
theorem l4_2 (fc n : Int) (xp : Option Addr) (K kc : Nat) (xc : Option Addr) (C cc : Nat) (xi : Option Addr) (I ic : Nat) (xr : Option Addr) (R rc : Nat) (a : Act) (w : World) (Q : Exit → Act → World → Prop) (hfr : Fr 151 a) (hs : Slots [(0, .int .u64 fc), (1, .int .i64 n), (2, .slice xp K kc), (3, .slice xc C cc), (4, .slice xi I ic), (5, .slice xr R rc)] a)
    (l0 : (K : Int) ≤ 1048576) (l1 : (C : Int) ≤ 1048576) (l2 : (I : Int) ≤ 1048576) (l3 : (R : Int) ≤ 1048576)
    (hQ : ∀ a', K ≤ 65536 → C ≤ 65536 → Fr 151 a' → Slots [(0, .int .u64 fc), (1, .int .i64 n), (2, .slice xp K kc), (3, .slice xc C cc), (4, .slice xi I ic), (5, .slice xr R rc)] a' → Q .normal a' w)
    (hret : ∀ a' w', Fr 151 a' → sl a' 12 = .bool true → Kept [] w w' → Q .ret a' w') :
    Code.wp Try.prog (nthC 2 (bodyC Try.f4)) Q a w := by
  obtain ⟨u, hu, rfl⟩ := lay151 hfr
  obtain ⟨s0, s1, s2, s3, s4, s5, -⟩ := hs
  replace s0 : u 0 = .int .u64 fc := (hu 0).symm.trans s0
  replace s1 : u 1 = .int .i64 n := (hu 1).symm.trans s1
  replace s2 : u 2 = .slice xp K kc := (hu 2).symm.trans s2
  replace s3 : u 3 = .slice xc C cc := (hu 3).symm.trans s3
  replace s4 : u 4 = .slice xi I ic := (hu 4).symm.trans s4
  replace s5 : u 5 = .slice xr R rc := (hu 5).symm.trans s5
  rw [s0, s1, s2, s3, s4, s5]
  clear hfr hu s0 s1 s2 s3 s4 s5
  conv => arg 2; whnf
  have H : Hid _ := hQ
  have HR : Hid _ := hret
  clear hQ hret
  by_cases hK : (65536 : Int) < K
  · go_wp2
    exact HR.out _ _ ⟨rfl, rfl⟩ rfl (Kept.refl _ _)
  by_cases hC : (65536 : Int) < C
  · go_wp2
    exact HR.out _ _ ⟨rfl, rfl⟩ rfl (Kept.refl _ _)
  by_cases hI : (1048576 : Int) < I
  · go_wp2
    exact HR.out _ _ ⟨rfl, rfl⟩ rfl (Kept.refl _ _)
  by_cases hR : (1048576 : Int) < R
  · go_wp2
    exact HR.out _ _ ⟨rfl, rfl⟩ rfl (Kept.refl _ _)
  go_wp2
  exact H.out _ (by omega) (by omega) ⟨rfl, rfl⟩ ⟨rfl, rfl, rfl, rfl, rfl, rfl, trivial⟩

set_option maxRecDepth 10000 in
set_option maxHeartbeats 1000000 in
theorem l4_3 (fc n : Int) (xp : Option Addr) (K kc : Nat) (xc : Option Addr) (C cc : Nat) (xi : Option Addr) (I ic : Nat) (xr : Option Addr) (R rc : Nat) (a : Act) (w : World) (Q : Exit → Act → World → Prop) (hfr : Fr 151 a) (hs : Slots [(0, .int .u64 fc), (1, .int .i64 n), (2, .slice xp K kc), (3, .slice xc C cc), (4, .slice xi I ic), (5, .slice xr R rc)] a)
    (l0 : (K : Int) ≤ 65536) (l1 : (C : Int) ≤ 65536) (l2 : (I : Int) ≤ 1048576) (l3 : (R : Int) ≤ 1048576)
    (hQ : ∀ a', Fr 151 a' → Slots [(0, .int .u64 fc), (1, .int .i64 n), (2, .slice xp K kc), (3, .slice xc C cc), (4, .slice xi I ic), (5, .slice xr R rc)] a' → Q .normal a' w)
    (hret : ∀ a' w', Fr 151 a' → sl a' 12 = .bool true → Kept [] w w' → Q .ret a' w') :
    Code.wp Try.prog (nthC 3 (bodyC Try.f4)) Q a w := by
  obtain ⟨u, hu, rfl⟩ := lay151 hfr
  obtain ⟨s0, s1, s2, s3, s4, s5, -⟩ := hs
  replace s0 : u 0 = .int .u64 fc := (hu 0).symm.trans s0
  replace s1 : u 1 = .int .i64 n := (hu 1).symm.trans s1
  replace s2 : u 2 = .slice xp K kc := (hu 2).symm.trans s2
  replace s3 : u 3 = .slice xc C cc := (hu 3).symm.trans s3
  replace s4 : u 4 = .slice xi I ic := (hu 4).symm.trans s4
  replace s5 : u 5 = .slice xr R rc := (hu 5).symm.trans s5
  rw [s0, s1, s2, s3, s4, s5]
  clear hfr hu s0 s1 s2 s3 s4 s5
  conv => arg 2; whnf
  have H : Hid _ := hQ
  have HR : Hid _ := hret
  clear hQ hret
  by_cases h : (1048576 : Int) < 8 * K + 8 * C + I + R
  · go_wp2
    exact HR.out _ _ ⟨rfl, rfl⟩ rfl (Kept.refl _ _)
  · go_wp2
    exact H.out _ ⟨rfl, rfl⟩ ⟨rfl, rfl, rfl, rfl, rfl, rfl, trivial⟩

set_option maxRecDepth 10000 in
set_option maxHeartbeats 1000000 in
theorem l4_4 (fc n : Int) (xp : Option Addr) (K kc : Nat) (xc : Option Addr) (C cc : Nat) (xi : Option Addr) (I ic : Nat) (xr : Option Addr) (R rc : Nat) (a : Act) (w : World) (Q : Exit → Act → World → Prop) (hfr : Fr 151 a) (hs : Slots [(0, .int .u64 fc), (1, .int .i64 n), (2, .slice xp K kc), (3, .slice xc C cc), (4, .slice xi I ic), (5, .slice xr R rc)] a)
    (l0 : (K : Int) ≤ 1048576) (l1 : (C : Int) ≤ 1048576) (l2 : (I : Int) ≤ 1048576) (l3 : (R : Int) ≤ 1048576)
    (hQ : ∀ a', Shape n K C I R → Fr 151 a' → Slots [(0, .int .u64 fc), (1, .int .i64 n), (2, .slice xp K kc), (3, .slice xc C cc), (4, .slice xi I ic), (5, .slice xr R rc)] a' → Q .normal a' w)
    (hret : ∀ a' w', Fr 151 a' → sl a' 12 = .bool true → Kept [] w w' → Q .ret a' w') :
    Code.wp Try.prog (nthC 4 (bodyC Try.f4)) Q a w := by
  obtain ⟨u, hu, rfl⟩ := lay151 hfr
  obtain ⟨s0, s1, s2, s3, s4, s5, -⟩ := hs
  replace s0 : u 0 = .int .u64 fc := (hu 0).symm.trans s0
  replace s1 : u 1 = .int .i64 n := (hu 1).symm.trans s1
  replace s2 : u 2 = .slice xp K kc := (hu 2).symm.trans s2
  replace s3 : u 3 = .slice xc C cc := (hu 3).symm.trans s3
  replace s4 : u 4 = .slice xi I ic := (hu 4).symm.trans s4
  replace s5 : u 5 = .slice xr R rc := (hu 5).symm.trans s5
  rw [s0, s1, s2, s3, s4, s5]
  clear hfr hu s0 s1 s2 s3 s4 s5
  conv => arg 2; whnf
  have H : Hid _ := hQ
  have HR : Hid _ := hret
  clear hQ hret
  have HC : Hid _ := shape16 n K C I R xp xc xi xr kc cc ic rc w l0 l1 l2 l3
  go_wp2_with (go_at_call 16; refine Calls.mono HC.out ?_; rintro e w' ⟨ok, rfl, rfl, hok⟩)
  · exact HR.out _ _ ⟨rfl, rfl⟩ rfl (Kept.refl _ _)
  · rename_i hb
    exact H.out _ (hok (by simpa using hb)) ⟨rfl, rfl⟩ ⟨rfl, rfl, rfl, rfl, rfl, rfl, trivial⟩

set_option maxRecDepth 10000 in
set_option maxHeartbeats 1000000 in
theorem l4_5 (fc n : Int) (xp : Option Addr) (K kc : Nat) (xc : Option Addr) (C cc : Nat) (xi : Option Addr) (I ic : Nat) (xr : Option Addr) (R rc : Nat) (G : Option Addr → World → Prop) (a : Act) (w : World) (Q : Exit → Act → World → Prop) (hfr : Fr 151 a) (hs : Slots [(0, .int .u64 fc), (1, .int .i64 n), (2, .slice xp K kc), (3, .slice xc C cc), (4, .slice xi I ic), (5, .slice xr R rc)] a)
    (hcall : Calls Try.prog 10 #[.slice xp K kc] w fun e w' => ∃ y, e = .returned (.slice y K K) ∧ G y w')
    (hQ : ∀ a' y w', G y w' → Fr 151 a' → Slots [(0, .int .u64 fc), (1, .int .i64 n), (2, .slice y K K), (3, .slice xc C cc), (4, .slice xi I ic), (5, .slice xr R rc)] a' → Q .normal a' w') :
    Code.wp Try.prog (nthC 5 (bodyC Try.f4)) Q a w := by
  obtain ⟨u, hu, rfl⟩ := lay151 hfr
  obtain ⟨s0, s1, s2, s3, s4, s5, -⟩ := hs
  replace s0 : u 0 = .int .u64 fc := (hu 0).symm.trans s0
  replace s1 : u 1 = .int .i64 n := (hu 1).symm.trans s1
  replace s2 : u 2 = .slice xp K kc := (hu 2).symm.trans s2
  replace s3 : u 3 = .slice xc C cc := (hu 3).symm.trans s3
  replace s4 : u 4 = .slice xi I ic := (hu 4).symm.trans s4
  replace s5 : u 5 = .slice xr R rc := (hu 5).symm.trans s5
  rw [s0, s1, s2, s3, s4, s5]
  clear hfr hu s0 s1 s2 s3 s4 s5
  conv => arg 2; whnf
  have HC : Hid _ := hcall
  have H : Hid _ := hQ
  clear hQ
  clear hcall
  go_wp2_with (go_at_call 10; refine Calls.mono HC.out ?_; rintro e w' ⟨y, rfl, hG⟩)
  exact H.out _ _ _ hG ⟨rfl, rfl⟩ ⟨rfl, rfl, rfl, rfl, rfl, rfl, trivial⟩

set_option maxRecDepth 10000 in
set_option maxHeartbeats 1000000 in
theorem l4_6 (fc n : Int) (xp : Option Addr) (K kc : Nat) (xc : Option Addr) (C cc : Nat) (xi : Option Addr) (I ic : Nat) (xr : Option Addr) (R rc : Nat) (G : Option Addr → World → Prop) (a : Act) (w : World) (Q : Exit → Act → World → Prop) (hfr : Fr 151 a) (hs : Slots [(0, .int .u64 fc), (1, .int .i64 n), (2, .slice xp K kc), (3, .slice xc C cc), (4, .slice xi I ic), (5, .slice xr R rc)] a)
    (hcall : Calls Try.prog 17 #[.slice xc C cc] w fun e w' => ∃ y, e = .returned (.slice y C C) ∧ G y w')
    (hQ : ∀ a' y w', G y w' → Fr 151 a' → Slots [(0, .int .u64 fc), (1, .int .i64 n), (2, .slice xp K kc), (3, .slice y C C), (4, .slice xi I ic), (5, .slice xr R rc)] a' → Q .normal a' w') :
    Code.wp Try.prog (nthC 6 (bodyC Try.f4)) Q a w := by
  obtain ⟨u, hu, rfl⟩ := lay151 hfr
  obtain ⟨s0, s1, s2, s3, s4, s5, -⟩ := hs
  replace s0 : u 0 = .int .u64 fc := (hu 0).symm.trans s0
  replace s1 : u 1 = .int .i64 n := (hu 1).symm.trans s1
  replace s2 : u 2 = .slice xp K kc := (hu 2).symm.trans s2
  replace s3 : u 3 = .slice xc C cc := (hu 3).symm.trans s3
  replace s4 : u 4 = .slice xi I ic := (hu 4).symm.trans s4
  replace s5 : u 5 = .slice xr R rc := (hu 5).symm.trans s5
  rw [s0, s1, s2, s3, s4, s5]
  clear hfr hu s0 s1 s2 s3 s4 s5
  conv => arg 2; whnf
  have HC : Hid _ := hcall
  have H : Hid _ := hQ
  clear hQ
  clear hcall
  go_wp2_with (go_at_call 17; refine Calls.mono HC.out ?_; rintro e w' ⟨y, rfl, hG⟩)
  exact H.out _ _ _ hG ⟨rfl, rfl⟩ ⟨rfl, rfl, rfl, rfl, rfl, rfl, trivial⟩

set_option maxRecDepth 10000 in
set_option maxHeartbeats 1000000 in
theorem l4_7 (fc n : Int) (xp : Option Addr) (K kc : Nat) (xc : Option Addr) (C cc : Nat) (xi : Option Addr) (I ic : Nat) (xr : Option Addr) (R rc : Nat) (G : Option Addr → World → Prop) (a : Act) (w : World) (Q : Exit → Act → World → Prop) (hfr : Fr 151 a) (hs : Slots [(0, .int .u64 fc), (1, .int .i64 n), (2, .slice xp K kc), (3, .slice xc C cc), (4, .slice xi I ic), (5, .slice xr R rc)] a)
    (hcall : Calls Try.prog 18 #[.slice xi I ic] w fun e w' => ∃ y, e = .returned (.slice y I I) ∧ G y w')
    (hQ : ∀ a' y w', G y w' → Fr 151 a' → Slots [(0, .int .u64 fc), (1, .int .i64 n), (2, .slice xp K kc), (3, .slice xc C cc), (4, .slice y I I), (5, .slice xr R rc)] a' → Q .normal a' w') :
    Code.wp Try.prog (nthC 7 (bodyC Try.f4)) Q a w := by
  obtain ⟨u, hu, rfl⟩ := lay151 hfr
  obtain ⟨s0, s1, s2, s3, s4, s5, -⟩ := hs
  replace s0 : u 0 = .int .u64 fc := (hu 0).symm.trans s0
  replace s1 : u 1 = .int .i64 n := (hu 1).symm.trans s1
  replace s2 : u 2 = .slice xp K kc := (hu 2).symm.trans s2
  replace s3 : u 3 = .slice xc C cc := (hu 3).symm.trans s3
  replace s4 : u 4 = .slice xi I ic := (hu 4).symm.trans s4
  replace s5 : u 5 = .slice xr R rc := (hu 5).symm.trans s5
  rw [s0, s1, s2, s3, s4, s5]
  clear hfr hu s0 s1 s2 s3 s4 s5
  conv => arg 2; whnf
  have HC : Hid _ := hcall
  have H : Hid _ := hQ
  clear hQ
  clear hcall
  go_wp2_with (go_at_call 18; refine Calls.mono HC.out ?_; rintro e w' ⟨y, rfl, hG⟩)
  exact H.out _ _ _ hG ⟨rfl, rfl⟩ ⟨rfl, rfl, rfl, rfl, rfl, rfl, trivial⟩

set_option maxRecDepth 10000 in
set_option maxHeartbeats 1000000 in
theorem l4_8 (fc n : Int) (xp : Option Addr) (K kc : Nat) (xc : Option Addr) (C cc : Nat) (xi : Option Addr) (I ic : Nat) (xr : Option Addr) (R rc : Nat) (G : Option Addr → World → Prop) (a : Act) (w : World) (Q : Exit → Act → World → Prop) (hfr : Fr 151 a) (hs : Slots [(0, .int .u64 fc), (1, .int .i64 n), (2, .slice xp K kc), (3, .slice xc C cc), (4, .slice xi I ic), (5, .slice xr R rc)] a)
    (hcall : Calls Try.prog 18 #[.slice xr R rc] w fun e w' => ∃ y, e = .returned (.slice y R R) ∧ G y w')
    (hQ : ∀ a' y w', G y w' → Fr 151 a' → Slots [(0, .int .u64 fc), (1, .int .i64 n), (2, .slice xp K kc), (3, .slice xc C cc), (4, .slice xi I ic), (5, .slice y R R)] a' → Q .normal a' w') :
    Code.wp Try.prog (nthC 8 (bodyC Try.f4)) Q a w := by
  obtain ⟨u, hu, rfl⟩ := lay151 hfr
  obtain ⟨s0, s1, s2, s3, s4, s5, -⟩ := hs
  replace s0 : u 0 = .int .u64 fc := (hu 0).symm.trans s0
  replace s1 : u 1 = .int .i64 n := (hu 1).symm.trans s1
  replace s2 : u 2 = .slice xp K kc := (hu 2).symm.trans s2
  replace s3 : u 3 = .slice xc C cc := (hu 3).symm.trans s3
  replace s4 : u 4 = .slice xi I ic := (hu 4).symm.trans s4
  replace s5 : u 5 = .slice xr R rc := (hu 5).symm.trans s5
  rw [s0, s1, s2, s3, s4, s5]
  clear hfr hu s0 s1 s2 s3 s4 s5
  conv => arg 2; whnf
  have HC : Hid _ := hcall
  have H : Hid _ := hQ
  clear hQ
  clear hcall
  go_wp2_with (go_at_call 18; refine Calls.mono HC.out ?_; rintro e w' ⟨y, rfl, hG⟩)
  exact H.out _ _ _ hG ⟨rfl, rfl⟩ ⟨rfl, rfl, rfl, rfl, rfl, rfl, trivial⟩

set_option maxRecDepth 10000 in
set_option maxHeartbeats 1000000 in
theorem l4_9 (fc : Int) (m K I : Nat) (xp xc xi xr : Option Addr) (a : Act) (w : World) (Q : Exit → Act → World → Prop) (hfr : Fr 151 a) (hs : Slots [(0, .int .u64 fc), (1, .int .i64 (m : Nat)), (2, .slice xp K K), (3, .slice xc K K), (4, .slice xi I I), (5, .slice xr I I)] a)
    (hQ : ∀ a', Fr 151 a' → Slots [(0, .int .u64 fc), (1, .int .i64 (m : Nat)), (2, .slice xp K K), (3, .slice xc K K), (4, .slice xi I I), (5, .slice xr I I), (13, .pointer (some ⟨w.heap.size, 0, none⟩))] a' → Q .normal a' (w.alloc (.cells (AW.new fc).arr 88))) :
    Code.wp Try.prog (nthC 9 (bodyC Try.f4)) Q a w := by
  obtain ⟨u, hu, rfl⟩ := lay151 hfr
  obtain ⟨s0, s1, s2, s3, s4, s5, -⟩ := hs
  replace s0 : u 0 = .int .u64 fc := (hu 0).symm.trans s0
  replace s1 : u 1 = .int .i64 (m : Nat) := (hu 1).symm.trans s1
  replace s2 : u 2 = .slice xp K K := (hu 2).symm.trans s2
  replace s3 : u 3 = .slice xc K K := (hu 3).symm.trans s3
  replace s4 : u 4 = .slice xi I I := (hu 4).symm.trans s4
  replace s5 : u 5 = .slice xr I I := (hu 5).symm.trans s5
  rw [s0, s1, s2, s3, s4, s5]
  clear hfr hu s0 s1 s2 s3 s4 s5
  conv => arg 2; whnf
  have H : Hid _ := hQ
  clear hQ
  go_wp2_with (go_at_call 19; refine (new19 _ _).mono ?_; rintro e w' ⟨rfl, rfl⟩)
  exact H.out _ ⟨rfl, rfl⟩ ⟨rfl, rfl, rfl, rfl, rfl, rfl, rfl, trivial⟩

set_option maxRecDepth 10000 in
set_option maxHeartbeats 1000000 in
theorem l4_10i (fc : Int) (m K I : Nat) (xp xc xi xr : Option Addr) (b1 : Nat) (a : Act) (w : World) (Q : Exit → Act → World → Prop) (hfr : Fr 151 a) (hs : Slots [(0, .int .u64 fc), (1, .int .i64 (m : Nat)), (2, .slice xp K K), (3, .slice xc K K), (4, .slice xi I I), (5, .slice xr I I), (13, .pointer (some ⟨b1, 0, none⟩))] a)
    (hQ : ∀ a', Fr 151 a' → Slots [(0, .int .u64 fc), (1, .int .i64 (m : Nat)), (2, .slice xp K K), (3, .slice xc K K), (4, .slice xi I I), (5, .slice xr I I), (13, .pointer (some ⟨b1, 0, none⟩)), (14, .int .i64 (0 : Nat))] a' → Q .normal a' w) :
    Code.wp Try.prog (hdC (nthC 10 (bodyC Try.f4))) Q a w := by
  obtain ⟨u, hu, rfl⟩ := lay151 hfr
  obtain ⟨s0, s1, s2, s3, s4, s5, s13, -⟩ := hs
  replace s0 : u 0 = .int .u64 fc := (hu 0).symm.trans s0
  replace s1 : u 1 = .int .i64 (m : Nat) := (hu 1).symm.trans s1
  replace s2 : u 2 = .slice xp K K := (hu 2).symm.trans s2
  replace s3 : u 3 = .slice xc K K := (hu 3).symm.trans s3
  replace s4 : u 4 = .slice xi I I := (hu 4).symm.trans s4
  replace s5 : u 5 = .slice xr I I := (hu 5).symm.trans s5
  replace s13 : u 13 = .pointer (some ⟨b1, 0, none⟩) := (hu 13).symm.trans s13
  rw [s0, s1, s2, s3, s4, s5, s13]
  clear hfr hu s0 s1 s2 s3 s4 s5 s13
  conv => arg 2; whnf
  have H : Hid _ := hQ
  clear hQ
  go_wp2
  exact H.out _ ⟨rfl, rfl⟩ ⟨rfl, rfl, rfl, rfl, rfl, rfl, rfl, rfl, trivial⟩

set_option maxRecDepth 10000 in
set_option maxHeartbeats 1000000 in
theorem l4_10h (fc : Int) (m K I : Nat) (xp xc xi xr : Option Addr) (b1 : Nat) (k : Nat) (a : Act) (w : World) (Q : Exit → Act → World → Prop) (hfr : Fr 151 a) (hs : Slots [(0, .int .u64 fc), (1, .int .i64 (m : Nat)), (2, .slice xp K K), (3, .slice xc K K), (4, .slice xi I I), (5, .slice xr I I), (13, .pointer (some ⟨b1, 0, none⟩)), (14, .int .i64 (k : Nat))] a)
    (hk : k ≤ K) (lK : (K : Int) ≤ 65536) (hQ : ∀ a', k < K → Fr 151 a' → Slots [(0, .int .u64 fc), (1, .int .i64 (m : Nat)), (2, .slice xp K K), (3, .slice xc K K), (4, .slice xi I I), (5, .slice xr I I), (13, .pointer (some ⟨b1, 0, none⟩)), (14, .int .i64 (k : Nat))] a' → Q .normal a' w) (hexit : ∀ a', k = K → Fr 151 a' → Slots [(0, .int .u64 fc), (1, .int .i64 (m : Nat)), (2, .slice xp K K), (3, .slice xc K K), (4, .slice xi I I), (5, .slice xr I I), (13, .pointer (some ⟨b1, 0, none⟩))] a' → Q (.exit 0) a' w) :
    Code.wp Try.prog (hdC (inC (inC (tlC (nthC 10 (bodyC Try.f4)))))) Q a w := by
  obtain ⟨u, hu, rfl⟩ := lay151 hfr
  obtain ⟨s0, s1, s2, s3, s4, s5, s13, s14, -⟩ := hs
  replace s0 : u 0 = .int .u64 fc := (hu 0).symm.trans s0
  replace s1 : u 1 = .int .i64 (m : Nat) := (hu 1).symm.trans s1
  replace s2 : u 2 = .slice xp K K := (hu 2).symm.trans s2
  replace s3 : u 3 = .slice xc K K := (hu 3).symm.trans s3
  replace s4 : u 4 = .slice xi I I := (hu 4).symm.trans s4
  replace s5 : u 5 = .slice xr I I := (hu 5).symm.trans s5
  replace s13 : u 13 = .pointer (some ⟨b1, 0, none⟩) := (hu 13).symm.trans s13
  replace s14 : u 14 = .int .i64 (k : Nat) := (hu 14).symm.trans s14
  rw [s0, s1, s2, s3, s4, s5, s13, s14]
  clear hfr hu s0 s1 s2 s3 s4 s5 s13 s14
  conv => arg 2; whnf
  have H : Hid _ := hQ
  have HX : Hid _ := hexit
  clear hQ hexit
  by_cases hlt : k < K
  · have l : (k : Int) < K := by omega
    go_wp2
    exact H.out _ hlt ⟨rfl, rfl⟩ ⟨rfl, rfl, rfl, rfl, rfl, rfl, rfl, rfl, trivial⟩
  · have l : ¬ ((k : Int) < K) := by omega
    go_wp2
    exact HX.out _ (by omega) ⟨rfl, rfl⟩ ⟨rfl, rfl, rfl, rfl, rfl, rfl, rfl, trivial⟩

set_option maxRecDepth 10000 in
set_option maxHeartbeats 1000000 in
theorem l4_10n (fc : Int) (m K I : Nat) (xp xc xi xr : Option Addr) (b1 : Nat) (k : Nat) (a : Act) (w : World) (Q : Exit → Act → World → Prop) (hfr : Fr 151 a) (hs : Slots [(0, .int .u64 fc), (1, .int .i64 (m : Nat)), (2, .slice xp K K), (3, .slice xc K K), (4, .slice xi I I), (5, .slice xr I I), (13, .pointer (some ⟨b1, 0, none⟩)), (14, .int .i64 (k : Nat))] a)
    (hk : (k : Int) ≤ 65536) (hQ : ∀ a', Fr 151 a' → Slots [(0, .int .u64 fc), (1, .int .i64 (m : Nat)), (2, .slice xp K K), (3, .slice xc K K), (4, .slice xi I I), (5, .slice xr I I), (13, .pointer (some ⟨b1, 0, none⟩)), (14, .int .i64 (k + 1 : Nat))] a' → Q .normal a' w) :
    Code.wp Try.prog (tlC (tlC (inC (inC (tlC (nthC 10 (bodyC Try.f4))))))) Q a w := by
  obtain ⟨u, hu, rfl⟩ := lay151 hfr
  obtain ⟨s0, s1, s2, s3, s4, s5, s13, s14, -⟩ := hs
  replace s0 : u 0 = .int .u64 fc := (hu 0).symm.trans s0
  replace s1 : u 1 = .int .i64 (m : Nat) := (hu 1).symm.trans s1
  replace s2 : u 2 = .slice xp K K := (hu 2).symm.trans s2
  replace s3 : u 3 = .slice xc K K := (hu 3).symm.trans s3
  replace s4 : u 4 = .slice xi I I := (hu 4).symm.trans s4
  replace s5 : u 5 = .slice xr I I := (hu 5).symm.trans s5
  replace s13 : u 13 = .pointer (some ⟨b1, 0, none⟩) := (hu 13).symm.trans s13
  replace s14 : u 14 = .int .i64 (k : Nat) := (hu 14).symm.trans s14
  rw [s0, s1, s2, s3, s4, s5, s13, s14]
  clear hfr hu s0 s1 s2 s3 s4 s5 s13 s14
  conv => arg 2; whnf
  have H : Hid _ := hQ
  clear hQ
  go_wp2
  exact H.out _ ⟨rfl, rfl⟩ ⟨rfl, rfl, rfl, rfl, rfl, rfl, rfl, rfl, trivial⟩

set_option maxRecDepth 10000 in
set_option maxHeartbeats 1000000 in
theorem l4_11 (fc : Int) (m K I : Nat) (xp xc xi xr : Option Addr) (b1 : Nat) (g1 i1 y1 : Bool) (z1 : Int) (a : Act) (w : World) (Q : Exit → Act → World → Prop) (hfr : Fr 151 a) (hs : Slots [(0, .int .u64 fc), (1, .int .i64 (m : Nat)), (2, .slice xp K K), (3, .slice xc K K), (4, .slice xi I I), (5, .slice xr I I), (13, .pointer (some ⟨b1, 0, none⟩))] a)
    (hcall : Calls Try.prog 21 #[.pointer (some ⟨b1, 0, none⟩)] w fun e w' => e = .returned (.tuple #[.bool g1, .bool i1, .bool y1, .int .u64 z1]) ∧ ∃ n, w' = w.drewN n) (hQ : ∀ a' n, Fr 151 a' → Slots [(0, .int .u64 fc), (1, .int .i64 (m : Nat)), (2, .slice xp K K), (3, .slice xc K K), (4, .slice xi I I), (5, .slice xr I I), (15, .bool g1), (16, .bool i1), (17, .bool y1), (18, .int .u64 z1)] a' → Q .normal a' (w.drewN n)) :
    Code.wp Try.prog (nthC 11 (bodyC Try.f4)) Q a w := by
  obtain ⟨u, hu, rfl⟩ := lay151 hfr
  obtain ⟨s0, s1, s2, s3, s4, s5, s13, -⟩ := hs
  replace s0 : u 0 = .int .u64 fc := (hu 0).symm.trans s0
  replace s1 : u 1 = .int .i64 (m : Nat) := (hu 1).symm.trans s1
  replace s2 : u 2 = .slice xp K K := (hu 2).symm.trans s2
  replace s3 : u 3 = .slice xc K K := (hu 3).symm.trans s3
  replace s4 : u 4 = .slice xi I I := (hu 4).symm.trans s4
  replace s5 : u 5 = .slice xr I I := (hu 5).symm.trans s5
  replace s13 : u 13 = .pointer (some ⟨b1, 0, none⟩) := (hu 13).symm.trans s13
  rw [s0, s1, s2, s3, s4, s5, s13]
  clear hfr hu s0 s1 s2 s3 s4 s5 s13
  conv => arg 2; whnf
  have HC : Hid _ := hcall
  clear hcall
  have H : Hid _ := hQ
  clear hQ
  go_wp2_with (go_at_call 21; refine Calls.mono HC.out ?_; rintro e w' ⟨rfl, nq, rfl⟩)
  exact H.out _ _ ⟨rfl, rfl⟩ ⟨rfl, rfl, rfl, rfl, rfl, rfl, rfl, rfl, rfl, rfl, trivial⟩

set_option maxRecDepth 10000 in
set_option maxHeartbeats 1000000 in
theorem l4_12 (fc : Int) (m K I : Nat) (xp xc xi xr : Option Addr) (g1 i1 y1 : Bool) (z1 : Int) (a : Act) (w : World) (Q : Exit → Act → World → Prop) (hfr : Fr 151 a) (hs : Slots [(0, .int .u64 fc), (1, .int .i64 (m : Nat)), (2, .slice xp K K), (3, .slice xc K K), (4, .slice xi I I), (5, .slice xr I I), (15, .bool g1), (16, .bool i1), (17, .bool y1), (18, .int .u64 z1)] a)
    (hcall : Calls Try.prog 22 #[.int .u64 fc, .int .i64 (m : Nat), .slice xp K K, .slice xc K K, .slice xi I I, .slice xr I I] w fun e w' => e = .returned (.tuple #[.bool g1, .bool i1, .bool y1, .int .u64 z1]) ∧ w' = w) (hQ : ∀ a', Fr 151 a' → Slots [(15, .bool g1), (16, .bool i1), (17, .bool y1), (18, .int .u64 z1), (19, .bool g1), (20, .bool i1), (21, .bool y1), (22, .int .u64 z1)] a' → Q .normal a' w) :
    Code.wp Try.prog (nthC 12 (bodyC Try.f4)) Q a w := by
  obtain ⟨u, hu, rfl⟩ := lay151 hfr
  obtain ⟨s0, s1, s2, s3, s4, s5, s15, s16, s17, s18, -⟩ := hs
  replace s0 : u 0 = .int .u64 fc := (hu 0).symm.trans s0
  replace s1 : u 1 = .int .i64 (m : Nat) := (hu 1).symm.trans s1
  replace s2 : u 2 = .slice xp K K := (hu 2).symm.trans s2
  replace s3 : u 3 = .slice xc K K := (hu 3).symm.trans s3
  replace s4 : u 4 = .slice xi I I := (hu 4).symm.trans s4
  replace s5 : u 5 = .slice xr I I := (hu 5).symm.trans s5
  replace s15 : u 15 = .bool g1 := (hu 15).symm.trans s15
  replace s16 : u 16 = .bool i1 := (hu 16).symm.trans s16
  replace s17 : u 17 = .bool y1 := (hu 17).symm.trans s17
  replace s18 : u 18 = .int .u64 z1 := (hu 18).symm.trans s18
  rw [s0, s1, s2, s3, s4, s5, s15, s16, s17, s18]
  clear hfr hu s0 s1 s2 s3 s4 s5 s15 s16 s17 s18
  conv => arg 2; whnf
  have HC : Hid _ := hcall
  clear hcall
  have H : Hid _ := hQ
  clear hQ
  go_wp2_with (go_at_call 22; refine Calls.mono HC.out ?_; rintro e w' ⟨rfl, rfl⟩)
  exact H.out _ ⟨rfl, rfl⟩ ⟨rfl, rfl, rfl, rfl, rfl, rfl, rfl, rfl, trivial⟩

set_option maxRecDepth 10000 in
set_option maxHeartbeats 1000000 in
theorem l4_13 (g1 i1 y1 : Bool) (z1 : Int) (a : Act) (w : World) (Q : Exit → Act → World → Prop) (hfr : Fr 151 a) (hs : Slots [(15, .bool g1), (16, .bool i1), (17, .bool y1), (18, .int .u64 z1), (19, .bool g1), (20, .bool i1), (21, .bool y1), (22, .int .u64 z1)] a)
    (hQ : ∀ a', Fr 151 a' → sl a' 12 = .bool true → Q .ret a' w) :
    Code.wp Try.prog (dropC 13 (bodyC Try.f4)) Q a w := by
  obtain ⟨u, hu, rfl⟩ := lay151 hfr
  obtain ⟨s15, s16, s17, s18, s19, s20, s21, s22, -⟩ := hs
  replace s15 : u 15 = .bool g1 := (hu 15).symm.trans s15
  replace s16 : u 16 = .bool i1 := (hu 16).symm.trans s16
  replace s17 : u 17 = .bool y1 := (hu 17).symm.trans s17
  replace s18 : u 18 = .int .u64 z1 := (hu 18).symm.trans s18
  replace s19 : u 19 = .bool g1 := (hu 19).symm.trans s19
  replace s20 : u 20 = .bool i1 := (hu 20).symm.trans s20
  replace s21 : u 21 = .bool y1 := (hu 21).symm.trans s21
  replace s22 : u 22 = .int .u64 z1 := (hu 22).symm.trans s22
  rw [s15, s16, s17, s18, s19, s20, s21, s22]
  clear hfr hu s15 s16 s17 s18 s19 s20 s21 s22
  conv => arg 2; whnf
  have H : Hid _ := hQ
  clear hQ
  cases g1 <;> cases i1 <;> cases y1
  all_goals
    go_wp2
    exact H.out _ ⟨rfl, rfl⟩ rfl

theorem l4_17_s : Region.noSelect (regOps (inC (hdC (tlC (inC (inC (tlC (nthC 10 (bodyC Try.f4))))))))) = true := by kernel_rfl
theorem l4_17_i0 : (regOps (inC (hdC (tlC (inC (inC (tlC (nthC 10 (bodyC Try.f4)))))))))[0]? = some (regOp (inC (hdC (tlC (inC (inC (tlC (nthC 10 (bodyC Try.f4)))))))) 0) := by kernel_rfl
theorem l4_17_d0 : (regOp (inC (hdC (tlC (inC (inC (tlC (nthC 10 (bodyC Try.f4)))))))) 0).dst = some 86 := by kernel_rfl
theorem l4_17_g0 : (regOp (inC (hdC (tlC (inC (inC (tlC (nthC 10 (bodyC Try.f4)))))))) 0).guard = none := by kernel_rfl
theorem l4_17_o0 : (regOp (inC (hdC (tlC (inC (inC (tlC (nthC 10 (bodyC Try.f4)))))))) 0).op = Op.move (.tmp 13) := by kernel_rfl
theorem l4_17_i1 : (regOps (inC (hdC (tlC (inC (inC (tlC (nthC 10 (bodyC Try.f4)))))))))[1]? = some (regOp (inC (hdC (tlC (inC (inC (tlC (nthC 10 (bodyC Try.f4)))))))) 1) := by kernel_rfl
theorem l4_17_d1 : (regOp (inC (hdC (tlC (inC (inC (tlC (nthC 10 (bodyC Try.f4)))))))) 1).dst = some 87 := by kernel_rfl
theorem l4_17_g1 : (regOp (inC (hdC (tlC (inC (inC (tlC (nthC 10 (bodyC Try.f4)))))))) 1).guard = none := by kernel_rfl
theorem l4_17_o1 : (regOp (inC (hdC (tlC (inC (inC (tlC (nthC 10 (bodyC Try.f4)))))))) 1).op = Op.move (.tmp 2) := by kernel_rfl
theorem l4_17_i2 : (regOps (inC (hdC (tlC (inC (inC (tlC (nthC 10 (bodyC Try.f4)))))))))[2]? = some (regOp (inC (hdC (tlC (inC (inC (tlC (nthC 10 (bodyC Try.f4)))))))) 2) := by kernel_rfl
theorem l4_17_d2 : (regOp (inC (hdC (tlC (inC (inC (tlC (nthC 10 (bodyC Try.f4)))))))) 2).dst = some 88 := by kernel_rfl
theorem l4_17_g2 : (regOp (inC (hdC (tlC (inC (inC (tlC (nthC 10 (bodyC Try.f4)))))))) 2).guard = none := by kernel_rfl
theorem l4_17_o2 : (regOp (inC (hdC (tlC (inC (inC (tlC (nthC 10 (bodyC Try.f4)))))))) 2).op = Op.move (.tmp 14) := by kernel_rfl
theorem l4_17_i3 : (regOps (inC (hdC (tlC (inC (inC (tlC (nthC 10 (bodyC Try.f4)))))))))[3]? = some (regOp (inC (hdC (tlC (inC (inC (tlC (nthC 10 (bodyC Try.f4)))))))) 3) := by kernel_rfl
theorem l4_17_d3 : (regOp (inC (hdC (tlC (inC (inC (tlC (nthC 10 (bodyC Try.f4)))))))) 3).dst = some 89 := by kernel_rfl
theorem l4_17_g3 : (regOp (inC (hdC (tlC (inC (inC (tlC (nthC 10 (bodyC Try.f4)))))))) 3).guard = none := by kernel_rfl
theorem l4_17_o3 : (regOp (inC (hdC (tlC (inC (inC (tlC (nthC 10 (bodyC Try.f4)))))))) 3).op = Op.indexAddr 23 (.tmp 87) (.tmp 88) := by kernel_rfl
theorem l4_17_i4 : (regOps (inC (hdC (tlC (inC (inC (tlC (nthC 10 (bodyC Try.f4)))))))))[4]? = some (regOp (inC (hdC (tlC (inC (inC (tlC (nthC 10 (bodyC Try.f4)))))))) 4) := by kernel_rfl
theorem l4_17_d4 : (regOp (inC (hdC (tlC (inC (inC (tlC (nthC 10 (bodyC Try.f4)))))))) 4).dst = some 90 := by kernel_rfl
theorem l4_17_g4 : (regOp (inC (hdC (tlC (inC (inC (tlC (nthC 10 (bodyC Try.f4)))))))) 4).guard = none := by kernel_rfl
theorem l4_17_o4 : (regOp (inC (hdC (tlC (inC (inC (tlC (nthC 10 (bodyC Try.f4)))))))) 4).op = Op.load 31 (.tmp 89) := by kernel_rfl
theorem l4_17_i5 : (regOps (inC (hdC (tlC (inC (inC (tlC (nthC 10 (bodyC Try.f4)))))))))[5]? = some (regOp (inC (hdC (tlC (inC (inC (tlC (nthC 10 (bodyC Try.f4)))))))) 5) := by kernel_rfl
theorem l4_17_d5 : (regOp (inC (hdC (tlC (inC (inC (tlC (nthC 10 (bodyC Try.f4)))))))) 5).dst = some 91 := by kernel_rfl
theorem l4_17_g5 : (regOp (inC (hdC (tlC (inC (inC (tlC (nthC 10 (bodyC Try.f4)))))))) 5).guard = none := by kernel_rfl
theorem l4_17_o5 : (regOp (inC (hdC (tlC (inC (inC (tlC (nthC 10 (bodyC Try.f4)))))))) 5).op = Op.move (.tmp 3) := by kernel_rfl
theorem l4_17_i6 : (regOps (inC (hdC (tlC (inC (inC (tlC (nthC 10 (bodyC Try.f4)))))))))[6]? = some (regOp (inC (hdC (tlC (inC (inC (tlC (nthC 10 (bodyC Try.f4)))))))) 6) := by kernel_rfl
theorem l4_17_d6 : (regOp (inC (hdC (tlC (inC (inC (tlC (nthC 10 (bodyC Try.f4)))))))) 6).dst = some 92 := by kernel_rfl
theorem l4_17_g6 : (regOp (inC (hdC (tlC (inC (inC (tlC (nthC 10 (bodyC Try.f4)))))))) 6).guard = none := by kernel_rfl
theorem l4_17_o6 : (regOp (inC (hdC (tlC (inC (inC (tlC (nthC 10 (bodyC Try.f4)))))))) 6).op = Op.move (.tmp 14) := by kernel_rfl
theorem l4_17_i7 : (regOps (inC (hdC (tlC (inC (inC (tlC (nthC 10 (bodyC Try.f4)))))))))[7]? = some (regOp (inC (hdC (tlC (inC (inC (tlC (nthC 10 (bodyC Try.f4)))))))) 7) := by kernel_rfl
theorem l4_17_d7 : (regOp (inC (hdC (tlC (inC (inC (tlC (nthC 10 (bodyC Try.f4)))))))) 7).dst = some 93 := by kernel_rfl
theorem l4_17_g7 : (regOp (inC (hdC (tlC (inC (inC (tlC (nthC 10 (bodyC Try.f4)))))))) 7).guard = none := by kernel_rfl
theorem l4_17_o7 : (regOp (inC (hdC (tlC (inC (inC (tlC (nthC 10 (bodyC Try.f4)))))))) 7).op = Op.indexAddr 55 (.tmp 91) (.tmp 92) := by kernel_rfl
theorem l4_17_i8 : (regOps (inC (hdC (tlC (inC (inC (tlC (nthC 10 (bodyC Try.f4)))))))))[8]? = some (regOp (inC (hdC (tlC (inC (inC (tlC (nthC 10 (bodyC Try.f4)))))))) 8) := by kernel_rfl
theorem l4_17_d8 : (regOp (inC (hdC (tlC (inC (inC (tlC (nthC 10 (bodyC Try.f4)))))))) 8).dst = some 94 := by kernel_rfl
theorem l4_17_g8 : (regOp (inC (hdC (tlC (inC (inC (tlC (nthC 10 (bodyC Try.f4)))))))) 8).guard = none := by kernel_rfl
theorem l4_17_o8 : (regOp (inC (hdC (tlC (inC (inC (tlC (nthC 10 (bodyC Try.f4)))))))) 8).op = Op.load 3 (.tmp 93) := by kernel_rfl
theorem l4_17_i9 : (regOps (inC (hdC (tlC (inC (inC (tlC (nthC 10 (bodyC Try.f4)))))))))[9]? = some (regOp (inC (hdC (tlC (inC (inC (tlC (nthC 10 (bodyC Try.f4)))))))) 9) := by kernel_rfl
theorem l4_17_d9 : (regOp (inC (hdC (tlC (inC (inC (tlC (nthC 10 (bodyC Try.f4)))))))) 9).dst = some 95 := by kernel_rfl
theorem l4_17_g9 : (regOp (inC (hdC (tlC (inC (inC (tlC (nthC 10 (bodyC Try.f4)))))))) 9).guard = none := by kernel_rfl
theorem l4_17_o9 : (regOp (inC (hdC (tlC (inC (inC (tlC (nthC 10 (bodyC Try.f4)))))))) 9).op = Op.move (.tmp 4) := by kernel_rfl
theorem l4_17_i10 : (regOps (inC (hdC (tlC (inC (inC (tlC (nthC 10 (bodyC Try.f4)))))))))[10]? = some (regOp (inC (hdC (tlC (inC (inC (tlC (nthC 10 (bodyC Try.f4)))))))) 10) := by kernel_rfl
theorem l4_17_d10 : (regOp (inC (hdC (tlC (inC (inC (tlC (nthC 10 (bodyC Try.f4)))))))) 10).dst = some 96 := by kernel_rfl
theorem l4_17_g10 : (regOp (inC (hdC (tlC (inC (inC (tlC (nthC 10 (bodyC Try.f4)))))))) 10).guard = none := by kernel_rfl
theorem l4_17_o10 : (regOp (inC (hdC (tlC (inC (inC (tlC (nthC 10 (bodyC Try.f4)))))))) 10).op = Op.move (.tmp 14) := by kernel_rfl
theorem l4_17_i11 : (regOps (inC (hdC (tlC (inC (inC (tlC (nthC 10 (bodyC Try.f4)))))))))[11]? = some (regOp (inC (hdC (tlC (inC (inC (tlC (nthC 10 (bodyC Try.f4)))))))) 11) := by kernel_rfl
theorem l4_17_d11 : (regOp (inC (hdC (tlC (inC (inC (tlC (nthC 10 (bodyC Try.f4)))))))) 11).dst = some 97 := by kernel_rfl
theorem l4_17_g11 : (regOp (inC (hdC (tlC (inC (inC (tlC (nthC 10 (bodyC Try.f4)))))))) 11).guard = none := by kernel_rfl
theorem l4_17_o11 : (regOp (inC (hdC (tlC (inC (inC (tlC (nthC 10 (bodyC Try.f4)))))))) 11).op = Op.move (.tmp 1) := by kernel_rfl
theorem l4_17_i12 : (regOps (inC (hdC (tlC (inC (inC (tlC (nthC 10 (bodyC Try.f4)))))))))[12]? = some (regOp (inC (hdC (tlC (inC (inC (tlC (nthC 10 (bodyC Try.f4)))))))) 12) := by kernel_rfl
theorem l4_17_d12 : (regOp (inC (hdC (tlC (inC (inC (tlC (nthC 10 (bodyC Try.f4)))))))) 12).dst = some 98 := by kernel_rfl
theorem l4_17_g12 : (regOp (inC (hdC (tlC (inC (inC (tlC (nthC 10 (bodyC Try.f4)))))))) 12).guard = none := by kernel_rfl
theorem l4_17_o12 : (regOp (inC (hdC (tlC (inC (inC (tlC (nthC 10 (bodyC Try.f4)))))))) 12).op = Op.binOp .mul 3 (.tmp 96) (.tmp 97) 3 := by kernel_rfl
theorem l4_17_i13 : (regOps (inC (hdC (tlC (inC (inC (tlC (nthC 10 (bodyC Try.f4)))))))))[13]? = some (regOp (inC (hdC (tlC (inC (inC (tlC (nthC 10 (bodyC Try.f4)))))))) 13) := by kernel_rfl
theorem l4_17_d13 : (regOp (inC (hdC (tlC (inC (inC (tlC (nthC 10 (bodyC Try.f4)))))))) 13).dst = some 99 := by kernel_rfl
theorem l4_17_g13 : (regOp (inC (hdC (tlC (inC (inC (tlC (nthC 10 (bodyC Try.f4)))))))) 13).guard = none := by kernel_rfl
theorem l4_17_o13 : (regOp (inC (hdC (tlC (inC (inC (tlC (nthC 10 (bodyC Try.f4)))))))) 13).op = Op.move (.tmp 14) := by kernel_rfl
theorem l4_17_i14 : (regOps (inC (hdC (tlC (inC (inC (tlC (nthC 10 (bodyC Try.f4)))))))))[14]? = some (regOp (inC (hdC (tlC (inC (inC (tlC (nthC 10 (bodyC Try.f4)))))))) 14) := by kernel_rfl
theorem l4_17_d14 : (regOp (inC (hdC (tlC (inC (inC (tlC (nthC 10 (bodyC Try.f4)))))))) 14).dst = some 100 := by kernel_rfl
theorem l4_17_g14 : (regOp (inC (hdC (tlC (inC (inC (tlC (nthC 10 (bodyC Try.f4)))))))) 14).guard = none := by kernel_rfl
theorem l4_17_o14 : (regOp (inC (hdC (tlC (inC (inC (tlC (nthC 10 (bodyC Try.f4)))))))) 14).op = Op.binOp .add 3 (.tmp 99) (.const (.int .i64 1)) 3 := by kernel_rfl
theorem l4_17_i15 : (regOps (inC (hdC (tlC (inC (inC (tlC (nthC 10 (bodyC Try.f4)))))))))[15]? = some (regOp (inC (hdC (tlC (inC (inC (tlC (nthC 10 (bodyC Try.f4)))))))) 15) := by kernel_rfl
theorem l4_17_d15 : (regOp (inC (hdC (tlC (inC (inC (tlC (nthC 10 (bodyC Try.f4)))))))) 15).dst = some 101 := by kernel_rfl
theorem l4_17_g15 : (regOp (inC (hdC (tlC (inC (inC (tlC (nthC 10 (bodyC Try.f4)))))))) 15).guard = none := by kernel_rfl
theorem l4_17_o15 : (regOp (inC (hdC (tlC (inC (inC (tlC (nthC 10 (bodyC Try.f4)))))))) 15).op = Op.move (.tmp 1) := by kernel_rfl
theorem l4_17_i16 : (regOps (inC (hdC (tlC (inC (inC (tlC (nthC 10 (bodyC Try.f4)))))))))[16]? = some (regOp (inC (hdC (tlC (inC (inC (tlC (nthC 10 (bodyC Try.f4)))))))) 16) := by kernel_rfl
theorem l4_17_d16 : (regOp (inC (hdC (tlC (inC (inC (tlC (nthC 10 (bodyC Try.f4)))))))) 16).dst = some 102 := by kernel_rfl
theorem l4_17_g16 : (regOp (inC (hdC (tlC (inC (inC (tlC (nthC 10 (bodyC Try.f4)))))))) 16).guard = none := by kernel_rfl
theorem l4_17_o16 : (regOp (inC (hdC (tlC (inC (inC (tlC (nthC 10 (bodyC Try.f4)))))))) 16).op = Op.binOp .mul 3 (.tmp 100) (.tmp 101) 3 := by kernel_rfl
theorem l4_17_i17 : (regOps (inC (hdC (tlC (inC (inC (tlC (nthC 10 (bodyC Try.f4)))))))))[17]? = some (regOp (inC (hdC (tlC (inC (inC (tlC (nthC 10 (bodyC Try.f4)))))))) 17) := by kernel_rfl
theorem l4_17_d17 : (regOp (inC (hdC (tlC (inC (inC (tlC (nthC 10 (bodyC Try.f4)))))))) 17).dst = some 103 := by kernel_rfl
theorem l4_17_g17 : (regOp (inC (hdC (tlC (inC (inC (tlC (nthC 10 (bodyC Try.f4)))))))) 17).guard = none := by kernel_rfl
theorem l4_17_o17 : (regOp (inC (hdC (tlC (inC (inC (tlC (nthC 10 (bodyC Try.f4)))))))) 17).op = Op.slice 56 (.tmp 95) (some (.tmp 98)) (some (.tmp 102)) none := by kernel_rfl
theorem l4_17_i18 : (regOps (inC (hdC (tlC (inC (inC (tlC (nthC 10 (bodyC Try.f4)))))))))[18]? = some (regOp (inC (hdC (tlC (inC (inC (tlC (nthC 10 (bodyC Try.f4)))))))) 18) := by kernel_rfl
theorem l4_17_d18 : (regOp (inC (hdC (tlC (inC (inC (tlC (nthC 10 (bodyC Try.f4)))))))) 18).dst = some 104 := by kernel_rfl
theorem l4_17_g18 : (regOp (inC (hdC (tlC (inC (inC (tlC (nthC 10 (bodyC Try.f4)))))))) 18).guard = none := by kernel_rfl
theorem l4_17_o18 : (regOp (inC (hdC (tlC (inC (inC (tlC (nthC 10 (bodyC Try.f4)))))))) 18).op = Op.move (.tmp 5) := by kernel_rfl
theorem l4_17_i19 : (regOps (inC (hdC (tlC (inC (inC (tlC (nthC 10 (bodyC Try.f4)))))))))[19]? = some (regOp (inC (hdC (tlC (inC (inC (tlC (nthC 10 (bodyC Try.f4)))))))) 19) := by kernel_rfl
theorem l4_17_d19 : (regOp (inC (hdC (tlC (inC (inC (tlC (nthC 10 (bodyC Try.f4)))))))) 19).dst = some 105 := by kernel_rfl
theorem l4_17_g19 : (regOp (inC (hdC (tlC (inC (inC (tlC (nthC 10 (bodyC Try.f4)))))))) 19).guard = none := by kernel_rfl
theorem l4_17_o19 : (regOp (inC (hdC (tlC (inC (inC (tlC (nthC 10 (bodyC Try.f4)))))))) 19).op = Op.move (.tmp 14) := by kernel_rfl
theorem l4_17_i20 : (regOps (inC (hdC (tlC (inC (inC (tlC (nthC 10 (bodyC Try.f4)))))))))[20]? = some (regOp (inC (hdC (tlC (inC (inC (tlC (nthC 10 (bodyC Try.f4)))))))) 20) := by kernel_rfl
theorem l4_17_d20 : (regOp (inC (hdC (tlC (inC (inC (tlC (nthC 10 (bodyC Try.f4)))))))) 20).dst = some 106 := by kernel_rfl
theorem l4_17_g20 : (regOp (inC (hdC (tlC (inC (inC (tlC (nthC 10 (bodyC Try.f4)))))))) 20).guard = none := by kernel_rfl
theorem l4_17_o20 : (regOp (inC (hdC (tlC (inC (inC (tlC (nthC 10 (bodyC Try.f4)))))))) 20).op = Op.move (.tmp 1) := by kernel_rfl
theorem l4_17_i21 : (regOps (inC (hdC (tlC (inC (inC (tlC (nthC 10 (bodyC Try.f4)))))))))[21]? = some (regOp (inC (hdC (tlC (inC (inC (tlC (nthC 10 (bodyC Try.f4)))))))) 21) := by kernel_rfl
theorem l4_17_d21 : (regOp (inC (hdC (tlC (inC (inC (tlC (nthC 10 (bodyC Try.f4)))))))) 21).dst = some 107 := by kernel_rfl
theorem l4_17_g21 : (regOp (inC (hdC (tlC (inC (inC (tlC (nthC 10 (bodyC Try.f4)))))))) 21).guard = none := by kernel_rfl
theorem l4_17_o21 : (regOp (inC (hdC (tlC (inC (inC (tlC (nthC 10 (bodyC Try.f4)))))))) 21).op = Op.binOp .mul 3 (.tmp 105) (.tmp 106) 3 := by kernel_rfl
theorem l4_17_i22 : (regOps (inC (hdC (tlC (inC (inC (tlC (nthC 10 (bodyC Try.f4)))))))))[22]? = some (regOp (inC (hdC (tlC (inC (inC (tlC (nthC 10 (bodyC Try.f4)))))))) 22) := by kernel_rfl
theorem l4_17_d22 : (regOp (inC (hdC (tlC (inC (inC (tlC (nthC 10 (bodyC Try.f4)))))))) 22).dst = some 108 := by kernel_rfl
theorem l4_17_g22 : (regOp (inC (hdC (tlC (inC (inC (tlC (nthC 10 (bodyC Try.f4)))))))) 22).guard = none := by kernel_rfl
theorem l4_17_o22 : (regOp (inC (hdC (tlC (inC (inC (tlC (nthC 10 (bodyC Try.f4)))))))) 22).op = Op.move (.tmp 14) := by kernel_rfl
theorem l4_17_i23 : (regOps (inC (hdC (tlC (inC (inC (tlC (nthC 10 (bodyC Try.f4)))))))))[23]? = some (regOp (inC (hdC (tlC (inC (inC (tlC (nthC 10 (bodyC Try.f4)))))))) 23) := by kernel_rfl
theorem l4_17_d23 : (regOp (inC (hdC (tlC (inC (inC (tlC (nthC 10 (bodyC Try.f4)))))))) 23).dst = some 109 := by kernel_rfl
theorem l4_17_g23 : (regOp (inC (hdC (tlC (inC (inC (tlC (nthC 10 (bodyC Try.f4)))))))) 23).guard = none := by kernel_rfl
theorem l4_17_o23 : (regOp (inC (hdC (tlC (inC (inC (tlC (nthC 10 (bodyC Try.f4)))))))) 23).op = Op.binOp .add 3 (.tmp 108) (.const (.int .i64 1)) 3 := by kernel_rfl
theorem l4_17_i24 : (regOps (inC (hdC (tlC (inC (inC (tlC (nthC 10 (bodyC Try.f4)))))))))[24]? = some (regOp (inC (hdC (tlC (inC (inC (tlC (nthC 10 (bodyC Try.f4)))))))) 24) := by kernel_rfl
theorem l4_17_d24 : (regOp (inC (hdC (tlC (inC (inC (tlC (nthC 10 (bodyC Try.f4)))))))) 24).dst = some 110 := by kernel_rfl
theorem l4_17_g24 : (regOp (inC (hdC (tlC (inC (inC (tlC (nthC 10 (bodyC Try.f4)))))))) 24).guard = none := by kernel_rfl
theorem l4_17_o24 : (regOp (inC (hdC (tlC (inC (inC (tlC (nthC 10 (bodyC Try.f4)))))))) 24).op = Op.move (.tmp 1) := by kernel_rfl
theorem l4_17_i25 : (regOps (inC (hdC (tlC (inC (inC (tlC (nthC 10 (bodyC Try.f4)))))))))[25]? = some (regOp (inC (hdC (tlC (inC (inC (tlC (nthC 10 (bodyC Try.f4)))))))) 25) := by kernel_rfl
theorem l4_17_d25 : (regOp (inC (hdC (tlC (inC (inC (tlC (nthC 10 (bodyC Try.f4)))))))) 25).dst = some 111 := by kernel_rfl
theorem l4_17_g25 : (regOp (inC (hdC (tlC (inC (inC (tlC (nthC 10 (bodyC Try.f4)))))))) 25).guard = none := by kernel_rfl
theorem l4_17_o25 : (regOp (inC (hdC (tlC (inC (inC (tlC (nthC 10 (bodyC Try.f4)))))))) 25).op = Op.binOp .mul 3 (.tmp 109) (.tmp 110) 3 := by kernel_rfl
theorem l4_17_i26 : (regOps (inC (hdC (tlC (inC (inC (tlC (nthC 10 (bodyC Try.f4)))))))))[26]? = some (regOp (inC (hdC (tlC (inC (inC (tlC (nthC 10 (bodyC Try.f4)))))))) 26) := by kernel_rfl
theorem l4_17_d26 : (regOp (inC (hdC (tlC (inC (inC (tlC (nthC 10 (bodyC Try.f4)))))))) 26).dst = some 112 := by kernel_rfl
theorem l4_17_g26 : (regOp (inC (hdC (tlC (inC (inC (tlC (nthC 10 (bodyC Try.f4)))))))) 26).guard = none := by kernel_rfl
theorem l4_17_o26 : (regOp (inC (hdC (tlC (inC (inC (tlC (nthC 10 (bodyC Try.f4)))))))) 26).op = Op.slice 56 (.tmp 104) (some (.tmp 107)) (some (.tmp 111)) none := by kernel_rfl
theorem l4_17_i27 : (regOps (inC (hdC (tlC (inC (inC (tlC (nthC 10 (bodyC Try.f4)))))))))[27]? = some (regOp (inC (hdC (tlC (inC (inC (tlC (nthC 10 (bodyC Try.f4)))))))) 27) := by kernel_rfl
theorem l4_17_d27 : (regOp (inC (hdC (tlC (inC (inC (tlC (nthC 10 (bodyC Try.f4)))))))) 27).dst = some 113 := by kernel_rfl
theorem l4_17_g27 : (regOp (inC (hdC (tlC (inC (inC (tlC (nthC 10 (bodyC Try.f4)))))))) 27).guard = none := by kernel_rfl
theorem l4_17_o27 : (regOp (inC (hdC (tlC (inC (inC (tlC (nthC 10 (bodyC Try.f4)))))))) 27).op = Op.call { callee := .value (.func 20), args := #[.tmp 86, .tmp 90, .tmp 94, .tmp 103, .tmp 112], argTypes := #[61, 31, 3, 56, 56] } := by kernel_rfl
theorem l4_17_f0 : Region.free .any (regOps (inC (hdC (tlC (inC (inC (tlC (nthC 10 (bodyC Try.f4))))))))) #[false, false, false, false, false, false, false, false, false, false, false, false, false, false, false, false, false, false, false, false, false, false, false, false, false, false, false, false] 0 = true := by kernel_rfl
theorem l4_17_r0 : (Region.ready .any (regOps (inC (hdC (tlC (inC (inC (tlC (nthC 10 (bodyC Try.f4))))))))) #[false, false, false, false, false, false, false, false, false, false, false, false, false, false, false, false, false, false, false, false, false, false, false, false, false, false, false, false]).contains 0 = true := by kernel_rfl
theorem l4_17_f1 : Region.free .any (regOps (inC (hdC (tlC (inC (inC (tlC (nthC 10 (bodyC Try.f4))))))))) #[true, false, false, false, false, false, false, false, false, false, false, false, false, false, false, false, false, false, false, false, false, false, false, false, false, false, false, false] 1 = true := by kernel_rfl
theorem l4_17_r1 : (Region.ready .any (regOps (inC (hdC (tlC (inC (inC (tlC (nthC 10 (bodyC Try.f4))))))))) #[true, false, false, false, false, false, false, false, false, false, false, false, false, false, false, false, false, false, false, false, false, false, false, false, false, false, false, false]).contains 1 = true := by kernel_rfl
theorem l4_17_f2 : Region.free .any (regOps (inC (hdC (tlC (inC (inC (tlC (nthC 10 (bodyC Try.f4))))))))) #[true, true, false, false, false, false, false, false, false, false, false, false, false, false, false, false, false, false, false, false, false, false, false, false, false, false, false, false] 2 = true := by kernel_rfl
theorem l4_17_r2 : (Region.ready .any (regOps (inC (hdC (tlC (inC (inC (tlC (nthC 10 (bodyC Try.f4))))))))) #[true, true, false, false, false, false, false, false, false, false, false, false, false, false, false, false, false, false, false, false, false, false, false, false, false, false, false, false]).contains 2 = true := by kernel_rfl
theorem l4_17_f3 : Region.free .any (regOps (inC (hdC (tlC (inC (inC (tlC (nthC 10 (bodyC Try.f4))))))))) #[true, true, true, false, false, false, false, false, false, false, false, false, false, false, false, false, false, false, false, false, false, false, false, false, false, false, false, false] 3 = true := by kernel_rfl
theorem l4_17_r3 : (Region.ready .any (regOps (inC (hdC (tlC (inC (inC (tlC (nthC 10 (bodyC Try.f4))))))))) #[true, true, true, false, false, false, false, false, false, false, false, false, false, false, false, false, false, false, false, false, false, false, false, false, false, false, false, false]).contains 3 = true := by kernel_rfl
theorem l4_17_f4 : Region.free .any (regOps (inC (hdC (tlC (inC (inC (tlC (nthC 10 (bodyC Try.f4))))))))) #[true, true, true, true, false, false, false, false, false, false, false, false, false, false, false, false, false, false, false, false, false, false, false, false, false, false, false, false] 4 = true := by kernel_rfl
theorem l4_17_r4 : (Region.ready .any (regOps (inC (hdC (tlC (inC (inC (tlC (nthC 10 (bodyC Try.f4))))))))) #[true, true, true, true, false, false, false, false, false, false, false, false, false, false, false, false, false, false, false, false, false, false, false, false, false, false, false, false]).contains 4 = true := by kernel_rfl
theorem l4_17_f5 : Region.free .any (regOps (inC (hdC (tlC (inC (inC (tlC (nthC 10 (bodyC Try.f4))))))))) #[true, true, true, true, true, false, false, false, false, false, false, false, false, false, false, false, false, false, false, false, false, false, false, false, false, false, false, false] 5 = true := by kernel_rfl
theorem l4_17_r5 : (Region.ready .any (regOps (inC (hdC (tlC (inC (inC (tlC (nthC 10 (bodyC Try.f4))))))))) #[true, true, true, true, true, false, false, false, false, false, false, false, false, false, false, false, false, false, false, false, false, false, false, false, false, false, false, false]).contains 5 = true := by kernel_rfl
theorem l4_17_f6 : Region.free .any (regOps (inC (hdC (tlC (inC (inC (tlC (nthC 10 (bodyC Try.f4))))))))) #[true, true, true, true, true, true, false, false, false, false, false, false, false, false, false, false, false, false, false, false, false, false, false, false, false, false, false, false] 6 = true := by kernel_rfl
theorem l4_17_r6 : (Region.ready .any (regOps (inC (hdC (tlC (inC (inC (tlC (nthC 10 (bodyC Try.f4))))))))) #[true, true, true, true, true, true, false, false, false, false, false, false, false, false, false, false, false, false, false, false, false, false, false, false, false, false, false, false]).contains 6 = true := by kernel_rfl
theorem l4_17_f7 : Region.free .any (regOps (inC (hdC (tlC (inC (inC (tlC (nthC 10 (bodyC Try.f4))))))))) #[true, true, true, true, true, true, true, false, false, false, false, false, false, false, false, false, false, false, false, false, false, false, false, false, false, false, false, false] 7 = true := by kernel_rfl
theorem l4_17_r7 : (Region.ready .any (regOps (inC (hdC (tlC (inC (inC (tlC (nthC 10 (bodyC Try.f4))))))))) #[true, true, true, true, true, true, true, false, false, false, false, false, false, false, false, false, false, false, false, false, false, false, false, false, false, false, false, false]).contains 7 = true := by kernel_rfl
theorem l4_17_f8 : Region.free .any (regOps (inC (hdC (tlC (inC (inC (tlC (nthC 10 (bodyC Try.f4))))))))) #[true, true, true, true, true, true, true, true, false, false, false, false, false, false, false, false, false, false, false, false, false, false, false, false, false, false, false, false] 8 = true := by kernel_rfl
theorem l4_17_r8 : (Region.ready .any (regOps (inC (hdC (tlC (inC (inC (tlC (nthC 10 (bodyC Try.f4))))))))) #[true, true, true, true, true, true, true, true, false, false, false, false, false, false, false, false, false, false, false, false, false, false, false, false, false, false, false, false]).contains 8 = true := by kernel_rfl
theorem l4_17_f9 : Region.free .any (regOps (inC (hdC (tlC (inC (inC (tlC (nthC 10 (bodyC Try.f4))))))))) #[true, true, true, true, true, true, true, true, true, false, false, false, false, false, false, false, false, false, false, false, false, false, false, false, false, false, false, false] 9 = true := by kernel_rfl
theorem l4_17_r9 : (Region.ready .any (regOps (inC (hdC (tlC (inC (inC (tlC (nthC 10 (bodyC Try.f4))))))))) #[true, true, true, true, true, true, true, true, true, false, false, false, false, false, false, false, false, false, false, false, false, false, false, false, false, false, false, false]).contains 9 = true := by kernel_rfl
theorem l4_17_f10 : Region.free .any (regOps (inC (hdC (tlC (inC (inC (tlC (nthC 10 (bodyC Try.f4))))))))) #[true, true, true, true, true, true, true, true, true, true, false, false, false, false, false, false, false, false, false, false, false, false, false, false, false, false, false, false] 10 = true := by kernel_rfl
theorem l4_17_r10 : (Region.ready .any (regOps (inC (hdC (tlC (inC (inC (tlC (nthC 10 (bodyC Try.f4))))))))) #[true, true, true, true, true, true, true, true, true, true, false, false, false, false, false, false, false, false, false, false, false, false, false, false, false, false, false, false]).contains 10 = true := by kernel_rfl
theorem l4_17_f11 : Region.free .any (regOps (inC (hdC (tlC (inC (inC (tlC (nthC 10 (bodyC Try.f4))))))))) #[true, true, true, true, true, true, true, true, true, true, true, false, false, false, false, false, false, false, false, false, false, false, false, false, false, false, false, false] 11 = true := by kernel_rfl
theorem l4_17_r11 : (Region.ready .any (regOps (inC (hdC (tlC (inC (inC (tlC (nthC 10 (bodyC Try.f4))))))))) #[true, true, true, true, true, true, true, true, true, true, true, false, false, false, false, false, false, false, false, false, false, false, false, false, false, false, false, false]).contains 11 = true := by kernel_rfl
theorem l4_17_f12 : Region.free .any (regOps (inC (hdC (tlC (inC (inC (tlC (nthC 10 (bodyC Try.f4))))))))) #[true, true, true, true, true, true, true, true, true, true, true, true, false, false, false, false, false, false, false, false, false, false, false, false, false, false, false, false] 12 = true := by kernel_rfl
theorem l4_17_r12 : (Region.ready .any (regOps (inC (hdC (tlC (inC (inC (tlC (nthC 10 (bodyC Try.f4))))))))) #[true, true, true, true, true, true, true, true, true, true, true, true, false, false, false, false, false, false, false, false, false, false, false, false, false, false, false, false]).contains 12 = true := by kernel_rfl
theorem l4_17_f13 : Region.free .any (regOps (inC (hdC (tlC (inC (inC (tlC (nthC 10 (bodyC Try.f4))))))))) #[true, true, true, true, true, true, true, true, true, true, true, true, true, false, false, false, false, false, false, false, false, false, false, false, false, false, false, false] 13 = true := by kernel_rfl
theorem l4_17_r13 : (Region.ready .any (regOps (inC (hdC (tlC (inC (inC (tlC (nthC 10 (bodyC Try.f4))))))))) #[true, true, true, true, true, true, true, true, true, true, true, true, true, false, false, false, false, false, false, false, false, false, false, false, false, false, false, false]).contains 13 = true := by kernel_rfl
theorem l4_17_f14 : Region.free .any (regOps (inC (hdC (tlC (inC (inC (tlC (nthC 10 (bodyC Try.f4))))))))) #[true, true, true, true, true, true, true, true, true, true, true, true, true, true, false, false, false, false, false, false, false, false, false, false, false, false, false, false] 14 = true := by kernel_rfl
theorem l4_17_r14 : (Region.ready .any (regOps (inC (hdC (tlC (inC (inC (tlC (nthC 10 (bodyC Try.f4))))))))) #[true, true, true, true, true, true, true, true, true, true, true, true, true, true, false, false, false, false, false, false, false, false, false, false, false, false, false, false]).contains 14 = true := by kernel_rfl
theorem l4_17_f15 : Region.free .any (regOps (inC (hdC (tlC (inC (inC (tlC (nthC 10 (bodyC Try.f4))))))))) #[true, true, true, true, true, true, true, true, true, true, true, true, true, true, true, false, false, false, false, false, false, false, false, false, false, false, false, false] 15 = true := by kernel_rfl
theorem l4_17_r15 : (Region.ready .any (regOps (inC (hdC (tlC (inC (inC (tlC (nthC 10 (bodyC Try.f4))))))))) #[true, true, true, true, true, true, true, true, true, true, true, true, true, true, true, false, false, false, false, false, false, false, false, false, false, false, false, false]).contains 15 = true := by kernel_rfl
theorem l4_17_f16 : Region.free .any (regOps (inC (hdC (tlC (inC (inC (tlC (nthC 10 (bodyC Try.f4))))))))) #[true, true, true, true, true, true, true, true, true, true, true, true, true, true, true, true, false, false, false, false, false, false, false, false, false, false, false, false] 16 = true := by kernel_rfl
theorem l4_17_r16 : (Region.ready .any (regOps (inC (hdC (tlC (inC (inC (tlC (nthC 10 (bodyC Try.f4))))))))) #[true, true, true, true, true, true, true, true, true, true, true, true, true, true, true, true, false, false, false, false, false, false, false, false, false, false, false, false]).contains 16 = true := by kernel_rfl
theorem l4_17_f17 : Region.free .any (regOps (inC (hdC (tlC (inC (inC (tlC (nthC 10 (bodyC Try.f4))))))))) #[true, true, true, true, true, true, true, true, true, true, true, true, true, true, true, true, true, false, false, false, false, false, false, false, false, false, false, false] 17 = true := by kernel_rfl
theorem l4_17_r17 : (Region.ready .any (regOps (inC (hdC (tlC (inC (inC (tlC (nthC 10 (bodyC Try.f4))))))))) #[true, true, true, true, true, true, true, true, true, true, true, true, true, true, true, true, true, false, false, false, false, false, false, false, false, false, false, false]).contains 17 = true := by kernel_rfl
theorem l4_17_f18 : Region.free .any (regOps (inC (hdC (tlC (inC (inC (tlC (nthC 10 (bodyC Try.f4))))))))) #[true, true, true, true, true, true, true, true, true, true, true, true, true, true, true, true, true, true, false, false, false, false, false, false, false, false, false, false] 18 = true := by kernel_rfl
theorem l4_17_r18 : (Region.ready .any (regOps (inC (hdC (tlC (inC (inC (tlC (nthC 10 (bodyC Try.f4))))))))) #[true, true, true, true, true, true, true, true, true, true, true, true, true, true, true, true, true, true, false, false, false, false, false, false, false, false, false, false]).contains 18 = true := by kernel_rfl
theorem l4_17_f19 : Region.free .any (regOps (inC (hdC (tlC (inC (inC (tlC (nthC 10 (bodyC Try.f4))))))))) #[true, true, true, true, true, true, true, true, true, true, true, true, true, true, true, true, true, true, true, false, false, false, false, false, false, false, false, false] 19 = true := by kernel_rfl
theorem l4_17_r19 : (Region.ready .any (regOps (inC (hdC (tlC (inC (inC (tlC (nthC 10 (bodyC Try.f4))))))))) #[true, true, true, true, true, true, true, true, true, true, true, true, true, true, true, true, true, true, true, false, false, false, false, false, false, false, false, false]).contains 19 = true := by kernel_rfl
theorem l4_17_f20 : Region.free .any (regOps (inC (hdC (tlC (inC (inC (tlC (nthC 10 (bodyC Try.f4))))))))) #[true, true, true, true, true, true, true, true, true, true, true, true, true, true, true, true, true, true, true, true, false, false, false, false, false, false, false, false] 20 = true := by kernel_rfl
theorem l4_17_r20 : (Region.ready .any (regOps (inC (hdC (tlC (inC (inC (tlC (nthC 10 (bodyC Try.f4))))))))) #[true, true, true, true, true, true, true, true, true, true, true, true, true, true, true, true, true, true, true, true, false, false, false, false, false, false, false, false]).contains 20 = true := by kernel_rfl
theorem l4_17_f21 : Region.free .any (regOps (inC (hdC (tlC (inC (inC (tlC (nthC 10 (bodyC Try.f4))))))))) #[true, true, true, true, true, true, true, true, true, true, true, true, true, true, true, true, true, true, true, true, true, false, false, false, false, false, false, false] 21 = true := by kernel_rfl
theorem l4_17_r21 : (Region.ready .any (regOps (inC (hdC (tlC (inC (inC (tlC (nthC 10 (bodyC Try.f4))))))))) #[true, true, true, true, true, true, true, true, true, true, true, true, true, true, true, true, true, true, true, true, true, false, false, false, false, false, false, false]).contains 21 = true := by kernel_rfl
theorem l4_17_f22 : Region.free .any (regOps (inC (hdC (tlC (inC (inC (tlC (nthC 10 (bodyC Try.f4))))))))) #[true, true, true, true, true, true, true, true, true, true, true, true, true, true, true, true, true, true, true, true, true, true, false, false, false, false, false, false] 22 = true := by kernel_rfl
theorem l4_17_r22 : (Region.ready .any (regOps (inC (hdC (tlC (inC (inC (tlC (nthC 10 (bodyC Try.f4))))))))) #[true, true, true, true, true, true, true, true, true, true, true, true, true, true, true, true, true, true, true, true, true, true, false, false, false, false, false, false]).contains 22 = true := by kernel_rfl
theorem l4_17_f23 : Region.free .any (regOps (inC (hdC (tlC (inC (inC (tlC (nthC 10 (bodyC Try.f4))))))))) #[true, true, true, true, true, true, true, true, true, true, true, true, true, true, true, true, true, true, true, true, true, true, true, false, false, false, false, false] 23 = true := by kernel_rfl
theorem l4_17_r23 : (Region.ready .any (regOps (inC (hdC (tlC (inC (inC (tlC (nthC 10 (bodyC Try.f4))))))))) #[true, true, true, true, true, true, true, true, true, true, true, true, true, true, true, true, true, true, true, true, true, true, true, false, false, false, false, false]).contains 23 = true := by kernel_rfl
theorem l4_17_f24 : Region.free .any (regOps (inC (hdC (tlC (inC (inC (tlC (nthC 10 (bodyC Try.f4))))))))) #[true, true, true, true, true, true, true, true, true, true, true, true, true, true, true, true, true, true, true, true, true, true, true, true, false, false, false, false] 24 = true := by kernel_rfl
theorem l4_17_r24 : (Region.ready .any (regOps (inC (hdC (tlC (inC (inC (tlC (nthC 10 (bodyC Try.f4))))))))) #[true, true, true, true, true, true, true, true, true, true, true, true, true, true, true, true, true, true, true, true, true, true, true, true, false, false, false, false]).contains 24 = true := by kernel_rfl
theorem l4_17_f25 : Region.free .any (regOps (inC (hdC (tlC (inC (inC (tlC (nthC 10 (bodyC Try.f4))))))))) #[true, true, true, true, true, true, true, true, true, true, true, true, true, true, true, true, true, true, true, true, true, true, true, true, true, false, false, false] 25 = true := by kernel_rfl
theorem l4_17_r25 : (Region.ready .any (regOps (inC (hdC (tlC (inC (inC (tlC (nthC 10 (bodyC Try.f4))))))))) #[true, true, true, true, true, true, true, true, true, true, true, true, true, true, true, true, true, true, true, true, true, true, true, true, true, false, false, false]).contains 25 = true := by kernel_rfl
theorem l4_17_f26 : Region.free .any (regOps (inC (hdC (tlC (inC (inC (tlC (nthC 10 (bodyC Try.f4))))))))) #[true, true, true, true, true, true, true, true, true, true, true, true, true, true, true, true, true, true, true, true, true, true, true, true, true, true, false, false] 26 = true := by kernel_rfl
theorem l4_17_r26 : (Region.ready .any (regOps (inC (hdC (tlC (inC (inC (tlC (nthC 10 (bodyC Try.f4))))))))) #[true, true, true, true, true, true, true, true, true, true, true, true, true, true, true, true, true, true, true, true, true, true, true, true, true, true, false, false]).contains 26 = true := by kernel_rfl
theorem l4_17_r27 : Region.ready .any (regOps (inC (hdC (tlC (inC (inC (tlC (nthC 10 (bodyC Try.f4))))))))) #[true, true, true, true, true, true, true, true, true, true, true, true, true, true, true, true, true, true, true, true, true, true, true, true, true, true, true, false] = [27] := by kernel_rfl
theorem l4_17_e : Region.ready .any (regOps (inC (hdC (tlC (inC (inC (tlC (nthC 10 (bodyC Try.f4))))))))) #[true, true, true, true, true, true, true, true, true, true, true, true, true, true, true, true, true, true, true, true, true, true, true, true, true, true, true, true] = [] := by kernel_rfl

set_option maxRecDepth 10000 in
set_option maxHeartbeats 1000000 in
theorem l4_17 (fc : Int) (m K I pb cb ib rb b1 k lo hi : Nat) (p ck : Int) (G : World → Prop) (a : Act) (w : World) (Q : Exit → Act → World → Prop) (hfr : Fr 151 a) (hs : Slots [(0, .int .u64 fc), (1, .int .i64 (m : Nat)), (2, .slice (some ⟨pb, 0, none⟩) K K), (3, .slice (some ⟨cb, 0, none⟩) K K), (4, .slice (some ⟨ib, 0, none⟩) I I), (5, .slice (some ⟨rb, 0, none⟩) I I), (13, .pointer (some ⟨b1, 0, none⟩)), (14, .int .i64 (k : Nat))] a)
    (hlo : IntKind.i64.wrap ((k : Int) * (m : Int)) = (lo : Int)) (hk1 : IntKind.i64.wrap ((k : Int) + 1) = (k : Int) + 1) (hhi : IntKind.i64.wrap (((k : Int) + 1) * (m : Int)) = (hi : Int)) (hle : (lo : Int) ≤ hi) (hhI : (hi : Int) ≤ I) (hIl : ¬ (I = lo)) (lk : (k : Int) < K)
    (cp : w.cell? ⟨pb, k, none⟩ = some (.int .u64 p)) (cc : w.cell? ⟨cb, k, none⟩ = some (.int .i64 ck))
    (hcall : Calls Try.prog 20 #[.pointer (some ⟨b1, 0, none⟩), .int .u64 p, .int .i64 ck, .slice (some ⟨ib, lo, none⟩) (hi - lo) (I - lo), .slice (some ⟨rb, lo, none⟩) (hi - lo) (I - lo)] w.drew fun e w' => e = .returned (.tuple #[]) ∧ (fun w' : World => w'.cell? ⟨pb, k, none⟩ = some (.int .u64 p) ∧ w'.cell? ⟨cb, k, none⟩ = some (.int .i64 ck)) w' ∧ G w')
    (hQ : ∀ a' w', G w' → Fr 151 a' → Slots [(0, .int .u64 fc), (1, .int .i64 (m : Nat)), (2, .slice (some ⟨pb, 0, none⟩) K K), (3, .slice (some ⟨cb, 0, none⟩) K K), (4, .slice (some ⟨ib, 0, none⟩) I I), (5, .slice (some ⟨rb, 0, none⟩) I I), (13, .pointer (some ⟨b1, 0, none⟩)), (14, .int .i64 (k : Nat))] a' → Q .normal a' w') :
    Code.wp Try.prog (inC (hdC (tlC (inC (inC (tlC (nthC 10 (bodyC Try.f4)))))))) Q a w := by
  obtain ⟨t0, t1, t2, t3, t4, t5, t13, t14, -⟩ := hs
  replace t0 : a.tmps[0]?.getD undef = .int .u64 fc := (sl_at a 0).symm.trans t0
  replace t1 : a.tmps[1]?.getD undef = .int .i64 (m : Nat) := (sl_at a 1).symm.trans t1
  replace t2 : a.tmps[2]?.getD undef = .slice (some ⟨pb, 0, none⟩) K K := (sl_at a 2).symm.trans t2
  replace t3 : a.tmps[3]?.getD undef = .slice (some ⟨cb, 0, none⟩) K K := (sl_at a 3).symm.trans t3
  replace t4 : a.tmps[4]?.getD undef = .slice (some ⟨ib, 0, none⟩) I I := (sl_at a 4).symm.trans t4
  replace t5 : a.tmps[5]?.getD undef = .slice (some ⟨rb, 0, none⟩) I I := (sl_at a 5).symm.trans t5
  replace t13 : a.tmps[13]?.getD undef = .pointer (some ⟨b1, 0, none⟩) := (sl_at a 13).symm.trans t13
  replace t14 : a.tmps[14]?.getD undef = .int .i64 (k : Nat) := (sl_at a 14).symm.trans t14
  have hS0 : (fun w' : World => w'.cell? ⟨pb, k, none⟩ = some (.int .u64 p) ∧ w'.cell? ⟨cb, k, none⟩ = some (.int .i64 ck)) w.drew := ⟨cp, cc⟩
  refine wp_navR (fun w' : World => w'.cell? ⟨pb, k, none⟩ = some (.int .u64 p) ∧ w'.cell? ⟨cb, k, none⟩ = some (.int .i64 ck)) (fun a' w' => G w' ∧ Fr 151 a' ∧ Slots [(0, .int .u64 fc), (1, .int .i64 (m : Nat)), (2, .slice (some ⟨pb, 0, none⟩) K K), (3, .slice (some ⟨cb, 0, none⟩) K K), (4, .slice (some ⟨ib, 0, none⟩) I I), (5, .slice (some ⟨rb, 0, none⟩) I I), (13, .pointer (some ⟨b1, 0, none⟩)), (14, .int .i64 (k : Nat))] a') 28 #[false, false, false, false, false, false, false, false, false, false, false, false, false, false, false, false, false, false, false, false, false, false, false, false, false, false, false, false] (by kernel_rfl) (by kernel_rfl) (by kernel_rfl) rfl ?_ (fun a' w' ⟨h1, h2, h3⟩ => hQ a' w' h1 h2 h3)
  clear hQ
  refine take1 0 86 _ (.pointer (some ⟨b1, 0, none⟩)) #[true, false, false, false, false, false, false, false, false, false, false, false, false, false, false, false, false, false, false, false, false, false, false, false, false, false, false, false] l4_17_i0 l4_17_d0 (by decide) l4_17_s l4_17_f0 l4_17_r0 l4_17_g0 rfl hS0 hfr ?_ ?_
  · intro wx hx; obtain ⟨h0, h1⟩ := hx; simp only [execOp, l4_17_o0]; go_simp
  intro a1 fr1 t86 ho
  replace t0 := (ho 0 (by decide)).trans t0
  replace t1 := (ho 1 (by decide)).trans t1
  replace t2 := (ho 2 (by decide)).trans t2
  replace t3 := (ho 3 (by decide)).trans t3
  replace t4 := (ho 4 (by decide)).trans t4
  replace t5 := (ho 5 (by decide)).trans t5
  replace t13 := (ho 13 (by decide)).trans t13
  replace t14 := (ho 14 (by decide)).trans t14
  clear hfr ho
  refine take1 1 87 _ (.slice (some ⟨pb, 0, none⟩) K K) #[true, true, false, false, false, false, false, false, false, false, false, false, false, false, false, false, false, false, false, false, false, false, false, false, false, false, false, false] l4_17_i1 l4_17_d1 (by decide) l4_17_s l4_17_f1 l4_17_r1 l4_17_g1 rfl hS0 fr1 ?_ ?_
  · intro wx hx; obtain ⟨h0, h1⟩ := hx; simp only [execOp, l4_17_o1]; go_simp
  intro a2 fr2 t87 ho
  replace t0 := (ho 0 (by decide)).trans t0
  replace t1 := (ho 1 (by decide)).trans t1
  replace t2 := (ho 2 (by decide)).trans t2
  replace t3 := (ho 3 (by decide)).trans t3
  replace t4 := (ho 4 (by decide)).trans t4
  replace t5 := (ho 5 (by decide)).trans t5
  replace t13 := (ho 13 (by decide)).trans t13
  replace t14 := (ho 14 (by decide)).trans t14
  replace t86 := (ho 86 (by decide)).trans t86
  clear fr1 ho
  refine take1 2 88 _ (.int .i64 (k : Nat)) #[true, true, true, false, false, false, false, false, false, false, false, false, false, false, false, false, false, false, false, false, false, false, false, false, false, false, false, false] l4_17_i2 l4_17_d2 (by decide) l4_17_s l4_17_f2 l4_17_r2 l4_17_g2 rfl hS0 fr2 ?_ ?_
  · intro wx hx; obtain ⟨h0, h1⟩ := hx; simp only [execOp, l4_17_o2]; go_simp
  intro a3 fr3 t88 ho
  replace t0 := (ho 0 (by decide)).trans t0
  replace t1 := (ho 1 (by decide)).trans t1
  replace t2 := (ho 2 (by decide)).trans t2
  replace t3 := (ho 3 (by decide)).trans t3
  replace t4 := (ho 4 (by decide)).trans t4
  replace t5 := (ho 5 (by decide)).trans t5
  replace t13 := (ho 13 (by decide)).trans t13
  replace t14 := (ho 14 (by decide)).trans t14
  replace t86 := (ho 86 (by decide)).trans t86
  replace t87 := (ho 87 (by decide)).trans t87
  clear fr2 ho
  refine take1 3 89 _ (.pointer (some ⟨pb, k, none⟩)) #[true, true, true, true, false, false, false, false, false, false, false, false, false, false, false, false, false, false, false, false, false, false, false, false, false, false, false, false] l4_17_i3 l4_17_d3 (by decide) l4_17_s l4_17_f3 l4_17_r3 l4_17_g3 rfl hS0 fr3 ?_ ?_
  · intro wx hx; obtain ⟨h0, h1⟩ := hx; simp only [execOp, l4_17_o3]; go_simp
  intro a4 fr4 t89 ho
  replace t0 := (ho 0 (by decide)).trans t0
  replace t1 := (ho 1 (by decide)).trans t1
  replace t2 := (ho 2 (by decide)).trans t2
  replace t3 := (ho 3 (by decide)).trans t3
  replace t4 := (ho 4 (by decide)).trans t4
  replace t5 := (ho 5 (by decide)).trans t5
  replace t13 := (ho 13 (by decide)).trans t13
  replace t14 := (ho 14 (by decide)).trans t14
  replace t86 := (ho 86 (by decide)).trans t86
  replace t87 := (ho 87 (by decide)).trans t87
  replace t88 := (ho 88 (by decide)).trans t88
  clear fr3 ho
  clear t87 t88
  refine take1 4 90 _ (.int .u64 p) #[true, true, true, true, true, false, false, false, false, false, false, false, false, false, false, false, false, false, false, false, false, false, false, false, false, false, false, false] l4_17_i4 l4_17_d4 (by decide) l4_17_s l4_17_f4 l4_17_r4 l4_17_g4 rfl hS0 fr4 ?_ ?_
  · intro wx hx; obtain ⟨h0, h1⟩ := hx; simp only [execOp, l4_17_o4]; go_simp
  intro a5 fr5 t90 ho
  replace t0 := (ho 0 (by decide)).trans t0
  replace t1 := (ho 1 (by decide)).trans t1
  replace t2 := (ho 2 (by decide)).trans t2
  replace t3 := (ho 3 (by decide)).trans t3
  replace t4 := (ho 4 (by decide)).trans t4
  replace t5 := (ho 5 (by decide)).trans t5
  replace t13 := (ho 13 (by decide)).trans t13
  replace t14 := (ho 14 (by decide)).trans t14
  replace t86 := (ho 86 (by decide)).trans t86
  replace t89 := (ho 89 (by decide)).trans t89
  clear fr4 ho
  clear t89
  refine take1 5 91 _ (.slice (some ⟨cb, 0, none⟩) K K) #[true, true, true, true, true, true, false, false, false, false, false, false, false, false, false, false, false, false, false, false, false, false, false, false, false, false, false, false] l4_17_i5 l4_17_d5 (by decide) l4_17_s l4_17_f5 l4_17_r5 l4_17_g5 rfl hS0 fr5 ?_ ?_
  · intro wx hx; obtain ⟨h0, h1⟩ := hx; simp only [execOp, l4_17_o5]; go_simp
  intro a6 fr6 t91 ho
  replace t0 := (ho 0 (by decide)).trans t0
  replace t1 := (ho 1 (by decide)).trans t1
  replace t2 := (ho 2 (by decide)).trans t2
  replace t3 := (ho 3 (by decide)).trans t3
  replace t4 := (ho 4 (by decide)).trans t4
  replace t5 := (ho 5 (by decide)).trans t5
  replace t13 := (ho 13 (by decide)).trans t13
  replace t14 := (ho 14 (by decide)).trans t14
  replace t86 := (ho 86 (by decide)).trans t86
  replace t90 := (ho 90 (by decide)).trans t90
  clear fr5 ho
  refine take1 6 92 _ (.int .i64 (k : Nat)) #[true, true, true, true, true, true, true, false, false, false, false, false, false, false, false, false, false, false, false, false, false, false, false, false, false, false, false, false] l4_17_i6 l4_17_d6 (by decide) l4_17_s l4_17_f6 l4_17_r6 l4_17_g6 rfl hS0 fr6 ?_ ?_
  · intro wx hx; obtain ⟨h0, h1⟩ := hx; simp only [execOp, l4_17_o6]; go_simp
  intro a7 fr7 t92 ho
  replace t0 := (ho 0 (by decide)).trans t0
  replace t1 := (ho 1 (by decide)).trans t1
  replace t2 := (ho 2 (by decide)).trans t2
  replace t3 := (ho 3 (by decide)).trans t3
  replace t4 := (ho 4 (by decide)).trans t4
  replace t5 := (ho 5 (by decide)).trans t5
  replace t13 := (ho 13 (by decide)).trans t13
  replace t14 := (ho 14 (by decide)).trans t14
  replace t86 := (ho 86 (by decide)).trans t86
  replace t90 := (ho 90 (by decide)).trans t90
  replace t91 := (ho 91 (by decide)).trans t91
  clear fr6 ho
  refine take1 7 93 _ (.pointer (some ⟨cb, k, none⟩)) #[true, true, true, true, true, true, true, true, false, false, false, false, false, false, false, false, false, false, false, false, false, false, false, false, false, false, false, false] l4_17_i7 l4_17_d7 (by decide) l4_17_s l4_17_f7 l4_17_r7 l4_17_g7 rfl hS0 fr7 ?_ ?_
  · intro wx hx; obtain ⟨h0, h1⟩ := hx; simp only [execOp, l4_17_o7]; go_simp
  intro a8 fr8 t93 ho
  replace t0 := (ho 0 (by decide)).trans t0
  replace t1 := (ho 1 (by decide)).trans t1
  replace t2 := (ho 2 (by decide)).trans t2
  replace t3 := (ho 3 (by decide)).trans t3
  replace t4 := (ho 4 (by decide)).trans t4
  replace t5 := (ho 5 (by decide)).trans t5
  replace t13 := (ho 13 (by decide)).trans t13
  replace t14 := (ho 14 (by decide)).trans t14
  replace t86 := (ho 86 (by decide)).trans t86
  replace t90 := (ho 90 (by decide)).trans t90
  replace t91 := (ho 91 (by decide)).trans t91
  replace t92 := (ho 92 (by decide)).trans t92
  clear fr7 ho
  clear t91 t92
  refine take1 8 94 _ (.int .i64 ck) #[true, true, true, true, true, true, true, true, true, false, false, false, false, false, false, false, false, false, false, false, false, false, false, false, false, false, false, false] l4_17_i8 l4_17_d8 (by decide) l4_17_s l4_17_f8 l4_17_r8 l4_17_g8 rfl hS0 fr8 ?_ ?_
  · intro wx hx; obtain ⟨h0, h1⟩ := hx; simp only [execOp, l4_17_o8]; go_simp
  intro a9 fr9 t94 ho
  replace t0 := (ho 0 (by decide)).trans t0
  replace t1 := (ho 1 (by decide)).trans t1
  replace t2 := (ho 2 (by decide)).trans t2
  replace t3 := (ho 3 (by decide)).trans t3
  replace t4 := (ho 4 (by decide)).trans t4
  replace t5 := (ho 5 (by decide)).trans t5
  replace t13 := (ho 13 (by decide)).trans t13
  replace t14 := (ho 14 (by decide)).trans t14
  replace t86 := (ho 86 (by decide)).trans t86
  replace t90 := (ho 90 (by decide)).trans t90
  replace t93 := (ho 93 (by decide)).trans t93
  clear fr8 ho
  clear t93
  refine take1 9 95 _ (.slice (some ⟨ib, 0, none⟩) I I) #[true, true, true, true, true, true, true, true, true, true, false, false, false, false, false, false, false, false, false, false, false, false, false, false, false, false, false, false] l4_17_i9 l4_17_d9 (by decide) l4_17_s l4_17_f9 l4_17_r9 l4_17_g9 rfl hS0 fr9 ?_ ?_
  · intro wx hx; obtain ⟨h0, h1⟩ := hx; simp only [execOp, l4_17_o9]; go_simp
  intro a10 fr10 t95 ho
  replace t0 := (ho 0 (by decide)).trans t0
  replace t1 := (ho 1 (by decide)).trans t1
  replace t2 := (ho 2 (by decide)).trans t2
  replace t3 := (ho 3 (by decide)).trans t3
  replace t4 := (ho 4 (by decide)).trans t4
  replace t5 := (ho 5 (by decide)).trans t5
  replace t13 := (ho 13 (by decide)).trans t13
  replace t14 := (ho 14 (by decide)).trans t14
  replace t86 := (ho 86 (by decide)).trans t86
  replace t90 := (ho 90 (by decide)).trans t90
  replace t94 := (ho 94 (by decide)).trans t94
  clear fr9 ho
  refine take1 10 96 _ (.int .i64 (k : Nat)) #[true, true, true, true, true, true, true, true, true, true, true, false, false, false, false, false, false, false, false, false, false, false, false, false, false, false, false, false] l4_17_i10 l4_17_d10 (by decide) l4_17_s l4_17_f10 l4_17_r10 l4_17_g10 rfl hS0 fr10 ?_ ?_
  · intro wx hx; obtain ⟨h0, h1⟩ := hx; simp only [execOp, l4_17_o10]; go_simp
  intro a11 fr11 t96 ho
  replace t0 := (ho 0 (by decide)).trans t0
  replace t1 := (ho 1 (by decide)).trans t1
  replace t2 := (ho 2 (by decide)).trans t2
  replace t3 := (ho 3 (by decide)).trans t3
  replace t4 := (ho 4 (by decide)).trans t4
  replace t5 := (ho 5 (by decide)).trans t5
  replace t13 := (ho 13 (by decide)).trans t13
  replace t14 := (ho 14 (by decide)).trans t14
  replace t86 := (ho 86 (by decide)).trans t86
  replace t90 := (ho 90 (by decide)).trans t90
  replace t94 := (ho 94 (by decide)).trans t94
  replace t95 := (ho 95 (by decide)).trans t95
  clear fr10 ho
  refine take1 11 97 _ (.int .i64 (m : Nat)) #[true, true, true, true, true, true, true, true, true, true, true, true, false, false, false, false, false, false, false, false, false, false, false, false, false, false, false, false] l4_17_i11 l4_17_d11 (by decide) l4_17_s l4_17_f11 l4_17_r11 l4_17_g11 rfl hS0 fr11 ?_ ?_
  · intro wx hx; obtain ⟨h0, h1⟩ := hx; simp only [execOp, l4_17_o11]; go_simp
  intro a12 fr12 t97 ho
  replace t0 := (ho 0 (by decide)).trans t0
  replace t1 := (ho 1 (by decide)).trans t1
  replace t2 := (ho 2 (by decide)).trans t2
  replace t3 := (ho 3 (by decide)).trans t3
  replace t4 := (ho 4 (by decide)).trans t4
  replace t5 := (ho 5 (by decide)).trans t5
  replace t13 := (ho 13 (by decide)).trans t13
  replace t14 := (ho 14 (by decide)).trans t14
  replace t86 := (ho 86 (by decide)).trans t86
  replace t90 := (ho 90 (by decide)).trans t90
  replace t94 := (ho 94 (by decide)).trans t94
  replace t95 := (ho 95 (by decide)).trans t95
  replace t96 := (ho 96 (by decide)).trans t96
  clear fr11 ho
  refine take1 12 98 _ (.int .i64 (lo : Nat)) #[true, true, true, true, true, true, true, true, true, true, true, true, true, false, false, false, false, false, false, false, false, false, false, false, false, false, false, false] l4_17_i12 l4_17_d12 (by decide) l4_17_s l4_17_f12 l4_17_r12 l4_17_g12 rfl hS0 fr12 ?_ ?_
  · intro wx hx; obtain ⟨h0, h1⟩ := hx; simp only [execOp, l4_17_o12]; go_simp
  intro a13 fr13 t98 ho
  replace t0 := (ho 0 (by decide)).trans t0
  replace t1 := (ho 1 (by decide)).trans t1
  replace t2 := (ho 2 (by decide)).trans t2
  replace t3 := (ho 3 (by decide)).trans t3
  replace t4 := (ho 4 (by decide)).trans t4
  replace t5 := (ho 5 (by decide)).trans t5
  replace t13 := (ho 13 (by decide)).trans t13
  replace t14 := (ho 14 (by decide)).trans t14
  replace t86 := (ho 86 (by decide)).trans t86
  replace t90 := (ho 90 (by decide)).trans t90
  replace t94 := (ho 94 (by decide)).trans t94
  replace t95 := (ho 95 (by decide)).trans t95
  replace t96 := (ho 96 (by decide)).trans t96
  replace t97 := (ho 97 (by decide)).trans t97
  clear fr12 ho
  clear t96 t97
  refine take1 13 99 _ (.int .i64 (k : Nat)) #[true, true, true, true, true, true, true, true, true, true, true, true, true, true, false, false, false, false, false, false, false, false, false, false, false, false, false, false] l4_17_i13 l4_17_d13 (by decide) l4_17_s l4_17_f13 l4_17_r13 l4_17_g13 rfl hS0 fr13 ?_ ?_
  · intro wx hx; obtain ⟨h0, h1⟩ := hx; simp only [execOp, l4_17_o13]; go_simp
  intro a14 fr14 t99 ho
  replace t0 := (ho 0 (by decide)).trans t0
  replace t1 := (ho 1 (by decide)).trans t1
  replace t2 := (ho 2 (by decide)).trans t2
  replace t3 := (ho 3 (by decide)).trans t3
  replace t4 := (ho 4 (by decide)).trans t4
  replace t5 := (ho 5 (by decide)).trans t5
  replace t13 := (ho 13 (by decide)).trans t13
  replace t14 := (ho 14 (by decide)).trans t14
  replace t86 := (ho 86 (by decide)).trans t86
  replace t90 := (ho 90 (by decide)).trans t90
  replace t94 := (ho 94 (by decide)).trans t94
  replace t95 := (ho 95 (by decide)).trans t95
  replace t98 := (ho 98 (by decide)).trans t98
  clear fr13 ho
  refine take1 14 100 _ (.int .i64 ((k : Nat) + 1)) #[true, true, true, true, true, true, true, true, true, true, true, true, true, true, true, false, false, false, false, false, false, false, false, false, false, false, false, false] l4_17_i14 l4_17_d14 (by decide) l4_17_s l4_17_f14 l4_17_r14 l4_17_g14 rfl hS0 fr14 ?_ ?_
  · intro wx hx; obtain ⟨h0, h1⟩ := hx; simp only [execOp, l4_17_o14]; go_simp
  intro a15 fr15 t100 ho
  replace t0 := (ho 0 (by decide)).trans t0
  replace t1 := (ho 1 (by decide)).trans t1
  replace t2 := (ho 2 (by decide)).trans t2
  replace t3 := (ho 3 (by decide)).trans t3
  replace t4 := (ho 4 (by decide)).trans t4
  replace t5 := (ho 5 (by decide)).trans t5
  replace t13 := (ho 13 (by decide)).trans t13
  replace t14 := (ho 14 (by decide)).trans t14
  replace t86 := (ho 86 (by decide)).trans t86
  replace t90 := (ho 90 (by decide)).trans t90
  replace t94 := (ho 94 (by decide)).trans t94
  replace t95 := (ho 95 (by decide)).trans t95
  replace t98 := (ho 98 (by decide)).trans t98
  replace t99 := (ho 99 (by decide)).trans t99
  clear fr14 ho
  clear t99
  refine take1 15 101 _ (.int .i64 (m : Nat)) #[true, true, true, true, true, true, true, true, true, true, true, true, true, true, true, true, false, false, false, false, false, false, false, false, false, false, false, false] l4_17_i15 l4_17_d15 (by decide) l4_17_s l4_17_f15 l4_17_r15 l4_17_g15 rfl hS0 fr15 ?_ ?_
  · intro wx hx; obtain ⟨h0, h1⟩ := hx; simp only [execOp, l4_17_o15]; go_simp
  intro a16 fr16 t101 ho
  replace t0 := (ho 0 (by decide)).trans t0
  replace t1 := (ho 1 (by decide)).trans t1
  replace t2 := (ho 2 (by decide)).trans t2
  replace t3 := (ho 3 (by decide)).trans t3
  replace t4 := (ho 4 (by decide)).trans t4
  replace t5 := (ho 5 (by decide)).trans t5
  replace t13 := (ho 13 (by decide)).trans t13
  replace t14 := (ho 14 (by decide)).trans t14
  replace t86 := (ho 86 (by decide)).trans t86
  replace t90 := (ho 90 (by decide)).trans t90
  replace t94 := (ho 94 (by decide)).trans t94
  replace t95 := (ho 95 (by decide)).trans t95
  replace t98 := (ho 98 (by decide)).trans t98
  replace t100 := (ho 100 (by decide)).trans t100
  clear fr15 ho
  refine take1 16 102 _ (.int .i64 (hi : Nat)) #[true, true, true, true, true, true, true, true, true, true, true, true, true, true, true, true, true, false, false, false, false, false, false, false, false, false, false, false] l4_17_i16 l4_17_d16 (by decide) l4_17_s l4_17_f16 l4_17_r16 l4_17_g16 rfl hS0 fr16 ?_ ?_
  · intro wx hx; obtain ⟨h0, h1⟩ := hx; simp only [execOp, l4_17_o16]; go_simp
  intro a17 fr17 t102 ho
  replace t0 := (ho 0 (by decide)).trans t0
  replace t1 := (ho 1 (by decide)).trans t1
  replace t2 := (ho 2 (by decide)).trans t2
  replace t3 := (ho 3 (by decide)).trans t3
  replace t4 := (ho 4 (by decide)).trans t4
  replace t5 := (ho 5 (by decide)).trans t5
  replace t13 := (ho 13 (by decide)).trans t13
  replace t14 := (ho 14 (by decide)).trans t14
  replace t86 := (ho 86 (by decide)).trans t86
  replace t90 := (ho 90 (by decide)).trans t90
  replace t94 := (ho 94 (by decide)).trans t94
  replace t95 := (ho 95 (by decide)).trans t95
  replace t98 := (ho 98 (by decide)).trans t98
  replace t100 := (ho 100 (by decide)).trans t100
  replace t101 := (ho 101 (by decide)).trans t101
  clear fr16 ho
  clear t100 t101
  refine take1 17 103 _ (.slice (some ⟨ib, lo, none⟩) (hi - lo) (I - lo)) #[true, true, true, true, true, true, true, true, true, true, true, true, true, true, true, true, true, true, false, false, false, false, false, false, false, false, false, false] l4_17_i17 l4_17_d17 (by decide) l4_17_s l4_17_f17 l4_17_r17 l4_17_g17 rfl hS0 fr17 ?_ ?_
  · intro wx hx; obtain ⟨h0, h1⟩ := hx; simp only [execOp, l4_17_o17]; go_simp
  intro a18 fr18 t103 ho
  replace t0 := (ho 0 (by decide)).trans t0
  replace t1 := (ho 1 (by decide)).trans t1
  replace t2 := (ho 2 (by decide)).trans t2
  replace t3 := (ho 3 (by decide)).trans t3
  replace t4 := (ho 4 (by decide)).trans t4
  replace t5 := (ho 5 (by decide)).trans t5
  replace t13 := (ho 13 (by decide)).trans t13
  replace t14 := (ho 14 (by decide)).trans t14
  replace t86 := (ho 86 (by decide)).trans t86
  replace t90 := (ho 90 (by decide)).trans t90
  replace t94 := (ho 94 (by decide)).trans t94
  replace t95 := (ho 95 (by decide)).trans t95
  replace t98 := (ho 98 (by decide)).trans t98
  replace t102 := (ho 102 (by decide)).trans t102
  clear fr17 ho
  clear t95 t98 t102
  refine take1 18 104 _ (.slice (some ⟨rb, 0, none⟩) I I) #[true, true, true, true, true, true, true, true, true, true, true, true, true, true, true, true, true, true, true, false, false, false, false, false, false, false, false, false] l4_17_i18 l4_17_d18 (by decide) l4_17_s l4_17_f18 l4_17_r18 l4_17_g18 rfl hS0 fr18 ?_ ?_
  · intro wx hx; obtain ⟨h0, h1⟩ := hx; simp only [execOp, l4_17_o18]; go_simp
  intro a19 fr19 t104 ho
  replace t0 := (ho 0 (by decide)).trans t0
  replace t1 := (ho 1 (by decide)).trans t1
  replace t2 := (ho 2 (by decide)).trans t2
  replace t3 := (ho 3 (by decide)).trans t3
  replace t4 := (ho 4 (by decide)).trans t4
  replace t5 := (ho 5 (by decide)).trans t5
  replace t13 := (ho 13 (by decide)).trans t13
  replace t14 := (ho 14 (by decide)).trans t14
  replace t86 := (ho 86 (by decide)).trans t86
  replace t90 := (ho 90 (by decide)).trans t90
  replace t94 := (ho 94 (by decide)).trans t94
  replace t103 := (ho 103 (by decide)).trans t103
  clear fr18 ho
  refine take1 19 105 _ (.int .i64 (k : Nat)) #[true, true, true, true, true, true, true, true, true, true, true, true, true, true, true, true, true, true, true, true, false, false, false, false, false, false, false, false] l4_17_i19 l4_17_d19 (by decide) l4_17_s l4_17_f19 l4_17_r19 l4_17_g19 rfl hS0 fr19 ?_ ?_
  · intro wx hx; obtain ⟨h0, h1⟩ := hx; simp only [execOp, l4_17_o19]; go_simp
  intro a20 fr20 t105 ho
  replace t0 := (ho 0 (by decide)).trans t0
  replace t1 := (ho 1 (by decide)).trans t1
  replace t2 := (ho 2 (by decide)).trans t2
  replace t3 := (ho 3 (by decide)).trans t3
  replace t4 := (ho 4 (by decide)).trans t4
  replace t5 := (ho 5 (by decide)).trans t5
  replace t13 := (ho 13 (by decide)).trans t13
  replace t14 := (ho 14 (by decide)).trans t14
  replace t86 := (ho 86 (by decide)).trans t86
  replace t90 := (ho 90 (by decide)).trans t90
  replace t94 := (ho 94 (by decide)).trans t94
  replace t103 := (ho 103 (by decide)).trans t103
  replace t104 := (ho 104 (by decide)).trans t104
  clear fr19 ho
  refine take1 20 106 _ (.int .i64 (m : Nat)) #[true, true, true, true, true, true, true, true, true, true, true, true, true, true, true, true, true, true, true, true, true, false, false, false, false, false, false, false] l4_17_i20 l4_17_d20 (by decide) l4_17_s l4_17_f20 l4_17_r20 l4_17_g20 rfl hS0 fr20 ?_ ?_
  · intro wx hx; obtain ⟨h0, h1⟩ := hx; simp only [execOp, l4_17_o20]; go_simp
  intro a21 fr21 t106 ho
  replace t0 := (ho 0 (by decide)).trans t0
  replace t1 := (ho 1 (by decide)).trans t1
  replace t2 := (ho 2 (by decide)).trans t2
  replace t3 := (ho 3 (by decide)).trans t3
  replace t4 := (ho 4 (by decide)).trans t4
  replace t5 := (ho 5 (by decide)).trans t5
  replace t13 := (ho 13 (by decide)).trans t13
  replace t14 := (ho 14 (by decide)).trans t14
  replace t86 := (ho 86 (by decide)).trans t86
  replace t90 := (ho 90 (by decide)).trans t90
  replace t94 := (ho 94 (by decide)).trans t94
  replace t103 := (ho 103 (by decide)).trans t103
  replace t104 := (ho 104 (by decide)).trans t104
  replace t105 := (ho 105 (by decide)).trans t105
  clear fr20 ho
  refine take1 21 107 _ (.int .i64 (lo : Nat)) #[true, true, true, true, true, true, true, true, true, true, true, true, true, true, true, true, true, true, true, true, true, true, false, false, false, false, false, false] l4_17_i21 l4_17_d21 (by decide) l4_17_s l4_17_f21 l4_17_r21 l4_17_g21 rfl hS0 fr21 ?_ ?_
  · intro wx hx; obtain ⟨h0, h1⟩ := hx; simp only [execOp, l4_17_o21]; go_simp
  intro a22 fr22 t107 ho
  replace t0 := (ho 0 (by decide)).trans t0
  replace t1 := (ho 1 (by decide)).trans t1
  replace t2 := (ho 2 (by decide)).trans t2
  replace t3 := (ho 3 (by decide)).trans t3
  replace t4 := (ho 4 (by decide)).trans t4
  replace t5 := (ho 5 (by decide)).trans t5
  replace t13 := (ho 13 (by decide)).trans t13
  replace t14 := (ho 14 (by decide)).trans t14
  replace t86 := (ho 86 (by decide)).trans t86
  replace t90 := (ho 90 (by decide)).trans t90
  replace t94 := (ho 94 (by decide)).trans t94
  replace t103 := (ho 103 (by decide)).trans t103
  replace t104 := (ho 104 (by decide)).trans t104
  replace t105 := (ho 105 (by decide)).trans t105
  replace t106 := (ho 106 (by decide)).trans t106
  clear fr21 ho
  clear t105 t106
  refine take1 22 108 _ (.int .i64 (k : Nat)) #[true, true, true, true, true, true, true, true, true, true, true, true, true, true, true, true, true, true, true, true, true, true, true, false, false, false, false, false] l4_17_i22 l4_17_d22 (by decide) l4_17_s l4_17_f22 l4_17_r22 l4_17_g22 rfl hS0 fr22 ?_ ?_
  · intro wx hx; obtain ⟨h0, h1⟩ := hx; simp only [execOp, l4_17_o22]; go_simp
  intro a23 fr23 t108 ho
  replace t0 := (ho 0 (by decide)).trans t0
  replace t1 := (ho 1 (by decide)).trans t1
  replace t2 := (ho 2 (by decide)).trans t2
  replace t3 := (ho 3 (by decide)).trans t3
  replace t4 := (ho 4 (by decide)).trans t4
  replace t5 := (ho 5 (by decide)).trans t5
  replace t13 := (ho 13 (by decide)).trans t13
  replace t14 := (ho 14 (by decide)).trans t14
  replace t86 := (ho 86 (by decide)).trans t86
  replace t90 := (ho 90 (by decide)).trans t90
  replace t94 := (ho 94 (by decide)).trans t94
  replace t103 := (ho 103 (by decide)).trans t103
  replace t104 := (ho 104 (by decide)).trans t104
  replace t107 := (ho 107 (by decide)).trans t107
  clear fr22 ho
  refine take1 23 109 _ (.int .i64 ((k : Nat) + 1)) #[true, true, true, true, true, true, true, true, true, true, true, true, true, true, true, true, true, true, true, true, true, true, true, true, false, false, false, false] l4_17_i23 l4_17_d23 (by decide) l4_17_s l4_17_f23 l4_17_r23 l4_17_g23 rfl hS0 fr23 ?_ ?_
  · intro wx hx; obtain ⟨h0, h1⟩ := hx; simp only [execOp, l4_17_o23]; go_simp
  intro a24 fr24 t109 ho
  replace t0 := (ho 0 (by decide)).trans t0
  replace t1 := (ho 1 (by decide)).trans t1
  replace t2 := (ho 2 (by decide)).trans t2
  replace t3 := (ho 3 (by decide)).trans t3
  replace t4 := (ho 4 (by decide)).trans t4
  replace t5 := (ho 5 (by decide)).trans t5
  replace t13 := (ho 13 (by decide)).trans t13
  replace t14 := (ho 14 (by decide)).trans t14
  replace t86 := (ho 86 (by decide)).trans t86
  replace t90 := (ho 90 (by decide)).trans t90
  replace t94 := (ho 94 (by decide)).trans t94
  replace t103 := (ho 103 (by decide)).trans t103
  replace t104 := (ho 104 (by decide)).trans t104
  replace t107 := (ho 107 (by decide)).trans t107
  replace t108 := (ho 108 (by decide)).trans t108
  clear fr23 ho
  clear t108
  refine take1 24 110 _ (.int .i64 (m : Nat)) #[true, true, true, true, true, true, true, true, true, true, true, true, true, true, true, true, true, true, true, true, true, true, true, true, true, false, false, false] l4_17_i24 l4_17_d24 (by decide) l4_17_s l4_17_f24 l4_17_r24 l4_17_g24 rfl hS0 fr24 ?_ ?_
  · intro wx hx; obtain ⟨h0, h1⟩ := hx; simp only [execOp, l4_17_o24]; go_simp
  intro a25 fr25 t110 ho
  replace t0 := (ho 0 (by decide)).trans t0
  replace t1 := (ho 1 (by decide)).trans t1
  replace t2 := (ho 2 (by decide)).trans t2
  replace t3 := (ho 3 (by decide)).trans t3
  replace t4 := (ho 4 (by decide)).trans t4
  replace t5 := (ho 5 (by decide)).trans t5
  replace t13 := (ho 13 (by decide)).trans t13
  replace t14 := (ho 14 (by decide)).trans t14
  replace t86 := (ho 86 (by decide)).trans t86
  replace t90 := (ho 90 (by decide)).trans t90
  replace t94 := (ho 94 (by decide)).trans t94
  replace t103 := (ho 103 (by decide)).trans t103
  replace t104 := (ho 104 (by decide)).trans t104
  replace t107 := (ho 107 (by decide)).trans t107
  replace t109 := (ho 109 (by decide)).trans t109
  clear fr24 ho
  refine take1 25 111 _ (.int .i64 (hi : Nat)) #[true, true, true, true, true, true, true, true, true, true, true, true, true, true, true, true, true, true, true, true, true, true, true, true, true, true, false, false] l4_17_i25 l4_17_d25 (by decide) l4_17_s l4_17_f25 l4_17_r25 l4_17_g25 rfl hS0 fr25 ?_ ?_
  · intro wx hx; obtain ⟨h0, h1⟩ := hx; simp only [execOp, l4_17_o25]; go_simp
  intro a26 fr26 t111 ho
  replace t0 := (ho 0 (by decide)).trans t0
  replace t1 := (ho 1 (by decide)).trans t1
  replace t2 := (ho 2 (by decide)).trans t2
  replace t3 := (ho 3 (by decide)).trans t3
  replace t4 := (ho 4 (by decide)).trans t4
  replace t5 := (ho 5 (by decide)).trans t5
  replace t13 := (ho 13 (by decide)).trans t13
  replace t14 := (ho 14 (by decide)).trans t14
  replace t86 := (ho 86 (by decide)).trans t86
  replace t90 := (ho 90 (by decide)).trans t90
  replace t94 := (ho 94 (by decide)).trans t94
  replace t103 := (ho 103 (by decide)).trans t103
  replace t104 := (ho 104 (by decide)).trans t104
  replace t107 := (ho 107 (by decide)).trans t107
  replace t109 := (ho 109 (by decide)).trans t109
  replace t110 := (ho 110 (by decide)).trans t110
  clear fr25 ho
  clear t109 t110
  refine take1 26 112 _ (.slice (some ⟨rb, lo, none⟩) (hi - lo) (I - lo)) #[true, true, true, true, true, true, true, true, true, true, true, true, true, true, true, true, true, true, true, true, true, true, true, true, true, true, true, false] l4_17_i26 l4_17_d26 (by decide) l4_17_s l4_17_f26 l4_17_r26 l4_17_g26 rfl hS0 fr26 ?_ ?_
  · intro wx hx; obtain ⟨h0, h1⟩ := hx; simp only [execOp, l4_17_o26]; go_simp
  intro a27 fr27 t112 ho
  replace t0 := (ho 0 (by decide)).trans t0
  replace t1 := (ho 1 (by decide)).trans t1
  replace t2 := (ho 2 (by decide)).trans t2
  replace t3 := (ho 3 (by decide)).trans t3
  replace t4 := (ho 4 (by decide)).trans t4
  replace t5 := (ho 5 (by decide)).trans t5
  replace t13 := (ho 13 (by decide)).trans t13
  replace t14 := (ho 14 (by decide)).trans t14
  replace t86 := (ho 86 (by decide)).trans t86
  replace t90 := (ho 90 (by decide)).trans t90
  replace t94 := (ho 94 (by decide)).trans t94
  replace t103 := (ho 103 (by decide)).trans t103
  replace t104 := (ho 104 (by decide)).trans t104
  replace t107 := (ho 107 (by decide)).trans t107
  replace t111 := (ho 111 (by decide)).trans t111
  clear fr26 ho
  clear t104 t107 t111
  refine only1 27 l4_17_r27 (actC 27 113 _ (.tuple #[]) 20 #[.pointer (some ⟨b1, 0, none⟩), .int .u64 p, .int .i64 ck, .slice (some ⟨ib, lo, none⟩) (hi - lo) (I - lo), .slice (some ⟨rb, lo, none⟩) (hi - lo) (I - lo)] G #[true, true, true, true, true, true, true, true, true, true, true, true, true, true, true, true, true, true, true, true, true, true, true, true, true, true, true, true] l4_17_i27 l4_17_d27 (by decide) l4_17_g27 rfl fr27 ?_ hcall ?_)
  · simp only [execOp, l4_17_o27]; clear hcall; go_simp
  intro aE wE hG frE tE ho
  replace t0 := (ho 0 (by decide)).trans t0
  replace t1 := (ho 1 (by decide)).trans t1
  replace t2 := (ho 2 (by decide)).trans t2
  replace t3 := (ho 3 (by decide)).trans t3
  replace t4 := (ho 4 (by decide)).trans t4
  replace t5 := (ho 5 (by decide)).trans t5
  replace t13 := (ho 13 (by decide)).trans t13
  replace t14 := (ho 14 (by decide)).trans t14
  refine wpAnyH_done l4_17_e ?_ _
  exact ⟨hG, frE, (sl_at _ _).trans t0, (sl_at _ _).trans t1, (sl_at _ _).trans t2, (sl_at _ _).trans t3, (sl_at _ _).trans t4, (sl_at _ _).trans t5, (sl_at _ _).trans t13, (sl_at _ _).trans t14, trivial⟩

end Go.Proofs.Qxb6602526a
