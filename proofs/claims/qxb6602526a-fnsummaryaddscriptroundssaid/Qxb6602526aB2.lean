import Derived.Test.Qxb6602526aZz
import Derived.Test.Qxb6602526aNav2
import Derived.Test.Qxb6602526aNav4
import Derived.Test.Qxb6602526aCopy2
import Derived.Test.Qxb6602526aS3
namespace Go.Proofs.Qxb6602526a
open Go.RowKit
set_option linter.unusedSimpArgs false
set_option linter.unusedVariables false

set_option maxRecDepth 10000 in
set_option maxHeartbeats 1000000 in
theorem l3_0 (m : Int) (x1 : Option Addr) (n1 c1 : Nat) (x2 : Option Addr) (n2 c2 : Nat) (x3 : Option Addr) (n3 c3 : Nat) (x4 : Option Addr) (n4 c4 : Nat) (x5 : Option Addr) (n5 c5 : Nat) (a : Act) (w : World) (Q : Exit → Act → World → Prop) (hfr : Fr 285 a) (hs : Slots [(0, .int .u32 m), (1, .slice x1 n1 c1), (2, .slice x2 n2 c2), (3, .slice x3 n3 c3), (4, .slice x4 n4 c4), (5, .slice x5 n5 c5)] a)
    (hQ : ∀ a', Fr 285 a' → Slots [(0, .int .u32 m), (1, .slice x1 n1 c1), (2, .slice x2 n2 c2), (3, .slice x3 n3 c3), (4, .slice x4 n4 c4), (5, .slice x5 n5 c5)] a' → Q .normal a' w) :
    Code.wp Try.prog (nthC 0 (bodyC Try.f3)) Q a w := by
  obtain ⟨u, hu, rfl⟩ := lay285 hfr
  obtain ⟨s0, s1, s2, s3, s4, s5, -⟩ := hs
  replace s0 : u 0 = .int .u32 m := (hu 0).symm.trans s0
  replace s1 : u 1 = .slice x1 n1 c1 := (hu 1).symm.trans s1
  replace s2 : u 2 = .slice x2 n2 c2 := (hu 2).symm.trans s2
  replace s3 : u 3 = .slice x3 n3 c3 := (hu 3).symm.trans s3
  replace s4 : u 4 = .slice x4 n4 c4 := (hu 4).symm.trans s4
  replace s5 : u 5 = .slice x5 n5 c5 := (hu 5).symm.trans s5
  rw [s0, s1, s2, s3, s4, s5]
  clear hfr hu s0 s1 s2 s3 s4 s5
  conv => arg 2; whnf
  have H : Hid _ := hQ
  clear hQ
  go_wp2
  exact H.out _ ⟨rfl, rfl⟩ ⟨rfl, rfl, rfl, rfl, rfl, rfl, trivial⟩

set_option maxRecDepth 10000 in
set_option maxHeartbeats 1000000 in
theorem l3_1 (m : Int) (x1 : Option Addr) (n1 c1 : Nat) (x2 : Option Addr) (n2 c2 : Nat) (x3 : Option Addr) (n3 c3 : Nat) (x4 : Option Addr) (n4 c4 : Nat) (x5 : Option Addr) (n5 c5 : Nat) (a : Act) (w : World) (Q : Exit → Act → World → Prop) (hfr : Fr 285 a) (hs : Slots [(0, .int .u32 m), (1, .slice x1 n1 c1), (2, .slice x2 n2 c2), (3, .slice x3 n3 c3), (4, .slice x4 n4 c4), (5, .slice x5 n5 c5)] a)
    (l1 : n1 ≤ 9223372036854775807) (l2 : n2 ≤ 9223372036854775807) (l3 : n3 ≤ 9223372036854775807) (l4 : n4 ≤ 9223372036854775807) (l5 : n5 ≤ 9223372036854775807)
    (hQ : ∀ a', n1 + n2 + n3 + n4 + n5 ≤ 1048576 → Fr 285 a' → Slots [(0, .int .u32 m), (1, .slice x1 n1 c1), (2, .slice x2 n2 c2), (3, .slice x3 n3 c3), (4, .slice x4 n4 c4), (5, .slice x5 n5 c5)] a' → Q .normal a' w)
    (hret : ∀ a' w', Fr 285 a' → sl a' 12 = .bool true → Kept [] w w' → Q .ret a' w') :
    Code.wp Try.prog (nthC 1 (bodyC Try.f3)) Q a w := by
  obtain ⟨u, hu, rfl⟩ := lay285 hfr
  obtain ⟨s0, s1, s2, s3, s4, s5, -⟩ := hs
  replace s0 : u 0 = .int .u32 m := (hu 0).symm.trans s0
  replace s1 : u 1 = .slice x1 n1 c1 := (hu 1).symm.trans s1
  replace s2 : u 2 = .slice x2 n2 c2 := (hu 2).symm.trans s2
  replace s3 : u 3 = .slice x3 n3 c3 := (hu 3).symm.trans s3
  replace s4 : u 4 = .slice x4 n4 c4 := (hu 4).symm.trans s4
  replace s5 : u 5 = .slice x5 n5 c5 := (hu 5).symm.trans s5
  rw [s0, s1, s2, s3, s4, s5]
  clear hfr hu s0 s1 s2 s3 s4 s5
  conv => arg 2; whnf
  have H : Hid _ := hQ
  have HR : Hid _ := hret
  clear hQ hret
  by_cases h : n1 + n2 + n3 + n4 + n5 ≤ 1048576
  · have HH : Hid _ := h
    clear h
    go_wp2_with (go_at_call 9; refine (zz9_yes _ _ _ _ _ _ _ _ _ _ _ _ _ _ _ _ _ HH.out).mono ?_; rintro e w' ⟨rfl, rfl⟩)
    exact H.out _ HH.out ⟨rfl, rfl⟩ ⟨rfl, rfl, rfl, rfl, rfl, rfl, trivial⟩
  · have HH : Hid _ := h
    clear h
    go_wp2_with (go_at_call 9; refine (zz9_no _ _ _ _ _ _ _ _ _ _ _ _ _ _ _ _ _ HH.out l1 l2 l3 l4 l5).mono ?_; rintro e w' ⟨rfl, rfl⟩)
    exact HR.out _ _ ⟨rfl, rfl⟩ rfl (Kept.refl _ _)

set_option maxRecDepth 10000 in
set_option maxHeartbeats 1000000 in
theorem l3_2 (m : Int) (x1 : Option Addr) (n1 c1 : Nat) (x2 : Option Addr) (n2 c2 : Nat) (x3 : Option Addr) (n3 c3 : Nat) (x4 : Option Addr) (n4 c4 : Nat) (x5 : Option Addr) (n5 c5 : Nat) (a : Act) (w : World) (Q : Exit → Act → World → Prop) (hfr : Fr 285 a) (hs : Slots [(0, .int .u32 m), (1, .slice x1 n1 c1), (2, .slice x2 n2 c2), (3, .slice x3 n3 c3), (4, .slice x4 n4 c4), (5, .slice x5 n5 c5)] a)
    (l1 : (n1 : Int) ≤ 1048576) (l2 : (n2 : Int) ≤ 1048576) (l3 : (n3 : Int) ≤ 1048576) (l4 : (n4 : Int) ≤ 1048576) (l5 : (n5 : Int) ≤ 1048576)
    (hQ : ∀ a', n1 ≤ 65536 → n2 ≤ 65536 → n3 ≤ 65536 → n4 ≤ 65536 → n5 ≤ 65536 → Fr 285 a' → Slots [(0, .int .u32 m), (1, .slice x1 n1 c1), (2, .slice x2 n2 c2), (3, .slice x3 n3 c3), (4, .slice x4 n4 c4), (5, .slice x5 n5 c5)] a' → Q .normal a' w)
    (hret : ∀ a' w', Fr 285 a' → sl a' 12 = .bool true → Kept [] w w' → Q .ret a' w') :
    Code.wp Try.prog (nthC 2 (bodyC Try.f3)) Q a w := by
  obtain ⟨u, hu, rfl⟩ := lay285 hfr
  obtain ⟨s0, s1, s2, s3, s4, s5, -⟩ := hs
  replace s0 : u 0 = .int .u32 m := (hu 0).symm.trans s0
  replace s1 : u 1 = .slice x1 n1 c1 := (hu 1).symm.trans s1
  replace s2 : u 2 = .slice x2 n2 c2 := (hu 2).symm.trans s2
  replace s3 : u 3 = .slice x3 n3 c3 := (hu 3).symm.trans s3
  replace s4 : u 4 = .slice x4 n4 c4 := (hu 4).symm.trans s4
  replace s5 : u 5 = .slice x5 n5 c5 := (hu 5).symm.trans s5
  rw [s0, s1, s2, s3, s4, s5]
  clear hfr hu s0 s1 s2 s3 s4 s5
  conv => arg 2; whnf
  have H : Hid _ := hQ
  have HR : Hid _ := hret
  clear hQ hret
  by_cases h1 : (65536 : Int) < n1
  · go_wp2
    exact HR.out _ _ ⟨rfl, rfl⟩ rfl (Kept.refl _ _)
  by_cases h2 : (65536 : Int) < n2
  · go_wp2
    exact HR.out _ _ ⟨rfl, rfl⟩ rfl (Kept.refl _ _)
  by_cases h3 : (65536 : Int) < n3
  · go_wp2
    exact HR.out _ _ ⟨rfl, rfl⟩ rfl (Kept.refl _ _)
  by_cases h4 : (65536 : Int) < n4
  · go_wp2
    exact HR.out _ _ ⟨rfl, rfl⟩ rfl (Kept.refl _ _)
  by_cases h5 : (65536 : Int) < n5
  · go_wp2
    exact HR.out _ _ ⟨rfl, rfl⟩ rfl (Kept.refl _ _)
  go_wp2
  exact H.out _ (by omega) (by omega) (by omega) (by omega) (by omega) ⟨rfl, rfl⟩ ⟨rfl, rfl, rfl, rfl, rfl, rfl, trivial⟩

set_option maxRecDepth 10000 in
set_option maxHeartbeats 1000000 in
theorem l3_3 (m : Int) (x1 : Option Addr) (n1 c1 : Nat) (x2 : Option Addr) (n2 c2 : Nat) (x3 : Option Addr) (n3 c3 : Nat) (x4 : Option Addr) (n4 c4 : Nat) (x5 : Option Addr) (n5 c5 : Nat) (a : Act) (w : World) (Q : Exit → Act → World → Prop) (hfr : Fr 285 a) (hs : Slots [(0, .int .u32 m), (1, .slice x1 n1 c1), (2, .slice x2 n2 c2), (3, .slice x3 n3 c3), (4, .slice x4 n4 c4), (5, .slice x5 n5 c5)] a)
    (l1 : (n1 : Int) ≤ 65536) (l2 : (n2 : Int) ≤ 65536) (l3 : (n3 : Int) ≤ 65536) (l4 : (n4 : Int) ≤ 65536) (l5 : (n5 : Int) ≤ 65536)
    (hQ : ∀ a', Fr 285 a' → Slots [(0, .int .u32 m), (1, .slice x1 n1 c1), (2, .slice x2 n2 c2), (3, .slice x3 n3 c3), (4, .slice x4 n4 c4), (5, .slice x5 n5 c5)] a' → Q .normal a' w)
    (hret : ∀ a' w', Fr 285 a' → sl a' 12 = .bool true → Kept [] w w' → Q .ret a' w') :
    Code.wp Try.prog (nthC 3 (bodyC Try.f3)) Q a w := by
  obtain ⟨u, hu, rfl⟩ := lay285 hfr
  obtain ⟨s0, s1, s2, s3, s4, s5, -⟩ := hs
  replace s0 : u 0 = .int .u32 m := (hu 0).symm.trans s0
  replace s1 : u 1 = .slice x1 n1 c1 := (hu 1).symm.trans s1
  replace s2 : u 2 = .slice x2 n2 c2 := (hu 2).symm.trans s2
  replace s3 : u 3 = .slice x3 n3 c3 := (hu 3).symm.trans s3
  replace s4 : u 4 = .slice x4 n4 c4 := (hu 4).symm.trans s4
  replace s5 : u 5 = .slice x5 n5 c5 := (hu 5).symm.trans s5
  rw [s0, s1, s2, s3, s4, s5]
  clear hfr hu s0 s1 s2 s3 s4 s5
  conv => arg 2; whnf
  have H : Hid _ := hQ
  have HR : Hid _ := hret
  clear hQ hret
  by_cases h : (1048576 : Int) < 8 * n1 + n2 + 8 * n3 + n4 + 4 * n5
  · go_wp2
    exact HR.out _ _ ⟨rfl, rfl⟩ rfl (Kept.refl _ _)
  · go_wp2
    exact H.out _ ⟨rfl, rfl⟩ ⟨rfl, rfl, rfl, rfl, rfl, rfl, trivial⟩

set_option maxRecDepth 10000 in
set_option maxHeartbeats 1000000 in
theorem l3_4 (m : Int) (x1 : Option Addr) (n1 c1 : Nat) (x2 : Option Addr) (n2 c2 : Nat) (x3 : Option Addr) (n3 c3 : Nat) (x4 : Option Addr) (n4 c4 : Nat) (x5 : Option Addr) (n5 c5 : Nat) (a : Act) (w : World) (Q : Exit → Act → World → Prop) (hfr : Fr 285 a) (hs : Slots [(0, .int .u32 m), (1, .slice x1 n1 c1), (2, .slice x2 n2 c2), (3, .slice x3 n3 c3), (4, .slice x4 n4 c4), (5, .slice x5 n5 c5)] a)
    (hQ : ∀ a', m ≤ 65536 → Fr 285 a' → Slots [(0, .int .u32 m), (1, .slice x1 n1 c1), (2, .slice x2 n2 c2), (3, .slice x3 n3 c3), (4, .slice x4 n4 c4), (5, .slice x5 n5 c5)] a' → Q .normal a' w)
    (hret : ∀ a' w', Fr 285 a' → sl a' 12 = .bool true → Kept [] w w' → Q .ret a' w') :
    Code.wp Try.prog (nthC 4 (bodyC Try.f3)) Q a w := by
  obtain ⟨u, hu, rfl⟩ := lay285 hfr
  obtain ⟨s0, s1, s2, s3, s4, s5, -⟩ := hs
  replace s0 : u 0 = .int .u32 m := (hu 0).symm.trans s0
  replace s1 : u 1 = .slice x1 n1 c1 := (hu 1).symm.trans s1
  replace s2 : u 2 = .slice x2 n2 c2 := (hu 2).symm.trans s2
  replace s3 : u 3 = .slice x3 n3 c3 := (hu 3).symm.trans s3
  replace s4 : u 4 = .slice x4 n4 c4 := (hu 4).symm.trans s4
  replace s5 : u 5 = .slice x5 n5 c5 := (hu 5).symm.trans s5
  rw [s0, s1, s2, s3, s4, s5]
  clear hfr hu s0 s1 s2 s3 s4 s5
  conv => arg 2; whnf
  have H : Hid _ := hQ
  have HR : Hid _ := hret
  clear hQ hret
  by_cases h : (65536 : Int) < m
  · go_wp2
    exact HR.out _ _ ⟨rfl, rfl⟩ rfl (Kept.refl _ _)
  · go_wp2
    exact H.out _ (by omega) ⟨rfl, rfl⟩ ⟨rfl, rfl, rfl, rfl, rfl, rfl, trivial⟩

set_option maxRecDepth 10000 in
set_option maxHeartbeats 1000000 in
theorem l3_5 (m : Int) (x1 : Option Addr) (n1 c1 : Nat) (x2 : Option Addr) (n2 c2 : Nat) (x3 : Option Addr) (n3 c3 : Nat) (x4 : Option Addr) (n4 c4 : Nat) (x5 : Option Addr) (n5 c5 : Nat) (a : Act) (w : World) (Q : Exit → Act → World → Prop) (hfr : Fr 285 a) (hs : Slots [(0, .int .u32 m), (1, .slice x1 n1 c1), (2, .slice x2 n2 c2), (3, .slice x3 n3 c3), (4, .slice x4 n4 c4), (5, .slice x5 n5 c5)] a)
    (hQ : ∀ a', Fr 285 a' → Slots [(0, .int .u32 m), (1, .slice x1 n1 c1), (2, .slice x2 n2 c2), (3, .slice x3 n3 c3), (4, .slice x4 n4 c4), (5, .slice x5 n5 c5), (13, .int .i64 n5)] a' → Q .normal a' w) :
    Code.wp Try.prog (nthC 5 (bodyC Try.f3)) Q a w := by
  obtain ⟨u, hu, rfl⟩ := lay285 hfr
  obtain ⟨s0, s1, s2, s3, s4, s5, -⟩ := hs
  replace s0 : u 0 = .int .u32 m := (hu 0).symm.trans s0
  replace s1 : u 1 = .slice x1 n1 c1 := (hu 1).symm.trans s1
  replace s2 : u 2 = .slice x2 n2 c2 := (hu 2).symm.trans s2
  replace s3 : u 3 = .slice x3 n3 c3 := (hu 3).symm.trans s3
  replace s4 : u 4 = .slice x4 n4 c4 := (hu 4).symm.trans s4
  replace s5 : u 5 = .slice x5 n5 c5 := (hu 5).symm.trans s5
  rw [s0, s1, s2, s3, s4, s5]
  clear hfr hu s0 s1 s2 s3 s4 s5
  conv => arg 2; whnf
  have H : Hid _ := hQ
  clear hQ
  go_wp2
  exact H.out _ ⟨rfl, rfl⟩ ⟨rfl, rfl, rfl, rfl, rfl, rfl, rfl, trivial⟩

set_option maxRecDepth 10000 in
set_option maxHeartbeats 1000000 in
theorem l3_6 (m : Int) (x1 : Option Addr) (n1 c1 : Nat) (x2 : Option Addr) (n2 c2 : Nat) (x3 : Option Addr) (n3 c3 : Nat) (x4 : Option Addr) (n4 c4 : Nat) (x5 : Option Addr) (n5 c5 : Nat) (a : Act) (w : World) (Q : Exit → Act → World → Prop) (hfr : Fr 285 a) (hs : Slots [(0, .int .u32 m), (1, .slice x1 n1 c1), (2, .slice x2 n2 c2), (3, .slice x3 n3 c3), (4, .slice x4 n4 c4), (5, .slice x5 n5 c5), (13, .int .i64 n5)] a)
    (hQ : ∀ a', n1 = n5 → n2 = n5 → n3 = n5 → n4 = n5 → Fr 285 a' → Slots [(0, .int .u32 m), (1, .slice x1 n1 c1), (2, .slice x2 n2 c2), (3, .slice x3 n3 c3), (4, .slice x4 n4 c4), (5, .slice x5 n5 c5), (13, .int .i64 n5)] a' → Q .normal a' w)
    (hret : ∀ a' w', Fr 285 a' → sl a' 12 = .bool true → Kept [] w w' → Q .ret a' w') :
    Code.wp Try.prog (nthC 6 (bodyC Try.f3)) Q a w := by
  obtain ⟨u, hu, rfl⟩ := lay285 hfr
  obtain ⟨s0, s1, s2, s3, s4, s5, s13, -⟩ := hs
  replace s0 : u 0 = .int .u32 m := (hu 0).symm.trans s0
  replace s1 : u 1 = .slice x1 n1 c1 := (hu 1).symm.trans s1
  replace s2 : u 2 = .slice x2 n2 c2 := (hu 2).symm.trans s2
  replace s3 : u 3 = .slice x3 n3 c3 := (hu 3).symm.trans s3
  replace s4 : u 4 = .slice x4 n4 c4 := (hu 4).symm.trans s4
  replace s5 : u 5 = .slice x5 n5 c5 := (hu 5).symm.trans s5
  replace s13 : u 13 = .int .i64 n5 := (hu 13).symm.trans s13
  rw [s0, s1, s2, s3, s4, s5, s13]
  clear hfr hu s0 s1 s2 s3 s4 s5 s13
  conv => arg 2; whnf
  have H : Hid _ := hQ
  have HR : Hid _ := hret
  clear hQ hret
  by_cases h1 : n5 = n1
  rotate_left
  · have g1 : ¬ ((n1 : Int) = n5) := by omega
    clear h1
    go_wp2
    exact HR.out _ _ ⟨rfl, rfl⟩ rfl (Kept.refl _ _)
  subst h1
  by_cases h2 : n5 = n2
  rotate_left
  · have g2 : ¬ ((n2 : Int) = n5) := by omega
    clear h2
    go_wp2
    exact HR.out _ _ ⟨rfl, rfl⟩ rfl (Kept.refl _ _)
  subst h2
  by_cases h3 : n5 = n3
  rotate_left
  · have g3 : ¬ ((n3 : Int) = n5) := by omega
    clear h3
    go_wp2
    exact HR.out _ _ ⟨rfl, rfl⟩ rfl (Kept.refl _ _)
  subst h3
  by_cases h4 : n5 = n4
  rotate_left
  · have g4 : ¬ ((n4 : Int) = n5) := by omega
    clear h4
    go_wp2
    exact HR.out _ _ ⟨rfl, rfl⟩ rfl (Kept.refl _ _)
  subst h4
  go_wp2
  exact H.out _ (by trivial) (by trivial) (by trivial) (by trivial) ⟨rfl, rfl⟩ ⟨rfl, rfl, rfl, rfl, rfl, rfl, rfl, trivial⟩

set_option maxRecDepth 10000 in
set_option maxHeartbeats 1000000 in
theorem l3_7i (m : Int) (x1 : Option Addr) (n1 c1 : Nat) (x2 : Option Addr) (n2 c2 : Nat) (x3 : Option Addr) (n3 c3 : Nat) (x4 : Option Addr) (n4 c4 : Nat) (x5 : Option Addr) (n5 c5 : Nat) (a : Act) (w : World) (Q : Exit → Act → World → Prop) (hfr : Fr 285 a) (hs : Slots [(0, .int .u32 m), (1, .slice x1 n1 c1), (2, .slice x2 n2 c2), (3, .slice x3 n3 c3), (4, .slice x4 n4 c4), (5, .slice x5 n5 c5), (13, .int .i64 n5)] a)
    (hQ : ∀ a', Fr 285 a' → Slots [(0, .int .u32 m), (1, .slice x1 n1 c1), (2, .slice x2 n2 c2), (3, .slice x3 n3 c3), (4, .slice x4 n4 c4), (5, .slice x5 n5 c5), (13, .int .i64 n5), (14, .int .i64 (0 : Nat))] a' → Q .normal a' w) :
    Code.wp Try.prog (hdC (nthC 7 (bodyC Try.f3))) Q a w := by
  obtain ⟨u, hu, rfl⟩ := lay285 hfr
  obtain ⟨s0, s1, s2, s3, s4, s5, s13, -⟩ := hs
  replace s0 : u 0 = .int .u32 m := (hu 0).symm.trans s0
  replace s1 : u 1 = .slice x1 n1 c1 := (hu 1).symm.trans s1
  replace s2 : u 2 = .slice x2 n2 c2 := (hu 2).symm.trans s2
  replace s3 : u 3 = .slice x3 n3 c3 := (hu 3).symm.trans s3
  replace s4 : u 4 = .slice x4 n4 c4 := (hu 4).symm.trans s4
  replace s5 : u 5 = .slice x5 n5 c5 := (hu 5).symm.trans s5
  replace s13 : u 13 = .int .i64 n5 := (hu 13).symm.trans s13
  rw [s0, s1, s2, s3, s4, s5, s13]
  clear hfr hu s0 s1 s2 s3 s4 s5 s13
  conv => arg 2; whnf
  have H : Hid _ := hQ
  clear hQ
  go_wp2
  exact H.out _ ⟨rfl, rfl⟩ ⟨rfl, rfl, rfl, rfl, rfl, rfl, rfl, rfl, trivial⟩

set_option maxRecDepth 10000 in
set_option maxHeartbeats 1000000 in
theorem l3_7r (m : Int) (x1 : Option Addr) (n1 c1 : Nat) (x2 : Option Addr) (n2 c2 : Nat) (x3 : Option Addr) (n3 c3 : Nat) (x4 : Option Addr) (n4 c4 : Nat) (x5 : Option Addr) (n5 c5 : Nat) (k b off : Nat) (f : Nat → Int) (a : Act) (w : World) (Q : Exit → Act → World → Prop) (hfr : Fr 285 a) (hs : Slots [(0, .int .u32 m), (1, .slice x1 n1 c1), (2, .slice x2 n2 c2), (3, .slice x3 n3 c3), (4, .slice x4 n4 c4), (5, .slice x5 n5 c5), (13, .int .i64 n5), (14, .int .i64 (k : Nat))] a)
    (hk : k ≤ n5) (l5 : (n5 : Int) ≤ 65536) (hx : 0 < n5 → x5 = some ⟨b, off, none⟩) (hc : k < n5 → w.cell? ⟨b, off + k, none⟩ = some (.int .u32 (f k)))
    (hQ : ∀ a', k < n5 → f k ≤ m → Fr 285 a' → Slots [(0, .int .u32 m), (1, .slice x1 n1 c1), (2, .slice x2 n2 c2), (3, .slice x3 n3 c3), (4, .slice x4 n4 c4), (5, .slice x5 n5 c5), (13, .int .i64 n5), (14, .int .i64 (k + 1 : Nat))] a' → Q .normal a' w) (hexit : ∀ a', k = n5 → Fr 285 a' → Slots [(0, .int .u32 m), (1, .slice x1 n1 c1), (2, .slice x2 n2 c2), (3, .slice x3 n3 c3), (4, .slice x4 n4 c4), (5, .slice x5 n5 c5), (13, .int .i64 n5)] a' → Q (.exit 0) a' w)
    (hret : ∀ a' w', Fr 285 a' → sl a' 12 = .bool true → Kept [] w w' → Q .ret a' w') :
    Code.wp Try.prog (inC (inC (tlC (nthC 7 (bodyC Try.f3))))) Q a w := by
  obtain ⟨u, hu, rfl⟩ := lay285 hfr
  obtain ⟨s0, s1, s2, s3, s4, s5, s13, s14, -⟩ := hs
  replace s0 : u 0 = .int .u32 m := (hu 0).symm.trans s0
  replace s1 : u 1 = .slice x1 n1 c1 := (hu 1).symm.trans s1
  replace s2 : u 2 = .slice x2 n2 c2 := (hu 2).symm.trans s2
  replace s3 : u 3 = .slice x3 n3 c3 := (hu 3).symm.trans s3
  replace s4 : u 4 = .slice x4 n4 c4 := (hu 4).symm.trans s4
  replace s5 : u 5 = .slice x5 n5 c5 := (hu 5).symm.trans s5
  replace s13 : u 13 = .int .i64 n5 := (hu 13).symm.trans s13
  replace s14 : u 14 = .int .i64 (k : Nat) := (hu 14).symm.trans s14
  rw [s0, s1, s2, s3, s4, s5, s13, s14]
  clear hfr hu s0 s1 s2 s3 s4 s5 s13 s14
  conv => arg 2; whnf
  have H : Hid _ := hQ
  have HX : Hid _ := hexit
  have HR : Hid _ := hret
  clear hQ hexit hret
  by_cases hlt : k < n5
  · have e := hx (by omega)
    subst e
    have hck := hc hlt
    clear hx hc
    by_cases h1 : m < f k
    · go_wp2
      exact HR.out _ _ ⟨rfl, rfl⟩ rfl (Kept.refl _ _)
    · go_wp2
      exact H.out _ hlt (by omega) ⟨rfl, rfl⟩ ⟨rfl, rfl, rfl, rfl, rfl, rfl, rfl, rfl, trivial⟩
  · clear hx hc
    go_wp2
    exact HX.out _ (by omega) ⟨rfl, rfl⟩ ⟨rfl, rfl, rfl, rfl, rfl, rfl, rfl, trivial⟩

set_option maxRecDepth 10000 in
set_option maxHeartbeats 1000000 in
theorem l3_8 (m : Int) (x1 : Option Addr) (n1 c1 : Nat) (x2 : Option Addr) (n2 c2 : Nat) (x3 : Option Addr) (n3 c3 : Nat) (x4 : Option Addr) (n4 c4 : Nat) (x5 : Option Addr) (n5 c5 : Nat) (G : Option Addr → World → Prop) (a : Act) (w : World) (Q : Exit → Act → World → Prop) (hfr : Fr 285 a) (hs : Slots [(0, .int .u32 m), (1, .slice x1 n1 c1), (2, .slice x2 n2 c2), (3, .slice x3 n3 c3), (4, .slice x4 n4 c4), (5, .slice x5 n5 c5), (13, .int .i64 n5)] a)
    (hcall : Calls Try.prog 10 #[.slice x1 n1 c1] w fun e w' => ∃ y, e = .returned (.slice y n1 n1) ∧ G y w')
    (hQ : ∀ a' y w', G y w' → Fr 285 a' → Slots [(0, .int .u32 m), (1, .slice y n1 n1), (2, .slice x2 n2 c2), (3, .slice x3 n3 c3), (4, .slice x4 n4 c4), (5, .slice x5 n5 c5), (13, .int .i64 n5)] a' → Q .normal a' w') :
    Code.wp Try.prog (nthC 8 (bodyC Try.f3)) Q a w := by
  obtain ⟨u, hu, rfl⟩ := lay285 hfr
  obtain ⟨s0, s1, s2, s3, s4, s5, s13, -⟩ := hs
  replace s0 : u 0 = .int .u32 m := (hu 0).symm.trans s0
  replace s1 : u 1 = .slice x1 n1 c1 := (hu 1).symm.trans s1
  replace s2 : u 2 = .slice x2 n2 c2 := (hu 2).symm.trans s2
  replace s3 : u 3 = .slice x3 n3 c3 := (hu 3).symm.trans s3
  replace s4 : u 4 = .slice x4 n4 c4 := (hu 4).symm.trans s4
  replace s5 : u 5 = .slice x5 n5 c5 := (hu 5).symm.trans s5
  replace s13 : u 13 = .int .i64 n5 := (hu 13).symm.trans s13
  rw [s0, s1, s2, s3, s4, s5, s13]
  clear hfr hu s0 s1 s2 s3 s4 s5 s13
  conv => arg 2; whnf
  have H : Hid _ := hQ
  have HC : Hid _ := hcall
  clear hQ hcall
  go_wp2_with (go_at_call 10; refine Calls.mono HC.out ?_; rintro e w' ⟨y, rfl, hG⟩)
  exact H.out _ y _ hG ⟨rfl, rfl⟩ ⟨rfl, rfl, rfl, rfl, rfl, rfl, rfl, trivial⟩

set_option maxRecDepth 10000 in
set_option maxHeartbeats 1000000 in
theorem l3_9 (m : Int) (x1 : Option Addr) (n1 c1 : Nat) (x2 : Option Addr) (n2 c2 : Nat) (x3 : Option Addr) (n3 c3 : Nat) (x4 : Option Addr) (n4 c4 : Nat) (x5 : Option Addr) (n5 c5 : Nat) (G : Option Addr → World → Prop) (a : Act) (w : World) (Q : Exit → Act → World → Prop) (hfr : Fr 285 a) (hs : Slots [(0, .int .u32 m), (1, .slice x1 n1 c1), (2, .slice x2 n2 c2), (3, .slice x3 n3 c3), (4, .slice x4 n4 c4), (5, .slice x5 n5 c5), (13, .int .i64 n5)] a)
    (hcall : Calls Try.prog 11 #[.slice x2 n2 c2] w fun e w' => ∃ y, e = .returned (.slice y n2 n2) ∧ G y w')
    (hQ : ∀ a' y w', G y w' → Fr 285 a' → Slots [(0, .int .u32 m), (1, .slice x1 n1 c1), (2, .slice y n2 n2), (3, .slice x3 n3 c3), (4, .slice x4 n4 c4), (5, .slice x5 n5 c5), (13, .int .i64 n5)] a' → Q .normal a' w') :
    Code.wp Try.prog (nthC 9 (bodyC Try.f3)) Q a w := by
  obtain ⟨u, hu, rfl⟩ := lay285 hfr
  obtain ⟨s0, s1, s2, s3, s4, s5, s13, -⟩ := hs
  replace s0 : u 0 = .int .u32 m := (hu 0).symm.trans s0
  replace s1 : u 1 = .slice x1 n1 c1 := (hu 1).symm.trans s1
  replace s2 : u 2 = .slice x2 n2 c2 := (hu 2).symm.trans s2
  replace s3 : u 3 = .slice x3 n3 c3 := (hu 3).symm.trans s3
  replace s4 : u 4 = .slice x4 n4 c4 := (hu 4).symm.trans s4
  replace s5 : u 5 = .slice x5 n5 c5 := (hu 5).symm.trans s5
  replace s13 : u 13 = .int .i64 n5 := (hu 13).symm.trans s13
  rw [s0, s1, s2, s3, s4, s5, s13]
  clear hfr hu s0 s1 s2 s3 s4 s5 s13
  conv => arg 2; whnf
  have H : Hid _ := hQ
  have HC : Hid _ := hcall
  clear hQ hcall
  go_wp2_with (go_at_call 11; refine Calls.mono HC.out ?_; rintro e w' ⟨y, rfl, hG⟩)
  exact H.out _ y _ hG ⟨rfl, rfl⟩ ⟨rfl, rfl, rfl, rfl, rfl, rfl, rfl, trivial⟩

set_option maxRecDepth 10000 in
set_option maxHeartbeats 1000000 in
theorem l3_10 (m : Int) (x1 : Option Addr) (n1 c1 : Nat) (x2 : Option Addr) (n2 c2 : Nat) (x3 : Option Addr) (n3 c3 : Nat) (x4 : Option Addr) (n4 c4 : Nat) (x5 : Option Addr) (n5 c5 : Nat) (G : Option Addr → World → Prop) (a : Act) (w : World) (Q : Exit → Act → World → Prop) (hfr : Fr 285 a) (hs : Slots [(0, .int .u32 m), (1, .slice x1 n1 c1), (2, .slice x2 n2 c2), (3, .slice x3 n3 c3), (4, .slice x4 n4 c4), (5, .slice x5 n5 c5), (13, .int .i64 n5)] a)
    (hcall : Calls Try.prog 10 #[.slice x3 n3 c3] w fun e w' => ∃ y, e = .returned (.slice y n3 n3) ∧ G y w')
    (hQ : ∀ a' y w', G y w' → Fr 285 a' → Slots [(0, .int .u32 m), (1, .slice x1 n1 c1), (2, .slice x2 n2 c2), (3, .slice y n3 n3), (4, .slice x4 n4 c4), (5, .slice x5 n5 c5), (13, .int .i64 n5)] a' → Q .normal a' w') :
    Code.wp Try.prog (nthC 10 (bodyC Try.f3)) Q a w := by
  obtain ⟨u, hu, rfl⟩ := lay285 hfr
  obtain ⟨s0, s1, s2, s3, s4, s5, s13, -⟩ := hs
  replace s0 : u 0 = .int .u32 m := (hu 0).symm.trans s0
  replace s1 : u 1 = .slice x1 n1 c1 := (hu 1).symm.trans s1
  replace s2 : u 2 = .slice x2 n2 c2 := (hu 2).symm.trans s2
  replace s3 : u 3 = .slice x3 n3 c3 := (hu 3).symm.trans s3
  replace s4 : u 4 = .slice x4 n4 c4 := (hu 4).symm.trans s4
  replace s5 : u 5 = .slice x5 n5 c5 := (hu 5).symm.trans s5
  replace s13 : u 13 = .int .i64 n5 := (hu 13).symm.trans s13
  rw [s0, s1, s2, s3, s4, s5, s13]
  clear hfr hu s0 s1 s2 s3 s4 s5 s13
  conv => arg 2; whnf
  have H : Hid _ := hQ
  have HC : Hid _ := hcall
  clear hQ hcall
  go_wp2_with (go_at_call 10; refine Calls.mono HC.out ?_; rintro e w' ⟨y, rfl, hG⟩)
  exact H.out _ y _ hG ⟨rfl, rfl⟩ ⟨rfl, rfl, rfl, rfl, rfl, rfl, rfl, trivial⟩

set_option maxRecDepth 10000 in
set_option maxHeartbeats 1000000 in
theorem l3_11 (m : Int) (x1 : Option Addr) (n1 c1 : Nat) (x2 : Option Addr) (n2 c2 : Nat) (x3 : Option Addr) (n3 c3 : Nat) (x4 : Option Addr) (n4 c4 : Nat) (x5 : Option Addr) (n5 c5 : Nat) (G : Option Addr → World → Prop) (a : Act) (w : World) (Q : Exit → Act → World → Prop) (hfr : Fr 285 a) (hs : Slots [(0, .int .u32 m), (1, .slice x1 n1 c1), (2, .slice x2 n2 c2), (3, .slice x3 n3 c3), (4, .slice x4 n4 c4), (5, .slice x5 n5 c5), (13, .int .i64 n5)] a)
    (hcall : Calls Try.prog 11 #[.slice x4 n4 c4] w fun e w' => ∃ y, e = .returned (.slice y n4 n4) ∧ G y w')
    (hQ : ∀ a' y w', G y w' → Fr 285 a' → Slots [(0, .int .u32 m), (1, .slice x1 n1 c1), (2, .slice x2 n2 c2), (3, .slice x3 n3 c3), (4, .slice y n4 n4), (5, .slice x5 n5 c5), (13, .int .i64 n5)] a' → Q .normal a' w') :
    Code.wp Try.prog (nthC 11 (bodyC Try.f3)) Q a w := by
  obtain ⟨u, hu, rfl⟩ := lay285 hfr
  obtain ⟨s0, s1, s2, s3, s4, s5, s13, -⟩ := hs
  replace s0 : u 0 = .int .u32 m := (hu 0).symm.trans s0
  replace s1 : u 1 = .slice x1 n1 c1 := (hu 1).symm.trans s1
  replace s2 : u 2 = .slice x2 n2 c2 := (hu 2).symm.trans s2
  replace s3 : u 3 = .slice x3 n3 c3 := (hu 3).symm.trans s3
  replace s4 : u 4 = .slice x4 n4 c4 := (hu 4).symm.trans s4
  replace s5 : u 5 = .slice x5 n5 c5 := (hu 5).symm.trans s5
  replace s13 : u 13 = .int .i64 n5 := (hu 13).symm.trans s13
  rw [s0, s1, s2, s3, s4, s5, s13]
  clear hfr hu s0 s1 s2 s3 s4 s5 s13
  conv => arg 2; whnf
  have H : Hid _ := hQ
  have HC : Hid _ := hcall
  clear hQ hcall
  go_wp2_with (go_at_call 11; refine Calls.mono HC.out ?_; rintro e w' ⟨y, rfl, hG⟩)
  exact H.out _ y _ hG ⟨rfl, rfl⟩ ⟨rfl, rfl, rfl, rfl, rfl, rfl, rfl, trivial⟩

set_option maxRecDepth 10000 in
set_option maxHeartbeats 1000000 in
theorem l3_12 (m : Int) (x1 : Option Addr) (n1 c1 : Nat) (x2 : Option Addr) (n2 c2 : Nat) (x3 : Option Addr) (n3 c3 : Nat) (x4 : Option Addr) (n4 c4 : Nat) (x5 : Option Addr) (n5 c5 : Nat) (G : Option Addr → World → Prop) (a : Act) (w : World) (Q : Exit → Act → World → Prop) (hfr : Fr 285 a) (hs : Slots [(0, .int .u32 m), (1, .slice x1 n1 c1), (2, .slice x2 n2 c2), (3, .slice x3 n3 c3), (4, .slice x4 n4 c4), (5, .slice x5 n5 c5), (13, .int .i64 n5)] a)
    (hcall : Calls Try.prog 12 #[.slice x5 n5 c5] w fun e w' => ∃ y, e = .returned (.slice y n5 n5) ∧ G y w')
    (hQ : ∀ a' y w', G y w' → Fr 285 a' → Slots [(0, .int .u32 m), (1, .slice x1 n1 c1), (2, .slice x2 n2 c2), (3, .slice x3 n3 c3), (4, .slice x4 n4 c4), (5, .slice y n5 n5), (13, .int .i64 n5)] a' → Q .normal a' w') :
    Code.wp Try.prog (nthC 12 (bodyC Try.f3)) Q a w := by
  obtain ⟨u, hu, rfl⟩ := lay285 hfr
  obtain ⟨s0, s1, s2, s3, s4, s5, s13, -⟩ := hs
  replace s0 : u 0 = .int .u32 m := (hu 0).symm.trans s0
  replace s1 : u 1 = .slice x1 n1 c1 := (hu 1).symm.trans s1
  replace s2 : u 2 = .slice x2 n2 c2 := (hu 2).symm.trans s2
  replace s3 : u 3 = .slice x3 n3 c3 := (hu 3).symm.trans s3
  replace s4 : u 4 = .slice x4 n4 c4 := (hu 4).symm.trans s4
  replace s5 : u 5 = .slice x5 n5 c5 := (hu 5).symm.trans s5
  replace s13 : u 13 = .int .i64 n5 := (hu 13).symm.trans s13
  rw [s0, s1, s2, s3, s4, s5, s13]
  clear hfr hu s0 s1 s2 s3 s4 s5 s13
  conv => arg 2; whnf
  have H : Hid _ := hQ
  have HC : Hid _ := hcall
  clear hQ hcall
  go_wp2_with (go_at_call 12; refine Calls.mono HC.out ?_; rintro e w' ⟨y, rfl, hG⟩)
  exact H.out _ y _ hG ⟨rfl, rfl⟩ ⟨rfl, rfl, rfl, rfl, rfl, rfl, rfl, trivial⟩

end Go.Proofs.Qxb6602526a
