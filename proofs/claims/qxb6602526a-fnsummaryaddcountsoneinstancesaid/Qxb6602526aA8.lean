import Derived.Test.Qxb6602526aA4
import Derived.Test.Qxb6602526aS11
import Derived.Deep.QuietTactic
import Derived.BigQuiet
namespace Go.Proofs.Qxb6602526a
open Go.RowKit
set_option linter.unusedSimpArgs false
set_option linter.unusedVariables false

set_option maxRecDepth 10000 in
set_option maxHeartbeats 1000000 in
/-- the call -/
theorem l8_20 (na ra : Option Addr) (nn rn pb bs : Nat) (ad : Bool) (l z o e p : Int) (q0 q1 : Bool) (ib nb : Nat) (p0 : Int) (G : World → Prop) (a : Act) (w : World) (Q : Exit → Act → World → Prop) (hfr : Fr 375 a) (hs : Slots [(1, .slice na nn nn), (2, .slice ra rn rn), (3, .pointer (some ⟨pb, 0, none⟩)), (8, .bool ad), (9, .int .u32 l), (12, .int .u64 z), (13, .int .u64 o), (14, .int .u64 e), (15, .int .u64 p), (16, .bool q0), (17, .bool q1), (20, .pointer (some ⟨bs, 0, none⟩)), (23, .pointer (some ⟨ib, 0, none⟩))] a)
    (hI : IsB w ib (instA p0 nb nn none none) 50) (hcall : Calls Try.prog 13 #[.pointer (some ⟨bs, 0, none⟩), .agg (instA p0 nb nn none none)] w fun e w' => e = .returned (.tuple #[]) ∧ G w')
    (hQ : ∀ a' w', G w' → Fr 375 a' → Slots [(1, .slice na nn nn), (2, .slice ra rn rn), (3, .pointer (some ⟨pb, 0, none⟩)), (8, .bool ad), (9, .int .u32 l), (12, .int .u64 z), (13, .int .u64 o), (14, .int .u64 e), (15, .int .u64 p), (16, .bool q0), (17, .bool q1), (20, .pointer (some ⟨bs, 0, none⟩))] a' → Q .normal a' w') :
    Code.wp Try.prog (nthC 20 (bodyC Try.f8)) Q a w := by
  obtain ⟨u, hu, rfl⟩ := lay375 hfr
  obtain ⟨s1, s2, s3, s8, s9, s12, s13, s14, s15, s16, s17, s20, s23, -⟩ := hs
  replace s1 : u 1 = .slice na nn nn := (hu 1).symm.trans s1
  replace s2 : u 2 = .slice ra rn rn := (hu 2).symm.trans s2
  replace s3 : u 3 = .pointer (some ⟨pb, 0, none⟩) := (hu 3).symm.trans s3
  replace s8 : u 8 = .bool ad := (hu 8).symm.trans s8
  replace s9 : u 9 = .int .u32 l := (hu 9).symm.trans s9
  replace s12 : u 12 = .int .u64 z := (hu 12).symm.trans s12
  replace s13 : u 13 = .int .u64 o := (hu 13).symm.trans s13
  replace s14 : u 14 = .int .u64 e := (hu 14).symm.trans s14
  replace s15 : u 15 = .int .u64 p := (hu 15).symm.trans s15
  replace s16 : u 16 = .bool q0 := (hu 16).symm.trans s16
  replace s17 : u 17 = .bool q1 := (hu 17).symm.trans s17
  replace s20 : u 20 = .pointer (some ⟨bs, 0, none⟩) := (hu 20).symm.trans s20
  replace s23 : u 23 = .pointer (some ⟨ib, 0, none⟩) := (hu 23).symm.trans s23
  rw [s1, s2, s3, s8, s9, s12, s13, s14, s15, s16, s17, s20, s23]
  clear hfr hu s1 s2 s3 s8 s9 s12 s13 s14 s15 s16 s17 s20 s23
  conv => arg 2; whnf
  have i0 : w.cell? ⟨ib, 0, none⟩ = some (.int .u64 p0) := hI.cell 0
  have i1 : w.cell? ⟨ib, 1, none⟩ = some (.slice (some ⟨nb, 0, none⟩) nn nn) := hI.cell 1
  have i2 : w.cell? ⟨ib, 2, none⟩ = some (.pointer none) := hI.cell 2
  have i3 : w.cell? ⟨ib, 3, none⟩ = some (.pointer none) := hI.cell 3
  have H : Hid _ := hQ
  have HC : Hid _ := hcall
  clear hQ hcall hI
  go_wp2_with (go_at_call 13; refine Calls.mono HC.out ?_; rintro e w' ⟨rfl, hG⟩)
  exact H.out _ _ hG ⟨rfl, rfl⟩ ⟨rfl, rfl, rfl, rfl, rfl, rfl, rfl, rfl, rfl, rfl, rfl, rfl, trivial⟩

set_option maxRecDepth 10000 in
set_option maxHeartbeats 1000000 in
/-- Instances -/
theorem l8_21 (na ra : Option Addr) (nn rn pb bs : Nat) (ad : Bool) (l z o e p : Int) (q0 q1 : Bool) (T : SumS) (p0 p1 p2 p3 p4 p5 p6 p8 : Int) (p7 : Bool) (a : Act) (w : World) (Q : Exit → Act → World → Prop) (hfr : Fr 375 a) (hs : Slots [(1, .slice na nn nn), (2, .slice ra rn rn), (3, .pointer (some ⟨pb, 0, none⟩)), (8, .bool ad), (9, .int .u32 l), (12, .int .u64 z), (13, .int .u64 o), (14, .int .u64 e), (15, .int .u64 p), (16, .bool q0), (17, .bool q1), (20, .pointer (some ⟨bs, 0, none⟩))] a)
    (hB : IsB w bs T.arr 41) (hP : IsB w pb (priorA p0 p1 p2 p3 p4 p5 p6 p7 p8) 78) (h : IntKind.u64.wrap (p0 + 1) = T.inst) (hQ : ∀ a', Fr 375 a' → Slots [(1, .slice na nn nn), (2, .slice ra rn rn), (3, .pointer (some ⟨pb, 0, none⟩)), (8, .bool ad), (9, .int .u32 l), (12, .int .u64 z), (13, .int .u64 o), (14, .int .u64 e), (15, .int .u64 p), (16, .bool q0), (17, .bool q1), (20, .pointer (some ⟨bs, 0, none⟩))] a' → Q .normal a' w) :
    Code.wp Try.prog (nthC 21 (bodyC Try.f8)) Q a w := by
  obtain ⟨u, hu, rfl⟩ := lay375 hfr
  obtain ⟨s1, s2, s3, s8, s9, s12, s13, s14, s15, s16, s17, s20, -⟩ := hs
  replace s1 : u 1 = .slice na nn nn := (hu 1).symm.trans s1
  replace s2 : u 2 = .slice ra rn rn := (hu 2).symm.trans s2
  replace s3 : u 3 = .pointer (some ⟨pb, 0, none⟩) := (hu 3).symm.trans s3
  replace s8 : u 8 = .bool ad := (hu 8).symm.trans s8
  replace s9 : u 9 = .int .u32 l := (hu 9).symm.trans s9
  replace s12 : u 12 = .int .u64 z := (hu 12).symm.trans s12
  replace s13 : u 13 = .int .u64 o := (hu 13).symm.trans s13
  replace s14 : u 14 = .int .u64 e := (hu 14).symm.trans s14
  replace s15 : u 15 = .int .u64 p := (hu 15).symm.trans s15
  replace s16 : u 16 = .bool q0 := (hu 16).symm.trans s16
  replace s17 : u 17 = .bool q1 := (hu 17).symm.trans s17
  replace s20 : u 20 = .pointer (some ⟨bs, 0, none⟩) := (hu 20).symm.trans s20
  rw [s1, s2, s3, s8, s9, s12, s13, s14, s15, s16, s17, s20]
  clear hfr hu s1 s2 s3 s8 s9 s12 s13 s14 s15 s16 s17 s20
  conv => arg 2; whnf
  have b5 : w.cell? ⟨bs, 5, none⟩ = some (.int .u64 T.inst) := hB.cell 5
  have c0 : w.cell? ⟨pb, 0, none⟩ = some (.int .u64 p0) := hP.cell 0
  have H : Hid _ := hQ
  clear hQ hB hP
  go_wp2
  exact H.out _ ⟨rfl, rfl⟩ ⟨rfl, rfl, rfl, rfl, rfl, rfl, rfl, rfl, rfl, rfl, rfl, rfl, trivial⟩

set_option maxRecDepth 10000 in
set_option maxHeartbeats 1000000 in
/-- Zero, One -/
theorem l8_22 (na ra : Option Addr) (nn rn pb bs : Nat) (ad : Bool) (l z o e p : Int) (q0 q1 : Bool) (T : SumS) (p0 p1 p2 p3 p4 p5 p6 p8 : Int) (p7 : Bool) (a : Act) (w : World) (Q : Exit → Act → World → Prop) (hfr : Fr 375 a) (hs : Slots [(1, .slice na nn nn), (2, .slice ra rn rn), (3, .pointer (some ⟨pb, 0, none⟩)), (8, .bool ad), (9, .int .u32 l), (12, .int .u64 z), (13, .int .u64 o), (14, .int .u64 e), (15, .int .u64 p), (16, .bool q0), (17, .bool q1), (20, .pointer (some ⟨bs, 0, none⟩))] a)
    (hB : IsB w bs T.arr 41) (hP : IsB w pb (priorA p0 p1 p2 p3 p4 p5 p6 p7 p8) 78) (h : IntKind.u64.wrap (p1 + z) = T.zero) (h' : IntKind.u64.wrap (p2 + o) = T.one) (hQ : ∀ a', Fr 375 a' → Slots [(1, .slice na nn nn), (2, .slice ra rn rn), (3, .pointer (some ⟨pb, 0, none⟩)), (8, .bool ad), (9, .int .u32 l), (12, .int .u64 z), (13, .int .u64 o), (14, .int .u64 e), (15, .int .u64 p), (16, .bool q0), (17, .bool q1), (20, .pointer (some ⟨bs, 0, none⟩))] a' → Q .normal a' w) :
    Code.wp Try.prog (nthC 22 (bodyC Try.f8)) Q a w := by
  obtain ⟨u, hu, rfl⟩ := lay375 hfr
  obtain ⟨s1, s2, s3, s8, s9, s12, s13, s14, s15, s16, s17, s20, -⟩ := hs
  replace s1 : u 1 = .slice na nn nn := (hu 1).symm.trans s1
  replace s2 : u 2 = .slice ra rn rn := (hu 2).symm.trans s2
  replace s3 : u 3 = .pointer (some ⟨pb, 0, none⟩) := (hu 3).symm.trans s3
  replace s8 : u 8 = .bool ad := (hu 8).symm.trans s8
  replace s9 : u 9 = .int .u32 l := (hu 9).symm.trans s9
  replace s12 : u 12 = .int .u64 z := (hu 12).symm.trans s12
  replace s13 : u 13 = .int .u64 o := (hu 13).symm.trans s13
  replace s14 : u 14 = .int .u64 e := (hu 14).symm.trans s14
  replace s15 : u 15 = .int .u64 p := (hu 15).symm.trans s15
  replace s16 : u 16 = .bool q0 := (hu 16).symm.trans s16
  replace s17 : u 17 = .bool q1 := (hu 17).symm.trans s17
  replace s20 : u 20 = .pointer (some ⟨bs, 0, none⟩) := (hu 20).symm.trans s20
  rw [s1, s2, s3, s8, s9, s12, s13, s14, s15, s16, s17, s20]
  clear hfr hu s1 s2 s3 s8 s9 s12 s13 s14 s15 s16 s17 s20
  conv => arg 2; whnf
  have b6 : w.cell? ⟨bs, 6, none⟩ = some (.int .u64 T.zero) := hB.cell 6
  have b7 : w.cell? ⟨bs, 7, none⟩ = some (.int .u64 T.one) := hB.cell 7
  have c1 : w.cell? ⟨pb, 1, none⟩ = some (.int .u64 p1) := hP.cell 1
  have c2 : w.cell? ⟨pb, 2, none⟩ = some (.int .u64 p2) := hP.cell 2
  have H : Hid _ := hQ
  clear hQ hB hP
  go_wp2
  exact H.out _ ⟨rfl, rfl⟩ ⟨rfl, rfl, rfl, rfl, rfl, rfl, rfl, rfl, rfl, rfl, rfl, rfl, trivial⟩

set_option maxRecDepth 10000 in
set_option maxHeartbeats 1000000 in
/-- Error, Pending -/
theorem l8_23 (na ra : Option Addr) (nn rn pb bs : Nat) (ad : Bool) (l z o e p : Int) (q0 q1 : Bool) (T : SumS) (p0 p1 p2 p3 p4 p5 p6 p8 : Int) (p7 : Bool) (a : Act) (w : World) (Q : Exit → Act → World → Prop) (hfr : Fr 375 a) (hs : Slots [(1, .slice na nn nn), (2, .slice ra rn rn), (3, .pointer (some ⟨pb, 0, none⟩)), (8, .bool ad), (9, .int .u32 l), (12, .int .u64 z), (13, .int .u64 o), (14, .int .u64 e), (15, .int .u64 p), (16, .bool q0), (17, .bool q1), (20, .pointer (some ⟨bs, 0, none⟩))] a)
    (hB : IsB w bs T.arr 41) (hP : IsB w pb (priorA p0 p1 p2 p3 p4 p5 p6 p7 p8) 78) (h : IntKind.u64.wrap (p3 + e) = T.err) (h' : IntKind.u64.wrap (p4 + p) = T.pend) (hQ : ∀ a', Fr 375 a' → Slots [(1, .slice na nn nn), (2, .slice ra rn rn), (3, .pointer (some ⟨pb, 0, none⟩)), (8, .bool ad), (9, .int .u32 l), (12, .int .u64 z), (13, .int .u64 o), (14, .int .u64 e), (15, .int .u64 p), (16, .bool q0), (17, .bool q1), (20, .pointer (some ⟨bs, 0, none⟩))] a' → Q .normal a' w) :
    Code.wp Try.prog (nthC 23 (bodyC Try.f8)) Q a w := by
  obtain ⟨u, hu, rfl⟩ := lay375 hfr
  obtain ⟨s1, s2, s3, s8, s9, s12, s13, s14, s15, s16, s17, s20, -⟩ := hs
  replace s1 : u 1 = .slice na nn nn := (hu 1).symm.trans s1
  replace s2 : u 2 = .slice ra rn rn := (hu 2).symm.trans s2
  replace s3 : u 3 = .pointer (some ⟨pb, 0, none⟩) := (hu 3).symm.trans s3
  replace s8 : u 8 = .bool ad := (hu 8).symm.trans s8
  replace s9 : u 9 = .int .u32 l := (hu 9).symm.trans s9
  replace s12 : u 12 = .int .u64 z := (hu 12).symm.trans s12
  replace s13 : u 13 = .int .u64 o := (hu 13).symm.trans s13
  replace s14 : u 14 = .int .u64 e := (hu 14).symm.trans s14
  replace s15 : u 15 = .int .u64 p := (hu 15).symm.trans s15
  replace s16 : u 16 = .bool q0 := (hu 16).symm.trans s16
  replace s17 : u 17 = .bool q1 := (hu 17).symm.trans s17
  replace s20 : u 20 = .pointer (some ⟨bs, 0, none⟩) := (hu 20).symm.trans s20
  rw [s1, s2, s3, s8, s9, s12, s13, s14, s15, s16, s17, s20]
  clear hfr hu s1 s2 s3 s8 s9 s12 s13 s14 s15 s16 s17 s20
  conv => arg 2; whnf
  have b8 : w.cell? ⟨bs, 8, none⟩ = some (.int .u64 T.err) := hB.cell 8
  have b9 : w.cell? ⟨bs, 9, none⟩ = some (.int .u64 T.pend) := hB.cell 9
  have c3 : w.cell? ⟨pb, 3, none⟩ = some (.int .u64 p3) := hP.cell 3
  have c4 : w.cell? ⟨pb, 4, none⟩ = some (.int .u64 p4) := hP.cell 4
  have H : Hid _ := hQ
  clear hQ hB hP
  go_wp2
  exact H.out _ ⟨rfl, rfl⟩ ⟨rfl, rfl, rfl, rfl, rfl, rfl, rfl, rfl, rfl, rfl, rfl, rfl, trivial⟩

set_option maxRecDepth 10000 in
set_option maxHeartbeats 1000000 in
theorem l8_24 (na ra : Option Addr) (nn rn pb bs : Nat) (ad : Bool) (l z o e p : Int) (q0 q1 : Bool) (a : Act) (w : World) (Q : Exit → Act → World → Prop) (hfr : Fr 375 a) (hs : Slots [(1, .slice na nn nn), (2, .slice ra rn rn), (3, .pointer (some ⟨pb, 0, none⟩)), (8, .bool ad), (9, .int .u32 l), (12, .int .u64 z), (13, .int .u64 o), (14, .int .u64 e), (15, .int .u64 p), (16, .bool q0), (17, .bool q1), (20, .pointer (some ⟨bs, 0, none⟩))] a)
    (hQ : ∀ a', Fr 375 a' → Slots [(1, .slice na nn nn), (2, .slice ra rn rn), (3, .pointer (some ⟨pb, 0, none⟩)), (8, .bool ad), (9, .int .u32 l), (12, .int .u64 z), (13, .int .u64 o), (14, .int .u64 e), (15, .int .u64 p), (16, .bool q0), (17, .bool q1), (20, .pointer (some ⟨bs, 0, none⟩)), (31, .int .u64 0)] a' → Q .normal a' w) :
    Code.wp Try.prog (nthC 24 (bodyC Try.f8)) Q a w := by
  obtain ⟨u, hu, rfl⟩ := lay375 hfr
  obtain ⟨s1, s2, s3, s8, s9, s12, s13, s14, s15, s16, s17, s20, -⟩ := hs
  replace s1 : u 1 = .slice na nn nn := (hu 1).symm.trans s1
  replace s2 : u 2 = .slice ra rn rn := (hu 2).symm.trans s2
  replace s3 : u 3 = .pointer (some ⟨pb, 0, none⟩) := (hu 3).symm.trans s3
  replace s8 : u 8 = .bool ad := (hu 8).symm.trans s8
  replace s9 : u 9 = .int .u32 l := (hu 9).symm.trans s9
  replace s12 : u 12 = .int .u64 z := (hu 12).symm.trans s12
  replace s13 : u 13 = .int .u64 o := (hu 13).symm.trans s13
  replace s14 : u 14 = .int .u64 e := (hu 14).symm.trans s14
  replace s15 : u 15 = .int .u64 p := (hu 15).symm.trans s15
  replace s16 : u 16 = .bool q0 := (hu 16).symm.trans s16
  replace s17 : u 17 = .bool q1 := (hu 17).symm.trans s17
  replace s20 : u 20 = .pointer (some ⟨bs, 0, none⟩) := (hu 20).symm.trans s20
  rw [s1, s2, s3, s8, s9, s12, s13, s14, s15, s16, s17, s20]
  clear hfr hu s1 s2 s3 s8 s9 s12 s13 s14 s15 s16 s17 s20
  conv => arg 2; whnf
  have H : Hid _ := hQ
  clear hQ
  go_wp2
  exact H.out _ ⟨rfl, rfl⟩ ⟨rfl, rfl, rfl, rfl, rfl, rfl, rfl, rfl, rfl, rfl, rfl, rfl, rfl, trivial⟩

set_option maxRecDepth 10000 in
set_option maxHeartbeats 1000000 in
theorem l8_25 (na ra : Option Addr) (nn rn pb bs : Nat) (ad : Bool) (l z o e p : Int) (q0 q1 : Bool) (a : Act) (w : World) (Q : Exit → Act → World → Prop) (hfr : Fr 375 a) (hs : Slots [(1, .slice na nn nn), (2, .slice ra rn rn), (3, .pointer (some ⟨pb, 0, none⟩)), (8, .bool ad), (9, .int .u32 l), (12, .int .u64 z), (13, .int .u64 o), (14, .int .u64 e), (15, .int .u64 p), (16, .bool q0), (17, .bool q1), (20, .pointer (some ⟨bs, 0, none⟩)), (31, .int .u64 0)] a)
    (hQ : ∀ a', Fr 375 a' → Slots [(1, .slice na nn nn), (2, .slice ra rn rn), (3, .pointer (some ⟨pb, 0, none⟩)), (8, .bool ad), (9, .int .u32 l), (12, .int .u64 z), (13, .int .u64 o), (14, .int .u64 e), (15, .int .u64 p), (16, .bool q0), (17, .bool q1), (20, .pointer (some ⟨bs, 0, none⟩)), (31, .int .u64 (ind (decide (0 < z) && decide (0 < o))))] a' → Q .normal a' w) :
    Code.wp Try.prog (nthC 25 (bodyC Try.f8)) Q a w := by
  obtain ⟨u, hu, rfl⟩ := lay375 hfr
  obtain ⟨s1, s2, s3, s8, s9, s12, s13, s14, s15, s16, s17, s20, s31, -⟩ := hs
  replace s1 : u 1 = .slice na nn nn := (hu 1).symm.trans s1
  replace s2 : u 2 = .slice ra rn rn := (hu 2).symm.trans s2
  replace s3 : u 3 = .pointer (some ⟨pb, 0, none⟩) := (hu 3).symm.trans s3
  replace s8 : u 8 = .bool ad := (hu 8).symm.trans s8
  replace s9 : u 9 = .int .u32 l := (hu 9).symm.trans s9
  replace s12 : u 12 = .int .u64 z := (hu 12).symm.trans s12
  replace s13 : u 13 = .int .u64 o := (hu 13).symm.trans s13
  replace s14 : u 14 = .int .u64 e := (hu 14).symm.trans s14
  replace s15 : u 15 = .int .u64 p := (hu 15).symm.trans s15
  replace s16 : u 16 = .bool q0 := (hu 16).symm.trans s16
  replace s17 : u 17 = .bool q1 := (hu 17).symm.trans s17
  replace s20 : u 20 = .pointer (some ⟨bs, 0, none⟩) := (hu 20).symm.trans s20
  replace s31 : u 31 = .int .u64 0 := (hu 31).symm.trans s31
  rw [s1, s2, s3, s8, s9, s12, s13, s14, s15, s16, s17, s20, s31]
  clear hfr hu s1 s2 s3 s8 s9 s12 s13 s14 s15 s16 s17 s20 s31
  conv => arg 2; whnf
  have H : Hid _ := hQ
  clear hQ
  by_cases h1 : 0 < z
  · by_cases h2 : 0 < o
    · have ee : ind (decide (0 < z) && decide (0 < o)) = 1 := by simp [ind, h1, h2]
      rw [ee] at H
      clear ee
      go_wp2
      exact H.out _ ⟨rfl, rfl⟩ ⟨rfl, rfl, rfl, rfl, rfl, rfl, rfl, rfl, rfl, rfl, rfl, rfl, rfl, trivial⟩
    · have ee : ind (decide (0 < z) && decide (0 < o)) = 0 := by simp [ind, h2]
      rw [ee] at H
      clear ee
      go_wp2
      exact H.out _ ⟨rfl, rfl⟩ ⟨rfl, rfl, rfl, rfl, rfl, rfl, rfl, rfl, rfl, rfl, rfl, rfl, rfl, trivial⟩
  · have ee : ind (decide (0 < z) && decide (0 < o)) = 0 := by simp [ind, h1]
    rw [ee] at H
    clear ee
    go_wp2
    exact H.out _ ⟨rfl, rfl⟩ ⟨rfl, rfl, rfl, rfl, rfl, rfl, rfl, rfl, rfl, rfl, rfl, rfl, rfl, trivial⟩

set_option maxRecDepth 10000 in
set_option maxHeartbeats 1000000 in
/-- Disagreements -/
theorem l8_26 (na ra : Option Addr) (nn rn pb bs : Nat) (ad : Bool) (l z o e p : Int) (q0 q1 : Bool) (d : Int) (T : SumS) (p0 p1 p2 p3 p4 p5 p6 p8 : Int) (p7 : Bool) (a : Act) (w : World) (Q : Exit → Act → World → Prop) (hfr : Fr 375 a) (hs : Slots [(1, .slice na nn nn), (2, .slice ra rn rn), (3, .pointer (some ⟨pb, 0, none⟩)), (8, .bool ad), (9, .int .u32 l), (12, .int .u64 z), (13, .int .u64 o), (14, .int .u64 e), (15, .int .u64 p), (16, .bool q0), (17, .bool q1), (20, .pointer (some ⟨bs, 0, none⟩)), (31, .int .u64 d)] a)
    (hB : IsB w bs T.arr 41) (hP : IsB w pb (priorA p0 p1 p2 p3 p4 p5 p6 p7 p8) 78) (h : IntKind.u64.wrap (p5 + d) = T.dis) (hQ : ∀ a', Fr 375 a' → Slots [(1, .slice na nn nn), (2, .slice ra rn rn), (3, .pointer (some ⟨pb, 0, none⟩)), (8, .bool ad), (9, .int .u32 l), (12, .int .u64 z), (13, .int .u64 o), (14, .int .u64 e), (15, .int .u64 p), (16, .bool q0), (17, .bool q1), (20, .pointer (some ⟨bs, 0, none⟩))] a' → Q .normal a' w) :
    Code.wp Try.prog (nthC 26 (bodyC Try.f8)) Q a w := by
  obtain ⟨u, hu, rfl⟩ := lay375 hfr
  obtain ⟨s1, s2, s3, s8, s9, s12, s13, s14, s15, s16, s17, s20, s31, -⟩ := hs
  replace s1 : u 1 = .slice na nn nn := (hu 1).symm.trans s1
  replace s2 : u 2 = .slice ra rn rn := (hu 2).symm.trans s2
  replace s3 : u 3 = .pointer (some ⟨pb, 0, none⟩) := (hu 3).symm.trans s3
  replace s8 : u 8 = .bool ad := (hu 8).symm.trans s8
  replace s9 : u 9 = .int .u32 l := (hu 9).symm.trans s9
  replace s12 : u 12 = .int .u64 z := (hu 12).symm.trans s12
  replace s13 : u 13 = .int .u64 o := (hu 13).symm.trans s13
  replace s14 : u 14 = .int .u64 e := (hu 14).symm.trans s14
  replace s15 : u 15 = .int .u64 p := (hu 15).symm.trans s15
  replace s16 : u 16 = .bool q0 := (hu 16).symm.trans s16
  replace s17 : u 17 = .bool q1 := (hu 17).symm.trans s17
  replace s20 : u 20 = .pointer (some ⟨bs, 0, none⟩) := (hu 20).symm.trans s20
  replace s31 : u 31 = .int .u64 d := (hu 31).symm.trans s31
  rw [s1, s2, s3, s8, s9, s12, s13, s14, s15, s16, s17, s20, s31]
  clear hfr hu s1 s2 s3 s8 s9 s12 s13 s14 s15 s16 s17 s20 s31
  conv => arg 2; whnf
  have b10 : w.cell? ⟨bs, 10, none⟩ = some (.int .u64 T.dis) := hB.cell 10
  have c5 : w.cell? ⟨pb, 5, none⟩ = some (.int .u64 p5) := hP.cell 5
  have H : Hid _ := hQ
  clear hQ hB hP
  go_wp2
  exact H.out _ ⟨rfl, rfl⟩ ⟨rfl, rfl, rfl, rfl, rfl, rfl, rfl, rfl, rfl, rfl, rfl, rfl, trivial⟩

set_option maxRecDepth 10000 in
set_option maxHeartbeats 1000000 in
theorem l8_27 (na ra : Option Addr) (nn rn pb bs : Nat) (ad : Bool) (l z o e p : Int) (q0 q1 : Bool) (a : Act) (w : World) (Q : Exit → Act → World → Prop) (hfr : Fr 375 a) (hs : Slots [(1, .slice na nn nn), (2, .slice ra rn rn), (3, .pointer (some ⟨pb, 0, none⟩)), (8, .bool ad), (9, .int .u32 l), (12, .int .u64 z), (13, .int .u64 o), (14, .int .u64 e), (15, .int .u64 p), (16, .bool q0), (17, .bool q1), (20, .pointer (some ⟨bs, 0, none⟩))] a)
    (hQ : ∀ a', Fr 375 a' → Slots [(1, .slice na nn nn), (2, .slice ra rn rn), (3, .pointer (some ⟨pb, 0, none⟩)), (8, .bool ad), (9, .int .u32 l), (12, .int .u64 z), (13, .int .u64 o), (14, .int .u64 e), (15, .int .u64 p), (16, .bool q0), (17, .bool q1), (20, .pointer (some ⟨bs, 0, none⟩)), (32, .int .u64 0)] a' → Q .normal a' w) :
    Code.wp Try.prog (nthC 27 (bodyC Try.f8)) Q a w := by
  obtain ⟨u, hu, rfl⟩ := lay375 hfr
  obtain ⟨s1, s2, s3, s8, s9, s12, s13, s14, s15, s16, s17, s20, -⟩ := hs
  replace s1 : u 1 = .slice na nn nn := (hu 1).symm.trans s1
  replace s2 : u 2 = .slice ra rn rn := (hu 2).symm.trans s2
  replace s3 : u 3 = .pointer (some ⟨pb, 0, none⟩) := (hu 3).symm.trans s3
  replace s8 : u 8 = .bool ad := (hu 8).symm.trans s8
  replace s9 : u 9 = .int .u32 l := (hu 9).symm.trans s9
  replace s12 : u 12 = .int .u64 z := (hu 12).symm.trans s12
  replace s13 : u 13 = .int .u64 o := (hu 13).symm.trans s13
  replace s14 : u 14 = .int .u64 e := (hu 14).symm.trans s14
  replace s15 : u 15 = .int .u64 p := (hu 15).symm.trans s15
  replace s16 : u 16 = .bool q0 := (hu 16).symm.trans s16
  replace s17 : u 17 = .bool q1 := (hu 17).symm.trans s17
  replace s20 : u 20 = .pointer (some ⟨bs, 0, none⟩) := (hu 20).symm.trans s20
  rw [s1, s2, s3, s8, s9, s12, s13, s14, s15, s16, s17, s20]
  clear hfr hu s1 s2 s3 s8 s9 s12 s13 s14 s15 s16 s17 s20
  conv => arg 2; whnf
  have H : Hid _ := hQ
  clear hQ
  go_wp2
  exact H.out _ ⟨rfl, rfl⟩ ⟨rfl, rfl, rfl, rfl, rfl, rfl, rfl, rfl, rfl, rfl, rfl, rfl, rfl, trivial⟩

set_option maxRecDepth 10000 in
set_option maxHeartbeats 1000000 in
theorem l8_28 (na ra : Option Addr) (nn rn pb bs : Nat) (ad : Bool) (l z o e p : Int) (q0 q1 : Bool) (a : Act) (w : World) (Q : Exit → Act → World → Prop) (hfr : Fr 375 a) (hs : Slots [(1, .slice na nn nn), (2, .slice ra rn rn), (3, .pointer (some ⟨pb, 0, none⟩)), (8, .bool ad), (9, .int .u32 l), (12, .int .u64 z), (13, .int .u64 o), (14, .int .u64 e), (15, .int .u64 p), (16, .bool q0), (17, .bool q1), (20, .pointer (some ⟨bs, 0, none⟩)), (32, .int .u64 0)] a)
    (hQ : ∀ a', Fr 375 a' → Slots [(1, .slice na nn nn), (2, .slice ra rn rn), (3, .pointer (some ⟨pb, 0, none⟩)), (8, .bool ad), (9, .int .u32 l), (12, .int .u64 z), (13, .int .u64 o), (14, .int .u64 e), (15, .int .u64 p), (16, .bool q0), (17, .bool q1), (20, .pointer (some ⟨bs, 0, none⟩)), (32, .int .u64 (ind (decide (0 < e))))] a' → Q .normal a' w) :
    Code.wp Try.prog (nthC 28 (bodyC Try.f8)) Q a w := by
  obtain ⟨u, hu, rfl⟩ := lay375 hfr
  obtain ⟨s1, s2, s3, s8, s9, s12, s13, s14, s15, s16, s17, s20, s32, -⟩ := hs
  replace s1 : u 1 = .slice na nn nn := (hu 1).symm.trans s1
  replace s2 : u 2 = .slice ra rn rn := (hu 2).symm.trans s2
  replace s3 : u 3 = .pointer (some ⟨pb, 0, none⟩) := (hu 3).symm.trans s3
  replace s8 : u 8 = .bool ad := (hu 8).symm.trans s8
  replace s9 : u 9 = .int .u32 l := (hu 9).symm.trans s9
  replace s12 : u 12 = .int .u64 z := (hu 12).symm.trans s12
  replace s13 : u 13 = .int .u64 o := (hu 13).symm.trans s13
  replace s14 : u 14 = .int .u64 e := (hu 14).symm.trans s14
  replace s15 : u 15 = .int .u64 p := (hu 15).symm.trans s15
  replace s16 : u 16 = .bool q0 := (hu 16).symm.trans s16
  replace s17 : u 17 = .bool q1 := (hu 17).symm.trans s17
  replace s20 : u 20 = .pointer (some ⟨bs, 0, none⟩) := (hu 20).symm.trans s20
  replace s32 : u 32 = .int .u64 0 := (hu 32).symm.trans s32
  rw [s1, s2, s3, s8, s9, s12, s13, s14, s15, s16, s17, s20, s32]
  clear hfr hu s1 s2 s3 s8 s9 s12 s13 s14 s15 s16 s17 s20 s32
  conv => arg 2; whnf
  have H : Hid _ := hQ
  clear hQ
  by_cases h1 : 0 < e
  · have ee : ind (decide (0 < e)) = 1 := by simp [ind, h1]
    rw [ee] at H
    clear ee
    go_wp2
    exact H.out _ ⟨rfl, rfl⟩ ⟨rfl, rfl, rfl, rfl, rfl, rfl, rfl, rfl, rfl, rfl, rfl, rfl, rfl, trivial⟩
  · have ee : ind (decide (0 < e)) = 0 := by simp [ind, h1]
    rw [ee] at H
    clear ee
    go_wp2
    exact H.out _ ⟨rfl, rfl⟩ ⟨rfl, rfl, rfl, rfl, rfl, rfl, rfl, rfl, rfl, rfl, rfl, rfl, rfl, trivial⟩

set_option maxRecDepth 10000 in
set_option maxHeartbeats 1000000 in
/-- ErrorInstances -/
theorem l8_29 (na ra : Option Addr) (nn rn pb bs : Nat) (ad : Bool) (l z o e p : Int) (q0 q1 : Bool) (d : Int) (T : SumS) (p0 p1 p2 p3 p4 p5 p6 p8 : Int) (p7 : Bool) (a : Act) (w : World) (Q : Exit → Act → World → Prop) (hfr : Fr 375 a) (hs : Slots [(1, .slice na nn nn), (2, .slice ra rn rn), (3, .pointer (some ⟨pb, 0, none⟩)), (8, .bool ad), (9, .int .u32 l), (12, .int .u64 z), (13, .int .u64 o), (14, .int .u64 e), (15, .int .u64 p), (16, .bool q0), (17, .bool q1), (20, .pointer (some ⟨bs, 0, none⟩)), (32, .int .u64 d)] a)
    (hB : IsB w bs T.arr 41) (hP : IsB w pb (priorA p0 p1 p2 p3 p4 p5 p6 p7 p8) 78) (h : IntKind.u64.wrap (p6 + d) = T.ei) (hQ : ∀ a', Fr 375 a' → Slots [(1, .slice na nn nn), (2, .slice ra rn rn), (3, .pointer (some ⟨pb, 0, none⟩)), (8, .bool ad), (9, .int .u32 l), (12, .int .u64 z), (13, .int .u64 o), (14, .int .u64 e), (15, .int .u64 p), (16, .bool q0), (17, .bool q1), (20, .pointer (some ⟨bs, 0, none⟩))] a' → Q .normal a' w) :
    Code.wp Try.prog (nthC 29 (bodyC Try.f8)) Q a w := by
  obtain ⟨u, hu, rfl⟩ := lay375 hfr
  obtain ⟨s1, s2, s3, s8, s9, s12, s13, s14, s15, s16, s17, s20, s32, -⟩ := hs
  replace s1 : u 1 = .slice na nn nn := (hu 1).symm.trans s1
  replace s2 : u 2 = .slice ra rn rn := (hu 2).symm.trans s2
  replace s3 : u 3 = .pointer (some ⟨pb, 0, none⟩) := (hu 3).symm.trans s3
  replace s8 : u 8 = .bool ad := (hu 8).symm.trans s8
  replace s9 : u 9 = .int .u32 l := (hu 9).symm.trans s9
  replace s12 : u 12 = .int .u64 z := (hu 12).symm.trans s12
  replace s13 : u 13 = .int .u64 o := (hu 13).symm.trans s13
  replace s14 : u 14 = .int .u64 e := (hu 14).symm.trans s14
  replace s15 : u 15 = .int .u64 p := (hu 15).symm.trans s15
  replace s16 : u 16 = .bool q0 := (hu 16).symm.trans s16
  replace s17 : u 17 = .bool q1 := (hu 17).symm.trans s17
  replace s20 : u 20 = .pointer (some ⟨bs, 0, none⟩) := (hu 20).symm.trans s20
  replace s32 : u 32 = .int .u64 d := (hu 32).symm.trans s32
  rw [s1, s2, s3, s8, s9, s12, s13, s14, s15, s16, s17, s20, s32]
  clear hfr hu s1 s2 s3 s8 s9 s12 s13 s14 s15 s16 s17 s20 s32
  conv => arg 2; whnf
  have b12 : w.cell? ⟨bs, 12, none⟩ = some (.int .u64 T.ei) := hB.cell 12
  have c6 : w.cell? ⟨pb, 6, none⟩ = some (.int .u64 p6) := hP.cell 6
  have H : Hid _ := hQ
  clear hQ hB hP
  go_wp2
  exact H.out _ ⟨rfl, rfl⟩ ⟨rfl, rfl, rfl, rfl, rfl, rfl, rfl, rfl, rfl, rfl, rfl, rfl, trivial⟩

set_option maxRecDepth 10000 in
set_option maxHeartbeats 1000000 in
/-- no count of invalid instances -/
theorem l8_30n (na ra : Option Addr) (nn rn pb bs : Nat) (ad : Bool) (l z o e p : Int) (q0 q1 : Bool) (T : SumS) (p0 p1 p2 p3 p4 p5 p6 p8 : Int) (p7 : Bool) (a : Act) (w : World) (Q : Exit → Act → World → Prop) (hfr : Fr 375 a) (hs : Slots [(1, .slice na nn nn), (2, .slice ra rn rn), (3, .pointer (some ⟨pb, 0, none⟩)), (8, .bool ad), (9, .int .u32 l), (12, .int .u64 z), (13, .int .u64 o), (14, .int .u64 e), (15, .int .u64 p), (16, .bool q0), (17, .bool q1), (20, .pointer (some ⟨bs, 0, none⟩))] a)
    (hB : IsB w bs T.arr 41) (hP : IsB w pb (priorA p0 p1 p2 p3 p4 p5 p6 p7 p8) 78) (hf : p7 = false) (h : T.inv = none) (hQ : ∀ a', Fr 375 a' → Slots [(1, .slice na nn nn), (2, .slice ra rn rn), (3, .pointer (some ⟨pb, 0, none⟩)), (8, .bool ad), (9, .int .u32 l), (12, .int .u64 z), (13, .int .u64 o), (14, .int .u64 e), (15, .int .u64 p), (16, .bool q0), (17, .bool q1), (20, .pointer (some ⟨bs, 0, none⟩))] a' → Q .normal a' w) :
    Code.wp Try.prog (nthC 30 (bodyC Try.f8)) Q a w := by
  obtain ⟨u, hu, rfl⟩ := lay375 hfr
  obtain ⟨s1, s2, s3, s8, s9, s12, s13, s14, s15, s16, s17, s20, -⟩ := hs
  replace s1 : u 1 = .slice na nn nn := (hu 1).symm.trans s1
  replace s2 : u 2 = .slice ra rn rn := (hu 2).symm.trans s2
  replace s3 : u 3 = .pointer (some ⟨pb, 0, none⟩) := (hu 3).symm.trans s3
  replace s8 : u 8 = .bool ad := (hu 8).symm.trans s8
  replace s9 : u 9 = .int .u32 l := (hu 9).symm.trans s9
  replace s12 : u 12 = .int .u64 z := (hu 12).symm.trans s12
  replace s13 : u 13 = .int .u64 o := (hu 13).symm.trans s13
  replace s14 : u 14 = .int .u64 e := (hu 14).symm.trans s14
  replace s15 : u 15 = .int .u64 p := (hu 15).symm.trans s15
  replace s16 : u 16 = .bool q0 := (hu 16).symm.trans s16
  replace s17 : u 17 = .bool q1 := (hu 17).symm.trans s17
  replace s20 : u 20 = .pointer (some ⟨bs, 0, none⟩) := (hu 20).symm.trans s20
  rw [s1, s2, s3, s8, s9, s12, s13, s14, s15, s16, s17, s20]
  clear hfr hu s1 s2 s3 s8 s9 s12 s13 s14 s15 s16 s17 s20
  conv => arg 2; whnf
  have b11 : w.cell? ⟨bs, 11, none⟩ = some (.pointer none) := by rw [← h]; exact hB.cell 11
  have c7 : w.cell? ⟨pb, 7, none⟩ = some (.bool false) := by rw [← hf]; exact hP.cell 7
  have H : Hid _ := hQ
  clear hQ hB hP
  go_wp2
  exact H.out _ ⟨rfl, rfl⟩ ⟨rfl, rfl, rfl, rfl, rfl, rfl, rfl, rfl, rfl, rfl, rfl, rfl, trivial⟩

set_option maxRecDepth 10000 in
set_option maxHeartbeats 1000000 in
theorem l8_30h (na ra : Option Addr) (nn rn pb bs : Nat) (ad : Bool) (l z o e p : Int) (q0 q1 : Bool) (T : SumS) (p0 p1 p2 p3 p4 p5 p6 p8 : Int) (p7 : Bool) (a : Act) (w : World) (Q : Exit → Act → World → Prop) (hfr : Fr 375 a) (hs : Slots [(1, .slice na nn nn), (2, .slice ra rn rn), (3, .pointer (some ⟨pb, 0, none⟩)), (8, .bool ad), (9, .int .u32 l), (12, .int .u64 z), (13, .int .u64 o), (14, .int .u64 e), (15, .int .u64 p), (16, .bool q0), (17, .bool q1), (20, .pointer (some ⟨bs, 0, none⟩))] a)
    (hB : IsB w bs T.arr 41) (hP : IsB w pb (priorA p0 p1 p2 p3 p4 p5 p6 p7 p8) 78) (hf : p7 = true) (hQ : ∀ a', Fr 375 a' → Slots [(1, .slice na nn nn), (2, .slice ra rn rn), (3, .pointer (some ⟨pb, 0, none⟩)), (8, .bool ad), (9, .int .u32 l), (12, .int .u64 z), (13, .int .u64 o), (14, .int .u64 e), (15, .int .u64 p), (16, .bool q0), (17, .bool q1), (20, .pointer (some ⟨bs, 0, none⟩)), (294, .bool false)] a' → Q .normal a' w) :
    Code.wp Try.prog (hdC (nthC 30 (bodyC Try.f8))) Q a w := by
  obtain ⟨u, hu, rfl⟩ := lay375 hfr
  obtain ⟨s1, s2, s3, s8, s9, s12, s13, s14, s15, s16, s17, s20, -⟩ := hs
  replace s1 : u 1 = .slice na nn nn := (hu 1).symm.trans s1
  replace s2 : u 2 = .slice ra rn rn := (hu 2).symm.trans s2
  replace s3 : u 3 = .pointer (some ⟨pb, 0, none⟩) := (hu 3).symm.trans s3
  replace s8 : u 8 = .bool ad := (hu 8).symm.trans s8
  replace s9 : u 9 = .int .u32 l := (hu 9).symm.trans s9
  replace s12 : u 12 = .int .u64 z := (hu 12).symm.trans s12
  replace s13 : u 13 = .int .u64 o := (hu 13).symm.trans s13
  replace s14 : u 14 = .int .u64 e := (hu 14).symm.trans s14
  replace s15 : u 15 = .int .u64 p := (hu 15).symm.trans s15
  replace s16 : u 16 = .bool q0 := (hu 16).symm.trans s16
  replace s17 : u 17 = .bool q1 := (hu 17).symm.trans s17
  replace s20 : u 20 = .pointer (some ⟨bs, 0, none⟩) := (hu 20).symm.trans s20
  rw [s1, s2, s3, s8, s9, s12, s13, s14, s15, s16, s17, s20]
  clear hfr hu s1 s2 s3 s8 s9 s12 s13 s14 s15 s16 s17 s20
  conv => arg 2; whnf
  have c7 : w.cell? ⟨pb, 7, none⟩ = some (.bool true) := by rw [← hf]; exact hP.cell 7
  have H : Hid _ := hQ
  clear hQ hB hP
  go_wp2
  exact H.out _ ⟨rfl, rfl⟩ ⟨rfl, rfl, rfl, rfl, rfl, rfl, rfl, rfl, rfl, rfl, rfl, rfl, rfl, trivial⟩

set_option maxRecDepth 10000 in
set_option maxHeartbeats 1000000 in
theorem l8_30a (na ra : Option Addr) (nn rn pb bs : Nat) (ad : Bool) (l z o e p : Int) (q0 q1 : Bool) (a : Act) (w : World) (Q : Exit → Act → World → Prop) (hfr : Fr 375 a) (hs : Slots [(1, .slice na nn nn), (2, .slice ra rn rn), (3, .pointer (some ⟨pb, 0, none⟩)), (8, .bool ad), (9, .int .u32 l), (12, .int .u64 z), (13, .int .u64 o), (14, .int .u64 e), (15, .int .u64 p), (16, .bool q0), (17, .bool q1), (20, .pointer (some ⟨bs, 0, none⟩))] a)
    (hQ : ∀ a', Fr 375 a' → Slots [(1, .slice na nn nn), (2, .slice ra rn rn), (3, .pointer (some ⟨pb, 0, none⟩)), (8, .bool ad), (9, .int .u32 l), (12, .int .u64 z), (13, .int .u64 o), (14, .int .u64 e), (15, .int .u64 p), (16, .bool q0), (17, .bool q1), (20, .pointer (some ⟨bs, 0, none⟩)), (33, .int .u64 0)] a' → Q .normal a' w) :
    Code.wp Try.prog (hdC (elC (tlC (nthC 30 (bodyC Try.f8))))) Q a w := by
  obtain ⟨u, hu, rfl⟩ := lay375 hfr
  obtain ⟨s1, s2, s3, s8, s9, s12, s13, s14, s15, s16, s17, s20, -⟩ := hs
  replace s1 : u 1 = .slice na nn nn := (hu 1).symm.trans s1
  replace s2 : u 2 = .slice ra rn rn := (hu 2).symm.trans s2
  replace s3 : u 3 = .pointer (some ⟨pb, 0, none⟩) := (hu 3).symm.trans s3
  replace s8 : u 8 = .bool ad := (hu 8).symm.trans s8
  replace s9 : u 9 = .int .u32 l := (hu 9).symm.trans s9
  replace s12 : u 12 = .int .u64 z := (hu 12).symm.trans s12
  replace s13 : u 13 = .int .u64 o := (hu 13).symm.trans s13
  replace s14 : u 14 = .int .u64 e := (hu 14).symm.trans s14
  replace s15 : u 15 = .int .u64 p := (hu 15).symm.trans s15
  replace s16 : u 16 = .bool q0 := (hu 16).symm.trans s16
  replace s17 : u 17 = .bool q1 := (hu 17).symm.trans s17
  replace s20 : u 20 = .pointer (some ⟨bs, 0, none⟩) := (hu 20).symm.trans s20
  rw [s1, s2, s3, s8, s9, s12, s13, s14, s15, s16, s17, s20]
  clear hfr hu s1 s2 s3 s8 s9 s12 s13 s14 s15 s16 s17 s20
  conv => arg 2; whnf
  have H : Hid _ := hQ
  clear hQ
  go_wp2
  exact H.out _ ⟨rfl, rfl⟩ ⟨rfl, rfl, rfl, rfl, rfl, rfl, rfl, rfl, rfl, rfl, rfl, rfl, rfl, trivial⟩

set_option maxRecDepth 10000 in
set_option maxHeartbeats 1000000 in
theorem l8_30b (na ra : Option Addr) (nn rn pb bs : Nat) (ad : Bool) (l z o e p : Int) (q0 q1 : Bool) (a : Act) (w : World) (Q : Exit → Act → World → Prop) (hfr : Fr 375 a) (hs : Slots [(1, .slice na nn nn), (2, .slice ra rn rn), (3, .pointer (some ⟨pb, 0, none⟩)), (8, .bool ad), (9, .int .u32 l), (12, .int .u64 z), (13, .int .u64 o), (14, .int .u64 e), (15, .int .u64 p), (16, .bool q0), (17, .bool q1), (20, .pointer (some ⟨bs, 0, none⟩)), (33, .int .u64 0)] a)
    (hQ : ∀ a', Fr 375 a' → Slots [(1, .slice na nn nn), (2, .slice ra rn rn), (3, .pointer (some ⟨pb, 0, none⟩)), (8, .bool ad), (9, .int .u32 l), (12, .int .u64 z), (13, .int .u64 o), (14, .int .u64 e), (15, .int .u64 p), (16, .bool q0), (17, .bool q1), (20, .pointer (some ⟨bs, 0, none⟩)), (33, .int .u64 (ind (decide (0 < z) && !q0 || decide (0 < o) && !q1)))] a' → Q .normal a' w) :
    Code.wp Try.prog (hdC (tlC (elC (tlC (nthC 30 (bodyC Try.f8)))))) Q a w := by
  obtain ⟨u, hu, rfl⟩ := lay375 hfr
  obtain ⟨s1, s2, s3, s8, s9, s12, s13, s14, s15, s16, s17, s20, s33, -⟩ := hs
  replace s1 : u 1 = .slice na nn nn := (hu 1).symm.trans s1
  replace s2 : u 2 = .slice ra rn rn := (hu 2).symm.trans s2
  replace s3 : u 3 = .pointer (some ⟨pb, 0, none⟩) := (hu 3).symm.trans s3
  replace s8 : u 8 = .bool ad := (hu 8).symm.trans s8
  replace s9 : u 9 = .int .u32 l := (hu 9).symm.trans s9
  replace s12 : u 12 = .int .u64 z := (hu 12).symm.trans s12
  replace s13 : u 13 = .int .u64 o := (hu 13).symm.trans s13
  replace s14 : u 14 = .int .u64 e := (hu 14).symm.trans s14
  replace s15 : u 15 = .int .u64 p := (hu 15).symm.trans s15
  replace s16 : u 16 = .bool q0 := (hu 16).symm.trans s16
  replace s17 : u 17 = .bool q1 := (hu 17).symm.trans s17
  replace s20 : u 20 = .pointer (some ⟨bs, 0, none⟩) := (hu 20).symm.trans s20
  replace s33 : u 33 = .int .u64 0 := (hu 33).symm.trans s33
  rw [s1, s2, s3, s8, s9, s12, s13, s14, s15, s16, s17, s20, s33]
  clear hfr hu s1 s2 s3 s8 s9 s12 s13 s14 s15 s16 s17 s20 s33
  conv => arg 2; whnf
  have H : Hid _ := hQ
  clear hQ
  by_cases h1 : 0 < z
  · cases q0
    · have ee : ind (decide (0 < z) && !false || decide (0 < o) && !q1) = 1 := by simp [ind, h1]
      rw [ee] at H
      clear ee
      go_wp2
      exact H.out _ ⟨rfl, rfl⟩ ⟨rfl, rfl, rfl, rfl, rfl, rfl, rfl, rfl, rfl, rfl, rfl, rfl, rfl, trivial⟩
    · by_cases h2 : 0 < o
      · cases q1
        · have ee : ind (decide (0 < z) && !true || decide (0 < o) && !false) = 1 := by simp [ind, h1, h2]
          rw [ee] at H
          clear ee
          go_wp2
          exact H.out _ ⟨rfl, rfl⟩ ⟨rfl, rfl, rfl, rfl, rfl, rfl, rfl, rfl, rfl, rfl, rfl, rfl, rfl, trivial⟩
        · have ee : ind (decide (0 < z) && !true || decide (0 < o) && !true) = 0 := by simp [ind, h1, h2]
          rw [ee] at H
          clear ee
          go_wp2
          exact H.out _ ⟨rfl, rfl⟩ ⟨rfl, rfl, rfl, rfl, rfl, rfl, rfl, rfl, rfl, rfl, rfl, rfl, rfl, trivial⟩
      · have ee : ind (decide (0 < z) && !true || decide (0 < o) && !q1) = 0 := by simp [ind, h1, h2]
        rw [ee] at H
        clear ee
        go_wp2
        exact H.out _ ⟨rfl, rfl⟩ ⟨rfl, rfl, rfl, rfl, rfl, rfl, rfl, rfl, rfl, rfl, rfl, rfl, rfl, trivial⟩
  · by_cases h2 : 0 < o
    · cases q1
      · have ee : ind (decide (0 < z) && !q0 || decide (0 < o) && !false) = 1 := by simp [ind, h1, h2]
        rw [ee] at H
        clear ee
        go_wp2
        exact H.out _ ⟨rfl, rfl⟩ ⟨rfl, rfl, rfl, rfl, rfl, rfl, rfl, rfl, rfl, rfl, rfl, rfl, rfl, trivial⟩
      · have ee : ind (decide (0 < z) && !q0 || decide (0 < o) && !true) = 0 := by simp [ind, h1, h2]
        rw [ee] at H
        clear ee
        go_wp2
        exact H.out _ ⟨rfl, rfl⟩ ⟨rfl, rfl, rfl, rfl, rfl, rfl, rfl, rfl, rfl, rfl, rfl, rfl, rfl, trivial⟩
    · have ee : ind (decide (0 < z) && !q0 || decide (0 < o) && !q1) = 0 := by simp [ind, h1, h2]
      rw [ee] at H
      clear ee
      go_wp2
      exact H.out _ ⟨rfl, rfl⟩ ⟨rfl, rfl, rfl, rfl, rfl, rfl, rfl, rfl, rfl, rfl, rfl, rfl, rfl, trivial⟩

set_option maxRecDepth 10000 in
set_option maxHeartbeats 1000000 in
/-- the count of invalid instances -/
theorem l8_30c (na ra : Option Addr) (nn rn pb bs : Nat) (ad : Bool) (l z o e p : Int) (q0 q1 : Bool) (d nv : Int) (vb : Nat) (T : SumS) (p0 p1 p2 p3 p4 p5 p6 p8 : Int) (p7 : Bool) (a : Act) (w : World) (Q : Exit → Act → World → Prop) (hfr : Fr 375 a) (hs : Slots [(1, .slice na nn nn), (2, .slice ra rn rn), (3, .pointer (some ⟨pb, 0, none⟩)), (8, .bool ad), (9, .int .u32 l), (12, .int .u64 z), (13, .int .u64 o), (14, .int .u64 e), (15, .int .u64 p), (16, .bool q0), (17, .bool q1), (20, .pointer (some ⟨bs, 0, none⟩)), (33, .int .u64 d)] a)
    (hB : IsB w bs T.arr 41) (hP : IsB w pb (priorA p0 p1 p2 p3 p4 p5 p6 p7 p8) 78) (hi : T.inv = some ⟨vb, 0, none⟩) (hV : IsB w vb #[.int .u64 nv] 31) (h : IntKind.u64.wrap (p8 + d) = nv) (hQ : ∀ a' n, Fr 375 a' → Slots [(1, .slice na nn nn), (2, .slice ra rn rn), (3, .pointer (some ⟨pb, 0, none⟩)), (8, .bool ad), (9, .int .u32 l), (12, .int .u64 z), (13, .int .u64 o), (14, .int .u64 e), (15, .int .u64 p), (16, .bool q0), (17, .bool q1), (20, .pointer (some ⟨bs, 0, none⟩)), (325, .bool false)] a' → Q .normal a' (w.drewN n)) :
    Code.wp Try.prog (hdC (tlC (tlC (elC (tlC (nthC 30 (bodyC Try.f8))))))) Q a w := by
  obtain ⟨u, hu, rfl⟩ := lay375 hfr
  obtain ⟨s1, s2, s3, s8, s9, s12, s13, s14, s15, s16, s17, s20, s33, -⟩ := hs
  replace s1 : u 1 = .slice na nn nn := (hu 1).symm.trans s1
  replace s2 : u 2 = .slice ra rn rn := (hu 2).symm.trans s2
  replace s3 : u 3 = .pointer (some ⟨pb, 0, none⟩) := (hu 3).symm.trans s3
  replace s8 : u 8 = .bool ad := (hu 8).symm.trans s8
  replace s9 : u 9 = .int .u32 l := (hu 9).symm.trans s9
  replace s12 : u 12 = .int .u64 z := (hu 12).symm.trans s12
  replace s13 : u 13 = .int .u64 o := (hu 13).symm.trans s13
  replace s14 : u 14 = .int .u64 e := (hu 14).symm.trans s14
  replace s15 : u 15 = .int .u64 p := (hu 15).symm.trans s15
  replace s16 : u 16 = .bool q0 := (hu 16).symm.trans s16
  replace s17 : u 17 = .bool q1 := (hu 17).symm.trans s17
  replace s20 : u 20 = .pointer (some ⟨bs, 0, none⟩) := (hu 20).symm.trans s20
  replace s33 : u 33 = .int .u64 d := (hu 33).symm.trans s33
  rw [s1, s2, s3, s8, s9, s12, s13, s14, s15, s16, s17, s20, s33]
  clear hfr hu s1 s2 s3 s8 s9 s12 s13 s14 s15 s16 s17 s20 s33
  conv => arg 2; whnf
  have b11 : w.cell? ⟨bs, 11, none⟩ = some (.pointer (some ⟨vb, 0, none⟩)) := by rw [← hi]; exact hB.cell 11
  have v0 : w.cell? ⟨vb, 0, none⟩ = some (.int .u64 nv) := hV.cell 0
  have c8 : w.cell? ⟨pb, 8, none⟩ = some (.int .u64 p8) := hP.cell 8
  have H : Hid _ := hQ
  clear hQ hB hP hV hi
  go_quiet (fail)
  exact H.out _ _ ⟨rfl, rfl⟩ ⟨rfl, rfl, rfl, rfl, rfl, rfl, rfl, rfl, rfl, rfl, rfl, rfl, rfl, trivial⟩

theorem l8_c294 (a : Act) (w : World) (Q : Exit → Act → World → Prop) (h : sl a 294 = .bool false) (h0 : Code.wp Try.prog (elC (tlC (nthC 30 (bodyC Try.f8)))) Q a w) : Code.wp Try.prog (tlC (nthC 30 (bodyC Try.f8))) Q a w :=
  wp_cond_false (c := .tmp 294) h h0
theorem l8_c325 (a : Act) (w : World) (Q : Exit → Act → World → Prop) (h : sl a 325 = .bool false) (h0 : Q .normal a w) : Code.wp Try.prog (tlC (tlC (tlC (elC (tlC (nthC 30 (bodyC Try.f8))))))) Q a w :=
  wp_cond_false (c := .tmp 325) h (wp_skip h0)
set_option maxRecDepth 10000 in
set_option maxHeartbeats 1000000 in
/-- DecisionRounds -/
theorem l8_31 (na ra : Option Addr) (nn rn pb bs : Nat) (ad : Bool) (l z o e p : Int) (q0 q1 : Bool) (T : SumS) (p0 p1 p2 p3 p4 p5 p6 p8 : Int) (p7 : Bool) (a : Act) (w : World) (Q : Exit → Act → World → Prop) (hfr : Fr 375 a) (hs : Slots [(1, .slice na nn nn), (2, .slice ra rn rn), (3, .pointer (some ⟨pb, 0, none⟩)), (8, .bool ad), (9, .int .u32 l), (12, .int .u64 z), (13, .int .u64 o), (14, .int .u64 e), (15, .int .u64 p), (16, .bool q0), (17, .bool q1), (20, .pointer (some ⟨bs, 0, none⟩))] a)
    (hB : IsB w bs T.arr 41) (hP : IsB w pb (priorA p0 p1 p2 p3 p4 p5 p6 p7 p8) 78) (h : T.drn = rn) (hQ : ∀ a', Fr 375 a' → Slots [(1, .slice na nn nn), (2, .slice ra rn rn), (3, .pointer (some ⟨pb, 0, none⟩)), (8, .bool ad), (9, .int .u32 l), (12, .int .u64 z), (13, .int .u64 o), (14, .int .u64 e), (15, .int .u64 p), (16, .bool q0), (17, .bool q1), (20, .pointer (some ⟨bs, 0, none⟩))] a' → Q .normal a' w) :
    Code.wp Try.prog (nthC 31 (bodyC Try.f8)) Q a w := by
  obtain ⟨u, hu, rfl⟩ := lay375 hfr
  obtain ⟨s1, s2, s3, s8, s9, s12, s13, s14, s15, s16, s17, s20, -⟩ := hs
  replace s1 : u 1 = .slice na nn nn := (hu 1).symm.trans s1
  replace s2 : u 2 = .slice ra rn rn := (hu 2).symm.trans s2
  replace s3 : u 3 = .pointer (some ⟨pb, 0, none⟩) := (hu 3).symm.trans s3
  replace s8 : u 8 = .bool ad := (hu 8).symm.trans s8
  replace s9 : u 9 = .int .u32 l := (hu 9).symm.trans s9
  replace s12 : u 12 = .int .u64 z := (hu 12).symm.trans s12
  replace s13 : u 13 = .int .u64 o := (hu 13).symm.trans s13
  replace s14 : u 14 = .int .u64 e := (hu 14).symm.trans s14
  replace s15 : u 15 = .int .u64 p := (hu 15).symm.trans s15
  replace s16 : u 16 = .bool q0 := (hu 16).symm.trans s16
  replace s17 : u 17 = .bool q1 := (hu 17).symm.trans s17
  replace s20 : u 20 = .pointer (some ⟨bs, 0, none⟩) := (hu 20).symm.trans s20
  rw [s1, s2, s3, s8, s9, s12, s13, s14, s15, s16, s17, s20]
  clear hfr hu s1 s2 s3 s8 s9 s12 s13 s14 s15 s16 s17 s20
  conv => arg 2; whnf
  have b14 : w.cell? ⟨bs, 14, none⟩ = some (.slice (some ⟨T.drb, 0, none⟩) rn rn) := by rw [← h]; exact hB.cell 14
  have H : Hid _ := hQ
  clear hQ hB hP
  go_wp2
  exact H.out _ ⟨rfl, rfl⟩ ⟨rfl, rfl, rfl, rfl, rfl, rfl, rfl, rfl, rfl, rfl, rfl, rfl, trivial⟩

set_option maxRecDepth 10000 in
set_option maxHeartbeats 1000000 in
theorem l8_32i (na ra : Option Addr) (nn rn pb bs : Nat) (ad : Bool) (l z o e p : Int) (q0 q1 : Bool) (a : Act) (w : World) (Q : Exit → Act → World → Prop) (hfr : Fr 375 a) (hs : Slots [(1, .slice na nn nn), (2, .slice ra rn rn), (3, .pointer (some ⟨pb, 0, none⟩)), (8, .bool ad), (9, .int .u32 l), (12, .int .u64 z), (13, .int .u64 o), (14, .int .u64 e), (15, .int .u64 p), (16, .bool q0), (17, .bool q1), (20, .pointer (some ⟨bs, 0, none⟩))] a)
    (hQ : ∀ a', Fr 375 a' → Slots [(1, .slice na nn nn), (2, .slice ra rn rn), (3, .pointer (some ⟨pb, 0, none⟩)), (8, .bool ad), (9, .int .u32 l), (12, .int .u64 z), (13, .int .u64 o), (14, .int .u64 e), (15, .int .u64 p), (16, .bool q0), (17, .bool q1), (20, .pointer (some ⟨bs, 0, none⟩)), (34, .int .i64 (0 : Nat))] a' → Q .normal a' w) :
    Code.wp Try.prog (hdC (nthC 32 (bodyC Try.f8))) Q a w := by
  obtain ⟨u, hu, rfl⟩ := lay375 hfr
  obtain ⟨s1, s2, s3, s8, s9, s12, s13, s14, s15, s16, s17, s20, -⟩ := hs
  replace s1 : u 1 = .slice na nn nn := (hu 1).symm.trans s1
  replace s2 : u 2 = .slice ra rn rn := (hu 2).symm.trans s2
  replace s3 : u 3 = .pointer (some ⟨pb, 0, none⟩) := (hu 3).symm.trans s3
  replace s8 : u 8 = .bool ad := (hu 8).symm.trans s8
  replace s9 : u 9 = .int .u32 l := (hu 9).symm.trans s9
  replace s12 : u 12 = .int .u64 z := (hu 12).symm.trans s12
  replace s13 : u 13 = .int .u64 o := (hu 13).symm.trans s13
  replace s14 : u 14 = .int .u64 e := (hu 14).symm.trans s14
  replace s15 : u 15 = .int .u64 p := (hu 15).symm.trans s15
  replace s16 : u 16 = .bool q0 := (hu 16).symm.trans s16
  replace s17 : u 17 = .bool q1 := (hu 17).symm.trans s17
  replace s20 : u 20 = .pointer (some ⟨bs, 0, none⟩) := (hu 20).symm.trans s20
  rw [s1, s2, s3, s8, s9, s12, s13, s14, s15, s16, s17, s20]
  clear hfr hu s1 s2 s3 s8 s9 s12 s13 s14 s15 s16 s17 s20
  conv => arg 2; whnf
  have H : Hid _ := hQ
  clear hQ
  go_wp2
  exact H.out _ ⟨rfl, rfl⟩ ⟨rfl, rfl, rfl, rfl, rfl, rfl, rfl, rfl, rfl, rfl, rfl, rfl, rfl, trivial⟩

set_option maxRecDepth 10000 in
set_option maxHeartbeats 1000000 in
/-- a round of the sixth loop -/
theorem l8_32r (na ra : Option Addr) (nn rn pb bs : Nat) (ad : Bool) (l z o e p : Int) (q0 q1 : Bool) (k rb : Nat) (T : SumS) (f g : Nat → Int) (a : Act) (w : World) (Q : Exit → Act → World → Prop) (hfr : Fr 375 a) (hs : Slots [(1, .slice na nn nn), (2, .slice ra rn rn), (3, .pointer (some ⟨pb, 0, none⟩)), (8, .bool ad), (9, .int .u32 l), (12, .int .u64 z), (13, .int .u64 o), (14, .int .u64 e), (15, .int .u64 p), (16, .bool q0), (17, .bool q1), (20, .pointer (some ⟨bs, 0, none⟩)), (34, .int .i64 (k : Nat))] a)
    (hk : k ≤ rn) (l2 : (rn : Int) ≤ 65536) (hra : 0 < rn → ra = some ⟨rb, 0, none⟩) (hB : IsB w bs T.arr 41) (hdn : T.drn = rn) (hc : k < rn → w.cell? ⟨rb, k, none⟩ = some (.int .u64 (f k))) (hd : k < rn → w.cell? ⟨T.drb, k, none⟩ = some (.int .u64 (g k)))
    (hl : 0 ≤ l ∧ l < 4294967296) (hg : g k = if ad = true ∧ l = (k : Int) + 1 then f k + 1 else f k) (hff : k < rn → 0 ≤ f k ∧ f k ≤ 1099511627776)
    (hQ : ∀ a', k < rn → Fr 375 a' → Slots [(1, .slice na nn nn), (2, .slice ra rn rn), (3, .pointer (some ⟨pb, 0, none⟩)), (8, .bool ad), (9, .int .u32 l), (12, .int .u64 z), (13, .int .u64 o), (14, .int .u64 e), (15, .int .u64 p), (16, .bool q0), (17, .bool q1), (20, .pointer (some ⟨bs, 0, none⟩)), (34, .int .i64 (k + 1 : Nat))] a' → Q .normal a' w) (hexit : ∀ a', k = rn → Fr 375 a' → Slots [(1, .slice na nn nn), (2, .slice ra rn rn), (3, .pointer (some ⟨pb, 0, none⟩)), (8, .bool ad), (9, .int .u32 l), (12, .int .u64 z), (13, .int .u64 o), (14, .int .u64 e), (15, .int .u64 p), (16, .bool q0), (17, .bool q1), (20, .pointer (some ⟨bs, 0, none⟩))] a' → Q (.exit 10) a' w) :
    Code.wp Try.prog (inC (inC (tlC (nthC 32 (bodyC Try.f8))))) Q a w := by
  obtain ⟨u, hu, rfl⟩ := lay375 hfr
  obtain ⟨s1, s2, s3, s8, s9, s12, s13, s14, s15, s16, s17, s20, s34, -⟩ := hs
  replace s1 : u 1 = .slice na nn nn := (hu 1).symm.trans s1
  replace s2 : u 2 = .slice ra rn rn := (hu 2).symm.trans s2
  replace s3 : u 3 = .pointer (some ⟨pb, 0, none⟩) := (hu 3).symm.trans s3
  replace s8 : u 8 = .bool ad := (hu 8).symm.trans s8
  replace s9 : u 9 = .int .u32 l := (hu 9).symm.trans s9
  replace s12 : u 12 = .int .u64 z := (hu 12).symm.trans s12
  replace s13 : u 13 = .int .u64 o := (hu 13).symm.trans s13
  replace s14 : u 14 = .int .u64 e := (hu 14).symm.trans s14
  replace s15 : u 15 = .int .u64 p := (hu 15).symm.trans s15
  replace s16 : u 16 = .bool q0 := (hu 16).symm.trans s16
  replace s17 : u 17 = .bool q1 := (hu 17).symm.trans s17
  replace s20 : u 20 = .pointer (some ⟨bs, 0, none⟩) := (hu 20).symm.trans s20
  replace s34 : u 34 = .int .i64 (k : Nat) := (hu 34).symm.trans s34
  rw [s1, s2, s3, s8, s9, s12, s13, s14, s15, s16, s17, s20, s34]
  clear hfr hu s1 s2 s3 s8 s9 s12 s13 s14 s15 s16 s17 s20 s34
  conv => arg 2; whnf
  have b14 : w.cell? ⟨bs, 14, none⟩ = some (.slice (some ⟨T.drb, 0, none⟩) rn rn) := by rw [← hdn]; exact hB.cell 14
  have H : Hid _ := hQ
  have HX : Hid _ := hexit
  clear hQ hexit hB hdn
  by_cases hlt : k < rn
  · have ee := hra (by omega)
    subst ee
    have ck := hc hlt
    have dk := hd hlt
    have fk := hff hlt
    have wf : IntKind.u64.wrap (f k + 1) = f k + 1 := by rw [IntKind.wrap_u64]; omega
    have wk : IntKind.u64.wrap ((k : Int) + 1) = (k : Int) + 1 := by rw [IntKind.wrap_u64]; omega
    clear hra hc hd hff fk
    cases ad
    · simp only [Bool.false_eq_true, false_and, if_false] at hg
      rw [hg] at dk
      clear hg
      go_wp2
      exact H.out _ hlt ⟨rfl, rfl⟩ ⟨rfl, rfl, rfl, rfl, rfl, rfl, rfl, rfl, rfl, rfl, rfl, rfl, rfl, trivial⟩
    · by_cases h1 : l = (k : Int) + 1
      · rw [if_pos ⟨rfl, h1⟩] at hg
        rw [hg] at dk
        subst h1
        clear hg
        go_wp2
        exact H.out _ hlt ⟨rfl, rfl⟩ ⟨rfl, rfl, rfl, rfl, rfl, rfl, rfl, rfl, rfl, rfl, rfl, rfl, rfl, trivial⟩
      · rw [if_neg (fun h => h1 h.2)] at hg
        rw [hg] at dk
        have h2 : ((k : Int) + 1 == l) = false := by
          simp only [beq_eq_false_iff_ne, ne_eq]
          omega
        clear hg h1
        go_wp2
        exact H.out _ hlt ⟨rfl, rfl⟩ ⟨rfl, rfl, rfl, rfl, rfl, rfl, rfl, rfl, rfl, rfl, rfl, rfl, rfl, trivial⟩
  · clear hra hc hd hg hff
    go_wp2
    exact HX.out _ (by omega) ⟨rfl, rfl⟩ ⟨rfl, rfl, rfl, rfl, rfl, rfl, rfl, rfl, rfl, rfl, rfl, rfl, trivial⟩

set_option maxRecDepth 10000 in
set_option maxHeartbeats 1000000 in
/-- the mean -/
theorem l8_33 (na ra : Option Addr) (nn rn pb bs : Nat) (ad : Bool) (l z o e p : Int) (q0 q1 : Bool) (T : SumS) (p0 p1 p2 p3 p4 p5 p6 p8 : Int) (p7 : Bool) (a : Act) (w : World) (Q : Exit → Act → World → Prop) (hfr : Fr 375 a) (hs : Slots [(1, .slice na nn nn), (2, .slice ra rn rn), (3, .pointer (some ⟨pb, 0, none⟩)), (8, .bool ad), (9, .int .u32 l), (12, .int .u64 z), (13, .int .u64 o), (14, .int .u64 e), (15, .int .u64 p), (16, .bool q0), (17, .bool q1), (20, .pointer (some ⟨bs, 0, none⟩))] a)
    (hB : IsB w bs T.arr 41) (hP : IsB w pb (priorA p0 p1 p2 p3 p4 p5 p6 p7 p8) 78) (h : T.mean.isSome = ad) (hQ : ∀ a', Fr 375 a' → Slots [(1, .slice na nn nn), (2, .slice ra rn rn), (3, .pointer (some ⟨pb, 0, none⟩)), (8, .bool ad), (9, .int .u32 l), (12, .int .u64 z), (13, .int .u64 o), (14, .int .u64 e), (15, .int .u64 p), (16, .bool q0), (17, .bool q1), (20, .pointer (some ⟨bs, 0, none⟩))] a' → Q .normal a' w) :
    Code.wp Try.prog (nthC 33 (bodyC Try.f8)) Q a w := by
  obtain ⟨u, hu, rfl⟩ := lay375 hfr
  obtain ⟨s1, s2, s3, s8, s9, s12, s13, s14, s15, s16, s17, s20, -⟩ := hs
  replace s1 : u 1 = .slice na nn nn := (hu 1).symm.trans s1
  replace s2 : u 2 = .slice ra rn rn := (hu 2).symm.trans s2
  replace s3 : u 3 = .pointer (some ⟨pb, 0, none⟩) := (hu 3).symm.trans s3
  replace s8 : u 8 = .bool ad := (hu 8).symm.trans s8
  replace s9 : u 9 = .int .u32 l := (hu 9).symm.trans s9
  replace s12 : u 12 = .int .u64 z := (hu 12).symm.trans s12
  replace s13 : u 13 = .int .u64 o := (hu 13).symm.trans s13
  replace s14 : u 14 = .int .u64 e := (hu 14).symm.trans s14
  replace s15 : u 15 = .int .u64 p := (hu 15).symm.trans s15
  replace s16 : u 16 = .bool q0 := (hu 16).symm.trans s16
  replace s17 : u 17 = .bool q1 := (hu 17).symm.trans s17
  replace s20 : u 20 = .pointer (some ⟨bs, 0, none⟩) := (hu 20).symm.trans s20
  rw [s1, s2, s3, s8, s9, s12, s13, s14, s15, s16, s17, s20]
  clear hfr hu s1 s2 s3 s8 s9 s12 s13 s14 s15 s16 s17 s20
  conv => arg 2; whnf
  have b13 : w.cell? ⟨bs, 13, none⟩ = some (.pointer T.mean) := hB.cell 13
  have H : Hid _ := hQ
  clear hQ hB hP
  cases hm : T.mean with
  | none =>
    rw [hm] at b13 h
    simp only [Option.isSome_none] at h
    subst h
    go_wp2
    exact H.out _ ⟨rfl, rfl⟩ ⟨rfl, rfl, rfl, rfl, rfl, rfl, rfl, rfl, rfl, rfl, rfl, rfl, trivial⟩
  | some m =>
    rw [hm] at b13 h
    simp only [Option.isSome_some] at h
    subst h
    go_wp2
    exact H.out _ ⟨rfl, rfl⟩ ⟨rfl, rfl, rfl, rfl, rfl, rfl, rfl, rfl, rfl, rfl, rfl, rfl, trivial⟩

set_option maxRecDepth 10000 in
set_option maxHeartbeats 1000000 in
/-- AsyncRounds -/
theorem l8_34 (na ra : Option Addr) (nn rn pb bs : Nat) (ad : Bool) (l z o e p : Int) (q0 q1 : Bool) (T : SumS) (p0 p1 p2 p3 p4 p5 p6 p8 : Int) (p7 : Bool) (a : Act) (w : World) (Q : Exit → Act → World → Prop) (hfr : Fr 375 a) (hs : Slots [(1, .slice na nn nn), (2, .slice ra rn rn), (3, .pointer (some ⟨pb, 0, none⟩)), (8, .bool ad), (9, .int .u32 l), (12, .int .u64 z), (13, .int .u64 o), (14, .int .u64 e), (15, .int .u64 p), (16, .bool q0), (17, .bool q1), (20, .pointer (some ⟨bs, 0, none⟩))] a)
    (hB : IsB w bs T.arr 41) (hP : IsB w pb (priorA p0 p1 p2 p3 p4 p5 p6 p7 p8) 78) (h : T.rmax = none) (h' : T.smax = none) (hQ : ∀ a', Fr 375 a' → Slots [(1, .slice na nn nn), (2, .slice ra rn rn), (3, .pointer (some ⟨pb, 0, none⟩)), (8, .bool ad), (9, .int .u32 l), (12, .int .u64 z), (13, .int .u64 o), (14, .int .u64 e), (15, .int .u64 p), (16, .bool q0), (17, .bool q1), (20, .pointer (some ⟨bs, 0, none⟩))] a' → Q .normal a' w) :
    Code.wp Try.prog (nthC 34 (bodyC Try.f8)) Q a w := by
  obtain ⟨u, hu, rfl⟩ := lay375 hfr
  obtain ⟨s1, s2, s3, s8, s9, s12, s13, s14, s15, s16, s17, s20, -⟩ := hs
  replace s1 : u 1 = .slice na nn nn := (hu 1).symm.trans s1
  replace s2 : u 2 = .slice ra rn rn := (hu 2).symm.trans s2
  replace s3 : u 3 = .pointer (some ⟨pb, 0, none⟩) := (hu 3).symm.trans s3
  replace s8 : u 8 = .bool ad := (hu 8).symm.trans s8
  replace s9 : u 9 = .int .u32 l := (hu 9).symm.trans s9
  replace s12 : u 12 = .int .u64 z := (hu 12).symm.trans s12
  replace s13 : u 13 = .int .u64 o := (hu 13).symm.trans s13
  replace s14 : u 14 = .int .u64 e := (hu 14).symm.trans s14
  replace s15 : u 15 = .int .u64 p := (hu 15).symm.trans s15
  replace s16 : u 16 = .bool q0 := (hu 16).symm.trans s16
  replace s17 : u 17 = .bool q1 := (hu 17).symm.trans s17
  replace s20 : u 20 = .pointer (some ⟨bs, 0, none⟩) := (hu 20).symm.trans s20
  rw [s1, s2, s3, s8, s9, s12, s13, s14, s15, s16, s17, s20]
  clear hfr hu s1 s2 s3 s8 s9 s12 s13 s14 s15 s16 s17 s20
  conv => arg 2; whnf
  have b21 : w.cell? ⟨bs, 21, none⟩ = some (.pointer none) := by rw [← h]; exact hB.cell 21
  have b22 : w.cell? ⟨bs, 22, none⟩ = some (.pointer none) := by rw [← h']; exact hB.cell 22
  have H : Hid _ := hQ
  clear hQ hB hP
  go_wp2
  exact H.out _ ⟨rfl, rfl⟩ ⟨rfl, rfl, rfl, rfl, rfl, rfl, rfl, rfl, rfl, rfl, rfl, rfl, trivial⟩

set_option maxRecDepth 10000 in
set_option maxHeartbeats 1000000 in
theorem l8_35 (na ra : Option Addr) (nn rn pb bs : Nat) (ad : Bool) (l z o e p : Int) (q0 q1 : Bool) (a : Act) (w : World) (Q : Exit → Act → World → Prop) (hfr : Fr 375 a) (hs : Slots [(1, .slice na nn nn), (2, .slice ra rn rn), (3, .pointer (some ⟨pb, 0, none⟩)), (8, .bool ad), (9, .int .u32 l), (12, .int .u64 z), (13, .int .u64 o), (14, .int .u64 e), (15, .int .u64 p), (16, .bool q0), (17, .bool q1), (20, .pointer (some ⟨bs, 0, none⟩))] a)
    (hQ : ∀ a', Fr 375 a' → sl a' 6 = .bool true → Q .ret a' w) :
    Code.wp Try.prog (dropC 35 (bodyC Try.f8)) Q a w := by
  obtain ⟨u, hu, rfl⟩ := lay375 hfr
  obtain ⟨s1, s2, s3, s8, s9, s12, s13, s14, s15, s16, s17, s20, -⟩ := hs
  replace s1 : u 1 = .slice na nn nn := (hu 1).symm.trans s1
  replace s2 : u 2 = .slice ra rn rn := (hu 2).symm.trans s2
  replace s3 : u 3 = .pointer (some ⟨pb, 0, none⟩) := (hu 3).symm.trans s3
  replace s8 : u 8 = .bool ad := (hu 8).symm.trans s8
  replace s9 : u 9 = .int .u32 l := (hu 9).symm.trans s9
  replace s12 : u 12 = .int .u64 z := (hu 12).symm.trans s12
  replace s13 : u 13 = .int .u64 o := (hu 13).symm.trans s13
  replace s14 : u 14 = .int .u64 e := (hu 14).symm.trans s14
  replace s15 : u 15 = .int .u64 p := (hu 15).symm.trans s15
  replace s16 : u 16 = .bool q0 := (hu 16).symm.trans s16
  replace s17 : u 17 = .bool q1 := (hu 17).symm.trans s17
  replace s20 : u 20 = .pointer (some ⟨bs, 0, none⟩) := (hu 20).symm.trans s20
  rw [s1, s2, s3, s8, s9, s12, s13, s14, s15, s16, s17, s20]
  clear hfr hu s1 s2 s3 s8 s9 s12 s13 s14 s15 s16 s17 s20
  conv => arg 2; whnf
  have H : Hid _ := hQ
  clear hQ
  go_wp2
  exact H.out _ ⟨rfl, rfl⟩ rfl

end Go.Proofs.Qxb6602526a
