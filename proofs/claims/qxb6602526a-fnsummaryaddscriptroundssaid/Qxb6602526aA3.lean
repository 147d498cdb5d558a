import Derived.Test.Qxb6602526aA2
namespace Go.Proofs.Qxb6602526a
open Go.RowKit
set_option linter.unusedSimpArgs false
set_option linter.unusedVariables false

/-- 1 for true. -/
def ind (b : Bool) : Int := if b then 1 else 0

set_option maxRecDepth 10000 in
set_option maxHeartbeats 1000000 in
theorem l8_9 (na ra : Option Addr) (nn ncap rn rcap pb : Nat) (ad : Bool) (l : Int) (G : Option Addr → World → Prop) (a : Act) (w : World) (Q : Exit → Act → World → Prop) (hfr : Fr 375 a) (hs : Slots [(1, .slice na nn ncap), (2, .slice ra rn rcap), (3, .pointer (some ⟨pb, 0, none⟩)), (8, .bool ad), (9, .int .u32 l)] a)
    (hcall : Calls Try.prog 33 #[.slice na nn ncap] w fun e w' => ∃ na', e = .returned (.slice na' nn nn) ∧ G na' w')
    (hQ : ∀ a' na' w', G na' w' → Fr 375 a' → Slots [(1, .slice na' nn nn), (2, .slice ra rn rcap), (3, .pointer (some ⟨pb, 0, none⟩)), (8, .bool ad), (9, .int .u32 l)] a' → Q .normal a' w') :
    Code.wp Try.prog (nthC 9 (bodyC Try.f8)) Q a w := by
  obtain ⟨u, hu, rfl⟩ := lay375 hfr
  obtain ⟨s1, s2, s3, s8, s9, -⟩ := hs
  replace s1 : u 1 = .slice na nn ncap := (hu 1).symm.trans s1
  replace s2 : u 2 = .slice ra rn rcap := (hu 2).symm.trans s2
  replace s3 : u 3 = .pointer (some ⟨pb, 0, none⟩) := (hu 3).symm.trans s3
  replace s8 : u 8 = .bool ad := (hu 8).symm.trans s8
  replace s9 : u 9 = .int .u32 l := (hu 9).symm.trans s9
  rw [s1, s2, s3, s8, s9]
  clear hfr hu s1 s2 s3 s8 s9
  conv => arg 2; whnf
  have H : Hid _ := hQ
  have HC : Hid _ := hcall
  clear hQ hcall
  go_wp2_with (go_at_call 33; refine Calls.mono HC.out ?_; rintro e w' ⟨na', rfl, hG⟩)
  exact H.out _ na' _ hG ⟨rfl, rfl⟩ ⟨rfl, rfl, rfl, rfl, rfl, trivial⟩

set_option maxRecDepth 10000 in
set_option maxHeartbeats 1000000 in
theorem l8_10 (na ra : Option Addr) (nn ncap rn rcap pb : Nat) (ad : Bool) (l : Int) (G : Option Addr → World → Prop) (a : Act) (w : World) (Q : Exit → Act → World → Prop) (hfr : Fr 375 a) (hs : Slots [(1, .slice na nn ncap), (2, .slice ra rn rcap), (3, .pointer (some ⟨pb, 0, none⟩)), (8, .bool ad), (9, .int .u32 l)] a)
    (hcall : Calls Try.prog 10 #[.slice ra rn rcap] w fun e w' => ∃ ra', e = .returned (.slice ra' rn rn) ∧ G ra' w')
    (hQ : ∀ a' ra' w', G ra' w' → Fr 375 a' → Slots [(1, .slice na nn ncap), (2, .slice ra' rn rn), (3, .pointer (some ⟨pb, 0, none⟩)), (8, .bool ad), (9, .int .u32 l)] a' → Q .normal a' w') :
    Code.wp Try.prog (nthC 10 (bodyC Try.f8)) Q a w := by
  obtain ⟨u, hu, rfl⟩ := lay375 hfr
  obtain ⟨s1, s2, s3, s8, s9, -⟩ := hs
  replace s1 : u 1 = .slice na nn ncap := (hu 1).symm.trans s1
  replace s2 : u 2 = .slice ra rn rcap := (hu 2).symm.trans s2
  replace s3 : u 3 = .pointer (some ⟨pb, 0, none⟩) := (hu 3).symm.trans s3
  replace s8 : u 8 = .bool ad := (hu 8).symm.trans s8
  replace s9 : u 9 = .int .u32 l := (hu 9).symm.trans s9
  rw [s1, s2, s3, s8, s9]
  clear hfr hu s1 s2 s3 s8 s9
  conv => arg 2; whnf
  have H : Hid _ := hQ
  have HC : Hid _ := hcall
  clear hQ hcall
  go_wp2_with (go_at_call 10; refine Calls.mono HC.out ?_; rintro e w' ⟨ra', rfl, hG⟩)
  exact H.out _ ra' _ hG ⟨rfl, rfl⟩ ⟨rfl, rfl, rfl, rfl, rfl, trivial⟩

set_option maxRecDepth 10000 in
set_option maxHeartbeats 1000000 in
theorem l8_11 (na ra : Option Addr) (nn ncap rn rcap pb : Nat) (ad : Bool) (l : Int) (a : Act) (w : World) (Q : Exit → Act → World → Prop) (hfr : Fr 375 a) (hs : Slots [(1, .slice na nn ncap), (2, .slice ra rn rcap), (3, .pointer (some ⟨pb, 0, none⟩)), (8, .bool ad), (9, .int .u32 l)] a)
    (hQ : ∀ a', Fr 375 a' → Slots [(1, .slice na nn ncap), (2, .slice ra rn rcap), (3, .pointer (some ⟨pb, 0, none⟩)), (8, .bool ad), (9, .int .u32 l), (12, .int .u64 0), (13, .int .u64 0), (14, .int .u64 0), (15, .int .u64 0)] a' → Q .normal a' w) :
    Code.wp Try.prog (nthC 11 (bodyC Try.f8)) Q a w := by
  obtain ⟨u, hu, rfl⟩ := lay375 hfr
  obtain ⟨s1, s2, s3, s8, s9, -⟩ := hs
  replace s1 : u 1 = .slice na nn ncap := (hu 1).symm.trans s1
  replace s2 : u 2 = .slice ra rn rcap := (hu 2).symm.trans s2
  replace s3 : u 3 = .pointer (some ⟨pb, 0, none⟩) := (hu 3).symm.trans s3
  replace s8 : u 8 = .bool ad := (hu 8).symm.trans s8
  replace s9 : u 9 = .int .u32 l := (hu 9).symm.trans s9
  rw [s1, s2, s3, s8, s9]
  clear hfr hu s1 s2 s3 s8 s9
  conv => arg 2; whnf
  have H : Hid _ := hQ
  clear hQ
  go_wp2
  exact H.out _ ⟨rfl, rfl⟩ ⟨rfl, rfl, rfl, rfl, rfl, rfl, rfl, rfl, rfl, trivial⟩

set_option maxRecDepth 10000 in
set_option maxHeartbeats 1000000 in
theorem l8_12 (na ra : Option Addr) (nn ncap rn rcap pb : Nat) (ad : Bool) (l : Int) (a : Act) (w : World) (Q : Exit → Act → World → Prop) (hfr : Fr 375 a) (hs : Slots [(1, .slice na nn ncap), (2, .slice ra rn rcap), (3, .pointer (some ⟨pb, 0, none⟩)), (8, .bool ad), (9, .int .u32 l), (12, .int .u64 0), (13, .int .u64 0), (14, .int .u64 0), (15, .int .u64 0)] a)
    (hQ : ∀ a', Fr 375 a' → Slots [(1, .slice na nn ncap), (2, .slice ra rn rcap), (3, .pointer (some ⟨pb, 0, none⟩)), (8, .bool ad), (9, .int .u32 l), (12, .int .u64 0), (13, .int .u64 0), (14, .int .u64 0), (15, .int .u64 0), (16, .bool false), (17, .bool false)] a' → Q .normal a' w) :
    Code.wp Try.prog (nthC 12 (bodyC Try.f8)) Q a w := by
  obtain ⟨u, hu, rfl⟩ := lay375 hfr
  obtain ⟨s1, s2, s3, s8, s9, s12, s13, s14, s15, -⟩ := hs
  replace s1 : u 1 = .slice na nn ncap := (hu 1).symm.trans s1
  replace s2 : u 2 = .slice ra rn rcap := (hu 2).symm.trans s2
  replace s3 : u 3 = .pointer (some ⟨pb, 0, none⟩) := (hu 3).symm.trans s3
  replace s8 : u 8 = .bool ad := (hu 8).symm.trans s8
  replace s9 : u 9 = .int .u32 l := (hu 9).symm.trans s9
  replace s12 : u 12 = .int .u64 0 := (hu 12).symm.trans s12
  replace s13 : u 13 = .int .u64 0 := (hu 13).symm.trans s13
  replace s14 : u 14 = .int .u64 0 := (hu 14).symm.trans s14
  replace s15 : u 15 = .int .u64 0 := (hu 15).symm.trans s15
  rw [s1, s2, s3, s8, s9, s12, s13, s14, s15]
  clear hfr hu s1 s2 s3 s8 s9 s12 s13 s14 s15
  conv => arg 2; whnf
  have H : Hid _ := hQ
  clear hQ
  go_wp2
  exact H.out _ ⟨rfl, rfl⟩ ⟨rfl, rfl, rfl, rfl, rfl, rfl, rfl, rfl, rfl, rfl, rfl, trivial⟩

set_option maxRecDepth 10000 in
set_option maxHeartbeats 1000000 in
theorem l8_13i (na ra : Option Addr) (nn ncap rn rcap pb : Nat) (ad : Bool) (l : Int) (a : Act) (w : World) (Q : Exit → Act → World → Prop) (hfr : Fr 375 a) (hs : Slots [(1, .slice na nn ncap), (2, .slice ra rn rcap), (3, .pointer (some ⟨pb, 0, none⟩)), (8, .bool ad), (9, .int .u32 l), (12, .int .u64 0), (13, .int .u64 0), (14, .int .u64 0), (15, .int .u64 0), (16, .bool false), (17, .bool false)] a)
    (hQ : ∀ a', Fr 375 a' → Slots [(1, .slice na nn ncap), (2, .slice ra rn rcap), (3, .pointer (some ⟨pb, 0, none⟩)), (8, .bool ad), (9, .int .u32 l), (12, .int .u64 0), (13, .int .u64 0), (14, .int .u64 0), (15, .int .u64 0), (16, .bool false), (17, .bool false), (18, .int .i64 (0 : Nat))] a' → Q .normal a' w) :
    Code.wp Try.prog (hdC (nthC 13 (bodyC Try.f8))) Q a w := by
  obtain ⟨u, hu, rfl⟩ := lay375 hfr
  obtain ⟨s1, s2, s3, s8, s9, s12, s13, s14, s15, s16, s17, -⟩ := hs
  replace s1 : u 1 = .slice na nn ncap := (hu 1).symm.trans s1
  replace s2 : u 2 = .slice ra rn rcap := (hu 2).symm.trans s2
  replace s3 : u 3 = .pointer (some ⟨pb, 0, none⟩) := (hu 3).symm.trans s3
  replace s8 : u 8 = .bool ad := (hu 8).symm.trans s8
  replace s9 : u 9 = .int .u32 l := (hu 9).symm.trans s9
  replace s12 : u 12 = .int .u64 0 := (hu 12).symm.trans s12
  replace s13 : u 13 = .int .u64 0 := (hu 13).symm.trans s13
  replace s14 : u 14 = .int .u64 0 := (hu 14).symm.trans s14
  replace s15 : u 15 = .int .u64 0 := (hu 15).symm.trans s15
  replace s16 : u 16 = .bool false := (hu 16).symm.trans s16
  replace s17 : u 17 = .bool false := (hu 17).symm.trans s17
  rw [s1, s2, s3, s8, s9, s12, s13, s14, s15, s16, s17]
  clear hfr hu s1 s2 s3 s8 s9 s12 s13 s14 s15 s16 s17
  conv => arg 2; whnf
  have H : Hid _ := hQ
  clear hQ
  go_wp2
  exact H.out _ ⟨rfl, rfl⟩ ⟨rfl, rfl, rfl, rfl, rfl, rfl, rfl, rfl, rfl, rfl, rfl, rfl, trivial⟩

set_option maxRecDepth 10000 in
set_option maxHeartbeats 1000000 in
/-- a round of the third loop -/
theorem l8_13r (na ra : Option Addr) (nn ncap rn rcap pb : Nat) (k nb noff : Nat) (x : NodeC) (ad : Bool) (l z o e p : Int) (q0 q1 : Bool) (a : Act) (w : World) (Q : Exit → Act → World → Prop) (hfr : Fr 375 a) (hs : Slots [(1, .slice na nn ncap), (2, .slice ra rn rcap), (3, .pointer (some ⟨pb, 0, none⟩)), (8, .bool ad), (9, .int .u32 l), (12, .int .u64 z), (13, .int .u64 o), (14, .int .u64 e), (15, .int .u64 p), (16, .bool q0), (17, .bool q1), (18, .int .i64 (k : Nat))] a)
    (hk : k ≤ nn) (l1 : (nn : Int) ≤ 65536) (hna : 0 < nn → na = some ⟨nb, noff, none⟩) (hc : k < nn → x.at w nb (noff + k * 6)) (hpv : k < nn → x.fa = false → x.hp = true → x.pv = 0 ∨ x.pv = 1)
    (bz : 0 ≤ z ∧ z ≤ 65536) (bo : 0 ≤ o ∧ o ≤ 65536) (be : 0 ≤ e ∧ e ≤ 65536) (bp : 0 ≤ p ∧ p ≤ 65536)
    (hQ : ∀ a' w', k < nn → Fr 375 a' → Slots [(1, .slice na nn ncap), (2, .slice ra rn rcap), (3, .pointer (some ⟨pb, 0, none⟩)), (8, .bool ad), (9, .int .u32 l), (12, .int .u64 (z + ind (reports 1 x.toD))), (13, .int .u64 (o + ind (reports 2 x.toD))), (14, .int .u64 (e + ind (reports 3 x.toD))), (15, .int .u64 (p + ind (!x.fa && isPend x.rv))), (16, .bool (q0 || proposes 0 x.toD)), (17, .bool (q1 || proposes 1 x.toD)), (18, .int .i64 (k + 1 : Nat))] a' → Kept [] w w' → Q .normal a' w') (hexit : ∀ a', k = nn → Fr 375 a' → Slots [(1, .slice na nn ncap), (2, .slice ra rn rcap), (3, .pointer (some ⟨pb, 0, none⟩)), (8, .bool ad), (9, .int .u32 l), (12, .int .u64 z), (13, .int .u64 o), (14, .int .u64 e), (15, .int .u64 p), (16, .bool q0), (17, .bool q1)] a' → Q (.exit 4) a' w) :
    Code.wp Try.prog (inC (inC (tlC (nthC 13 (bodyC Try.f8))))) Q a w := by
  obtain ⟨u, hu, rfl⟩ := lay375 hfr
  obtain ⟨s1, s2, s3, s8, s9, s12, s13, s14, s15, s16, s17, s18, -⟩ := hs
  replace s1 : u 1 = .slice na nn ncap := (hu 1).symm.trans s1
  replace s2 : u 2 = .slice ra rn rcap := (hu 2).symm.trans s2
  replace s3 : u 3 = .pointer (some ⟨pb, 0, none⟩) := (hu 3).symm.trans s3
  replace s8 : u 8 = .bool ad := (hu 8).symm.trans s8
  replace s9 : u 9 = .int .u32 l := (hu 9).symm.trans s9
  replace s12 : u 12 = .int .u64 z := (hu 12).symm.trans s12
  replace s13 : u 13 = .int .u64 o := (hu 13).symm.trans s13
  replace s14 : u 14 = .int .u64 e := (hu 14).symm.trans s14
  replace s15 : u 15 = .int .u64 p := (hu 15).symm.trans s15
  replace s16 : u 16 = .bool q0 := (hu 16).symm.trans s16
  replace s17 : u 17 = .bool q1 := (hu 17).symm.trans s17
  replace s18 : u 18 = .int .i64 (k : Nat) := (hu 18).symm.trans s18
  rw [s1, s2, s3, s8, s9, s12, s13, s14, s15, s16, s17, s18]
  clear hfr hu s1 s2 s3 s8 s9 s12 s13 s14 s15 s16 s17 s18
  conv => arg 2; whnf
  have H : Hid _ := hQ
  have HX : Hid _ := hexit
  clear hQ hexit
  have wz : IntKind.u64.wrap (z + 1) = z + 1 := by rw [IntKind.wrap_u64]; omega
  have wo : IntKind.u64.wrap (o + 1) = o + 1 := by rw [IntKind.wrap_u64]; omega
  have we : IntKind.u64.wrap (e + 1) = e + 1 := by rw [IntKind.wrap_u64]; omega
  have wp : IntKind.u64.wrap (p + 1) = p + 1 := by rw [IntKind.wrap_u64]; omega
  clear bz bo be bp
  by_cases hlt : k < nn
  · have ee := hna (by omega)
    subst ee
    obtain ⟨x0, x1, x2, x3, x4, x5⟩ := hc hlt
    have hpv' := hpv hlt
    clear hna hc hpv
    by_cases g0 : x.fa = true
    · rw [g0] at x0
      have e0 : z + ind (reports 1 x.toD) = z := by simp [ind, reports, isPend, NodeC.toD, g0]
      have e1 : o + ind (reports 2 x.toD) = o := by simp [ind, reports, isPend, NodeC.toD, g0]
      have e2 : e + ind (reports 3 x.toD) = e := by simp [ind, reports, isPend, NodeC.toD, g0]
      have e3 : p + ind (!x.fa && isPend x.rv) = p := by simp [ind, reports, isPend, NodeC.toD, g0]
      have e4 : (q0 || proposes 0 x.toD) = q0 := by simp [proposes, NodeC.toD, g0]
      have e5 : (q1 || proposes 1 x.toD) = q1 := by simp [proposes, NodeC.toD, g0]
      rw [e0, e1, e2, e3, e4, e5] at H
      clear e0 e1 e2 e3 e4 e5
      go_wp2
      exact H.out _ _ hlt ⟨rfl, rfl⟩ ⟨rfl, rfl, rfl, rfl, rfl, rfl, rfl, rfl, rfl, rfl, rfl, rfl, trivial⟩ ((Kept.refl _ _).alloc _)
    have g0 : x.fa = false := by simpa using g0
    rw [g0] at x0
    by_cases g1 : x.hp = true
    · rw [g1] at x1
      rcases hpv' g0 g1 with g2 | g2
      · rw [g2] at x2
        by_cases g7 : x.rv = 1
        · rw [g7] at x3
          have e0 : z + ind (reports 1 x.toD) = z + 1 := by simp [ind, reports, isPend, NodeC.toD, g0, g1, g2, g7]
          have e1 : o + ind (reports 2 x.toD) = o := by simp [ind, reports, isPend, NodeC.toD, g0, g1, g2, g7]
          have e2 : e + ind (reports 3 x.toD) = e := by simp [ind, reports, isPend, NodeC.toD, g0, g1, g2, g7]
          have e3 : p + ind (!x.fa && isPend x.rv) = p := by simp [ind, reports, isPend, NodeC.toD, g0, g1, g2, g7]
          have e4 : (q0 || proposes 0 x.toD) = true := by simp [proposes, NodeC.toD, g0, g1, g2, g7]
          have e5 : (q1 || proposes 1 x.toD) = q1 := by simp [proposes, NodeC.toD, g0, g1, g2, g7]
          rw [e0, e1, e2, e3, e4, e5] at H
          clear e0 e1 e2 e3 e4 e5
          go_wp2
          exact H.out _ _ hlt ⟨rfl, rfl⟩ ⟨rfl, rfl, rfl, rfl, rfl, rfl, rfl, rfl, rfl, rfl, rfl, rfl, trivial⟩ ((Kept.refl _ _).alloc _)
        by_cases g8 : x.rv = 2
        · rw [g8] at x3
          have e0 : z + ind (reports 1 x.toD) = z := by simp [ind, reports, isPend, NodeC.toD, g0, g1, g2, g8]
          have e1 : o + ind (reports 2 x.toD) = o + 1 := by simp [ind, reports, isPend, NodeC.toD, g0, g1, g2, g8]
          have e2 : e + ind (reports 3 x.toD) = e := by simp [ind, reports, isPend, NodeC.toD, g0, g1, g2, g8]
          have e3 : p + ind (!x.fa && isPend x.rv) = p := by simp [ind, reports, isPend, NodeC.toD, g0, g1, g2, g8]
          have e4 : (q0 || proposes 0 x.toD) = true := by simp [proposes, NodeC.toD, g0, g1, g2, g8]
          have e5 : (q1 || proposes 1 x.toD) = q1 := by simp [proposes, NodeC.toD, g0, g1, g2, g8]
          rw [e0, e1, e2, e3, e4, e5] at H
          clear e0 e1 e2 e3 e4 e5
          go_wp2
          exact H.out _ _ hlt ⟨rfl, rfl⟩ ⟨rfl, rfl, rfl, rfl, rfl, rfl, rfl, rfl, rfl, rfl, rfl, rfl, trivial⟩ ((Kept.refl _ _).alloc _)
        by_cases g9 : x.rv = 3
        · rw [g9] at x3
          have e0 : z + ind (reports 1 x.toD) = z := by simp [ind, reports, isPend, NodeC.toD, g0, g1, g2, g9]
          have e1 : o + ind (reports 2 x.toD) = o := by simp [ind, reports, isPend, NodeC.toD, g0, g1, g2, g9]
          have e2 : e + ind (reports 3 x.toD) = e + 1 := by simp [ind, reports, isPend, NodeC.toD, g0, g1, g2, g9]
          have e3 : p + ind (!x.fa && isPend x.rv) = p := by simp [ind, reports, isPend, NodeC.toD, g0, g1, g2, g9]
          have e4 : (q0 || proposes 0 x.toD) = true := by simp [proposes, NodeC.toD, g0, g1, g2, g9]
          have e5 : (q1 || proposes 1 x.toD) = q1 := by simp [proposes, NodeC.toD, g0, g1, g2, g9]
          rw [e0, e1, e2, e3, e4, e5] at H
          clear e0 e1 e2 e3 e4 e5
          go_wp2
          exact H.out _ _ hlt ⟨rfl, rfl⟩ ⟨rfl, rfl, rfl, rfl, rfl, rfl, rfl, rfl, rfl, rfl, rfl, rfl, trivial⟩ ((Kept.refl _ _).alloc _)
        have t7 : (x.rv == 1) = false := by simpa using g7
        have t8 : (x.rv == 2) = false := by simpa using g8
        have t9 : (x.rv == 3) = false := by simpa using g9
        have e0 : z + ind (reports 1 x.toD) = z := by simp [ind, reports, isPend, NodeC.toD, g0, g1, g2, g7, g8, g9, t7, t8, t9]
        have e1 : o + ind (reports 2 x.toD) = o := by simp [ind, reports, isPend, NodeC.toD, g0, g1, g2, g7, g8, g9, t7, t8, t9]
        have e2 : e + ind (reports 3 x.toD) = e := by simp [ind, reports, isPend, NodeC.toD, g0, g1, g2, g7, g8, g9, t7, t8, t9]
        have e3 : p + ind (!x.fa && isPend x.rv) = p + 1 := by simp [ind, reports, isPend, NodeC.toD, g0, g1, g2, g7, g8, g9, t7, t8, t9]
        have e4 : (q0 || proposes 0 x.toD) = true := by simp [proposes, NodeC.toD, g0, g1, g2, g7, g8, g9, t7, t8, t9]
        have e5 : (q1 || proposes 1 x.toD) = q1 := by simp [proposes, NodeC.toD, g0, g1, g2, g7, g8, g9, t7, t8, t9]
        rw [e0, e1, e2, e3, e4, e5] at H
        clear e0 e1 e2 e3 e4 e5
        go_wp2
        exact H.out _ _ hlt ⟨rfl, rfl⟩ ⟨rfl, rfl, rfl, rfl, rfl, rfl, rfl, rfl, rfl, rfl, rfl, rfl, trivial⟩ ((Kept.refl _ _).alloc _)
      · rw [g2] at x2
        by_cases g7 : x.rv = 1
        · rw [g7] at x3
          have e0 : z + ind (reports 1 x.toD) = z + 1 := by simp [ind, reports, isPend, NodeC.toD, g0, g1, g2, g7]
          have e1 : o + ind (reports 2 x.toD) = o := by simp [ind, reports, isPend, NodeC.toD, g0, g1, g2, g7]
          have e2 : e + ind (reports 3 x.toD) = e := by simp [ind, reports, isPend, NodeC.toD, g0, g1, g2, g7]
          have e3 : p + ind (!x.fa && isPend x.rv) = p := by simp [ind, reports, isPend, NodeC.toD, g0, g1, g2, g7]
          have e4 : (q0 || proposes 0 x.toD) = q0 := by simp [proposes, NodeC.toD, g0, g1, g2, g7]
          have e5 : (q1 || proposes 1 x.toD) = true := by simp [proposes, NodeC.toD, g0, g1, g2, g7]
          rw [e0, e1, e2, e3, e4, e5] at H
          clear e0 e1 e2 e3 e4 e5
          go_wp2
          exact H.out _ _ hlt ⟨rfl, rfl⟩ ⟨rfl, rfl, rfl, rfl, rfl, rfl, rfl, rfl, rfl, rfl, rfl, rfl, trivial⟩ ((Kept.refl _ _).alloc _)
        by_cases g8 : x.rv = 2
        · rw [g8] at x3
          have e0 : z + ind (reports 1 x.toD) = z := by simp [ind, reports, isPend, NodeC.toD, g0, g1, g2, g8]
          have e1 : o + ind (reports 2 x.toD) = o + 1 := by simp [ind, reports, isPend, NodeC.toD, g0, g1, g2, g8]
          have e2 : e + ind (reports 3 x.toD) = e := by simp [ind, reports, isPend, NodeC.toD, g0, g1, g2, g8]
          have e3 : p + ind (!x.fa && isPend x.rv) = p := by simp [ind, reports, isPend, NodeC.toD, g0, g1, g2, g8]
          have e4 : (q0 || proposes 0 x.toD) = q0 := by simp [proposes, NodeC.toD, g0, g1, g2, g8]
          have e5 : (q1 || proposes 1 x.toD) = true := by simp [proposes, NodeC.toD, g0, g1, g2, g8]
          rw [e0, e1, e2, e3, e4, e5] at H
          clear e0 e1 e2 e3 e4 e5
          go_wp2
          exact H.out _ _ hlt ⟨rfl, rfl⟩ ⟨rfl, rfl, rfl, rfl, rfl, rfl, rfl, rfl, rfl, rfl, rfl, rfl, trivial⟩ ((Kept.refl _ _).alloc _)
        by_cases g9 : x.rv = 3
        · rw [g9] at x3
          have e0 : z + ind (reports 1 x.toD) = z := by simp [ind, reports, isPend, NodeC.toD, g0, g1, g2, g9]
          have e1 : o + ind (reports 2 x.toD) = o := by simp [ind, reports, isPend, NodeC.toD, g0, g1, g2, g9]
          have e2 : e + ind (reports 3 x.toD) = e + 1 := by simp [ind, reports, isPend, NodeC.toD, g0, g1, g2, g9]
          have e3 : p + ind (!x.fa && isPend x.rv) = p := by simp [ind, reports, isPend, NodeC.toD, g0, g1, g2, g9]
          have e4 : (q0 || proposes 0 x.toD) = q0 := by simp [proposes, NodeC.toD, g0, g1, g2, g9]
          have e5 : (q1 || proposes 1 x.toD) = true := by simp [proposes, NodeC.toD, g0, g1, g2, g9]
          rw [e0, e1, e2, e3, e4, e5] at H
          clear e0 e1 e2 e3 e4 e5
          go_wp2
          exact H.out _ _ hlt ⟨rfl, rfl⟩ ⟨rfl, rfl, rfl, rfl, rfl, rfl, rfl, rfl, rfl, rfl, rfl, rfl, trivial⟩ ((Kept.refl _ _).alloc _)
        have t7 : (x.rv == 1) = false := by simpa using g7
        have t8 : (x.rv == 2) = false := by simpa using g8
        have t9 : (x.rv == 3) = false := by simpa using g9
        have e0 : z + ind (reports 1 x.toD) = z := by simp [ind, reports, isPend, NodeC.toD, g0, g1, g2, g7, g8, g9, t7, t8, t9]
        have e1 : o + ind (reports 2 x.toD) = o := by simp [ind, reports, isPend, NodeC.toD, g0, g1, g2, g7, g8, g9, t7, t8, t9]
        have e2 : e + ind (reports 3 x.toD) = e := by simp [ind, reports, isPend, NodeC.toD, g0, g1, g2, g7, g8, g9, t7, t8, t9]
        have e3 : p + ind (!x.fa && isPend x.rv) = p + 1 := by simp [ind, reports, isPend, NodeC.toD, g0, g1, g2, g7, g8, g9, t7, t8, t9]
        have e4 : (q0 || proposes 0 x.toD) = q0 := by simp [proposes, NodeC.toD, g0, g1, g2, g7, g8, g9, t7, t8, t9]
        have e5 : (q1 || proposes 1 x.toD) = true := by simp [proposes, NodeC.toD, g0, g1, g2, g7, g8, g9, t7, t8, t9]
        rw [e0, e1, e2, e3, e4, e5] at H
        clear e0 e1 e2 e3 e4 e5
        go_wp2
        exact H.out _ _ hlt ⟨rfl, rfl⟩ ⟨rfl, rfl, rfl, rfl, rfl, rfl, rfl, rfl, rfl, rfl, rfl, rfl, trivial⟩ ((Kept.refl _ _).alloc _)
    · have g1 : x.hp = false := by simpa using g1
      rw [g1] at x1
      by_cases g7 : x.rv = 1
      · rw [g7] at x3
        have e0 : z + ind (reports 1 x.toD) = z + 1 := by simp [ind, reports, isPend, NodeC.toD, g0, g1, g7]
        have e1 : o + ind (reports 2 x.toD) = o := by simp [ind, reports, isPend, NodeC.toD, g0, g1, g7]
        have e2 : e + ind (reports 3 x.toD) = e := by simp [ind, reports, isPend, NodeC.toD, g0, g1, g7]
        have e3 : p + ind (!x.fa && isPend x.rv) = p := by simp [ind, reports, isPend, NodeC.toD, g0, g1, g7]
        have e4 : (q0 || proposes 0 x.toD) = q0 := by simp [proposes, NodeC.toD, g0, g1, g7]
        have e5 : (q1 || proposes 1 x.toD) = q1 := by simp [proposes, NodeC.toD, g0, g1, g7]
        rw [e0, e1, e2, e3, e4, e5] at H
        clear e0 e1 e2 e3 e4 e5
        go_wp2
        exact H.out _ _ hlt ⟨rfl, rfl⟩ ⟨rfl, rfl, rfl, rfl, rfl, rfl, rfl, rfl, rfl, rfl, rfl, rfl, trivial⟩ ((Kept.refl _ _).alloc _)
      by_cases g8 : x.rv = 2
      · rw [g8] at x3
        have e0 : z + ind (reports 1 x.toD) = z := by simp [ind, reports, isPend, NodeC.toD, g0, g1, g8]
        have e1 : o + ind (reports 2 x.toD) = o + 1 := by simp [ind, reports, isPend, NodeC.toD, g0, g1, g8]
        have e2 : e + ind (reports 3 x.toD) = e := by simp [ind, reports, isPend, NodeC.toD, g0, g1, g8]
        have e3 : p + ind (!x.fa && isPend x.rv) = p := by simp [ind, reports, isPend, NodeC.toD, g0, g1, g8]
        have e4 : (q0 || proposes 0 x.toD) = q0 := by simp [proposes, NodeC.toD, g0, g1, g8]
        have e5 : (q1 || proposes 1 x.toD) = q1 := by simp [proposes, NodeC.toD, g0, g1, g8]
        rw [e0, e1, e2, e3, e4, e5] at H
        clear e0 e1 e2 e3 e4 e5
        go_wp2
        exact H.out _ _ hlt ⟨rfl, rfl⟩ ⟨rfl, rfl, rfl, rfl, rfl, rfl, rfl, rfl, rfl, rfl, rfl, rfl, trivial⟩ ((Kept.refl _ _).alloc _)
      by_cases g9 : x.rv = 3
      · rw [g9] at x3
        have e0 : z + ind (reports 1 x.toD) = z := by simp [ind, reports, isPend, NodeC.toD, g0, g1, g9]
        have e1 : o + ind (reports 2 x.toD) = o := by simp [ind, reports, isPend, NodeC.toD, g0, g1, g9]
        have e2 : e + ind (reports 3 x.toD) = e + 1 := by simp [ind, reports, isPend, NodeC.toD, g0, g1, g9]
        have e3 : p + ind (!x.fa && isPend x.rv) = p := by simp [ind, reports, isPend, NodeC.toD, g0, g1, g9]
        have e4 : (q0 || proposes 0 x.toD) = q0 := by simp [proposes, NodeC.toD, g0, g1, g9]
        have e5 : (q1 || proposes 1 x.toD) = q1 := by simp [proposes, NodeC.toD, g0, g1, g9]
        rw [e0, e1, e2, e3, e4, e5] at H
        clear e0 e1 e2 e3 e4 e5
        go_wp2
        exact H.out _ _ hlt ⟨rfl, rfl⟩ ⟨rfl, rfl, rfl, rfl, rfl, rfl, rfl, rfl, rfl, rfl, rfl, rfl, trivial⟩ ((Kept.refl _ _).alloc _)
      have t7 : (x.rv == 1) = false := by simpa using g7
      have t8 : (x.rv == 2) = false := by simpa using g8
      have t9 : (x.rv == 3) = false := by simpa using g9
      have e0 : z + ind (reports 1 x.toD) = z := by simp [ind, reports, isPend, NodeC.toD, g0, g1, g7, g8, g9, t7, t8, t9]
      have e1 : o + ind (reports 2 x.toD) = o := by simp [ind, reports, isPend, NodeC.toD, g0, g1, g7, g8, g9, t7, t8, t9]
      have e2 : e + ind (reports 3 x.toD) = e := by simp [ind, reports, isPend, NodeC.toD, g0, g1, g7, g8, g9, t7, t8, t9]
      have e3 : p + ind (!x.fa && isPend x.rv) = p + 1 := by simp [ind, reports, isPend, NodeC.toD, g0, g1, g7, g8, g9, t7, t8, t9]
      have e4 : (q0 || proposes 0 x.toD) = q0 := by simp [proposes, NodeC.toD, g0, g1, g7, g8, g9, t7, t8, t9]
      have e5 : (q1 || proposes 1 x.toD) = q1 := by simp [proposes, NodeC.toD, g0, g1, g7, g8, g9, t7, t8, t9]
      rw [e0, e1, e2, e3, e4, e5] at H
      clear e0 e1 e2 e3 e4 e5
      go_wp2
      exact H.out _ _ hlt ⟨rfl, rfl⟩ ⟨rfl, rfl, rfl, rfl, rfl, rfl, rfl, rfl, rfl, rfl, rfl, rfl, trivial⟩ ((Kept.refl _ _).alloc _)
  · clear hna hc hpv
    go_wp2
    exact HX.out _ (by omega) ⟨rfl, rfl⟩ ⟨rfl, rfl, rfl, rfl, rfl, rfl, rfl, rfl, rfl, rfl, rfl, trivial⟩

end Go.Proofs.Qxb6602526a
