import Derived.Test.Qxb6602526aA1
namespace Go.Proofs.Qxb6602526a
open Go.RowKit
set_option linter.unusedSimpArgs false
set_option linter.unusedVariables false

/-- The node that a NodeCase stands for (its pointers' blocks left open). -/
def NodeC.toD (x : NodeC) : NodeD := { nd := 0, fa := x.fa, pa := if x.hp then some 0 else none, pv := x.pv, rs := some 0, rv := x.rv, ro := if x.hr then some 0 else none, dv := x.rd }

/-- The cells of a NodeCase. -/
def NodeC.cs (x : NodeC) : Array Value := #[.bool x.fa, .bool x.hp, .int .u8 x.pv, .int .u8 x.rv, .bool x.hr, .int .u32 x.rd]

set_option maxRecDepth 10000 in
set_option maxHeartbeats 1000000 in
theorem l8_5 (na ra : Option Addr) (nn ncap rn rcap pb : Nat) (a : Act) (w : World) (Q : Exit → Act → World → Prop) (hfr : Fr 375 a) (hs : Slots [(1, .slice na nn ncap), (2, .slice ra rn rcap), (3, .pointer (some ⟨pb, 0, none⟩))] a)
    (hQ : ∀ a', Fr 375 a' → Slots [(1, .slice na nn ncap), (2, .slice ra rn rcap), (3, .pointer (some ⟨pb, 0, none⟩)), (8, .bool true)] a' → Q .normal a' w) :
    Code.wp Try.prog (nthC 5 (bodyC Try.f8)) Q a w := by
  obtain ⟨u, hu, rfl⟩ := lay375 hfr
  obtain ⟨s1, s2, s3, -⟩ := hs
  replace s1 : u 1 = .slice na nn ncap := (hu 1).symm.trans s1
  replace s2 : u 2 = .slice ra rn rcap := (hu 2).symm.trans s2
  replace s3 : u 3 = .pointer (some ⟨pb, 0, none⟩) := (hu 3).symm.trans s3
  rw [s1, s2, s3]
  clear hfr hu s1 s2 s3
  conv => arg 2; whnf
  have H : Hid _ := hQ
  clear hQ
  go_wp2
  exact H.out _ ⟨rfl, rfl⟩ ⟨rfl, rfl, rfl, rfl, trivial⟩

set_option maxRecDepth 10000 in
set_option maxHeartbeats 1000000 in
theorem l8_6 (na ra : Option Addr) (nn ncap rn rcap pb : Nat) (a : Act) (w : World) (Q : Exit → Act → World → Prop) (hfr : Fr 375 a) (hs : Slots [(1, .slice na nn ncap), (2, .slice ra rn rcap), (3, .pointer (some ⟨pb, 0, none⟩)), (8, .bool true)] a)
    (hQ : ∀ a', Fr 375 a' → Slots [(1, .slice na nn ncap), (2, .slice ra rn rcap), (3, .pointer (some ⟨pb, 0, none⟩)), (8, .bool true), (9, .int .u32 0)] a' → Q .normal a' w) :
    Code.wp Try.prog (nthC 6 (bodyC Try.f8)) Q a w := by
  obtain ⟨u, hu, rfl⟩ := lay375 hfr
  obtain ⟨s1, s2, s3, s8, -⟩ := hs
  replace s1 : u 1 = .slice na nn ncap := (hu 1).symm.trans s1
  replace s2 : u 2 = .slice ra rn rcap := (hu 2).symm.trans s2
  replace s3 : u 3 = .pointer (some ⟨pb, 0, none⟩) := (hu 3).symm.trans s3
  replace s8 : u 8 = .bool true := (hu 8).symm.trans s8
  rw [s1, s2, s3, s8]
  clear hfr hu s1 s2 s3 s8
  conv => arg 2; whnf
  have H : Hid _ := hQ
  clear hQ
  go_wp2
  exact H.out _ ⟨rfl, rfl⟩ ⟨rfl, rfl, rfl, rfl, rfl, trivial⟩

set_option maxRecDepth 10000 in
set_option maxHeartbeats 1000000 in
theorem l8_7i (na ra : Option Addr) (nn ncap rn rcap pb : Nat) (a : Act) (w : World) (Q : Exit → Act → World → Prop) (hfr : Fr 375 a) (hs : Slots [(1, .slice na nn ncap), (2, .slice ra rn rcap), (3, .pointer (some ⟨pb, 0, none⟩)), (8, .bool true), (9, .int .u32 0)] a)
    (hQ : ∀ a', Fr 375 a' → Slots [(1, .slice na nn ncap), (2, .slice ra rn rcap), (3, .pointer (some ⟨pb, 0, none⟩)), (8, .bool true), (9, .int .u32 0), (10, .int .i64 (0 : Nat))] a' → Q .normal a' w) :
    Code.wp Try.prog (hdC (nthC 7 (bodyC Try.f8))) Q a w := by
  obtain ⟨u, hu, rfl⟩ := lay375 hfr
  obtain ⟨s1, s2, s3, s8, s9, -⟩ := hs
  replace s1 : u 1 = .slice na nn ncap := (hu 1).symm.trans s1
  replace s2 : u 2 = .slice ra rn rcap := (hu 2).symm.trans s2
  replace s3 : u 3 = .pointer (some ⟨pb, 0, none⟩) := (hu 3).symm.trans s3
  replace s8 : u 8 = .bool true := (hu 8).symm.trans s8
  replace s9 : u 9 = .int .u32 0 := (hu 9).symm.trans s9
  rw [s1, s2, s3, s8, s9]
  clear hfr hu s1 s2 s3 s8 s9
  conv => arg 2; whnf
  have H : Hid _ := hQ
  clear hQ
  go_wp2
  exact H.out _ ⟨rfl, rfl⟩ ⟨rfl, rfl, rfl, rfl, rfl, rfl, trivial⟩

set_option maxRecDepth 10000 in
set_option maxHeartbeats 1000000 in
/-- a round of the second loop -/
theorem l8_7r (na ra : Option Addr) (nn ncap rn rcap pb : Nat) (k nb noff : Nat) (x : NodeC) (ad : Bool) (l : Int) (a : Act) (w : World) (Q : Exit → Act → World → Prop) (hfr : Fr 375 a) (hs : Slots [(1, .slice na nn ncap), (2, .slice ra rn rcap), (3, .pointer (some ⟨pb, 0, none⟩)), (8, .bool ad), (9, .int .u32 l), (10, .int .i64 (k : Nat))] a)
    (hk : k ≤ nn) (l1 : (nn : Int) ≤ 65536) (hna : 0 < nn → na = some ⟨nb, noff, none⟩) (hc : k < nn → x.at w nb (noff + k * 6))
    (hQ : ∀ a' w', k < nn → (x.fa = false → x.hp = true → x.pv ≤ 1) → Fr 375 a' → Slots [(1, .slice na nn ncap), (2, .slice ra rn rcap), (3, .pointer (some ⟨pb, 0, none⟩)), (8, .bool (ad && !undecided x.toD)), (9, .int .u32 (if !x.toD.fa && x.toD.ro.isSome && decide (l < x.toD.dv) then x.toD.dv else l)), (10, .int .i64 (k + 1 : Nat))] a' → Kept [] w w' → Q .normal a' w') (hexit : ∀ a', k = nn → Fr 375 a' → Slots [(1, .slice na nn ncap), (2, .slice ra rn rcap), (3, .pointer (some ⟨pb, 0, none⟩)), (8, .bool ad), (9, .int .u32 l)] a' → Q (.exit 2) a' w)
    (hret : ∀ a' w', Fr 375 a' → sl a' 6 = .bool true → Kept [] w w' → Q .ret a' w') :
    Code.wp Try.prog (inC (inC (tlC (nthC 7 (bodyC Try.f8))))) Q a w := by
  obtain ⟨u, hu, rfl⟩ := lay375 hfr
  obtain ⟨s1, s2, s3, s8, s9, s10, -⟩ := hs
  replace s1 : u 1 = .slice na nn ncap := (hu 1).symm.trans s1
  replace s2 : u 2 = .slice ra rn rcap := (hu 2).symm.trans s2
  replace s3 : u 3 = .pointer (some ⟨pb, 0, none⟩) := (hu 3).symm.trans s3
  replace s8 : u 8 = .bool ad := (hu 8).symm.trans s8
  replace s9 : u 9 = .int .u32 l := (hu 9).symm.trans s9
  replace s10 : u 10 = .int .i64 (k : Nat) := (hu 10).symm.trans s10
  rw [s1, s2, s3, s8, s9, s10]
  clear hfr hu s1 s2 s3 s8 s9 s10
  conv => arg 2; whnf
  have H : Hid _ := hQ
  have HX : Hid _ := hexit
  have HR : Hid _ := hret
  clear hQ hexit hret
  by_cases hlt : k < nn
  · have e := hna (by omega)
    subst e
    obtain ⟨x0, x1, x2, x3, x4, x5⟩ := hc hlt
    clear hna hc
    have hfa : x.fa = x.fa := rfl
    by_cases g0 : x.fa = true
    · rw [g0] at x0
      have e1 : (ad && !undecided x.toD) = ad := by simp [undecided, NodeC.toD, g0]
      have e2 : (if !x.toD.fa && x.toD.ro.isSome && decide (l < x.toD.dv) then x.toD.dv else l) = l := by simp [NodeC.toD, g0]
      rw [e1, e2] at H
      clear e1 e2
      go_wp2
      exact H.out _ _ hlt (by simp [g0]) ⟨rfl, rfl⟩ ⟨rfl, rfl, rfl, rfl, rfl, rfl, trivial⟩ ((Kept.refl _ _).alloc _)
    have g0 : x.fa = false := by simpa using g0
    rw [g0] at x0
    by_cases g1 : x.hp = true
    · rw [g1] at x1
      by_cases g2 : (1 : Int) < x.pv
      · go_wp2
        exact HR.out _ _ ⟨rfl, rfl⟩ rfl ((Kept.refl _ _).alloc _)
      have g2' : x.pv ≤ 1 := by omega
      by_cases g3 : x.hr = true
      · rw [g3] at x4
        by_cases g4 : l < x.rd
        · have e1 : (ad && !undecided x.toD) = ad := by simp [undecided, NodeC.toD, g0, g1, g2', g3, g4]
          have e2 : (if !x.toD.fa && x.toD.ro.isSome && decide (l < x.toD.dv) then x.toD.dv else l) = x.rd := by simp [NodeC.toD, g0, g1, g2', g3, g4]
          rw [e1, e2] at H
          clear e1 e2
          go_wp2
          exact H.out _ _ hlt (by simp [g0, g1, g2', g3, g4]) ⟨rfl, rfl⟩ ⟨rfl, rfl, rfl, rfl, rfl, rfl, trivial⟩ ((Kept.refl _ _).alloc _)
        · have e1 : (ad && !undecided x.toD) = ad := by simp [undecided, NodeC.toD, g0, g1, g2', g3, g4]
          have e2 : (if !x.toD.fa && x.toD.ro.isSome && decide (l < x.toD.dv) then x.toD.dv else l) = l := by simp [NodeC.toD, g0, g1, g2', g3, g4]
          rw [e1, e2] at H
          clear e1 e2
          go_wp2
          exact H.out _ _ hlt (by simp [g0, g1, g2', g3, g4]) ⟨rfl, rfl⟩ ⟨rfl, rfl, rfl, rfl, rfl, rfl, trivial⟩ ((Kept.refl _ _).alloc _)
      · have g3 : x.hr = false := by simpa using g3
        rw [g3] at x4
        have e1 : (ad && !undecided x.toD) = false := by simp [undecided, NodeC.toD, g0, g1, g2', g3]
        have e2 : (if !x.toD.fa && x.toD.ro.isSome && decide (l < x.toD.dv) then x.toD.dv else l) = l := by simp [NodeC.toD, g0, g1, g2', g3]
        rw [e1, e2] at H
        clear e1 e2
        go_wp2
        exact H.out _ _ hlt (by simp [g0, g1, g2', g3]) ⟨rfl, rfl⟩ ⟨rfl, rfl, rfl, rfl, rfl, rfl, trivial⟩ ((Kept.refl _ _).alloc _)
    · have g1 : x.hp = false := by simpa using g1
      rw [g1] at x1
      by_cases g3 : x.hr = true
      · rw [g3] at x4
        by_cases g4 : l < x.rd
        · have e1 : (ad && !undecided x.toD) = ad := by simp [undecided, NodeC.toD, g0, g1, g3, g4]
          have e2 : (if !x.toD.fa && x.toD.ro.isSome && decide (l < x.toD.dv) then x.toD.dv else l) = x.rd := by simp [NodeC.toD, g0, g1, g3, g4]
          rw [e1, e2] at H
          clear e1 e2
          go_wp2
          exact H.out _ _ hlt (by simp [g0, g1, g3, g4]) ⟨rfl, rfl⟩ ⟨rfl, rfl, rfl, rfl, rfl, rfl, trivial⟩ ((Kept.refl _ _).alloc _)
        · have e1 : (ad && !undecided x.toD) = ad := by simp [undecided, NodeC.toD, g0, g1, g3, g4]
          have e2 : (if !x.toD.fa && x.toD.ro.isSome && decide (l < x.toD.dv) then x.toD.dv else l) = l := by simp [NodeC.toD, g0, g1, g3, g4]
          rw [e1, e2] at H
          clear e1 e2
          go_wp2
          exact H.out _ _ hlt (by simp [g0, g1, g3, g4]) ⟨rfl, rfl⟩ ⟨rfl, rfl, rfl, rfl, rfl, rfl, trivial⟩ ((Kept.refl _ _).alloc _)
      · have g3 : x.hr = false := by simpa using g3
        rw [g3] at x4
        have e1 : (ad && !undecided x.toD) = false := by simp [undecided, NodeC.toD, g0, g1, g3]
        have e2 : (if !x.toD.fa && x.toD.ro.isSome && decide (l < x.toD.dv) then x.toD.dv else l) = l := by simp [NodeC.toD, g0, g1, g3]
        rw [e1, e2] at H
        clear e1 e2
        go_wp2
        exact H.out _ _ hlt (by simp [g0, g1, g3]) ⟨rfl, rfl⟩ ⟨rfl, rfl, rfl, rfl, rfl, rfl, trivial⟩ ((Kept.refl _ _).alloc _)
  · clear hna hc
    go_wp2
    exact HX.out _ (by omega) ⟨rfl, rfl⟩ ⟨rfl, rfl, rfl, rfl, rfl, trivial⟩

set_option maxRecDepth 10000 in
set_option maxHeartbeats 1000000 in
theorem l8_8 (na ra : Option Addr) (nn ncap rn rcap pb : Nat) (ad : Bool) (l : Int) (a : Act) (w : World) (Q : Exit → Act → World → Prop) (hfr : Fr 375 a) (hs : Slots [(1, .slice na nn ncap), (2, .slice ra rn rcap), (3, .pointer (some ⟨pb, 0, none⟩)), (8, .bool ad), (9, .int .u32 l)] a)
    (l2 : (rn : Int) ≤ 65536) (l0 : 0 ≤ l) (l3 : l < 4294967296)
    (hQ : ∀ a', (ad = true → 1 ≤ l ∧ l ≤ rn) → Fr 375 a' → Slots [(1, .slice na nn ncap), (2, .slice ra rn rcap), (3, .pointer (some ⟨pb, 0, none⟩)), (8, .bool ad), (9, .int .u32 l)] a' → Q .normal a' w)
    (hret : ∀ a' w', Fr 375 a' → sl a' 6 = .bool true → Kept [] w w' → Q .ret a' w') :
    Code.wp Try.prog (nthC 8 (bodyC Try.f8)) Q a w := by
  obtain ⟨u, hu, rfl⟩ := lay375 hfr
  obtain ⟨s1, s2, s3, s8, s9, -⟩ := hs
  replace s1 : u 1 = .slice na nn ncap := (hu 1).symm.trans s1
  replace s2 : u 2 = .slice ra rn rcap := (hu 2).symm.trans s2
  replace s3 : u 3 = .pointer (some ⟨pb, 0, none⟩) := (hu 3).symm.trans s3
  replace s8 : u 8 = .bool ad := (hu 8).symm.trans s8
  replace s9 : u 9 = .int .u32 l := (hu 9).symm.trans s9
  rw [s1, s2, s3, s8, s9]
  clear hfr hu s1 s2 s3 s8 s9
  conv => arg 2; whnf
  have H : Hid _ := hQ
  have HR : Hid _ := hret
  clear hQ hret
  cases ad
  · go_wp2
    exact H.out _ (by simp) ⟨rfl, rfl⟩ ⟨rfl, rfl, rfl, rfl, rfl, trivial⟩
  · by_cases h1 : l = 0
    · subst h1
      go_wp2
      exact HR.out _ _ ⟨rfl, rfl⟩ rfl (Kept.refl _ _)
    · have h1' : (l == 0) = false := by simpa using h1
      by_cases h2 : (rn : Int) < l
      · go_wp2
        exact HR.out _ _ ⟨rfl, rfl⟩ rfl (Kept.refl _ _)
      · go_wp2
        exact H.out _ (by intro _; omega) ⟨rfl, rfl⟩ ⟨rfl, rfl, rfl, rfl, rfl, trivial⟩

end Go.Proofs.Qxb6602526a
