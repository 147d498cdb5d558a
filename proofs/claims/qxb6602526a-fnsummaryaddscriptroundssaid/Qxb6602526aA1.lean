import Derived.Test.Qxb6602526aN1
import Derived.Test.Qxb6602526aNav2
import Derived.Test.Qxb6602526aNav3
import Derived.Test.Qxb6602526aS3
namespace Go.Proofs.Qxb6602526a
open Go.RowKit
set_option linter.unusedSimpArgs false
set_option linter.unusedVariables false

set_option maxRecDepth 10000 in
set_option maxHeartbeats 1000000 in
/-- the case of the Summary is boxed -/
theorem l8_0 (na ra : Option Addr) (nn ncap rn rcap : Nat) (pr : Array Value) (a : Act) (w : World) (Q : Exit → Act → World → Prop) (hfr : Fr 375 a) (hs : Slots [(0, .agg pr), (1, .slice na nn ncap), (2, .slice ra rn rcap)] a)
    (hpr : pr.size = 9) (hQ : ∀ a', Fr 375 a' → Slots [(1, .slice na nn ncap), (2, .slice ra rn rcap), (3, .pointer (some ⟨w.heap.size, 0, none⟩))] a' → Q .normal a' (w.alloc (.cells pr 78))) :
    Code.wp Try.prog (nthC 0 (bodyC Try.f8)) Q a w := by
  obtain ⟨u, hu, rfl⟩ := lay375 hfr
  obtain ⟨s0, s1, s2, -⟩ := hs
  replace s0 : u 0 = .agg pr := (hu 0).symm.trans s0
  replace s1 : u 1 = .slice na nn ncap := (hu 1).symm.trans s1
  replace s2 : u 2 = .slice ra rn rcap := (hu 2).symm.trans s2
  rw [s0, s1, s2]
  clear hfr hu s0 s1 s2
  conv => arg 2; whnf
  have H : Hid _ := hQ
  clear hQ
  go_wp2
  exact H.out _ ⟨rfl, rfl⟩ ⟨rfl, rfl, rfl, trivial⟩

set_option maxRecDepth 10000 in
set_option maxHeartbeats 1000000 in
/-- the guard on lengths -/
theorem l8_1 (na ra : Option Addr) (nn ncap rn rcap pb : Nat) (p0 p1 p2 p3 p4 p5 p6 p8 : Int) (p7 : Bool) (a : Act) (w : World) (Q : Exit → Act → World → Prop) (hfr : Fr 375 a) (hs : Slots [(1, .slice na nn ncap), (2, .slice ra rn rcap), (3, .pointer (some ⟨pb, 0, none⟩))] a)
    (hB : IsB w pb #[.int .u64 p0, .int .u64 p1, .int .u64 p2, .int .u64 p3, .int .u64 p4, .int .u64 p5, .int .u64 p6, .bool p7, .int .u64 p8] 78) (l1 : (nn : Int) ≤ 9223372036854775807) (l2 : (rn : Int) ≤ 9223372036854775807)
    (hQ : ∀ a' w', nn + rn ≤ 1048576 → Fr 375 a' → Slots [(1, .slice na nn ncap), (2, .slice ra rn rcap), (3, .pointer (some ⟨pb, 0, none⟩))] a' → Kept [] w w' → Q .normal a' w')
    (hret : ∀ a' w', Fr 375 a' → sl a' 6 = .bool true → Kept [] w w' → Q .ret a' w') :
    Code.wp Try.prog (nthC 1 (bodyC Try.f8)) Q a w := by
  obtain ⟨u, hu, rfl⟩ := lay375 hfr
  obtain ⟨s1, s2, s3, -⟩ := hs
  replace s1 : u 1 = .slice na nn ncap := (hu 1).symm.trans s1
  replace s2 : u 2 = .slice ra rn rcap := (hu 2).symm.trans s2
  replace s3 : u 3 = .pointer (some ⟨pb, 0, none⟩) := (hu 3).symm.trans s3
  rw [s1, s2, s3]
  clear hfr hu s1 s2 s3
  conv => arg 2; whnf
  have c0 : w.cell? ⟨pb, 0, none⟩ = some (.int .u64 p0) := hB.cell 0
  have c1 : w.cell? ⟨pb, 1, none⟩ = some (.int .u64 p1) := hB.cell 1
  have c2 : w.cell? ⟨pb, 2, none⟩ = some (.int .u64 p2) := hB.cell 2
  have c3 : w.cell? ⟨pb, 3, none⟩ = some (.int .u64 p3) := hB.cell 3
  have c4 : w.cell? ⟨pb, 4, none⟩ = some (.int .u64 p4) := hB.cell 4
  have c5 : w.cell? ⟨pb, 5, none⟩ = some (.int .u64 p5) := hB.cell 5
  have c6 : w.cell? ⟨pb, 6, none⟩ = some (.int .u64 p6) := hB.cell 6
  have c7 : w.cell? ⟨pb, 7, none⟩ = some (.bool p7) := hB.cell 7
  have c8 : w.cell? ⟨pb, 8, none⟩ = some (.int .u64 p8) := hB.cell 8
  have H : Hid _ := hQ
  have HR : Hid _ := hret
  clear hQ hret hB
  by_cases h : nn + rn ≤ 1048576
  · have HH : Hid _ := h
    clear h
    go_wp2_with (go_at_call 32; refine (zz32_yes _ _ _ _ _ _ _ _ rfl HH.out).mono ?_; rintro e w' ⟨rfl, rfl⟩)
    exact H.out _ _ HH.out ⟨rfl, rfl⟩ ⟨rfl, rfl, rfl, trivial⟩ ((Kept.refl _ _).alloc _)
  · have HH : Hid _ := h
    clear h
    go_wp2_with (go_at_call 32; refine (zz32_no _ _ _ _ _ _ _ _ HH.out l1 l2).mono ?_; rintro e w' ⟨rfl, rfl⟩)
    exact HR.out _ _ ⟨rfl, rfl⟩ rfl ((Kept.refl _ _).alloc _)

set_option maxRecDepth 10000 in
set_option maxHeartbeats 1000000 in
theorem l8_2 (na ra : Option Addr) (nn ncap rn rcap pb : Nat) (a : Act) (w : World) (Q : Exit → Act → World → Prop) (hfr : Fr 375 a) (hs : Slots [(1, .slice na nn ncap), (2, .slice ra rn rcap), (3, .pointer (some ⟨pb, 0, none⟩))] a)
    (l1 : (nn : Int) ≤ 1048576) (l2 : (rn : Int) ≤ 1048576)
    (hQ : ∀ a', nn ≤ 65536 → rn ≤ 65536 → Fr 375 a' → Slots [(1, .slice na nn ncap), (2, .slice ra rn rcap), (3, .pointer (some ⟨pb, 0, none⟩))] a' → Q .normal a' w)
    (hret : ∀ a' w', Fr 375 a' → sl a' 6 = .bool true → Kept [] w w' → Q .ret a' w') :
    Code.wp Try.prog (nthC 2 (bodyC Try.f8)) Q a w := by
  obtain ⟨u, hu, rfl⟩ := lay375 hfr
  obtain ⟨s1, s2, s3, -⟩ := hs
  replace s1 : u 1 = .slice na nn ncap := (hu 1).symm.trans s1
  replace s2 : u 2 = .slice ra rn rcap := (hu 2).symm.trans s2
  replace s3 : u 3 = .pointer (some ⟨pb, 0, none⟩) := (hu 3).symm.trans s3
  rw [s1, s2, s3]
  clear hfr hu s1 s2 s3
  conv => arg 2; whnf
  have H : Hid _ := hQ
  have HR : Hid _ := hret
  clear hQ hret
  by_cases h1 : (65536 : Int) < nn
  · go_wp2
    exact HR.out _ _ ⟨rfl, rfl⟩ rfl (Kept.refl _ _)
  · by_cases h2 : (65536 : Int) < rn
    · go_wp2
      exact HR.out _ _ ⟨rfl, rfl⟩ rfl (Kept.refl _ _)
    · go_wp2
      exact H.out _ (by omega) (by omega) ⟨rfl, rfl⟩ ⟨rfl, rfl, rfl, trivial⟩

set_option maxRecDepth 10000 in
set_option maxHeartbeats 1000000 in
theorem l8_3 (na ra : Option Addr) (nn ncap rn rcap pb : Nat) (a : Act) (w : World) (Q : Exit → Act → World → Prop) (hfr : Fr 375 a) (hs : Slots [(1, .slice na nn ncap), (2, .slice ra rn rcap), (3, .pointer (some ⟨pb, 0, none⟩))] a)
    (l1 : (nn : Int) ≤ 65536) (l2 : (rn : Int) ≤ 65536)
    (hQ : ∀ a', Fr 375 a' → Slots [(1, .slice na nn ncap), (2, .slice ra rn rcap), (3, .pointer (some ⟨pb, 0, none⟩))] a' → Q .normal a' w)
    (hret : ∀ a' w', Fr 375 a' → sl a' 6 = .bool true → Kept [] w w' → Q .ret a' w') :
    Code.wp Try.prog (nthC 3 (bodyC Try.f8)) Q a w := by
  obtain ⟨u, hu, rfl⟩ := lay375 hfr
  obtain ⟨s1, s2, s3, -⟩ := hs
  replace s1 : u 1 = .slice na nn ncap := (hu 1).symm.trans s1
  replace s2 : u 2 = .slice ra rn rcap := (hu 2).symm.trans s2
  replace s3 : u 3 = .pointer (some ⟨pb, 0, none⟩) := (hu 3).symm.trans s3
  rw [s1, s2, s3]
  clear hfr hu s1 s2 s3
  conv => arg 2; whnf
  have H : Hid _ := hQ
  have HR : Hid _ := hret
  clear hQ hret
  by_cases h1 : (1048576 : Int) < 16 * nn + 8 * rn
  · go_wp2
    exact HR.out _ _ ⟨rfl, rfl⟩ rfl (Kept.refl _ _)
  · go_wp2
    exact H.out _ ⟨rfl, rfl⟩ ⟨rfl, rfl, rfl, trivial⟩

set_option maxRecDepth 10000 in
set_option maxHeartbeats 1000000 in
theorem l8_4i (na ra : Option Addr) (nn ncap rn rcap pb : Nat) (a : Act) (w : World) (Q : Exit → Act → World → Prop) (hfr : Fr 375 a) (hs : Slots [(1, .slice na nn ncap), (2, .slice ra rn rcap), (3, .pointer (some ⟨pb, 0, none⟩))] a)
    (hQ : ∀ a', Fr 375 a' → Slots [(1, .slice na nn ncap), (2, .slice ra rn rcap), (3, .pointer (some ⟨pb, 0, none⟩)), (7, .int .i64 0)] a' → Q .normal a' w) :
    Code.wp Try.prog (hdC (nthC 4 (bodyC Try.f8))) Q a w := by
  obtain ⟨u, hu, rfl⟩ := lay375 hfr
  obtain ⟨s1, s2, s3, -⟩ := hs
  replace s1 : u 1 = .slice na nn ncap := (hu 1).symm.trans s1
  replace s2 : u 2 = .slice ra rn rcap := (hu 2).symm.trans s2
  replace s3 : u 3 = .pointer (some ⟨pb, 0, none⟩) := (hu 3).symm.trans s3
  rw [s1, s2, s3]
  clear hfr hu s1 s2 s3
  conv => arg 2; whnf
  have H : Hid _ := hQ
  clear hQ
  go_wp2
  exact H.out _ ⟨rfl, rfl⟩ ⟨rfl, rfl, rfl, rfl, trivial⟩

set_option maxRecDepth 10000 in
set_option maxHeartbeats 1000000 in
/-- a round of the first loop -/
theorem l8_4r (na ra : Option Addr) (nn ncap rn rcap pb : Nat) (k rb roff : Nat) (f : Nat → Int) (a : Act) (w : World) (Q : Exit → Act → World → Prop) (hfr : Fr 375 a) (hs : Slots [(1, .slice na nn ncap), (2, .slice ra rn rcap), (3, .pointer (some ⟨pb, 0, none⟩)), (7, .int .i64 (k : Nat))] a)
    (hk : k ≤ rn) (l2 : (rn : Int) ≤ 65536) (hra : 0 < rn → ra = some ⟨rb, roff, none⟩) (hc : k < rn → w.cell? ⟨rb, roff + k, none⟩ = some (.int .u64 (f k)))
    (hQ : ∀ a', k < rn → f k ≤ 1099511627776 → Fr 375 a' → Slots [(1, .slice na nn ncap), (2, .slice ra rn rcap), (3, .pointer (some ⟨pb, 0, none⟩)), (7, .int .i64 (k + 1 : Nat))] a' → Q .normal a' w) (hexit : ∀ a', k = rn → Fr 375 a' → Slots [(1, .slice na nn ncap), (2, .slice ra rn rcap), (3, .pointer (some ⟨pb, 0, none⟩))] a' → Q (.exit 0) a' w)
    (hret : ∀ a' w', Fr 375 a' → sl a' 6 = .bool true → Kept [] w w' → Q .ret a' w') :
    Code.wp Try.prog (inC (inC (tlC (nthC 4 (bodyC Try.f8))))) Q a w := by
  obtain ⟨u, hu, rfl⟩ := lay375 hfr
  obtain ⟨s1, s2, s3, s7, -⟩ := hs
  replace s1 : u 1 = .slice na nn ncap := (hu 1).symm.trans s1
  replace s2 : u 2 = .slice ra rn rcap := (hu 2).symm.trans s2
  replace s3 : u 3 = .pointer (some ⟨pb, 0, none⟩) := (hu 3).symm.trans s3
  replace s7 : u 7 = .int .i64 (k : Nat) := (hu 7).symm.trans s7
  rw [s1, s2, s3, s7]
  clear hfr hu s1 s2 s3 s7
  conv => arg 2; whnf
  have H : Hid _ := hQ
  have HX : Hid _ := hexit
  have HR : Hid _ := hret
  clear hQ hexit hret
  by_cases hlt : k < rn
  · have e := hra (by omega)
    subst e
    have hck := hc hlt
    clear hra hc
    by_cases h1 : (1099511627776 : Int) < f k
    · go_wp2
      exact HR.out _ _ ⟨rfl, rfl⟩ rfl (Kept.refl _ _)
    · go_wp2
      exact H.out _ hlt (by omega) ⟨rfl, rfl⟩ ⟨rfl, rfl, rfl, rfl, trivial⟩
  · clear hra hc
    go_wp2
    exact HX.out _ (by omega) ⟨rfl, rfl⟩ ⟨rfl, rfl, rfl, trivial⟩

end Go.Proofs.Qxb6602526a
