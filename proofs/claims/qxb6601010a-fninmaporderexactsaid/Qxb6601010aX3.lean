import Derived.Test.Qxb6601010aU2
namespace Go.Proofs.Qxb6601010a
open Go.RowKit
set_option linter.unusedSimpArgs false
set_option linter.unusedVariables false

set_option maxRecDepth 10000 in
set_option maxHeartbeats 1000000 in
theorem n24 (b n c lo m hi : Nat) (md : Nat) (a : Act) (w : World) (Q : Exit → Act → World → Prop) (hfr : Fr 220 a) (hs : Slots [(0, .slice (some ⟨b, 0, none⟩) n c), (1, .int .i64 (lo : Nat)), (2, .int .i64 (m : Nat)), (3, .int .i64 (hi : Nat)), (4, .func (.func 27) #[] #[])] a)
    (hh : md = (lo + hi) / 2) (li : lo ≤ 4096) (lj : hi ≤ 4096) (hQ : ∀ a', Fr 220 a' → Slots [(0, .slice (some ⟨b, 0, none⟩) n c), (1, .int .i64 (lo : Nat)), (2, .int .i64 (m : Nat)), (3, .int .i64 (hi : Nat)), (4, .func (.func 27) #[] #[]), (18, .int .i64 (md : Nat))] a' → Q .normal a' w) :
    Code.wp Try.prog (nthC 2 (bodyC Try.f32)) Q a w := by
  obtain ⟨u, hu, rfl⟩ := lay220 hfr
  obtain ⟨s0, s1, s2, s3, s4, -⟩ := hs
  replace s0 : u 0 = .slice (some ⟨b, 0, none⟩) n c := (hu 0).symm.trans s0
  replace s1 : u 1 = .int .i64 (lo : Nat) := (hu 1).symm.trans s1
  replace s2 : u 2 = .int .i64 (m : Nat) := (hu 2).symm.trans s2
  replace s3 : u 3 = .int .i64 (hi : Nat) := (hu 3).symm.trans s3
  replace s4 : u 4 = .func (.func 27) #[] #[] := (hu 4).symm.trans s4
  rw [s0, s1, s2, s3, s4]
  clear hfr hu s0 s1 s2 s3 s4
  conv => arg 2; whnf
  have e1 : IntKind.i64.wrap ((lo : Int) + (hi : Int)) = ((lo + hi : Nat) : Int) := by rw [IntKind.wrap_i64]; omega
  have e2 : IntKind.u64.wrap ((lo + hi : Nat) : Int) = ((lo + hi : Nat) : Int) := by rw [IntKind.wrap_u64]; omega
  have e3 : ((lo + hi : Nat) : Int) / 2 = (md : Int) := by omega
  have e4 : IntKind.u64.wrap (md : Int) = (md : Int) := by rw [IntKind.wrap_u64]; omega
  have e5 : IntKind.i64.wrap (md : Int) = (md : Int) := by rw [IntKind.wrap_i64]; omega
  clear hh li lj
  generalize lo + hi = ij at *
  have H : Hid _ := hQ
  clear hQ
  go_wp2
  exact H.out _ ⟨rfl, rfl⟩ ⟨rfl, rfl, rfl, rfl, rfl, rfl, trivial⟩

set_option maxRecDepth 10000 in
set_option maxHeartbeats 1000000 in
theorem n25 (b n c lo m hi : Nat) (md : Nat) (nn : Nat) (a : Act) (w : World) (Q : Exit → Act → World → Prop) (hfr : Fr 220 a) (hs : Slots [(0, .slice (some ⟨b, 0, none⟩) n c), (1, .int .i64 (lo : Nat)), (2, .int .i64 (m : Nat)), (3, .int .i64 (hi : Nat)), (4, .func (.func 27) #[] #[]), (18, .int .i64 (md : Nat))] a)
    (hnn : IntKind.i64.wrap ((md : Int) + (m : Int)) = (nn : Int)) (hQ : ∀ a', Fr 220 a' → Slots [(0, .slice (some ⟨b, 0, none⟩) n c), (1, .int .i64 (lo : Nat)), (2, .int .i64 (m : Nat)), (3, .int .i64 (hi : Nat)), (4, .func (.func 27) #[] #[]), (18, .int .i64 (md : Nat)), (19, .int .i64 (nn : Nat))] a' → Q .normal a' w) :
    Code.wp Try.prog (nthC 3 (bodyC Try.f32)) Q a w := by
  obtain ⟨u, hu, rfl⟩ := lay220 hfr
  obtain ⟨s0, s1, s2, s3, s4, s18, -⟩ := hs
  replace s0 : u 0 = .slice (some ⟨b, 0, none⟩) n c := (hu 0).symm.trans s0
  replace s1 : u 1 = .int .i64 (lo : Nat) := (hu 1).symm.trans s1
  replace s2 : u 2 = .int .i64 (m : Nat) := (hu 2).symm.trans s2
  replace s3 : u 3 = .int .i64 (hi : Nat) := (hu 3).symm.trans s3
  replace s4 : u 4 = .func (.func 27) #[] #[] := (hu 4).symm.trans s4
  replace s18 : u 18 = .int .i64 (md : Nat) := (hu 18).symm.trans s18
  rw [s0, s1, s2, s3, s4, s18]
  clear hfr hu s0 s1 s2 s3 s4 s18
  conv => arg 2; whnf
  have H : Hid _ := hQ
  clear hQ
  go_wp2
  exact H.out _ ⟨rfl, rfl⟩ ⟨rfl, rfl, rfl, rfl, rfl, rfl, rfl, trivial⟩

set_option maxRecDepth 10000 in
set_option maxHeartbeats 1000000 in
theorem n26 (b n c lo m hi : Nat) (md : Nat) (nn : Nat) (a : Act) (w : World) (Q : Exit → Act → World → Prop) (hfr : Fr 220 a) (hs : Slots [(0, .slice (some ⟨b, 0, none⟩) n c), (1, .int .i64 (lo : Nat)), (2, .int .i64 (m : Nat)), (3, .int .i64 (hi : Nat)), (4, .func (.func 27) #[] #[]), (18, .int .i64 (md : Nat)), (19, .int .i64 (nn : Nat))] a)
    (hQ : ∀ a', Fr 220 a' → Slots [(0, .slice (some ⟨b, 0, none⟩) n c), (1, .int .i64 (lo : Nat)), (2, .int .i64 (m : Nat)), (3, .int .i64 (hi : Nat)), (4, .func (.func 27) #[] #[]), (18, .int .i64 (md : Nat)), (19, .int .i64 (nn : Nat))] a' → Q .normal a' w) :
    Code.wp Try.prog (nthC 4 (bodyC Try.f32)) Q a w := by
  obtain ⟨u, hu, rfl⟩ := lay220 hfr
  obtain ⟨s0, s1, s2, s3, s4, s18, s19, -⟩ := hs
  replace s0 : u 0 = .slice (some ⟨b, 0, none⟩) n c := (hu 0).symm.trans s0
  replace s1 : u 1 = .int .i64 (lo : Nat) := (hu 1).symm.trans s1
  replace s2 : u 2 = .int .i64 (m : Nat) := (hu 2).symm.trans s2
  replace s3 : u 3 = .int .i64 (hi : Nat) := (hu 3).symm.trans s3
  replace s4 : u 4 = .func (.func 27) #[] #[] := (hu 4).symm.trans s4
  replace s18 : u 18 = .int .i64 (md : Nat) := (hu 18).symm.trans s18
  replace s19 : u 19 = .int .i64 (nn : Nat) := (hu 19).symm.trans s19
  rw [s0, s1, s2, s3, s4, s18, s19]
  clear hfr hu s0 s1 s2 s3 s4 s18 s19
  conv => arg 2; whnf
  have H : Hid _ := hQ
  clear hQ
  go_wp2
  exact H.out _ ⟨rfl, rfl⟩ ⟨rfl, rfl, rfl, rfl, rfl, rfl, rfl, trivial⟩

set_option maxRecDepth 10000 in
set_option maxHeartbeats 1000000 in
theorem n27 (b n c lo m hi : Nat) (md : Nat) (nn : Nat) (a : Act) (w : World) (Q : Exit → Act → World → Prop) (hfr : Fr 220 a) (hs : Slots [(0, .slice (some ⟨b, 0, none⟩) n c), (1, .int .i64 (lo : Nat)), (2, .int .i64 (m : Nat)), (3, .int .i64 (hi : Nat)), (4, .func (.func 27) #[] #[]), (18, .int .i64 (md : Nat)), (19, .int .i64 (nn : Nat))] a)
    (hQ : ∀ a', Fr 220 a' → Slots [(0, .slice (some ⟨b, 0, none⟩) n c), (1, .int .i64 (lo : Nat)), (2, .int .i64 (m : Nat)), (3, .int .i64 (hi : Nat)), (4, .func (.func 27) #[] #[]), (18, .int .i64 (md : Nat)), (19, .int .i64 (nn : Nat)), (140, .bool (decide (md < m)))] a' → Q .normal a' w) :
    Code.wp Try.prog (hdC (nthC 5 (bodyC Try.f32))) Q a w := by
  obtain ⟨u, hu, rfl⟩ := lay220 hfr
  obtain ⟨s0, s1, s2, s3, s4, s18, s19, -⟩ := hs
  replace s0 : u 0 = .slice (some ⟨b, 0, none⟩) n c := (hu 0).symm.trans s0
  replace s1 : u 1 = .int .i64 (lo : Nat) := (hu 1).symm.trans s1
  replace s2 : u 2 = .int .i64 (m : Nat) := (hu 2).symm.trans s2
  replace s3 : u 3 = .int .i64 (hi : Nat) := (hu 3).symm.trans s3
  replace s4 : u 4 = .func (.func 27) #[] #[] := (hu 4).symm.trans s4
  replace s18 : u 18 = .int .i64 (md : Nat) := (hu 18).symm.trans s18
  replace s19 : u 19 = .int .i64 (nn : Nat) := (hu 19).symm.trans s19
  rw [s0, s1, s2, s3, s4, s18, s19]
  clear hfr hu s0 s1 s2 s3 s4 s18 s19
  conv => arg 2; whnf
  have H : Hid _ := hQ
  clear hQ
  go_wp2
  exact H.out _ ⟨rfl, rfl⟩ ⟨rfl, rfl, rfl, rfl, rfl, rfl, rfl, rfl, trivial⟩

set_option maxRecDepth 10000 in
set_option maxHeartbeats 1000000 in
theorem n28 (b n c lo m hi : Nat) (md : Nat) (nn : Nat) (st : Nat) (a : Act) (w : World) (Q : Exit → Act → World → Prop) (hfr : Fr 220 a) (hs : Slots [(0, .slice (some ⟨b, 0, none⟩) n c), (1, .int .i64 (lo : Nat)), (2, .int .i64 (m : Nat)), (3, .int .i64 (hi : Nat)), (4, .func (.func 27) #[] #[]), (18, .int .i64 (md : Nat)), (19, .int .i64 (nn : Nat))] a)
    (hst : IntKind.i64.wrap ((nn : Int) - (hi : Int)) = (st : Int)) (hQ : ∀ a', Fr 220 a' → Slots [(0, .slice (some ⟨b, 0, none⟩) n c), (1, .int .i64 (lo : Nat)), (2, .int .i64 (m : Nat)), (3, .int .i64 (hi : Nat)), (4, .func (.func 27) #[] #[]), (18, .int .i64 (md : Nat)), (19, .int .i64 (nn : Nat)), (20, .int .i64 (st : Nat)), (21, .int .i64 (md : Nat))] a' → Q .normal a' w) :
    Code.wp Try.prog (thC (tlC (nthC 5 (bodyC Try.f32)))) Q a w := by
  obtain ⟨u, hu, rfl⟩ := lay220 hfr
  obtain ⟨s0, s1, s2, s3, s4, s18, s19, -⟩ := hs
  replace s0 : u 0 = .slice (some ⟨b, 0, none⟩) n c := (hu 0).symm.trans s0
  replace s1 : u 1 = .int .i64 (lo : Nat) := (hu 1).symm.trans s1
  replace s2 : u 2 = .int .i64 (m : Nat) := (hu 2).symm.trans s2
  replace s3 : u 3 = .int .i64 (hi : Nat) := (hu 3).symm.trans s3
  replace s4 : u 4 = .func (.func 27) #[] #[] := (hu 4).symm.trans s4
  replace s18 : u 18 = .int .i64 (md : Nat) := (hu 18).symm.trans s18
  replace s19 : u 19 = .int .i64 (nn : Nat) := (hu 19).symm.trans s19
  rw [s0, s1, s2, s3, s4, s18, s19]
  clear hfr hu s0 s1 s2 s3 s4 s18 s19
  conv => arg 2; whnf
  have H : Hid _ := hQ
  clear hQ
  go_wp2
  exact H.out _ ⟨rfl, rfl⟩ ⟨rfl, rfl, rfl, rfl, rfl, rfl, rfl, rfl, rfl, trivial⟩

set_option maxRecDepth 10000 in
set_option maxHeartbeats 1000000 in
theorem n30 (b n c lo m hi : Nat) (md : Nat) (nn : Nat) (a : Act) (w : World) (Q : Exit → Act → World → Prop) (hfr : Fr 220 a) (hs : Slots [(0, .slice (some ⟨b, 0, none⟩) n c), (1, .int .i64 (lo : Nat)), (2, .int .i64 (m : Nat)), (3, .int .i64 (hi : Nat)), (4, .func (.func 27) #[] #[]), (18, .int .i64 (md : Nat)), (19, .int .i64 (nn : Nat))] a)
    (hQ : ∀ a', Fr 220 a' → Slots [(0, .slice (some ⟨b, 0, none⟩) n c), (1, .int .i64 (lo : Nat)), (2, .int .i64 (m : Nat)), (3, .int .i64 (hi : Nat)), (4, .func (.func 27) #[] #[]), (18, .int .i64 (md : Nat)), (19, .int .i64 (nn : Nat)), (20, .int .i64 (lo : Nat)), (21, .int .i64 (m : Nat))] a' → Q .normal a' w) :
    Code.wp Try.prog (elC (tlC (nthC 5 (bodyC Try.f32)))) Q a w := by
  obtain ⟨u, hu, rfl⟩ := lay220 hfr
  obtain ⟨s0, s1, s2, s3, s4, s18, s19, -⟩ := hs
  replace s0 : u 0 = .slice (some ⟨b, 0, none⟩) n c := (hu 0).symm.trans s0
  replace s1 : u 1 = .int .i64 (lo : Nat) := (hu 1).symm.trans s1
  replace s2 : u 2 = .int .i64 (m : Nat) := (hu 2).symm.trans s2
  replace s3 : u 3 = .int .i64 (hi : Nat) := (hu 3).symm.trans s3
  replace s4 : u 4 = .func (.func 27) #[] #[] := (hu 4).symm.trans s4
  replace s18 : u 18 = .int .i64 (md : Nat) := (hu 18).symm.trans s18
  replace s19 : u 19 = .int .i64 (nn : Nat) := (hu 19).symm.trans s19
  rw [s0, s1, s2, s3, s4, s18, s19]
  clear hfr hu s0 s1 s2 s3 s4 s18 s19
  conv => arg 2; whnf
  have H : Hid _ := hQ
  clear hQ
  go_wp2
  exact H.out _ ⟨rfl, rfl⟩ ⟨rfl, rfl, rfl, rfl, rfl, rfl, rfl, rfl, rfl, trivial⟩

set_option maxRecDepth 10000 in
set_option maxHeartbeats 1000000 in
theorem n32 (b n c lo m hi : Nat) (md : Nat) (nn : Nat) (st r : Nat) (p : Nat) (a : Act) (w : World) (Q : Exit → Act → World → Prop) (hfr : Fr 220 a) (hs : Slots [(0, .slice (some ⟨b, 0, none⟩) n c), (1, .int .i64 (lo : Nat)), (2, .int .i64 (m : Nat)), (3, .int .i64 (hi : Nat)), (4, .func (.func 27) #[] #[]), (18, .int .i64 (md : Nat)), (19, .int .i64 (nn : Nat)), (20, .int .i64 (st : Nat)), (21, .int .i64 (r : Nat))] a)
    (hp : IntKind.i64.wrap ((nn : Int) - 1) = (p : Int)) (hQ : ∀ a', Fr 220 a' → Slots [(0, .slice (some ⟨b, 0, none⟩) n c), (1, .int .i64 (lo : Nat)), (2, .int .i64 (m : Nat)), (3, .int .i64 (hi : Nat)), (4, .func (.func 27) #[] #[]), (18, .int .i64 (md : Nat)), (19, .int .i64 (nn : Nat)), (20, .int .i64 (st : Nat)), (21, .int .i64 (r : Nat)), (22, .int .i64 (p : Nat))] a' → Q .normal a' w) :
    Code.wp Try.prog (nthC 6 (bodyC Try.f32)) Q a w := by
  obtain ⟨u, hu, rfl⟩ := lay220 hfr
  obtain ⟨s0, s1, s2, s3, s4, s18, s19, s20, s21, -⟩ := hs
  replace s0 : u 0 = .slice (some ⟨b, 0, none⟩) n c := (hu 0).symm.trans s0
  replace s1 : u 1 = .int .i64 (lo : Nat) := (hu 1).symm.trans s1
  replace s2 : u 2 = .int .i64 (m : Nat) := (hu 2).symm.trans s2
  replace s3 : u 3 = .int .i64 (hi : Nat) := (hu 3).symm.trans s3
  replace s4 : u 4 = .func (.func 27) #[] #[] := (hu 4).symm.trans s4
  replace s18 : u 18 = .int .i64 (md : Nat) := (hu 18).symm.trans s18
  replace s19 : u 19 = .int .i64 (nn : Nat) := (hu 19).symm.trans s19
  replace s20 : u 20 = .int .i64 (st : Nat) := (hu 20).symm.trans s20
  replace s21 : u 21 = .int .i64 (r : Nat) := (hu 21).symm.trans s21
  rw [s0, s1, s2, s3, s4, s18, s19, s20, s21]
  clear hfr hu s0 s1 s2 s3 s4 s18 s19 s20 s21
  conv => arg 2; whnf
  have H : Hid _ := hQ
  clear hQ
  go_wp2
  exact H.out _ ⟨rfl, rfl⟩ ⟨rfl, rfl, rfl, rfl, rfl, rfl, rfl, rfl, rfl, rfl, trivial⟩

set_option maxRecDepth 10000 in
set_option maxHeartbeats 1000000 in
theorem n33h (b n c lo m hi : Nat) (md : Nat) (nn : Nat) (st r : Nat) (p : Nat) (a : Act) (w : World) (Q : Exit → Act → World → Prop) (hfr : Fr 220 a) (hs : Slots [(0, .slice (some ⟨b, 0, none⟩) n c), (1, .int .i64 (lo : Nat)), (2, .int .i64 (m : Nat)), (3, .int .i64 (hi : Nat)), (4, .func (.func 27) #[] #[]), (18, .int .i64 (md : Nat)), (19, .int .i64 (nn : Nat)), (20, .int .i64 (st : Nat)), (21, .int .i64 (r : Nat)), (22, .int .i64 (p : Nat))] a)
    (hQ : ∀ a', st < r → Fr 220 a' → Slots [(0, .slice (some ⟨b, 0, none⟩) n c), (1, .int .i64 (lo : Nat)), (2, .int .i64 (m : Nat)), (3, .int .i64 (hi : Nat)), (4, .func (.func 27) #[] #[]), (18, .int .i64 (md : Nat)), (19, .int .i64 (nn : Nat)), (20, .int .i64 (st : Nat)), (21, .int .i64 (r : Nat)), (22, .int .i64 (p : Nat))] a' → Q .normal a' w) (hexit : ∀ a', ¬ st < r → Fr 220 a' → Slots [(0, .slice (some ⟨b, 0, none⟩) n c), (1, .int .i64 (lo : Nat)), (2, .int .i64 (m : Nat)), (3, .int .i64 (hi : Nat)), (4, .func (.func 27) #[] #[]), (18, .int .i64 (md : Nat)), (19, .int .i64 (nn : Nat)), (20, .int .i64 (st : Nat)), (21, .int .i64 (r : Nat)), (22, .int .i64 (p : Nat))] a' → Q (.exit 8) a' w) :
    Code.wp Try.prog (hdC (inC (inC (nthC 7 (bodyC Try.f32))))) Q a w := by
  obtain ⟨u, hu, rfl⟩ := lay220 hfr
  obtain ⟨s0, s1, s2, s3, s4, s18, s19, s20, s21, s22, -⟩ := hs
  replace s0 : u 0 = .slice (some ⟨b, 0, none⟩) n c := (hu 0).symm.trans s0
  replace s1 : u 1 = .int .i64 (lo : Nat) := (hu 1).symm.trans s1
  replace s2 : u 2 = .int .i64 (m : Nat) := (hu 2).symm.trans s2
  replace s3 : u 3 = .int .i64 (hi : Nat) := (hu 3).symm.trans s3
  replace s4 : u 4 = .func (.func 27) #[] #[] := (hu 4).symm.trans s4
  replace s18 : u 18 = .int .i64 (md : Nat) := (hu 18).symm.trans s18
  replace s19 : u 19 = .int .i64 (nn : Nat) := (hu 19).symm.trans s19
  replace s20 : u 20 = .int .i64 (st : Nat) := (hu 20).symm.trans s20
  replace s21 : u 21 = .int .i64 (r : Nat) := (hu 21).symm.trans s21
  replace s22 : u 22 = .int .i64 (p : Nat) := (hu 22).symm.trans s22
  rw [s0, s1, s2, s3, s4, s18, s19, s20, s21, s22]
  clear hfr hu s0 s1 s2 s3 s4 s18 s19 s20 s21 s22
  conv => arg 2; whnf
  have H : Hid _ := hQ
  have HX : Hid _ := hexit
  clear hQ hexit
  by_cases hlt : st < r
  · have l : (st : Int) < r := by omega
    go_wp2
    exact H.out _ hlt ⟨rfl, rfl⟩ ⟨rfl, rfl, rfl, rfl, rfl, rfl, rfl, rfl, rfl, rfl, trivial⟩
  · have l : ¬ ((st : Int) < r) := by omega
    go_wp2
    exact HX.out _ hlt ⟨rfl, rfl⟩ ⟨rfl, rfl, rfl, rfl, rfl, rfl, rfl, rfl, rfl, rfl, trivial⟩

set_option maxRecDepth 10000 in
set_option maxHeartbeats 1000000 in
theorem n34 (b n c lo m hi : Nat) (md : Nat) (nn : Nat) (st r : Nat) (p : Nat) (x : Nat) (a : Act) (w : World) (Q : Exit → Act → World → Prop) (hfr : Fr 220 a) (hs : Slots [(0, .slice (some ⟨b, 0, none⟩) n c), (1, .int .i64 (lo : Nat)), (2, .int .i64 (m : Nat)), (3, .int .i64 (hi : Nat)), (4, .func (.func 27) #[] #[]), (18, .int .i64 (md : Nat)), (19, .int .i64 (nn : Nat)), (20, .int .i64 (st : Nat)), (21, .int .i64 (r : Nat)), (22, .int .i64 (p : Nat))] a)
    (hh : x = (st + r) / 2) (li : st ≤ 4096) (lj : r ≤ 4096) (hQ : ∀ a', Fr 220 a' → Slots [(0, .slice (some ⟨b, 0, none⟩) n c), (1, .int .i64 (lo : Nat)), (2, .int .i64 (m : Nat)), (3, .int .i64 (hi : Nat)), (4, .func (.func 27) #[] #[]), (18, .int .i64 (md : Nat)), (19, .int .i64 (nn : Nat)), (20, .int .i64 (st : Nat)), (21, .int .i64 (r : Nat)), (22, .int .i64 (p : Nat)), (23, .int .i64 (x : Nat))] a' → Q .normal a' w) :
    Code.wp Try.prog (nthC 0 (inC (tlC (inC (inC (nthC 7 (bodyC Try.f32))))))) Q a w := by
  obtain ⟨u, hu, rfl⟩ := lay220 hfr
  obtain ⟨s0, s1, s2, s3, s4, s18, s19, s20, s21, s22, -⟩ := hs
  replace s0 : u 0 = .slice (some ⟨b, 0, none⟩) n c := (hu 0).symm.trans s0
  replace s1 : u 1 = .int .i64 (lo : Nat) := (hu 1).symm.trans s1
  replace s2 : u 2 = .int .i64 (m : Nat) := (hu 2).symm.trans s2
  replace s3 : u 3 = .int .i64 (hi : Nat) := (hu 3).symm.trans s3
  replace s4 : u 4 = .func (.func 27) #[] #[] := (hu 4).symm.trans s4
  replace s18 : u 18 = .int .i64 (md : Nat) := (hu 18).symm.trans s18
  replace s19 : u 19 = .int .i64 (nn : Nat) := (hu 19).symm.trans s19
  replace s20 : u 20 = .int .i64 (st : Nat) := (hu 20).symm.trans s20
  replace s21 : u 21 = .int .i64 (r : Nat) := (hu 21).symm.trans s21
  replace s22 : u 22 = .int .i64 (p : Nat) := (hu 22).symm.trans s22
  rw [s0, s1, s2, s3, s4, s18, s19, s20, s21, s22]
  clear hfr hu s0 s1 s2 s3 s4 s18 s19 s20 s21 s22
  conv => arg 2; whnf
  have e1 : IntKind.i64.wrap ((st : Int) + (r : Int)) = ((st + r : Nat) : Int) := by rw [IntKind.wrap_i64]; omega
  have e2 : IntKind.u64.wrap ((st + r : Nat) : Int) = ((st + r : Nat) : Int) := by rw [IntKind.wrap_u64]; omega
  have e3 : ((st + r : Nat) : Int) / 2 = (x : Int) := by omega
  have e4 : IntKind.u64.wrap (x : Int) = (x : Int) := by rw [IntKind.wrap_u64]; omega
  have e5 : IntKind.i64.wrap (x : Int) = (x : Int) := by rw [IntKind.wrap_i64]; omega
  clear hh li lj
  generalize st + r = ij at *
  have H : Hid _ := hQ
  clear hQ
  go_wp2
  exact H.out _ ⟨rfl, rfl⟩ ⟨rfl, rfl, rfl, rfl, rfl, rfl, rfl, rfl, rfl, rfl, rfl, trivial⟩

set_option maxRecDepth 10000 in
set_option maxHeartbeats 1000000 in
theorem n36 (b n c lo m hi : Nat) (md : Nat) (nn : Nat) (st r : Nat) (p : Nat) (x : Nat) (a : Act) (w : World) (Q : Exit → Act → World → Prop) (hfr : Fr 220 a) (hs : Slots [(0, .slice (some ⟨b, 0, none⟩) n c), (1, .int .i64 (lo : Nat)), (2, .int .i64 (m : Nat)), (3, .int .i64 (hi : Nat)), (4, .func (.func 27) #[] #[]), (18, .int .i64 (md : Nat)), (19, .int .i64 (nn : Nat)), (20, .int .i64 (st : Nat)), (21, .int .i64 (r : Nat)), (22, .int .i64 (p : Nat)), (23, .int .i64 (x : Nat))] a)
    (hk : (x : Int) ≤ 8192) (hQ : ∀ a', Fr 220 a' → Slots [(0, .slice (some ⟨b, 0, none⟩) n c), (1, .int .i64 (lo : Nat)), (2, .int .i64 (m : Nat)), (3, .int .i64 (hi : Nat)), (4, .func (.func 27) #[] #[]), (18, .int .i64 (md : Nat)), (19, .int .i64 (nn : Nat)), (20, .int .i64 (x + 1 : Nat)), (21, .int .i64 (r : Nat)), (22, .int .i64 (p : Nat))] a' → Q .normal a' w) :
    Code.wp Try.prog (thC (dropC 2 (inC (tlC (inC (inC (nthC 7 (bodyC Try.f32)))))))) Q a w := by
  obtain ⟨u, hu, rfl⟩ := lay220 hfr
  obtain ⟨s0, s1, s2, s3, s4, s18, s19, s20, s21, s22, s23, -⟩ := hs
  replace s0 : u 0 = .slice (some ⟨b, 0, none⟩) n c := (hu 0).symm.trans s0
  replace s1 : u 1 = .int .i64 (lo : Nat) := (hu 1).symm.trans s1
  replace s2 : u 2 = .int .i64 (m : Nat) := (hu 2).symm.trans s2
  replace s3 : u 3 = .int .i64 (hi : Nat) := (hu 3).symm.trans s3
  replace s4 : u 4 = .func (.func 27) #[] #[] := (hu 4).symm.trans s4
  replace s18 : u 18 = .int .i64 (md : Nat) := (hu 18).symm.trans s18
  replace s19 : u 19 = .int .i64 (nn : Nat) := (hu 19).symm.trans s19
  replace s20 : u 20 = .int .i64 (st : Nat) := (hu 20).symm.trans s20
  replace s21 : u 21 = .int .i64 (r : Nat) := (hu 21).symm.trans s21
  replace s22 : u 22 = .int .i64 (p : Nat) := (hu 22).symm.trans s22
  replace s23 : u 23 = .int .i64 (x : Nat) := (hu 23).symm.trans s23
  rw [s0, s1, s2, s3, s4, s18, s19, s20, s21, s22, s23]
  clear hfr hu s0 s1 s2 s3 s4 s18 s19 s20 s21 s22 s23
  conv => arg 2; whnf
  have H : Hid _ := hQ
  clear hQ
  go_wp2
  exact H.out _ ⟨rfl, rfl⟩ ⟨rfl, rfl, rfl, rfl, rfl, rfl, rfl, rfl, rfl, rfl, trivial⟩

set_option maxRecDepth 10000 in
set_option maxHeartbeats 1000000 in
theorem n37 (b n c lo m hi : Nat) (md : Nat) (nn : Nat) (st r : Nat) (p : Nat) (x : Nat) (a : Act) (w : World) (Q : Exit → Act → World → Prop) (hfr : Fr 220 a) (hs : Slots [(0, .slice (some ⟨b, 0, none⟩) n c), (1, .int .i64 (lo : Nat)), (2, .int .i64 (m : Nat)), (3, .int .i64 (hi : Nat)), (4, .func (.func 27) #[] #[]), (18, .int .i64 (md : Nat)), (19, .int .i64 (nn : Nat)), (20, .int .i64 (st : Nat)), (21, .int .i64 (r : Nat)), (22, .int .i64 (p : Nat)), (23, .int .i64 (x : Nat))] a)
    (hQ : ∀ a', Fr 220 a' → Slots [(0, .slice (some ⟨b, 0, none⟩) n c), (1, .int .i64 (lo : Nat)), (2, .int .i64 (m : Nat)), (3, .int .i64 (hi : Nat)), (4, .func (.func 27) #[] #[]), (18, .int .i64 (md : Nat)), (19, .int .i64 (nn : Nat)), (20, .int .i64 (st : Nat)), (21, .int .i64 (x : Nat)), (22, .int .i64 (p : Nat))] a' → Q .normal a' w) :
    Code.wp Try.prog (elC (dropC 2 (inC (tlC (inC (inC (nthC 7 (bodyC Try.f32)))))))) Q a w := by
  obtain ⟨u, hu, rfl⟩ := lay220 hfr
  obtain ⟨s0, s1, s2, s3, s4, s18, s19, s20, s21, s22, s23, -⟩ := hs
  replace s0 : u 0 = .slice (some ⟨b, 0, none⟩) n c := (hu 0).symm.trans s0
  replace s1 : u 1 = .int .i64 (lo : Nat) := (hu 1).symm.trans s1
  replace s2 : u 2 = .int .i64 (m : Nat) := (hu 2).symm.trans s2
  replace s3 : u 3 = .int .i64 (hi : Nat) := (hu 3).symm.trans s3
  replace s4 : u 4 = .func (.func 27) #[] #[] := (hu 4).symm.trans s4
  replace s18 : u 18 = .int .i64 (md : Nat) := (hu 18).symm.trans s18
  replace s19 : u 19 = .int .i64 (nn : Nat) := (hu 19).symm.trans s19
  replace s20 : u 20 = .int .i64 (st : Nat) := (hu 20).symm.trans s20
  replace s21 : u 21 = .int .i64 (r : Nat) := (hu 21).symm.trans s21
  replace s22 : u 22 = .int .i64 (p : Nat) := (hu 22).symm.trans s22
  replace s23 : u 23 = .int .i64 (x : Nat) := (hu 23).symm.trans s23
  rw [s0, s1, s2, s3, s4, s18, s19, s20, s21, s22, s23]
  clear hfr hu s0 s1 s2 s3 s4 s18 s19 s20 s21 s22 s23
  conv => arg 2; whnf
  have H : Hid _ := hQ
  clear hQ
  go_wp2
  exact H.out _ ⟨rfl, rfl⟩ ⟨rfl, rfl, rfl, rfl, rfl, rfl, rfl, rfl, rfl, rfl, trivial⟩

set_option maxRecDepth 10000 in
set_option maxHeartbeats 1000000 in
theorem n38 (b n c lo m hi : Nat) (md : Nat) (nn : Nat) (st en : Nat) (a : Act) (w : World) (Q : Exit → Act → World → Prop) (hfr : Fr 220 a) (hs : Slots [(0, .slice (some ⟨b, 0, none⟩) n c), (1, .int .i64 (lo : Nat)), (2, .int .i64 (m : Nat)), (3, .int .i64 (hi : Nat)), (4, .func (.func 27) #[] #[]), (18, .int .i64 (md : Nat)), (19, .int .i64 (nn : Nat)), (20, .int .i64 (st : Nat))] a)
    (hen : IntKind.i64.wrap ((nn : Int) - (st : Int)) = (en : Int)) (hQ : ∀ a', Fr 220 a' → Slots [(0, .slice (some ⟨b, 0, none⟩) n c), (1, .int .i64 (lo : Nat)), (2, .int .i64 (m : Nat)), (3, .int .i64 (hi : Nat)), (4, .func (.func 27) #[] #[]), (18, .int .i64 (md : Nat)), (20, .int .i64 (st : Nat)), (24, .int .i64 (en : Nat))] a' → Q .normal a' w) :
    Code.wp Try.prog (nthC 8 (bodyC Try.f32)) Q a w := by
  obtain ⟨u, hu, rfl⟩ := lay220 hfr
  obtain ⟨s0, s1, s2, s3, s4, s18, s19, s20, -⟩ := hs
  replace s0 : u 0 = .slice (some ⟨b, 0, none⟩) n c := (hu 0).symm.trans s0
  replace s1 : u 1 = .int .i64 (lo : Nat) := (hu 1).symm.trans s1
  replace s2 : u 2 = .int .i64 (m : Nat) := (hu 2).symm.trans s2
  replace s3 : u 3 = .int .i64 (hi : Nat) := (hu 3).symm.trans s3
  replace s4 : u 4 = .func (.func 27) #[] #[] := (hu 4).symm.trans s4
  replace s18 : u 18 = .int .i64 (md : Nat) := (hu 18).symm.trans s18
  replace s19 : u 19 = .int .i64 (nn : Nat) := (hu 19).symm.trans s19
  replace s20 : u 20 = .int .i64 (st : Nat) := (hu 20).symm.trans s20
  rw [s0, s1, s2, s3, s4, s18, s19, s20]
  clear hfr hu s0 s1 s2 s3 s4 s18 s19 s20
  conv => arg 2; whnf
  have H : Hid _ := hQ
  clear hQ
  go_wp2
  exact H.out _ ⟨rfl, rfl⟩ ⟨rfl, rfl, rfl, rfl, rfl, rfl, rfl, rfl, trivial⟩

set_option maxRecDepth 10000 in
set_option maxHeartbeats 1000000 in
theorem n39 (b n c lo m hi : Nat) (md : Nat) (st en : Nat) (a : Act) (w : World) (Q : Exit → Act → World → Prop) (hfr : Fr 220 a) (hs : Slots [(0, .slice (some ⟨b, 0, none⟩) n c), (1, .int .i64 (lo : Nat)), (2, .int .i64 (m : Nat)), (3, .int .i64 (hi : Nat)), (4, .func (.func 27) #[] #[]), (18, .int .i64 (md : Nat)), (20, .int .i64 (st : Nat)), (24, .int .i64 (en : Nat))] a)
    (hQ : ∀ a', Fr 220 a' → Slots [(0, .slice (some ⟨b, 0, none⟩) n c), (1, .int .i64 (lo : Nat)), (2, .int .i64 (m : Nat)), (3, .int .i64 (hi : Nat)), (4, .func (.func 27) #[] #[]), (18, .int .i64 (md : Nat)), (20, .int .i64 (st : Nat)), (24, .int .i64 (en : Nat)), (185, .bool (decide (st < m) && decide (m < en)))] a' → Q .normal a' w) :
    Code.wp Try.prog (hdC (nthC 9 (bodyC Try.f32))) Q a w := by
  obtain ⟨u, hu, rfl⟩ := lay220 hfr
  obtain ⟨s0, s1, s2, s3, s4, s18, s20, s24, -⟩ := hs
  replace s0 : u 0 = .slice (some ⟨b, 0, none⟩) n c := (hu 0).symm.trans s0
  replace s1 : u 1 = .int .i64 (lo : Nat) := (hu 1).symm.trans s1
  replace s2 : u 2 = .int .i64 (m : Nat) := (hu 2).symm.trans s2
  replace s3 : u 3 = .int .i64 (hi : Nat) := (hu 3).symm.trans s3
  replace s4 : u 4 = .func (.func 27) #[] #[] := (hu 4).symm.trans s4
  replace s18 : u 18 = .int .i64 (md : Nat) := (hu 18).symm.trans s18
  replace s20 : u 20 = .int .i64 (st : Nat) := (hu 20).symm.trans s20
  replace s24 : u 24 = .int .i64 (en : Nat) := (hu 24).symm.trans s24
  rw [s0, s1, s2, s3, s4, s18, s20, s24]
  clear hfr hu s0 s1 s2 s3 s4 s18 s20 s24
  conv => arg 2; whnf
  have H : Hid _ := hQ
  clear hQ
  by_cases h1 : st < m
  · have l1 : (st : Int) < m := by omega
    have d1 : decide (st < m) = true := by simpa using h1
    by_cases h2 : m < en
    · have l2 : (m : Int) < en := by omega
      have d2 : decide (m < en) = true := by simpa using h2
      rw [d1, d2] at H
      clear h1 h2 d1 d2
      go_wp2
      exact H.out _ ⟨rfl, rfl⟩ ⟨rfl, rfl, rfl, rfl, rfl, rfl, rfl, rfl, rfl, trivial⟩
    · have l2 : ¬ ((m : Int) < en) := by omega
      have d2 : decide (m < en) = false := by simpa using h2
      rw [d1, d2] at H
      clear h1 h2 d1 d2
      go_wp2
      exact H.out _ ⟨rfl, rfl⟩ ⟨rfl, rfl, rfl, rfl, rfl, rfl, rfl, rfl, rfl, trivial⟩
  · have l1 : ¬ ((st : Int) < m) := by omega
    have d1 : decide (st < m) = false := by simpa using h1
    rw [d1, Bool.false_and] at H
    clear h1 d1
    go_wp2
    exact H.out _ ⟨rfl, rfl⟩ ⟨rfl, rfl, rfl, rfl, rfl, rfl, rfl, rfl, rfl, trivial⟩

set_option maxRecDepth 10000 in
set_option maxHeartbeats 1000000 in
theorem n40 (b n c lo m hi : Nat) (md : Nat) (st en : Nat) (G : World → Prop) (a : Act) (w : World) (Q : Exit → Act → World → Prop) (hfr : Fr 220 a) (hs : Slots [(0, .slice (some ⟨b, 0, none⟩) n c), (1, .int .i64 (lo : Nat)), (2, .int .i64 (m : Nat)), (3, .int .i64 (hi : Nat)), (4, .func (.func 27) #[] #[]), (18, .int .i64 (md : Nat)), (20, .int .i64 (st : Nat)), (24, .int .i64 (en : Nat))] a)
    (hcall : Calls Try.prog 34 #[.slice (some ⟨b, 0, none⟩) n c, .int .i64 (st : Nat), .int .i64 (m : Nat), .int .i64 (en : Nat), .func (.func 27) #[] #[]] w fun e w' => e = .returned (.tuple #[]) ∧ G w') (hQ : ∀ a' w', G w' → Fr 220 a' → Slots [(0, .slice (some ⟨b, 0, none⟩) n c), (1, .int .i64 (lo : Nat)), (2, .int .i64 (m : Nat)), (3, .int .i64 (hi : Nat)), (4, .func (.func 27) #[] #[]), (18, .int .i64 (md : Nat)), (20, .int .i64 (st : Nat)), (24, .int .i64 (en : Nat))] a' → Q .normal a' w') :
    Code.wp Try.prog (thC (tlC (nthC 9 (bodyC Try.f32)))) Q a w := by
  obtain ⟨u, hu, rfl⟩ := lay220 hfr
  obtain ⟨s0, s1, s2, s3, s4, s18, s20, s24, -⟩ := hs
  replace s0 : u 0 = .slice (some ⟨b, 0, none⟩) n c := (hu 0).symm.trans s0
  replace s1 : u 1 = .int .i64 (lo : Nat) := (hu 1).symm.trans s1
  replace s2 : u 2 = .int .i64 (m : Nat) := (hu 2).symm.trans s2
  replace s3 : u 3 = .int .i64 (hi : Nat) := (hu 3).symm.trans s3
  replace s4 : u 4 = .func (.func 27) #[] #[] := (hu 4).symm.trans s4
  replace s18 : u 18 = .int .i64 (md : Nat) := (hu 18).symm.trans s18
  replace s20 : u 20 = .int .i64 (st : Nat) := (hu 20).symm.trans s20
  replace s24 : u 24 = .int .i64 (en : Nat) := (hu 24).symm.trans s24
  rw [s0, s1, s2, s3, s4, s18, s20, s24]
  clear hfr hu s0 s1 s2 s3 s4 s18 s20 s24
  conv => arg 2; whnf
  have HC : Hid _ := hcall
  clear hcall
  have H : Hid _ := hQ
  clear hQ
  go_wp2_with (go_at_call 34; refine Calls.mono HC.out ?_; rintro e w' ⟨rfl, hG⟩)
  exact H.out _ _ hG ⟨rfl, rfl⟩ ⟨rfl, rfl, rfl, rfl, rfl, rfl, rfl, rfl, trivial⟩

set_option maxRecDepth 10000 in
set_option maxHeartbeats 1000000 in
theorem n41 (b n c lo m hi : Nat) (md : Nat) (st en : Nat) (a : Act) (w : World) (Q : Exit → Act → World → Prop) (hfr : Fr 220 a) (hs : Slots [(0, .slice (some ⟨b, 0, none⟩) n c), (1, .int .i64 (lo : Nat)), (2, .int .i64 (m : Nat)), (3, .int .i64 (hi : Nat)), (4, .func (.func 27) #[] #[]), (18, .int .i64 (md : Nat)), (20, .int .i64 (st : Nat)), (24, .int .i64 (en : Nat))] a)
    (hQ : ∀ a', Fr 220 a' → Slots [(0, .slice (some ⟨b, 0, none⟩) n c), (1, .int .i64 (lo : Nat)), (2, .int .i64 (m : Nat)), (3, .int .i64 (hi : Nat)), (4, .func (.func 27) #[] #[]), (18, .int .i64 (md : Nat)), (20, .int .i64 (st : Nat)), (24, .int .i64 (en : Nat)), (199, .bool (decide (lo < st) && decide (st < md)))] a' → Q .normal a' w) :
    Code.wp Try.prog (hdC (nthC 10 (bodyC Try.f32))) Q a w := by
  obtain ⟨u, hu, rfl⟩ := lay220 hfr
  obtain ⟨s0, s1, s2, s3, s4, s18, s20, s24, -⟩ := hs
  replace s0 : u 0 = .slice (some ⟨b, 0, none⟩) n c := (hu 0).symm.trans s0
  replace s1 : u 1 = .int .i64 (lo : Nat) := (hu 1).symm.trans s1
  replace s2 : u 2 = .int .i64 (m : Nat) := (hu 2).symm.trans s2
  replace s3 : u 3 = .int .i64 (hi : Nat) := (hu 3).symm.trans s3
  replace s4 : u 4 = .func (.func 27) #[] #[] := (hu 4).symm.trans s4
  replace s18 : u 18 = .int .i64 (md : Nat) := (hu 18).symm.trans s18
  replace s20 : u 20 = .int .i64 (st : Nat) := (hu 20).symm.trans s20
  replace s24 : u 24 = .int .i64 (en : Nat) := (hu 24).symm.trans s24
  rw [s0, s1, s2, s3, s4, s18, s20, s24]
  clear hfr hu s0 s1 s2 s3 s4 s18 s20 s24
  conv => arg 2; whnf
  have H : Hid _ := hQ
  clear hQ
  by_cases h1 : lo < st
  · have l1 : (lo : Int) < st := by omega
    have d1 : decide (lo < st) = true := by simpa using h1
    by_cases h2 : st < md
    · have l2 : (st : Int) < md := by omega
      have d2 : decide (st < md) = true := by simpa using h2
      rw [d1, d2] at H
      clear h1 h2 d1 d2
      go_wp2
      exact H.out _ ⟨rfl, rfl⟩ ⟨rfl, rfl, rfl, rfl, rfl, rfl, rfl, rfl, rfl, trivial⟩
    · have l2 : ¬ ((st : Int) < md) := by omega
      have d2 : decide (st < md) = false := by simpa using h2
      rw [d1, d2] at H
      clear h1 h2 d1 d2
      go_wp2
      exact H.out _ ⟨rfl, rfl⟩ ⟨rfl, rfl, rfl, rfl, rfl, rfl, rfl, rfl, rfl, trivial⟩
  · have l1 : ¬ ((lo : Int) < st) := by omega
    have d1 : decide (lo < st) = false := by simpa using h1
    rw [d1, Bool.false_and] at H
    clear h1 d1
    go_wp2
    exact H.out _ ⟨rfl, rfl⟩ ⟨rfl, rfl, rfl, rfl, rfl, rfl, rfl, rfl, rfl, trivial⟩

set_option maxRecDepth 10000 in
set_option maxHeartbeats 1000000 in
theorem n42 (b n c lo m hi : Nat) (md : Nat) (st en : Nat) (G : World → Prop) (a : Act) (w : World) (Q : Exit → Act → World → Prop) (hfr : Fr 220 a) (hs : Slots [(0, .slice (some ⟨b, 0, none⟩) n c), (1, .int .i64 (lo : Nat)), (2, .int .i64 (m : Nat)), (3, .int .i64 (hi : Nat)), (4, .func (.func 27) #[] #[]), (18, .int .i64 (md : Nat)), (20, .int .i64 (st : Nat)), (24, .int .i64 (en : Nat))] a)
    (hcall : Calls Try.prog 32 #[.slice (some ⟨b, 0, none⟩) n c, .int .i64 (lo : Nat), .int .i64 (st : Nat), .int .i64 (md : Nat), .func (.func 27) #[] #[]] w fun e w' => e = .returned (.tuple #[]) ∧ G w') (hQ : ∀ a' w', G w' → Fr 220 a' → Slots [(0, .slice (some ⟨b, 0, none⟩) n c), (1, .int .i64 (lo : Nat)), (2, .int .i64 (m : Nat)), (3, .int .i64 (hi : Nat)), (4, .func (.func 27) #[] #[]), (18, .int .i64 (md : Nat)), (20, .int .i64 (st : Nat)), (24, .int .i64 (en : Nat))] a' → Q .normal a' w') :
    Code.wp Try.prog (thC (tlC (nthC 10 (bodyC Try.f32)))) Q a w := by
  obtain ⟨u, hu, rfl⟩ := lay220 hfr
  obtain ⟨s0, s1, s2, s3, s4, s18, s20, s24, -⟩ := hs
  replace s0 : u 0 = .slice (some ⟨b, 0, none⟩) n c := (hu 0).symm.trans s0
  replace s1 : u 1 = .int .i64 (lo : Nat) := (hu 1).symm.trans s1
  replace s2 : u 2 = .int .i64 (m : Nat) := (hu 2).symm.trans s2
  replace s3 : u 3 = .int .i64 (hi : Nat) := (hu 3).symm.trans s3
  replace s4 : u 4 = .func (.func 27) #[] #[] := (hu 4).symm.trans s4
  replace s18 : u 18 = .int .i64 (md : Nat) := (hu 18).symm.trans s18
  replace s20 : u 20 = .int .i64 (st : Nat) := (hu 20).symm.trans s20
  replace s24 : u 24 = .int .i64 (en : Nat) := (hu 24).symm.trans s24
  rw [s0, s1, s2, s3, s4, s18, s20, s24]
  clear hfr hu s0 s1 s2 s3 s4 s18 s20 s24
  conv => arg 2; whnf
  have HC : Hid _ := hcall
  clear hcall
  have H : Hid _ := hQ
  clear hQ
  go_wp2_with (go_at_call 32; refine Calls.mono HC.out ?_; rintro e w' ⟨rfl, hG⟩)
  exact H.out _ _ hG ⟨rfl, rfl⟩ ⟨rfl, rfl, rfl, rfl, rfl, rfl, rfl, rfl, trivial⟩

set_option maxRecDepth 10000 in
set_option maxHeartbeats 1000000 in
theorem n43 (b n c lo m hi : Nat) (md : Nat) (st en : Nat) (a : Act) (w : World) (Q : Exit → Act → World → Prop) (hfr : Fr 220 a) (hs : Slots [(0, .slice (some ⟨b, 0, none⟩) n c), (1, .int .i64 (lo : Nat)), (2, .int .i64 (m : Nat)), (3, .int .i64 (hi : Nat)), (4, .func (.func 27) #[] #[]), (18, .int .i64 (md : Nat)), (20, .int .i64 (st : Nat)), (24, .int .i64 (en : Nat))] a)
    (hQ : ∀ a', Fr 220 a' → Slots [(0, .slice (some ⟨b, 0, none⟩) n c), (1, .int .i64 (lo : Nat)), (2, .int .i64 (m : Nat)), (3, .int .i64 (hi : Nat)), (4, .func (.func 27) #[] #[]), (18, .int .i64 (md : Nat)), (20, .int .i64 (st : Nat)), (24, .int .i64 (en : Nat)), (213, .bool (decide (md < en) && decide (en < hi)))] a' → Q .normal a' w) :
    Code.wp Try.prog (hdC (dropC 11 (bodyC Try.f32))) Q a w := by
  obtain ⟨u, hu, rfl⟩ := lay220 hfr
  obtain ⟨s0, s1, s2, s3, s4, s18, s20, s24, -⟩ := hs
  replace s0 : u 0 = .slice (some ⟨b, 0, none⟩) n c := (hu 0).symm.trans s0
  replace s1 : u 1 = .int .i64 (lo : Nat) := (hu 1).symm.trans s1
  replace s2 : u 2 = .int .i64 (m : Nat) := (hu 2).symm.trans s2
  replace s3 : u 3 = .int .i64 (hi : Nat) := (hu 3).symm.trans s3
  replace s4 : u 4 = .func (.func 27) #[] #[] := (hu 4).symm.trans s4
  replace s18 : u 18 = .int .i64 (md : Nat) := (hu 18).symm.trans s18
  replace s20 : u 20 = .int .i64 (st : Nat) := (hu 20).symm.trans s20
  replace s24 : u 24 = .int .i64 (en : Nat) := (hu 24).symm.trans s24
  rw [s0, s1, s2, s3, s4, s18, s20, s24]
  clear hfr hu s0 s1 s2 s3 s4 s18 s20 s24
  conv => arg 2; whnf
  have H : Hid _ := hQ
  clear hQ
  by_cases h1 : md < en
  · have l1 : (md : Int) < en := by omega
    have d1 : decide (md < en) = true := by simpa using h1
    by_cases h2 : en < hi
    · have l2 : (en : Int) < hi := by omega
      have d2 : decide (en < hi) = true := by simpa using h2
      rw [d1, d2] at H
      clear h1 h2 d1 d2
      go_wp2
      exact H.out _ ⟨rfl, rfl⟩ ⟨rfl, rfl, rfl, rfl, rfl, rfl, rfl, rfl, rfl, trivial⟩
    · have l2 : ¬ ((en : Int) < hi) := by omega
      have d2 : decide (en < hi) = false := by simpa using h2
      rw [d1, d2] at H
      clear h1 h2 d1 d2
      go_wp2
      exact H.out _ ⟨rfl, rfl⟩ ⟨rfl, rfl, rfl, rfl, rfl, rfl, rfl, rfl, rfl, trivial⟩
  · have l1 : ¬ ((md : Int) < en) := by omega
    have d1 : decide (md < en) = false := by simpa using h1
    rw [d1, Bool.false_and] at H
    clear h1 d1
    go_wp2
    exact H.out _ ⟨rfl, rfl⟩ ⟨rfl, rfl, rfl, rfl, rfl, rfl, rfl, rfl, rfl, trivial⟩

set_option maxRecDepth 10000 in
set_option maxHeartbeats 1000000 in
theorem n44 (b n c lo m hi : Nat) (md : Nat) (st en : Nat) (G : World → Prop) (a : Act) (w : World) (Q : Exit → Act → World → Prop) (hfr : Fr 220 a) (hs : Slots [(0, .slice (some ⟨b, 0, none⟩) n c), (1, .int .i64 (lo : Nat)), (2, .int .i64 (m : Nat)), (3, .int .i64 (hi : Nat)), (4, .func (.func 27) #[] #[]), (18, .int .i64 (md : Nat)), (20, .int .i64 (st : Nat)), (24, .int .i64 (en : Nat))] a)
    (hcall : Calls Try.prog 32 #[.slice (some ⟨b, 0, none⟩) n c, .int .i64 (md : Nat), .int .i64 (en : Nat), .int .i64 (hi : Nat), .func (.func 27) #[] #[]] w fun e w' => e = .returned (.tuple #[]) ∧ G w') (hQ : ∀ a' w', G w' → Fr 220 a' → Slots [(0, .slice (some ⟨b, 0, none⟩) n c), (1, .int .i64 (lo : Nat)), (2, .int .i64 (m : Nat)), (3, .int .i64 (hi : Nat)), (4, .func (.func 27) #[] #[]), (18, .int .i64 (md : Nat)), (20, .int .i64 (st : Nat)), (24, .int .i64 (en : Nat))] a' → Q .normal a' w') :
    Code.wp Try.prog (thC (tlC (dropC 11 (bodyC Try.f32)))) Q a w := by
  obtain ⟨u, hu, rfl⟩ := lay220 hfr
  obtain ⟨s0, s1, s2, s3, s4, s18, s20, s24, -⟩ := hs
  replace s0 : u 0 = .slice (some ⟨b, 0, none⟩) n c := (hu 0).symm.trans s0
  replace s1 : u 1 = .int .i64 (lo : Nat) := (hu 1).symm.trans s1
  replace s2 : u 2 = .int .i64 (m : Nat) := (hu 2).symm.trans s2
  replace s3 : u 3 = .int .i64 (hi : Nat) := (hu 3).symm.trans s3
  replace s4 : u 4 = .func (.func 27) #[] #[] := (hu 4).symm.trans s4
  replace s18 : u 18 = .int .i64 (md : Nat) := (hu 18).symm.trans s18
  replace s20 : u 20 = .int .i64 (st : Nat) := (hu 20).symm.trans s20
  replace s24 : u 24 = .int .i64 (en : Nat) := (hu 24).symm.trans s24
  rw [s0, s1, s2, s3, s4, s18, s20, s24]
  clear hfr hu s0 s1 s2 s3 s4 s18 s20 s24
  conv => arg 2; whnf
  have HC : Hid _ := hcall
  clear hcall
  have H : Hid _ := hQ
  clear hQ
  go_wp2_with (go_at_call 32; refine Calls.mono HC.out ?_; rintro e w' ⟨rfl, hG⟩)
  exact H.out _ _ hG ⟨rfl, rfl⟩ ⟨rfl, rfl, rfl, rfl, rfl, rfl, rfl, rfl, trivial⟩

end Go.Proofs.Qxb6601010a
