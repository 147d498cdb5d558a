import Derived.Test.Qxb6601010aU2
namespace Go.Proofs.Qxb6601010a
open Go.RowKit
set_option linter.unusedSimpArgs false
set_option linter.unusedVariables false

set_option maxRecDepth 10000 in
set_option maxHeartbeats 1000000 in
theorem m0 (b n c lo m hi : Nat) (d : Nat) (a : Act) (w : World) (Q : Exit → Act → World → Prop) (hfr : Fr 220 a) (hs : Slots [(0, .slice (some ⟨b, 0, none⟩) n c), (1, .int .i64 (lo : Nat)), (2, .int .i64 (m : Nat)), (3, .int .i64 (hi : Nat)), (4, .func (.func 27) #[] #[])] a)
    (hd : IntKind.i64.wrap ((m : Int) - (lo : Int)) = (d : Int)) (hQ : ∀ a', Fr 220 a' → Slots [(0, .slice (some ⟨b, 0, none⟩) n c), (1, .int .i64 (lo : Nat)), (2, .int .i64 (m : Nat)), (3, .int .i64 (hi : Nat)), (4, .func (.func 27) #[] #[]), (28, .bool (decide (d = 1)))] a' → Q .normal a' w) :
    Code.wp Try.prog (hdC (hdC (bodyC Try.f32))) Q a w := by
  obtain ⟨u, hu, rfl⟩ := lay220 hfr
  obtain ⟨s0, s1, s2, s3, s4, -⟩ := hs
  replace s0 : u 0 = .slice (some ⟨b, 0, none⟩) n c := (hu 0).symm.trans s0
  replace s1 : u 1 = .int .i64 (lo : Nat) := (hu 1).symm.trans s1
  replace s2 : u 2 = .int .i64 (m : Nat) := (hu 2).symm.trans s2
  replace s3 : u 3 = .int .i64 (hi : Nat) := (hu 3).symm.trans s3
  replace s4 : u 4 = .func (.func 27) #[] #[] := (hu 4).symm.trans s4
  rw [s0, s1, s2, s3, s4]
  clear hfr hu s0 s1 s2 s3 s4
  conv => arg 2; whnf
  have H : Hid _ := hQ
  clear hQ
  by_cases h : d = 1
  · subst h
    go_wp2
    exact H.out _ ⟨rfl, rfl⟩ ⟨rfl, rfl, rfl, rfl, rfl, rfl, trivial⟩
  · have g : ((d : Int) == 1) = false := by simp; omega
    have g1 : decide (d = 1) = false := by simpa using h
    rw [g1] at H
    clear h g1
    go_wp2
    exact H.out _ ⟨rfl, rfl⟩ ⟨rfl, rfl, rfl, rfl, rfl, rfl, trivial⟩

set_option maxRecDepth 10000 in
set_option maxHeartbeats 1000000 in
theorem m1 (b n c lo m hi : Nat) (a : Act) (w : World) (Q : Exit → Act → World → Prop) (hfr : Fr 220 a) (hs : Slots [(0, .slice (some ⟨b, 0, none⟩) n c), (1, .int .i64 (lo : Nat)), (2, .int .i64 (m : Nat)), (3, .int .i64 (hi : Nat)), (4, .func (.func 27) #[] #[])] a)
    (hQ : ∀ a', Fr 220 a' → Slots [(0, .slice (some ⟨b, 0, none⟩) n c), (1, .int .i64 (lo : Nat)), (2, .int .i64 (m : Nat)), (3, .int .i64 (hi : Nat)), (4, .func (.func 27) #[] #[]), (10, .int .i64 (m : Nat))] a' → Q .normal a' w) :
    Code.wp Try.prog (nthC 0 (thC (tlC (hdC (bodyC Try.f32))))) Q a w := by
  obtain ⟨u, hu, rfl⟩ := lay220 hfr
  obtain ⟨s0, s1, s2, s3, s4, -⟩ := hs
  replace s0 : u 0 = .slice (some ⟨b, 0, none⟩) n c := (hu 0).symm.trans s0
  replace s1 : u 1 = .int .i64 (lo : Nat) := (hu 1).symm.trans s1
  replace s2 : u 2 = .int .i64 (m : Nat) := (hu 2).symm.trans s2
  replace s3 : u 3 = .int .i64 (hi : Nat) := (hu 3).symm.trans s3
  replace s4 : u 4 = .func (.func 27) #[] #[] := (hu 4).symm.trans s4
  rw [s0, s1, s2, s3, s4]
  clear hfr hu s0 s1 s2 s3 s4
  conv => arg 2; whnf
  have H : Hid _ := hQ
  clear hQ
  go_wp2
  exact H.out _ ⟨rfl, rfl⟩ ⟨rfl, rfl, rfl, rfl, rfl, rfl, trivial⟩

set_option maxRecDepth 10000 in
set_option maxHeartbeats 1000000 in
theorem m2 (b n c lo m hi : Nat) (i : Nat) (a : Act) (w : World) (Q : Exit → Act → World → Prop) (hfr : Fr 220 a) (hs : Slots [(0, .slice (some ⟨b, 0, none⟩) n c), (1, .int .i64 (lo : Nat)), (2, .int .i64 (m : Nat)), (3, .int .i64 (hi : Nat)), (4, .func (.func 27) #[] #[]), (10, .int .i64 (i : Nat))] a)
    (hQ : ∀ a', Fr 220 a' → Slots [(0, .slice (some ⟨b, 0, none⟩) n c), (1, .int .i64 (lo : Nat)), (2, .int .i64 (m : Nat)), (3, .int .i64 (hi : Nat)), (4, .func (.func 27) #[] #[]), (10, .int .i64 (i : Nat)), (11, .int .i64 (hi : Nat))] a' → Q .normal a' w) :
    Code.wp Try.prog (nthC 1 (thC (tlC (hdC (bodyC Try.f32))))) Q a w := by
  obtain ⟨u, hu, rfl⟩ := lay220 hfr
  obtain ⟨s0, s1, s2, s3, s4, s10, -⟩ := hs
  replace s0 : u 0 = .slice (some ⟨b, 0, none⟩) n c := (hu 0).symm.trans s0
  replace s1 : u 1 = .int .i64 (lo : Nat) := (hu 1).symm.trans s1
  replace s2 : u 2 = .int .i64 (m : Nat) := (hu 2).symm.trans s2
  replace s3 : u 3 = .int .i64 (hi : Nat) := (hu 3).symm.trans s3
  replace s4 : u 4 = .func (.func 27) #[] #[] := (hu 4).symm.trans s4
  replace s10 : u 10 = .int .i64 (i : Nat) := (hu 10).symm.trans s10
  rw [s0, s1, s2, s3, s4, s10]
  clear hfr hu s0 s1 s2 s3 s4 s10
  conv => arg 2; whnf
  have H : Hid _ := hQ
  clear hQ
  go_wp2
  exact H.out _ ⟨rfl, rfl⟩ ⟨rfl, rfl, rfl, rfl, rfl, rfl, rfl, trivial⟩

set_option maxRecDepth 10000 in
set_option maxHeartbeats 1000000 in
theorem m3h (b n c lo m hi : Nat) (i j : Nat) (a : Act) (w : World) (Q : Exit → Act → World → Prop) (hfr : Fr 220 a) (hs : Slots [(0, .slice (some ⟨b, 0, none⟩) n c), (1, .int .i64 (lo : Nat)), (2, .int .i64 (m : Nat)), (3, .int .i64 (hi : Nat)), (4, .func (.func 27) #[] #[]), (10, .int .i64 (i : Nat)), (11, .int .i64 (j : Nat))] a)
    (hQ : ∀ a', i < j → Fr 220 a' → Slots [(0, .slice (some ⟨b, 0, none⟩) n c), (1, .int .i64 (lo : Nat)), (2, .int .i64 (m : Nat)), (3, .int .i64 (hi : Nat)), (4, .func (.func 27) #[] #[]), (10, .int .i64 (i : Nat)), (11, .int .i64 (j : Nat))] a' → Q .normal a' w) (hexit : ∀ a', ¬ i < j → Fr 220 a' → Slots [(0, .slice (some ⟨b, 0, none⟩) n c), (1, .int .i64 (lo : Nat)), (2, .int .i64 (m : Nat)), (3, .int .i64 (hi : Nat)), (4, .func (.func 27) #[] #[]), (10, .int .i64 (i : Nat))] a' → Q (.exit 0) a' w) :
    Code.wp Try.prog (hdC (inC (inC (nthC 2 (thC (tlC (hdC (bodyC Try.f32)))))))) Q a w := by
  obtain ⟨u, hu, rfl⟩ := lay220 hfr
  obtain ⟨s0, s1, s2, s3, s4, s10, s11, -⟩ := hs
  replace s0 : u 0 = .slice (some ⟨b, 0, none⟩) n c := (hu 0).symm.trans s0
  replace s1 : u 1 = .int .i64 (lo : Nat) := (hu 1).symm.trans s1
  replace s2 : u 2 = .int .i64 (m : Nat) := (hu 2).symm.trans s2
  replace s3 : u 3 = .int .i64 (hi : Nat) := (hu 3).symm.trans s3
  replace s4 : u 4 = .func (.func 27) #[] #[] := (hu 4).symm.trans s4
  replace s10 : u 10 = .int .i64 (i : Nat) := (hu 10).symm.trans s10
  replace s11 : u 11 = .int .i64 (j : Nat) := (hu 11).symm.trans s11
  rw [s0, s1, s2, s3, s4, s10, s11]
  clear hfr hu s0 s1 s2 s3 s4 s10 s11
  conv => arg 2; whnf
  have H : Hid _ := hQ
  have HX : Hid _ := hexit
  clear hQ hexit
  by_cases hlt : i < j
  · have l : (i : Int) < j := by omega
    go_wp2
    exact H.out _ hlt ⟨rfl, rfl⟩ ⟨rfl, rfl, rfl, rfl, rfl, rfl, rfl, trivial⟩
  · have l : ¬ ((i : Int) < j) := by omega
    go_wp2
    exact HX.out _ hlt ⟨rfl, rfl⟩ ⟨rfl, rfl, rfl, rfl, rfl, rfl, trivial⟩

set_option maxRecDepth 10000 in
set_option maxHeartbeats 1000000 in
theorem m4 (b n c lo m hi : Nat) (i j : Nat) (h : Nat) (a : Act) (w : World) (Q : Exit → Act → World → Prop) (hfr : Fr 220 a) (hs : Slots [(0, .slice (some ⟨b, 0, none⟩) n c), (1, .int .i64 (lo : Nat)), (2, .int .i64 (m : Nat)), (3, .int .i64 (hi : Nat)), (4, .func (.func 27) #[] #[]), (10, .int .i64 (i : Nat)), (11, .int .i64 (j : Nat))] a)
    (hh : h = (i + j) / 2) (li : i ≤ 4096) (lj : j ≤ 4096) (hQ : ∀ a', Fr 220 a' → Slots [(0, .slice (some ⟨b, 0, none⟩) n c), (1, .int .i64 (lo : Nat)), (2, .int .i64 (m : Nat)), (3, .int .i64 (hi : Nat)), (4, .func (.func 27) #[] #[]), (10, .int .i64 (i : Nat)), (11, .int .i64 (j : Nat)), (12, .int .i64 (h : Nat))] a' → Q .normal a' w) :
    Code.wp Try.prog (nthC 0 (inC (tlC (inC (inC (nthC 2 (thC (tlC (hdC (bodyC Try.f32)))))))))) Q a w := by
  obtain ⟨u, hu, rfl⟩ := lay220 hfr
  obtain ⟨s0, s1, s2, s3, s4, s10, s11, -⟩ := hs
  replace s0 : u 0 = .slice (some ⟨b, 0, none⟩) n c := (hu 0).symm.trans s0
  replace s1 : u 1 = .int .i64 (lo : Nat) := (hu 1).symm.trans s1
  replace s2 : u 2 = .int .i64 (m : Nat) := (hu 2).symm.trans s2
  replace s3 : u 3 = .int .i64 (hi : Nat) := (hu 3).symm.trans s3
  replace s4 : u 4 = .func (.func 27) #[] #[] := (hu 4).symm.trans s4
  replace s10 : u 10 = .int .i64 (i : Nat) := (hu 10).symm.trans s10
  replace s11 : u 11 = .int .i64 (j : Nat) := (hu 11).symm.trans s11
  rw [s0, s1, s2, s3, s4, s10, s11]
  clear hfr hu s0 s1 s2 s3 s4 s10 s11
  conv => arg 2; whnf
  have e1 : IntKind.i64.wrap ((i : Int) + (j : Int)) = ((i + j : Nat) : Int) := by rw [IntKind.wrap_i64]; omega
  have e2 : IntKind.u64.wrap ((i + j : Nat) : Int) = ((i + j : Nat) : Int) := by rw [IntKind.wrap_u64]; omega
  have e3 : ((i + j : Nat) : Int) / 2 = (h : Int) := by omega
  have e4 : IntKind.u64.wrap (h : Int) = (h : Int) := by rw [IntKind.wrap_u64]; omega
  have e5 : IntKind.i64.wrap (h : Int) = (h : Int) := by rw [IntKind.wrap_i64]; omega
  clear hh li lj
  generalize i + j = ij at *
  have H : Hid _ := hQ
  clear hQ
  go_wp2
  exact H.out _ ⟨rfl, rfl⟩ ⟨rfl, rfl, rfl, rfl, rfl, rfl, rfl, rfl, trivial⟩

set_option maxRecDepth 10000 in
set_option maxHeartbeats 1000000 in
theorem m6 (b n c lo m hi : Nat) (i j : Nat) (h : Nat) (a : Act) (w : World) (Q : Exit → Act → World → Prop) (hfr : Fr 220 a) (hs : Slots [(0, .slice (some ⟨b, 0, none⟩) n c), (1, .int .i64 (lo : Nat)), (2, .int .i64 (m : Nat)), (3, .int .i64 (hi : Nat)), (4, .func (.func 27) #[] #[]), (10, .int .i64 (i : Nat)), (11, .int .i64 (j : Nat)), (12, .int .i64 (h : Nat))] a)
    (hk : (h : Int) ≤ 4096) (hQ : ∀ a', Fr 220 a' → Slots [(0, .slice (some ⟨b, 0, none⟩) n c), (1, .int .i64 (lo : Nat)), (2, .int .i64 (m : Nat)), (3, .int .i64 (hi : Nat)), (4, .func (.func 27) #[] #[]), (10, .int .i64 (h + 1 : Nat)), (11, .int .i64 (j : Nat))] a' → Q .normal a' w) :
    Code.wp Try.prog (thC (dropC 2 (inC (tlC (inC (inC (nthC 2 (thC (tlC (hdC (bodyC Try.f32))))))))))) Q a w := by
  obtain ⟨u, hu, rfl⟩ := lay220 hfr
  obtain ⟨s0, s1, s2, s3, s4, s10, s11, s12, -⟩ := hs
  replace s0 : u 0 = .slice (some ⟨b, 0, none⟩) n c := (hu 0).symm.trans s0
  replace s1 : u 1 = .int .i64 (lo : Nat) := (hu 1).symm.trans s1
  replace s2 : u 2 = .int .i64 (m : Nat) := (hu 2).symm.trans s2
  replace s3 : u 3 = .int .i64 (hi : Nat) := (hu 3).symm.trans s3
  replace s4 : u 4 = .func (.func 27) #[] #[] := (hu 4).symm.trans s4
  replace s10 : u 10 = .int .i64 (i : Nat) := (hu 10).symm.trans s10
  replace s11 : u 11 = .int .i64 (j : Nat) := (hu 11).symm.trans s11
  replace s12 : u 12 = .int .i64 (h : Nat) := (hu 12).symm.trans s12
  rw [s0, s1, s2, s3, s4, s10, s11, s12]
  clear hfr hu s0 s1 s2 s3 s4 s10 s11 s12
  conv => arg 2; whnf
  have H : Hid _ := hQ
  clear hQ
  go_wp2
  exact H.out _ ⟨rfl, rfl⟩ ⟨rfl, rfl, rfl, rfl, rfl, rfl, rfl, trivial⟩

set_option maxRecDepth 10000 in
set_option maxHeartbeats 1000000 in
theorem m7 (b n c lo m hi : Nat) (i j : Nat) (h : Nat) (a : Act) (w : World) (Q : Exit → Act → World → Prop) (hfr : Fr 220 a) (hs : Slots [(0, .slice (some ⟨b, 0, none⟩) n c), (1, .int .i64 (lo : Nat)), (2, .int .i64 (m : Nat)), (3, .int .i64 (hi : Nat)), (4, .func (.func 27) #[] #[]), (10, .int .i64 (i : Nat)), (11, .int .i64 (j : Nat)), (12, .int .i64 (h : Nat))] a)
    (hQ : ∀ a', Fr 220 a' → Slots [(0, .slice (some ⟨b, 0, none⟩) n c), (1, .int .i64 (lo : Nat)), (2, .int .i64 (m : Nat)), (3, .int .i64 (hi : Nat)), (4, .func (.func 27) #[] #[]), (10, .int .i64 (i : Nat)), (11, .int .i64 (h : Nat))] a' → Q .normal a' w) :
    Code.wp Try.prog (elC (dropC 2 (inC (tlC (inC (inC (nthC 2 (thC (tlC (hdC (bodyC Try.f32))))))))))) Q a w := by
  obtain ⟨u, hu, rfl⟩ := lay220 hfr
  obtain ⟨s0, s1, s2, s3, s4, s10, s11, s12, -⟩ := hs
  replace s0 : u 0 = .slice (some ⟨b, 0, none⟩) n c := (hu 0).symm.trans s0
  replace s1 : u 1 = .int .i64 (lo : Nat) := (hu 1).symm.trans s1
  replace s2 : u 2 = .int .i64 (m : Nat) := (hu 2).symm.trans s2
  replace s3 : u 3 = .int .i64 (hi : Nat) := (hu 3).symm.trans s3
  replace s4 : u 4 = .func (.func 27) #[] #[] := (hu 4).symm.trans s4
  replace s10 : u 10 = .int .i64 (i : Nat) := (hu 10).symm.trans s10
  replace s11 : u 11 = .int .i64 (j : Nat) := (hu 11).symm.trans s11
  replace s12 : u 12 = .int .i64 (h : Nat) := (hu 12).symm.trans s12
  rw [s0, s1, s2, s3, s4, s10, s11, s12]
  clear hfr hu s0 s1 s2 s3 s4 s10 s11 s12
  conv => arg 2; whnf
  have H : Hid _ := hQ
  clear hQ
  go_wp2
  exact H.out _ ⟨rfl, rfl⟩ ⟨rfl, rfl, rfl, rfl, rfl, rfl, rfl, trivial⟩

set_option maxRecDepth 10000 in
set_option maxHeartbeats 1000000 in
theorem m8 (b n c lo m hi : Nat) (i : Nat) (a : Act) (w : World) (Q : Exit → Act → World → Prop) (hfr : Fr 220 a) (hs : Slots [(0, .slice (some ⟨b, 0, none⟩) n c), (1, .int .i64 (lo : Nat)), (2, .int .i64 (m : Nat)), (3, .int .i64 (hi : Nat)), (4, .func (.func 27) #[] #[]), (10, .int .i64 (i : Nat))] a)
    (hQ : ∀ a', Fr 220 a' → Slots [(0, .slice (some ⟨b, 0, none⟩) n c), (1, .int .i64 (lo : Nat)), (2, .int .i64 (m : Nat)), (3, .int .i64 (hi : Nat)), (4, .func (.func 27) #[] #[]), (10, .int .i64 (i : Nat)), (13, .int .i64 (lo : Nat))] a' → Q .normal a' w) :
    Code.wp Try.prog (hdC (nthC 3 (thC (tlC (hdC (bodyC Try.f32)))))) Q a w := by
  obtain ⟨u, hu, rfl⟩ := lay220 hfr
  obtain ⟨s0, s1, s2, s3, s4, s10, -⟩ := hs
  replace s0 : u 0 = .slice (some ⟨b, 0, none⟩) n c := (hu 0).symm.trans s0
  replace s1 : u 1 = .int .i64 (lo : Nat) := (hu 1).symm.trans s1
  replace s2 : u 2 = .int .i64 (m : Nat) := (hu 2).symm.trans s2
  replace s3 : u 3 = .int .i64 (hi : Nat) := (hu 3).symm.trans s3
  replace s4 : u 4 = .func (.func 27) #[] #[] := (hu 4).symm.trans s4
  replace s10 : u 10 = .int .i64 (i : Nat) := (hu 10).symm.trans s10
  rw [s0, s1, s2, s3, s4, s10]
  clear hfr hu s0 s1 s2 s3 s4 s10
  conv => arg 2; whnf
  have H : Hid _ := hQ
  clear hQ
  go_wp2
  exact H.out _ ⟨rfl, rfl⟩ ⟨rfl, rfl, rfl, rfl, rfl, rfl, rfl, trivial⟩

set_option maxRecDepth 10000 in
set_option maxHeartbeats 1000000 in
theorem m9h (b n c lo m hi : Nat) (i k i1 : Nat) (a : Act) (w : World) (Q : Exit → Act → World → Prop) (hfr : Fr 220 a) (hs : Slots [(0, .slice (some ⟨b, 0, none⟩) n c), (1, .int .i64 (lo : Nat)), (2, .int .i64 (m : Nat)), (3, .int .i64 (hi : Nat)), (4, .func (.func 27) #[] #[]), (10, .int .i64 (i : Nat)), (13, .int .i64 (k : Nat))] a)
    (e1 : IntKind.i64.wrap ((i : Int) - 1) = (i1 : Int)) (hQ : ∀ a', k < i1 → Fr 220 a' → Slots [(0, .slice (some ⟨b, 0, none⟩) n c), (1, .int .i64 (lo : Nat)), (2, .int .i64 (m : Nat)), (3, .int .i64 (hi : Nat)), (4, .func (.func 27) #[] #[]), (10, .int .i64 (i : Nat)), (13, .int .i64 (k : Nat))] a' → Q .normal a' w) (hexit : ∀ a', ¬ k < i1 → Fr 220 a' → Slots [(0, .slice (some ⟨b, 0, none⟩) n c), (1, .int .i64 (lo : Nat)), (2, .int .i64 (m : Nat)), (3, .int .i64 (hi : Nat)), (4, .func (.func 27) #[] #[])] a' → Q (.exit 2) a' w) :
    Code.wp Try.prog (hdC (inC (inC (tlC (nthC 3 (thC (tlC (hdC (bodyC Try.f32))))))))) Q a w := by
  obtain ⟨u, hu, rfl⟩ := lay220 hfr
  obtain ⟨s0, s1, s2, s3, s4, s10, s13, -⟩ := hs
  replace s0 : u 0 = .slice (some ⟨b, 0, none⟩) n c := (hu 0).symm.trans s0
  replace s1 : u 1 = .int .i64 (lo : Nat) := (hu 1).symm.trans s1
  replace s2 : u 2 = .int .i64 (m : Nat) := (hu 2).symm.trans s2
  replace s3 : u 3 = .int .i64 (hi : Nat) := (hu 3).symm.trans s3
  replace s4 : u 4 = .func (.func 27) #[] #[] := (hu 4).symm.trans s4
  replace s10 : u 10 = .int .i64 (i : Nat) := (hu 10).symm.trans s10
  replace s13 : u 13 = .int .i64 (k : Nat) := (hu 13).symm.trans s13
  rw [s0, s1, s2, s3, s4, s10, s13]
  clear hfr hu s0 s1 s2 s3 s4 s10 s13
  conv => arg 2; whnf
  have H : Hid _ := hQ
  have HX : Hid _ := hexit
  clear hQ hexit
  by_cases hlt : k < i1
  · have l : (k : Int) < i1 := by omega
    go_wp2
    exact H.out _ hlt ⟨rfl, rfl⟩ ⟨rfl, rfl, rfl, rfl, rfl, rfl, rfl, trivial⟩
  · have l : ¬ ((k : Int) < i1) := by omega
    go_wp2
    exact HX.out _ hlt ⟨rfl, rfl⟩ ⟨rfl, rfl, rfl, rfl, rfl, trivial⟩

set_option maxRecDepth 10000 in
set_option maxHeartbeats 1000000 in
theorem m10 (b n c lo m hi : Nat) (i k : Nat) (a : Act) (w : World) (Q : Exit → Act → World → Prop) (hfr : Fr 220 a) (hs : Slots [(0, .slice (some ⟨b, 0, none⟩) n c), (1, .int .i64 (lo : Nat)), (2, .int .i64 (m : Nat)), (3, .int .i64 (hi : Nat)), (4, .func (.func 27) #[] #[]), (10, .int .i64 (i : Nat)), (13, .int .i64 (k : Nat))] a)
    (hk : (k : Int) ≤ 4096) (hQ : ∀ a', Fr 220 a' → Slots [(0, .slice (some ⟨b, 0, none⟩) n c), (1, .int .i64 (lo : Nat)), (2, .int .i64 (m : Nat)), (3, .int .i64 (hi : Nat)), (4, .func (.func 27) #[] #[]), (10, .int .i64 (i : Nat)), (13, .int .i64 (k + 1 : Nat))] a' → Q .normal a' w) :
    Code.wp Try.prog (tlC (tlC (inC (inC (tlC (nthC 3 (thC (tlC (hdC (bodyC Try.f32)))))))))) Q a w := by
  obtain ⟨u, hu, rfl⟩ := lay220 hfr
  obtain ⟨s0, s1, s2, s3, s4, s10, s13, -⟩ := hs
  replace s0 : u 0 = .slice (some ⟨b, 0, none⟩) n c := (hu 0).symm.trans s0
  replace s1 : u 1 = .int .i64 (lo : Nat) := (hu 1).symm.trans s1
  replace s2 : u 2 = .int .i64 (m : Nat) := (hu 2).symm.trans s2
  replace s3 : u 3 = .int .i64 (hi : Nat) := (hu 3).symm.trans s3
  replace s4 : u 4 = .func (.func 27) #[] #[] := (hu 4).symm.trans s4
  replace s10 : u 10 = .int .i64 (i : Nat) := (hu 10).symm.trans s10
  replace s13 : u 13 = .int .i64 (k : Nat) := (hu 13).symm.trans s13
  rw [s0, s1, s2, s3, s4, s10, s13]
  clear hfr hu s0 s1 s2 s3 s4 s10 s13
  conv => arg 2; whnf
  have H : Hid _ := hQ
  clear hQ
  go_wp2
  exact H.out _ ⟨rfl, rfl⟩ ⟨rfl, rfl, rfl, rfl, rfl, rfl, rfl, trivial⟩

set_option maxRecDepth 10000 in
set_option maxHeartbeats 1000000 in
theorem m11r  (a : Act) (w : World) (Q : Exit → Act → World → Prop) (hfr : Fr 220 a)
    (hret : ∀ a', Fr 220 a' → Q .ret a' w) :
    Code.wp Try.prog (dropC 4 (thC (tlC (hdC (bodyC Try.f32))))) Q a w := by
  obtain ⟨u, hu, rfl⟩ := lay220 hfr
  clear hfr hu
  conv => arg 2; whnf
  have H : Hid _ := hret
  clear hret
  go_wp2
  exact H.out _ ⟨rfl, rfl⟩

set_option maxRecDepth 10000 in
set_option maxHeartbeats 1000000 in
theorem m12 (b n c lo m hi : Nat) (d : Nat) (a : Act) (w : World) (Q : Exit → Act → World → Prop) (hfr : Fr 220 a) (hs : Slots [(0, .slice (some ⟨b, 0, none⟩) n c), (1, .int .i64 (lo : Nat)), (2, .int .i64 (m : Nat)), (3, .int .i64 (hi : Nat)), (4, .func (.func 27) #[] #[])] a)
    (hd : IntKind.i64.wrap ((hi : Int) - (m : Int)) = (d : Int)) (hQ : ∀ a', Fr 220 a' → Slots [(0, .slice (some ⟨b, 0, none⟩) n c), (1, .int .i64 (lo : Nat)), (2, .int .i64 (m : Nat)), (3, .int .i64 (hi : Nat)), (4, .func (.func 27) #[] #[]), (80, .bool (decide (d = 1)))] a' → Q .normal a' w) :
    Code.wp Try.prog (hdC (nthC 1 (bodyC Try.f32))) Q a w := by
  obtain ⟨u, hu, rfl⟩ := lay220 hfr
  obtain ⟨s0, s1, s2, s3, s4, -⟩ := hs
  replace s0 : u 0 = .slice (some ⟨b, 0, none⟩) n c := (hu 0).symm.trans s0
  replace s1 : u 1 = .int .i64 (lo : Nat) := (hu 1).symm.trans s1
  replace s2 : u 2 = .int .i64 (m : Nat) := (hu 2).symm.trans s2
  replace s3 : u 3 = .int .i64 (hi : Nat) := (hu 3).symm.trans s3
  replace s4 : u 4 = .func (.func 27) #[] #[] := (hu 4).symm.trans s4
  rw [s0, s1, s2, s3, s4]
  clear hfr hu s0 s1 s2 s3 s4
  conv => arg 2; whnf
  have H : Hid _ := hQ
  clear hQ
  by_cases h : d = 1
  · subst h
    go_wp2
    exact H.out _ ⟨rfl, rfl⟩ ⟨rfl, rfl, rfl, rfl, rfl, rfl, trivial⟩
  · have g : ((d : Int) == 1) = false := by simp; omega
    have g1 : decide (d = 1) = false := by simpa using h
    rw [g1] at H
    clear h g1
    go_wp2
    exact H.out _ ⟨rfl, rfl⟩ ⟨rfl, rfl, rfl, rfl, rfl, rfl, trivial⟩

set_option maxRecDepth 10000 in
set_option maxHeartbeats 1000000 in
theorem m13 (b n c lo m hi : Nat) (a : Act) (w : World) (Q : Exit → Act → World → Prop) (hfr : Fr 220 a) (hs : Slots [(0, .slice (some ⟨b, 0, none⟩) n c), (1, .int .i64 (lo : Nat)), (2, .int .i64 (m : Nat)), (3, .int .i64 (hi : Nat)), (4, .func (.func 27) #[] #[])] a)
    (hQ : ∀ a', Fr 220 a' → Slots [(0, .slice (some ⟨b, 0, none⟩) n c), (1, .int .i64 (lo : Nat)), (2, .int .i64 (m : Nat)), (3, .int .i64 (hi : Nat)), (4, .func (.func 27) #[] #[]), (14, .int .i64 (lo : Nat))] a' → Q .normal a' w) :
    Code.wp Try.prog (nthC 0 (thC (tlC (nthC 1 (bodyC Try.f32))))) Q a w := by
  obtain ⟨u, hu, rfl⟩ := lay220 hfr
  obtain ⟨s0, s1, s2, s3, s4, -⟩ := hs
  replace s0 : u 0 = .slice (some ⟨b, 0, none⟩) n c := (hu 0).symm.trans s0
  replace s1 : u 1 = .int .i64 (lo : Nat) := (hu 1).symm.trans s1
  replace s2 : u 2 = .int .i64 (m : Nat) := (hu 2).symm.trans s2
  replace s3 : u 3 = .int .i64 (hi : Nat) := (hu 3).symm.trans s3
  replace s4 : u 4 = .func (.func 27) #[] #[] := (hu 4).symm.trans s4
  rw [s0, s1, s2, s3, s4]
  clear hfr hu s0 s1 s2 s3 s4
  conv => arg 2; whnf
  have H : Hid _ := hQ
  clear hQ
  go_wp2
  exact H.out _ ⟨rfl, rfl⟩ ⟨rfl, rfl, rfl, rfl, rfl, rfl, trivial⟩

set_option maxRecDepth 10000 in
set_option maxHeartbeats 1000000 in
theorem m14 (b n c lo m hi : Nat) (i : Nat) (a : Act) (w : World) (Q : Exit → Act → World → Prop) (hfr : Fr 220 a) (hs : Slots [(0, .slice (some ⟨b, 0, none⟩) n c), (1, .int .i64 (lo : Nat)), (2, .int .i64 (m : Nat)), (3, .int .i64 (hi : Nat)), (4, .func (.func 27) #[] #[]), (14, .int .i64 (i : Nat))] a)
    (hQ : ∀ a', Fr 220 a' → Slots [(0, .slice (some ⟨b, 0, none⟩) n c), (1, .int .i64 (lo : Nat)), (2, .int .i64 (m : Nat)), (3, .int .i64 (hi : Nat)), (4, .func (.func 27) #[] #[]), (14, .int .i64 (i : Nat)), (15, .int .i64 (m : Nat))] a' → Q .normal a' w) :
    Code.wp Try.prog (nthC 1 (thC (tlC (nthC 1 (bodyC Try.f32))))) Q a w := by
  obtain ⟨u, hu, rfl⟩ := lay220 hfr
  obtain ⟨s0, s1, s2, s3, s4, s14, -⟩ := hs
  replace s0 : u 0 = .slice (some ⟨b, 0, none⟩) n c := (hu 0).symm.trans s0
  replace s1 : u 1 = .int .i64 (lo : Nat) := (hu 1).symm.trans s1
  replace s2 : u 2 = .int .i64 (m : Nat) := (hu 2).symm.trans s2
  replace s3 : u 3 = .int .i64 (hi : Nat) := (hu 3).symm.trans s3
  replace s4 : u 4 = .func (.func 27) #[] #[] := (hu 4).symm.trans s4
  replace s14 : u 14 = .int .i64 (i : Nat) := (hu 14).symm.trans s14
  rw [s0, s1, s2, s3, s4, s14]
  clear hfr hu s0 s1 s2 s3 s4 s14
  conv => arg 2; whnf
  have H : Hid _ := hQ
  clear hQ
  go_wp2
  exact H.out _ ⟨rfl, rfl⟩ ⟨rfl, rfl, rfl, rfl, rfl, rfl, rfl, trivial⟩

set_option maxRecDepth 10000 in
set_option maxHeartbeats 1000000 in
theorem m15h (b n c lo m hi : Nat) (i j : Nat) (a : Act) (w : World) (Q : Exit → Act → World → Prop) (hfr : Fr 220 a) (hs : Slots [(0, .slice (some ⟨b, 0, none⟩) n c), (1, .int .i64 (lo : Nat)), (2, .int .i64 (m : Nat)), (3, .int .i64 (hi : Nat)), (4, .func (.func 27) #[] #[]), (14, .int .i64 (i : Nat)), (15, .int .i64 (j : Nat))] a)
    (hQ : ∀ a', i < j → Fr 220 a' → Slots [(0, .slice (some ⟨b, 0, none⟩) n c), (1, .int .i64 (lo : Nat)), (2, .int .i64 (m : Nat)), (3, .int .i64 (hi : Nat)), (4, .func (.func 27) #[] #[]), (14, .int .i64 (i : Nat)), (15, .int .i64 (j : Nat))] a' → Q .normal a' w) (hexit : ∀ a', ¬ i < j → Fr 220 a' → Slots [(0, .slice (some ⟨b, 0, none⟩) n c), (1, .int .i64 (lo : Nat)), (2, .int .i64 (m : Nat)), (3, .int .i64 (hi : Nat)), (4, .func (.func 27) #[] #[]), (14, .int .i64 (i : Nat))] a' → Q (.exit 4) a' w) :
    Code.wp Try.prog (hdC (inC (inC (nthC 2 (thC (tlC (nthC 1 (bodyC Try.f32)))))))) Q a w := by
  obtain ⟨u, hu, rfl⟩ := lay220 hfr
  obtain ⟨s0, s1, s2, s3, s4, s14, s15, -⟩ := hs
  replace s0 : u 0 = .slice (some ⟨b, 0, none⟩) n c := (hu 0).symm.trans s0
  replace s1 : u 1 = .int .i64 (lo : Nat) := (hu 1).symm.trans s1
  replace s2 : u 2 = .int .i64 (m : Nat) := (hu 2).symm.trans s2
  replace s3 : u 3 = .int .i64 (hi : Nat) := (hu 3).symm.trans s3
  replace s4 : u 4 = .func (.func 27) #[] #[] := (hu 4).symm.trans s4
  replace s14 : u 14 = .int .i64 (i : Nat) := (hu 14).symm.trans s14
  replace s15 : u 15 = .int .i64 (j : Nat) := (hu 15).symm.trans s15
  rw [s0, s1, s2, s3, s4, s14, s15]
  clear hfr hu s0 s1 s2 s3 s4 s14 s15
  conv => arg 2; whnf
  have H : Hid _ := hQ
  have HX : Hid _ := hexit
  clear hQ hexit
  by_cases hlt : i < j
  · have l : (i : Int) < j := by omega
    go_wp2
    exact H.out _ hlt ⟨rfl, rfl⟩ ⟨rfl, rfl, rfl, rfl, rfl, rfl, rfl, trivial⟩
  · have l : ¬ ((i : Int) < j) := by omega
    go_wp2
    exact HX.out _ hlt ⟨rfl, rfl⟩ ⟨rfl, rfl, rfl, rfl, rfl, rfl, trivial⟩

set_option maxRecDepth 10000 in
set_option maxHeartbeats 1000000 in
theorem m16 (b n c lo m hi : Nat) (i j : Nat) (h : Nat) (a : Act) (w : World) (Q : Exit → Act → World → Prop) (hfr : Fr 220 a) (hs : Slots [(0, .slice (some ⟨b, 0, none⟩) n c), (1, .int .i64 (lo : Nat)), (2, .int .i64 (m : Nat)), (3, .int .i64 (hi : Nat)), (4, .func (.func 27) #[] #[]), (14, .int .i64 (i : Nat)), (15, .int .i64 (j : Nat))] a)
    (hh : h = (i + j) / 2) (li : i ≤ 4096) (lj : j ≤ 4096) (hQ : ∀ a', Fr 220 a' → Slots [(0, .slice (some ⟨b, 0, none⟩) n c), (1, .int .i64 (lo : Nat)), (2, .int .i64 (m : Nat)), (3, .int .i64 (hi : Nat)), (4, .func (.func 27) #[] #[]), (14, .int .i64 (i : Nat)), (15, .int .i64 (j : Nat)), (16, .int .i64 (h : Nat))] a' → Q .normal a' w) :
    Code.wp Try.prog (nthC 0 (inC (tlC (inC (inC (nthC 2 (thC (tlC (nthC 1 (bodyC Try.f32)))))))))) Q a w := by
  obtain ⟨u, hu, rfl⟩ := lay220 hfr
  obtain ⟨s0, s1, s2, s3, s4, s14, s15, -⟩ := hs
  replace s0 : u 0 = .slice (some ⟨b, 0, none⟩) n c := (hu 0).symm.trans s0
  replace s1 : u 1 = .int .i64 (lo : Nat) := (hu 1).symm.trans s1
  replace s2 : u 2 = .int .i64 (m : Nat) := (hu 2).symm.trans s2
  replace s3 : u 3 = .int .i64 (hi : Nat) := (hu 3).symm.trans s3
  replace s4 : u 4 = .func (.func 27) #[] #[] := (hu 4).symm.trans s4
  replace s14 : u 14 = .int .i64 (i : Nat) := (hu 14).symm.trans s14
  replace s15 : u 15 = .int .i64 (j : Nat) := (hu 15).symm.trans s15
  rw [s0, s1, s2, s3, s4, s14, s15]
  clear hfr hu s0 s1 s2 s3 s4 s14 s15
  conv => arg 2; whnf
  have e1 : IntKind.i64.wrap ((i : Int) + (j : Int)) = ((i + j : Nat) : Int) := by rw [IntKind.wrap_i64]; omega
  have e2 : IntKind.u64.wrap ((i + j : Nat) : Int) = ((i + j : Nat) : Int) := by rw [IntKind.wrap_u64]; omega
  have e3 : ((i + j : Nat) : Int) / 2 = (h : Int) := by omega
  have e4 : IntKind.u64.wrap (h : Int) = (h : Int) := by rw [IntKind.wrap_u64]; omega
  have e5 : IntKind.i64.wrap (h : Int) = (h : Int) := by rw [IntKind.wrap_i64]; omega
  clear hh li lj
  generalize i + j = ij at *
  have H : Hid _ := hQ
  clear hQ
  go_wp2
  exact H.out _ ⟨rfl, rfl⟩ ⟨rfl, rfl, rfl, rfl, rfl, rfl, rfl, rfl, trivial⟩

set_option maxRecDepth 10000 in
set_option maxHeartbeats 1000000 in
theorem m18 (b n c lo m hi : Nat) (i j : Nat) (h : Nat) (a : Act) (w : World) (Q : Exit → Act → World → Prop) (hfr : Fr 220 a) (hs : Slots [(0, .slice (some ⟨b, 0, none⟩) n c), (1, .int .i64 (lo : Nat)), (2, .int .i64 (m : Nat)), (3, .int .i64 (hi : Nat)), (4, .func (.func 27) #[] #[]), (14, .int .i64 (i : Nat)), (15, .int .i64 (j : Nat)), (16, .int .i64 (h : Nat))] a)
    (hk : (h : Int) ≤ 4096) (hQ : ∀ a', Fr 220 a' → Slots [(0, .slice (some ⟨b, 0, none⟩) n c), (1, .int .i64 (lo : Nat)), (2, .int .i64 (m : Nat)), (3, .int .i64 (hi : Nat)), (4, .func (.func 27) #[] #[]), (14, .int .i64 (h + 1 : Nat)), (15, .int .i64 (j : Nat))] a' → Q .normal a' w) :
    Code.wp Try.prog (thC (dropC 2 (inC (tlC (inC (inC (nthC 2 (thC (tlC (nthC 1 (bodyC Try.f32))))))))))) Q a w := by
  obtain ⟨u, hu, rfl⟩ := lay220 hfr
  obtain ⟨s0, s1, s2, s3, s4, s14, s15, s16, -⟩ := hs
  replace s0 : u 0 = .slice (some ⟨b, 0, none⟩) n c := (hu 0).symm.trans s0
  replace s1 : u 1 = .int .i64 (lo : Nat) := (hu 1).symm.trans s1
  replace s2 : u 2 = .int .i64 (m : Nat) := (hu 2).symm.trans s2
  replace s3 : u 3 = .int .i64 (hi : Nat) := (hu 3).symm.trans s3
  replace s4 : u 4 = .func (.func 27) #[] #[] := (hu 4).symm.trans s4
  replace s14 : u 14 = .int .i64 (i : Nat) := (hu 14).symm.trans s14
  replace s15 : u 15 = .int .i64 (j : Nat) := (hu 15).symm.trans s15
  replace s16 : u 16 = .int .i64 (h : Nat) := (hu 16).symm.trans s16
  rw [s0, s1, s2, s3, s4, s14, s15, s16]
  clear hfr hu s0 s1 s2 s3 s4 s14 s15 s16
  conv => arg 2; whnf
  have H : Hid _ := hQ
  clear hQ
  go_wp2
  exact H.out _ ⟨rfl, rfl⟩ ⟨rfl, rfl, rfl, rfl, rfl, rfl, rfl, trivial⟩

set_option maxRecDepth 10000 in
set_option maxHeartbeats 1000000 in
theorem m19 (b n c lo m hi : Nat) (i j : Nat) (h : Nat) (a : Act) (w : World) (Q : Exit → Act → World → Prop) (hfr : Fr 220 a) (hs : Slots [(0, .slice (some ⟨b, 0, none⟩) n c), (1, .int .i64 (lo : Nat)), (2, .int .i64 (m : Nat)), (3, .int .i64 (hi : Nat)), (4, .func (.func 27) #[] #[]), (14, .int .i64 (i : Nat)), (15, .int .i64 (j : Nat)), (16, .int .i64 (h : Nat))] a)
    (hQ : ∀ a', Fr 220 a' → Slots [(0, .slice (some ⟨b, 0, none⟩) n c), (1, .int .i64 (lo : Nat)), (2, .int .i64 (m : Nat)), (3, .int .i64 (hi : Nat)), (4, .func (.func 27) #[] #[]), (14, .int .i64 (i : Nat)), (15, .int .i64 (h : Nat))] a' → Q .normal a' w) :
    Code.wp Try.prog (elC (dropC 2 (inC (tlC (inC (inC (nthC 2 (thC (tlC (nthC 1 (bodyC Try.f32))))))))))) Q a w := by
  obtain ⟨u, hu, rfl⟩ := lay220 hfr
  obtain ⟨s0, s1, s2, s3, s4, s14, s15, s16, -⟩ := hs
  replace s0 : u 0 = .slice (some ⟨b, 0, none⟩) n c := (hu 0).symm.trans s0
  replace s1 : u 1 = .int .i64 (lo : Nat) := (hu 1).symm.trans s1
  replace s2 : u 2 = .int .i64 (m : Nat) := (hu 2).symm.trans s2
  replace s3 : u 3 = .int .i64 (hi : Nat) := (hu 3).symm.trans s3
  replace s4 : u 4 = .func (.func 27) #[] #[] := (hu 4).symm.trans s4
  replace s14 : u 14 = .int .i64 (i : Nat) := (hu 14).symm.trans s14
  replace s15 : u 15 = .int .i64 (j : Nat) := (hu 15).symm.trans s15
  replace s16 : u 16 = .int .i64 (h : Nat) := (hu 16).symm.trans s16
  rw [s0, s1, s2, s3, s4, s14, s15, s16]
  clear hfr hu s0 s1 s2 s3 s4 s14 s15 s16
  conv => arg 2; whnf
  have H : Hid _ := hQ
  clear hQ
  go_wp2
  exact H.out _ ⟨rfl, rfl⟩ ⟨rfl, rfl, rfl, rfl, rfl, rfl, rfl, trivial⟩

set_option maxRecDepth 10000 in
set_option maxHeartbeats 1000000 in
theorem m20 (b n c lo m hi : Nat) (i : Nat) (a : Act) (w : World) (Q : Exit → Act → World → Prop) (hfr : Fr 220 a) (hs : Slots [(0, .slice (some ⟨b, 0, none⟩) n c), (1, .int .i64 (lo : Nat)), (2, .int .i64 (m : Nat)), (3, .int .i64 (hi : Nat)), (4, .func (.func 27) #[] #[]), (14, .int .i64 (i : Nat))] a)
    (hQ : ∀ a', Fr 220 a' → Slots [(0, .slice (some ⟨b, 0, none⟩) n c), (1, .int .i64 (lo : Nat)), (2, .int .i64 (m : Nat)), (3, .int .i64 (hi : Nat)), (4, .func (.func 27) #[] #[]), (14, .int .i64 (i : Nat)), (17, .int .i64 (m : Nat))] a' → Q .normal a' w) :
    Code.wp Try.prog (hdC (nthC 3 (thC (tlC (nthC 1 (bodyC Try.f32)))))) Q a w := by
  obtain ⟨u, hu, rfl⟩ := lay220 hfr
  obtain ⟨s0, s1, s2, s3, s4, s14, -⟩ := hs
  replace s0 : u 0 = .slice (some ⟨b, 0, none⟩) n c := (hu 0).symm.trans s0
  replace s1 : u 1 = .int .i64 (lo : Nat) := (hu 1).symm.trans s1
  replace s2 : u 2 = .int .i64 (m : Nat) := (hu 2).symm.trans s2
  replace s3 : u 3 = .int .i64 (hi : Nat) := (hu 3).symm.trans s3
  replace s4 : u 4 = .func (.func 27) #[] #[] := (hu 4).symm.trans s4
  replace s14 : u 14 = .int .i64 (i : Nat) := (hu 14).symm.trans s14
  rw [s0, s1, s2, s3, s4, s14]
  clear hfr hu s0 s1 s2 s3 s4 s14
  conv => arg 2; whnf
  have H : Hid _ := hQ
  clear hQ
  go_wp2
  exact H.out _ ⟨rfl, rfl⟩ ⟨rfl, rfl, rfl, rfl, rfl, rfl, rfl, trivial⟩

set_option maxRecDepth 10000 in
set_option maxHeartbeats 1000000 in
theorem m21h (b n c lo m hi : Nat) (i k : Nat) (a : Act) (w : World) (Q : Exit → Act → World → Prop) (hfr : Fr 220 a) (hs : Slots [(0, .slice (some ⟨b, 0, none⟩) n c), (1, .int .i64 (lo : Nat)), (2, .int .i64 (m : Nat)), (3, .int .i64 (hi : Nat)), (4, .func (.func 27) #[] #[]), (14, .int .i64 (i : Nat)), (17, .int .i64 (k : Nat))] a)
    (hQ : ∀ a', i < k → Fr 220 a' → Slots [(0, .slice (some ⟨b, 0, none⟩) n c), (1, .int .i64 (lo : Nat)), (2, .int .i64 (m : Nat)), (3, .int .i64 (hi : Nat)), (4, .func (.func 27) #[] #[]), (14, .int .i64 (i : Nat)), (17, .int .i64 (k : Nat))] a' → Q .normal a' w) (hexit : ∀ a', ¬ i < k → Fr 220 a' → Slots [(0, .slice (some ⟨b, 0, none⟩) n c), (1, .int .i64 (lo : Nat)), (2, .int .i64 (m : Nat)), (3, .int .i64 (hi : Nat)), (4, .func (.func 27) #[] #[])] a' → Q (.exit 6) a' w) :
    Code.wp Try.prog (hdC (inC (inC (tlC (nthC 3 (thC (tlC (nthC 1 (bodyC Try.f32))))))))) Q a w := by
  obtain ⟨u, hu, rfl⟩ := lay220 hfr
  obtain ⟨s0, s1, s2, s3, s4, s14, s17, -⟩ := hs
  replace s0 : u 0 = .slice (some ⟨b, 0, none⟩) n c := (hu 0).symm.trans s0
  replace s1 : u 1 = .int .i64 (lo : Nat) := (hu 1).symm.trans s1
  replace s2 : u 2 = .int .i64 (m : Nat) := (hu 2).symm.trans s2
  replace s3 : u 3 = .int .i64 (hi : Nat) := (hu 3).symm.trans s3
  replace s4 : u 4 = .func (.func 27) #[] #[] := (hu 4).symm.trans s4
  replace s14 : u 14 = .int .i64 (i : Nat) := (hu 14).symm.trans s14
  replace s17 : u 17 = .int .i64 (k : Nat) := (hu 17).symm.trans s17
  rw [s0, s1, s2, s3, s4, s14, s17]
  clear hfr hu s0 s1 s2 s3 s4 s14 s17
  conv => arg 2; whnf
  have H : Hid _ := hQ
  have HX : Hid _ := hexit
  clear hQ hexit
  by_cases hlt : i < k
  · have l : (i : Int) < k := by omega
    go_wp2
    exact H.out _ hlt ⟨rfl, rfl⟩ ⟨rfl, rfl, rfl, rfl, rfl, rfl, rfl, trivial⟩
  · have l : ¬ ((i : Int) < k) := by omega
    go_wp2
    exact HX.out _ hlt ⟨rfl, rfl⟩ ⟨rfl, rfl, rfl, rfl, rfl, trivial⟩

set_option maxRecDepth 10000 in
set_option maxHeartbeats 1000000 in
theorem m22 (b n c lo m hi : Nat) (i k k1 : Nat) (a : Act) (w : World) (Q : Exit → Act → World → Prop) (hfr : Fr 220 a) (hs : Slots [(0, .slice (some ⟨b, 0, none⟩) n c), (1, .int .i64 (lo : Nat)), (2, .int .i64 (m : Nat)), (3, .int .i64 (hi : Nat)), (4, .func (.func 27) #[] #[]), (14, .int .i64 (i : Nat)), (17, .int .i64 (k : Nat))] a)
    (hk : IntKind.i64.wrap ((k : Int) - 1) = (k1 : Int)) (hQ : ∀ a', Fr 220 a' → Slots [(0, .slice (some ⟨b, 0, none⟩) n c), (1, .int .i64 (lo : Nat)), (2, .int .i64 (m : Nat)), (3, .int .i64 (hi : Nat)), (4, .func (.func 27) #[] #[]), (14, .int .i64 (i : Nat)), (17, .int .i64 (k1 : Nat))] a' → Q .normal a' w) :
    Code.wp Try.prog (tlC (tlC (inC (inC (tlC (nthC 3 (thC (tlC (nthC 1 (bodyC Try.f32)))))))))) Q a w := by
  obtain ⟨u, hu, rfl⟩ := lay220 hfr
  obtain ⟨s0, s1, s2, s3, s4, s14, s17, -⟩ := hs
  replace s0 : u 0 = .slice (some ⟨b, 0, none⟩) n c := (hu 0).symm.trans s0
  replace s1 : u 1 = .int .i64 (lo : Nat) := (hu 1).symm.trans s1
  replace s2 : u 2 = .int .i64 (m : Nat) := (hu 2).symm.trans s2
  replace s3 : u 3 = .int .i64 (hi : Nat) := (hu 3).symm.trans s3
  replace s4 : u 4 = .func (.func 27) #[] #[] := (hu 4).symm.trans s4
  replace s14 : u 14 = .int .i64 (i : Nat) := (hu 14).symm.trans s14
  replace s17 : u 17 = .int .i64 (k : Nat) := (hu 17).symm.trans s17
  rw [s0, s1, s2, s3, s4, s14, s17]
  clear hfr hu s0 s1 s2 s3 s4 s14 s17
  conv => arg 2; whnf
  have H : Hid _ := hQ
  clear hQ
  go_wp2
  exact H.out _ ⟨rfl, rfl⟩ ⟨rfl, rfl, rfl, rfl, rfl, rfl, rfl, trivial⟩

set_option maxRecDepth 10000 in
set_option maxHeartbeats 1000000 in
theorem m23r  (a : Act) (w : World) (Q : Exit → Act → World → Prop) (hfr : Fr 220 a)
    (hret : ∀ a', Fr 220 a' → Q .ret a' w) :
    Code.wp Try.prog (dropC 4 (thC (tlC (nthC 1 (bodyC Try.f32))))) Q a w := by
  obtain ⟨u, hu, rfl⟩ := lay220 hfr
  clear hfr hu
  conv => arg 2; whnf
  have H : Hid _ := hret
  clear hret
  go_wp2
  exact H.out _ ⟨rfl, rfl⟩

end Go.Proofs.Qxb6601010a
