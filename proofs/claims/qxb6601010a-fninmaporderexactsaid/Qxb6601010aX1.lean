import Derived.Test.Qxb6601010aU2
namespace Go.Proofs.Qxb6601010a
open Go.RowKit
set_option linter.unusedSimpArgs false
set_option linter.unusedVariables false

set_option maxRecDepth 10000 in
set_option maxHeartbeats 1000000 in
theorem z35i (b n c p q m : Nat) (a : Act) (w : World) (Q : Exit → Act → World → Prop) (hfr : Fr 38 a) (hs : Slots [(0, .slice (some ⟨b, 0, none⟩) n c), (1, .int .i64 (p : Nat)), (2, .int .i64 (q : Nat)), (3, .int .i64 (m : Nat)), (4, .func (.func 27) #[] #[])] a)
    (hQ : ∀ a', Fr 38 a' → Slots [(0, .slice (some ⟨b, 0, none⟩) n c), (1, .int .i64 (p : Nat)), (2, .int .i64 (q : Nat)), (3, .int .i64 (m : Nat)), (4, .func (.func 27) #[] #[]), (10, .int .i64 (0 : Nat))] a' → Q .normal a' w) :
    Code.wp Try.prog (hdC (bodyC Try.f35)) Q a w := by
  obtain ⟨u, hu, rfl⟩ := lay38 hfr
  obtain ⟨s0, s1, s2, s3, s4, -⟩ := hs
  replace s0 : u 0 = .slice (some ⟨b, 0, none⟩) n c := (hu 0).symm.trans s0
  replace s1 : u 1 = .int .i64 (p : Nat) := (hu 1).symm.trans s1
  replace s2 : u 2 = .int .i64 (q : Nat) := (hu 2).symm.trans s2
  replace s3 : u 3 = .int .i64 (m : Nat) := (hu 3).symm.trans s3
  replace s4 : u 4 = .func (.func 27) #[] #[] := (hu 4).symm.trans s4
  rw [s0, s1, s2, s3, s4]
  clear hfr hu s0 s1 s2 s3 s4
  conv => arg 2; whnf
  have H : Hid _ := hQ
  clear hQ
  go_wp2
  exact H.out _ ⟨rfl, rfl⟩ ⟨rfl, rfl, rfl, rfl, rfl, rfl, trivial⟩

set_option maxRecDepth 10000 in
set_option maxHeartbeats 1000000 in
theorem z35h (b n c p q m : Nat) (i : Nat) (a : Act) (w : World) (Q : Exit → Act → World → Prop) (hfr : Fr 38 a) (hs : Slots [(0, .slice (some ⟨b, 0, none⟩) n c), (1, .int .i64 (p : Nat)), (2, .int .i64 (q : Nat)), (3, .int .i64 (m : Nat)), (4, .func (.func 27) #[] #[]), (10, .int .i64 (i : Nat))] a)
    (hQ : ∀ a', i < m → Fr 38 a' → Slots [(0, .slice (some ⟨b, 0, none⟩) n c), (1, .int .i64 (p : Nat)), (2, .int .i64 (q : Nat)), (3, .int .i64 (m : Nat)), (4, .func (.func 27) #[] #[]), (10, .int .i64 (i : Nat))] a' → Q .normal a' w) (hexit : ∀ a', ¬ i < m → Fr 38 a' → Slots [(0, .slice (some ⟨b, 0, none⟩) n c), (1, .int .i64 (p : Nat)), (2, .int .i64 (q : Nat)), (3, .int .i64 (m : Nat)), (4, .func (.func 27) #[] #[])] a' → Q (.exit 0) a' w) :
    Code.wp Try.prog (hdC (inC (inC (tlC (bodyC Try.f35))))) Q a w := by
  obtain ⟨u, hu, rfl⟩ := lay38 hfr
  obtain ⟨s0, s1, s2, s3, s4, s10, -⟩ := hs
  replace s0 : u 0 = .slice (some ⟨b, 0, none⟩) n c := (hu 0).symm.trans s0
  replace s1 : u 1 = .int .i64 (p : Nat) := (hu 1).symm.trans s1
  replace s2 : u 2 = .int .i64 (q : Nat) := (hu 2).symm.trans s2
  replace s3 : u 3 = .int .i64 (m : Nat) := (hu 3).symm.trans s3
  replace s4 : u 4 = .func (.func 27) #[] #[] := (hu 4).symm.trans s4
  replace s10 : u 10 = .int .i64 (i : Nat) := (hu 10).symm.trans s10
  rw [s0, s1, s2, s3, s4, s10]
  clear hfr hu s0 s1 s2 s3 s4 s10
  conv => arg 2; whnf
  have H : Hid _ := hQ
  have HX : Hid _ := hexit
  clear hQ hexit
  by_cases hlt : i < m
  · have l : (i : Int) < m := by omega
    go_wp2
    exact H.out _ hlt ⟨rfl, rfl⟩ ⟨rfl, rfl, rfl, rfl, rfl, rfl, trivial⟩
  · have l : ¬ ((i : Int) < m) := by omega
    go_wp2
    exact HX.out _ hlt ⟨rfl, rfl⟩ ⟨rfl, rfl, rfl, rfl, rfl, trivial⟩

set_option maxRecDepth 10000 in
set_option maxHeartbeats 1000000 in
theorem z35n (b n c p q m : Nat) (i : Nat) (a : Act) (w : World) (Q : Exit → Act → World → Prop) (hfr : Fr 38 a) (hs : Slots [(0, .slice (some ⟨b, 0, none⟩) n c), (1, .int .i64 (p : Nat)), (2, .int .i64 (q : Nat)), (3, .int .i64 (m : Nat)), (4, .func (.func 27) #[] #[]), (10, .int .i64 (i : Nat))] a)
    (hk : (i : Int) ≤ 4096) (hQ : ∀ a', Fr 38 a' → Slots [(0, .slice (some ⟨b, 0, none⟩) n c), (1, .int .i64 (p : Nat)), (2, .int .i64 (q : Nat)), (3, .int .i64 (m : Nat)), (4, .func (.func 27) #[] #[]), (10, .int .i64 (i + 1 : Nat))] a' → Q .normal a' w) :
    Code.wp Try.prog (tlC (tlC (inC (inC (tlC (bodyC Try.f35)))))) Q a w := by
  obtain ⟨u, hu, rfl⟩ := lay38 hfr
  obtain ⟨s0, s1, s2, s3, s4, s10, -⟩ := hs
  replace s0 : u 0 = .slice (some ⟨b, 0, none⟩) n c := (hu 0).symm.trans s0
  replace s1 : u 1 = .int .i64 (p : Nat) := (hu 1).symm.trans s1
  replace s2 : u 2 = .int .i64 (q : Nat) := (hu 2).symm.trans s2
  replace s3 : u 3 = .int .i64 (m : Nat) := (hu 3).symm.trans s3
  replace s4 : u 4 = .func (.func 27) #[] #[] := (hu 4).symm.trans s4
  replace s10 : u 10 = .int .i64 (i : Nat) := (hu 10).symm.trans s10
  rw [s0, s1, s2, s3, s4, s10]
  clear hfr hu s0 s1 s2 s3 s4 s10
  conv => arg 2; whnf
  have H : Hid _ := hQ
  clear hQ
  go_wp2
  exact H.out _ ⟨rfl, rfl⟩ ⟨rfl, rfl, rfl, rfl, rfl, rfl, trivial⟩

set_option maxRecDepth 10000 in
set_option maxHeartbeats 1000000 in
theorem y0 (b n c lo m hi : Nat) (i : Nat) (a : Act) (w : World) (Q : Exit → Act → World → Prop) (hfr : Fr 58 a) (hs : Slots [(0, .slice (some ⟨b, 0, none⟩) n c), (1, .int .i64 (lo : Nat)), (2, .int .i64 (m : Nat)), (3, .int .i64 (hi : Nat)), (4, .func (.func 27) #[] #[])] a)
    (he : IntKind.i64.wrap ((m : Int) - (lo : Int)) = (i : Int)) (hQ : ∀ a', Fr 58 a' → Slots [(0, .slice (some ⟨b, 0, none⟩) n c), (1, .int .i64 (lo : Nat)), (2, .int .i64 (m : Nat)), (3, .int .i64 (hi : Nat)), (4, .func (.func 27) #[] #[]), (10, .int .i64 (i : Nat))] a' → Q .normal a' w) :
    Code.wp Try.prog (nthC 0 (bodyC Try.f34)) Q a w := by
  obtain ⟨u, hu, rfl⟩ := lay58 hfr
  obtain ⟨s0, s1, s2, s3, s4, -⟩ := hs
  replace s0 : u 0 = .slice (some ⟨b, 0, none⟩) n c := (hu 0).symm.trans s0
  replace s1 : u 1 = .int .i64 (lo : Nat) := (hu 1).symm.trans s1
  replace s2 : u 2 = .int .i64 (m : Nat) := (hu 2).symm.trans s2
  replace s3 : u 3 = .int .i64 (hi : Nat) := (hu 3).symm.trans s3
  replace s4 : u 4 = .func (.func 27) #[] #[] := (hu 4).symm.trans s4
  rw [s0, s1, s2, s3, s4]
  clear hfr hu s0 s1 s2 s3 s4
  conv => arg 2; whnf
  have H : Hid _ := hQ
  clear hQ
  go_wp2
  exact H.out _ ⟨rfl, rfl⟩ ⟨rfl, rfl, rfl, rfl, rfl, rfl, trivial⟩

set_option maxRecDepth 10000 in
set_option maxHeartbeats 1000000 in
theorem y1 (b n c lo m hi : Nat) (i j : Nat) (a : Act) (w : World) (Q : Exit → Act → World → Prop) (hfr : Fr 58 a) (hs : Slots [(0, .slice (some ⟨b, 0, none⟩) n c), (1, .int .i64 (lo : Nat)), (2, .int .i64 (m : Nat)), (3, .int .i64 (hi : Nat)), (4, .func (.func 27) #[] #[]), (10, .int .i64 (i : Nat))] a)
    (hj : IntKind.i64.wrap ((hi : Int) - (m : Int)) = (j : Int)) (hQ : ∀ a', Fr 58 a' → Slots [(0, .slice (some ⟨b, 0, none⟩) n c), (1, .int .i64 (lo : Nat)), (2, .int .i64 (m : Nat)), (3, .int .i64 (hi : Nat)), (4, .func (.func 27) #[] #[]), (10, .int .i64 (i : Nat)), (11, .int .i64 (j : Nat))] a' → Q .normal a' w) :
    Code.wp Try.prog (nthC 1 (bodyC Try.f34)) Q a w := by
  obtain ⟨u, hu, rfl⟩ := lay58 hfr
  obtain ⟨s0, s1, s2, s3, s4, s10, -⟩ := hs
  replace s0 : u 0 = .slice (some ⟨b, 0, none⟩) n c := (hu 0).symm.trans s0
  replace s1 : u 1 = .int .i64 (lo : Nat) := (hu 1).symm.trans s1
  replace s2 : u 2 = .int .i64 (m : Nat) := (hu 2).symm.trans s2
  replace s3 : u 3 = .int .i64 (hi : Nat) := (hu 3).symm.trans s3
  replace s4 : u 4 = .func (.func 27) #[] #[] := (hu 4).symm.trans s4
  replace s10 : u 10 = .int .i64 (i : Nat) := (hu 10).symm.trans s10
  rw [s0, s1, s2, s3, s4, s10]
  clear hfr hu s0 s1 s2 s3 s4 s10
  conv => arg 2; whnf
  have H : Hid _ := hQ
  clear hQ
  go_wp2
  exact H.out _ ⟨rfl, rfl⟩ ⟨rfl, rfl, rfl, rfl, rfl, rfl, rfl, trivial⟩

set_option maxRecDepth 10000 in
set_option maxHeartbeats 1000000 in
theorem yh (b n c lo m hi : Nat) (i j : Nat) (a : Act) (w : World) (Q : Exit → Act → World → Prop) (hfr : Fr 58 a) (hs : Slots [(0, .slice (some ⟨b, 0, none⟩) n c), (1, .int .i64 (lo : Nat)), (2, .int .i64 (m : Nat)), (3, .int .i64 (hi : Nat)), (4, .func (.func 27) #[] #[]), (10, .int .i64 (i : Nat)), (11, .int .i64 (j : Nat))] a)
    (hQ : ∀ a', i ≠ j → Fr 58 a' → Slots [(0, .slice (some ⟨b, 0, none⟩) n c), (1, .int .i64 (lo : Nat)), (2, .int .i64 (m : Nat)), (3, .int .i64 (hi : Nat)), (4, .func (.func 27) #[] #[]), (10, .int .i64 (i : Nat)), (11, .int .i64 (j : Nat))] a' → Q .normal a' w) (hexit : ∀ a', i = j → Fr 58 a' → Slots [(0, .slice (some ⟨b, 0, none⟩) n c), (1, .int .i64 (lo : Nat)), (2, .int .i64 (m : Nat)), (3, .int .i64 (hi : Nat)), (4, .func (.func 27) #[] #[]), (10, .int .i64 (i : Nat)), (11, .int .i64 (j : Nat))] a' → Q (.exit 0) a' w) :
    Code.wp Try.prog (hdC (inC (inC (nthC 2 (bodyC Try.f34))))) Q a w := by
  obtain ⟨u, hu, rfl⟩ := lay58 hfr
  obtain ⟨s0, s1, s2, s3, s4, s10, s11, -⟩ := hs
  replace s0 : u 0 = .slice (some ⟨b, 0, none⟩) n c := (hu 0).symm.trans s0
  replace s1 : u 1 = .int .i64 (lo : Nat) := (hu 1).symm.trans s1
  replace s2 : u 2 = .int .i64 (m : Nat) := (hu 2).symm.trans s2
  replace s3 : u 3 = .int .i64 (hi : Nat) := (hu 3).symm.trans s3
  replace s4 : u 4 = .func (.func 27) #[] #[] := (hu 4).symm.trans s4
  replace s10 : u 10 = .int .i64 (i : Nat) := (hu 10).symm.trans s10
  replace s11 : u 11 = .int .i64 (j : Nat) := (hu 11).symm.trans s11
  rw [s0, s1, s2, s3, s4, s10, s11]
  clear hfr hu s0 s1 s2 s3 s4 s10 s11
  conv => arg 2; whnf
  have H : Hid _ := hQ
  have HX : Hid _ := hexit
  clear hQ hexit
  by_cases h : i = j
  · subst h
    go_wp2
    exact HX.out _ (by trivial) ⟨rfl, rfl⟩ ⟨rfl, rfl, rfl, rfl, rfl, rfl, rfl, trivial⟩
  · have g : ¬ ((i : Int) = (j : Int)) := by omega
    have HN : Hid _ := h
    clear h
    go_wp2
    exact H.out _ HN.out ⟨rfl, rfl⟩ ⟨rfl, rfl, rfl, rfl, rfl, rfl, rfl, trivial⟩

set_option maxRecDepth 10000 in
set_option maxHeartbeats 1000000 in
theorem y3 (b n c lo m hi : Nat) (i j : Nat) (a : Act) (w : World) (Q : Exit → Act → World → Prop) (hfr : Fr 58 a) (hs : Slots [(0, .slice (some ⟨b, 0, none⟩) n c), (1, .int .i64 (lo : Nat)), (2, .int .i64 (m : Nat)), (3, .int .i64 (hi : Nat)), (4, .func (.func 27) #[] #[]), (10, .int .i64 (i : Nat)), (11, .int .i64 (j : Nat))] a)
    (hQ : ∀ a', Fr 58 a' → Slots [(0, .slice (some ⟨b, 0, none⟩) n c), (1, .int .i64 (lo : Nat)), (2, .int .i64 (m : Nat)), (3, .int .i64 (hi : Nat)), (4, .func (.func 27) #[] #[]), (10, .int .i64 (i : Nat)), (11, .int .i64 (j : Nat)), (23, .bool (decide (j < i)))] a' → Q .normal a' w) :
    Code.wp Try.prog (hdC (inC (tlC (inC (inC (nthC 2 (bodyC Try.f34))))))) Q a w := by
  obtain ⟨u, hu, rfl⟩ := lay58 hfr
  obtain ⟨s0, s1, s2, s3, s4, s10, s11, -⟩ := hs
  replace s0 : u 0 = .slice (some ⟨b, 0, none⟩) n c := (hu 0).symm.trans s0
  replace s1 : u 1 = .int .i64 (lo : Nat) := (hu 1).symm.trans s1
  replace s2 : u 2 = .int .i64 (m : Nat) := (hu 2).symm.trans s2
  replace s3 : u 3 = .int .i64 (hi : Nat) := (hu 3).symm.trans s3
  replace s4 : u 4 = .func (.func 27) #[] #[] := (hu 4).symm.trans s4
  replace s10 : u 10 = .int .i64 (i : Nat) := (hu 10).symm.trans s10
  replace s11 : u 11 = .int .i64 (j : Nat) := (hu 11).symm.trans s11
  rw [s0, s1, s2, s3, s4, s10, s11]
  clear hfr hu s0 s1 s2 s3 s4 s10 s11
  conv => arg 2; whnf
  have H : Hid _ := hQ
  clear hQ
  go_wp2
  exact H.out _ ⟨rfl, rfl⟩ ⟨rfl, rfl, rfl, rfl, rfl, rfl, rfl, rfl, trivial⟩

set_option maxRecDepth 10000 in
set_option maxHeartbeats 1000000 in
theorem y4 (b n c lo m hi : Nat) (i j : Nat) (mi ij : Nat) (G : World → Prop) (a : Act) (w : World) (Q : Exit → Act → World → Prop) (hfr : Fr 58 a) (hs : Slots [(0, .slice (some ⟨b, 0, none⟩) n c), (1, .int .i64 (lo : Nat)), (2, .int .i64 (m : Nat)), (3, .int .i64 (hi : Nat)), (4, .func (.func 27) #[] #[]), (10, .int .i64 (i : Nat)), (11, .int .i64 (j : Nat))] a)
    (e1 : IntKind.i64.wrap ((m : Int) - (i : Int)) = (mi : Int)) (e2 : IntKind.i64.wrap ((i : Int) - (j : Int)) = (ij : Int)) (hcall : Calls Try.prog 35 #[.slice (some ⟨b, 0, none⟩) n c, .int .i64 (mi : Nat), .int .i64 (m : Nat), .int .i64 (j : Nat), .func (.func 27) #[] #[]] w fun e w' => e = .returned (.tuple #[]) ∧ G w') (hQ : ∀ a' w', G w' → Fr 58 a' → Slots [(0, .slice (some ⟨b, 0, none⟩) n c), (1, .int .i64 (lo : Nat)), (2, .int .i64 (m : Nat)), (3, .int .i64 (hi : Nat)), (4, .func (.func 27) #[] #[]), (10, .int .i64 (ij : Nat)), (11, .int .i64 (j : Nat))] a' → Q .normal a' w') :
    Code.wp Try.prog (thC (tlC (inC (tlC (inC (inC (nthC 2 (bodyC Try.f34)))))))) Q a w := by
  obtain ⟨u, hu, rfl⟩ := lay58 hfr
  obtain ⟨s0, s1, s2, s3, s4, s10, s11, -⟩ := hs
  replace s0 : u 0 = .slice (some ⟨b, 0, none⟩) n c := (hu 0).symm.trans s0
  replace s1 : u 1 = .int .i64 (lo : Nat) := (hu 1).symm.trans s1
  replace s2 : u 2 = .int .i64 (m : Nat) := (hu 2).symm.trans s2
  replace s3 : u 3 = .int .i64 (hi : Nat) := (hu 3).symm.trans s3
  replace s4 : u 4 = .func (.func 27) #[] #[] := (hu 4).symm.trans s4
  replace s10 : u 10 = .int .i64 (i : Nat) := (hu 10).symm.trans s10
  replace s11 : u 11 = .int .i64 (j : Nat) := (hu 11).symm.trans s11
  rw [s0, s1, s2, s3, s4, s10, s11]
  clear hfr hu s0 s1 s2 s3 s4 s10 s11
  conv => arg 2; whnf
  have HC : Hid _ := hcall
  clear hcall
  have H : Hid _ := hQ
  clear hQ
  go_wp2_with (go_at_call 35; refine Calls.mono HC.out ?_; rintro e w' ⟨rfl, hG⟩)
  exact H.out _ _ hG ⟨rfl, rfl⟩ ⟨rfl, rfl, rfl, rfl, rfl, rfl, rfl, trivial⟩

set_option maxRecDepth 10000 in
set_option maxHeartbeats 1000000 in
theorem y6 (b n c lo m hi : Nat) (i j : Nat) (mi mj mji ji : Nat) (G : World → Prop) (a : Act) (w : World) (Q : Exit → Act → World → Prop) (hfr : Fr 58 a) (hs : Slots [(0, .slice (some ⟨b, 0, none⟩) n c), (1, .int .i64 (lo : Nat)), (2, .int .i64 (m : Nat)), (3, .int .i64 (hi : Nat)), (4, .func (.func 27) #[] #[]), (10, .int .i64 (i : Nat)), (11, .int .i64 (j : Nat))] a)
    (e1 : IntKind.i64.wrap ((m : Int) - (i : Int)) = (mi : Int)) (e2 : IntKind.i64.wrap ((m : Int) + (j : Int)) = (mj : Int)) (e3 : IntKind.i64.wrap ((mj : Int) - (i : Int)) = (mji : Int)) (e4 : IntKind.i64.wrap ((j : Int) - (i : Int)) = (ji : Int)) (hcall : Calls Try.prog 35 #[.slice (some ⟨b, 0, none⟩) n c, .int .i64 (mi : Nat), .int .i64 (mji : Nat), .int .i64 (i : Nat), .func (.func 27) #[] #[]] w fun e w' => e = .returned (.tuple #[]) ∧ G w') (hQ : ∀ a' w', G w' → Fr 58 a' → Slots [(0, .slice (some ⟨b, 0, none⟩) n c), (1, .int .i64 (lo : Nat)), (2, .int .i64 (m : Nat)), (3, .int .i64 (hi : Nat)), (4, .func (.func 27) #[] #[]), (10, .int .i64 (i : Nat)), (11, .int .i64 (ji : Nat))] a' → Q .normal a' w') :
    Code.wp Try.prog (elC (tlC (inC (tlC (inC (inC (nthC 2 (bodyC Try.f34)))))))) Q a w := by
  obtain ⟨u, hu, rfl⟩ := lay58 hfr
  obtain ⟨s0, s1, s2, s3, s4, s10, s11, -⟩ := hs
  replace s0 : u 0 = .slice (some ⟨b, 0, none⟩) n c := (hu 0).symm.trans s0
  replace s1 : u 1 = .int .i64 (lo : Nat) := (hu 1).symm.trans s1
  replace s2 : u 2 = .int .i64 (m : Nat) := (hu 2).symm.trans s2
  replace s3 : u 3 = .int .i64 (hi : Nat) := (hu 3).symm.trans s3
  replace s4 : u 4 = .func (.func 27) #[] #[] := (hu 4).symm.trans s4
  replace s10 : u 10 = .int .i64 (i : Nat) := (hu 10).symm.trans s10
  replace s11 : u 11 = .int .i64 (j : Nat) := (hu 11).symm.trans s11
  rw [s0, s1, s2, s3, s4, s10, s11]
  clear hfr hu s0 s1 s2 s3 s4 s10 s11
  conv => arg 2; whnf
  have HC : Hid _ := hcall
  clear hcall
  have H : Hid _ := hQ
  clear hQ
  go_wp2_with (go_at_call 35; refine Calls.mono HC.out ?_; rintro e w' ⟨rfl, hG⟩)
  exact H.out _ _ hG ⟨rfl, rfl⟩ ⟨rfl, rfl, rfl, rfl, rfl, rfl, rfl, trivial⟩

set_option maxRecDepth 10000 in
set_option maxHeartbeats 1000000 in
theorem y8 (b n c lo m hi : Nat) (i mi : Nat) (G : World → Prop) (a : Act) (w : World) (Q : Exit → Act → World → Prop) (hfr : Fr 58 a) (hs : Slots [(0, .slice (some ⟨b, 0, none⟩) n c), (1, .int .i64 (lo : Nat)), (2, .int .i64 (m : Nat)), (3, .int .i64 (hi : Nat)), (4, .func (.func 27) #[] #[]), (10, .int .i64 (i : Nat))] a)
    (e1 : IntKind.i64.wrap ((m : Int) - (i : Int)) = (mi : Int)) (hcall : Calls Try.prog 35 #[.slice (some ⟨b, 0, none⟩) n c, .int .i64 (mi : Nat), .int .i64 (m : Nat), .int .i64 (i : Nat), .func (.func 27) #[] #[]] w fun e w' => e = .returned (.tuple #[]) ∧ G w') (hQ : ∀ a' w', G w' → Fr 58 a' → Slots [(0, .slice (some ⟨b, 0, none⟩) n c), (1, .int .i64 (lo : Nat)), (2, .int .i64 (m : Nat)), (3, .int .i64 (hi : Nat)), (4, .func (.func 27) #[] #[])] a' → Q .normal a' w') :
    Code.wp Try.prog (dropC 3 (bodyC Try.f34)) Q a w := by
  obtain ⟨u, hu, rfl⟩ := lay58 hfr
  obtain ⟨s0, s1, s2, s3, s4, s10, -⟩ := hs
  replace s0 : u 0 = .slice (some ⟨b, 0, none⟩) n c := (hu 0).symm.trans s0
  replace s1 : u 1 = .int .i64 (lo : Nat) := (hu 1).symm.trans s1
  replace s2 : u 2 = .int .i64 (m : Nat) := (hu 2).symm.trans s2
  replace s3 : u 3 = .int .i64 (hi : Nat) := (hu 3).symm.trans s3
  replace s4 : u 4 = .func (.func 27) #[] #[] := (hu 4).symm.trans s4
  replace s10 : u 10 = .int .i64 (i : Nat) := (hu 10).symm.trans s10
  rw [s0, s1, s2, s3, s4, s10]
  clear hfr hu s0 s1 s2 s3 s4 s10
  conv => arg 2; whnf
  have HC : Hid _ := hcall
  clear hcall
  have H : Hid _ := hQ
  clear hQ
  go_wp2_with (go_at_call 35; refine Calls.mono HC.out ?_; rintro e w' ⟨rfl, hG⟩)
  exact H.out _ _ hG ⟨rfl, rfl⟩ ⟨rfl, rfl, rfl, rfl, rfl, trivial⟩

set_option maxRecDepth 10000 in
set_option maxHeartbeats 1000000 in
theorem i0 (b n c lo hi : Nat) (a : Act) (w : World) (Q : Exit → Act → World → Prop) (hfr : Fr 53 a) (hs : Slots [(0, .slice (some ⟨b, 0, none⟩) n c), (1, .int .i64 (lo : Nat)), (2, .int .i64 (hi : Nat)), (3, .func (.func 27) #[] #[])] a)
    (hk : (lo : Int) ≤ 4096) (hQ : ∀ a', Fr 53 a' → Slots [(0, .slice (some ⟨b, 0, none⟩) n c), (1, .int .i64 (lo : Nat)), (2, .int .i64 (hi : Nat)), (3, .func (.func 27) #[] #[]), (8, .int .i64 (lo + 1 : Nat))] a' → Q .normal a' w) :
    Code.wp Try.prog (hdC (bodyC Try.f31)) Q a w := by
  obtain ⟨u, hu, rfl⟩ := lay53 hfr
  obtain ⟨s0, s1, s2, s3, -⟩ := hs
  replace s0 : u 0 = .slice (some ⟨b, 0, none⟩) n c := (hu 0).symm.trans s0
  replace s1 : u 1 = .int .i64 (lo : Nat) := (hu 1).symm.trans s1
  replace s2 : u 2 = .int .i64 (hi : Nat) := (hu 2).symm.trans s2
  replace s3 : u 3 = .func (.func 27) #[] #[] := (hu 3).symm.trans s3
  rw [s0, s1, s2, s3]
  clear hfr hu s0 s1 s2 s3
  conv => arg 2; whnf
  have H : Hid _ := hQ
  clear hQ
  go_wp2
  exact H.out _ ⟨rfl, rfl⟩ ⟨rfl, rfl, rfl, rfl, rfl, trivial⟩

set_option maxRecDepth 10000 in
set_option maxHeartbeats 1000000 in
theorem i1h (b n c lo hi : Nat) (i : Nat) (a : Act) (w : World) (Q : Exit → Act → World → Prop) (hfr : Fr 53 a) (hs : Slots [(0, .slice (some ⟨b, 0, none⟩) n c), (1, .int .i64 (lo : Nat)), (2, .int .i64 (hi : Nat)), (3, .func (.func 27) #[] #[]), (8, .int .i64 (i : Nat))] a)
    (hQ : ∀ a', i < hi → Fr 53 a' → Slots [(0, .slice (some ⟨b, 0, none⟩) n c), (1, .int .i64 (lo : Nat)), (2, .int .i64 (hi : Nat)), (3, .func (.func 27) #[] #[]), (8, .int .i64 (i : Nat))] a' → Q .normal a' w) (hexit : ∀ a', ¬ i < hi → Fr 53 a' → Slots [(0, .slice (some ⟨b, 0, none⟩) n c), (1, .int .i64 (lo : Nat)), (2, .int .i64 (hi : Nat)), (3, .func (.func 27) #[] #[])] a' → Q (.exit 0) a' w) :
    Code.wp Try.prog (hdC (inC (inC (tlC (bodyC Try.f31))))) Q a w := by
  obtain ⟨u, hu, rfl⟩ := lay53 hfr
  obtain ⟨s0, s1, s2, s3, s8, -⟩ := hs
  replace s0 : u 0 = .slice (some ⟨b, 0, none⟩) n c := (hu 0).symm.trans s0
  replace s1 : u 1 = .int .i64 (lo : Nat) := (hu 1).symm.trans s1
  replace s2 : u 2 = .int .i64 (hi : Nat) := (hu 2).symm.trans s2
  replace s3 : u 3 = .func (.func 27) #[] #[] := (hu 3).symm.trans s3
  replace s8 : u 8 = .int .i64 (i : Nat) := (hu 8).symm.trans s8
  rw [s0, s1, s2, s3, s8]
  clear hfr hu s0 s1 s2 s3 s8
  conv => arg 2; whnf
  have H : Hid _ := hQ
  have HX : Hid _ := hexit
  clear hQ hexit
  by_cases hlt : i < hi
  · have l : (i : Int) < hi := by omega
    go_wp2
    exact H.out _ hlt ⟨rfl, rfl⟩ ⟨rfl, rfl, rfl, rfl, rfl, trivial⟩
  · have l : ¬ ((i : Int) < hi) := by omega
    go_wp2
    exact HX.out _ hlt ⟨rfl, rfl⟩ ⟨rfl, rfl, rfl, rfl, trivial⟩

set_option maxRecDepth 10000 in
set_option maxHeartbeats 1000000 in
theorem i2 (b n c lo hi : Nat) (i : Nat) (a : Act) (w : World) (Q : Exit → Act → World → Prop) (hfr : Fr 53 a) (hs : Slots [(0, .slice (some ⟨b, 0, none⟩) n c), (1, .int .i64 (lo : Nat)), (2, .int .i64 (hi : Nat)), (3, .func (.func 27) #[] #[]), (8, .int .i64 (i : Nat))] a)
    (hk : (i : Int) ≤ 4096) (hQ : ∀ a', Fr 53 a' → Slots [(0, .slice (some ⟨b, 0, none⟩) n c), (1, .int .i64 (lo : Nat)), (2, .int .i64 (hi : Nat)), (3, .func (.func 27) #[] #[]), (8, .int .i64 (i + 1 : Nat))] a' → Q .normal a' w) :
    Code.wp Try.prog (tlC (tlC (inC (inC (tlC (bodyC Try.f31)))))) Q a w := by
  obtain ⟨u, hu, rfl⟩ := lay53 hfr
  obtain ⟨s0, s1, s2, s3, s8, -⟩ := hs
  replace s0 : u 0 = .slice (some ⟨b, 0, none⟩) n c := (hu 0).symm.trans s0
  replace s1 : u 1 = .int .i64 (lo : Nat) := (hu 1).symm.trans s1
  replace s2 : u 2 = .int .i64 (hi : Nat) := (hu 2).symm.trans s2
  replace s3 : u 3 = .func (.func 27) #[] #[] := (hu 3).symm.trans s3
  replace s8 : u 8 = .int .i64 (i : Nat) := (hu 8).symm.trans s8
  rw [s0, s1, s2, s3, s8]
  clear hfr hu s0 s1 s2 s3 s8
  conv => arg 2; whnf
  have H : Hid _ := hQ
  clear hQ
  go_wp2
  exact H.out _ ⟨rfl, rfl⟩ ⟨rfl, rfl, rfl, rfl, rfl, trivial⟩

set_option maxRecDepth 10000 in
set_option maxHeartbeats 1000000 in
theorem i3 (b n c lo hi : Nat) (i : Nat) (a : Act) (w : World) (Q : Exit → Act → World → Prop) (hfr : Fr 53 a) (hs : Slots [(0, .slice (some ⟨b, 0, none⟩) n c), (1, .int .i64 (lo : Nat)), (2, .int .i64 (hi : Nat)), (3, .func (.func 27) #[] #[]), (8, .int .i64 (i : Nat))] a)
    (hQ : ∀ a', Fr 53 a' → Slots [(0, .slice (some ⟨b, 0, none⟩) n c), (1, .int .i64 (lo : Nat)), (2, .int .i64 (hi : Nat)), (3, .func (.func 27) #[] #[]), (8, .int .i64 (i : Nat)), (9, .int .i64 (i : Nat))] a' → Q .normal a' w) :
    Code.wp Try.prog (hdC (inC (hdC (tlC (inC (inC (tlC (bodyC Try.f31)))))))) Q a w := by
  obtain ⟨u, hu, rfl⟩ := lay53 hfr
  obtain ⟨s0, s1, s2, s3, s8, -⟩ := hs
  replace s0 : u 0 = .slice (some ⟨b, 0, none⟩) n c := (hu 0).symm.trans s0
  replace s1 : u 1 = .int .i64 (lo : Nat) := (hu 1).symm.trans s1
  replace s2 : u 2 = .int .i64 (hi : Nat) := (hu 2).symm.trans s2
  replace s3 : u 3 = .func (.func 27) #[] #[] := (hu 3).symm.trans s3
  replace s8 : u 8 = .int .i64 (i : Nat) := (hu 8).symm.trans s8
  rw [s0, s1, s2, s3, s8]
  clear hfr hu s0 s1 s2 s3 s8
  conv => arg 2; whnf
  have H : Hid _ := hQ
  clear hQ
  go_wp2
  exact H.out _ ⟨rfl, rfl⟩ ⟨rfl, rfl, rfl, rfl, rfl, rfl, trivial⟩

set_option maxRecDepth 10000 in
set_option maxHeartbeats 1000000 in
theorem i4z (b n c lo hi : Nat) (i j : Nat) (a : Act) (w : World) (Q : Exit → Act → World → Prop) (hfr : Fr 53 a) (hs : Slots [(0, .slice (some ⟨b, 0, none⟩) n c), (1, .int .i64 (lo : Nat)), (2, .int .i64 (hi : Nat)), (3, .func (.func 27) #[] #[]), (8, .int .i64 (i : Nat)), (9, .int .i64 (j : Nat))] a)
    (hj : ¬ ((lo : Int) < (j : Int))) (hQ : ∀ a' q, Fr 53 a' → Slots [(0, .slice (some ⟨b, 0, none⟩) n c), (1, .int .i64 (lo : Nat)), (2, .int .i64 (hi : Nat)), (3, .func (.func 27) #[] #[]), (8, .int .i64 (i : Nat)), (9, .int .i64 (j : Nat)), (34, .bool false)] a' → Q .normal a' (w.drewN q)) :
    Code.wp Try.prog (hdC (hdC (inC (inC (tlC (inC (hdC (tlC (inC (inC (tlC (bodyC Try.f31)))))))))))) Q a w := by
  obtain ⟨u, hu, rfl⟩ := lay53 hfr
  obtain ⟨s0, s1, s2, s3, s8, s9, -⟩ := hs
  replace s0 : u 0 = .slice (some ⟨b, 0, none⟩) n c := (hu 0).symm.trans s0
  replace s1 : u 1 = .int .i64 (lo : Nat) := (hu 1).symm.trans s1
  replace s2 : u 2 = .int .i64 (hi : Nat) := (hu 2).symm.trans s2
  replace s3 : u 3 = .func (.func 27) #[] #[] := (hu 3).symm.trans s3
  replace s8 : u 8 = .int .i64 (i : Nat) := (hu 8).symm.trans s8
  replace s9 : u 9 = .int .i64 (j : Nat) := (hu 9).symm.trans s9
  rw [s0, s1, s2, s3, s8, s9]
  clear hfr hu s0 s1 s2 s3 s8 s9
  conv => arg 2; whnf
  have H : Hid _ := hQ
  clear hQ
  have hd : decide (lo < j) = false := by simp; omega
  have hd2 : decide ((lo : Int) < (j : Int)) = false := by simpa using hj
  go_wp2_with fail
  go_quiet (fail)
  go_wp2
  exact H.out _ _ ⟨rfl, rfl⟩ ⟨rfl, rfl, rfl, rfl, rfl, rfl, rfl, trivial⟩

set_option maxRecDepth 10000 in
set_option maxHeartbeats 1000000 in
theorem i5 (b n c lo hi : Nat) (i j : Nat) (j1 : Nat) (a : Act) (w : World) (Q : Exit → Act → World → Prop) (hfr : Fr 53 a) (hs : Slots [(0, .slice (some ⟨b, 0, none⟩) n c), (1, .int .i64 (lo : Nat)), (2, .int .i64 (hi : Nat)), (3, .func (.func 27) #[] #[]), (8, .int .i64 (i : Nat)), (9, .int .i64 (j : Nat))] a)
    (hj : IntKind.i64.wrap ((j : Int) - 1) = (j1 : Int)) (hQ : ∀ a', Fr 53 a' → Slots [(0, .slice (some ⟨b, 0, none⟩) n c), (1, .int .i64 (lo : Nat)), (2, .int .i64 (hi : Nat)), (3, .func (.func 27) #[] #[]), (8, .int .i64 (i : Nat)), (9, .int .i64 (j1 : Nat))] a' → Q .normal a' w) :
    Code.wp Try.prog (tlC (tlC (inC (inC (tlC (inC (hdC (tlC (inC (inC (tlC (bodyC Try.f31)))))))))))) Q a w := by
  obtain ⟨u, hu, rfl⟩ := lay53 hfr
  obtain ⟨s0, s1, s2, s3, s8, s9, -⟩ := hs
  replace s0 : u 0 = .slice (some ⟨b, 0, none⟩) n c := (hu 0).symm.trans s0
  replace s1 : u 1 = .int .i64 (lo : Nat) := (hu 1).symm.trans s1
  replace s2 : u 2 = .int .i64 (hi : Nat) := (hu 2).symm.trans s2
  replace s3 : u 3 = .func (.func 27) #[] #[] := (hu 3).symm.trans s3
  replace s8 : u 8 = .int .i64 (i : Nat) := (hu 8).symm.trans s8
  replace s9 : u 9 = .int .i64 (j : Nat) := (hu 9).symm.trans s9
  rw [s0, s1, s2, s3, s8, s9]
  clear hfr hu s0 s1 s2 s3 s8 s9
  conv => arg 2; whnf
  have H : Hid _ := hQ
  clear hQ
  go_wp2
  exact H.out _ ⟨rfl, rfl⟩ ⟨rfl, rfl, rfl, rfl, rfl, rfl, trivial⟩

end Go.Proofs.Qxb6601010a
