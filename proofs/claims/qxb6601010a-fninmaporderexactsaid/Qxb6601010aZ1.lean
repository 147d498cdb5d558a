import Derived.Test.Qxb6601010aU2
namespace Go.Proofs.Qxb6601010a
open Go.RowKit
set_option linter.unusedSimpArgs false
set_option linter.unusedVariables false

set_option maxRecDepth 10000 in
set_option maxHeartbeats 1000000 in
theorem b0 (b n c : Nat) (a : Act) (w : World) (Q : Exit → Act → World → Prop) (hfr : Fr 63 a) (hs : Slots [(0, .slice (some ⟨b, 0, none⟩) n c), (1, .int .i64 (n : Nat)), (2, .func (.func 27) #[] #[])] a)
    (hQ : ∀ a', Fr 63 a' → Slots [(0, .slice (some ⟨b, 0, none⟩) n c), (1, .int .i64 (n : Nat)), (2, .func (.func 27) #[] #[]), (6, .int .i64 (20 : Nat))] a' → Q .normal a' w) :
    Code.wp Try.prog (nthC 0 (bodyC Try.f29)) Q a w := by
  obtain ⟨u, hu, rfl⟩ := lay63 hfr
  obtain ⟨s0, s1, s2, -⟩ := hs
  replace s0 : u 0 = .slice (some ⟨b, 0, none⟩) n c := (hu 0).symm.trans s0
  replace s1 : u 1 = .int .i64 (n : Nat) := (hu 1).symm.trans s1
  replace s2 : u 2 = .func (.func 27) #[] #[] := (hu 2).symm.trans s2
  rw [s0, s1, s2]
  clear hfr hu s0 s1 s2
  conv => arg 2; whnf
  have H : Hid _ := hQ
  clear hQ
  go_wp2
  exact H.out _ ⟨rfl, rfl⟩ ⟨rfl, rfl, rfl, rfl, trivial⟩

set_option maxRecDepth 10000 in
set_option maxHeartbeats 1000000 in
theorem b1 (b n c : Nat) (bs : Nat) (a : Act) (w : World) (Q : Exit → Act → World → Prop) (hfr : Fr 63 a) (hs : Slots [(0, .slice (some ⟨b, 0, none⟩) n c), (1, .int .i64 (n : Nat)), (2, .func (.func 27) #[] #[]), (6, .int .i64 (bs : Nat))] a)
    (hQ : ∀ a', Fr 63 a' → Slots [(0, .slice (some ⟨b, 0, none⟩) n c), (1, .int .i64 (n : Nat)), (2, .func (.func 27) #[] #[]), (6, .int .i64 (bs : Nat)), (7, .int .i64 (0 : Nat)), (8, .int .i64 (bs : Nat))] a' → Q .normal a' w) :
    Code.wp Try.prog (nthC 1 (bodyC Try.f29)) Q a w := by
  obtain ⟨u, hu, rfl⟩ := lay63 hfr
  obtain ⟨s0, s1, s2, s6, -⟩ := hs
  replace s0 : u 0 = .slice (some ⟨b, 0, none⟩) n c := (hu 0).symm.trans s0
  replace s1 : u 1 = .int .i64 (n : Nat) := (hu 1).symm.trans s1
  replace s2 : u 2 = .func (.func 27) #[] #[] := (hu 2).symm.trans s2
  replace s6 : u 6 = .int .i64 (bs : Nat) := (hu 6).symm.trans s6
  rw [s0, s1, s2, s6]
  clear hfr hu s0 s1 s2 s6
  conv => arg 2; whnf
  have H : Hid _ := hQ
  clear hQ
  go_wp2
  exact H.out _ ⟨rfl, rfl⟩ ⟨rfl, rfl, rfl, rfl, rfl, rfl, trivial⟩

set_option maxRecDepth 10000 in
set_option maxHeartbeats 1000000 in
theorem b2h (b n c : Nat) (bs : Nat) (lo hi : Nat) (a : Act) (w : World) (Q : Exit → Act → World → Prop) (hfr : Fr 63 a) (hs : Slots [(0, .slice (some ⟨b, 0, none⟩) n c), (1, .int .i64 (n : Nat)), (2, .func (.func 27) #[] #[]), (6, .int .i64 (bs : Nat)), (7, .int .i64 (lo : Nat)), (8, .int .i64 (hi : Nat))] a)
    (hQ : ∀ a', hi ≤ n → Fr 63 a' → Slots [(0, .slice (some ⟨b, 0, none⟩) n c), (1, .int .i64 (n : Nat)), (2, .func (.func 27) #[] #[]), (6, .int .i64 (bs : Nat)), (7, .int .i64 (lo : Nat)), (8, .int .i64 (hi : Nat))] a' → Q .normal a' w) (hexit : ∀ a', ¬ hi ≤ n → Fr 63 a' → Slots [(0, .slice (some ⟨b, 0, none⟩) n c), (1, .int .i64 (n : Nat)), (2, .func (.func 27) #[] #[]), (6, .int .i64 (bs : Nat)), (7, .int .i64 (lo : Nat)), (8, .int .i64 (hi : Nat))] a' → Q (.exit 0) a' w) :
    Code.wp Try.prog (hdC (inC (inC (nthC 2 (bodyC Try.f29))))) Q a w := by
  obtain ⟨u, hu, rfl⟩ := lay63 hfr
  obtain ⟨s0, s1, s2, s6, s7, s8, -⟩ := hs
  replace s0 : u 0 = .slice (some ⟨b, 0, none⟩) n c := (hu 0).symm.trans s0
  replace s1 : u 1 = .int .i64 (n : Nat) := (hu 1).symm.trans s1
  replace s2 : u 2 = .func (.func 27) #[] #[] := (hu 2).symm.trans s2
  replace s6 : u 6 = .int .i64 (bs : Nat) := (hu 6).symm.trans s6
  replace s7 : u 7 = .int .i64 (lo : Nat) := (hu 7).symm.trans s7
  replace s8 : u 8 = .int .i64 (hi : Nat) := (hu 8).symm.trans s8
  rw [s0, s1, s2, s6, s7, s8]
  clear hfr hu s0 s1 s2 s6 s7 s8
  conv => arg 2; whnf
  have H : Hid _ := hQ
  have HX : Hid _ := hexit
  clear hQ hexit
  by_cases hlt : hi ≤ n
  · have l : (hi : Int) ≤ n := by omega
    go_wp2
    exact H.out _ hlt ⟨rfl, rfl⟩ ⟨rfl, rfl, rfl, rfl, rfl, rfl, trivial⟩
  · have l : ¬ ((hi : Int) ≤ n) := by omega
    go_wp2
    exact HX.out _ hlt ⟨rfl, rfl⟩ ⟨rfl, rfl, rfl, rfl, rfl, rfl, trivial⟩

set_option maxRecDepth 10000 in
set_option maxHeartbeats 1000000 in
theorem b3 (b n c : Nat) (bs : Nat) (lo hi : Nat) (G : World → Prop) (a : Act) (w : World) (Q : Exit → Act → World → Prop) (hfr : Fr 63 a) (hs : Slots [(0, .slice (some ⟨b, 0, none⟩) n c), (1, .int .i64 (n : Nat)), (2, .func (.func 27) #[] #[]), (6, .int .i64 (bs : Nat)), (7, .int .i64 (lo : Nat)), (8, .int .i64 (hi : Nat))] a)
    (hcall : Calls Try.prog 31 #[.slice (some ⟨b, 0, none⟩) n c, .int .i64 (lo : Nat), .int .i64 (hi : Nat), .func (.func 27) #[] #[]] w fun e w' => e = .returned (.tuple #[]) ∧ G w') (hQ : ∀ a' w', G w' → Fr 63 a' → Slots [(0, .slice (some ⟨b, 0, none⟩) n c), (1, .int .i64 (n : Nat)), (2, .func (.func 27) #[] #[]), (6, .int .i64 (bs : Nat)), (7, .int .i64 (lo : Nat)), (8, .int .i64 (hi : Nat))] a' → Q .normal a' w') :
    Code.wp Try.prog (nthC 0 (inC (tlC (inC (inC (nthC 2 (bodyC Try.f29))))))) Q a w := by
  obtain ⟨u, hu, rfl⟩ := lay63 hfr
  obtain ⟨s0, s1, s2, s6, s7, s8, -⟩ := hs
  replace s0 : u 0 = .slice (some ⟨b, 0, none⟩) n c := (hu 0).symm.trans s0
  replace s1 : u 1 = .int .i64 (n : Nat) := (hu 1).symm.trans s1
  replace s2 : u 2 = .func (.func 27) #[] #[] := (hu 2).symm.trans s2
  replace s6 : u 6 = .int .i64 (bs : Nat) := (hu 6).symm.trans s6
  replace s7 : u 7 = .int .i64 (lo : Nat) := (hu 7).symm.trans s7
  replace s8 : u 8 = .int .i64 (hi : Nat) := (hu 8).symm.trans s8
  rw [s0, s1, s2, s6, s7, s8]
  clear hfr hu s0 s1 s2 s6 s7 s8
  conv => arg 2; whnf
  have HC : Hid _ := hcall
  clear hcall
  have H : Hid _ := hQ
  clear hQ
  go_wp2_with (go_at_call 31; refine Calls.mono HC.out ?_; rintro e w' ⟨rfl, hG⟩)
  exact H.out _ _ hG ⟨rfl, rfl⟩ ⟨rfl, rfl, rfl, rfl, rfl, rfl, trivial⟩

set_option maxRecDepth 10000 in
set_option maxHeartbeats 1000000 in
theorem b4 (b n c : Nat) (bs : Nat) (lo hi : Nat) (a : Act) (w : World) (Q : Exit → Act → World → Prop) (hfr : Fr 63 a) (hs : Slots [(0, .slice (some ⟨b, 0, none⟩) n c), (1, .int .i64 (n : Nat)), (2, .func (.func 27) #[] #[]), (6, .int .i64 (bs : Nat)), (7, .int .i64 (lo : Nat)), (8, .int .i64 (hi : Nat))] a)
    (hQ : ∀ a', Fr 63 a' → Slots [(0, .slice (some ⟨b, 0, none⟩) n c), (1, .int .i64 (n : Nat)), (2, .func (.func 27) #[] #[]), (6, .int .i64 (bs : Nat)), (7, .int .i64 (hi : Nat)), (8, .int .i64 (hi : Nat))] a' → Q .normal a' w) :
    Code.wp Try.prog (nthC 1 (inC (tlC (inC (inC (nthC 2 (bodyC Try.f29))))))) Q a w := by
  obtain ⟨u, hu, rfl⟩ := lay63 hfr
  obtain ⟨s0, s1, s2, s6, s7, s8, -⟩ := hs
  replace s0 : u 0 = .slice (some ⟨b, 0, none⟩) n c := (hu 0).symm.trans s0
  replace s1 : u 1 = .int .i64 (n : Nat) := (hu 1).symm.trans s1
  replace s2 : u 2 = .func (.func 27) #[] #[] := (hu 2).symm.trans s2
  replace s6 : u 6 = .int .i64 (bs : Nat) := (hu 6).symm.trans s6
  replace s7 : u 7 = .int .i64 (lo : Nat) := (hu 7).symm.trans s7
  replace s8 : u 8 = .int .i64 (hi : Nat) := (hu 8).symm.trans s8
  rw [s0, s1, s2, s6, s7, s8]
  clear hfr hu s0 s1 s2 s6 s7 s8
  conv => arg 2; whnf
  have H : Hid _ := hQ
  clear hQ
  go_wp2
  exact H.out _ ⟨rfl, rfl⟩ ⟨rfl, rfl, rfl, rfl, rfl, rfl, trivial⟩

set_option maxRecDepth 10000 in
set_option maxHeartbeats 1000000 in
theorem b5 (b n c : Nat) (bs : Nat) (lo hi : Nat) (h2 : Nat) (a : Act) (w : World) (Q : Exit → Act → World → Prop) (hfr : Fr 63 a) (hs : Slots [(0, .slice (some ⟨b, 0, none⟩) n c), (1, .int .i64 (n : Nat)), (2, .func (.func 27) #[] #[]), (6, .int .i64 (bs : Nat)), (7, .int .i64 (lo : Nat)), (8, .int .i64 (hi : Nat))] a)
    (hh : IntKind.i64.wrap ((hi : Int) + (bs : Int)) = (h2 : Int)) (hQ : ∀ a', Fr 63 a' → Slots [(0, .slice (some ⟨b, 0, none⟩) n c), (1, .int .i64 (n : Nat)), (2, .func (.func 27) #[] #[]), (6, .int .i64 (bs : Nat)), (7, .int .i64 (lo : Nat)), (8, .int .i64 (h2 : Nat))] a' → Q .normal a' w) :
    Code.wp Try.prog (dropC 2 (inC (tlC (inC (inC (nthC 2 (bodyC Try.f29))))))) Q a w := by
  obtain ⟨u, hu, rfl⟩ := lay63 hfr
  obtain ⟨s0, s1, s2, s6, s7, s8, -⟩ := hs
  replace s0 : u 0 = .slice (some ⟨b, 0, none⟩) n c := (hu 0).symm.trans s0
  replace s1 : u 1 = .int .i64 (n : Nat) := (hu 1).symm.trans s1
  replace s2 : u 2 = .func (.func 27) #[] #[] := (hu 2).symm.trans s2
  replace s6 : u 6 = .int .i64 (bs : Nat) := (hu 6).symm.trans s6
  replace s7 : u 7 = .int .i64 (lo : Nat) := (hu 7).symm.trans s7
  replace s8 : u 8 = .int .i64 (hi : Nat) := (hu 8).symm.trans s8
  rw [s0, s1, s2, s6, s7, s8]
  clear hfr hu s0 s1 s2 s6 s7 s8
  conv => arg 2; whnf
  have H : Hid _ := hQ
  clear hQ
  go_wp2
  exact H.out _ ⟨rfl, rfl⟩ ⟨rfl, rfl, rfl, rfl, rfl, rfl, trivial⟩

set_option maxRecDepth 10000 in
set_option maxHeartbeats 1000000 in
theorem b6 (b n c : Nat) (bs : Nat) (lo hi : Nat) (G : World → Prop) (a : Act) (w : World) (Q : Exit → Act → World → Prop) (hfr : Fr 63 a) (hs : Slots [(0, .slice (some ⟨b, 0, none⟩) n c), (1, .int .i64 (n : Nat)), (2, .func (.func 27) #[] #[]), (6, .int .i64 (bs : Nat)), (7, .int .i64 (lo : Nat)), (8, .int .i64 (hi : Nat))] a)
    (hcall : Calls Try.prog 31 #[.slice (some ⟨b, 0, none⟩) n c, .int .i64 (lo : Nat), .int .i64 (n : Nat), .func (.func 27) #[] #[]] w fun e w' => e = .returned (.tuple #[]) ∧ G w') (hQ : ∀ a' w', G w' → Fr 63 a' → Slots [(0, .slice (some ⟨b, 0, none⟩) n c), (1, .int .i64 (n : Nat)), (2, .func (.func 27) #[] #[]), (6, .int .i64 (bs : Nat))] a' → Q .normal a' w') :
    Code.wp Try.prog (nthC 3 (bodyC Try.f29)) Q a w := by
  obtain ⟨u, hu, rfl⟩ := lay63 hfr
  obtain ⟨s0, s1, s2, s6, s7, s8, -⟩ := hs
  replace s0 : u 0 = .slice (some ⟨b, 0, none⟩) n c := (hu 0).symm.trans s0
  replace s1 : u 1 = .int .i64 (n : Nat) := (hu 1).symm.trans s1
  replace s2 : u 2 = .func (.func 27) #[] #[] := (hu 2).symm.trans s2
  replace s6 : u 6 = .int .i64 (bs : Nat) := (hu 6).symm.trans s6
  replace s7 : u 7 = .int .i64 (lo : Nat) := (hu 7).symm.trans s7
  replace s8 : u 8 = .int .i64 (hi : Nat) := (hu 8).symm.trans s8
  rw [s0, s1, s2, s6, s7, s8]
  clear hfr hu s0 s1 s2 s6 s7 s8
  conv => arg 2; whnf
  have HC : Hid _ := hcall
  clear hcall
  have H : Hid _ := hQ
  clear hQ
  go_wp2_with (go_at_call 31; refine Calls.mono HC.out ?_; rintro e w' ⟨rfl, hG⟩)
  exact H.out _ _ hG ⟨rfl, rfl⟩ ⟨rfl, rfl, rfl, rfl, trivial⟩

set_option maxRecDepth 10000 in
set_option maxHeartbeats 1000000 in
theorem b7h (b n c : Nat) (bs : Nat) (a : Act) (w : World) (Q : Exit → Act → World → Prop) (hfr : Fr 63 a) (hs : Slots [(0, .slice (some ⟨b, 0, none⟩) n c), (1, .int .i64 (n : Nat)), (2, .func (.func 27) #[] #[]), (6, .int .i64 (bs : Nat))] a)
    (hQ : ∀ a', bs < n → Fr 63 a' → Slots [(0, .slice (some ⟨b, 0, none⟩) n c), (1, .int .i64 (n : Nat)), (2, .func (.func 27) #[] #[]), (6, .int .i64 (bs : Nat))] a' → Q .normal a' w) (hexit : ∀ a', ¬ bs < n → Fr 63 a' → Slots [(0, .slice (some ⟨b, 0, none⟩) n c), (1, .int .i64 (n : Nat)), (2, .func (.func 27) #[] #[]), (6, .int .i64 (bs : Nat))] a' → Q (.exit 2) a' w) :
    Code.wp Try.prog (hdC (inC (inC (dropC 4 (bodyC Try.f29))))) Q a w := by
  obtain ⟨u, hu, rfl⟩ := lay63 hfr
  obtain ⟨s0, s1, s2, s6, -⟩ := hs
  replace s0 : u 0 = .slice (some ⟨b, 0, none⟩) n c := (hu 0).symm.trans s0
  replace s1 : u 1 = .int .i64 (n : Nat) := (hu 1).symm.trans s1
  replace s2 : u 2 = .func (.func 27) #[] #[] := (hu 2).symm.trans s2
  replace s6 : u 6 = .int .i64 (bs : Nat) := (hu 6).symm.trans s6
  rw [s0, s1, s2, s6]
  clear hfr hu s0 s1 s2 s6
  conv => arg 2; whnf
  have H : Hid _ := hQ
  have HX : Hid _ := hexit
  clear hQ hexit
  by_cases hlt : bs < n
  · have l : (bs : Int) < n := by omega
    go_wp2
    exact H.out _ hlt ⟨rfl, rfl⟩ ⟨rfl, rfl, rfl, rfl, trivial⟩
  · have l : ¬ ((bs : Int) < n) := by omega
    go_wp2
    exact HX.out _ hlt ⟨rfl, rfl⟩ ⟨rfl, rfl, rfl, rfl, trivial⟩

set_option maxRecDepth 10000 in
set_option maxHeartbeats 1000000 in
theorem b8 (b n c : Nat) (bs : Nat) (h2 : Nat) (a : Act) (w : World) (Q : Exit → Act → World → Prop) (hfr : Fr 63 a) (hs : Slots [(0, .slice (some ⟨b, 0, none⟩) n c), (1, .int .i64 (n : Nat)), (2, .func (.func 27) #[] #[]), (6, .int .i64 (bs : Nat))] a)
    (hh : IntKind.i64.wrap (2 * (bs : Int)) = (h2 : Int)) (hQ : ∀ a', Fr 63 a' → Slots [(0, .slice (some ⟨b, 0, none⟩) n c), (1, .int .i64 (n : Nat)), (2, .func (.func 27) #[] #[]), (6, .int .i64 (bs : Nat)), (7, .int .i64 (0 : Nat)), (8, .int .i64 (h2 : Nat))] a' → Q .normal a' w) :
    Code.wp Try.prog (nthC 0 (inC (tlC (inC (inC (dropC 4 (bodyC Try.f29))))))) Q a w := by
  obtain ⟨u, hu, rfl⟩ := lay63 hfr
  obtain ⟨s0, s1, s2, s6, -⟩ := hs
  replace s0 : u 0 = .slice (some ⟨b, 0, none⟩) n c := (hu 0).symm.trans s0
  replace s1 : u 1 = .int .i64 (n : Nat) := (hu 1).symm.trans s1
  replace s2 : u 2 = .func (.func 27) #[] #[] := (hu 2).symm.trans s2
  replace s6 : u 6 = .int .i64 (bs : Nat) := (hu 6).symm.trans s6
  rw [s0, s1, s2, s6]
  clear hfr hu s0 s1 s2 s6
  conv => arg 2; whnf
  have H : Hid _ := hQ
  clear hQ
  go_wp2
  exact H.out _ ⟨rfl, rfl⟩ ⟨rfl, rfl, rfl, rfl, rfl, rfl, trivial⟩

set_option maxRecDepth 10000 in
set_option maxHeartbeats 1000000 in
theorem b9h (b n c : Nat) (bs : Nat) (lo hi : Nat) (a : Act) (w : World) (Q : Exit → Act → World → Prop) (hfr : Fr 63 a) (hs : Slots [(0, .slice (some ⟨b, 0, none⟩) n c), (1, .int .i64 (n : Nat)), (2, .func (.func 27) #[] #[]), (6, .int .i64 (bs : Nat)), (7, .int .i64 (lo : Nat)), (8, .int .i64 (hi : Nat))] a)
    (hQ : ∀ a', hi ≤ n → Fr 63 a' → Slots [(0, .slice (some ⟨b, 0, none⟩) n c), (1, .int .i64 (n : Nat)), (2, .func (.func 27) #[] #[]), (6, .int .i64 (bs : Nat)), (7, .int .i64 (lo : Nat)), (8, .int .i64 (hi : Nat))] a' → Q .normal a' w) (hexit : ∀ a', ¬ hi ≤ n → Fr 63 a' → Slots [(0, .slice (some ⟨b, 0, none⟩) n c), (1, .int .i64 (n : Nat)), (2, .func (.func 27) #[] #[]), (6, .int .i64 (bs : Nat)), (7, .int .i64 (lo : Nat)), (8, .int .i64 (hi : Nat))] a' → Q (.exit 4) a' w) :
    Code.wp Try.prog (hdC (inC (inC (nthC 1 (inC (tlC (inC (inC (dropC 4 (bodyC Try.f29)))))))))) Q a w := by
  obtain ⟨u, hu, rfl⟩ := lay63 hfr
  obtain ⟨s0, s1, s2, s6, s7, s8, -⟩ := hs
  replace s0 : u 0 = .slice (some ⟨b, 0, none⟩) n c := (hu 0).symm.trans s0
  replace s1 : u 1 = .int .i64 (n : Nat) := (hu 1).symm.trans s1
  replace s2 : u 2 = .func (.func 27) #[] #[] := (hu 2).symm.trans s2
  replace s6 : u 6 = .int .i64 (bs : Nat) := (hu 6).symm.trans s6
  replace s7 : u 7 = .int .i64 (lo : Nat) := (hu 7).symm.trans s7
  replace s8 : u 8 = .int .i64 (hi : Nat) := (hu 8).symm.trans s8
  rw [s0, s1, s2, s6, s7, s8]
  clear hfr hu s0 s1 s2 s6 s7 s8
  conv => arg 2; whnf
  have H : Hid _ := hQ
  have HX : Hid _ := hexit
  clear hQ hexit
  by_cases hlt : hi ≤ n
  · have l : (hi : Int) ≤ n := by omega
    go_wp2
    exact H.out _ hlt ⟨rfl, rfl⟩ ⟨rfl, rfl, rfl, rfl, rfl, rfl, trivial⟩
  · have l : ¬ ((hi : Int) ≤ n) := by omega
    go_wp2
    exact HX.out _ hlt ⟨rfl, rfl⟩ ⟨rfl, rfl, rfl, rfl, rfl, rfl, trivial⟩

set_option maxRecDepth 10000 in
set_option maxHeartbeats 1000000 in
theorem b10 (b n c : Nat) (bs : Nat) (lo hi : Nat) (m : Nat) (G : World → Prop) (a : Act) (w : World) (Q : Exit → Act → World → Prop) (hfr : Fr 63 a) (hs : Slots [(0, .slice (some ⟨b, 0, none⟩) n c), (1, .int .i64 (n : Nat)), (2, .func (.func 27) #[] #[]), (6, .int .i64 (bs : Nat)), (7, .int .i64 (lo : Nat)), (8, .int .i64 (hi : Nat))] a)
    (hm : IntKind.i64.wrap ((lo : Int) + (bs : Int)) = (m : Int)) (hcall : Calls Try.prog 32 #[.slice (some ⟨b, 0, none⟩) n c, .int .i64 (lo : Nat), .int .i64 (m : Nat), .int .i64 (hi : Nat), .func (.func 27) #[] #[]] w fun e w' => e = .returned (.tuple #[]) ∧ G w') (hQ : ∀ a' w', G w' → Fr 63 a' → Slots [(0, .slice (some ⟨b, 0, none⟩) n c), (1, .int .i64 (n : Nat)), (2, .func (.func 27) #[] #[]), (6, .int .i64 (bs : Nat)), (7, .int .i64 (lo : Nat)), (8, .int .i64 (hi : Nat))] a' → Q .normal a' w') :
    Code.wp Try.prog (nthC 0 (inC (tlC (inC (inC (nthC 1 (inC (tlC (inC (inC (dropC 4 (bodyC Try.f29)))))))))))) Q a w := by
  obtain ⟨u, hu, rfl⟩ := lay63 hfr
  obtain ⟨s0, s1, s2, s6, s7, s8, -⟩ := hs
  replace s0 : u 0 = .slice (some ⟨b, 0, none⟩) n c := (hu 0).symm.trans s0
  replace s1 : u 1 = .int .i64 (n : Nat) := (hu 1).symm.trans s1
  replace s2 : u 2 = .func (.func 27) #[] #[] := (hu 2).symm.trans s2
  replace s6 : u 6 = .int .i64 (bs : Nat) := (hu 6).symm.trans s6
  replace s7 : u 7 = .int .i64 (lo : Nat) := (hu 7).symm.trans s7
  replace s8 : u 8 = .int .i64 (hi : Nat) := (hu 8).symm.trans s8
  rw [s0, s1, s2, s6, s7, s8]
  clear hfr hu s0 s1 s2 s6 s7 s8
  conv => arg 2; whnf
  have HC : Hid _ := hcall
  clear hcall
  have H : Hid _ := hQ
  clear hQ
  go_wp2_with (go_at_call 32; refine Calls.mono HC.out ?_; rintro e w' ⟨rfl, hG⟩)
  exact H.out _ _ hG ⟨rfl, rfl⟩ ⟨rfl, rfl, rfl, rfl, rfl, rfl, trivial⟩

set_option maxRecDepth 10000 in
set_option maxHeartbeats 1000000 in
theorem b11 (b n c : Nat) (bs : Nat) (lo hi : Nat) (a : Act) (w : World) (Q : Exit → Act → World → Prop) (hfr : Fr 63 a) (hs : Slots [(0, .slice (some ⟨b, 0, none⟩) n c), (1, .int .i64 (n : Nat)), (2, .func (.func 27) #[] #[]), (6, .int .i64 (bs : Nat)), (7, .int .i64 (lo : Nat)), (8, .int .i64 (hi : Nat))] a)
    (hQ : ∀ a', Fr 63 a' → Slots [(0, .slice (some ⟨b, 0, none⟩) n c), (1, .int .i64 (n : Nat)), (2, .func (.func 27) #[] #[]), (6, .int .i64 (bs : Nat)), (7, .int .i64 (hi : Nat)), (8, .int .i64 (hi : Nat))] a' → Q .normal a' w) :
    Code.wp Try.prog (nthC 1 (inC (tlC (inC (inC (nthC 1 (inC (tlC (inC (inC (dropC 4 (bodyC Try.f29)))))))))))) Q a w := by
  obtain ⟨u, hu, rfl⟩ := lay63 hfr
  obtain ⟨s0, s1, s2, s6, s7, s8, -⟩ := hs
  replace s0 : u 0 = .slice (some ⟨b, 0, none⟩) n c := (hu 0).symm.trans s0
  replace s1 : u 1 = .int .i64 (n : Nat) := (hu 1).symm.trans s1
  replace s2 : u 2 = .func (.func 27) #[] #[] := (hu 2).symm.trans s2
  replace s6 : u 6 = .int .i64 (bs : Nat) := (hu 6).symm.trans s6
  replace s7 : u 7 = .int .i64 (lo : Nat) := (hu 7).symm.trans s7
  replace s8 : u 8 = .int .i64 (hi : Nat) := (hu 8).symm.trans s8
  rw [s0, s1, s2, s6, s7, s8]
  clear hfr hu s0 s1 s2 s6 s7 s8
  conv => arg 2; whnf
  have H : Hid _ := hQ
  clear hQ
  go_wp2
  exact H.out _ ⟨rfl, rfl⟩ ⟨rfl, rfl, rfl, rfl, rfl, rfl, trivial⟩

set_option maxRecDepth 10000 in
set_option maxHeartbeats 1000000 in
theorem b12 (b n c : Nat) (bs : Nat) (lo hi : Nat) (d h2 : Nat) (a : Act) (w : World) (Q : Exit → Act → World → Prop) (hfr : Fr 63 a) (hs : Slots [(0, .slice (some ⟨b, 0, none⟩) n c), (1, .int .i64 (n : Nat)), (2, .func (.func 27) #[] #[]), (6, .int .i64 (bs : Nat)), (7, .int .i64 (lo : Nat)), (8, .int .i64 (hi : Nat))] a)
    (hd : IntKind.i64.wrap (2 * (bs : Int)) = (d : Int)) (hh : IntKind.i64.wrap ((hi : Int) + (d : Int)) = (h2 : Int)) (hQ : ∀ a', Fr 63 a' → Slots [(0, .slice (some ⟨b, 0, none⟩) n c), (1, .int .i64 (n : Nat)), (2, .func (.func 27) #[] #[]), (6, .int .i64 (bs : Nat)), (7, .int .i64 (lo : Nat)), (8, .int .i64 (h2 : Nat))] a' → Q .normal a' w) :
    Code.wp Try.prog (dropC 2 (inC (tlC (inC (inC (nthC 1 (inC (tlC (inC (inC (dropC 4 (bodyC Try.f29)))))))))))) Q a w := by
  obtain ⟨u, hu, rfl⟩ := lay63 hfr
  obtain ⟨s0, s1, s2, s6, s7, s8, -⟩ := hs
  replace s0 : u 0 = .slice (some ⟨b, 0, none⟩) n c := (hu 0).symm.trans s0
  replace s1 : u 1 = .int .i64 (n : Nat) := (hu 1).symm.trans s1
  replace s2 : u 2 = .func (.func 27) #[] #[] := (hu 2).symm.trans s2
  replace s6 : u 6 = .int .i64 (bs : Nat) := (hu 6).symm.trans s6
  replace s7 : u 7 = .int .i64 (lo : Nat) := (hu 7).symm.trans s7
  replace s8 : u 8 = .int .i64 (hi : Nat) := (hu 8).symm.trans s8
  rw [s0, s1, s2, s6, s7, s8]
  clear hfr hu s0 s1 s2 s6 s7 s8
  conv => arg 2; whnf
  have H : Hid _ := hQ
  clear hQ
  go_wp2
  exact H.out _ ⟨rfl, rfl⟩ ⟨rfl, rfl, rfl, rfl, rfl, rfl, trivial⟩

set_option maxRecDepth 10000 in
set_option maxHeartbeats 1000000 in
theorem b13 (b n c : Nat) (bs : Nat) (lo hi : Nat) (m : Nat) (a : Act) (w : World) (Q : Exit → Act → World → Prop) (hfr : Fr 63 a) (hs : Slots [(0, .slice (some ⟨b, 0, none⟩) n c), (1, .int .i64 (n : Nat)), (2, .func (.func 27) #[] #[]), (6, .int .i64 (bs : Nat)), (7, .int .i64 (lo : Nat)), (8, .int .i64 (hi : Nat))] a)
    (hm : IntKind.i64.wrap ((lo : Int) + (bs : Int)) = (m : Int)) (hQ : ∀ a', Fr 63 a' → Slots [(0, .slice (some ⟨b, 0, none⟩) n c), (1, .int .i64 (n : Nat)), (2, .func (.func 27) #[] #[]), (6, .int .i64 (bs : Nat)), (7, .int .i64 (lo : Nat)), (8, .int .i64 (hi : Nat)), (9, .int .i64 (m : Nat))] a' → Q .normal a' w) :
    Code.wp Try.prog (nthC 0 (nthC 2 (inC (tlC (inC (inC (dropC 4 (bodyC Try.f29)))))))) Q a w := by
  obtain ⟨u, hu, rfl⟩ := lay63 hfr
  obtain ⟨s0, s1, s2, s6, s7, s8, -⟩ := hs
  replace s0 : u 0 = .slice (some ⟨b, 0, none⟩) n c := (hu 0).symm.trans s0
  replace s1 : u 1 = .int .i64 (n : Nat) := (hu 1).symm.trans s1
  replace s2 : u 2 = .func (.func 27) #[] #[] := (hu 2).symm.trans s2
  replace s6 : u 6 = .int .i64 (bs : Nat) := (hu 6).symm.trans s6
  replace s7 : u 7 = .int .i64 (lo : Nat) := (hu 7).symm.trans s7
  replace s8 : u 8 = .int .i64 (hi : Nat) := (hu 8).symm.trans s8
  rw [s0, s1, s2, s6, s7, s8]
  clear hfr hu s0 s1 s2 s6 s7 s8
  conv => arg 2; whnf
  have H : Hid _ := hQ
  clear hQ
  go_wp2
  exact H.out _ ⟨rfl, rfl⟩ ⟨rfl, rfl, rfl, rfl, rfl, rfl, rfl, trivial⟩

set_option maxRecDepth 10000 in
set_option maxHeartbeats 1000000 in
theorem b14 (b n c : Nat) (bs : Nat) (lo hi : Nat) (m : Nat) (a : Act) (w : World) (Q : Exit → Act → World → Prop) (hfr : Fr 63 a) (hs : Slots [(0, .slice (some ⟨b, 0, none⟩) n c), (1, .int .i64 (n : Nat)), (2, .func (.func 27) #[] #[]), (6, .int .i64 (bs : Nat)), (7, .int .i64 (lo : Nat)), (8, .int .i64 (hi : Nat)), (9, .int .i64 (m : Nat))] a)
    (hQ : ∀ a', Fr 63 a' → Slots [(0, .slice (some ⟨b, 0, none⟩) n c), (1, .int .i64 (n : Nat)), (2, .func (.func 27) #[] #[]), (6, .int .i64 (bs : Nat)), (7, .int .i64 (lo : Nat)), (8, .int .i64 (hi : Nat)), (9, .int .i64 (m : Nat)), (54, .bool (decide (m < n)))] a' → Q .normal a' w) :
    Code.wp Try.prog (nthC 1 (nthC 2 (inC (tlC (inC (inC (dropC 4 (bodyC Try.f29)))))))) Q a w := by
  obtain ⟨u, hu, rfl⟩ := lay63 hfr
  obtain ⟨s0, s1, s2, s6, s7, s8, s9, -⟩ := hs
  replace s0 : u 0 = .slice (some ⟨b, 0, none⟩) n c := (hu 0).symm.trans s0
  replace s1 : u 1 = .int .i64 (n : Nat) := (hu 1).symm.trans s1
  replace s2 : u 2 = .func (.func 27) #[] #[] := (hu 2).symm.trans s2
  replace s6 : u 6 = .int .i64 (bs : Nat) := (hu 6).symm.trans s6
  replace s7 : u 7 = .int .i64 (lo : Nat) := (hu 7).symm.trans s7
  replace s8 : u 8 = .int .i64 (hi : Nat) := (hu 8).symm.trans s8
  replace s9 : u 9 = .int .i64 (m : Nat) := (hu 9).symm.trans s9
  rw [s0, s1, s2, s6, s7, s8, s9]
  clear hfr hu s0 s1 s2 s6 s7 s8 s9
  conv => arg 2; whnf
  have H : Hid _ := hQ
  clear hQ
  go_wp2
  exact H.out _ ⟨rfl, rfl⟩ ⟨rfl, rfl, rfl, rfl, rfl, rfl, rfl, rfl, trivial⟩

set_option maxRecDepth 10000 in
set_option maxHeartbeats 1000000 in
theorem b15 (b n c : Nat) (bs : Nat) (lo hi : Nat) (m : Nat) (G : World → Prop) (a : Act) (w : World) (Q : Exit → Act → World → Prop) (hfr : Fr 63 a) (hs : Slots [(0, .slice (some ⟨b, 0, none⟩) n c), (1, .int .i64 (n : Nat)), (2, .func (.func 27) #[] #[]), (6, .int .i64 (bs : Nat)), (7, .int .i64 (lo : Nat)), (8, .int .i64 (hi : Nat)), (9, .int .i64 (m : Nat))] a)
    (hcall : Calls Try.prog 32 #[.slice (some ⟨b, 0, none⟩) n c, .int .i64 (lo : Nat), .int .i64 (m : Nat), .int .i64 (n : Nat), .func (.func 27) #[] #[]] w fun e w' => e = .returned (.tuple #[]) ∧ G w') (hQ : ∀ a' w', G w' → Fr 63 a' → Slots [(0, .slice (some ⟨b, 0, none⟩) n c), (1, .int .i64 (n : Nat)), (2, .func (.func 27) #[] #[]), (6, .int .i64 (bs : Nat))] a' → Q .normal a' w') :
    Code.wp Try.prog (thC (dropC 2 (nthC 2 (inC (tlC (inC (inC (dropC 4 (bodyC Try.f29))))))))) Q a w := by
  obtain ⟨u, hu, rfl⟩ := lay63 hfr
  obtain ⟨s0, s1, s2, s6, s7, s8, s9, -⟩ := hs
  replace s0 : u 0 = .slice (some ⟨b, 0, none⟩) n c := (hu 0).symm.trans s0
  replace s1 : u 1 = .int .i64 (n : Nat) := (hu 1).symm.trans s1
  replace s2 : u 2 = .func (.func 27) #[] #[] := (hu 2).symm.trans s2
  replace s6 : u 6 = .int .i64 (bs : Nat) := (hu 6).symm.trans s6
  replace s7 : u 7 = .int .i64 (lo : Nat) := (hu 7).symm.trans s7
  replace s8 : u 8 = .int .i64 (hi : Nat) := (hu 8).symm.trans s8
  replace s9 : u 9 = .int .i64 (m : Nat) := (hu 9).symm.trans s9
  rw [s0, s1, s2, s6, s7, s8, s9]
  clear hfr hu s0 s1 s2 s6 s7 s8 s9
  conv => arg 2; whnf
  have HC : Hid _ := hcall
  clear hcall
  have H : Hid _ := hQ
  clear hQ
  go_wp2_with (go_at_call 32; refine Calls.mono HC.out ?_; rintro e w' ⟨rfl, hG⟩)
  exact H.out _ _ hG ⟨rfl, rfl⟩ ⟨rfl, rfl, rfl, rfl, trivial⟩

set_option maxRecDepth 10000 in
set_option maxHeartbeats 1000000 in
theorem b16 (b n c : Nat) (bs : Nat) (h2 : Nat) (a : Act) (w : World) (Q : Exit → Act → World → Prop) (hfr : Fr 63 a) (hs : Slots [(0, .slice (some ⟨b, 0, none⟩) n c), (1, .int .i64 (n : Nat)), (2, .func (.func 27) #[] #[]), (6, .int .i64 (bs : Nat))] a)
    (hh : IntKind.i64.wrap ((bs : Int) * 2) = (h2 : Int)) (hQ : ∀ a', Fr 63 a' → Slots [(0, .slice (some ⟨b, 0, none⟩) n c), (1, .int .i64 (n : Nat)), (2, .func (.func 27) #[] #[]), (6, .int .i64 (h2 : Nat))] a' → Q .normal a' w) :
    Code.wp Try.prog (dropC 3 (inC (tlC (inC (inC (dropC 4 (bodyC Try.f29))))))) Q a w := by
  obtain ⟨u, hu, rfl⟩ := lay63 hfr
  obtain ⟨s0, s1, s2, s6, -⟩ := hs
  replace s0 : u 0 = .slice (some ⟨b, 0, none⟩) n c := (hu 0).symm.trans s0
  replace s1 : u 1 = .int .i64 (n : Nat) := (hu 1).symm.trans s1
  replace s2 : u 2 = .func (.func 27) #[] #[] := (hu 2).symm.trans s2
  replace s6 : u 6 = .int .i64 (bs : Nat) := (hu 6).symm.trans s6
  rw [s0, s1, s2, s6]
  clear hfr hu s0 s1 s2 s6
  conv => arg 2; whnf
  have H : Hid _ := hQ
  clear hQ
  go_wp2
  exact H.out _ ⟨rfl, rfl⟩ ⟨rfl, rfl, rfl, rfl, trivial⟩

end Go.Proofs.Qxb6601010a
