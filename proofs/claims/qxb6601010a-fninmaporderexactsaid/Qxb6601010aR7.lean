import Derived.Test.Qxb6601010aR5
import Derived.Test.Qxb6601010aP4
namespace Go.Proofs.Qxb6601010a
open Go.RowKit
set_option linter.unusedSimpArgs false
set_option linter.unusedVariables false

set_option maxRecDepth 10000 in
set_option maxHeartbeats 1000000 in
theorem q22 (x : Option Addr) (n cn : Nat) (rb K c : Nat) (lb : Nat) (a : Act) (w : World) (Q : Exit → Act → World → Prop) (hfr : Fr 129 a) (hs : Slots [(0, .slice x n cn), (3, .slice (some ⟨rb, 0, none⟩) K c), (4, .int .i64 (n : Nat)), (5, .slice (some ⟨lb, 0, none⟩) n n)] a)
    (hQ : ∀ a', Fr 129 a' → Slots [(0, .slice x n cn), (3, .slice (some ⟨rb, 0, none⟩) K c), (4, .int .i64 (n : Nat)), (5, .slice (some ⟨lb, 0, none⟩) n n), (9, .int .i64 (0 : Nat))] a' → Q .normal a' w) :
    Code.wp Try.prog (hdC (nthC 9 (bodyC Try.f5))) Q a w := by
  obtain ⟨u, hu, rfl⟩ := lay129 hfr
  obtain ⟨s0, s3, s4, s5, -⟩ := hs
  replace s0 : u 0 = .slice x n cn := (hu 0).symm.trans s0
  replace s3 : u 3 = .slice (some ⟨rb, 0, none⟩) K c := (hu 3).symm.trans s3
  replace s4 : u 4 = .int .i64 (n : Nat) := (hu 4).symm.trans s4
  replace s5 : u 5 = .slice (some ⟨lb, 0, none⟩) n n := (hu 5).symm.trans s5
  rw [s0, s3, s4, s5]
  clear hfr hu s0 s3 s4 s5
  conv => arg 2; whnf
  have H : Hid _ := hQ
  clear hQ
  go_wp2
  exact H.out _ ⟨rfl, rfl⟩ ⟨rfl, rfl, rfl, rfl, rfl, trivial⟩

set_option maxRecDepth 10000 in
set_option maxHeartbeats 1000000 in
theorem q23 (x : Option Addr) (n cn : Nat) (rb K c : Nat) (lb : Nat) (i : Nat) (a : Act) (w : World) (Q : Exit → Act → World → Prop) (hfr : Fr 129 a) (hs : Slots [(0, .slice x n cn), (3, .slice (some ⟨rb, 0, none⟩) K c), (4, .int .i64 (n : Nat)), (5, .slice (some ⟨lb, 0, none⟩) n n), (9, .int .i64 (i : Nat))] a)
    (hQ : ∀ a', i < n → Fr 129 a' → Slots [(0, .slice x n cn), (3, .slice (some ⟨rb, 0, none⟩) K c), (4, .int .i64 (n : Nat)), (5, .slice (some ⟨lb, 0, none⟩) n n), (9, .int .i64 (i : Nat))] a' → Q .normal a' w) (hexit : ∀ a', ¬ i < n → Fr 129 a' → Slots [(0, .slice x n cn), (3, .slice (some ⟨rb, 0, none⟩) K c), (4, .int .i64 (n : Nat)), (5, .slice (some ⟨lb, 0, none⟩) n n)] a' → Q (.exit 4) a' w) :
    Code.wp Try.prog (hdC (inC (inC (tlC (nthC 9 (bodyC Try.f5)))))) Q a w := by
  obtain ⟨u, hu, rfl⟩ := lay129 hfr
  obtain ⟨s0, s3, s4, s5, s9, -⟩ := hs
  replace s0 : u 0 = .slice x n cn := (hu 0).symm.trans s0
  replace s3 : u 3 = .slice (some ⟨rb, 0, none⟩) K c := (hu 3).symm.trans s3
  replace s4 : u 4 = .int .i64 (n : Nat) := (hu 4).symm.trans s4
  replace s5 : u 5 = .slice (some ⟨lb, 0, none⟩) n n := (hu 5).symm.trans s5
  replace s9 : u 9 = .int .i64 (i : Nat) := (hu 9).symm.trans s9
  rw [s0, s3, s4, s5, s9]
  clear hfr hu s0 s3 s4 s5 s9
  conv => arg 2; whnf
  have H : Hid _ := hQ
  have HX : Hid _ := hexit
  clear hQ hexit
  by_cases hlt : i < n
  · have l : (i : Int) < n := by omega
    go_wp2
    exact H.out _ hlt ⟨rfl, rfl⟩ ⟨rfl, rfl, rfl, rfl, rfl, trivial⟩
  · have l : ¬ ((i : Int) < n) := by omega
    go_wp2
    exact HX.out _ hlt ⟨rfl, rfl⟩ ⟨rfl, rfl, rfl, rfl, trivial⟩

set_option maxRecDepth 10000 in
set_option maxHeartbeats 1000000 in
theorem q25 (x : Option Addr) (n cn : Nat) (rb K c : Nat) (lb : Nat) (i : Nat) (v : Bool) (a : Act) (w : World) (Q : Exit → Act → World → Prop) (hfr : Fr 129 a) (hs : Slots [(0, .slice x n cn), (3, .slice (some ⟨rb, 0, none⟩) K c), (4, .int .i64 (n : Nat)), (5, .slice (some ⟨lb, 0, none⟩) n n), (9, .int .i64 (i : Nat))] a)
    (li : (i : Int) < n) (cl : w.cell? ⟨lb, i, none⟩ = some (.bool v)) (hQ : ∀ a', Fr 129 a' → Slots [(0, .slice x n cn), (3, .slice (some ⟨rb, 0, none⟩) K c), (4, .int .i64 (n : Nat)), (5, .slice (some ⟨lb, 0, none⟩) n n), (9, .int .i64 (i : Nat)), (72, .bool (!v))] a' → Q .normal a' w) :
    Code.wp Try.prog (hdC (nthC 0 (inC (hdC (tlC (inC (inC (tlC (nthC 9 (bodyC Try.f5)))))))))) Q a w := by
  obtain ⟨u, hu, rfl⟩ := lay129 hfr
  obtain ⟨s0, s3, s4, s5, s9, -⟩ := hs
  replace s0 : u 0 = .slice x n cn := (hu 0).symm.trans s0
  replace s3 : u 3 = .slice (some ⟨rb, 0, none⟩) K c := (hu 3).symm.trans s3
  replace s4 : u 4 = .int .i64 (n : Nat) := (hu 4).symm.trans s4
  replace s5 : u 5 = .slice (some ⟨lb, 0, none⟩) n n := (hu 5).symm.trans s5
  replace s9 : u 9 = .int .i64 (i : Nat) := (hu 9).symm.trans s9
  rw [s0, s3, s4, s5, s9]
  clear hfr hu s0 s3 s4 s5 s9
  conv => arg 2; whnf
  have H : Hid _ := hQ
  clear hQ
  go_wp2
  exact H.out _ ⟨rfl, rfl⟩ ⟨rfl, rfl, rfl, rfl, rfl, rfl, trivial⟩

set_option maxRecDepth 10000 in
set_option maxHeartbeats 1000000 in
theorem q26 (x : Option Addr) (n cn : Nat) (rb K c : Nat) (lb : Nat) (i : Nat) (a : Act) (w : World) (Q : Exit → Act → World → Prop) (hfr : Fr 129 a) (hs : Slots [(0, .slice x n cn), (3, .slice (some ⟨rb, 0, none⟩) K c), (4, .int .i64 (n : Nat)), (5, .slice (some ⟨lb, 0, none⟩) n n), (9, .int .i64 (i : Nat))] a)
    (hQ : ∀ a', Fr 129 a' → Slots [(0, .slice x n cn), (3, .slice (some ⟨rb, 0, none⟩) K c), (4, .int .i64 (n : Nat)), (5, .slice (some ⟨lb, 0, none⟩) n n), (9, .int .i64 (i : Nat)), (10, .int .i64 (0 : Nat))] a' → Q .normal a' w) :
    Code.wp Try.prog (nthC 1 (inC (hdC (tlC (inC (inC (tlC (nthC 9 (bodyC Try.f5))))))))) Q a w := by
  obtain ⟨u, hu, rfl⟩ := lay129 hfr
  obtain ⟨s0, s3, s4, s5, s9, -⟩ := hs
  replace s0 : u 0 = .slice x n cn := (hu 0).symm.trans s0
  replace s3 : u 3 = .slice (some ⟨rb, 0, none⟩) K c := (hu 3).symm.trans s3
  replace s4 : u 4 = .int .i64 (n : Nat) := (hu 4).symm.trans s4
  replace s5 : u 5 = .slice (some ⟨lb, 0, none⟩) n n := (hu 5).symm.trans s5
  replace s9 : u 9 = .int .i64 (i : Nat) := (hu 9).symm.trans s9
  rw [s0, s3, s4, s5, s9]
  clear hfr hu s0 s3 s4 s5 s9
  conv => arg 2; whnf
  have H : Hid _ := hQ
  clear hQ
  go_wp2
  exact H.out _ ⟨rfl, rfl⟩ ⟨rfl, rfl, rfl, rfl, rfl, rfl, trivial⟩

set_option maxRecDepth 10000 in
set_option maxHeartbeats 1000000 in
theorem q27 (x : Option Addr) (n cn : Nat) (rb K c : Nat) (lb : Nat) (i : Nat) (rk : Nat) (a : Act) (w : World) (Q : Exit → Act → World → Prop) (hfr : Fr 129 a) (hs : Slots [(0, .slice x n cn), (3, .slice (some ⟨rb, 0, none⟩) K c), (4, .int .i64 (n : Nat)), (5, .slice (some ⟨lb, 0, none⟩) n n), (9, .int .i64 (i : Nat)), (10, .int .i64 (rk : Nat))] a)
    (hQ : ∀ a', Fr 129 a' → Slots [(0, .slice x n cn), (3, .slice (some ⟨rb, 0, none⟩) K c), (4, .int .i64 (n : Nat)), (5, .slice (some ⟨lb, 0, none⟩) n n), (9, .int .i64 (i : Nat)), (10, .int .i64 (rk : Nat)), (11, .int .i64 (0 : Nat))] a' → Q .normal a' w) :
    Code.wp Try.prog (hdC (nthC 2 (inC (hdC (tlC (inC (inC (tlC (nthC 9 (bodyC Try.f5)))))))))) Q a w := by
  obtain ⟨u, hu, rfl⟩ := lay129 hfr
  obtain ⟨s0, s3, s4, s5, s9, s10, -⟩ := hs
  replace s0 : u 0 = .slice x n cn := (hu 0).symm.trans s0
  replace s3 : u 3 = .slice (some ⟨rb, 0, none⟩) K c := (hu 3).symm.trans s3
  replace s4 : u 4 = .int .i64 (n : Nat) := (hu 4).symm.trans s4
  replace s5 : u 5 = .slice (some ⟨lb, 0, none⟩) n n := (hu 5).symm.trans s5
  replace s9 : u 9 = .int .i64 (i : Nat) := (hu 9).symm.trans s9
  replace s10 : u 10 = .int .i64 (rk : Nat) := (hu 10).symm.trans s10
  rw [s0, s3, s4, s5, s9, s10]
  clear hfr hu s0 s3 s4 s5 s9 s10
  conv => arg 2; whnf
  have H : Hid _ := hQ
  clear hQ
  go_wp2
  exact H.out _ ⟨rfl, rfl⟩ ⟨rfl, rfl, rfl, rfl, rfl, rfl, rfl, trivial⟩

set_option maxRecDepth 10000 in
set_option maxHeartbeats 1000000 in
theorem q28 (x : Option Addr) (n cn : Nat) (rb K c : Nat) (lb : Nat) (i : Nat) (rk : Nat) (j : Nat) (a : Act) (w : World) (Q : Exit → Act → World → Prop) (hfr : Fr 129 a) (hs : Slots [(0, .slice x n cn), (3, .slice (some ⟨rb, 0, none⟩) K c), (4, .int .i64 (n : Nat)), (5, .slice (some ⟨lb, 0, none⟩) n n), (9, .int .i64 (i : Nat)), (10, .int .i64 (rk : Nat)), (11, .int .i64 (j : Nat))] a)
    (hQ : ∀ a', j < n → Fr 129 a' → Slots [(0, .slice x n cn), (3, .slice (some ⟨rb, 0, none⟩) K c), (4, .int .i64 (n : Nat)), (5, .slice (some ⟨lb, 0, none⟩) n n), (9, .int .i64 (i : Nat)), (10, .int .i64 (rk : Nat)), (11, .int .i64 (j : Nat))] a' → Q .normal a' w) (hexit : ∀ a', ¬ j < n → Fr 129 a' → Slots [(0, .slice x n cn), (3, .slice (some ⟨rb, 0, none⟩) K c), (4, .int .i64 (n : Nat)), (5, .slice (some ⟨lb, 0, none⟩) n n), (9, .int .i64 (i : Nat)), (10, .int .i64 (rk : Nat))] a' → Q (.exit 6) a' w) :
    Code.wp Try.prog (hdC (inC (inC (tlC (nthC 2 (inC (hdC (tlC (inC (inC (tlC (nthC 9 (bodyC Try.f5))))))))))))) Q a w := by
  obtain ⟨u, hu, rfl⟩ := lay129 hfr
  obtain ⟨s0, s3, s4, s5, s9, s10, s11, -⟩ := hs
  replace s0 : u 0 = .slice x n cn := (hu 0).symm.trans s0
  replace s3 : u 3 = .slice (some ⟨rb, 0, none⟩) K c := (hu 3).symm.trans s3
  replace s4 : u 4 = .int .i64 (n : Nat) := (hu 4).symm.trans s4
  replace s5 : u 5 = .slice (some ⟨lb, 0, none⟩) n n := (hu 5).symm.trans s5
  replace s9 : u 9 = .int .i64 (i : Nat) := (hu 9).symm.trans s9
  replace s10 : u 10 = .int .i64 (rk : Nat) := (hu 10).symm.trans s10
  replace s11 : u 11 = .int .i64 (j : Nat) := (hu 11).symm.trans s11
  rw [s0, s3, s4, s5, s9, s10, s11]
  clear hfr hu s0 s3 s4 s5 s9 s10 s11
  conv => arg 2; whnf
  have H : Hid _ := hQ
  have HX : Hid _ := hexit
  clear hQ hexit
  by_cases hlt : j < n
  · have l : (j : Int) < n := by omega
    go_wp2
    exact H.out _ hlt ⟨rfl, rfl⟩ ⟨rfl, rfl, rfl, rfl, rfl, rfl, rfl, trivial⟩
  · have l : ¬ ((j : Int) < n) := by omega
    go_wp2
    exact HX.out _ hlt ⟨rfl, rfl⟩ ⟨rfl, rfl, rfl, rfl, rfl, rfl, trivial⟩

set_option maxRecDepth 10000 in
set_option maxHeartbeats 1000000 in
theorem q30 (x : Option Addr) (n cn : Nat) (rb K c : Nat) (lb : Nat) (i : Nat) (rk : Nat) (j : Nat) (nb no : Nat) (y z : ByteArray) (v : Bool) (a : Act) (w : World) (Q : Exit → Act → World → Prop) (hfr : Fr 129 a) (hs : Slots [(0, .slice x n cn), (3, .slice (some ⟨rb, 0, none⟩) K c), (4, .int .i64 (n : Nat)), (5, .slice (some ⟨lb, 0, none⟩) n n), (9, .int .i64 (i : Nat)), (10, .int .i64 (rk : Nat)), (11, .int .i64 (j : Nat))] a)
    (hx : x = some ⟨nb, no, none⟩) (lj : (j : Int) < n) (li : (i : Int) < n) (cl : w.cell? ⟨lb, j, none⟩ = some (.bool v)) (c1 : w.cell? ⟨nb, no + j, none⟩ = some (.string y)) (c2 : w.cell? ⟨nb, no + i, none⟩ = some (.string z)) (hQ : ∀ a' r, Fr 129 a' → Slots [(0, .slice x n cn), (3, .slice (some ⟨rb, 0, none⟩) K c), (4, .int .i64 (n : Nat)), (5, .slice (some ⟨lb, 0, none⟩) n n), (9, .int .i64 (i : Nat)), (10, .int .i64 (rk : Nat)), (11, .int .i64 (j : Nat)), (92, .bool (v && nl y z))] a' → Q .normal a' (w.drewN r)) :
    Code.wp Try.prog (hdC (inC (hdC (tlC (inC (inC (tlC (nthC 2 (inC (hdC (tlC (inC (inC (tlC (nthC 9 (bodyC Try.f5)))))))))))))))) Q a w := by
  obtain ⟨u, hu, rfl⟩ := lay129 hfr
  obtain ⟨s0, s3, s4, s5, s9, s10, s11, -⟩ := hs
  replace s0 : u 0 = .slice x n cn := (hu 0).symm.trans s0
  replace s3 : u 3 = .slice (some ⟨rb, 0, none⟩) K c := (hu 3).symm.trans s3
  replace s4 : u 4 = .int .i64 (n : Nat) := (hu 4).symm.trans s4
  replace s5 : u 5 = .slice (some ⟨lb, 0, none⟩) n n := (hu 5).symm.trans s5
  replace s9 : u 9 = .int .i64 (i : Nat) := (hu 9).symm.trans s9
  replace s10 : u 10 = .int .i64 (rk : Nat) := (hu 10).symm.trans s10
  replace s11 : u 11 = .int .i64 (j : Nat) := (hu 11).symm.trans s11
  rw [s0, s3, s4, s5, s9, s10, s11]
  clear hfr hu s0 s3 s4 s5 s9 s10 s11
  conv => arg 2; whnf
  subst hx
  unfold nl at hQ
  have H : Hid _ := hQ
  clear hQ
  cases v
  · go_wp2_with fail
    go_quiet (fail)
    go_wp2
    exact H.out _ _ ⟨rfl, rfl⟩ ⟨rfl, rfl, rfl, rfl, rfl, rfl, rfl, rfl, trivial⟩
  · go_wp2_with fail
    go_quiet (fail)
    go_wp2
    exact H.out _ _ ⟨rfl, rfl⟩ ⟨rfl, rfl, rfl, rfl, rfl, rfl, rfl, rfl, trivial⟩

set_option maxRecDepth 10000 in
set_option maxHeartbeats 1000000 in
theorem q31 (x : Option Addr) (n cn : Nat) (rb K c : Nat) (lb : Nat) (i : Nat) (rk : Nat) (j : Nat) (a : Act) (w : World) (Q : Exit → Act → World → Prop) (hfr : Fr 129 a) (hs : Slots [(0, .slice x n cn), (3, .slice (some ⟨rb, 0, none⟩) K c), (4, .int .i64 (n : Nat)), (5, .slice (some ⟨lb, 0, none⟩) n n), (9, .int .i64 (i : Nat)), (10, .int .i64 (rk : Nat)), (11, .int .i64 (j : Nat))] a)
    (hk : (rk : Int) ≤ 4096) (hQ : ∀ a', Fr 129 a' → Slots [(0, .slice x n cn), (3, .slice (some ⟨rb, 0, none⟩) K c), (4, .int .i64 (n : Nat)), (5, .slice (some ⟨lb, 0, none⟩) n n), (9, .int .i64 (i : Nat)), (10, .int .i64 (rk + 1 : Nat)), (11, .int .i64 (j : Nat))] a' → Q .normal a' w) :
    Code.wp Try.prog (thC (tlC (inC (hdC (tlC (inC (inC (tlC (nthC 2 (inC (hdC (tlC (inC (inC (tlC (nthC 9 (bodyC Try.f5))))))))))))))))) Q a w := by
  obtain ⟨u, hu, rfl⟩ := lay129 hfr
  obtain ⟨s0, s3, s4, s5, s9, s10, s11, -⟩ := hs
  replace s0 : u 0 = .slice x n cn := (hu 0).symm.trans s0
  replace s3 : u 3 = .slice (some ⟨rb, 0, none⟩) K c := (hu 3).symm.trans s3
  replace s4 : u 4 = .int .i64 (n : Nat) := (hu 4).symm.trans s4
  replace s5 : u 5 = .slice (some ⟨lb, 0, none⟩) n n := (hu 5).symm.trans s5
  replace s9 : u 9 = .int .i64 (i : Nat) := (hu 9).symm.trans s9
  replace s10 : u 10 = .int .i64 (rk : Nat) := (hu 10).symm.trans s10
  replace s11 : u 11 = .int .i64 (j : Nat) := (hu 11).symm.trans s11
  rw [s0, s3, s4, s5, s9, s10, s11]
  clear hfr hu s0 s3 s4 s5 s9 s10 s11
  conv => arg 2; whnf
  have H : Hid _ := hQ
  clear hQ
  go_wp2
  exact H.out _ ⟨rfl, rfl⟩ ⟨rfl, rfl, rfl, rfl, rfl, rfl, rfl, trivial⟩

set_option maxRecDepth 10000 in
set_option maxHeartbeats 1000000 in
theorem q29 (x : Option Addr) (n cn : Nat) (rb K c : Nat) (lb : Nat) (i : Nat) (rk : Nat) (j : Nat) (a : Act) (w : World) (Q : Exit → Act → World → Prop) (hfr : Fr 129 a) (hs : Slots [(0, .slice x n cn), (3, .slice (some ⟨rb, 0, none⟩) K c), (4, .int .i64 (n : Nat)), (5, .slice (some ⟨lb, 0, none⟩) n n), (9, .int .i64 (i : Nat)), (10, .int .i64 (rk : Nat)), (11, .int .i64 (j : Nat))] a)
    (hk : (j : Int) ≤ 4096) (hQ : ∀ a', Fr 129 a' → Slots [(0, .slice x n cn), (3, .slice (some ⟨rb, 0, none⟩) K c), (4, .int .i64 (n : Nat)), (5, .slice (some ⟨lb, 0, none⟩) n n), (9, .int .i64 (i : Nat)), (10, .int .i64 (rk : Nat)), (11, .int .i64 (j + 1 : Nat))] a' → Q .normal a' w) :
    Code.wp Try.prog (tlC (tlC (inC (inC (tlC (nthC 2 (inC (hdC (tlC (inC (inC (tlC (nthC 9 (bodyC Try.f5)))))))))))))) Q a w := by
  obtain ⟨u, hu, rfl⟩ := lay129 hfr
  obtain ⟨s0, s3, s4, s5, s9, s10, s11, -⟩ := hs
  replace s0 : u 0 = .slice x n cn := (hu 0).symm.trans s0
  replace s3 : u 3 = .slice (some ⟨rb, 0, none⟩) K c := (hu 3).symm.trans s3
  replace s4 : u 4 = .int .i64 (n : Nat) := (hu 4).symm.trans s4
  replace s5 : u 5 = .slice (some ⟨lb, 0, none⟩) n n := (hu 5).symm.trans s5
  replace s9 : u 9 = .int .i64 (i : Nat) := (hu 9).symm.trans s9
  replace s10 : u 10 = .int .i64 (rk : Nat) := (hu 10).symm.trans s10
  replace s11 : u 11 = .int .i64 (j : Nat) := (hu 11).symm.trans s11
  rw [s0, s3, s4, s5, s9, s10, s11]
  clear hfr hu s0 s3 s4 s5 s9 s10 s11
  conv => arg 2; whnf
  have H : Hid _ := hQ
  clear hQ
  go_wp2
  exact H.out _ ⟨rfl, rfl⟩ ⟨rfl, rfl, rfl, rfl, rfl, rfl, rfl, trivial⟩

set_option maxRecDepth 10000 in
set_option maxHeartbeats 1000000 in
theorem q32 (x : Option Addr) (n cn : Nat) (rb K c : Nat) (lb : Nat) (i : Nat) (rk : Nat) (e : Hd) (a : Act) (w : World) (Q : Exit → Act → World → Prop) (hfr : Fr 129 a) (hs : Slots [(0, .slice x n cn), (3, .slice (some ⟨rb, 0, none⟩) K c), (4, .int .i64 (n : Nat)), (5, .slice (some ⟨lb, 0, none⟩) n n), (9, .int .i64 (i : Nat)), (10, .int .i64 (rk : Nat))] a)
    (lk : (rk : Int) < K) (c0 : w.cell? ⟨rb, rk * 2, none⟩ = some (.string e.nm)) (c1 : w.cell? ⟨rb, rk * 2 + 1, none⟩ = some (.slice (some ⟨e.vb, 0, none⟩) 2 2)) (hg : rb < w.heap.size) (hQ : ∀ a', Fr 129 a' → Slots [(0, .slice x n cn), (3, .slice (some ⟨rb, 0, none⟩) K c), (4, .int .i64 (n : Nat)), (5, .slice (some ⟨lb, 0, none⟩) n n), (9, .int .i64 (i : Nat)), (12, .pointer (some ⟨w.heap.size, 0, none⟩))] a' → Q .normal a' (w.alloc (.cells #[.string e.nm, .slice (some ⟨e.vb, 0, none⟩) 2 2] 39))) :
    Code.wp Try.prog (nthC 3 (inC (hdC (tlC (inC (inC (tlC (nthC 9 (bodyC Try.f5))))))))) Q a w := by
  obtain ⟨u, hu, rfl⟩ := lay129 hfr
  obtain ⟨s0, s3, s4, s5, s9, s10, -⟩ := hs
  replace s0 : u 0 = .slice x n cn := (hu 0).symm.trans s0
  replace s3 : u 3 = .slice (some ⟨rb, 0, none⟩) K c := (hu 3).symm.trans s3
  replace s4 : u 4 = .int .i64 (n : Nat) := (hu 4).symm.trans s4
  replace s5 : u 5 = .slice (some ⟨lb, 0, none⟩) n n := (hu 5).symm.trans s5
  replace s9 : u 9 = .int .i64 (i : Nat) := (hu 9).symm.trans s9
  replace s10 : u 10 = .int .i64 (rk : Nat) := (hu 10).symm.trans s10
  rw [s0, s3, s4, s5, s9, s10]
  clear hfr hu s0 s3 s4 s5 s9 s10
  conv => arg 2; whnf
  have H : Hid _ := hQ
  clear hQ
  have hne : rb ≠ w.heap.size := by omega
  go_wp2
  exact H.out _ ⟨rfl, rfl⟩ ⟨rfl, rfl, rfl, rfl, rfl, rfl, trivial⟩

set_option maxRecDepth 10000 in
set_option maxHeartbeats 1000000 in
theorem q33 (x : Option Addr) (n cn : Nat) (rb K c : Nat) (lb : Nat) (i : Nat) (q : Nat) (nb no : Nat) (y : ByteArray) (a : Act) (w : World) (Q : Exit → Act → World → Prop) (hfr : Fr 129 a) (hs : Slots [(0, .slice x n cn), (3, .slice (some ⟨rb, 0, none⟩) K c), (4, .int .i64 (n : Nat)), (5, .slice (some ⟨lb, 0, none⟩) n n), (9, .int .i64 (i : Nat)), (12, .pointer (some ⟨q, 0, none⟩))] a)
    (hx : x = some ⟨nb, no, none⟩) (li : (i : Int) < n) (c1 : w.cell? ⟨q, 0, none⟩ = some (.string y)) (c2 : w.cell? ⟨nb, no + i, none⟩ = some (.string y)) (hQ : ∀ a' r, Fr 129 a' → Slots [(0, .slice x n cn), (3, .slice (some ⟨rb, 0, none⟩) K c), (4, .int .i64 (n : Nat)), (5, .slice (some ⟨lb, 0, none⟩) n n), (9, .int .i64 (i : Nat)), (12, .pointer (some ⟨q, 0, none⟩)), (105, .bool false)] a' → Q .normal a' (w.drewN r)) :
    Code.wp Try.prog (hdC (nthC 4 (inC (hdC (tlC (inC (inC (tlC (nthC 9 (bodyC Try.f5)))))))))) Q a w := by
  obtain ⟨u, hu, rfl⟩ := lay129 hfr
  obtain ⟨s0, s3, s4, s5, s9, s12, -⟩ := hs
  replace s0 : u 0 = .slice x n cn := (hu 0).symm.trans s0
  replace s3 : u 3 = .slice (some ⟨rb, 0, none⟩) K c := (hu 3).symm.trans s3
  replace s4 : u 4 = .int .i64 (n : Nat) := (hu 4).symm.trans s4
  replace s5 : u 5 = .slice (some ⟨lb, 0, none⟩) n n := (hu 5).symm.trans s5
  replace s9 : u 9 = .int .i64 (i : Nat) := (hu 9).symm.trans s9
  replace s12 : u 12 = .pointer (some ⟨q, 0, none⟩) := (hu 12).symm.trans s12
  rw [s0, s3, s4, s5, s9, s12]
  clear hfr hu s0 s3 s4 s5 s9 s12
  conv => arg 2; whnf
  subst hx
  have H : Hid _ := hQ
  clear hQ
  have hne : (y.toList != y.toList) = false := by simp
  go_wp2_with fail
  go_quiet (fail)
  go_wp2
  exact H.out _ _ ⟨rfl, rfl⟩ ⟨rfl, rfl, rfl, rfl, rfl, rfl, rfl, trivial⟩

set_option maxRecDepth 10000 in
set_option maxHeartbeats 1000000 in
theorem q35 (x : Option Addr) (n cn : Nat) (rb K c : Nat) (lb : Nat) (i : Nat) (q : Nat) (vb : Nat) (a : Act) (w : World) (Q : Exit → Act → World → Prop) (hfr : Fr 129 a) (hs : Slots [(0, .slice x n cn), (3, .slice (some ⟨rb, 0, none⟩) K c), (4, .int .i64 (n : Nat)), (5, .slice (some ⟨lb, 0, none⟩) n n), (9, .int .i64 (i : Nat)), (12, .pointer (some ⟨q, 0, none⟩))] a)
    (li : (i : Int) ≤ 4096) (c1 : w.cell? ⟨q, 1, none⟩ = some (.slice (some ⟨vb, 0, none⟩) 2 2)) (v0 : w.cell? ⟨vb, 0, none⟩ = some (.int .u8 ((i % 256 : Nat) : Int))) (v1 : w.cell? ⟨vb, 1, none⟩ = some (.int .u8 ((i / 256 : Nat) : Int))) (hQ : ∀ a', Fr 129 a' → Slots [(0, .slice x n cn), (3, .slice (some ⟨rb, 0, none⟩) K c), (4, .int .i64 (n : Nat)), (5, .slice (some ⟨lb, 0, none⟩) n n), (9, .int .i64 (i : Nat)), (128, .bool false)] a' → Q .normal a' w) :
    Code.wp Try.prog (hdC (dropC 5 (inC (hdC (tlC (inC (inC (tlC (nthC 9 (bodyC Try.f5)))))))))) Q a w := by
  obtain ⟨u, hu, rfl⟩ := lay129 hfr
  obtain ⟨s0, s3, s4, s5, s9, s12, -⟩ := hs
  replace s0 : u 0 = .slice x n cn := (hu 0).symm.trans s0
  replace s3 : u 3 = .slice (some ⟨rb, 0, none⟩) K c := (hu 3).symm.trans s3
  replace s4 : u 4 = .int .i64 (n : Nat) := (hu 4).symm.trans s4
  replace s5 : u 5 = .slice (some ⟨lb, 0, none⟩) n n := (hu 5).symm.trans s5
  replace s9 : u 9 = .int .i64 (i : Nat) := (hu 9).symm.trans s9
  replace s12 : u 12 = .pointer (some ⟨q, 0, none⟩) := (hu 12).symm.trans s12
  rw [s0, s3, s4, s5, s9, s12]
  clear hfr hu s0 s3 s4 s5 s9 s12
  conv => arg 2; whnf
  have e1 : IntKind.u8.wrap (i : Int) = ((i % 256 : Nat) : Int) := by rw [IntKind.wrap_u8]; omega
  have e2 : (i : Int) / 256 = ((i / 256 : Nat) : Int) := by omega
  have e3 : IntKind.u8.wrap ((i / 256 : Nat) : Int) = ((i / 256 : Nat) : Int) := by rw [IntKind.wrap_u8]; omega
  generalize i % 256 = x0 at *
  generalize i / 256 = x1 at *
  have n0 : ((x0 : Int) != (x0 : Int)) = false := by simp
  have n1 : ((x1 : Int) != (x1 : Int)) = false := by simp
  have H : Hid _ := hQ
  clear hQ
  go_wp2
  exact H.out _ ⟨rfl, rfl⟩ ⟨rfl, rfl, rfl, rfl, rfl, rfl, trivial⟩

set_option maxRecDepth 10000 in
set_option maxHeartbeats 1000000 in
theorem q24 (x : Option Addr) (n cn : Nat) (rb K c : Nat) (lb : Nat) (i : Nat) (a : Act) (w : World) (Q : Exit → Act → World → Prop) (hfr : Fr 129 a) (hs : Slots [(0, .slice x n cn), (3, .slice (some ⟨rb, 0, none⟩) K c), (4, .int .i64 (n : Nat)), (5, .slice (some ⟨lb, 0, none⟩) n n), (9, .int .i64 (i : Nat))] a)
    (hk : (i : Int) ≤ 4096) (hQ : ∀ a', Fr 129 a' → Slots [(0, .slice x n cn), (3, .slice (some ⟨rb, 0, none⟩) K c), (4, .int .i64 (n : Nat)), (5, .slice (some ⟨lb, 0, none⟩) n n), (9, .int .i64 (i + 1 : Nat))] a' → Q .normal a' w) :
    Code.wp Try.prog (tlC (tlC (inC (inC (tlC (nthC 9 (bodyC Try.f5))))))) Q a w := by
  obtain ⟨u, hu, rfl⟩ := lay129 hfr
  obtain ⟨s0, s3, s4, s5, s9, -⟩ := hs
  replace s0 : u 0 = .slice x n cn := (hu 0).symm.trans s0
  replace s3 : u 3 = .slice (some ⟨rb, 0, none⟩) K c := (hu 3).symm.trans s3
  replace s4 : u 4 = .int .i64 (n : Nat) := (hu 4).symm.trans s4
  replace s5 : u 5 = .slice (some ⟨lb, 0, none⟩) n n := (hu 5).symm.trans s5
  replace s9 : u 9 = .int .i64 (i : Nat) := (hu 9).symm.trans s9
  rw [s0, s3, s4, s5, s9]
  clear hfr hu s0 s3 s4 s5 s9
  conv => arg 2; whnf
  have H : Hid _ := hQ
  clear hQ
  go_wp2
  exact H.out _ ⟨rfl, rfl⟩ ⟨rfl, rfl, rfl, rfl, rfl, trivial⟩

set_option maxRecDepth 10000 in
set_option maxHeartbeats 1000000 in
theorem q37 (x : Option Addr) (n cn : Nat) (rb K c : Nat) (lb : Nat) (a : Act) (w : World) (Q : Exit → Act → World → Prop) (hfr : Fr 129 a) (hs : Slots [(0, .slice x n cn), (3, .slice (some ⟨rb, 0, none⟩) K c), (4, .int .i64 (n : Nat)), (5, .slice (some ⟨lb, 0, none⟩) n n)] a)
    (hret : ∀ a', Fr 129 a' → sl a' 2 = .bool true → Q .ret a' w) :
    Code.wp Try.prog (dropC 10 (bodyC Try.f5)) Q a w := by
  obtain ⟨u, hu, rfl⟩ := lay129 hfr
  obtain ⟨s0, s3, s4, s5, -⟩ := hs
  replace s0 : u 0 = .slice x n cn := (hu 0).symm.trans s0
  replace s3 : u 3 = .slice (some ⟨rb, 0, none⟩) K c := (hu 3).symm.trans s3
  replace s4 : u 4 = .int .i64 (n : Nat) := (hu 4).symm.trans s4
  replace s5 : u 5 = .slice (some ⟨lb, 0, none⟩) n n := (hu 5).symm.trans s5
  rw [s0, s3, s4, s5]
  clear hfr hu s0 s3 s4 s5
  conv => arg 2; whnf
  have H : Hid _ := hret
  clear hret
  go_wp2
  exact H.out _ ⟨rfl, rfl⟩ rfl

end Go.Proofs.Qxb6601010a
