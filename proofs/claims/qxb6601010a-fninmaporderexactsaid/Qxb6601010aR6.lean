import Derived.Test.Qxb6601010aR5
import Derived.Test.Qxb6601010aP4
namespace Go.Proofs.Qxb6601010a
open Go.RowKit
set_option linter.unusedSimpArgs false
set_option linter.unusedVariables false

theorem Try.info4 : (Try.prog.info? 4).map (fun i => (i.zero, i.size, i.bytes)) = some (some (.bool false), 1, 1) := by kernel_rfl

set_option maxRecDepth 10000 in
set_option maxHeartbeats 1000000 in
theorem q0 (x : Option Addr) (n cn : Nat) (a : Act) (w : World) (Q : Exit → Act → World → Prop) (hfr : Fr 129 a) (hs : Slots [(0, .slice x n cn)] a)
    (hQ : ∀ a', Fr 129 a' → Slots [(0, .slice x n cn)] a' → Q .normal a' w) :
    Code.wp Try.prog (nthC 0 (bodyC Try.f5)) Q a w := by
  obtain ⟨u, hu, rfl⟩ := lay129 hfr
  obtain ⟨s0, -⟩ := hs
  replace s0 : u 0 = .slice x n cn := (hu 0).symm.trans s0
  rw [s0]
  clear hfr hu s0
  conv => arg 2; whnf
  have H : Hid _ := hQ
  clear hQ
  go_wp2
  exact H.out _ ⟨rfl, rfl⟩ ⟨rfl, trivial⟩

set_option maxRecDepth 10000 in
set_option maxHeartbeats 1000000 in
theorem q1 (x : Option Addr) (n cn : Nat) (G : Bool → Prop) (a : Act) (w : World) (Q : Exit → Act → World → Prop) (hfr : Fr 129 a) (hs : Slots [(0, .slice x n cn)] a)
    (hcall : Calls Try.prog 14 #[.slice x n cn] w fun e w' => ∃ ok : Bool, e = .returned (.bool ok) ∧ w' = w ∧ G ok) (hQ : ∀ a' ok, G ok → Fr 129 a' → Slots [(0, .slice x n cn), (15, .bool (!ok))] a' → Q .normal a' w) :
    Code.wp Try.prog (hdC (nthC 1 (bodyC Try.f5))) Q a w := by
  obtain ⟨u, hu, rfl⟩ := lay129 hfr
  obtain ⟨s0, -⟩ := hs
  replace s0 : u 0 = .slice x n cn := (hu 0).symm.trans s0
  rw [s0]
  clear hfr hu s0
  conv => arg 2; whnf
  have HC : Hid _ := hcall
  clear hcall
  have H : Hid _ := hQ
  clear hQ
  go_wp2_with (go_at_call 14; refine Calls.mono HC.out ?_; rintro e w' ⟨ok, rfl, rfl, hG⟩)
  exact H.out _ _ hG ⟨rfl, rfl⟩ ⟨rfl, rfl, trivial⟩

set_option maxRecDepth 10000 in
set_option maxHeartbeats 1000000 in
theorem q1r (x : Option Addr) (n cn : Nat) (a : Act) (w : World) (Q : Exit → Act → World → Prop) (hfr : Fr 129 a) (hs : Slots [(0, .slice x n cn)] a)
    (hret : ∀ a', Fr 129 a' → sl a' 2 = .bool true → Q .ret a' w) :
    Code.wp Try.prog (thC (tlC (nthC 1 (bodyC Try.f5)))) Q a w := by
  obtain ⟨u, hu, rfl⟩ := lay129 hfr
  obtain ⟨s0, -⟩ := hs
  replace s0 : u 0 = .slice x n cn := (hu 0).symm.trans s0
  rw [s0]
  clear hfr hu s0
  conv => arg 2; whnf
  have H : Hid _ := hret
  clear hret
  go_wp2
  exact H.out _ ⟨rfl, rfl⟩ rfl

set_option maxRecDepth 10000 in
set_option maxHeartbeats 1000000 in
theorem q3 (x : Option Addr) (n cn : Nat) (G : Bool → Prop) (a : Act) (w : World) (Q : Exit → Act → World → Prop) (hfr : Fr 129 a) (hs : Slots [(0, .slice x n cn)] a)
    (hcall : Calls Try.prog 15 #[.slice x n cn] w fun e w' => ∃ ok : Bool, e = .returned (.bool ok) ∧ w' = w ∧ G ok) (hQ : ∀ a' ok, G ok → Fr 129 a' → Slots [(0, .slice x n cn), (18, .bool (!ok))] a' → Q .normal a' w) :
    Code.wp Try.prog (hdC (nthC 2 (bodyC Try.f5))) Q a w := by
  obtain ⟨u, hu, rfl⟩ := lay129 hfr
  obtain ⟨s0, -⟩ := hs
  replace s0 : u 0 = .slice x n cn := (hu 0).symm.trans s0
  rw [s0]
  clear hfr hu s0
  conv => arg 2; whnf
  have HC : Hid _ := hcall
  clear hcall
  have H : Hid _ := hQ
  clear hQ
  go_wp2_with (go_at_call 15; refine Calls.mono HC.out ?_; rintro e w' ⟨ok, rfl, rfl, hG⟩)
  exact H.out _ _ hG ⟨rfl, rfl⟩ ⟨rfl, rfl, trivial⟩

set_option maxRecDepth 10000 in
set_option maxHeartbeats 1000000 in
theorem q3r (x : Option Addr) (n cn : Nat) (a : Act) (w : World) (Q : Exit → Act → World → Prop) (hfr : Fr 129 a) (hs : Slots [(0, .slice x n cn)] a)
    (hret : ∀ a', Fr 129 a' → sl a' 2 = .bool true → Q .ret a' w) :
    Code.wp Try.prog (thC (tlC (nthC 2 (bodyC Try.f5)))) Q a w := by
  obtain ⟨u, hu, rfl⟩ := lay129 hfr
  obtain ⟨s0, -⟩ := hs
  replace s0 : u 0 = .slice x n cn := (hu 0).symm.trans s0
  rw [s0]
  clear hfr hu s0
  conv => arg 2; whnf
  have H : Hid _ := hret
  clear hret
  go_wp2
  exact H.out _ ⟨rfl, rfl⟩ rfl

set_option maxRecDepth 10000 in
set_option maxHeartbeats 1000000 in
theorem q5 (x : Option Addr) (n cn : Nat) (hb : Nat) (G : World → Prop) (G2 : World → Nat → Nat → Nat → World → Prop) (a : Act) (w : World) (Q : Exit → Act → World → Prop) (hfr : Fr 129 a) (hs : Slots [(0, .slice x n cn)] a)
    (hcall : Calls Try.prog 17 #[.slice x n cn] w fun e w' => e = .returned (.slice (some ⟨hb, 0, none⟩) n n) ∧ G w') (hcall2 : ∀ w', G w' → Calls Try.prog 16 #[.slice (some ⟨hb, 0, none⟩) n n] w' fun e w2 => ∃ rb K c, e = .returned (.slice (some ⟨rb, 0, none⟩) K c) ∧ G2 w' rb K c w2) (hQ : ∀ a' w1 rb K c w2, G w1 → G2 w1 rb K c w2 → Fr 129 a' → Slots [(0, .slice x n cn), (3, .slice (some ⟨rb, 0, none⟩) K c)] a' → Q .normal a' w2) :
    Code.wp Try.prog (nthC 3 (bodyC Try.f5)) Q a w := by
  obtain ⟨u, hu, rfl⟩ := lay129 hfr
  obtain ⟨s0, -⟩ := hs
  replace s0 : u 0 = .slice x n cn := (hu 0).symm.trans s0
  rw [s0]
  clear hfr hu s0
  conv => arg 2; whnf
  have HC : Hid _ := hcall
  have HD : Hid _ := hcall2
  clear hcall hcall2
  have H : Hid _ := hQ
  clear hQ
  go_wp2_with (first | (go_at_call 17; refine Calls.mono HC.out ?_; rintro e w1 ⟨rfl, hG⟩) | (go_at_call 16; refine Calls.mono (HD.out _ hG) ?_; rintro e w2 ⟨rb, K, c, rfl, hG2⟩))
  exact H.out _ _ _ _ _ _ hG hG2 ⟨rfl, rfl⟩ ⟨rfl, rfl, trivial⟩

set_option maxRecDepth 10000 in
set_option maxHeartbeats 1000000 in
theorem q6 (x : Option Addr) (n cn : Nat) (rb K c : Nat) (a : Act) (w : World) (Q : Exit → Act → World → Prop) (hfr : Fr 129 a) (hs : Slots [(0, .slice x n cn), (3, .slice (some ⟨rb, 0, none⟩) K c)] a)
    (hQ : ∀ a', Fr 129 a' → Slots [(0, .slice x n cn), (3, .slice (some ⟨rb, 0, none⟩) K c), (4, .int .i64 (n : Nat))] a' → Q .normal a' w) :
    Code.wp Try.prog (nthC 4 (bodyC Try.f5)) Q a w := by
  obtain ⟨u, hu, rfl⟩ := lay129 hfr
  obtain ⟨s0, s3, -⟩ := hs
  replace s0 : u 0 = .slice x n cn := (hu 0).symm.trans s0
  replace s3 : u 3 = .slice (some ⟨rb, 0, none⟩) K c := (hu 3).symm.trans s3
  rw [s0, s3]
  clear hfr hu s0 s3
  conv => arg 2; whnf
  have H : Hid _ := hQ
  clear hQ
  go_wp2
  exact H.out _ ⟨rfl, rfl⟩ ⟨rfl, rfl, rfl, trivial⟩

set_option maxRecDepth 10000 in
set_option maxHeartbeats 1000000 in
theorem q7 (x : Option Addr) (n cn : Nat) (rb K c : Nat) (a : Act) (w : World) (Q : Exit → Act → World → Prop) (hfr : Fr 129 a) (hs : Slots [(0, .slice x n cn), (3, .slice (some ⟨rb, 0, none⟩) K c), (4, .int .i64 (n : Nat))] a)
    (ln : n ≤ 4096) (hQ : ∀ a', Fr 129 a' → Slots [(0, .slice x n cn), (3, .slice (some ⟨rb, 0, none⟩) K c), (4, .int .i64 (n : Nat)), (5, .slice (some ⟨w.heap.size, 0, none⟩) n n)] a' → Q .normal a' (w.alloc (.cells (madeCells #[.bool false] n) 4))) :
    Code.wp Try.prog (nthC 5 (bodyC Try.f5)) Q a w := by
  obtain ⟨u, hu, rfl⟩ := lay129 hfr
  obtain ⟨s0, s3, s4, -⟩ := hs
  replace s0 : u 0 = .slice x n cn := (hu 0).symm.trans s0
  replace s3 : u 3 = .slice (some ⟨rb, 0, none⟩) K c := (hu 3).symm.trans s3
  replace s4 : u 4 = .int .i64 (n : Nat) := (hu 4).symm.trans s4
  rw [s0, s3, s4]
  clear hfr hu s0 s3 s4
  conv => arg 2; whnf
  have hmk := fun wx => run_mk (P := Try.prog) 37 4 (.bool false) 1 1 Try.underlying37 Try.info4 n (by omega) (by omega) wx
  have hl2 : (n : Int) ≤ 9223372036854775807 := by omega
  simp only [Nat.mul_one] at hmk
  have H : Hid _ := hQ
  clear hQ
  go_wp2
  exact H.out _ ⟨rfl, rfl⟩ ⟨rfl, rfl, rfl, rfl, trivial⟩

set_option maxRecDepth 10000 in
set_option maxHeartbeats 1000000 in
theorem q8 (x : Option Addr) (n cn : Nat) (rb K c : Nat) (lb : Nat) (a : Act) (w : World) (Q : Exit → Act → World → Prop) (hfr : Fr 129 a) (hs : Slots [(0, .slice x n cn), (3, .slice (some ⟨rb, 0, none⟩) K c), (4, .int .i64 (n : Nat)), (5, .slice (some ⟨lb, 0, none⟩) n n)] a)
    (hQ : ∀ a', Fr 129 a' → Slots [(0, .slice x n cn), (3, .slice (some ⟨rb, 0, none⟩) K c), (4, .int .i64 (n : Nat)), (5, .slice (some ⟨lb, 0, none⟩) n n), (6, .int .i64 (0 : Nat))] a' → Q .normal a' w) :
    Code.wp Try.prog (nthC 6 (bodyC Try.f5)) Q a w := by
  obtain ⟨u, hu, rfl⟩ := lay129 hfr
  obtain ⟨s0, s3, s4, s5, -⟩ := hs
  replace s0 : u 0 = .slice x n cn := (hu 0).symm.trans s0
  replace s3 : u 3 = .slice (some ⟨rb, 0, none⟩) K c := (hu 3).symm.trans s3
  replace s4 : u 4 = .int .i64 (n : Nat) := (hu 4).symm.trans s4
  replace s5 : u 5 = .slice (some ⟨lb, 0, none⟩) n n := (hu 5).symm.trans s5
  rw [s0, s3, s4, s5]
  clear hfr hu s0 s3 s4 s5
  conv => arg 2; whnf
  have H : Hid _ := hQ
  clear hQ
  go_wp2
  exact H.out _ ⟨rfl, rfl⟩ ⟨rfl, rfl, rfl, rfl, rfl, trivial⟩

set_option maxRecDepth 10000 in
set_option maxHeartbeats 1000000 in
theorem q9 (x : Option Addr) (n cn : Nat) (rb K c : Nat) (lb : Nat) (ct : Nat) (a : Act) (w : World) (Q : Exit → Act → World → Prop) (hfr : Fr 129 a) (hs : Slots [(0, .slice x n cn), (3, .slice (some ⟨rb, 0, none⟩) K c), (4, .int .i64 (n : Nat)), (5, .slice (some ⟨lb, 0, none⟩) n n), (6, .int .i64 (ct : Nat))] a)
    (hQ : ∀ a', Fr 129 a' → Slots [(0, .slice x n cn), (3, .slice (some ⟨rb, 0, none⟩) K c), (4, .int .i64 (n : Nat)), (5, .slice (some ⟨lb, 0, none⟩) n n), (6, .int .i64 (ct : Nat)), (7, .int .i64 (0 : Nat))] a' → Q .normal a' w) :
    Code.wp Try.prog (hdC (nthC 7 (bodyC Try.f5))) Q a w := by
  obtain ⟨u, hu, rfl⟩ := lay129 hfr
  obtain ⟨s0, s3, s4, s5, s6, -⟩ := hs
  replace s0 : u 0 = .slice x n cn := (hu 0).symm.trans s0
  replace s3 : u 3 = .slice (some ⟨rb, 0, none⟩) K c := (hu 3).symm.trans s3
  replace s4 : u 4 = .int .i64 (n : Nat) := (hu 4).symm.trans s4
  replace s5 : u 5 = .slice (some ⟨lb, 0, none⟩) n n := (hu 5).symm.trans s5
  replace s6 : u 6 = .int .i64 (ct : Nat) := (hu 6).symm.trans s6
  rw [s0, s3, s4, s5, s6]
  clear hfr hu s0 s3 s4 s5 s6
  conv => arg 2; whnf
  have H : Hid _ := hQ
  clear hQ
  go_wp2
  exact H.out _ ⟨rfl, rfl⟩ ⟨rfl, rfl, rfl, rfl, rfl, rfl, trivial⟩

set_option maxRecDepth 10000 in
set_option maxHeartbeats 1000000 in
theorem q10 (x : Option Addr) (n cn : Nat) (rb K c : Nat) (lb : Nat) (ct : Nat) (i : Nat) (a : Act) (w : World) (Q : Exit → Act → World → Prop) (hfr : Fr 129 a) (hs : Slots [(0, .slice x n cn), (3, .slice (some ⟨rb, 0, none⟩) K c), (4, .int .i64 (n : Nat)), (5, .slice (some ⟨lb, 0, none⟩) n n), (6, .int .i64 (ct : Nat)), (7, .int .i64 (i : Nat))] a)
    (hQ : ∀ a', i < n → Fr 129 a' → Slots [(0, .slice x n cn), (3, .slice (some ⟨rb, 0, none⟩) K c), (4, .int .i64 (n : Nat)), (5, .slice (some ⟨lb, 0, none⟩) n n), (6, .int .i64 (ct : Nat)), (7, .int .i64 (i : Nat))] a' → Q .normal a' w) (hexit : ∀ a', ¬ i < n → Fr 129 a' → Slots [(0, .slice x n cn), (3, .slice (some ⟨rb, 0, none⟩) K c), (4, .int .i64 (n : Nat)), (5, .slice (some ⟨lb, 0, none⟩) n n), (6, .int .i64 (ct : Nat))] a' → Q (.exit 0) a' w) :
    Code.wp Try.prog (hdC (inC (inC (tlC (nthC 7 (bodyC Try.f5)))))) Q a w := by
  obtain ⟨u, hu, rfl⟩ := lay129 hfr
  obtain ⟨s0, s3, s4, s5, s6, s7, -⟩ := hs
  replace s0 : u 0 = .slice x n cn := (hu 0).symm.trans s0
  replace s3 : u 3 = .slice (some ⟨rb, 0, none⟩) K c := (hu 3).symm.trans s3
  replace s4 : u 4 = .int .i64 (n : Nat) := (hu 4).symm.trans s4
  replace s5 : u 5 = .slice (some ⟨lb, 0, none⟩) n n := (hu 5).symm.trans s5
  replace s6 : u 6 = .int .i64 (ct : Nat) := (hu 6).symm.trans s6
  replace s7 : u 7 = .int .i64 (i : Nat) := (hu 7).symm.trans s7
  rw [s0, s3, s4, s5, s6, s7]
  clear hfr hu s0 s3 s4 s5 s6 s7
  conv => arg 2; whnf
  have H : Hid _ := hQ
  have HX : Hid _ := hexit
  clear hQ hexit
  by_cases hlt : i < n
  · have l : (i : Int) < n := by omega
    go_wp2
    exact H.out _ hlt ⟨rfl, rfl⟩ ⟨rfl, rfl, rfl, rfl, rfl, rfl, trivial⟩
  · have l : ¬ ((i : Int) < n) := by omega
    go_wp2
    exact HX.out _ hlt ⟨rfl, rfl⟩ ⟨rfl, rfl, rfl, rfl, rfl, trivial⟩

set_option maxRecDepth 10000 in
set_option maxHeartbeats 1000000 in
theorem q12 (x : Option Addr) (n cn : Nat) (rb K c : Nat) (lb : Nat) (ct : Nat) (i : Nat) (a : Act) (w : World) (Q : Exit → Act → World → Prop) (hfr : Fr 129 a) (hs : Slots [(0, .slice x n cn), (3, .slice (some ⟨rb, 0, none⟩) K c), (4, .int .i64 (n : Nat)), (5, .slice (some ⟨lb, 0, none⟩) n n), (6, .int .i64 (ct : Nat)), (7, .int .i64 (i : Nat))] a)
    (li : (i : Int) < n) (v : Value) (cl : w.cell? ⟨lb, i, none⟩ = some v) (fz : w.frozen? ⟨lb, i, none⟩ = false) (hQ : ∀ a', Fr 129 a' → Slots [(0, .slice x n cn), (3, .slice (some ⟨rb, 0, none⟩) K c), (4, .int .i64 (n : Nat)), (5, .slice (some ⟨lb, 0, none⟩) n n), (6, .int .i64 (ct : Nat)), (7, .int .i64 (i : Nat))] a' → Q .normal a' (w.setCell ⟨lb, i, none⟩ (.bool true))) :
    Code.wp Try.prog (nthC 0 (inC (hdC (tlC (inC (inC (tlC (nthC 7 (bodyC Try.f5))))))))) Q a w := by
  obtain ⟨u, hu, rfl⟩ := lay129 hfr
  obtain ⟨s0, s3, s4, s5, s6, s7, -⟩ := hs
  replace s0 : u 0 = .slice x n cn := (hu 0).symm.trans s0
  replace s3 : u 3 = .slice (some ⟨rb, 0, none⟩) K c := (hu 3).symm.trans s3
  replace s4 : u 4 = .int .i64 (n : Nat) := (hu 4).symm.trans s4
  replace s5 : u 5 = .slice (some ⟨lb, 0, none⟩) n n := (hu 5).symm.trans s5
  replace s6 : u 6 = .int .i64 (ct : Nat) := (hu 6).symm.trans s6
  replace s7 : u 7 = .int .i64 (i : Nat) := (hu 7).symm.trans s7
  rw [s0, s3, s4, s5, s6, s7]
  clear hfr hu s0 s3 s4 s5 s6 s7
  conv => arg 2; whnf
  have H : Hid _ := hQ
  clear hQ
  go_wp2
  exact H.out _ ⟨rfl, rfl⟩ ⟨rfl, rfl, rfl, rfl, rfl, rfl, trivial⟩

set_option maxRecDepth 10000 in
set_option maxHeartbeats 1000000 in
theorem q13 (x : Option Addr) (n cn : Nat) (rb K c : Nat) (lb : Nat) (ct : Nat) (i : Nat) (a : Act) (w : World) (Q : Exit → Act → World → Prop) (hfr : Fr 129 a) (hs : Slots [(0, .slice x n cn), (3, .slice (some ⟨rb, 0, none⟩) K c), (4, .int .i64 (n : Nat)), (5, .slice (some ⟨lb, 0, none⟩) n n), (6, .int .i64 (ct : Nat)), (7, .int .i64 (i : Nat))] a)
    (hk : (i : Int) ≤ 4096) (hQ : ∀ a', Fr 129 a' → Slots [(0, .slice x n cn), (3, .slice (some ⟨rb, 0, none⟩) K c), (4, .int .i64 (n : Nat)), (5, .slice (some ⟨lb, 0, none⟩) n n), (6, .int .i64 (ct : Nat)), (7, .int .i64 (i : Nat)), (8, .int .i64 (i + 1 : Nat))] a' → Q .normal a' w) :
    Code.wp Try.prog (hdC (nthC 1 (inC (hdC (tlC (inC (inC (tlC (nthC 7 (bodyC Try.f5)))))))))) Q a w := by
  obtain ⟨u, hu, rfl⟩ := lay129 hfr
  obtain ⟨s0, s3, s4, s5, s6, s7, -⟩ := hs
  replace s0 : u 0 = .slice x n cn := (hu 0).symm.trans s0
  replace s3 : u 3 = .slice (some ⟨rb, 0, none⟩) K c := (hu 3).symm.trans s3
  replace s4 : u 4 = .int .i64 (n : Nat) := (hu 4).symm.trans s4
  replace s5 : u 5 = .slice (some ⟨lb, 0, none⟩) n n := (hu 5).symm.trans s5
  replace s6 : u 6 = .int .i64 (ct : Nat) := (hu 6).symm.trans s6
  replace s7 : u 7 = .int .i64 (i : Nat) := (hu 7).symm.trans s7
  rw [s0, s3, s4, s5, s6, s7]
  clear hfr hu s0 s3 s4 s5 s6 s7
  conv => arg 2; whnf
  have H : Hid _ := hQ
  clear hQ
  go_wp2
  exact H.out _ ⟨rfl, rfl⟩ ⟨rfl, rfl, rfl, rfl, rfl, rfl, rfl, trivial⟩

set_option maxRecDepth 10000 in
set_option maxHeartbeats 1000000 in
theorem q14 (x : Option Addr) (n cn : Nat) (rb K c : Nat) (lb : Nat) (ct : Nat) (i : Nat) (j : Nat) (a : Act) (w : World) (Q : Exit → Act → World → Prop) (hfr : Fr 129 a) (hs : Slots [(0, .slice x n cn), (3, .slice (some ⟨rb, 0, none⟩) K c), (4, .int .i64 (n : Nat)), (5, .slice (some ⟨lb, 0, none⟩) n n), (6, .int .i64 (ct : Nat)), (7, .int .i64 (i : Nat)), (8, .int .i64 (j : Nat))] a)
    (hQ : ∀ a', j < n → Fr 129 a' → Slots [(0, .slice x n cn), (3, .slice (some ⟨rb, 0, none⟩) K c), (4, .int .i64 (n : Nat)), (5, .slice (some ⟨lb, 0, none⟩) n n), (6, .int .i64 (ct : Nat)), (7, .int .i64 (i : Nat)), (8, .int .i64 (j : Nat))] a' → Q .normal a' w) (hexit : ∀ a', ¬ j < n → Fr 129 a' → Slots [(0, .slice x n cn), (3, .slice (some ⟨rb, 0, none⟩) K c), (4, .int .i64 (n : Nat)), (5, .slice (some ⟨lb, 0, none⟩) n n), (6, .int .i64 (ct : Nat)), (7, .int .i64 (i : Nat))] a' → Q (.exit 2) a' w) :
    Code.wp Try.prog (hdC (inC (inC (tlC (nthC 1 (inC (hdC (tlC (inC (inC (tlC (nthC 7 (bodyC Try.f5))))))))))))) Q a w := by
  obtain ⟨u, hu, rfl⟩ := lay129 hfr
  obtain ⟨s0, s3, s4, s5, s6, s7, s8, -⟩ := hs
  replace s0 : u 0 = .slice x n cn := (hu 0).symm.trans s0
  replace s3 : u 3 = .slice (some ⟨rb, 0, none⟩) K c := (hu 3).symm.trans s3
  replace s4 : u 4 = .int .i64 (n : Nat) := (hu 4).symm.trans s4
  replace s5 : u 5 = .slice (some ⟨lb, 0, none⟩) n n := (hu 5).symm.trans s5
  replace s6 : u 6 = .int .i64 (ct : Nat) := (hu 6).symm.trans s6
  replace s7 : u 7 = .int .i64 (i : Nat) := (hu 7).symm.trans s7
  replace s8 : u 8 = .int .i64 (j : Nat) := (hu 8).symm.trans s8
  rw [s0, s3, s4, s5, s6, s7, s8]
  clear hfr hu s0 s3 s4 s5 s6 s7 s8
  conv => arg 2; whnf
  have H : Hid _ := hQ
  have HX : Hid _ := hexit
  clear hQ hexit
  by_cases hlt : j < n
  · have l : (j : Int) < n := by omega
    go_wp2
    exact H.out _ hlt ⟨rfl, rfl⟩ ⟨rfl, rfl, rfl, rfl, rfl, rfl, rfl, trivial⟩
  · have l : ¬ ((j : Int) < n) := by omega
    go_wp2
    exact HX.out _ hlt ⟨rfl, rfl⟩ ⟨rfl, rfl, rfl, rfl, rfl, rfl, trivial⟩

set_option maxRecDepth 10000 in
set_option maxHeartbeats 1000000 in
theorem q16 (x : Option Addr) (n cn : Nat) (rb K c : Nat) (lb : Nat) (ct : Nat) (i : Nat) (j : Nat) (nb no : Nat) (y z : ByteArray) (a : Act) (w : World) (Q : Exit → Act → World → Prop) (hfr : Fr 129 a) (hs : Slots [(0, .slice x n cn), (3, .slice (some ⟨rb, 0, none⟩) K c), (4, .int .i64 (n : Nat)), (5, .slice (some ⟨lb, 0, none⟩) n n), (6, .int .i64 (ct : Nat)), (7, .int .i64 (i : Nat)), (8, .int .i64 (j : Nat))] a)
    (hx : x = some ⟨nb, no, none⟩) (lj : (j : Int) < n) (li : (i : Int) < n) (c1 : w.cell? ⟨nb, no + j, none⟩ = some (.string y)) (c2 : w.cell? ⟨nb, no + i, none⟩ = some (.string z)) (hQ : ∀ a' r, Fr 129 a' → Slots [(0, .slice x n cn), (3, .slice (some ⟨rb, 0, none⟩) K c), (4, .int .i64 (n : Nat)), (5, .slice (some ⟨lb, 0, none⟩) n n), (6, .int .i64 (ct : Nat)), (7, .int .i64 (i : Nat)), (8, .int .i64 (j : Nat)), (49, .bool (y.toList == z.toList))] a' → Q .normal a' (w.drewN r)) :
    Code.wp Try.prog (hdC (inC (hdC (tlC (inC (inC (tlC (nthC 1 (inC (hdC (tlC (inC (inC (tlC (nthC 7 (bodyC Try.f5)))))))))))))))) Q a w := by
  obtain ⟨u, hu, rfl⟩ := lay129 hfr
  obtain ⟨s0, s3, s4, s5, s6, s7, s8, -⟩ := hs
  replace s0 : u 0 = .slice x n cn := (hu 0).symm.trans s0
  replace s3 : u 3 = .slice (some ⟨rb, 0, none⟩) K c := (hu 3).symm.trans s3
  replace s4 : u 4 = .int .i64 (n : Nat) := (hu 4).symm.trans s4
  replace s5 : u 5 = .slice (some ⟨lb, 0, none⟩) n n := (hu 5).symm.trans s5
  replace s6 : u 6 = .int .i64 (ct : Nat) := (hu 6).symm.trans s6
  replace s7 : u 7 = .int .i64 (i : Nat) := (hu 7).symm.trans s7
  replace s8 : u 8 = .int .i64 (j : Nat) := (hu 8).symm.trans s8
  rw [s0, s3, s4, s5, s6, s7, s8]
  clear hfr hu s0 s3 s4 s5 s6 s7 s8
  conv => arg 2; whnf
  subst hx
  have H : Hid _ := hQ
  clear hQ
  go_wp2_with fail
  go_quiet (fail)
  go_wp2
  exact H.out _ _ ⟨rfl, rfl⟩ ⟨rfl, rfl, rfl, rfl, rfl, rfl, rfl, rfl, trivial⟩

set_option maxRecDepth 10000 in
set_option maxHeartbeats 1000000 in
theorem q17 (x : Option Addr) (n cn : Nat) (rb K c : Nat) (lb : Nat) (ct : Nat) (i : Nat) (j : Nat) (a : Act) (w : World) (Q : Exit → Act → World → Prop) (hfr : Fr 129 a) (hs : Slots [(0, .slice x n cn), (3, .slice (some ⟨rb, 0, none⟩) K c), (4, .int .i64 (n : Nat)), (5, .slice (some ⟨lb, 0, none⟩) n n), (6, .int .i64 (ct : Nat)), (7, .int .i64 (i : Nat)), (8, .int .i64 (j : Nat))] a)
    (li : (i : Int) < n) (v : Value) (cl : w.cell? ⟨lb, i, none⟩ = some v) (fz : w.frozen? ⟨lb, i, none⟩ = false) (hQ : ∀ a', Fr 129 a' → Slots [(0, .slice x n cn), (3, .slice (some ⟨rb, 0, none⟩) K c), (4, .int .i64 (n : Nat)), (5, .slice (some ⟨lb, 0, none⟩) n n), (6, .int .i64 (ct : Nat)), (7, .int .i64 (i : Nat))] a' → Q (.exit 2) a' (w.setCell ⟨lb, i, none⟩ (.bool false))) :
    Code.wp Try.prog (thC (tlC (inC (hdC (tlC (inC (inC (tlC (nthC 1 (inC (hdC (tlC (inC (inC (tlC (nthC 7 (bodyC Try.f5))))))))))))))))) Q a w := by
  obtain ⟨u, hu, rfl⟩ := lay129 hfr
  obtain ⟨s0, s3, s4, s5, s6, s7, s8, -⟩ := hs
  replace s0 : u 0 = .slice x n cn := (hu 0).symm.trans s0
  replace s3 : u 3 = .slice (some ⟨rb, 0, none⟩) K c := (hu 3).symm.trans s3
  replace s4 : u 4 = .int .i64 (n : Nat) := (hu 4).symm.trans s4
  replace s5 : u 5 = .slice (some ⟨lb, 0, none⟩) n n := (hu 5).symm.trans s5
  replace s6 : u 6 = .int .i64 (ct : Nat) := (hu 6).symm.trans s6
  replace s7 : u 7 = .int .i64 (i : Nat) := (hu 7).symm.trans s7
  replace s8 : u 8 = .int .i64 (j : Nat) := (hu 8).symm.trans s8
  rw [s0, s3, s4, s5, s6, s7, s8]
  clear hfr hu s0 s3 s4 s5 s6 s7 s8
  conv => arg 2; whnf
  have H : Hid _ := hQ
  clear hQ
  go_wp2
  exact H.out _ ⟨rfl, rfl⟩ ⟨rfl, rfl, rfl, rfl, rfl, rfl, trivial⟩

set_option maxRecDepth 10000 in
set_option maxHeartbeats 1000000 in
theorem q15 (x : Option Addr) (n cn : Nat) (rb K c : Nat) (lb : Nat) (ct : Nat) (i : Nat) (j : Nat) (a : Act) (w : World) (Q : Exit → Act → World → Prop) (hfr : Fr 129 a) (hs : Slots [(0, .slice x n cn), (3, .slice (some ⟨rb, 0, none⟩) K c), (4, .int .i64 (n : Nat)), (5, .slice (some ⟨lb, 0, none⟩) n n), (6, .int .i64 (ct : Nat)), (7, .int .i64 (i : Nat)), (8, .int .i64 (j : Nat))] a)
    (hk : (j : Int) ≤ 4096) (hQ : ∀ a', Fr 129 a' → Slots [(0, .slice x n cn), (3, .slice (some ⟨rb, 0, none⟩) K c), (4, .int .i64 (n : Nat)), (5, .slice (some ⟨lb, 0, none⟩) n n), (6, .int .i64 (ct : Nat)), (7, .int .i64 (i : Nat)), (8, .int .i64 (j + 1 : Nat))] a' → Q .normal a' w) :
    Code.wp Try.prog (tlC (tlC (inC (inC (tlC (nthC 1 (inC (hdC (tlC (inC (inC (tlC (nthC 7 (bodyC Try.f5)))))))))))))) Q a w := by
  obtain ⟨u, hu, rfl⟩ := lay129 hfr
  obtain ⟨s0, s3, s4, s5, s6, s7, s8, -⟩ := hs
  replace s0 : u 0 = .slice x n cn := (hu 0).symm.trans s0
  replace s3 : u 3 = .slice (some ⟨rb, 0, none⟩) K c := (hu 3).symm.trans s3
  replace s4 : u 4 = .int .i64 (n : Nat) := (hu 4).symm.trans s4
  replace s5 : u 5 = .slice (some ⟨lb, 0, none⟩) n n := (hu 5).symm.trans s5
  replace s6 : u 6 = .int .i64 (ct : Nat) := (hu 6).symm.trans s6
  replace s7 : u 7 = .int .i64 (i : Nat) := (hu 7).symm.trans s7
  replace s8 : u 8 = .int .i64 (j : Nat) := (hu 8).symm.trans s8
  rw [s0, s3, s4, s5, s6, s7, s8]
  clear hfr hu s0 s3 s4 s5 s6 s7 s8
  conv => arg 2; whnf
  have H : Hid _ := hQ
  clear hQ
  go_wp2
  exact H.out _ ⟨rfl, rfl⟩ ⟨rfl, rfl, rfl, rfl, rfl, rfl, rfl, trivial⟩

set_option maxRecDepth 10000 in
set_option maxHeartbeats 1000000 in
theorem q18 (x : Option Addr) (n cn : Nat) (rb K c : Nat) (lb : Nat) (ct : Nat) (i : Nat) (v : Bool) (a : Act) (w : World) (Q : Exit → Act → World → Prop) (hfr : Fr 129 a) (hs : Slots [(0, .slice x n cn), (3, .slice (some ⟨rb, 0, none⟩) K c), (4, .int .i64 (n : Nat)), (5, .slice (some ⟨lb, 0, none⟩) n n), (6, .int .i64 (ct : Nat)), (7, .int .i64 (i : Nat))] a)
    (li : (i : Int) < n) (cl : w.cell? ⟨lb, i, none⟩ = some (.bool v)) (hQ : ∀ a', Fr 129 a' → Slots [(0, .slice x n cn), (3, .slice (some ⟨rb, 0, none⟩) K c), (4, .int .i64 (n : Nat)), (5, .slice (some ⟨lb, 0, none⟩) n n), (6, .int .i64 (ct : Nat)), (7, .int .i64 (i : Nat)), (56, .bool v)] a' → Q .normal a' w) :
    Code.wp Try.prog (hdC (dropC 2 (inC (hdC (tlC (inC (inC (tlC (nthC 7 (bodyC Try.f5)))))))))) Q a w := by
  obtain ⟨u, hu, rfl⟩ := lay129 hfr
  obtain ⟨s0, s3, s4, s5, s6, s7, -⟩ := hs
  replace s0 : u 0 = .slice x n cn := (hu 0).symm.trans s0
  replace s3 : u 3 = .slice (some ⟨rb, 0, none⟩) K c := (hu 3).symm.trans s3
  replace s4 : u 4 = .int .i64 (n : Nat) := (hu 4).symm.trans s4
  replace s5 : u 5 = .slice (some ⟨lb, 0, none⟩) n n := (hu 5).symm.trans s5
  replace s6 : u 6 = .int .i64 (ct : Nat) := (hu 6).symm.trans s6
  replace s7 : u 7 = .int .i64 (i : Nat) := (hu 7).symm.trans s7
  rw [s0, s3, s4, s5, s6, s7]
  clear hfr hu s0 s3 s4 s5 s6 s7
  conv => arg 2; whnf
  have H : Hid _ := hQ
  clear hQ
  go_wp2
  exact H.out _ ⟨rfl, rfl⟩ ⟨rfl, rfl, rfl, rfl, rfl, rfl, rfl, trivial⟩

set_option maxRecDepth 10000 in
set_option maxHeartbeats 1000000 in
theorem q19 (x : Option Addr) (n cn : Nat) (rb K c : Nat) (lb : Nat) (ct : Nat) (i : Nat) (a : Act) (w : World) (Q : Exit → Act → World → Prop) (hfr : Fr 129 a) (hs : Slots [(0, .slice x n cn), (3, .slice (some ⟨rb, 0, none⟩) K c), (4, .int .i64 (n : Nat)), (5, .slice (some ⟨lb, 0, none⟩) n n), (6, .int .i64 (ct : Nat)), (7, .int .i64 (i : Nat))] a)
    (hk : (ct : Int) ≤ 4096) (hQ : ∀ a', Fr 129 a' → Slots [(0, .slice x n cn), (3, .slice (some ⟨rb, 0, none⟩) K c), (4, .int .i64 (n : Nat)), (5, .slice (some ⟨lb, 0, none⟩) n n), (6, .int .i64 (ct + 1 : Nat)), (7, .int .i64 (i : Nat))] a' → Q .normal a' w) :
    Code.wp Try.prog (thC (tlC (dropC 2 (inC (hdC (tlC (inC (inC (tlC (nthC 7 (bodyC Try.f5))))))))))) Q a w := by
  obtain ⟨u, hu, rfl⟩ := lay129 hfr
  obtain ⟨s0, s3, s4, s5, s6, s7, -⟩ := hs
  replace s0 : u 0 = .slice x n cn := (hu 0).symm.trans s0
  replace s3 : u 3 = .slice (some ⟨rb, 0, none⟩) K c := (hu 3).symm.trans s3
  replace s4 : u 4 = .int .i64 (n : Nat) := (hu 4).symm.trans s4
  replace s5 : u 5 = .slice (some ⟨lb, 0, none⟩) n n := (hu 5).symm.trans s5
  replace s6 : u 6 = .int .i64 (ct : Nat) := (hu 6).symm.trans s6
  replace s7 : u 7 = .int .i64 (i : Nat) := (hu 7).symm.trans s7
  rw [s0, s3, s4, s5, s6, s7]
  clear hfr hu s0 s3 s4 s5 s6 s7
  conv => arg 2; whnf
  have H : Hid _ := hQ
  clear hQ
  go_wp2
  exact H.out _ ⟨rfl, rfl⟩ ⟨rfl, rfl, rfl, rfl, rfl, rfl, trivial⟩

set_option maxRecDepth 10000 in
set_option maxHeartbeats 1000000 in
theorem q11 (x : Option Addr) (n cn : Nat) (rb K c : Nat) (lb : Nat) (ct : Nat) (i : Nat) (a : Act) (w : World) (Q : Exit → Act → World → Prop) (hfr : Fr 129 a) (hs : Slots [(0, .slice x n cn), (3, .slice (some ⟨rb, 0, none⟩) K c), (4, .int .i64 (n : Nat)), (5, .slice (some ⟨lb, 0, none⟩) n n), (6, .int .i64 (ct : Nat)), (7, .int .i64 (i : Nat))] a)
    (hk : (i : Int) ≤ 4096) (hQ : ∀ a', Fr 129 a' → Slots [(0, .slice x n cn), (3, .slice (some ⟨rb, 0, none⟩) K c), (4, .int .i64 (n : Nat)), (5, .slice (some ⟨lb, 0, none⟩) n n), (6, .int .i64 (ct : Nat)), (7, .int .i64 (i + 1 : Nat))] a' → Q .normal a' w) :
    Code.wp Try.prog (tlC (tlC (inC (inC (tlC (nthC 7 (bodyC Try.f5))))))) Q a w := by
  obtain ⟨u, hu, rfl⟩ := lay129 hfr
  obtain ⟨s0, s3, s4, s5, s6, s7, -⟩ := hs
  replace s0 : u 0 = .slice x n cn := (hu 0).symm.trans s0
  replace s3 : u 3 = .slice (some ⟨rb, 0, none⟩) K c := (hu 3).symm.trans s3
  replace s4 : u 4 = .int .i64 (n : Nat) := (hu 4).symm.trans s4
  replace s5 : u 5 = .slice (some ⟨lb, 0, none⟩) n n := (hu 5).symm.trans s5
  replace s6 : u 6 = .int .i64 (ct : Nat) := (hu 6).symm.trans s6
  replace s7 : u 7 = .int .i64 (i : Nat) := (hu 7).symm.trans s7
  rw [s0, s3, s4, s5, s6, s7]
  clear hfr hu s0 s3 s4 s5 s6 s7
  conv => arg 2; whnf
  have H : Hid _ := hQ
  clear hQ
  go_wp2
  exact H.out _ ⟨rfl, rfl⟩ ⟨rfl, rfl, rfl, rfl, rfl, rfl, trivial⟩

set_option maxRecDepth 10000 in
set_option maxHeartbeats 1000000 in
theorem q20 (x : Option Addr) (n cn : Nat) (rb K c : Nat) (lb : Nat) (a : Act) (w : World) (Q : Exit → Act → World → Prop) (hfr : Fr 129 a) (hs : Slots [(0, .slice x n cn), (3, .slice (some ⟨rb, 0, none⟩) K c), (4, .int .i64 (n : Nat)), (5, .slice (some ⟨lb, 0, none⟩) n n), (6, .int .i64 (K : Nat))] a)
    (he : ((K : Int) != (K : Int)) = false) (hQ : ∀ a', Fr 129 a' → Slots [(0, .slice x n cn), (3, .slice (some ⟨rb, 0, none⟩) K c), (4, .int .i64 (n : Nat)), (5, .slice (some ⟨lb, 0, none⟩) n n), (62, .bool false)] a' → Q .normal a' w) :
    Code.wp Try.prog (hdC (nthC 8 (bodyC Try.f5))) Q a w := by
  obtain ⟨u, hu, rfl⟩ := lay129 hfr
  obtain ⟨s0, s3, s4, s5, s6, -⟩ := hs
  replace s0 : u 0 = .slice x n cn := (hu 0).symm.trans s0
  replace s3 : u 3 = .slice (some ⟨rb, 0, none⟩) K c := (hu 3).symm.trans s3
  replace s4 : u 4 = .int .i64 (n : Nat) := (hu 4).symm.trans s4
  replace s5 : u 5 = .slice (some ⟨lb, 0, none⟩) n n := (hu 5).symm.trans s5
  replace s6 : u 6 = .int .i64 (K : Nat) := (hu 6).symm.trans s6
  rw [s0, s3, s4, s5, s6]
  clear hfr hu s0 s3 s4 s5 s6
  conv => arg 2; whnf
  have H : Hid _ := hQ
  clear hQ
  go_wp2
  exact H.out _ ⟨rfl, rfl⟩ ⟨rfl, rfl, rfl, rfl, rfl, trivial⟩

end Go.Proofs.Qxb6601010a
