import Derived.Test.Qxb6602526aE4
import Derived.Test.Qxb6602526aCopy2
namespace Go.Proofs.Qxb6602526a
open Go.RowKit
set_option linter.unusedSimpArgs false
set_option linter.unusedVariables false

set_option maxRecDepth 10000 in
set_option maxHeartbeats 1000000 in
theorem l7_9 (kap st : Int) (m K I : Nat) (xp xc xr xi : Option Addr) (a : Act) (w : World) (Q : Exit → Act → World → Prop) (hfr : Fr 282 a) (hs : Slots [(0, .int .i64 kap), (1, .int .u32 st), (2, .int .i64 (m : Nat)), (3, .slice xp K K), (4, .slice xc K K), (5, .slice xr I I), (6, .slice xi I I)] a)
    (lI : I ≤ 1048576) (hQ : ∀ a', Fr 282 a' → Slots [(0, .int .i64 kap), (1, .int .u32 st), (2, .int .i64 (m : Nat)), (3, .slice xp K K), (4, .slice xc K K), (5, .slice xr I I), (6, .slice xi I I), (15, .slice (some ⟨w.heap.size, 0, none⟩) I I)] a' → Q .normal a' (w.alloc (.cells (madeCells #[.int .u8 0] I) 5))) :
    Code.wp Try.prog (nthC 9 (bodyC Try.f7)) Q a w := by
  obtain ⟨u, hu, rfl⟩ := lay282 hfr
  obtain ⟨s0, s1, s2, s3, s4, s5, s6, -⟩ := hs
  replace s0 : u 0 = .int .i64 kap := (hu 0).symm.trans s0
  replace s1 : u 1 = .int .u32 st := (hu 1).symm.trans s1
  replace s2 : u 2 = .int .i64 (m : Nat) := (hu 2).symm.trans s2
  replace s3 : u 3 = .slice xp K K := (hu 3).symm.trans s3
  replace s4 : u 4 = .slice xc K K := (hu 4).symm.trans s4
  replace s5 : u 5 = .slice xr I I := (hu 5).symm.trans s5
  replace s6 : u 6 = .slice xi I I := (hu 6).symm.trans s6
  rw [s0, s1, s2, s3, s4, s5, s6]
  clear hfr hu s0 s1 s2 s3 s4 s5 s6
  conv => arg 2; whnf
  have hmk := fun wx => run_mk (P := Try.prog) 56 5 (.int .u8 0) 1 1 Try.underlying56 Try.info5 I (by omega) (by omega) wx
  have hl2 : (I : Int) ≤ 9223372036854775807 := by omega
  have H : Hid _ := hQ
  clear hQ
  go_wp2
  exact H.out _ ⟨rfl, rfl⟩ ⟨rfl, rfl, rfl, rfl, rfl, rfl, rfl, rfl, trivial⟩

set_option maxRecDepth 10000 in
set_option maxHeartbeats 1000000 in
theorem l7_10 (kap st : Int) (m K I : Nat) (xp xc xr xi : Option Addr) (q1 : Nat) (a : Act) (w : World) (Q : Exit → Act → World → Prop) (hfr : Fr 282 a) (hs : Slots [(0, .int .i64 kap), (1, .int .u32 st), (2, .int .i64 (m : Nat)), (3, .slice xp K K), (4, .slice xc K K), (5, .slice xr I I), (6, .slice xi I I), (15, .slice (some ⟨q1, 0, none⟩) I I)] a)
    (lI : I ≤ 1048576) (hQ : ∀ a', Fr 282 a' → Slots [(0, .int .i64 kap), (1, .int .u32 st), (2, .int .i64 (m : Nat)), (3, .slice xp K K), (4, .slice xc K K), (5, .slice xr I I), (6, .slice xi I I), (15, .slice (some ⟨q1, 0, none⟩) I I), (16, .slice (some ⟨w.heap.size, 0, none⟩) I I)] a' → Q .normal a' (w.alloc (.cells (madeCells #[.int .u32 0] I) 22))) :
    Code.wp Try.prog (nthC 10 (bodyC Try.f7)) Q a w := by
  obtain ⟨u, hu, rfl⟩ := lay282 hfr
  obtain ⟨s0, s1, s2, s3, s4, s5, s6, s15, -⟩ := hs
  replace s0 : u 0 = .int .i64 kap := (hu 0).symm.trans s0
  replace s1 : u 1 = .int .u32 st := (hu 1).symm.trans s1
  replace s2 : u 2 = .int .i64 (m : Nat) := (hu 2).symm.trans s2
  replace s3 : u 3 = .slice xp K K := (hu 3).symm.trans s3
  replace s4 : u 4 = .slice xc K K := (hu 4).symm.trans s4
  replace s5 : u 5 = .slice xr I I := (hu 5).symm.trans s5
  replace s6 : u 6 = .slice xi I I := (hu 6).symm.trans s6
  replace s15 : u 15 = .slice (some ⟨q1, 0, none⟩) I I := (hu 15).symm.trans s15
  rw [s0, s1, s2, s3, s4, s5, s6, s15]
  clear hfr hu s0 s1 s2 s3 s4 s5 s6 s15
  conv => arg 2; whnf
  have hmk := fun wx => run_mk (P := Try.prog) 25 22 (.int .u32 0) 1 4 Try.underlying25 Try.info22 I (by omega) (by omega) wx
  have hl2 : (I : Int) ≤ 9223372036854775807 := by omega
  have H : Hid _ := hQ
  clear hQ
  go_wp2
  exact H.out _ ⟨rfl, rfl⟩ ⟨rfl, rfl, rfl, rfl, rfl, rfl, rfl, rfl, rfl, trivial⟩

set_option maxRecDepth 10000 in
set_option maxHeartbeats 1000000 in
theorem l7_11i (kap st : Int) (m K I : Nat) (xp xc xr xi : Option Addr) (q1 q2 : Nat) (a : Act) (w : World) (Q : Exit → Act → World → Prop) (hfr : Fr 282 a) (hs : Slots [(0, .int .i64 kap), (1, .int .u32 st), (2, .int .i64 (m : Nat)), (3, .slice xp K K), (4, .slice xc K K), (5, .slice xr I I), (6, .slice xi I I), (15, .slice (some ⟨q1, 0, none⟩) I I), (16, .slice (some ⟨q2, 0, none⟩) I I)] a)
    (hQ : ∀ a', Fr 282 a' → Slots [(0, .int .i64 kap), (1, .int .u32 st), (2, .int .i64 (m : Nat)), (3, .slice xp K K), (4, .slice xc K K), (5, .slice xr I I), (6, .slice xi I I), (15, .slice (some ⟨q1, 0, none⟩) I I), (16, .slice (some ⟨q2, 0, none⟩) I I), (17, .int .i64 (0 : Nat))] a' → Q .normal a' w) :
    Code.wp Try.prog (hdC (nthC 11 (bodyC Try.f7))) Q a w := by
  obtain ⟨u, hu, rfl⟩ := lay282 hfr
  obtain ⟨s0, s1, s2, s3, s4, s5, s6, s15, s16, -⟩ := hs
  replace s0 : u 0 = .int .i64 kap := (hu 0).symm.trans s0
  replace s1 : u 1 = .int .u32 st := (hu 1).symm.trans s1
  replace s2 : u 2 = .int .i64 (m : Nat) := (hu 2).symm.trans s2
  replace s3 : u 3 = .slice xp K K := (hu 3).symm.trans s3
  replace s4 : u 4 = .slice xc K K := (hu 4).symm.trans s4
  replace s5 : u 5 = .slice xr I I := (hu 5).symm.trans s5
  replace s6 : u 6 = .slice xi I I := (hu 6).symm.trans s6
  replace s15 : u 15 = .slice (some ⟨q1, 0, none⟩) I I := (hu 15).symm.trans s15
  replace s16 : u 16 = .slice (some ⟨q2, 0, none⟩) I I := (hu 16).symm.trans s16
  rw [s0, s1, s2, s3, s4, s5, s6, s15, s16]
  clear hfr hu s0 s1 s2 s3 s4 s5 s6 s15 s16
  conv => arg 2; whnf
  have H : Hid _ := hQ
  clear hQ
  go_wp2
  exact H.out _ ⟨rfl, rfl⟩ ⟨rfl, rfl, rfl, rfl, rfl, rfl, rfl, rfl, rfl, rfl, trivial⟩

set_option maxRecDepth 10000 in
set_option maxHeartbeats 1000000 in
theorem l7_11h (kap st : Int) (m K I : Nat) (xp xc xr xi : Option Addr) (q1 q2 : Nat) (k : Nat) (a : Act) (w : World) (Q : Exit → Act → World → Prop) (hfr : Fr 282 a) (hs : Slots [(0, .int .i64 kap), (1, .int .u32 st), (2, .int .i64 (m : Nat)), (3, .slice xp K K), (4, .slice xc K K), (5, .slice xr I I), (6, .slice xi I I), (15, .slice (some ⟨q1, 0, none⟩) I I), (16, .slice (some ⟨q2, 0, none⟩) I I), (17, .int .i64 (k : Nat))] a)
    (hk : k ≤ K) (lK : (K : Int) ≤ 65536) (hQ : ∀ a', k < K → Fr 282 a' → Slots [(0, .int .i64 kap), (1, .int .u32 st), (2, .int .i64 (m : Nat)), (3, .slice xp K K), (4, .slice xc K K), (5, .slice xr I I), (6, .slice xi I I), (15, .slice (some ⟨q1, 0, none⟩) I I), (16, .slice (some ⟨q2, 0, none⟩) I I), (17, .int .i64 (k : Nat))] a' → Q .normal a' w) (hexit : ∀ a', k = K → Fr 282 a' → Slots [(0, .int .i64 kap), (1, .int .u32 st), (2, .int .i64 (m : Nat)), (3, .slice xp K K), (4, .slice xc K K), (5, .slice xr I I), (6, .slice xi I I), (15, .slice (some ⟨q1, 0, none⟩) I I), (16, .slice (some ⟨q2, 0, none⟩) I I)] a' → Q (.exit 0) a' w) :
    Code.wp Try.prog (hdC (inC (inC (tlC (nthC 11 (bodyC Try.f7)))))) Q a w := by
  obtain ⟨u, hu, rfl⟩ := lay282 hfr
  obtain ⟨s0, s1, s2, s3, s4, s5, s6, s15, s16, s17, -⟩ := hs
  replace s0 : u 0 = .int .i64 kap := (hu 0).symm.trans s0
  replace s1 : u 1 = .int .u32 st := (hu 1).symm.trans s1
  replace s2 : u 2 = .int .i64 (m : Nat) := (hu 2).symm.trans s2
  replace s3 : u 3 = .slice xp K K := (hu 3).symm.trans s3
  replace s4 : u 4 = .slice xc K K := (hu 4).symm.trans s4
  replace s5 : u 5 = .slice xr I I := (hu 5).symm.trans s5
  replace s6 : u 6 = .slice xi I I := (hu 6).symm.trans s6
  replace s15 : u 15 = .slice (some ⟨q1, 0, none⟩) I I := (hu 15).symm.trans s15
  replace s16 : u 16 = .slice (some ⟨q2, 0, none⟩) I I := (hu 16).symm.trans s16
  replace s17 : u 17 = .int .i64 (k : Nat) := (hu 17).symm.trans s17
  rw [s0, s1, s2, s3, s4, s5, s6, s15, s16, s17]
  clear hfr hu s0 s1 s2 s3 s4 s5 s6 s15 s16 s17
  conv => arg 2; whnf
  have H : Hid _ := hQ
  have HX : Hid _ := hexit
  clear hQ hexit
  by_cases hlt : k < K
  · have l : (k : Int) < K := by omega
    go_wp2
    exact H.out _ hlt ⟨rfl, rfl⟩ ⟨rfl, rfl, rfl, rfl, rfl, rfl, rfl, rfl, rfl, rfl, trivial⟩
  · have l : ¬ ((k : Int) < K) := by omega
    go_wp2
    exact HX.out _ (by omega) ⟨rfl, rfl⟩ ⟨rfl, rfl, rfl, rfl, rfl, rfl, rfl, rfl, rfl, trivial⟩

set_option maxRecDepth 10000 in
set_option maxHeartbeats 1000000 in
theorem l7_11n (kap st : Int) (m K I : Nat) (xp xc xr xi : Option Addr) (q1 q2 : Nat) (k : Nat) (a : Act) (w : World) (Q : Exit → Act → World → Prop) (hfr : Fr 282 a) (hs : Slots [(0, .int .i64 kap), (1, .int .u32 st), (2, .int .i64 (m : Nat)), (3, .slice xp K K), (4, .slice xc K K), (5, .slice xr I I), (6, .slice xi I I), (15, .slice (some ⟨q1, 0, none⟩) I I), (16, .slice (some ⟨q2, 0, none⟩) I I), (17, .int .i64 (k : Nat))] a)
    (hk : (k : Int) ≤ 65536) (hQ : ∀ a', Fr 282 a' → Slots [(0, .int .i64 kap), (1, .int .u32 st), (2, .int .i64 (m : Nat)), (3, .slice xp K K), (4, .slice xc K K), (5, .slice xr I I), (6, .slice xi I I), (15, .slice (some ⟨q1, 0, none⟩) I I), (16, .slice (some ⟨q2, 0, none⟩) I I), (17, .int .i64 (k + 1 : Nat))] a' → Q .normal a' w) :
    Code.wp Try.prog (tlC (tlC (inC (inC (tlC (nthC 11 (bodyC Try.f7))))))) Q a w := by
  obtain ⟨u, hu, rfl⟩ := lay282 hfr
  obtain ⟨s0, s1, s2, s3, s4, s5, s6, s15, s16, s17, -⟩ := hs
  replace s0 : u 0 = .int .i64 kap := (hu 0).symm.trans s0
  replace s1 : u 1 = .int .u32 st := (hu 1).symm.trans s1
  replace s2 : u 2 = .int .i64 (m : Nat) := (hu 2).symm.trans s2
  replace s3 : u 3 = .slice xp K K := (hu 3).symm.trans s3
  replace s4 : u 4 = .slice xc K K := (hu 4).symm.trans s4
  replace s5 : u 5 = .slice xr I I := (hu 5).symm.trans s5
  replace s6 : u 6 = .slice xi I I := (hu 6).symm.trans s6
  replace s15 : u 15 = .slice (some ⟨q1, 0, none⟩) I I := (hu 15).symm.trans s15
  replace s16 : u 16 = .slice (some ⟨q2, 0, none⟩) I I := (hu 16).symm.trans s16
  replace s17 : u 17 = .int .i64 (k : Nat) := (hu 17).symm.trans s17
  rw [s0, s1, s2, s3, s4, s5, s6, s15, s16, s17]
  clear hfr hu s0 s1 s2 s3 s4 s5 s6 s15 s16 s17
  conv => arg 2; whnf
  have H : Hid _ := hQ
  clear hQ
  go_wp2
  exact H.out _ ⟨rfl, rfl⟩ ⟨rfl, rfl, rfl, rfl, rfl, rfl, rfl, rfl, rfl, rfl, trivial⟩

set_option maxRecDepth 10000 in
set_option maxHeartbeats 1000000 in
theorem l7_18 (kap st : Int) (m K I : Nat) (xp xc xr xi : Option Addr) (q1 q2 : Nat) (k : Nat) (a : Act) (w : World) (Q : Exit → Act → World → Prop) (hfr : Fr 282 a) (hs : Slots [(0, .int .i64 kap), (1, .int .u32 st), (2, .int .i64 (m : Nat)), (3, .slice xp K K), (4, .slice xc K K), (5, .slice xr I I), (6, .slice xi I I), (15, .slice (some ⟨q1, 0, none⟩) I I), (16, .slice (some ⟨q2, 0, none⟩) I I), (17, .int .i64 (k : Nat))] a)
    (hQ : ∀ a', Fr 282 a' → Slots [(0, .int .i64 kap), (1, .int .u32 st), (2, .int .i64 (m : Nat)), (3, .slice xp K K), (4, .slice xc K K), (5, .slice xr I I), (6, .slice xi I I), (15, .slice (some ⟨q1, 0, none⟩) I I), (16, .slice (some ⟨q2, 0, none⟩) I I), (17, .int .i64 (k : Nat)), (18, .int .i64 (0 : Nat))] a' → Q .normal a' w) :
    Code.wp Try.prog (hdC (inC (hdC (tlC (inC (inC (tlC (nthC 11 (bodyC Try.f7))))))))) Q a w := by
  obtain ⟨u, hu, rfl⟩ := lay282 hfr
  obtain ⟨s0, s1, s2, s3, s4, s5, s6, s15, s16, s17, -⟩ := hs
  replace s0 : u 0 = .int .i64 kap := (hu 0).symm.trans s0
  replace s1 : u 1 = .int .u32 st := (hu 1).symm.trans s1
  replace s2 : u 2 = .int .i64 (m : Nat) := (hu 2).symm.trans s2
  replace s3 : u 3 = .slice xp K K := (hu 3).symm.trans s3
  replace s4 : u 4 = .slice xc K K := (hu 4).symm.trans s4
  replace s5 : u 5 = .slice xr I I := (hu 5).symm.trans s5
  replace s6 : u 6 = .slice xi I I := (hu 6).symm.trans s6
  replace s15 : u 15 = .slice (some ⟨q1, 0, none⟩) I I := (hu 15).symm.trans s15
  replace s16 : u 16 = .slice (some ⟨q2, 0, none⟩) I I := (hu 16).symm.trans s16
  replace s17 : u 17 = .int .i64 (k : Nat) := (hu 17).symm.trans s17
  rw [s0, s1, s2, s3, s4, s5, s6, s15, s16, s17]
  clear hfr hu s0 s1 s2 s3 s4 s5 s6 s15 s16 s17
  conv => arg 2; whnf
  have H : Hid _ := hQ
  clear hQ
  go_wp2
  exact H.out _ ⟨rfl, rfl⟩ ⟨rfl, rfl, rfl, rfl, rfl, rfl, rfl, rfl, rfl, rfl, rfl, trivial⟩

set_option maxRecDepth 10000 in
set_option maxHeartbeats 1000000 in
theorem l7_18h (kap st : Int) (m K I : Nat) (xp xc xr xi : Option Addr) (q1 q2 : Nat) (k i : Nat) (a : Act) (w : World) (Q : Exit → Act → World → Prop) (hfr : Fr 282 a) (hs : Slots [(0, .int .i64 kap), (1, .int .u32 st), (2, .int .i64 (m : Nat)), (3, .slice xp K K), (4, .slice xc K K), (5, .slice xr I I), (6, .slice xi I I), (15, .slice (some ⟨q1, 0, none⟩) I I), (16, .slice (some ⟨q2, 0, none⟩) I I), (17, .int .i64 (k : Nat)), (18, .int .i64 (i : Nat))] a)
    (hk : i ≤ m) (lK : (m : Int) ≤ 65536) (hQ : ∀ a', i < m → Fr 282 a' → Slots [(0, .int .i64 kap), (1, .int .u32 st), (2, .int .i64 (m : Nat)), (3, .slice xp K K), (4, .slice xc K K), (5, .slice xr I I), (6, .slice xi I I), (15, .slice (some ⟨q1, 0, none⟩) I I), (16, .slice (some ⟨q2, 0, none⟩) I I), (17, .int .i64 (k : Nat)), (18, .int .i64 (i : Nat))] a' → Q .normal a' w) (hexit : ∀ a', i = m → Fr 282 a' → Slots [(0, .int .i64 kap), (1, .int .u32 st), (2, .int .i64 (m : Nat)), (3, .slice xp K K), (4, .slice xc K K), (5, .slice xr I I), (6, .slice xi I I), (15, .slice (some ⟨q1, 0, none⟩) I I), (16, .slice (some ⟨q2, 0, none⟩) I I), (17, .int .i64 (k : Nat))] a' → Q (.exit 2) a' w) :
    Code.wp Try.prog (hdC (inC (inC (tlC (inC (hdC (tlC (inC (inC (tlC (nthC 11 (bodyC Try.f7)))))))))))) Q a w := by
  obtain ⟨u, hu, rfl⟩ := lay282 hfr
  obtain ⟨s0, s1, s2, s3, s4, s5, s6, s15, s16, s17, s18, -⟩ := hs
  replace s0 : u 0 = .int .i64 kap := (hu 0).symm.trans s0
  replace s1 : u 1 = .int .u32 st := (hu 1).symm.trans s1
  replace s2 : u 2 = .int .i64 (m : Nat) := (hu 2).symm.trans s2
  replace s3 : u 3 = .slice xp K K := (hu 3).symm.trans s3
  replace s4 : u 4 = .slice xc K K := (hu 4).symm.trans s4
  replace s5 : u 5 = .slice xr I I := (hu 5).symm.trans s5
  replace s6 : u 6 = .slice xi I I := (hu 6).symm.trans s6
  replace s15 : u 15 = .slice (some ⟨q1, 0, none⟩) I I := (hu 15).symm.trans s15
  replace s16 : u 16 = .slice (some ⟨q2, 0, none⟩) I I := (hu 16).symm.trans s16
  replace s17 : u 17 = .int .i64 (k : Nat) := (hu 17).symm.trans s17
  replace s18 : u 18 = .int .i64 (i : Nat) := (hu 18).symm.trans s18
  rw [s0, s1, s2, s3, s4, s5, s6, s15, s16, s17, s18]
  clear hfr hu s0 s1 s2 s3 s4 s5 s6 s15 s16 s17 s18
  conv => arg 2; whnf
  have H : Hid _ := hQ
  have HX : Hid _ := hexit
  clear hQ hexit
  by_cases hlt : i < m
  · have l : (i : Int) < m := by omega
    go_wp2
    exact H.out _ hlt ⟨rfl, rfl⟩ ⟨rfl, rfl, rfl, rfl, rfl, rfl, rfl, rfl, rfl, rfl, rfl, trivial⟩
  · have l : ¬ ((i : Int) < m) := by omega
    go_wp2
    exact HX.out _ (by omega) ⟨rfl, rfl⟩ ⟨rfl, rfl, rfl, rfl, rfl, rfl, rfl, rfl, rfl, rfl, trivial⟩

set_option maxRecDepth 10000 in
set_option maxHeartbeats 1000000 in
theorem l7_18n (kap st : Int) (m K I : Nat) (xp xc xr xi : Option Addr) (q1 q2 : Nat) (k i : Nat) (a : Act) (w : World) (Q : Exit → Act → World → Prop) (hfr : Fr 282 a) (hs : Slots [(0, .int .i64 kap), (1, .int .u32 st), (2, .int .i64 (m : Nat)), (3, .slice xp K K), (4, .slice xc K K), (5, .slice xr I I), (6, .slice xi I I), (15, .slice (some ⟨q1, 0, none⟩) I I), (16, .slice (some ⟨q2, 0, none⟩) I I), (17, .int .i64 (k : Nat)), (18, .int .i64 (i : Nat))] a)
    (hk : (i : Int) ≤ 65536) (hQ : ∀ a', Fr 282 a' → Slots [(0, .int .i64 kap), (1, .int .u32 st), (2, .int .i64 (m : Nat)), (3, .slice xp K K), (4, .slice xc K K), (5, .slice xr I I), (6, .slice xi I I), (15, .slice (some ⟨q1, 0, none⟩) I I), (16, .slice (some ⟨q2, 0, none⟩) I I), (17, .int .i64 (k : Nat)), (18, .int .i64 (i + 1 : Nat))] a' → Q .normal a' w) :
    Code.wp Try.prog (tlC (tlC (inC (inC (tlC (inC (hdC (tlC (inC (inC (tlC (nthC 11 (bodyC Try.f7))))))))))))) Q a w := by
  obtain ⟨u, hu, rfl⟩ := lay282 hfr
  obtain ⟨s0, s1, s2, s3, s4, s5, s6, s15, s16, s17, s18, -⟩ := hs
  replace s0 : u 0 = .int .i64 kap := (hu 0).symm.trans s0
  replace s1 : u 1 = .int .u32 st := (hu 1).symm.trans s1
  replace s2 : u 2 = .int .i64 (m : Nat) := (hu 2).symm.trans s2
  replace s3 : u 3 = .slice xp K K := (hu 3).symm.trans s3
  replace s4 : u 4 = .slice xc K K := (hu 4).symm.trans s4
  replace s5 : u 5 = .slice xr I I := (hu 5).symm.trans s5
  replace s6 : u 6 = .slice xi I I := (hu 6).symm.trans s6
  replace s15 : u 15 = .slice (some ⟨q1, 0, none⟩) I I := (hu 15).symm.trans s15
  replace s16 : u 16 = .slice (some ⟨q2, 0, none⟩) I I := (hu 16).symm.trans s16
  replace s17 : u 17 = .int .i64 (k : Nat) := (hu 17).symm.trans s17
  replace s18 : u 18 = .int .i64 (i : Nat) := (hu 18).symm.trans s18
  rw [s0, s1, s2, s3, s4, s5, s6, s15, s16, s17, s18]
  clear hfr hu s0 s1 s2 s3 s4 s5 s6 s15 s16 s17 s18
  conv => arg 2; whnf
  have H : Hid _ := hQ
  clear hQ
  go_wp2
  exact H.out _ ⟨rfl, rfl⟩ ⟨rfl, rfl, rfl, rfl, rfl, rfl, rfl, rfl, rfl, rfl, rfl, trivial⟩

set_option maxRecDepth 10000 in
set_option maxHeartbeats 1000000 in
theorem l7_21 (kap st : Int) (m K I : Nat) (xp xc xi : Option Addr) (q1 q2 : Nat) (k i : Nat) (sb km pos src : Nat) (v : Int) (cs : Array Value) (z : Value) (a : Act) (w : World) (Q : Exit → Act → World → Prop) (hfr : Fr 282 a) (hs : Slots [(0, .int .i64 kap), (1, .int .u32 st), (2, .int .i64 (m : Nat)), (3, .slice xp K K), (4, .slice xc K K), (5, .slice (some ⟨sb, 0, none⟩) I I), (6, .slice xi I I), (15, .slice (some ⟨q1, 0, none⟩) I I), (16, .slice (some ⟨q2, 0, none⟩) I I), (17, .int .i64 (k : Nat)), (18, .int .i64 (i : Nat))] a)
    (e1 : IntKind.i64.wrap ((k : Int) * (m : Int)) = (km : Int)) (e2 : IntKind.i64.wrap ((km : Int) + (i : Int)) = (pos : Int)) (e3 : IntKind.i64.wrap ((km : Int) + (m : Int)) = (km : Int) + m) (e4 : IntKind.i64.wrap ((km : Int) + m - 1) = (km : Int) + m - 1) (e5 : IntKind.i64.wrap ((km : Int) + m - 1 - i) = (src : Int)) (lp : (pos : Int) < I) (ls : (src : Int) < I)
    (hv : w.cell? ⟨sb, src, none⟩ = some (.int .u8 v)) (hB : IsB w q1 cs 5) (hz : cs[pos]? = some z) (hQ : ∀ a', Fr 282 a' → Slots [(0, .int .i64 kap), (1, .int .u32 st), (2, .int .i64 (m : Nat)), (3, .slice xp K K), (4, .slice xc K K), (5, .slice (some ⟨sb, 0, none⟩) I I), (6, .slice xi I I), (15, .slice (some ⟨q1, 0, none⟩) I I), (16, .slice (some ⟨q2, 0, none⟩) I I), (17, .int .i64 (k : Nat)), (18, .int .i64 (i : Nat))] a' → Q .normal a' (w.setCell ⟨q1, pos, none⟩ (.int .u8 v))) :
    Code.wp Try.prog (hdC (inC (hdC (tlC (inC (inC (tlC (inC (hdC (tlC (inC (inC (tlC (nthC 11 (bodyC Try.f7))))))))))))))) Q a w := by
  obtain ⟨u, hu, rfl⟩ := lay282 hfr
  obtain ⟨s0, s1, s2, s3, s4, s5, s6, s15, s16, s17, s18, -⟩ := hs
  replace s0 : u 0 = .int .i64 kap := (hu 0).symm.trans s0
  replace s1 : u 1 = .int .u32 st := (hu 1).symm.trans s1
  replace s2 : u 2 = .int .i64 (m : Nat) := (hu 2).symm.trans s2
  replace s3 : u 3 = .slice xp K K := (hu 3).symm.trans s3
  replace s4 : u 4 = .slice xc K K := (hu 4).symm.trans s4
  replace s5 : u 5 = .slice (some ⟨sb, 0, none⟩) I I := (hu 5).symm.trans s5
  replace s6 : u 6 = .slice xi I I := (hu 6).symm.trans s6
  replace s15 : u 15 = .slice (some ⟨q1, 0, none⟩) I I := (hu 15).symm.trans s15
  replace s16 : u 16 = .slice (some ⟨q2, 0, none⟩) I I := (hu 16).symm.trans s16
  replace s17 : u 17 = .int .i64 (k : Nat) := (hu 17).symm.trans s17
  replace s18 : u 18 = .int .i64 (i : Nat) := (hu 18).symm.trans s18
  rw [s0, s1, s2, s3, s4, s5, s6, s15, s16, s17, s18]
  clear hfr hu s0 s1 s2 s3 s4 s5 s6 s15 s16 s17 s18
  conv => arg 2; whnf
  have cz : w.cell? ⟨q1, pos, none⟩ = some z := (hB.cell pos).trans hz
  have fz := hB.frozen pos
  clear hB hz
  have H : Hid _ := hQ
  clear hQ
  go_wp2
  exact H.out _ ⟨rfl, rfl⟩ ⟨rfl, rfl, rfl, rfl, rfl, rfl, rfl, rfl, rfl, rfl, rfl, trivial⟩

set_option maxRecDepth 10000 in
set_option maxHeartbeats 1000000 in
theorem l7_22 (kap st : Int) (m K I : Nat) (xp xc xr : Option Addr) (q1 q2 : Nat) (k i : Nat) (sb km pos src : Nat) (v : Int) (cs : Array Value) (z : Value) (a : Act) (w : World) (Q : Exit → Act → World → Prop) (hfr : Fr 282 a) (hs : Slots [(0, .int .i64 kap), (1, .int .u32 st), (2, .int .i64 (m : Nat)), (3, .slice xp K K), (4, .slice xc K K), (5, .slice xr I I), (6, .slice (some ⟨sb, 0, none⟩) I I), (15, .slice (some ⟨q1, 0, none⟩) I I), (16, .slice (some ⟨q2, 0, none⟩) I I), (17, .int .i64 (k : Nat)), (18, .int .i64 (i : Nat))] a)
    (e1 : IntKind.i64.wrap ((k : Int) * (m : Int)) = (km : Int)) (e2 : IntKind.i64.wrap ((km : Int) + (i : Int)) = (pos : Int)) (e3 : IntKind.i64.wrap ((km : Int) + (m : Int)) = (km : Int) + m) (e4 : IntKind.i64.wrap ((km : Int) + m - 1) = (km : Int) + m - 1) (e5 : IntKind.i64.wrap ((km : Int) + m - 1 - i) = (src : Int)) (lp : (pos : Int) < I) (ls : (src : Int) < I)
    (hv : w.cell? ⟨sb, src, none⟩ = some (.int .u32 v)) (hB : IsB w q2 cs 22) (hz : cs[pos]? = some z) (hQ : ∀ a', Fr 282 a' → Slots [(0, .int .i64 kap), (1, .int .u32 st), (2, .int .i64 (m : Nat)), (3, .slice xp K K), (4, .slice xc K K), (5, .slice xr I I), (6, .slice (some ⟨sb, 0, none⟩) I I), (15, .slice (some ⟨q1, 0, none⟩) I I), (16, .slice (some ⟨q2, 0, none⟩) I I), (17, .int .i64 (k : Nat)), (18, .int .i64 (i : Nat))] a' → Q .normal a' (w.setCell ⟨q2, pos, none⟩ (.int .u32 v))) :
    Code.wp Try.prog (tlC (inC (hdC (tlC (inC (inC (tlC (inC (hdC (tlC (inC (inC (tlC (nthC 11 (bodyC Try.f7))))))))))))))) Q a w := by
  obtain ⟨u, hu, rfl⟩ := lay282 hfr
  obtain ⟨s0, s1, s2, s3, s4, s5, s6, s15, s16, s17, s18, -⟩ := hs
  replace s0 : u 0 = .int .i64 kap := (hu 0).symm.trans s0
  replace s1 : u 1 = .int .u32 st := (hu 1).symm.trans s1
  replace s2 : u 2 = .int .i64 (m : Nat) := (hu 2).symm.trans s2
  replace s3 : u 3 = .slice xp K K := (hu 3).symm.trans s3
  replace s4 : u 4 = .slice xc K K := (hu 4).symm.trans s4
  replace s5 : u 5 = .slice xr I I := (hu 5).symm.trans s5
  replace s6 : u 6 = .slice (some ⟨sb, 0, none⟩) I I := (hu 6).symm.trans s6
  replace s15 : u 15 = .slice (some ⟨q1, 0, none⟩) I I := (hu 15).symm.trans s15
  replace s16 : u 16 = .slice (some ⟨q2, 0, none⟩) I I := (hu 16).symm.trans s16
  replace s17 : u 17 = .int .i64 (k : Nat) := (hu 17).symm.trans s17
  replace s18 : u 18 = .int .i64 (i : Nat) := (hu 18).symm.trans s18
  rw [s0, s1, s2, s3, s4, s5, s6, s15, s16, s17, s18]
  clear hfr hu s0 s1 s2 s3 s4 s5 s6 s15 s16 s17 s18
  conv => arg 2; whnf
  have cz : w.cell? ⟨q2, pos, none⟩ = some z := (hB.cell pos).trans hz
  have fz := hB.frozen pos
  clear hB hz
  have H : Hid _ := hQ
  clear hQ
  go_wp2
  exact H.out _ ⟨rfl, rfl⟩ ⟨rfl, rfl, rfl, rfl, rfl, rfl, rfl, rfl, rfl, rfl, rfl, trivial⟩

set_option maxRecDepth 10000 in
set_option maxHeartbeats 1000000 in
theorem l7_12 (kap st : Int) (m K I : Nat) (xp xc xr xi : Option Addr) (q1 q2 : Nat) (a : Act) (w : World) (Q : Exit → Act → World → Prop) (hfr : Fr 282 a) (hs : Slots [(0, .int .i64 kap), (1, .int .u32 st), (2, .int .i64 (m : Nat)), (3, .slice xp K K), (4, .slice xc K K), (5, .slice xr I I), (6, .slice xi I I), (15, .slice (some ⟨q1, 0, none⟩) I I), (16, .slice (some ⟨q2, 0, none⟩) I I)] a)
    (hQ : ∀ a', Fr 282 a' → Slots [(0, .int .i64 kap), (1, .int .u32 st), (2, .int .i64 (m : Nat)), (3, .slice xp K K), (4, .slice xc K K), (5, .slice xr I I), (6, .slice xi I I), (15, .slice (some ⟨q1, 0, none⟩) I I), (16, .slice (some ⟨q2, 0, none⟩) I I), (19, .pointer (some ⟨w.heap.size, 0, none⟩))] a' → Q .normal a' (w.alloc (.cells (IW.new kap st).arr 93))) :
    Code.wp Try.prog (nthC 12 (bodyC Try.f7)) Q a w := by
  obtain ⟨u, hu, rfl⟩ := lay282 hfr
  obtain ⟨s0, s1, s2, s3, s4, s5, s6, s15, s16, -⟩ := hs
  replace s0 : u 0 = .int .i64 kap := (hu 0).symm.trans s0
  replace s1 : u 1 = .int .u32 st := (hu 1).symm.trans s1
  replace s2 : u 2 = .int .i64 (m : Nat) := (hu 2).symm.trans s2
  replace s3 : u 3 = .slice xp K K := (hu 3).symm.trans s3
  replace s4 : u 4 = .slice xc K K := (hu 4).symm.trans s4
  replace s5 : u 5 = .slice xr I I := (hu 5).symm.trans s5
  replace s6 : u 6 = .slice xi I I := (hu 6).symm.trans s6
  replace s15 : u 15 = .slice (some ⟨q1, 0, none⟩) I I := (hu 15).symm.trans s15
  replace s16 : u 16 = .slice (some ⟨q2, 0, none⟩) I I := (hu 16).symm.trans s16
  rw [s0, s1, s2, s3, s4, s5, s6, s15, s16]
  clear hfr hu s0 s1 s2 s3 s4 s5 s6 s15 s16
  conv => arg 2; whnf
  have H : Hid _ := hQ
  clear hQ
  go_wp2_with (go_at_call 26; refine (new26 _ _ _).mono ?_; rintro e w' ⟨rfl, rfl⟩)
  exact H.out _ ⟨rfl, rfl⟩ ⟨rfl, rfl, rfl, rfl, rfl, rfl, rfl, rfl, rfl, rfl, trivial⟩

set_option maxRecDepth 10000 in
set_option maxHeartbeats 1000000 in
theorem l7_13 (kap st : Int) (m K I : Nat) (xp xc xr xi : Option Addr) (q1 q2 : Nat) (b1 : Nat) (a : Act) (w : World) (Q : Exit → Act → World → Prop) (hfr : Fr 282 a) (hs : Slots [(0, .int .i64 kap), (1, .int .u32 st), (2, .int .i64 (m : Nat)), (3, .slice xp K K), (4, .slice xc K K), (5, .slice xr I I), (6, .slice xi I I), (15, .slice (some ⟨q1, 0, none⟩) I I), (16, .slice (some ⟨q2, 0, none⟩) I I), (19, .pointer (some ⟨b1, 0, none⟩))] a)
    (hQ : ∀ a', Fr 282 a' → Slots [(0, .int .i64 kap), (1, .int .u32 st), (2, .int .i64 (m : Nat)), (3, .slice xp K K), (4, .slice xc K K), (5, .slice xr I I), (6, .slice xi I I), (15, .slice (some ⟨q1, 0, none⟩) I I), (16, .slice (some ⟨q2, 0, none⟩) I I), (19, .pointer (some ⟨b1, 0, none⟩)), (20, .pointer (some ⟨w.heap.size, 0, none⟩))] a' → Q .normal a' (w.alloc (.cells (IW.new kap st).arr 93))) :
    Code.wp Try.prog (nthC 13 (bodyC Try.f7)) Q a w := by
  obtain ⟨u, hu, rfl⟩ := lay282 hfr
  obtain ⟨s0, s1, s2, s3, s4, s5, s6, s15, s16, s19, -⟩ := hs
  replace s0 : u 0 = .int .i64 kap := (hu 0).symm.trans s0
  replace s1 : u 1 = .int .u32 st := (hu 1).symm.trans s1
  replace s2 : u 2 = .int .i64 (m : Nat) := (hu 2).symm.trans s2
  replace s3 : u 3 = .slice xp K K := (hu 3).symm.trans s3
  replace s4 : u 4 = .slice xc K K := (hu 4).symm.trans s4
  replace s5 : u 5 = .slice xr I I := (hu 5).symm.trans s5
  replace s6 : u 6 = .slice xi I I := (hu 6).symm.trans s6
  replace s15 : u 15 = .slice (some ⟨q1, 0, none⟩) I I := (hu 15).symm.trans s15
  replace s16 : u 16 = .slice (some ⟨q2, 0, none⟩) I I := (hu 16).symm.trans s16
  replace s19 : u 19 = .pointer (some ⟨b1, 0, none⟩) := (hu 19).symm.trans s19
  rw [s0, s1, s2, s3, s4, s5, s6, s15, s16, s19]
  clear hfr hu s0 s1 s2 s3 s4 s5 s6 s15 s16 s19
  conv => arg 2; whnf
  have H : Hid _ := hQ
  clear hQ
  go_wp2_with (go_at_call 26; refine (new26 _ _ _).mono ?_; rintro e w' ⟨rfl, rfl⟩)
  exact H.out _ ⟨rfl, rfl⟩ ⟨rfl, rfl, rfl, rfl, rfl, rfl, rfl, rfl, rfl, rfl, rfl, trivial⟩

set_option maxRecDepth 10000 in
set_option maxHeartbeats 1000000 in
theorem l7_14i (kap st : Int) (m K I : Nat) (xp xc xr xi : Option Addr) (q1 q2 : Nat) (b1 b2 : Nat) (a : Act) (w : World) (Q : Exit → Act → World → Prop) (hfr : Fr 282 a) (hs : Slots [(0, .int .i64 kap), (1, .int .u32 st), (2, .int .i64 (m : Nat)), (3, .slice xp K K), (4, .slice xc K K), (5, .slice xr I I), (6, .slice xi I I), (15, .slice (some ⟨q1, 0, none⟩) I I), (16, .slice (some ⟨q2, 0, none⟩) I I), (19, .pointer (some ⟨b1, 0, none⟩)), (20, .pointer (some ⟨b2, 0, none⟩))] a)
    (hQ : ∀ a', Fr 282 a' → Slots [(0, .int .i64 kap), (1, .int .u32 st), (2, .int .i64 (m : Nat)), (3, .slice xp K K), (4, .slice xc K K), (5, .slice xr I I), (6, .slice xi I I), (15, .slice (some ⟨q1, 0, none⟩) I I), (16, .slice (some ⟨q2, 0, none⟩) I I), (19, .pointer (some ⟨b1, 0, none⟩)), (20, .pointer (some ⟨b2, 0, none⟩)), (21, .int .i64 (0 : Nat))] a' → Q .normal a' w) :
    Code.wp Try.prog (hdC (nthC 14 (bodyC Try.f7))) Q a w := by
  obtain ⟨u, hu, rfl⟩ := lay282 hfr
  obtain ⟨s0, s1, s2, s3, s4, s5, s6, s15, s16, s19, s20, -⟩ := hs
  replace s0 : u 0 = .int .i64 kap := (hu 0).symm.trans s0
  replace s1 : u 1 = .int .u32 st := (hu 1).symm.trans s1
  replace s2 : u 2 = .int .i64 (m : Nat) := (hu 2).symm.trans s2
  replace s3 : u 3 = .slice xp K K := (hu 3).symm.trans s3
  replace s4 : u 4 = .slice xc K K := (hu 4).symm.trans s4
  replace s5 : u 5 = .slice xr I I := (hu 5).symm.trans s5
  replace s6 : u 6 = .slice xi I I := (hu 6).symm.trans s6
  replace s15 : u 15 = .slice (some ⟨q1, 0, none⟩) I I := (hu 15).symm.trans s15
  replace s16 : u 16 = .slice (some ⟨q2, 0, none⟩) I I := (hu 16).symm.trans s16
  replace s19 : u 19 = .pointer (some ⟨b1, 0, none⟩) := (hu 19).symm.trans s19
  replace s20 : u 20 = .pointer (some ⟨b2, 0, none⟩) := (hu 20).symm.trans s20
  rw [s0, s1, s2, s3, s4, s5, s6, s15, s16, s19, s20]
  clear hfr hu s0 s1 s2 s3 s4 s5 s6 s15 s16 s19 s20
  conv => arg 2; whnf
  have H : Hid _ := hQ
  clear hQ
  go_wp2
  exact H.out _ ⟨rfl, rfl⟩ ⟨rfl, rfl, rfl, rfl, rfl, rfl, rfl, rfl, rfl, rfl, rfl, rfl, trivial⟩

set_option maxRecDepth 10000 in
set_option maxHeartbeats 1000000 in
theorem l7_14h (kap st : Int) (m K I : Nat) (xp xc xr xi : Option Addr) (q1 q2 : Nat) (b1 b2 : Nat) (k : Nat) (a : Act) (w : World) (Q : Exit → Act → World → Prop) (hfr : Fr 282 a) (hs : Slots [(0, .int .i64 kap), (1, .int .u32 st), (2, .int .i64 (m : Nat)), (3, .slice xp K K), (4, .slice xc K K), (5, .slice xr I I), (6, .slice xi I I), (15, .slice (some ⟨q1, 0, none⟩) I I), (16, .slice (some ⟨q2, 0, none⟩) I I), (19, .pointer (some ⟨b1, 0, none⟩)), (20, .pointer (some ⟨b2, 0, none⟩)), (21, .int .i64 (k : Nat))] a)
    (hk : k ≤ K) (lK : (K : Int) ≤ 65536) (hQ : ∀ a', k < K → Fr 282 a' → Slots [(0, .int .i64 kap), (1, .int .u32 st), (2, .int .i64 (m : Nat)), (3, .slice xp K K), (4, .slice xc K K), (5, .slice xr I I), (6, .slice xi I I), (15, .slice (some ⟨q1, 0, none⟩) I I), (16, .slice (some ⟨q2, 0, none⟩) I I), (19, .pointer (some ⟨b1, 0, none⟩)), (20, .pointer (some ⟨b2, 0, none⟩)), (21, .int .i64 (k : Nat))] a' → Q .normal a' w) (hexit : ∀ a', k = K → Fr 282 a' → Slots [(0, .int .i64 kap), (1, .int .u32 st), (2, .int .i64 (m : Nat)), (3, .slice xp K K), (4, .slice xc K K), (5, .slice xr I I), (6, .slice xi I I), (15, .slice (some ⟨q1, 0, none⟩) I I), (16, .slice (some ⟨q2, 0, none⟩) I I), (19, .pointer (some ⟨b1, 0, none⟩)), (20, .pointer (some ⟨b2, 0, none⟩))] a' → Q (.exit 4) a' w) :
    Code.wp Try.prog (hdC (inC (inC (tlC (nthC 14 (bodyC Try.f7)))))) Q a w := by
  obtain ⟨u, hu, rfl⟩ := lay282 hfr
  obtain ⟨s0, s1, s2, s3, s4, s5, s6, s15, s16, s19, s20, s21, -⟩ := hs
  replace s0 : u 0 = .int .i64 kap := (hu 0).symm.trans s0
  replace s1 : u 1 = .int .u32 st := (hu 1).symm.trans s1
  replace s2 : u 2 = .int .i64 (m : Nat) := (hu 2).symm.trans s2
  replace s3 : u 3 = .slice xp K K := (hu 3).symm.trans s3
  replace s4 : u 4 = .slice xc K K := (hu 4).symm.trans s4
  replace s5 : u 5 = .slice xr I I := (hu 5).symm.trans s5
  replace s6 : u 6 = .slice xi I I := (hu 6).symm.trans s6
  replace s15 : u 15 = .slice (some ⟨q1, 0, none⟩) I I := (hu 15).symm.trans s15
  replace s16 : u 16 = .slice (some ⟨q2, 0, none⟩) I I := (hu 16).symm.trans s16
  replace s19 : u 19 = .pointer (some ⟨b1, 0, none⟩) := (hu 19).symm.trans s19
  replace s20 : u 20 = .pointer (some ⟨b2, 0, none⟩) := (hu 20).symm.trans s20
  replace s21 : u 21 = .int .i64 (k : Nat) := (hu 21).symm.trans s21
  rw [s0, s1, s2, s3, s4, s5, s6, s15, s16, s19, s20, s21]
  clear hfr hu s0 s1 s2 s3 s4 s5 s6 s15 s16 s19 s20 s21
  conv => arg 2; whnf
  have H : Hid _ := hQ
  have HX : Hid _ := hexit
  clear hQ hexit
  by_cases hlt : k < K
  · have l : (k : Int) < K := by omega
    go_wp2
    exact H.out _ hlt ⟨rfl, rfl⟩ ⟨rfl, rfl, rfl, rfl, rfl, rfl, rfl, rfl, rfl, rfl, rfl, rfl, trivial⟩
  · have l : ¬ ((k : Int) < K) := by omega
    go_wp2
    exact HX.out _ (by omega) ⟨rfl, rfl⟩ ⟨rfl, rfl, rfl, rfl, rfl, rfl, rfl, rfl, rfl, rfl, rfl, trivial⟩

set_option maxRecDepth 10000 in
set_option maxHeartbeats 1000000 in
theorem l7_14n (kap st : Int) (m K I : Nat) (xp xc xr xi : Option Addr) (q1 q2 : Nat) (b1 b2 : Nat) (k : Nat) (a : Act) (w : World) (Q : Exit → Act → World → Prop) (hfr : Fr 282 a) (hs : Slots [(0, .int .i64 kap), (1, .int .u32 st), (2, .int .i64 (m : Nat)), (3, .slice xp K K), (4, .slice xc K K), (5, .slice xr I I), (6, .slice xi I I), (15, .slice (some ⟨q1, 0, none⟩) I I), (16, .slice (some ⟨q2, 0, none⟩) I I), (19, .pointer (some ⟨b1, 0, none⟩)), (20, .pointer (some ⟨b2, 0, none⟩)), (21, .int .i64 (k : Nat))] a)
    (hk : (k : Int) ≤ 65536) (hQ : ∀ a', Fr 282 a' → Slots [(0, .int .i64 kap), (1, .int .u32 st), (2, .int .i64 (m : Nat)), (3, .slice xp K K), (4, .slice xc K K), (5, .slice xr I I), (6, .slice xi I I), (15, .slice (some ⟨q1, 0, none⟩) I I), (16, .slice (some ⟨q2, 0, none⟩) I I), (19, .pointer (some ⟨b1, 0, none⟩)), (20, .pointer (some ⟨b2, 0, none⟩)), (21, .int .i64 (k + 1 : Nat))] a' → Q .normal a' w) :
    Code.wp Try.prog (tlC (tlC (inC (inC (tlC (nthC 14 (bodyC Try.f7))))))) Q a w := by
  obtain ⟨u, hu, rfl⟩ := lay282 hfr
  obtain ⟨s0, s1, s2, s3, s4, s5, s6, s15, s16, s19, s20, s21, -⟩ := hs
  replace s0 : u 0 = .int .i64 kap := (hu 0).symm.trans s0
  replace s1 : u 1 = .int .u32 st := (hu 1).symm.trans s1
  replace s2 : u 2 = .int .i64 (m : Nat) := (hu 2).symm.trans s2
  replace s3 : u 3 = .slice xp K K := (hu 3).symm.trans s3
  replace s4 : u 4 = .slice xc K K := (hu 4).symm.trans s4
  replace s5 : u 5 = .slice xr I I := (hu 5).symm.trans s5
  replace s6 : u 6 = .slice xi I I := (hu 6).symm.trans s6
  replace s15 : u 15 = .slice (some ⟨q1, 0, none⟩) I I := (hu 15).symm.trans s15
  replace s16 : u 16 = .slice (some ⟨q2, 0, none⟩) I I := (hu 16).symm.trans s16
  replace s19 : u 19 = .pointer (some ⟨b1, 0, none⟩) := (hu 19).symm.trans s19
  replace s20 : u 20 = .pointer (some ⟨b2, 0, none⟩) := (hu 20).symm.trans s20
  replace s21 : u 21 = .int .i64 (k : Nat) := (hu 21).symm.trans s21
  rw [s0, s1, s2, s3, s4, s5, s6, s15, s16, s19, s20, s21]
  clear hfr hu s0 s1 s2 s3 s4 s5 s6 s15 s16 s19 s20 s21
  conv => arg 2; whnf
  have H : Hid _ := hQ
  clear hQ
  go_wp2
  exact H.out _ ⟨rfl, rfl⟩ ⟨rfl, rfl, rfl, rfl, rfl, rfl, rfl, rfl, rfl, rfl, rfl, rfl, trivial⟩

set_option maxRecDepth 10000 in
set_option maxHeartbeats 1000000 in
theorem l7_15 (b1 b2 : Nat) (s q y : Bool) (l v : Int) (a : Act) (w : World) (Q : Exit → Act → World → Prop) (hfr : Fr 282 a) (hs : Slots [(19, .pointer (some ⟨b1, 0, none⟩)), (20, .pointer (some ⟨b2, 0, none⟩))] a)
    (hcall : Calls Try.prog 28 #[.pointer (some ⟨b1, 0, none⟩)] w fun e w' => e = .returned (.tuple #[.bool s, .bool q, .bool y, .int .u64 l, .int .u64 v]) ∧ ∃ n, w' = w.drewN n) (hQ : ∀ a' n, Fr 282 a' → Slots [(19, .pointer (some ⟨b1, 0, none⟩)), (20, .pointer (some ⟨b2, 0, none⟩)), (22, .bool s), (23, .bool q), (24, .bool y), (25, .int .u64 l), (26, .int .u64 v)] a' → Q .normal a' (w.drewN n)) :
    Code.wp Try.prog (nthC 15 (bodyC Try.f7)) Q a w := by
  obtain ⟨u, hu, rfl⟩ := lay282 hfr
  obtain ⟨s19, s20, -⟩ := hs
  replace s19 : u 19 = .pointer (some ⟨b1, 0, none⟩) := (hu 19).symm.trans s19
  replace s20 : u 20 = .pointer (some ⟨b2, 0, none⟩) := (hu 20).symm.trans s20
  rw [s19, s20]
  clear hfr hu s19 s20
  conv => arg 2; whnf
  have HC : Hid _ := hcall
  clear hcall
  have H : Hid _ := hQ
  clear hQ
  go_wp2_with (go_at_call 28; refine Calls.mono HC.out ?_; rintro e w' ⟨rfl, nq, rfl⟩)
  exact H.out _ _ ⟨rfl, rfl⟩ ⟨rfl, rfl, rfl, rfl, rfl, rfl, rfl, trivial⟩

set_option maxRecDepth 10000 in
set_option maxHeartbeats 1000000 in
theorem l7_16 (b1 b2 : Nat) (s q y : Bool) (l v : Int) (a : Act) (w : World) (Q : Exit → Act → World → Prop) (hfr : Fr 282 a) (hs : Slots [(19, .pointer (some ⟨b1, 0, none⟩)), (20, .pointer (some ⟨b2, 0, none⟩)), (22, .bool s), (23, .bool q), (24, .bool y), (25, .int .u64 l), (26, .int .u64 v)] a)
    (hcall : Calls Try.prog 28 #[.pointer (some ⟨b2, 0, none⟩)] w fun e w' => e = .returned (.tuple #[.bool s, .bool q, .bool y, .int .u64 l, .int .u64 v]) ∧ ∃ n, w' = w.drewN n) (hQ : ∀ a' n, Fr 282 a' → Slots [(19, .pointer (some ⟨b1, 0, none⟩)), (20, .pointer (some ⟨b2, 0, none⟩)), (22, .bool s), (23, .bool q), (24, .bool y), (25, .int .u64 l), (26, .int .u64 v), (27, .bool s), (28, .bool q), (29, .bool y), (30, .int .u64 l), (31, .int .u64 v)] a' → Q .normal a' (w.drewN n)) :
    Code.wp Try.prog (nthC 16 (bodyC Try.f7)) Q a w := by
  obtain ⟨u, hu, rfl⟩ := lay282 hfr
  obtain ⟨s19, s20, s22, s23, s24, s25, s26, -⟩ := hs
  replace s19 : u 19 = .pointer (some ⟨b1, 0, none⟩) := (hu 19).symm.trans s19
  replace s20 : u 20 = .pointer (some ⟨b2, 0, none⟩) := (hu 20).symm.trans s20
  replace s22 : u 22 = .bool s := (hu 22).symm.trans s22
  replace s23 : u 23 = .bool q := (hu 23).symm.trans s23
  replace s24 : u 24 = .bool y := (hu 24).symm.trans s24
  replace s25 : u 25 = .int .u64 l := (hu 25).symm.trans s25
  replace s26 : u 26 = .int .u64 v := (hu 26).symm.trans s26
  rw [s19, s20, s22, s23, s24, s25, s26]
  clear hfr hu s19 s20 s22 s23 s24 s25 s26
  conv => arg 2; whnf
  have HC : Hid _ := hcall
  clear hcall
  have H : Hid _ := hQ
  clear hQ
  go_wp2_with (go_at_call 28; refine Calls.mono HC.out ?_; rintro e w' ⟨rfl, nq, rfl⟩)
  exact H.out _ _ ⟨rfl, rfl⟩ ⟨rfl, rfl, rfl, rfl, rfl, rfl, rfl, rfl, rfl, rfl, rfl, rfl, trivial⟩

set_option maxRecDepth 10000 in
set_option maxHeartbeats 1000000 in
theorem l7_17 (b1 b2 : Nat) (s q y : Bool) (l v : Int) (a : Act) (w : World) (Q : Exit → Act → World → Prop) (hfr : Fr 282 a) (hs : Slots [(19, .pointer (some ⟨b1, 0, none⟩)), (20, .pointer (some ⟨b2, 0, none⟩)), (22, .bool s), (23, .bool q), (24, .bool y), (25, .int .u64 l), (26, .int .u64 v), (27, .bool s), (28, .bool q), (29, .bool y), (30, .int .u64 l), (31, .int .u64 v)] a)
    (hQ : ∀ a', Fr 282 a' → Slots [(19, .pointer (some ⟨b1, 0, none⟩)), (20, .pointer (some ⟨b2, 0, none⟩))] a' → Q .normal a' w) :
    Code.wp Try.prog (nthC 17 (bodyC Try.f7)) Q a w := by
  obtain ⟨u, hu, rfl⟩ := lay282 hfr
  obtain ⟨s19, s20, s22, s23, s24, s25, s26, s27, s28, s29, s30, s31, -⟩ := hs
  replace s19 : u 19 = .pointer (some ⟨b1, 0, none⟩) := (hu 19).symm.trans s19
  replace s20 : u 20 = .pointer (some ⟨b2, 0, none⟩) := (hu 20).symm.trans s20
  replace s22 : u 22 = .bool s := (hu 22).symm.trans s22
  replace s23 : u 23 = .bool q := (hu 23).symm.trans s23
  replace s24 : u 24 = .bool y := (hu 24).symm.trans s24
  replace s25 : u 25 = .int .u64 l := (hu 25).symm.trans s25
  replace s26 : u 26 = .int .u64 v := (hu 26).symm.trans s26
  replace s27 : u 27 = .bool s := (hu 27).symm.trans s27
  replace s28 : u 28 = .bool q := (hu 28).symm.trans s28
  replace s29 : u 29 = .bool y := (hu 29).symm.trans s29
  replace s30 : u 30 = .int .u64 l := (hu 30).symm.trans s30
  replace s31 : u 31 = .int .u64 v := (hu 31).symm.trans s31
  rw [s19, s20, s22, s23, s24, s25, s26, s27, s28, s29, s30, s31]
  clear hfr hu s19 s20 s22 s23 s24 s25 s26 s27 s28 s29 s30 s31
  conv => arg 2; whnf
  have H : Hid _ := hQ
  clear hQ
  cases s <;> cases q <;> cases y
  all_goals
    go_wp2
    exact H.out _ ⟨rfl, rfl⟩ ⟨rfl, rfl, trivial⟩

set_option maxRecDepth 10000 in
set_option maxHeartbeats 1000000 in
theorem l7_18b (b1 b2 : Nat) (u1 u2 : Option Addr) (n1 c1 c2 : Nat) (a : Act) (w : World) (Q : Exit → Act → World → Prop) (hfr : Fr 282 a) (hs : Slots [(19, .pointer (some ⟨b1, 0, none⟩)), (20, .pointer (some ⟨b2, 0, none⟩))] a)
    (hcall : Calls Try.prog 30 #[.pointer (some ⟨b1, 0, none⟩)] w fun e w' => e = .returned (.slice u1 n1 c1) ∧ w' = w) (hQ : ∀ a', Fr 282 a' → Slots [(19, .pointer (some ⟨b1, 0, none⟩)), (20, .pointer (some ⟨b2, 0, none⟩)), (32, .slice u1 n1 c1)] a' → Q .normal a' w) :
    Code.wp Try.prog (nthC 18 (bodyC Try.f7)) Q a w := by
  obtain ⟨u, hu, rfl⟩ := lay282 hfr
  obtain ⟨s19, s20, -⟩ := hs
  replace s19 : u 19 = .pointer (some ⟨b1, 0, none⟩) := (hu 19).symm.trans s19
  replace s20 : u 20 = .pointer (some ⟨b2, 0, none⟩) := (hu 20).symm.trans s20
  rw [s19, s20]
  clear hfr hu s19 s20
  conv => arg 2; whnf
  have HC : Hid _ := hcall
  clear hcall
  have H : Hid _ := hQ
  clear hQ
  go_wp2_with (go_at_call 30; refine Calls.mono HC.out ?_; rintro e w' ⟨rfl, rfl⟩)
  exact H.out _ ⟨rfl, rfl⟩ ⟨rfl, rfl, rfl, trivial⟩

set_option maxRecDepth 10000 in
set_option maxHeartbeats 1000000 in
theorem l7_19 (b1 b2 : Nat) (u1 u2 : Option Addr) (n1 c1 c2 : Nat) (a : Act) (w : World) (Q : Exit → Act → World → Prop) (hfr : Fr 282 a) (hs : Slots [(19, .pointer (some ⟨b1, 0, none⟩)), (20, .pointer (some ⟨b2, 0, none⟩)), (32, .slice u1 n1 c1)] a)
    (hcall : Calls Try.prog 30 #[.pointer (some ⟨b2, 0, none⟩)] w fun e w' => e = .returned (.slice u2 n1 c2) ∧ w' = w) (hQ : ∀ a', Fr 282 a' → Slots [(19, .pointer (some ⟨b1, 0, none⟩)), (20, .pointer (some ⟨b2, 0, none⟩)), (32, .slice u1 n1 c1), (33, .slice u2 n1 c2)] a' → Q .normal a' w) :
    Code.wp Try.prog (nthC 19 (bodyC Try.f7)) Q a w := by
  obtain ⟨u, hu, rfl⟩ := lay282 hfr
  obtain ⟨s19, s20, s32, -⟩ := hs
  replace s19 : u 19 = .pointer (some ⟨b1, 0, none⟩) := (hu 19).symm.trans s19
  replace s20 : u 20 = .pointer (some ⟨b2, 0, none⟩) := (hu 20).symm.trans s20
  replace s32 : u 32 = .slice u1 n1 c1 := (hu 32).symm.trans s32
  rw [s19, s20, s32]
  clear hfr hu s19 s20 s32
  conv => arg 2; whnf
  have HC : Hid _ := hcall
  clear hcall
  have H : Hid _ := hQ
  clear hQ
  go_wp2_with (go_at_call 30; refine Calls.mono HC.out ?_; rintro e w' ⟨rfl, rfl⟩)
  exact H.out _ ⟨rfl, rfl⟩ ⟨rfl, rfl, rfl, rfl, trivial⟩

set_option maxRecDepth 10000 in
set_option maxHeartbeats 1000000 in
theorem l7_20 (u1 u2 : Option Addr) (n1 c1 c2 : Nat) (a : Act) (w : World) (Q : Exit → Act → World → Prop) (hfr : Fr 282 a) (hs : Slots [(32, .slice u1 n1 c1), (33, .slice u2 n1 c2)] a)
    (hQ : ∀ a', Fr 282 a' → Slots [(32, .slice u1 n1 c1), (33, .slice u2 n1 c2)] a' → Q .normal a' w) :
    Code.wp Try.prog (nthC 20 (bodyC Try.f7)) Q a w := by
  obtain ⟨u, hu, rfl⟩ := lay282 hfr
  obtain ⟨s32, s33, -⟩ := hs
  replace s32 : u 32 = .slice u1 n1 c1 := (hu 32).symm.trans s32
  replace s33 : u 33 = .slice u2 n1 c2 := (hu 33).symm.trans s33
  rw [s32, s33]
  clear hfr hu s32 s33
  conv => arg 2; whnf
  have H : Hid _ := hQ
  clear hQ
  go_wp2
  exact H.out _ ⟨rfl, rfl⟩ ⟨rfl, rfl, trivial⟩

set_option maxRecDepth 10000 in
set_option maxHeartbeats 1000000 in
theorem l7_21b (u1 u2 : Option Addr) (n1 c1 c2 : Nat) (a : Act) (w : World) (Q : Exit → Act → World → Prop) (hfr : Fr 282 a) (hs : Slots [(32, .slice u1 n1 c1), (33, .slice u2 n1 c2)] a)
    (hQ : ∀ a', Fr 282 a' → Slots [(32, .slice u1 n1 c1), (33, .slice u2 n1 c2), (34, .int .i64 (n1 : Nat))] a' → Q .normal a' w) :
    Code.wp Try.prog (nthC 21 (bodyC Try.f7)) Q a w := by
  obtain ⟨u, hu, rfl⟩ := lay282 hfr
  obtain ⟨s32, s33, -⟩ := hs
  replace s32 : u 32 = .slice u1 n1 c1 := (hu 32).symm.trans s32
  replace s33 : u 33 = .slice u2 n1 c2 := (hu 33).symm.trans s33
  rw [s32, s33]
  clear hfr hu s32 s33
  conv => arg 2; whnf
  have H : Hid _ := hQ
  clear hQ
  go_wp2
  exact H.out _ ⟨rfl, rfl⟩ ⟨rfl, rfl, rfl, trivial⟩

set_option maxRecDepth 10000 in
set_option maxHeartbeats 1000000 in
theorem l7_22i (u1 u2 : Option Addr) (n1 c1 c2 : Nat) (a : Act) (w : World) (Q : Exit → Act → World → Prop) (hfr : Fr 282 a) (hs : Slots [(32, .slice u1 n1 c1), (33, .slice u2 n1 c2), (34, .int .i64 (n1 : Nat))] a)
    (hQ : ∀ a', Fr 282 a' → Slots [(32, .slice u1 n1 c1), (33, .slice u2 n1 c2), (34, .int .i64 (n1 : Nat)), (35, .int .i64 (0 : Nat))] a' → Q .normal a' w) :
    Code.wp Try.prog (hdC (nthC 22 (bodyC Try.f7))) Q a w := by
  obtain ⟨u, hu, rfl⟩ := lay282 hfr
  obtain ⟨s32, s33, s34, -⟩ := hs
  replace s32 : u 32 = .slice u1 n1 c1 := (hu 32).symm.trans s32
  replace s33 : u 33 = .slice u2 n1 c2 := (hu 33).symm.trans s33
  replace s34 : u 34 = .int .i64 (n1 : Nat) := (hu 34).symm.trans s34
  rw [s32, s33, s34]
  clear hfr hu s32 s33 s34
  conv => arg 2; whnf
  have H : Hid _ := hQ
  clear hQ
  go_wp2
  exact H.out _ ⟨rfl, rfl⟩ ⟨rfl, rfl, rfl, rfl, trivial⟩

set_option maxRecDepth 10000 in
set_option maxHeartbeats 1000000 in
theorem l7_22h (u1 u2 : Option Addr) (n1 c1 c2 : Nat) (i : Nat) (a : Act) (w : World) (Q : Exit → Act → World → Prop) (hfr : Fr 282 a) (hs : Slots [(32, .slice u1 n1 c1), (33, .slice u2 n1 c2), (34, .int .i64 (n1 : Nat)), (35, .int .i64 (i : Nat))] a)
    (hk : i ≤ n1) (lK : (n1 : Int) ≤ 65536) (hQ : ∀ a', i < n1 → Fr 282 a' → Slots [(32, .slice u1 n1 c1), (33, .slice u2 n1 c2), (34, .int .i64 (n1 : Nat)), (35, .int .i64 (i : Nat))] a' → Q .normal a' w) (hexit : ∀ a', i = n1 → Fr 282 a' → Slots [(32, .slice u1 n1 c1), (33, .slice u2 n1 c2), (34, .int .i64 (n1 : Nat))] a' → Q (.exit 6) a' w) :
    Code.wp Try.prog (hdC (inC (inC (tlC (nthC 22 (bodyC Try.f7)))))) Q a w := by
  obtain ⟨u, hu, rfl⟩ := lay282 hfr
  obtain ⟨s32, s33, s34, s35, -⟩ := hs
  replace s32 : u 32 = .slice u1 n1 c1 := (hu 32).symm.trans s32
  replace s33 : u 33 = .slice u2 n1 c2 := (hu 33).symm.trans s33
  replace s34 : u 34 = .int .i64 (n1 : Nat) := (hu 34).symm.trans s34
  replace s35 : u 35 = .int .i64 (i : Nat) := (hu 35).symm.trans s35
  rw [s32, s33, s34, s35]
  clear hfr hu s32 s33 s34 s35
  conv => arg 2; whnf
  have H : Hid _ := hQ
  have HX : Hid _ := hexit
  clear hQ hexit
  by_cases hlt : i < n1
  · have l : (i : Int) < n1 := by omega
    go_wp2
    exact H.out _ hlt ⟨rfl, rfl⟩ ⟨rfl, rfl, rfl, rfl, trivial⟩
  · have l : ¬ ((i : Int) < n1) := by omega
    go_wp2
    exact HX.out _ (by omega) ⟨rfl, rfl⟩ ⟨rfl, rfl, rfl, trivial⟩

set_option maxRecDepth 10000 in
set_option maxHeartbeats 1000000 in
theorem l7_22b (g1 g2 n1 c1 c2 i j : Nat) (x : Int) (a : Act) (w : World) (Q : Exit → Act → World → Prop) (hfr : Fr 282 a) (hs : Slots [(32, .slice (some ⟨g1, 0, none⟩) n1 c1), (33, .slice (some ⟨g2, 0, none⟩) n1 c2), (34, .int .i64 (n1 : Nat)), (35, .int .i64 (i : Nat))] a)
    (li : (i : Int) < n1) (ln : (n1 : Int) ≤ 65536) (e1 : IntKind.i64.wrap ((n1 : Int) - 1) = (n1 : Int) - 1) (e2 : IntKind.i64.wrap ((n1 : Int) - 1 - i) = (j : Int)) (lj : (j : Int) < n1) (h1 : w.cell? ⟨g1, i, none⟩ = some (.int .u32 x)) (h2 : w.cell? ⟨g2, j, none⟩ = some (.int .u32 x))
    (hQ : ∀ a' m, Fr 282 a' → Slots [(32, .slice (some ⟨g1, 0, none⟩) n1 c1), (33, .slice (some ⟨g2, 0, none⟩) n1 c2), (34, .int .i64 (n1 : Nat)), (35, .int .i64 (i : Nat))] a' → Q .normal a' (w.drewN m)) :
    Code.wp Try.prog (hdC (tlC (inC (inC (tlC (nthC 22 (bodyC Try.f7))))))) Q a w := by
  obtain ⟨u, hu, rfl⟩ := lay282 hfr
  obtain ⟨s32, s33, s34, s35, -⟩ := hs
  replace s32 : u 32 = .slice (some ⟨g1, 0, none⟩) n1 c1 := (hu 32).symm.trans s32
  replace s33 : u 33 = .slice (some ⟨g2, 0, none⟩) n1 c2 := (hu 33).symm.trans s33
  replace s34 : u 34 = .int .i64 (n1 : Nat) := (hu 34).symm.trans s34
  replace s35 : u 35 = .int .i64 (i : Nat) := (hu 35).symm.trans s35
  rw [s32, s33, s34, s35]
  clear hfr hu s32 s33 s34 s35
  conv => arg 2; whnf
  have H : Hid _ := hQ
  clear hQ
  go_wp2_with fail
  go_quiet (fail)
  go_wp2
  exact H.out _ _ ⟨rfl, rfl⟩ ⟨rfl, rfl, rfl, rfl, trivial⟩

set_option maxRecDepth 10000 in
set_option maxHeartbeats 1000000 in
theorem l7_22n (u1 u2 : Option Addr) (n1 c1 c2 : Nat) (i : Nat) (a : Act) (w : World) (Q : Exit → Act → World → Prop) (hfr : Fr 282 a) (hs : Slots [(32, .slice u1 n1 c1), (33, .slice u2 n1 c2), (34, .int .i64 (n1 : Nat)), (35, .int .i64 (i : Nat))] a)
    (hk : (i : Int) ≤ 65536) (hQ : ∀ a', Fr 282 a' → Slots [(32, .slice u1 n1 c1), (33, .slice u2 n1 c2), (34, .int .i64 (n1 : Nat)), (35, .int .i64 (i + 1 : Nat))] a' → Q .normal a' w) :
    Code.wp Try.prog (tlC (tlC (inC (inC (tlC (nthC 22 (bodyC Try.f7))))))) Q a w := by
  obtain ⟨u, hu, rfl⟩ := lay282 hfr
  obtain ⟨s32, s33, s34, s35, -⟩ := hs
  replace s32 : u 32 = .slice u1 n1 c1 := (hu 32).symm.trans s32
  replace s33 : u 33 = .slice u2 n1 c2 := (hu 33).symm.trans s33
  replace s34 : u 34 = .int .i64 (n1 : Nat) := (hu 34).symm.trans s34
  replace s35 : u 35 = .int .i64 (i : Nat) := (hu 35).symm.trans s35
  rw [s32, s33, s34, s35]
  clear hfr hu s32 s33 s34 s35
  conv => arg 2; whnf
  have H : Hid _ := hQ
  clear hQ
  go_wp2
  exact H.out _ ⟨rfl, rfl⟩ ⟨rfl, rfl, rfl, rfl, trivial⟩

set_option maxRecDepth 10000 in
set_option maxHeartbeats 1000000 in
theorem l7_23  (a : Act) (w : World) (Q : Exit → Act → World → Prop) (hfr : Fr 282 a)
    (hQ : ∀ a', Fr 282 a' → sl a' 14 = .bool true → Q .ret a' w) :
    Code.wp Try.prog (dropC 23 (bodyC Try.f7)) Q a w := by
  obtain ⟨u, hu, rfl⟩ := lay282 hfr
  clear hfr hu
  conv => arg 2; whnf
  have H : Hid _ := hQ
  clear hQ
  go_wp2
  exact H.out _ ⟨rfl, rfl⟩ rfl

end Go.Proofs.Qxb6602526a
