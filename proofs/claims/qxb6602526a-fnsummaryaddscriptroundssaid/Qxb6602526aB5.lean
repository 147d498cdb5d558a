import Derived.Test.Qxb6602526aB2
import Derived.Test.Qxb6602526aB1
import Derived.Test.Qxb6602526aS11
import Derived.Deep.QuietTactic
import Derived.BigQuiet
import Derived.Laws.FloatArith
namespace Go.Proofs.Qxb6602526a
open Go.RowKit
set_option linter.unusedSimpArgs false
set_option linter.unusedVariables false

theorem IsB.of'' {w : World} {b : Nat} {c : Array Value} {t : TypeId} (h : w.heap[b]? = some (.cells c t)) : IsB w b c t := h

set_option maxRecDepth 10000 in
set_option maxHeartbeats 1000000 in
theorem l3_15 (m K : Nat) (x1 x2 x3 x4 x5 : Option Addr) (bs : Nat) (T : SumS) (a : Act) (w : World) (Q : Exit → Act → World → Prop) (hfr : Fr 285 a) (hs : Slots [(0, .int .u32 (m : Nat)), (1, .slice x1 K K), (2, .slice x2 K K), (3, .slice x3 K K), (4, .slice x4 K K), (5, .slice x5 K K), (13, .int .i64 (K : Nat)), (15, .pointer (some ⟨bs, 0, none⟩))] a)
    (hB : IsB w bs T.arr 41) (lK : (K : Int) ≤ 65536) (h1 : T.inst = K) (h2 : T.zero = K) (hQ : ∀ a', Fr 285 a' → Slots [(0, .int .u32 (m : Nat)), (1, .slice x1 K K), (2, .slice x2 K K), (3, .slice x3 K K), (4, .slice x4 K K), (5, .slice x5 K K), (13, .int .i64 (K : Nat)), (15, .pointer (some ⟨bs, 0, none⟩))] a' → Q .normal a' w) :
    Code.wp Try.prog (nthC 15 (bodyC Try.f3)) Q a w := by
  obtain ⟨u, hu, rfl⟩ := lay285 hfr
  obtain ⟨s0, s1, s2, s3, s4, s5, s13, s15, -⟩ := hs
  replace s0 : u 0 = .int .u32 (m : Nat) := (hu 0).symm.trans s0
  replace s1 : u 1 = .slice x1 K K := (hu 1).symm.trans s1
  replace s2 : u 2 = .slice x2 K K := (hu 2).symm.trans s2
  replace s3 : u 3 = .slice x3 K K := (hu 3).symm.trans s3
  replace s4 : u 4 = .slice x4 K K := (hu 4).symm.trans s4
  replace s5 : u 5 = .slice x5 K K := (hu 5).symm.trans s5
  replace s13 : u 13 = .int .i64 (K : Nat) := (hu 13).symm.trans s13
  replace s15 : u 15 = .pointer (some ⟨bs, 0, none⟩) := (hu 15).symm.trans s15
  rw [s0, s1, s2, s3, s4, s5, s13, s15]
  clear hfr hu s0 s1 s2 s3 s4 s5 s13 s15
  conv => arg 2; whnf
  have b5 : w.cell? ⟨bs, 5, none⟩ = some (.int .u64 K) := by rw [← h1]; exact hB.cell 5
  have b6 : w.cell? ⟨bs, 6, none⟩ = some (.int .u64 K) := by rw [← h2]; exact hB.cell 6
  have wk : IntKind.u64.wrap (K : Int) = K := by rw [IntKind.wrap_u64]; omega
  clear h1 h2
  have H : Hid _ := hQ
  clear hQ hB
  go_wp2
  exact H.out _ ⟨rfl, rfl⟩ ⟨rfl, rfl, rfl, rfl, rfl, rfl, rfl, rfl, trivial⟩

set_option maxRecDepth 10000 in
set_option maxHeartbeats 1000000 in
theorem l3_16 (m K : Nat) (x1 x2 x3 x4 x5 : Option Addr) (bs : Nat) (T : SumS) (a : Act) (w : World) (Q : Exit → Act → World → Prop) (hfr : Fr 285 a) (hs : Slots [(0, .int .u32 (m : Nat)), (1, .slice x1 K K), (2, .slice x2 K K), (3, .slice x3 K K), (4, .slice x4 K K), (5, .slice x5 K K), (13, .int .i64 (K : Nat)), (15, .pointer (some ⟨bs, 0, none⟩))] a)
    (hB : IsB w bs T.arr 41) (h1 : T.dis = 0) (h2 : T.ei = 0) (h3 : T.inv = none) (hQ : ∀ a', Fr 285 a' → Slots [(0, .int .u32 (m : Nat)), (1, .slice x1 K K), (2, .slice x2 K K), (3, .slice x3 K K), (4, .slice x4 K K), (5, .slice x5 K K), (13, .int .i64 (K : Nat)), (15, .pointer (some ⟨bs, 0, none⟩))] a' → Q .normal a' w) :
    Code.wp Try.prog (nthC 16 (bodyC Try.f3)) Q a w := by
  obtain ⟨u, hu, rfl⟩ := lay285 hfr
  obtain ⟨s0, s1, s2, s3, s4, s5, s13, s15, -⟩ := hs
  replace s0 : u 0 = .int .u32 (m : Nat) := (hu 0).symm.trans s0
  replace s1 : u 1 = .slice x1 K K := (hu 1).symm.trans s1
  replace s2 : u 2 = .slice x2 K K := (hu 2).symm.trans s2
  replace s3 : u 3 = .slice x3 K K := (hu 3).symm.trans s3
  replace s4 : u 4 = .slice x4 K K := (hu 4).symm.trans s4
  replace s5 : u 5 = .slice x5 K K := (hu 5).symm.trans s5
  replace s13 : u 13 = .int .i64 (K : Nat) := (hu 13).symm.trans s13
  replace s15 : u 15 = .pointer (some ⟨bs, 0, none⟩) := (hu 15).symm.trans s15
  rw [s0, s1, s2, s3, s4, s5, s13, s15]
  clear hfr hu s0 s1 s2 s3 s4 s5 s13 s15
  conv => arg 2; whnf
  have b10 : w.cell? ⟨bs, 10, none⟩ = some (.int .u64 0) := by rw [← h1]; exact hB.cell 10
  have b12 : w.cell? ⟨bs, 12, none⟩ = some (.int .u64 0) := by rw [← h2]; exact hB.cell 12
  have b11 : w.cell? ⟨bs, 11, none⟩ = some (.pointer none) := by rw [← h3]; exact hB.cell 11
  clear h1 h2 h3
  have H : Hid _ := hQ
  clear hQ hB
  go_wp2
  exact H.out _ ⟨rfl, rfl⟩ ⟨rfl, rfl, rfl, rfl, rfl, rfl, rfl, rfl, trivial⟩

set_option maxRecDepth 10000 in
set_option maxHeartbeats 1000000 in
theorem l3_17 (m K : Nat) (x1 x2 x3 x4 x5 : Option Addr) (bs : Nat) (T : SumS) (a : Act) (w : World) (Q : Exit → Act → World → Prop) (hfr : Fr 285 a) (hs : Slots [(0, .int .u32 (m : Nat)), (1, .slice x1 K K), (2, .slice x2 K K), (3, .slice x3 K K), (4, .slice x4 K K), (5, .slice x5 K K), (13, .int .i64 (K : Nat)), (15, .pointer (some ⟨bs, 0, none⟩))] a)
    (hB : IsB w bs T.arr 41) (hcall : Calls Try.prog 14 #[.pointer T.rmax, .slice x1 K K, .slice x2 K K] w fun e w' => e = .returned (.bool true) ∧ w' = w) (hQ : ∀ a', Fr 285 a' → Slots [(0, .int .u32 (m : Nat)), (1, .slice x1 K K), (2, .slice x2 K K), (3, .slice x3 K K), (4, .slice x4 K K), (5, .slice x5 K K), (13, .int .i64 (K : Nat)), (15, .pointer (some ⟨bs, 0, none⟩))] a' → Q .normal a' w) :
    Code.wp Try.prog (nthC 17 (bodyC Try.f3)) Q a w := by
  obtain ⟨u, hu, rfl⟩ := lay285 hfr
  obtain ⟨s0, s1, s2, s3, s4, s5, s13, s15, -⟩ := hs
  replace s0 : u 0 = .int .u32 (m : Nat) := (hu 0).symm.trans s0
  replace s1 : u 1 = .slice x1 K K := (hu 1).symm.trans s1
  replace s2 : u 2 = .slice x2 K K := (hu 2).symm.trans s2
  replace s3 : u 3 = .slice x3 K K := (hu 3).symm.trans s3
  replace s4 : u 4 = .slice x4 K K := (hu 4).symm.trans s4
  replace s5 : u 5 = .slice x5 K K := (hu 5).symm.trans s5
  replace s13 : u 13 = .int .i64 (K : Nat) := (hu 13).symm.trans s13
  replace s15 : u 15 = .pointer (some ⟨bs, 0, none⟩) := (hu 15).symm.trans s15
  rw [s0, s1, s2, s3, s4, s5, s13, s15]
  clear hfr hu s0 s1 s2 s3 s4 s5 s13 s15
  conv => arg 2; whnf
  have b21 : w.cell? ⟨bs, 21, none⟩ = some (.pointer T.rmax) := hB.cell 21
  have H : Hid _ := hQ
  have HC : Hid _ := hcall
  clear hQ hB hcall
  go_wp2_with (go_at_call 14; refine Calls.mono HC.out ?_; rintro e w' ⟨rfl, rfl⟩)
  exact H.out _ ⟨rfl, rfl⟩ ⟨rfl, rfl, rfl, rfl, rfl, rfl, rfl, rfl, trivial⟩

set_option maxRecDepth 10000 in
set_option maxHeartbeats 1000000 in
theorem l3_18 (m K : Nat) (x1 x2 x3 x4 x5 : Option Addr) (bs : Nat) (T : SumS) (a : Act) (w : World) (Q : Exit → Act → World → Prop) (hfr : Fr 285 a) (hs : Slots [(0, .int .u32 (m : Nat)), (1, .slice x1 K K), (2, .slice x2 K K), (3, .slice x3 K K), (4, .slice x4 K K), (5, .slice x5 K K), (13, .int .i64 (K : Nat)), (15, .pointer (some ⟨bs, 0, none⟩))] a)
    (hB : IsB w bs T.arr 41) (hcall : Calls Try.prog 14 #[.pointer T.smax, .slice x3 K K, .slice x4 K K] w fun e w' => e = .returned (.bool true) ∧ w' = w) (hQ : ∀ a', Fr 285 a' → Slots [(0, .int .u32 (m : Nat)), (1, .slice x1 K K), (2, .slice x2 K K), (3, .slice x3 K K), (4, .slice x4 K K), (5, .slice x5 K K), (13, .int .i64 (K : Nat)), (15, .pointer (some ⟨bs, 0, none⟩))] a' → Q .normal a' w) :
    Code.wp Try.prog (nthC 18 (bodyC Try.f3)) Q a w := by
  obtain ⟨u, hu, rfl⟩ := lay285 hfr
  obtain ⟨s0, s1, s2, s3, s4, s5, s13, s15, -⟩ := hs
  replace s0 : u 0 = .int .u32 (m : Nat) := (hu 0).symm.trans s0
  replace s1 : u 1 = .slice x1 K K := (hu 1).symm.trans s1
  replace s2 : u 2 = .slice x2 K K := (hu 2).symm.trans s2
  replace s3 : u 3 = .slice x3 K K := (hu 3).symm.trans s3
  replace s4 : u 4 = .slice x4 K K := (hu 4).symm.trans s4
  replace s5 : u 5 = .slice x5 K K := (hu 5).symm.trans s5
  replace s13 : u 13 = .int .i64 (K : Nat) := (hu 13).symm.trans s13
  replace s15 : u 15 = .pointer (some ⟨bs, 0, none⟩) := (hu 15).symm.trans s15
  rw [s0, s1, s2, s3, s4, s5, s13, s15]
  clear hfr hu s0 s1 s2 s3 s4 s5 s13 s15
  conv => arg 2; whnf
  have b22 : w.cell? ⟨bs, 22, none⟩ = some (.pointer T.smax) := hB.cell 22
  have H : Hid _ := hQ
  have HC : Hid _ := hcall
  clear hQ hB hcall
  go_wp2_with (go_at_call 14; refine Calls.mono HC.out ?_; rintro e w' ⟨rfl, rfl⟩)
  exact H.out _ ⟨rfl, rfl⟩ ⟨rfl, rfl, rfl, rfl, rfl, rfl, rfl, rfl, trivial⟩

set_option maxRecDepth 10000 in
set_option maxHeartbeats 1000000 in
theorem l3_19 (m K : Nat) (x1 x2 x3 x4 x5 : Option Addr) (bs : Nat) (a : Act) (w : World) (Q : Exit → Act → World → Prop) (hfr : Fr 285 a) (hs : Slots [(0, .int .u32 (m : Nat)), (1, .slice x1 K K), (2, .slice x2 K K), (3, .slice x3 K K), (4, .slice x4 K K), (5, .slice x5 K K), (13, .int .i64 (K : Nat)), (15, .pointer (some ⟨bs, 0, none⟩))] a)
    (lm : m ≤ 65536) (hQ : ∀ a', Fr 285 a' → Slots [(0, .int .u32 (m : Nat)), (1, .slice x1 K K), (2, .slice x2 K K), (3, .slice x3 K K), (4, .slice x4 K K), (5, .slice x5 K K), (13, .int .i64 (K : Nat)), (15, .pointer (some ⟨bs, 0, none⟩)), (24, .slice (some ⟨w.heap.size, 0, none⟩) m m)] a' → Q .normal a' (w.alloc (.cells (madeCells #[.int .u64 0] m) 31))) :
    Code.wp Try.prog (nthC 19 (bodyC Try.f3)) Q a w := by
  obtain ⟨u, hu, rfl⟩ := lay285 hfr
  obtain ⟨s0, s1, s2, s3, s4, s5, s13, s15, -⟩ := hs
  replace s0 : u 0 = .int .u32 (m : Nat) := (hu 0).symm.trans s0
  replace s1 : u 1 = .slice x1 K K := (hu 1).symm.trans s1
  replace s2 : u 2 = .slice x2 K K := (hu 2).symm.trans s2
  replace s3 : u 3 = .slice x3 K K := (hu 3).symm.trans s3
  replace s4 : u 4 = .slice x4 K K := (hu 4).symm.trans s4
  replace s5 : u 5 = .slice x5 K K := (hu 5).symm.trans s5
  replace s13 : u 13 = .int .i64 (K : Nat) := (hu 13).symm.trans s13
  replace s15 : u 15 = .pointer (some ⟨bs, 0, none⟩) := (hu 15).symm.trans s15
  rw [s0, s1, s2, s3, s4, s5, s13, s15]
  clear hfr hu s0 s1 s2 s3 s4 s5 s13 s15
  conv => arg 2; whnf
  have hmk := fun wx => run_mk (P := Try.prog) 23 31 (.int .u64 0) 1 8 Try.underlying23 Try.info31 m (by omega) (by omega) wx
  have lm' : (m : Int) ≤ 65536 := by omega
  clear lm
  have H : Hid _ := hQ
  clear hQ
  go_wp2
  exact H.out _ ⟨rfl, rfl⟩ ⟨rfl, rfl, rfl, rfl, rfl, rfl, rfl, rfl, rfl, trivial⟩

set_option maxRecDepth 10000 in
set_option maxHeartbeats 1000000 in
theorem l3_20 (m K : Nat) (x1 x2 x3 x4 x5 : Option Addr) (bs : Nat) (cb : Nat) (a : Act) (w : World) (Q : Exit → Act → World → Prop) (hfr : Fr 285 a) (hs : Slots [(0, .int .u32 (m : Nat)), (1, .slice x1 K K), (2, .slice x2 K K), (3, .slice x3 K K), (4, .slice x4 K K), (5, .slice x5 K K), (13, .int .i64 (K : Nat)), (15, .pointer (some ⟨bs, 0, none⟩)), (24, .slice (some ⟨cb, 0, none⟩) m m)] a)
    (hQ : ∀ a', Fr 285 a' → Slots [(0, .int .u32 (m : Nat)), (1, .slice x1 K K), (2, .slice x2 K K), (3, .slice x3 K K), (4, .slice x4 K K), (5, .slice x5 K K), (13, .int .i64 (K : Nat)), (15, .pointer (some ⟨bs, 0, none⟩)), (24, .slice (some ⟨cb, 0, none⟩) m m), (25, .int .u64 0), (26, .int .u64 0)] a' → Q .normal a' w) :
    Code.wp Try.prog (nthC 20 (bodyC Try.f3)) Q a w := by
  obtain ⟨u, hu, rfl⟩ := lay285 hfr
  obtain ⟨s0, s1, s2, s3, s4, s5, s13, s15, s24, -⟩ := hs
  replace s0 : u 0 = .int .u32 (m : Nat) := (hu 0).symm.trans s0
  replace s1 : u 1 = .slice x1 K K := (hu 1).symm.trans s1
  replace s2 : u 2 = .slice x2 K K := (hu 2).symm.trans s2
  replace s3 : u 3 = .slice x3 K K := (hu 3).symm.trans s3
  replace s4 : u 4 = .slice x4 K K := (hu 4).symm.trans s4
  replace s5 : u 5 = .slice x5 K K := (hu 5).symm.trans s5
  replace s13 : u 13 = .int .i64 (K : Nat) := (hu 13).symm.trans s13
  replace s15 : u 15 = .pointer (some ⟨bs, 0, none⟩) := (hu 15).symm.trans s15
  replace s24 : u 24 = .slice (some ⟨cb, 0, none⟩) m m := (hu 24).symm.trans s24
  rw [s0, s1, s2, s3, s4, s5, s13, s15, s24]
  clear hfr hu s0 s1 s2 s3 s4 s5 s13 s15 s24
  conv => arg 2; whnf
  have H : Hid _ := hQ
  clear hQ
  go_wp2
  exact H.out _ ⟨rfl, rfl⟩ ⟨rfl, rfl, rfl, rfl, rfl, rfl, rfl, rfl, rfl, rfl, rfl, trivial⟩

set_option maxRecDepth 10000 in
set_option maxHeartbeats 1000000 in
theorem l3_21i (m K : Nat) (x1 x2 x3 x4 x5 : Option Addr) (bs : Nat) (cb : Nat) (a : Act) (w : World) (Q : Exit → Act → World → Prop) (hfr : Fr 285 a) (hs : Slots [(0, .int .u32 (m : Nat)), (1, .slice x1 K K), (2, .slice x2 K K), (3, .slice x3 K K), (4, .slice x4 K K), (5, .slice x5 K K), (13, .int .i64 (K : Nat)), (15, .pointer (some ⟨bs, 0, none⟩)), (24, .slice (some ⟨cb, 0, none⟩) m m), (25, .int .u64 0), (26, .int .u64 0)] a)
    (hQ : ∀ a', Fr 285 a' → Slots [(0, .int .u32 (m : Nat)), (1, .slice x1 K K), (2, .slice x2 K K), (3, .slice x3 K K), (4, .slice x4 K K), (5, .slice x5 K K), (13, .int .i64 (K : Nat)), (15, .pointer (some ⟨bs, 0, none⟩)), (24, .slice (some ⟨cb, 0, none⟩) m m), (25, .int .u64 0), (26, .int .u64 0), (27, .int .i64 (0 : Nat))] a' → Q .normal a' w) :
    Code.wp Try.prog (hdC (nthC 21 (bodyC Try.f3))) Q a w := by
  obtain ⟨u, hu, rfl⟩ := lay285 hfr
  obtain ⟨s0, s1, s2, s3, s4, s5, s13, s15, s24, s25, s26, -⟩ := hs
  replace s0 : u 0 = .int .u32 (m : Nat) := (hu 0).symm.trans s0
  replace s1 : u 1 = .slice x1 K K := (hu 1).symm.trans s1
  replace s2 : u 2 = .slice x2 K K := (hu 2).symm.trans s2
  replace s3 : u 3 = .slice x3 K K := (hu 3).symm.trans s3
  replace s4 : u 4 = .slice x4 K K := (hu 4).symm.trans s4
  replace s5 : u 5 = .slice x5 K K := (hu 5).symm.trans s5
  replace s13 : u 13 = .int .i64 (K : Nat) := (hu 13).symm.trans s13
  replace s15 : u 15 = .pointer (some ⟨bs, 0, none⟩) := (hu 15).symm.trans s15
  replace s24 : u 24 = .slice (some ⟨cb, 0, none⟩) m m := (hu 24).symm.trans s24
  replace s25 : u 25 = .int .u64 0 := (hu 25).symm.trans s25
  replace s26 : u 26 = .int .u64 0 := (hu 26).symm.trans s26
  rw [s0, s1, s2, s3, s4, s5, s13, s15, s24, s25, s26]
  clear hfr hu s0 s1 s2 s3 s4 s5 s13 s15 s24 s25 s26
  conv => arg 2; whnf
  have H : Hid _ := hQ
  clear hQ
  go_wp2
  exact H.out _ ⟨rfl, rfl⟩ ⟨rfl, rfl, rfl, rfl, rfl, rfl, rfl, rfl, rfl, rfl, rfl, rfl, trivial⟩

set_option maxRecDepth 10000 in
set_option maxHeartbeats 1000000 in
theorem l3_21r (m K : Nat) (x1 x2 x3 x4 x5 : Option Addr) (bs : Nat) (cb k b5 : Nat) (rd d t : Int) (h : Nat → Int) (a : Act) (w : World) (Q : Exit → Act → World → Prop) (hfr : Fr 285 a) (hs : Slots [(0, .int .u32 (m : Nat)), (1, .slice x1 K K), (2, .slice x2 K K), (3, .slice x3 K K), (4, .slice x4 K K), (5, .slice x5 K K), (13, .int .i64 (K : Nat)), (15, .pointer (some ⟨bs, 0, none⟩)), (24, .slice (some ⟨cb, 0, none⟩) m m), (25, .int .u64 d), (26, .int .u64 t), (27, .int .i64 (k : Nat))] a)
    (hne : b5 ≠ cb) (hk : k ≤ K) (lK : (K : Int) ≤ 65536) (hx : 0 < K → x5 = some ⟨b5, 0, none⟩) (hc : k < K → w.cell? ⟨b5, k, none⟩ = some (.int .u32 rd)) (hrd : 0 ≤ rd ∧ rd ≤ m) (hD : IsB w cb (rowA (fun j => .int .u64 (h j)) m) 31) (hh : ∀ j, j < m → 0 ≤ h j ∧ h j ≤ 65536) (lm : m ≤ 65536) (ld : 0 ≤ d ∧ d ≤ 65536) (lt : 0 ≤ t ∧ t ≤ 4294967296)
    (h0 : ∀ a', k < K → rd = 0 → Fr 285 a' → Slots [(0, .int .u32 (m : Nat)), (1, .slice x1 K K), (2, .slice x2 K K), (3, .slice x3 K K), (4, .slice x4 K K), (5, .slice x5 K K), (13, .int .i64 (K : Nat)), (15, .pointer (some ⟨bs, 0, none⟩)), (24, .slice (some ⟨cb, 0, none⟩) m m), (25, .int .u64 d), (26, .int .u64 t), (27, .int .i64 (k + 1 : Nat))] a' → Q .normal a' w)
    (h1 : ∀ a' w' (j : Nat), k < K → rd = (j : Int) + 1 → j < m → Fr 285 a' → Slots [(0, .int .u32 (m : Nat)), (1, .slice x1 K K), (2, .slice x2 K K), (3, .slice x3 K K), (4, .slice x4 K K), (5, .slice x5 K K), (13, .int .i64 (K : Nat)), (15, .pointer (some ⟨bs, 0, none⟩)), (24, .slice (some ⟨cb, 0, none⟩) m m), (25, .int .u64 (d + 1)), (26, .int .u64 (t + (j + 1 : Nat))), (27, .int .i64 (k + 1 : Nat))] a' → Kept [cb] w w' → IsB w' cb (rowA (fun i => .int .u64 (if i = j then h i + 1 else h i)) m) 31 → Q .normal a' w')
    (hexit : ∀ a', k = K → Fr 285 a' → Slots [(0, .int .u32 (m : Nat)), (1, .slice x1 K K), (2, .slice x2 K K), (3, .slice x3 K K), (4, .slice x4 K K), (5, .slice x5 K K), (13, .int .i64 (K : Nat)), (15, .pointer (some ⟨bs, 0, none⟩)), (24, .slice (some ⟨cb, 0, none⟩) m m), (25, .int .u64 d), (26, .int .u64 t)] a' → Q (.exit 4) a' w) :
    Code.wp Try.prog (inC (inC (tlC (nthC 21 (bodyC Try.f3))))) Q a w := by
  obtain ⟨u, hu, rfl⟩ := lay285 hfr
  obtain ⟨s0, s1, s2, s3, s4, s5, s13, s15, s24, s25, s26, s27, -⟩ := hs
  replace s0 : u 0 = .int .u32 (m : Nat) := (hu 0).symm.trans s0
  replace s1 : u 1 = .slice x1 K K := (hu 1).symm.trans s1
  replace s2 : u 2 = .slice x2 K K := (hu 2).symm.trans s2
  replace s3 : u 3 = .slice x3 K K := (hu 3).symm.trans s3
  replace s4 : u 4 = .slice x4 K K := (hu 4).symm.trans s4
  replace s5 : u 5 = .slice x5 K K := (hu 5).symm.trans s5
  replace s13 : u 13 = .int .i64 (K : Nat) := (hu 13).symm.trans s13
  replace s15 : u 15 = .pointer (some ⟨bs, 0, none⟩) := (hu 15).symm.trans s15
  replace s24 : u 24 = .slice (some ⟨cb, 0, none⟩) m m := (hu 24).symm.trans s24
  replace s25 : u 25 = .int .u64 d := (hu 25).symm.trans s25
  replace s26 : u 26 = .int .u64 t := (hu 26).symm.trans s26
  replace s27 : u 27 = .int .i64 (k : Nat) := (hu 27).symm.trans s27
  rw [s0, s1, s2, s3, s4, s5, s13, s15, s24, s25, s26, s27]
  clear hfr hu s0 s1 s2 s3 s4 s5 s13 s15 s24 s25 s26 s27
  conv => arg 2; whnf
  have H0 : Hid _ := h0
  have H1 : Hid _ := h1
  have HX : Hid _ := hexit
  have HD : Hid _ := hD
  have HH : Hid _ := hh
  clear h0 h1 hexit hD hh
  have hne' : cb ≠ b5 := fun e => hne e.symm
  by_cases hlt : k < K
  · have e := hx (by omega)
    subst e
    have hck := hc hlt
    clear hx hc
    by_cases hz : rd = 0
    · subst hz
      clear hrd ld lt
      go_wp2
      exact H0.out _ hlt (by trivial) ⟨rfl, rfl⟩ ⟨rfl, rfl, rfl, rfl, rfl, rfl, rfl, rfl, rfl, rfl, rfl, rfl, trivial⟩
    · obtain ⟨j, hj⟩ : ∃ j : Nat, rd = (j : Int) + 1 := ⟨(rd - 1).toNat, by omega⟩
      have hjm : j < m := by omega
      subst hj
      have cj : w.cell? ⟨cb, j, none⟩ = some (.int .u64 (h j)) := by rw [IsB.cell HD.out j, rowA_at _ _ _ hjm]
      have fj := IsB.frozen HD.out j
      have hhj := HH.out j hjm
      have w1 : IntKind.u64.wrap (h j + 1) = h j + 1 := by rw [IntKind.wrap_u64]; omega
      have w2 : IntKind.u64.wrap (d + 1) = d + 1 := by rw [IntKind.wrap_u64]; omega
      have w3 : IntKind.u64.wrap (t + ((j : Int) + 1)) = t + ((j : Int) + 1) := by rw [IntKind.wrap_u64]; omega
      have g : (((j : Int) + 1) == 0) = false := by simp only [beq_eq_false_iff_ne, ne_eq]; omega
      have HJ : Hid _ := hjm
      have ljm : (j : Int) < m := by omega
      clear hz hrd hhj ld lt HH
      go_wp2
      refine H1.out _ _ j hlt (by trivial) HJ.out ⟨rfl, rfl⟩ ⟨rfl, rfl, rfl, rfl, rfl, rfl, rfl, rfl, rfl, rfl, rfl, rfl, trivial⟩ ((Kept.refl _ _).set _ (.inl (by simp))) ?_
      have hb := IsB.set (IsB.of'' HD.out) j (.int .u64 (h j + 1))
      rw [rowA_set] at hb
      have ee : (fun i => if i = j then Value.int .u64 (h j + 1) else Value.int .u64 (h i)) = fun i => Value.int .u64 (if i = j then h i + 1 else h i) := by
        funext i; by_cases hi : i = j <;> simp [hi]
      rw [ee] at hb; exact hb
  · clear hx hc hrd ld lt
    go_wp2
    exact HX.out _ (by omega) ⟨rfl, rfl⟩ ⟨rfl, rfl, rfl, rfl, rfl, rfl, rfl, rfl, rfl, rfl, rfl, trivial⟩

set_option maxRecDepth 10000 in
set_option maxHeartbeats 1000000 in
theorem l3_22 (m K : Nat) (x1 x2 x3 x4 x5 : Option Addr) (bs : Nat) (cb : Nat) (d t : Int) (T : SumS) (a : Act) (w : World) (Q : Exit → Act → World → Prop) (hfr : Fr 285 a) (hs : Slots [(0, .int .u32 (m : Nat)), (1, .slice x1 K K), (2, .slice x2 K K), (3, .slice x3 K K), (4, .slice x4 K K), (5, .slice x5 K K), (13, .int .i64 (K : Nat)), (15, .pointer (some ⟨bs, 0, none⟩)), (24, .slice (some ⟨cb, 0, none⟩) m m), (25, .int .u64 d), (26, .int .u64 t)] a)
    (hB : IsB w bs T.arr 41) (lm : m ≤ 65536) (h : T.drn = m) (hQ : ∀ a', Fr 285 a' → Slots [(0, .int .u32 (m : Nat)), (1, .slice x1 K K), (2, .slice x2 K K), (3, .slice x3 K K), (4, .slice x4 K K), (5, .slice x5 K K), (13, .int .i64 (K : Nat)), (15, .pointer (some ⟨bs, 0, none⟩)), (24, .slice (some ⟨cb, 0, none⟩) m m), (25, .int .u64 d), (26, .int .u64 t)] a' → Q .normal a' w) :
    Code.wp Try.prog (nthC 22 (bodyC Try.f3)) Q a w := by
  obtain ⟨u, hu, rfl⟩ := lay285 hfr
  obtain ⟨s0, s1, s2, s3, s4, s5, s13, s15, s24, s25, s26, -⟩ := hs
  replace s0 : u 0 = .int .u32 (m : Nat) := (hu 0).symm.trans s0
  replace s1 : u 1 = .slice x1 K K := (hu 1).symm.trans s1
  replace s2 : u 2 = .slice x2 K K := (hu 2).symm.trans s2
  replace s3 : u 3 = .slice x3 K K := (hu 3).symm.trans s3
  replace s4 : u 4 = .slice x4 K K := (hu 4).symm.trans s4
  replace s5 : u 5 = .slice x5 K K := (hu 5).symm.trans s5
  replace s13 : u 13 = .int .i64 (K : Nat) := (hu 13).symm.trans s13
  replace s15 : u 15 = .pointer (some ⟨bs, 0, none⟩) := (hu 15).symm.trans s15
  replace s24 : u 24 = .slice (some ⟨cb, 0, none⟩) m m := (hu 24).symm.trans s24
  replace s25 : u 25 = .int .u64 d := (hu 25).symm.trans s25
  replace s26 : u 26 = .int .u64 t := (hu 26).symm.trans s26
  rw [s0, s1, s2, s3, s4, s5, s13, s15, s24, s25, s26]
  clear hfr hu s0 s1 s2 s3 s4 s5 s13 s15 s24 s25 s26
  conv => arg 2; whnf
  have b14 : w.cell? ⟨bs, 14, none⟩ = some (.slice (some ⟨T.drb, 0, none⟩) m m) := by rw [← h]; exact hB.cell 14
  have wm : IntKind.i64.wrap (m : Int) = m := by rw [IntKind.wrap_i64]; omega
  have H : Hid _ := hQ
  clear hQ hB h
  go_wp2
  exact H.out _ ⟨rfl, rfl⟩ ⟨rfl, rfl, rfl, rfl, rfl, rfl, rfl, rfl, rfl, rfl, rfl, trivial⟩

set_option maxRecDepth 10000 in
set_option maxHeartbeats 1000000 in
theorem l3_23i (m K : Nat) (x1 x2 x3 x4 x5 : Option Addr) (bs : Nat) (cb : Nat) (d t : Int) (a : Act) (w : World) (Q : Exit → Act → World → Prop) (hfr : Fr 285 a) (hs : Slots [(0, .int .u32 (m : Nat)), (1, .slice x1 K K), (2, .slice x2 K K), (3, .slice x3 K K), (4, .slice x4 K K), (5, .slice x5 K K), (13, .int .i64 (K : Nat)), (15, .pointer (some ⟨bs, 0, none⟩)), (24, .slice (some ⟨cb, 0, none⟩) m m), (25, .int .u64 d), (26, .int .u64 t)] a)
    (hQ : ∀ a', Fr 285 a' → Slots [(0, .int .u32 (m : Nat)), (1, .slice x1 K K), (2, .slice x2 K K), (3, .slice x3 K K), (4, .slice x4 K K), (5, .slice x5 K K), (13, .int .i64 (K : Nat)), (15, .pointer (some ⟨bs, 0, none⟩)), (24, .slice (some ⟨cb, 0, none⟩) m m), (25, .int .u64 d), (26, .int .u64 t), (28, .int .i64 (0 : Nat))] a' → Q .normal a' w) :
    Code.wp Try.prog (hdC (nthC 23 (bodyC Try.f3))) Q a w := by
  obtain ⟨u, hu, rfl⟩ := lay285 hfr
  obtain ⟨s0, s1, s2, s3, s4, s5, s13, s15, s24, s25, s26, -⟩ := hs
  replace s0 : u 0 = .int .u32 (m : Nat) := (hu 0).symm.trans s0
  replace s1 : u 1 = .slice x1 K K := (hu 1).symm.trans s1
  replace s2 : u 2 = .slice x2 K K := (hu 2).symm.trans s2
  replace s3 : u 3 = .slice x3 K K := (hu 3).symm.trans s3
  replace s4 : u 4 = .slice x4 K K := (hu 4).symm.trans s4
  replace s5 : u 5 = .slice x5 K K := (hu 5).symm.trans s5
  replace s13 : u 13 = .int .i64 (K : Nat) := (hu 13).symm.trans s13
  replace s15 : u 15 = .pointer (some ⟨bs, 0, none⟩) := (hu 15).symm.trans s15
  replace s24 : u 24 = .slice (some ⟨cb, 0, none⟩) m m := (hu 24).symm.trans s24
  replace s25 : u 25 = .int .u64 d := (hu 25).symm.trans s25
  replace s26 : u 26 = .int .u64 t := (hu 26).symm.trans s26
  rw [s0, s1, s2, s3, s4, s5, s13, s15, s24, s25, s26]
  clear hfr hu s0 s1 s2 s3 s4 s5 s13 s15 s24 s25 s26
  conv => arg 2; whnf
  have H : Hid _ := hQ
  clear hQ
  go_wp2
  exact H.out _ ⟨rfl, rfl⟩ ⟨rfl, rfl, rfl, rfl, rfl, rfl, rfl, rfl, rfl, rfl, rfl, rfl, trivial⟩

set_option maxRecDepth 10000 in
set_option maxHeartbeats 1000000 in
theorem l3_23h (m K : Nat) (x1 x2 x3 x4 x5 : Option Addr) (bs : Nat) (cb : Nat) (d t : Int) (k : Nat) (a : Act) (w : World) (Q : Exit → Act → World → Prop) (hfr : Fr 285 a) (hs : Slots [(0, .int .u32 (m : Nat)), (1, .slice x1 K K), (2, .slice x2 K K), (3, .slice x3 K K), (4, .slice x4 K K), (5, .slice x5 K K), (13, .int .i64 (K : Nat)), (15, .pointer (some ⟨bs, 0, none⟩)), (24, .slice (some ⟨cb, 0, none⟩) m m), (25, .int .u64 d), (26, .int .u64 t), (28, .int .i64 (k : Nat))] a)
    (hk : k ≤ m) (lm : m ≤ 65536) (hQ : ∀ a', k < m → Fr 285 a' → Slots [(0, .int .u32 (m : Nat)), (1, .slice x1 K K), (2, .slice x2 K K), (3, .slice x3 K K), (4, .slice x4 K K), (5, .slice x5 K K), (13, .int .i64 (K : Nat)), (15, .pointer (some ⟨bs, 0, none⟩)), (24, .slice (some ⟨cb, 0, none⟩) m m), (25, .int .u64 d), (26, .int .u64 t), (28, .int .i64 (k : Nat))] a' → Q .normal a' w) (hexit : ∀ a', k = m → Fr 285 a' → Slots [(0, .int .u32 (m : Nat)), (1, .slice x1 K K), (2, .slice x2 K K), (3, .slice x3 K K), (4, .slice x4 K K), (5, .slice x5 K K), (13, .int .i64 (K : Nat)), (15, .pointer (some ⟨bs, 0, none⟩)), (24, .slice (some ⟨cb, 0, none⟩) m m), (25, .int .u64 d), (26, .int .u64 t)] a' → Q (.exit 6) a' w) :
    Code.wp Try.prog (hdC (inC (inC (tlC (nthC 23 (bodyC Try.f3)))))) Q a w := by
  obtain ⟨u, hu, rfl⟩ := lay285 hfr
  obtain ⟨s0, s1, s2, s3, s4, s5, s13, s15, s24, s25, s26, s28, -⟩ := hs
  replace s0 : u 0 = .int .u32 (m : Nat) := (hu 0).symm.trans s0
  replace s1 : u 1 = .slice x1 K K := (hu 1).symm.trans s1
  replace s2 : u 2 = .slice x2 K K := (hu 2).symm.trans s2
  replace s3 : u 3 = .slice x3 K K := (hu 3).symm.trans s3
  replace s4 : u 4 = .slice x4 K K := (hu 4).symm.trans s4
  replace s5 : u 5 = .slice x5 K K := (hu 5).symm.trans s5
  replace s13 : u 13 = .int .i64 (K : Nat) := (hu 13).symm.trans s13
  replace s15 : u 15 = .pointer (some ⟨bs, 0, none⟩) := (hu 15).symm.trans s15
  replace s24 : u 24 = .slice (some ⟨cb, 0, none⟩) m m := (hu 24).symm.trans s24
  replace s25 : u 25 = .int .u64 d := (hu 25).symm.trans s25
  replace s26 : u 26 = .int .u64 t := (hu 26).symm.trans s26
  replace s28 : u 28 = .int .i64 (k : Nat) := (hu 28).symm.trans s28
  rw [s0, s1, s2, s3, s4, s5, s13, s15, s24, s25, s26, s28]
  clear hfr hu s0 s1 s2 s3 s4 s5 s13 s15 s24 s25 s26 s28
  conv => arg 2; whnf
  have wm : IntKind.i64.wrap (m : Int) = m := by rw [IntKind.wrap_i64]; omega
  have H : Hid _ := hQ
  have HX : Hid _ := hexit
  clear hQ hexit
  by_cases hlt : k < m
  · go_wp2
    exact H.out _ hlt ⟨rfl, rfl⟩ ⟨rfl, rfl, rfl, rfl, rfl, rfl, rfl, rfl, rfl, rfl, rfl, rfl, trivial⟩
  · go_wp2
    exact HX.out _ (by omega) ⟨rfl, rfl⟩ ⟨rfl, rfl, rfl, rfl, rfl, rfl, rfl, rfl, rfl, rfl, rfl, trivial⟩

set_option maxRecDepth 10000 in
set_option maxHeartbeats 1000000 in
theorem l3_23b (m K : Nat) (x1 x2 x3 x4 x5 : Option Addr) (bs : Nat) (cb : Nat) (d t : Int) (k : Nat) (T : SumS) (v : Int) (a : Act) (w : World) (Q : Exit → Act → World → Prop) (hfr : Fr 285 a) (hs : Slots [(0, .int .u32 (m : Nat)), (1, .slice x1 K K), (2, .slice x2 K K), (3, .slice x3 K K), (4, .slice x4 K K), (5, .slice x5 K K), (13, .int .i64 (K : Nat)), (15, .pointer (some ⟨bs, 0, none⟩)), (24, .slice (some ⟨cb, 0, none⟩) m m), (25, .int .u64 d), (26, .int .u64 t), (28, .int .i64 (k : Nat))] a)
    (hk : k < m) (hB : IsB w bs T.arr 41) (h : T.drn = m) (c1 : w.cell? ⟨T.drb, k, none⟩ = some (.int .u64 v)) (c2 : w.cell? ⟨cb, k, none⟩ = some (.int .u64 v)) (hQ : ∀ a' n, Fr 285 a' → Slots [(0, .int .u32 (m : Nat)), (1, .slice x1 K K), (2, .slice x2 K K), (3, .slice x3 K K), (4, .slice x4 K K), (5, .slice x5 K K), (13, .int .i64 (K : Nat)), (15, .pointer (some ⟨bs, 0, none⟩)), (24, .slice (some ⟨cb, 0, none⟩) m m), (25, .int .u64 d), (26, .int .u64 t), (28, .int .i64 (k : Nat))] a' → Q .normal a' (w.drewN n)) :
    Code.wp Try.prog (inC (hdC (tlC (inC (inC (tlC (nthC 23 (bodyC Try.f3)))))))) Q a w := by
  obtain ⟨u, hu, rfl⟩ := lay285 hfr
  obtain ⟨s0, s1, s2, s3, s4, s5, s13, s15, s24, s25, s26, s28, -⟩ := hs
  replace s0 : u 0 = .int .u32 (m : Nat) := (hu 0).symm.trans s0
  replace s1 : u 1 = .slice x1 K K := (hu 1).symm.trans s1
  replace s2 : u 2 = .slice x2 K K := (hu 2).symm.trans s2
  replace s3 : u 3 = .slice x3 K K := (hu 3).symm.trans s3
  replace s4 : u 4 = .slice x4 K K := (hu 4).symm.trans s4
  replace s5 : u 5 = .slice x5 K K := (hu 5).symm.trans s5
  replace s13 : u 13 = .int .i64 (K : Nat) := (hu 13).symm.trans s13
  replace s15 : u 15 = .pointer (some ⟨bs, 0, none⟩) := (hu 15).symm.trans s15
  replace s24 : u 24 = .slice (some ⟨cb, 0, none⟩) m m := (hu 24).symm.trans s24
  replace s25 : u 25 = .int .u64 d := (hu 25).symm.trans s25
  replace s26 : u 26 = .int .u64 t := (hu 26).symm.trans s26
  replace s28 : u 28 = .int .i64 (k : Nat) := (hu 28).symm.trans s28
  rw [s0, s1, s2, s3, s4, s5, s13, s15, s24, s25, s26, s28]
  clear hfr hu s0 s1 s2 s3 s4 s5 s13 s15 s24 s25 s26 s28
  conv => arg 2; whnf
  have b14 : w.cell? ⟨bs, 14, none⟩ = some (.slice (some ⟨T.drb, 0, none⟩) m m) := by rw [← h]; exact hB.cell 14
  have hk' : (k : Int) < m := by omega
  have H : Hid _ := hQ
  clear hQ hB h
  go_wp2
  go_quiet (fail)
  go_wp2
  exact H.out _ _ ⟨rfl, rfl⟩ ⟨rfl, rfl, rfl, rfl, rfl, rfl, rfl, rfl, rfl, rfl, rfl, rfl, trivial⟩

set_option maxRecDepth 10000 in
set_option maxHeartbeats 1000000 in
theorem l3_23n (m K : Nat) (x1 x2 x3 x4 x5 : Option Addr) (bs : Nat) (cb : Nat) (d t : Int) (k : Nat) (a : Act) (w : World) (Q : Exit → Act → World → Prop) (hfr : Fr 285 a) (hs : Slots [(0, .int .u32 (m : Nat)), (1, .slice x1 K K), (2, .slice x2 K K), (3, .slice x3 K K), (4, .slice x4 K K), (5, .slice x5 K K), (13, .int .i64 (K : Nat)), (15, .pointer (some ⟨bs, 0, none⟩)), (24, .slice (some ⟨cb, 0, none⟩) m m), (25, .int .u64 d), (26, .int .u64 t), (28, .int .i64 (k : Nat))] a)
    (hk : (k : Int) ≤ 65536) (hQ : ∀ a', Fr 285 a' → Slots [(0, .int .u32 (m : Nat)), (1, .slice x1 K K), (2, .slice x2 K K), (3, .slice x3 K K), (4, .slice x4 K K), (5, .slice x5 K K), (13, .int .i64 (K : Nat)), (15, .pointer (some ⟨bs, 0, none⟩)), (24, .slice (some ⟨cb, 0, none⟩) m m), (25, .int .u64 d), (26, .int .u64 t), (28, .int .i64 (k + 1 : Nat))] a' → Q .normal a' w) :
    Code.wp Try.prog (tlC (tlC (inC (inC (tlC (nthC 23 (bodyC Try.f3))))))) Q a w := by
  obtain ⟨u, hu, rfl⟩ := lay285 hfr
  obtain ⟨s0, s1, s2, s3, s4, s5, s13, s15, s24, s25, s26, s28, -⟩ := hs
  replace s0 : u 0 = .int .u32 (m : Nat) := (hu 0).symm.trans s0
  replace s1 : u 1 = .slice x1 K K := (hu 1).symm.trans s1
  replace s2 : u 2 = .slice x2 K K := (hu 2).symm.trans s2
  replace s3 : u 3 = .slice x3 K K := (hu 3).symm.trans s3
  replace s4 : u 4 = .slice x4 K K := (hu 4).symm.trans s4
  replace s5 : u 5 = .slice x5 K K := (hu 5).symm.trans s5
  replace s13 : u 13 = .int .i64 (K : Nat) := (hu 13).symm.trans s13
  replace s15 : u 15 = .pointer (some ⟨bs, 0, none⟩) := (hu 15).symm.trans s15
  replace s24 : u 24 = .slice (some ⟨cb, 0, none⟩) m m := (hu 24).symm.trans s24
  replace s25 : u 25 = .int .u64 d := (hu 25).symm.trans s25
  replace s26 : u 26 = .int .u64 t := (hu 26).symm.trans s26
  replace s28 : u 28 = .int .i64 (k : Nat) := (hu 28).symm.trans s28
  rw [s0, s1, s2, s3, s4, s5, s13, s15, s24, s25, s26, s28]
  clear hfr hu s0 s1 s2 s3 s4 s5 s13 s15 s24 s25 s26 s28
  conv => arg 2; whnf
  have H : Hid _ := hQ
  clear hQ
  go_wp2
  exact H.out _ ⟨rfl, rfl⟩ ⟨rfl, rfl, rfl, rfl, rfl, rfl, rfl, rfl, rfl, rfl, rfl, rfl, trivial⟩

set_option maxRecDepth 10000 in
set_option maxHeartbeats 1000000 in
theorem l3_24 (m K : Nat) (x1 x2 x3 x4 x5 : Option Addr) (bs : Nat) (cb : Nat) (d t : Int) (T : SumS) (a : Act) (w : World) (Q : Exit → Act → World → Prop) (hfr : Fr 285 a) (hs : Slots [(0, .int .u32 (m : Nat)), (1, .slice x1 K K), (2, .slice x2 K K), (3, .slice x3 K K), (4, .slice x4 K K), (5, .slice x5 K K), (13, .int .i64 (K : Nat)), (15, .pointer (some ⟨bs, 0, none⟩)), (24, .slice (some ⟨cb, 0, none⟩) m m), (25, .int .u64 d), (26, .int .u64 t)] a)
    (hB : IsB w bs T.arr 41) (hn : d = 0 → T.mean = none) (hret : ∀ a', Fr 285 a' → sl a' 12 = .bool true → Q .ret a' w) (hQ : ∀ a', d ≠ 0 → Fr 285 a' → Slots [(0, .int .u32 (m : Nat)), (1, .slice x1 K K), (2, .slice x2 K K), (3, .slice x3 K K), (4, .slice x4 K K), (5, .slice x5 K K), (13, .int .i64 (K : Nat)), (15, .pointer (some ⟨bs, 0, none⟩)), (24, .slice (some ⟨cb, 0, none⟩) m m), (25, .int .u64 d), (26, .int .u64 t)] a' → Q .normal a' w) :
    Code.wp Try.prog (nthC 24 (bodyC Try.f3)) Q a w := by
  obtain ⟨u, hu, rfl⟩ := lay285 hfr
  obtain ⟨s0, s1, s2, s3, s4, s5, s13, s15, s24, s25, s26, -⟩ := hs
  replace s0 : u 0 = .int .u32 (m : Nat) := (hu 0).symm.trans s0
  replace s1 : u 1 = .slice x1 K K := (hu 1).symm.trans s1
  replace s2 : u 2 = .slice x2 K K := (hu 2).symm.trans s2
  replace s3 : u 3 = .slice x3 K K := (hu 3).symm.trans s3
  replace s4 : u 4 = .slice x4 K K := (hu 4).symm.trans s4
  replace s5 : u 5 = .slice x5 K K := (hu 5).symm.trans s5
  replace s13 : u 13 = .int .i64 (K : Nat) := (hu 13).symm.trans s13
  replace s15 : u 15 = .pointer (some ⟨bs, 0, none⟩) := (hu 15).symm.trans s15
  replace s24 : u 24 = .slice (some ⟨cb, 0, none⟩) m m := (hu 24).symm.trans s24
  replace s25 : u 25 = .int .u64 d := (hu 25).symm.trans s25
  replace s26 : u 26 = .int .u64 t := (hu 26).symm.trans s26
  rw [s0, s1, s2, s3, s4, s5, s13, s15, s24, s25, s26]
  clear hfr hu s0 s1 s2 s3 s4 s5 s13 s15 s24 s25 s26
  conv => arg 2; whnf
  have b13 : w.cell? ⟨bs, 13, none⟩ = some (.pointer T.mean) := hB.cell 13
  have H : Hid _ := hQ
  have HR : Hid _ := hret
  clear hQ hret hB
  by_cases h : d = 0
  · rw [hn h] at b13
    subst h
    clear hn
    go_wp2
    exact HR.out _ ⟨rfl, rfl⟩ rfl
  · have g : (d == 0) = false := by simpa using h
    have HH : Hid _ := h
    clear hn h
    go_wp2
    exact H.out _ HH.out ⟨rfl, rfl⟩ ⟨rfl, rfl, rfl, rfl, rfl, rfl, rfl, rfl, rfl, rfl, rfl, trivial⟩

set_option maxRecDepth 10000 in
set_option maxHeartbeats 1000000 in
theorem l3_25 (m K : Nat) (x1 x2 x3 x4 x5 : Option Addr) (bs : Nat) (cb : Nat) (d t : Int) (T : SumS) (mb : Nat) (a : Act) (w : World) (Q : Exit → Act → World → Prop) (hfr : Fr 285 a) (hs : Slots [(0, .int .u32 (m : Nat)), (1, .slice x1 K K), (2, .slice x2 K K), (3, .slice x3 K K), (4, .slice x4 K K), (5, .slice x5 K K), (13, .int .i64 (K : Nat)), (15, .pointer (some ⟨bs, 0, none⟩)), (24, .slice (some ⟨cb, 0, none⟩) m m), (25, .int .u64 d), (26, .int .u64 t)] a)
    (hB : IsB w bs T.arr 41) (h : T.mean = some ⟨mb, 0, none⟩) (hQ : ∀ a', Fr 285 a' → Slots [(0, .int .u32 (m : Nat)), (1, .slice x1 K K), (2, .slice x2 K K), (3, .slice x3 K K), (4, .slice x4 K K), (5, .slice x5 K K), (13, .int .i64 (K : Nat)), (15, .pointer (some ⟨bs, 0, none⟩)), (24, .slice (some ⟨cb, 0, none⟩) m m), (25, .int .u64 d), (26, .int .u64 t)] a' → Q .normal a' w) :
    Code.wp Try.prog (nthC 25 (bodyC Try.f3)) Q a w := by
  obtain ⟨u, hu, rfl⟩ := lay285 hfr
  obtain ⟨s0, s1, s2, s3, s4, s5, s13, s15, s24, s25, s26, -⟩ := hs
  replace s0 : u 0 = .int .u32 (m : Nat) := (hu 0).symm.trans s0
  replace s1 : u 1 = .slice x1 K K := (hu 1).symm.trans s1
  replace s2 : u 2 = .slice x2 K K := (hu 2).symm.trans s2
  replace s3 : u 3 = .slice x3 K K := (hu 3).symm.trans s3
  replace s4 : u 4 = .slice x4 K K := (hu 4).symm.trans s4
  replace s5 : u 5 = .slice x5 K K := (hu 5).symm.trans s5
  replace s13 : u 13 = .int .i64 (K : Nat) := (hu 13).symm.trans s13
  replace s15 : u 15 = .pointer (some ⟨bs, 0, none⟩) := (hu 15).symm.trans s15
  replace s24 : u 24 = .slice (some ⟨cb, 0, none⟩) m m := (hu 24).symm.trans s24
  replace s25 : u 25 = .int .u64 d := (hu 25).symm.trans s25
  replace s26 : u 26 = .int .u64 t := (hu 26).symm.trans s26
  rw [s0, s1, s2, s3, s4, s5, s13, s15, s24, s25, s26]
  clear hfr hu s0 s1 s2 s3 s4 s5 s13 s15 s24 s25 s26
  conv => arg 2; whnf
  have b13 : w.cell? ⟨bs, 13, none⟩ = some (.pointer (some ⟨mb, 0, none⟩)) := by rw [← h]; exact hB.cell 13
  have H : Hid _ := hQ
  clear hQ hB h
  go_wp2
  exact H.out _ ⟨rfl, rfl⟩ ⟨rfl, rfl, rfl, rfl, rfl, rfl, rfl, rfl, rfl, rfl, rfl, trivial⟩

set_option maxRecDepth 10000 in
set_option maxHeartbeats 1000000 in
theorem l3_26 (m K : Nat) (x1 x2 x3 x4 x5 : Option Addr) (bs : Nat) (cb : Nat) (d t : Int) (T : SumS) (mb : Nat) (a : Act) (w : World) (Q : Exit → Act → World → Prop) (hfr : Fr 285 a) (hs : Slots [(0, .int .u32 (m : Nat)), (1, .slice x1 K K), (2, .slice x2 K K), (3, .slice x3 K K), (4, .slice x4 K K), (5, .slice x5 K K), (13, .int .i64 (K : Nat)), (15, .pointer (some ⟨bs, 0, none⟩)), (24, .slice (some ⟨cb, 0, none⟩) m m), (25, .int .u64 d), (26, .int .u64 t)] a)
    (hB : IsB w bs T.arr 41) (h : T.mean = some ⟨mb, 0, none⟩) (hM : IsB w mb #[.float .f64 (fdiv t d)] 54) (ht : 0 ≤ t ∧ t < 18446744073709551616) (hd : 0 < d ∧ d < 18446744073709551616) (hQ : ∀ a', Fr 285 a' → sl a' 12 = .bool true → Q .ret a' w) :
    Code.wp Try.prog (dropC 26 (bodyC Try.f3)) Q a w := by
  obtain ⟨u, hu, rfl⟩ := lay285 hfr
  obtain ⟨s0, s1, s2, s3, s4, s5, s13, s15, s24, s25, s26, -⟩ := hs
  replace s0 : u 0 = .int .u32 (m : Nat) := (hu 0).symm.trans s0
  replace s1 : u 1 = .slice x1 K K := (hu 1).symm.trans s1
  replace s2 : u 2 = .slice x2 K K := (hu 2).symm.trans s2
  replace s3 : u 3 = .slice x3 K K := (hu 3).symm.trans s3
  replace s4 : u 4 = .slice x4 K K := (hu 4).symm.trans s4
  replace s5 : u 5 = .slice x5 K K := (hu 5).symm.trans s5
  replace s13 : u 13 = .int .i64 (K : Nat) := (hu 13).symm.trans s13
  replace s15 : u 15 = .pointer (some ⟨bs, 0, none⟩) := (hu 15).symm.trans s15
  replace s24 : u 24 = .slice (some ⟨cb, 0, none⟩) m m := (hu 24).symm.trans s24
  replace s25 : u 25 = .int .u64 d := (hu 25).symm.trans s25
  replace s26 : u 26 = .int .u64 t := (hu 26).symm.trans s26
  rw [s0, s1, s2, s3, s4, s5, s13, s15, s24, s25, s26]
  clear hfr hu s0 s1 s2 s3 s4 s5 s13 s15 s24 s25 s26
  conv => arg 2; whnf
  have b13 : w.cell? ⟨bs, 13, none⟩ = some (.pointer (some ⟨mb, 0, none⟩)) := by rw [← h]; exact hB.cell 13
  have m0 : w.cell? ⟨mb, 0, none⟩ = some (.float .f64 (fdiv t d)) := hM.cell 0
  have hq := fun w => run_fdiv t d ht.1 ht.2 hd.1 hd.2 w
  have ho : (FloatKind.f64.format.order (fdiv t d) (fdiv t d) == some .eq) = true := by rw [show FloatKind.f64.format.order (fdiv t d) (fdiv t d) = some .eq from (fdiv_eq t d ht.1 ht.2 hd.1 hd.2).2]; rfl
  have H : Hid _ := hQ
  clear hQ hB h hM ht hd
  go_wp2
  exact H.out _ ⟨rfl, rfl⟩ rfl

end Go.Proofs.Qxb6602526a
