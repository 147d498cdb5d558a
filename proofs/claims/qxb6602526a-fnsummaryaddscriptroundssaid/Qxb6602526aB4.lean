import Derived.Test.Qxb6602526aB2
import Derived.Test.Qxb6602526aS11
import Derived.Test.Qxb6602526aCopy2
namespace Go.Proofs.Qxb6602526a
open Go.RowKit
set_option linter.unusedSimpArgs false
set_option linter.unusedVariables false

theorem IsB.of' {w : World} {b : Nat} {c : Array Value} {t : TypeId} (h : w.heap[b]? = some (.cells c t)) : IsB w b c t := h

set_option maxRecDepth 10000 in
set_option maxHeartbeats 1000000 in
theorem l3_14i (m K : Nat) (x1 x2 x3 x4 x5 : Option Addr) (bs : Nat) (a : Act) (w : World) (Q : Exit → Act → World → Prop) (hfr : Fr 285 a) (hs : Slots [(0, .int .u32 (m : Nat)), (1, .slice x1 K K), (2, .slice x2 K K), (3, .slice x3 K K), (4, .slice x4 K K), (5, .slice x5 K K), (13, .int .i64 (K : Nat)), (15, .pointer (some ⟨bs, 0, none⟩))] a)
    (hQ : ∀ a', Fr 285 a' → Slots [(0, .int .u32 (m : Nat)), (1, .slice x1 K K), (2, .slice x2 K K), (3, .slice x3 K K), (4, .slice x4 K K), (5, .slice x5 K K), (13, .int .i64 (K : Nat)), (15, .pointer (some ⟨bs, 0, none⟩)), (16, .int .i64 (0 : Nat))] a' → Q .normal a' w) :
    Code.wp Try.prog (hdC (nthC 14 (bodyC Try.f3))) Q a w := by
  obtain ⟨u, hu, rfl⟩ := lay285 hfr
  obtain ⟨s0, s1, s2, s3, s4, s5, s13, s15, -⟩ := hs
  replace s0 : u 0 = .int .u32 (m : Nat) := (hu 0).symm.trans s0
  replace s1 : u 1 = .slice x1 K K := (hu 1).symm.trans s1
  replace s2 : u 2 = .slice x2 K K := (hu 2).symm.trans s2
  replace s3 : u 3 = .slice x3 K K := (hu 3).symm.trans s3
  replace s4 : u 4 = .slice x4 K K := (hu 4).symm.trans s4
  replace s5 : u 5 = .slice x5 K K := (hu 5).symm.trans s5
  replace s13 : u 13 = .int .i64 (K : Nat) := (hu 13).symm.trans s13
  replace s15 : u 15 = .pointer (some ⟨bs, 0, none⟩) := (hu 15).symm.trans s15
  rw [s0, s1, s2, s3, s4, s5, s13, s15]
  clear hfr hu s0 s1 s2 s3 s4 s5 s13 s15
  conv => arg 2; whnf
  have H : Hid _ := hQ
  clear hQ
  go_wp2
  exact H.out _ ⟨rfl, rfl⟩ ⟨rfl, rfl, rfl, rfl, rfl, rfl, rfl, rfl, rfl, trivial⟩

set_option maxRecDepth 10000 in
set_option maxHeartbeats 1000000 in
theorem l3_14h (m K : Nat) (x1 x2 x3 x4 x5 : Option Addr) (bs : Nat) (k : Nat) (a : Act) (w : World) (Q : Exit → Act → World → Prop) (hfr : Fr 285 a) (hs : Slots [(0, .int .u32 (m : Nat)), (1, .slice x1 K K), (2, .slice x2 K K), (3, .slice x3 K K), (4, .slice x4 K K), (5, .slice x5 K K), (13, .int .i64 (K : Nat)), (15, .pointer (some ⟨bs, 0, none⟩)), (16, .int .i64 (k : Nat))] a)
    (hk : k ≤ K) (lK : (K : Int) ≤ 65536) (hQ : ∀ a', k < K → Fr 285 a' → Slots [(0, .int .u32 (m : Nat)), (1, .slice x1 K K), (2, .slice x2 K K), (3, .slice x3 K K), (4, .slice x4 K K), (5, .slice x5 K K), (13, .int .i64 (K : Nat)), (15, .pointer (some ⟨bs, 0, none⟩)), (16, .int .i64 (k : Nat))] a' → Q .normal a' w) (hexit : ∀ a', k = K → Fr 285 a' → Slots [(0, .int .u32 (m : Nat)), (1, .slice x1 K K), (2, .slice x2 K K), (3, .slice x3 K K), (4, .slice x4 K K), (5, .slice x5 K K), (13, .int .i64 (K : Nat)), (15, .pointer (some ⟨bs, 0, none⟩))] a' → Q (.exit 2) a' w) :
    Code.wp Try.prog (hdC (inC (inC (tlC (nthC 14 (bodyC Try.f3)))))) Q a w := by
  obtain ⟨u, hu, rfl⟩ := lay285 hfr
  obtain ⟨s0, s1, s2, s3, s4, s5, s13, s15, s16, -⟩ := hs
  replace s0 : u 0 = .int .u32 (m : Nat) := (hu 0).symm.trans s0
  replace s1 : u 1 = .slice x1 K K := (hu 1).symm.trans s1
  replace s2 : u 2 = .slice x2 K K := (hu 2).symm.trans s2
  replace s3 : u 3 = .slice x3 K K := (hu 3).symm.trans s3
  replace s4 : u 4 = .slice x4 K K := (hu 4).symm.trans s4
  replace s5 : u 5 = .slice x5 K K := (hu 5).symm.trans s5
  replace s13 : u 13 = .int .i64 (K : Nat) := (hu 13).symm.trans s13
  replace s15 : u 15 = .pointer (some ⟨bs, 0, none⟩) := (hu 15).symm.trans s15
  replace s16 : u 16 = .int .i64 (k : Nat) := (hu 16).symm.trans s16
  rw [s0, s1, s2, s3, s4, s5, s13, s15, s16]
  clear hfr hu s0 s1 s2 s3 s4 s5 s13 s15 s16
  conv => arg 2; whnf
  have H : Hid _ := hQ
  have HX : Hid _ := hexit
  clear hQ hexit
  by_cases hlt : k < K
  · go_wp2
    exact H.out _ hlt ⟨rfl, rfl⟩ ⟨rfl, rfl, rfl, rfl, rfl, rfl, rfl, rfl, rfl, trivial⟩
  · go_wp2
    exact HX.out _ (by omega) ⟨rfl, rfl⟩ ⟨rfl, rfl, rfl, rfl, rfl, rfl, rfl, rfl, trivial⟩

set_option maxRecDepth 10000 in
set_option maxHeartbeats 1000000 in
theorem l3_14n (m K : Nat) (x1 x2 x3 x4 x5 : Option Addr) (bs : Nat) (k : Nat) (a : Act) (w : World) (Q : Exit → Act → World → Prop) (hfr : Fr 285 a) (hs : Slots [(0, .int .u32 (m : Nat)), (1, .slice x1 K K), (2, .slice x2 K K), (3, .slice x3 K K), (4, .slice x4 K K), (5, .slice x5 K K), (13, .int .i64 (K : Nat)), (15, .pointer (some ⟨bs, 0, none⟩)), (16, .int .i64 (k : Nat))] a)
    (hk : (k : Int) ≤ 65536) (hQ : ∀ a', Fr 285 a' → Slots [(0, .int .u32 (m : Nat)), (1, .slice x1 K K), (2, .slice x2 K K), (3, .slice x3 K K), (4, .slice x4 K K), (5, .slice x5 K K), (13, .int .i64 (K : Nat)), (15, .pointer (some ⟨bs, 0, none⟩)), (16, .int .i64 (k + 1 : Nat))] a' → Q .normal a' w) :
    Code.wp Try.prog (tlC (tlC (inC (inC (tlC (nthC 14 (bodyC Try.f3))))))) Q a w := by
  obtain ⟨u, hu, rfl⟩ := lay285 hfr
  obtain ⟨s0, s1, s2, s3, s4, s5, s13, s15, s16, -⟩ := hs
  replace s0 : u 0 = .int .u32 (m : Nat) := (hu 0).symm.trans s0
  replace s1 : u 1 = .slice x1 K K := (hu 1).symm.trans s1
  replace s2 : u 2 = .slice x2 K K := (hu 2).symm.trans s2
  replace s3 : u 3 = .slice x3 K K := (hu 3).symm.trans s3
  replace s4 : u 4 = .slice x4 K K := (hu 4).symm.trans s4
  replace s5 : u 5 = .slice x5 K K := (hu 5).symm.trans s5
  replace s13 : u 13 = .int .i64 (K : Nat) := (hu 13).symm.trans s13
  replace s15 : u 15 = .pointer (some ⟨bs, 0, none⟩) := (hu 15).symm.trans s15
  replace s16 : u 16 = .int .i64 (k : Nat) := (hu 16).symm.trans s16
  rw [s0, s1, s2, s3, s4, s5, s13, s15, s16]
  clear hfr hu s0 s1 s2 s3 s4 s5 s13 s15 s16
  conv => arg 2; whnf
  have H : Hid _ := hQ
  clear hQ
  go_wp2
  exact H.out _ ⟨rfl, rfl⟩ ⟨rfl, rfl, rfl, rfl, rfl, rfl, rfl, rfl, rfl, trivial⟩

set_option maxRecDepth 10000 in
set_option maxHeartbeats 1000000 in
theorem l3_p0 (m K : Nat) (x1 x2 x3 x4 x5 : Option Addr) (bs k : Nat) (a : Act) (w : World) (Q : Exit → Act → World → Prop) (hfr : Fr 285 a) (hs : Slots [(0, .int .u32 (m : Nat)), (1, .slice x1 K K), (2, .slice x2 K K), (3, .slice x3 K K), (4, .slice x4 K K), (5, .slice x5 K K), (13, .int .i64 (K : Nat)), (15, .pointer (some ⟨bs, 0, none⟩)), (16, .int .i64 (k : Nat))] a)
    (hQ : ∀ a', Fr 285 a' → Slots [(0, .int .u32 (m : Nat)), (1, .slice x1 K K), (2, .slice x2 K K), (3, .slice x3 K K), (4, .slice x4 K K), (5, .slice x5 K K), (13, .int .i64 (K : Nat)), (15, .pointer (some ⟨bs, 0, none⟩)), (16, .int .i64 (k : Nat)), (17, .pointer (some ⟨w.heap.size, 0, none⟩))] a' → Q .normal a' (w.alloc (.cells #[.int .u8 0] 5))) :
    Code.wp Try.prog (nthC 0 (inC (hdC (tlC (inC (inC (tlC (nthC 14 (bodyC Try.f3))))))))) Q a w := by
  obtain ⟨u, hu, rfl⟩ := lay285 hfr
  obtain ⟨s0, s1, s2, s3, s4, s5, s13, s15, s16, -⟩ := hs
  replace s0 : u 0 = .int .u32 (m : Nat) := (hu 0).symm.trans s0
  replace s1 : u 1 = .slice x1 K K := (hu 1).symm.trans s1
  replace s2 : u 2 = .slice x2 K K := (hu 2).symm.trans s2
  replace s3 : u 3 = .slice x3 K K := (hu 3).symm.trans s3
  replace s4 : u 4 = .slice x4 K K := (hu 4).symm.trans s4
  replace s5 : u 5 = .slice x5 K K := (hu 5).symm.trans s5
  replace s13 : u 13 = .int .i64 (K : Nat) := (hu 13).symm.trans s13
  replace s15 : u 15 = .pointer (some ⟨bs, 0, none⟩) := (hu 15).symm.trans s15
  replace s16 : u 16 = .int .i64 (k : Nat) := (hu 16).symm.trans s16
  rw [s0, s1, s2, s3, s4, s5, s13, s15, s16]
  clear hfr hu s0 s1 s2 s3 s4 s5 s13 s15 s16
  conv => arg 2; whnf
  have H : Hid _ := hQ
  clear hQ
  go_wp2
  exact H.out _ ⟨rfl, rfl⟩ ⟨rfl, rfl, rfl, rfl, rfl, rfl, rfl, rfl, rfl, rfl, trivial⟩

set_option maxRecDepth 10000 in
set_option maxHeartbeats 1000000 in
theorem l3_p1 (m K : Nat) (x1 x2 x3 x4 x5 : Option Addr) (bs k : Nat) (b17 : Nat) (a : Act) (w : World) (Q : Exit → Act → World → Prop) (hfr : Fr 285 a) (hs : Slots [(0, .int .u32 (m : Nat)), (1, .slice x1 K K), (2, .slice x2 K K), (3, .slice x3 K K), (4, .slice x4 K K), (5, .slice x5 K K), (13, .int .i64 (K : Nat)), (15, .pointer (some ⟨bs, 0, none⟩)), (16, .int .i64 (k : Nat)), (17, .pointer (some ⟨b17, 0, none⟩))] a)
    (hQ : ∀ a', Fr 285 a' → Slots [(0, .int .u32 (m : Nat)), (1, .slice x1 K K), (2, .slice x2 K K), (3, .slice x3 K K), (4, .slice x4 K K), (5, .slice x5 K K), (13, .int .i64 (K : Nat)), (15, .pointer (some ⟨bs, 0, none⟩)), (16, .int .i64 (k : Nat)), (17, .pointer (some ⟨b17, 0, none⟩)), (18, .pointer (some ⟨w.heap.size, 0, none⟩))] a' → Q .normal a' (w.alloc (.cells #[.int .u8 1] 42))) :
    Code.wp Try.prog (nthC 1 (inC (hdC (tlC (inC (inC (tlC (nthC 14 (bodyC Try.f3))))))))) Q a w := by
  obtain ⟨u, hu, rfl⟩ := lay285 hfr
  obtain ⟨s0, s1, s2, s3, s4, s5, s13, s15, s16, s17, -⟩ := hs
  replace s0 : u 0 = .int .u32 (m : Nat) := (hu 0).symm.trans s0
  replace s1 : u 1 = .slice x1 K K := (hu 1).symm.trans s1
  replace s2 : u 2 = .slice x2 K K := (hu 2).symm.trans s2
  replace s3 : u 3 = .slice x3 K K := (hu 3).symm.trans s3
  replace s4 : u 4 = .slice x4 K K := (hu 4).symm.trans s4
  replace s5 : u 5 = .slice x5 K K := (hu 5).symm.trans s5
  replace s13 : u 13 = .int .i64 (K : Nat) := (hu 13).symm.trans s13
  replace s15 : u 15 = .pointer (some ⟨bs, 0, none⟩) := (hu 15).symm.trans s15
  replace s16 : u 16 = .int .i64 (k : Nat) := (hu 16).symm.trans s16
  replace s17 : u 17 = .pointer (some ⟨b17, 0, none⟩) := (hu 17).symm.trans s17
  rw [s0, s1, s2, s3, s4, s5, s13, s15, s16, s17]
  clear hfr hu s0 s1 s2 s3 s4 s5 s13 s15 s16 s17
  conv => arg 2; whnf
  have H : Hid _ := hQ
  clear hQ
  go_wp2
  exact H.out _ ⟨rfl, rfl⟩ ⟨rfl, rfl, rfl, rfl, rfl, rfl, rfl, rfl, rfl, rfl, rfl, trivial⟩

set_option maxRecDepth 10000 in
set_option maxHeartbeats 1000000 in
theorem l3_p2 (m K : Nat) (x1 x2 x3 x4 x5 : Option Addr) (bs k : Nat) (b17 b18 : Nat) (a : Act) (w : World) (Q : Exit → Act → World → Prop) (hfr : Fr 285 a) (hs : Slots [(0, .int .u32 (m : Nat)), (1, .slice x1 K K), (2, .slice x2 K K), (3, .slice x3 K K), (4, .slice x4 K K), (5, .slice x5 K K), (13, .int .i64 (K : Nat)), (15, .pointer (some ⟨bs, 0, none⟩)), (16, .int .i64 (k : Nat)), (17, .pointer (some ⟨b17, 0, none⟩)), (18, .pointer (some ⟨b18, 0, none⟩))] a)
    (hQ : ∀ a', Fr 285 a' → Slots [(0, .int .u32 (m : Nat)), (1, .slice x1 K K), (2, .slice x2 K K), (3, .slice x3 K K), (4, .slice x4 K K), (5, .slice x5 K K), (13, .int .i64 (K : Nat)), (15, .pointer (some ⟨bs, 0, none⟩)), (16, .int .i64 (k : Nat)), (19, .pointer (some ⟨w.heap.size, 0, none⟩))] a' → Q .normal a' (w.alloc (.cells #[.int .i64 0, .bool false, .pointer (some ⟨b17, 0, none⟩), .pointer (some ⟨b18, 0, none⟩), .pointer none] 47))) :
    Code.wp Try.prog (nthC 2 (inC (hdC (tlC (inC (inC (tlC (nthC 14 (bodyC Try.f3))))))))) Q a w := by
  obtain ⟨u, hu, rfl⟩ := lay285 hfr
  obtain ⟨s0, s1, s2, s3, s4, s5, s13, s15, s16, s17, s18, -⟩ := hs
  replace s0 : u 0 = .int .u32 (m : Nat) := (hu 0).symm.trans s0
  replace s1 : u 1 = .slice x1 K K := (hu 1).symm.trans s1
  replace s2 : u 2 = .slice x2 K K := (hu 2).symm.trans s2
  replace s3 : u 3 = .slice x3 K K := (hu 3).symm.trans s3
  replace s4 : u 4 = .slice x4 K K := (hu 4).symm.trans s4
  replace s5 : u 5 = .slice x5 K K := (hu 5).symm.trans s5
  replace s13 : u 13 = .int .i64 (K : Nat) := (hu 13).symm.trans s13
  replace s15 : u 15 = .pointer (some ⟨bs, 0, none⟩) := (hu 15).symm.trans s15
  replace s16 : u 16 = .int .i64 (k : Nat) := (hu 16).symm.trans s16
  replace s17 : u 17 = .pointer (some ⟨b17, 0, none⟩) := (hu 17).symm.trans s17
  replace s18 : u 18 = .pointer (some ⟨b18, 0, none⟩) := (hu 18).symm.trans s18
  rw [s0, s1, s2, s3, s4, s5, s13, s15, s16, s17, s18]
  clear hfr hu s0 s1 s2 s3 s4 s5 s13 s15 s16 s17 s18
  conv => arg 2; whnf
  have H : Hid _ := hQ
  clear hQ
  go_wp2
  exact H.out _ ⟨rfl, rfl⟩ ⟨rfl, rfl, rfl, rfl, rfl, rfl, rfl, rfl, rfl, rfl, trivial⟩

set_option maxRecDepth 10000 in
set_option maxHeartbeats 1000000 in
theorem l3_p3 (m K : Nat) (x1 x2 x3 x4 x5 : Option Addr) (bs k : Nat) (b17 b18 b19 b5 : Nat) (rd : Int) (a : Act) (w : World) (Q : Exit → Act → World → Prop) (hfr : Fr 285 a) (hs : Slots [(0, .int .u32 (m : Nat)), (1, .slice x1 K K), (2, .slice x2 K K), (3, .slice x3 K K), (4, .slice x4 K K), (5, .slice x5 K K), (13, .int .i64 (K : Nat)), (15, .pointer (some ⟨bs, 0, none⟩)), (16, .int .i64 (k : Nat)), (19, .pointer (some ⟨b19, 0, none⟩))] a)
    (hk : k < K) (hx : x5 = some ⟨b5, 0, none⟩) (hc : w.cell? ⟨b5, k, none⟩ = some (.int .u32 rd)) (hb5 : b5 < w.heap.size) (hN : IsB w b19 #[.int .i64 0, .bool false, .pointer (some ⟨b17, 0, none⟩), .pointer (some ⟨b18, 0, none⟩), .pointer none] 47)
    (h0 : ∀ a', rd = 0 → Fr 285 a' → Slots [(0, .int .u32 (m : Nat)), (1, .slice x1 K K), (2, .slice x2 K K), (3, .slice x3 K K), (4, .slice x4 K K), (5, .slice x5 K K), (13, .int .i64 (K : Nat)), (15, .pointer (some ⟨bs, 0, none⟩)), (16, .int .i64 (k : Nat)), (19, .pointer (some ⟨b19, 0, none⟩))] a' → Q .normal a' w)
    (h1 : ∀ a' w', rd ≠ 0 → Fr 285 a' → Slots [(0, .int .u32 (m : Nat)), (1, .slice x1 K K), (2, .slice x2 K K), (3, .slice x3 K K), (4, .slice x4 K K), (5, .slice x5 K K), (13, .int .i64 (K : Nat)), (15, .pointer (some ⟨bs, 0, none⟩)), (16, .int .i64 (k : Nat)), (19, .pointer (some ⟨b19, 0, none⟩))] a' → Kept [b19] w w' → IsB w' b19 #[.int .i64 0, .bool false, .pointer (some ⟨b17, 0, none⟩), .pointer (some ⟨b18, 0, none⟩), .pointer (some ⟨w.heap.size, 0, none⟩)] 47 → IsB w' w.heap.size #[.int .u32 rd] 22 → Q .normal a' w') :
    Code.wp Try.prog (nthC 3 (inC (hdC (tlC (inC (inC (tlC (nthC 14 (bodyC Try.f3))))))))) Q a w := by
  obtain ⟨u, hu, rfl⟩ := lay285 hfr
  obtain ⟨s0, s1, s2, s3, s4, s5, s13, s15, s16, s19, -⟩ := hs
  replace s0 : u 0 = .int .u32 (m : Nat) := (hu 0).symm.trans s0
  replace s1 : u 1 = .slice x1 K K := (hu 1).symm.trans s1
  replace s2 : u 2 = .slice x2 K K := (hu 2).symm.trans s2
  replace s3 : u 3 = .slice x3 K K := (hu 3).symm.trans s3
  replace s4 : u 4 = .slice x4 K K := (hu 4).symm.trans s4
  replace s5 : u 5 = .slice x5 K K := (hu 5).symm.trans s5
  replace s13 : u 13 = .int .i64 (K : Nat) := (hu 13).symm.trans s13
  replace s15 : u 15 = .pointer (some ⟨bs, 0, none⟩) := (hu 15).symm.trans s15
  replace s16 : u 16 = .int .i64 (k : Nat) := (hu 16).symm.trans s16
  replace s19 : u 19 = .pointer (some ⟨b19, 0, none⟩) := (hu 19).symm.trans s19
  rw [s0, s1, s2, s3, s4, s5, s13, s15, s16, s19]
  clear hfr hu s0 s1 s2 s3 s4 s5 s13 s15 s16 s19
  conv => arg 2; whnf
  subst hx
  have c4 : w.cell? ⟨b19, 4, none⟩ = some (.pointer none) := hN.cell 4
  have f4 := hN.frozen 4
  have hb := hN.lt
  have HN : Hid _ := hN
  have H0 : Hid _ := h0
  have H1 : Hid _ := h1
  clear h0 h1 hN
  by_cases h : rd = 0
  · subst h
    go_wp2
    exact H0.out _ (by trivial) ⟨rfl, rfl⟩ ⟨rfl, rfl, rfl, rfl, rfl, rfl, rfl, rfl, rfl, rfl, trivial⟩
  · have g : (rd == 0) = false := by simpa using h
    have HH : Hid _ := h
    clear h
    go_wp2
    refine H1.out _ _ HH.out ⟨rfl, rfl⟩ ⟨rfl, rfl, rfl, rfl, rfl, rfl, rfl, rfl, rfl, rfl, trivial⟩ ?_ ?_ ?_
    · exact ((Kept.refl _ _).set _ (.inl (by simp))).alloc _
    · exact (IsB.set (IsB.of' HN.out) 4 _).alloc _
    · have := IsB.new (w.setCell ⟨b19, 4, none⟩ (.pointer (some ⟨w.heap.size, 0, none⟩))) #[.int .u32 rd] 22
      simpa using this

set_option maxRecDepth 10000 in
set_option maxHeartbeats 1000000 in
theorem l3_p4 (m K : Nat) (x1 x2 x3 x4 x5 : Option Addr) (bs k : Nat) (b17 b18 b19 : Nat) (rp : Option Addr) (a : Act) (w : World) (Q : Exit → Act → World → Prop) (hfr : Fr 285 a) (hs : Slots [(0, .int .u32 (m : Nat)), (1, .slice x1 K K), (2, .slice x2 K K), (3, .slice x3 K K), (4, .slice x4 K K), (5, .slice x5 K K), (13, .int .i64 (K : Nat)), (15, .pointer (some ⟨bs, 0, none⟩)), (16, .int .i64 (k : Nat)), (19, .pointer (some ⟨b19, 0, none⟩))] a)
    (hk : (k : Int) ≤ 65536) (hN : IsB w b19 #[.int .i64 0, .bool false, .pointer (some ⟨b17, 0, none⟩), .pointer (some ⟨b18, 0, none⟩), .pointer rp] 47)
    (hQ : ∀ a' w', Fr 285 a' → Slots [(0, .int .u32 (m : Nat)), (1, .slice x1 K K), (2, .slice x2 K K), (3, .slice x3 K K), (4, .slice x4 K K), (5, .slice x5 K K), (13, .int .i64 (K : Nat)), (15, .pointer (some ⟨bs, 0, none⟩)), (16, .int .i64 (k : Nat)), (21, .pointer (some ⟨w.heap.size + 1, 0, none⟩))] a' → Kept [] w w' → w'.heap.size = w.heap.size + 2 → IsB w' w.heap.size #[.int .i64 0, .bool false, .pointer (some ⟨b17, 0, none⟩), .pointer (some ⟨b18, 0, none⟩), .pointer rp] 47 → IsB w' (w.heap.size + 1) (instA k w.heap.size 1 none none) 50 → Q .normal a' w') :
    Code.wp Try.prog (nthC 4 (inC (hdC (tlC (inC (inC (tlC (nthC 14 (bodyC Try.f3))))))))) Q a w := by
  obtain ⟨u, hu, rfl⟩ := lay285 hfr
  obtain ⟨s0, s1, s2, s3, s4, s5, s13, s15, s16, s19, -⟩ := hs
  replace s0 : u 0 = .int .u32 (m : Nat) := (hu 0).symm.trans s0
  replace s1 : u 1 = .slice x1 K K := (hu 1).symm.trans s1
  replace s2 : u 2 = .slice x2 K K := (hu 2).symm.trans s2
  replace s3 : u 3 = .slice x3 K K := (hu 3).symm.trans s3
  replace s4 : u 4 = .slice x4 K K := (hu 4).symm.trans s4
  replace s5 : u 5 = .slice x5 K K := (hu 5).symm.trans s5
  replace s13 : u 13 = .int .i64 (K : Nat) := (hu 13).symm.trans s13
  replace s15 : u 15 = .pointer (some ⟨bs, 0, none⟩) := (hu 15).symm.trans s15
  replace s16 : u 16 = .int .i64 (k : Nat) := (hu 16).symm.trans s16
  replace s19 : u 19 = .pointer (some ⟨b19, 0, none⟩) := (hu 19).symm.trans s19
  rw [s0, s1, s2, s3, s4, s5, s13, s15, s16, s19]
  clear hfr hu s0 s1 s2 s3 s4 s5 s13 s15 s16 s19
  conv => arg 2; whnf
  have c0 : w.cell? ⟨b19, 0, none⟩ = some (.int .i64 0) := hN.cell 0
  have c1 : w.cell? ⟨b19, 1, none⟩ = some (.bool false) := hN.cell 1
  have c2 : w.cell? ⟨b19, 2, none⟩ = some (.pointer (some ⟨b17, 0, none⟩)) := hN.cell 2
  have c3 : w.cell? ⟨b19, 3, none⟩ = some (.pointer (some ⟨b18, 0, none⟩)) := hN.cell 3
  have c4 : w.cell? ⟨b19, 4, none⟩ = some (.pointer rp) := hN.cell 4
  have H : Hid _ := hQ
  clear hQ hN
  go_wp2
  refine H.out _ _ ⟨rfl, rfl⟩ ⟨rfl, rfl, rfl, rfl, rfl, rfl, rfl, rfl, rfl, rfl, trivial⟩ (((Kept.refl _ _).alloc _).alloc _) (by simp) ((IsB.new _ _ _).alloc _) ?_
  have h5 := IsB.new (w.alloc (.cells #[.int .i64 0, .bool false, .pointer (some ⟨b17, 0, none⟩), .pointer (some ⟨b18, 0, none⟩), .pointer rp] 47)) (instA k w.heap.size 1 none none) 50
  have e5 : (w.alloc (.cells #[.int .i64 0, .bool false, .pointer (some ⟨b17, 0, none⟩), .pointer (some ⟨b18, 0, none⟩), .pointer rp] 47)).heap.size = w.heap.size + 1 := by simp
  rw [e5] at h5
  exact h5

set_option maxRecDepth 10000 in
set_option maxHeartbeats 1000000 in
theorem l3_p5 (m K : Nat) (x1 x2 x3 x4 x5 : Option Addr) (bs k : Nat) (b21 nb vb mb : Nat) (rr sr : Option Addr) (miss : Bool) (v : Int) (a : Act) (w : World) (Q : Exit → Act → World → Prop) (hfr : Fr 285 a) (hs : Slots [(0, .int .u32 (m : Nat)), (1, .slice x1 K K), (2, .slice x2 K K), (3, .slice x3 K K), (4, .slice x4 K K), (5, .slice x5 K K), (13, .int .i64 (K : Nat)), (15, .pointer (some ⟨bs, 0, none⟩)), (16, .int .i64 (k : Nat)), (21, .pointer (some ⟨b21, 0, none⟩))] a)
    (hk : k < K) (hx : x2 = some ⟨mb, 0, none⟩) (hv : x1 = some ⟨vb, 0, none⟩) (hm : w.cell? ⟨mb, k, none⟩ = some (.bool miss)) (hc : w.cell? ⟨vb, k, none⟩ = some (.int .u64 v)) (hmb : mb < w.heap.size) (hvb : vb < w.heap.size) (hI : IsB w b21 (instA k nb 1 rr sr) 50)
    (h0 : ∀ a', miss = true → Fr 285 a' → Slots [(0, .int .u32 (m : Nat)), (1, .slice x1 K K), (2, .slice x2 K K), (3, .slice x3 K K), (4, .slice x4 K K), (5, .slice x5 K K), (13, .int .i64 (K : Nat)), (15, .pointer (some ⟨bs, 0, none⟩)), (16, .int .i64 (k : Nat)), (21, .pointer (some ⟨b21, 0, none⟩))] a' → Q .normal a' w)
    (h1 : ∀ a' w', miss = false → Fr 285 a' → Slots [(0, .int .u32 (m : Nat)), (1, .slice x1 K K), (2, .slice x2 K K), (3, .slice x3 K K), (4, .slice x4 K K), (5, .slice x5 K K), (13, .int .i64 (K : Nat)), (15, .pointer (some ⟨bs, 0, none⟩)), (16, .int .i64 (k : Nat)), (21, .pointer (some ⟨b21, 0, none⟩))] a' → Kept [b21] w w' → IsB w' b21 (instA k nb 1 (some ⟨w.heap.size, 0, none⟩) sr) 50 → IsB w' w.heap.size #[.int .u64 v] 31 → Q .normal a' w') :
    Code.wp Try.prog (nthC 5 (inC (hdC (tlC (inC (inC (tlC (nthC 14 (bodyC Try.f3))))))))) Q a w := by
  obtain ⟨u, hu, rfl⟩ := lay285 hfr
  obtain ⟨s0, s1, s2, s3, s4, s5, s13, s15, s16, s21, -⟩ := hs
  replace s0 : u 0 = .int .u32 (m : Nat) := (hu 0).symm.trans s0
  replace s1 : u 1 = .slice x1 K K := (hu 1).symm.trans s1
  replace s2 : u 2 = .slice x2 K K := (hu 2).symm.trans s2
  replace s3 : u 3 = .slice x3 K K := (hu 3).symm.trans s3
  replace s4 : u 4 = .slice x4 K K := (hu 4).symm.trans s4
  replace s5 : u 5 = .slice x5 K K := (hu 5).symm.trans s5
  replace s13 : u 13 = .int .i64 (K : Nat) := (hu 13).symm.trans s13
  replace s15 : u 15 = .pointer (some ⟨bs, 0, none⟩) := (hu 15).symm.trans s15
  replace s16 : u 16 = .int .i64 (k : Nat) := (hu 16).symm.trans s16
  replace s21 : u 21 = .pointer (some ⟨b21, 0, none⟩) := (hu 21).symm.trans s21
  rw [s0, s1, s2, s3, s4, s5, s13, s15, s16, s21]
  clear hfr hu s0 s1 s2 s3 s4 s5 s13 s15 s16 s21
  conv => arg 2; whnf
  subst hx
  subst hv
  have ci : w.cell? ⟨b21, 2, none⟩ = some (.pointer rr) := hI.cell 2
  have fi := hI.frozen 2
  have hb := hI.lt
  have HI : Hid _ := hI
  have H0 : Hid _ := h0
  have H1 : Hid _ := h1
  clear h0 h1 hI
  cases miss
  · go_wp2
    refine H1.out _ _ (by trivial) ⟨rfl, rfl⟩ ⟨rfl, rfl, rfl, rfl, rfl, rfl, rfl, rfl, rfl, rfl, trivial⟩ ?_ ?_ ?_
    · exact ((Kept.refl _ _).set _ (.inl (by simp))).alloc _
    · exact (IsB.set (IsB.of' HI.out) 2 _).alloc _
    · have := IsB.new (w.setCell ⟨b21, 2, none⟩ (.pointer (some ⟨w.heap.size, 0, none⟩))) #[.int .u64 v] 31
      simpa using this
  · go_wp2
    exact H0.out _ (by trivial) ⟨rfl, rfl⟩ ⟨rfl, rfl, rfl, rfl, rfl, rfl, rfl, rfl, rfl, rfl, trivial⟩

set_option maxRecDepth 10000 in
set_option maxHeartbeats 1000000 in
theorem l3_p6 (m K : Nat) (x1 x2 x3 x4 x5 : Option Addr) (bs k : Nat) (b21 nb vb mb : Nat) (rr sr : Option Addr) (miss : Bool) (v : Int) (a : Act) (w : World) (Q : Exit → Act → World → Prop) (hfr : Fr 285 a) (hs : Slots [(0, .int .u32 (m : Nat)), (1, .slice x1 K K), (2, .slice x2 K K), (3, .slice x3 K K), (4, .slice x4 K K), (5, .slice x5 K K), (13, .int .i64 (K : Nat)), (15, .pointer (some ⟨bs, 0, none⟩)), (16, .int .i64 (k : Nat)), (21, .pointer (some ⟨b21, 0, none⟩))] a)
    (hk : k < K) (hx : x4 = some ⟨mb, 0, none⟩) (hv : x3 = some ⟨vb, 0, none⟩) (hm : w.cell? ⟨mb, k, none⟩ = some (.bool miss)) (hc : w.cell? ⟨vb, k, none⟩ = some (.int .u64 v)) (hmb : mb < w.heap.size) (hvb : vb < w.heap.size) (hI : IsB w b21 (instA k nb 1 rr sr) 50)
    (h0 : ∀ a', miss = true → Fr 285 a' → Slots [(0, .int .u32 (m : Nat)), (1, .slice x1 K K), (2, .slice x2 K K), (3, .slice x3 K K), (4, .slice x4 K K), (5, .slice x5 K K), (13, .int .i64 (K : Nat)), (15, .pointer (some ⟨bs, 0, none⟩)), (16, .int .i64 (k : Nat)), (21, .pointer (some ⟨b21, 0, none⟩))] a' → Q .normal a' w)
    (h1 : ∀ a' w', miss = false → Fr 285 a' → Slots [(0, .int .u32 (m : Nat)), (1, .slice x1 K K), (2, .slice x2 K K), (3, .slice x3 K K), (4, .slice x4 K K), (5, .slice x5 K K), (13, .int .i64 (K : Nat)), (15, .pointer (some ⟨bs, 0, none⟩)), (16, .int .i64 (k : Nat)), (21, .pointer (some ⟨b21, 0, none⟩))] a' → Kept [b21] w w' → IsB w' b21 (instA k nb 1 rr (some ⟨w.heap.size, 0, none⟩)) 50 → IsB w' w.heap.size #[.int .u64 v] 31 → Q .normal a' w') :
    Code.wp Try.prog (nthC 6 (inC (hdC (tlC (inC (inC (tlC (nthC 14 (bodyC Try.f3))))))))) Q a w := by
  obtain ⟨u, hu, rfl⟩ := lay285 hfr
  obtain ⟨s0, s1, s2, s3, s4, s5, s13, s15, s16, s21, -⟩ := hs
  replace s0 : u 0 = .int .u32 (m : Nat) := (hu 0).symm.trans s0
  replace s1 : u 1 = .slice x1 K K := (hu 1).symm.trans s1
  replace s2 : u 2 = .slice x2 K K := (hu 2).symm.trans s2
  replace s3 : u 3 = .slice x3 K K := (hu 3).symm.trans s3
  replace s4 : u 4 = .slice x4 K K := (hu 4).symm.trans s4
  replace s5 : u 5 = .slice x5 K K := (hu 5).symm.trans s5
  replace s13 : u 13 = .int .i64 (K : Nat) := (hu 13).symm.trans s13
  replace s15 : u 15 = .pointer (some ⟨bs, 0, none⟩) := (hu 15).symm.trans s15
  replace s16 : u 16 = .int .i64 (k : Nat) := (hu 16).symm.trans s16
  replace s21 : u 21 = .pointer (some ⟨b21, 0, none⟩) := (hu 21).symm.trans s21
  rw [s0, s1, s2, s3, s4, s5, s13, s15, s16, s21]
  clear hfr hu s0 s1 s2 s3 s4 s5 s13 s15 s16 s21
  conv => arg 2; whnf
  subst hx
  subst hv
  have ci : w.cell? ⟨b21, 3, none⟩ = some (.pointer sr) := hI.cell 3
  have fi := hI.frozen 3
  have hb := hI.lt
  have HI : Hid _ := hI
  have H0 : Hid _ := h0
  have H1 : Hid _ := h1
  clear h0 h1 hI
  cases miss
  · go_wp2
    refine H1.out _ _ (by trivial) ⟨rfl, rfl⟩ ⟨rfl, rfl, rfl, rfl, rfl, rfl, rfl, rfl, rfl, rfl, trivial⟩ ?_ ?_ ?_
    · exact ((Kept.refl _ _).set _ (.inl (by simp))).alloc _
    · exact (IsB.set (IsB.of' HI.out) 3 _).alloc _
    · have := IsB.new (w.setCell ⟨b21, 3, none⟩ (.pointer (some ⟨w.heap.size, 0, none⟩))) #[.int .u64 v] 31
      simpa using this
  · go_wp2
    exact H0.out _ (by trivial) ⟨rfl, rfl⟩ ⟨rfl, rfl, rfl, rfl, rfl, rfl, rfl, rfl, rfl, rfl, trivial⟩

set_option maxRecDepth 10000 in
set_option maxHeartbeats 1000000 in
theorem l3_p7 (m K : Nat) (x1 x2 x3 x4 x5 : Option Addr) (bs k : Nat) (b21 nb : Nat) (rr sr : Option Addr) (G : World → Prop) (a : Act) (w : World) (Q : Exit → Act → World → Prop) (hfr : Fr 285 a) (hs : Slots [(0, .int .u32 (m : Nat)), (1, .slice x1 K K), (2, .slice x2 K K), (3, .slice x3 K K), (4, .slice x4 K K), (5, .slice x5 K K), (13, .int .i64 (K : Nat)), (15, .pointer (some ⟨bs, 0, none⟩)), (16, .int .i64 (k : Nat)), (21, .pointer (some ⟨b21, 0, none⟩))] a)
    (hI : IsB w b21 (instA k nb 1 rr sr) 50) (hcall : Calls Try.prog 13 #[.pointer (some ⟨bs, 0, none⟩), .agg (instA k nb 1 rr sr)] w fun e w' => e = .returned (.tuple #[]) ∧ G w')
    (hQ : ∀ a' w', G w' → Fr 285 a' → Slots [(0, .int .u32 (m : Nat)), (1, .slice x1 K K), (2, .slice x2 K K), (3, .slice x3 K K), (4, .slice x4 K K), (5, .slice x5 K K), (13, .int .i64 (K : Nat)), (15, .pointer (some ⟨bs, 0, none⟩)), (16, .int .i64 (k : Nat))] a' → Q .normal a' w') :
    Code.wp Try.prog (dropC 7 (inC (hdC (tlC (inC (inC (tlC (nthC 14 (bodyC Try.f3))))))))) Q a w := by
  obtain ⟨u, hu, rfl⟩ := lay285 hfr
  obtain ⟨s0, s1, s2, s3, s4, s5, s13, s15, s16, s21, -⟩ := hs
  replace s0 : u 0 = .int .u32 (m : Nat) := (hu 0).symm.trans s0
  replace s1 : u 1 = .slice x1 K K := (hu 1).symm.trans s1
  replace s2 : u 2 = .slice x2 K K := (hu 2).symm.trans s2
  replace s3 : u 3 = .slice x3 K K := (hu 3).symm.trans s3
  replace s4 : u 4 = .slice x4 K K := (hu 4).symm.trans s4
  replace s5 : u 5 = .slice x5 K K := (hu 5).symm.trans s5
  replace s13 : u 13 = .int .i64 (K : Nat) := (hu 13).symm.trans s13
  replace s15 : u 15 = .pointer (some ⟨bs, 0, none⟩) := (hu 15).symm.trans s15
  replace s16 : u 16 = .int .i64 (k : Nat) := (hu 16).symm.trans s16
  replace s21 : u 21 = .pointer (some ⟨b21, 0, none⟩) := (hu 21).symm.trans s21
  rw [s0, s1, s2, s3, s4, s5, s13, s15, s16, s21]
  clear hfr hu s0 s1 s2 s3 s4 s5 s13 s15 s16 s21
  conv => arg 2; whnf
  have i0 : w.cell? ⟨b21, 0, none⟩ = some (.int .u64 k) := hI.cell 0
  have i1 : w.cell? ⟨b21, 1, none⟩ = some (.slice (some ⟨nb, 0, none⟩) 1 1) := hI.cell 1
  have i2 : w.cell? ⟨b21, 2, none⟩ = some (.pointer rr) := hI.cell 2
  have i3 : w.cell? ⟨b21, 3, none⟩ = some (.pointer sr) := hI.cell 3
  have H : Hid _ := hQ
  have HC : Hid _ := hcall
  clear hQ hcall hI
  go_wp2_with (go_at_call 13; refine Calls.mono HC.out ?_; rintro e w' ⟨rfl, hG⟩)
  exact H.out _ _ hG ⟨rfl, rfl⟩ ⟨rfl, rfl, rfl, rfl, rfl, rfl, rfl, rfl, rfl, trivial⟩

end Go.Proofs.Qxb6602526a
