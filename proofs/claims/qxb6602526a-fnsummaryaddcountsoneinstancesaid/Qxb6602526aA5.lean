import Derived.Test.Qxb6602526aA3
import Derived.Test.Qxb6602526aCopy2
import Derived.Deep.RegionHeld3
import Derived.Deep.RegionWith
namespace Go.Proofs.Qxb6602526a
open Go.RowKit
set_option linter.unusedSimpArgs false
set_option linter.unusedVariables false

set_option maxRecDepth 10000 in
set_option maxHeartbeats 1000000 in
theorem l8_15i (na ra : Option Addr) (nn rn pb bs : Nat) (ad : Bool) (l z o e p : Int) (q0 q1 : Bool) (a : Act) (w : World) (Q : Exit → Act → World → Prop) (hfr : Fr 375 a) (hs : Slots [(1, .slice na nn nn), (2, .slice ra rn rn), (3, .pointer (some ⟨pb, 0, none⟩)), (8, .bool ad), (9, .int .u32 l), (12, .int .u64 z), (13, .int .u64 o), (14, .int .u64 e), (15, .int .u64 p), (16, .bool q0), (17, .bool q1), (20, .pointer (some ⟨bs, 0, none⟩))] a)
    (hQ : ∀ a', Fr 375 a' → Slots [(1, .slice na nn nn), (2, .slice ra rn rn), (3, .pointer (some ⟨pb, 0, none⟩)), (8, .bool ad), (9, .int .u32 l), (12, .int .u64 z), (13, .int .u64 o), (14, .int .u64 e), (15, .int .u64 p), (16, .bool q0), (17, .bool q1), (20, .pointer (some ⟨bs, 0, none⟩)), (21, .int .i64 (0 : Nat))] a' → Q .normal a' w) :
    Code.wp Try.prog (hdC (nthC 15 (bodyC Try.f8))) Q a w := by
  obtain ⟨u, hu, rfl⟩ := lay375 hfr
  obtain ⟨s1, s2, s3, s8, s9, s12, s13, s14, s15, s16, s17, s20, -⟩ := hs
  replace s1 : u 1 = .slice na nn nn := (hu 1).symm.trans s1
  replace s2 : u 2 = .slice ra rn rn := (hu 2).symm.trans s2
  replace s3 : u 3 = .pointer (some ⟨pb, 0, none⟩) := (hu 3).symm.trans s3
  replace s8 : u 8 = .bool ad := (hu 8).symm.trans s8
  replace s9 : u 9 = .int .u32 l := (hu 9).symm.trans s9
  replace s12 : u 12 = .int .u64 z := (hu 12).symm.trans s12
  replace s13 : u 13 = .int .u64 o := (hu 13).symm.trans s13
  replace s14 : u 14 = .int .u64 e := (hu 14).symm.trans s14
  replace s15 : u 15 = .int .u64 p := (hu 15).symm.trans s15
  replace s16 : u 16 = .bool q0 := (hu 16).symm.trans s16
  replace s17 : u 17 = .bool q1 := (hu 17).symm.trans s17
  replace s20 : u 20 = .pointer (some ⟨bs, 0, none⟩) := (hu 20).symm.trans s20
  rw [s1, s2, s3, s8, s9, s12, s13, s14, s15, s16, s17, s20]
  clear hfr hu s1 s2 s3 s8 s9 s12 s13 s14 s15 s16 s17 s20
  conv => arg 2; whnf
  have H : Hid _ := hQ
  clear hQ
  go_wp2
  exact H.out _ ⟨rfl, rfl⟩ ⟨rfl, rfl, rfl, rfl, rfl, rfl, rfl, rfl, rfl, rfl, rfl, rfl, rfl, trivial⟩

set_option maxRecDepth 10000 in
set_option maxHeartbeats 1000000 in
theorem l8_15h (na ra : Option Addr) (nn rn pb bs : Nat) (ad : Bool) (l z o e p : Int) (q0 q1 : Bool) (k : Nat) (a : Act) (w : World) (Q : Exit → Act → World → Prop) (hfr : Fr 375 a) (hs : Slots [(1, .slice na nn nn), (2, .slice ra rn rn), (3, .pointer (some ⟨pb, 0, none⟩)), (8, .bool ad), (9, .int .u32 l), (12, .int .u64 z), (13, .int .u64 o), (14, .int .u64 e), (15, .int .u64 p), (16, .bool q0), (17, .bool q1), (20, .pointer (some ⟨bs, 0, none⟩)), (21, .int .i64 (k : Nat))] a)
    (hk : k ≤ rn) (l2 : (rn : Int) ≤ 65536) (hQ : ∀ a', k < rn → Fr 375 a' → Slots [(1, .slice na nn nn), (2, .slice ra rn rn), (3, .pointer (some ⟨pb, 0, none⟩)), (8, .bool ad), (9, .int .u32 l), (12, .int .u64 z), (13, .int .u64 o), (14, .int .u64 e), (15, .int .u64 p), (16, .bool q0), (17, .bool q1), (20, .pointer (some ⟨bs, 0, none⟩)), (21, .int .i64 (k : Nat))] a' → Q .normal a' w) (hexit : ∀ a', k = rn → Fr 375 a' → Slots [(1, .slice na nn nn), (2, .slice ra rn rn), (3, .pointer (some ⟨pb, 0, none⟩)), (8, .bool ad), (9, .int .u32 l), (12, .int .u64 z), (13, .int .u64 o), (14, .int .u64 e), (15, .int .u64 p), (16, .bool q0), (17, .bool q1), (20, .pointer (some ⟨bs, 0, none⟩))] a' → Q (.exit 6) a' w) :
    Code.wp Try.prog (hdC (inC (inC (tlC (nthC 15 (bodyC Try.f8)))))) Q a w := by
  obtain ⟨u, hu, rfl⟩ := lay375 hfr
  obtain ⟨s1, s2, s3, s8, s9, s12, s13, s14, s15, s16, s17, s20, s21, -⟩ := hs
  replace s1 : u 1 = .slice na nn nn := (hu 1).symm.trans s1
  replace s2 : u 2 = .slice ra rn rn := (hu 2).symm.trans s2
  replace s3 : u 3 = .pointer (some ⟨pb, 0, none⟩) := (hu 3).symm.trans s3
  replace s8 : u 8 = .bool ad := (hu 8).symm.trans s8
  replace s9 : u 9 = .int .u32 l := (hu 9).symm.trans s9
  replace s12 : u 12 = .int .u64 z := (hu 12).symm.trans s12
  replace s13 : u 13 = .int .u64 o := (hu 13).symm.trans s13
  replace s14 : u 14 = .int .u64 e := (hu 14).symm.trans s14
  replace s15 : u 15 = .int .u64 p := (hu 15).symm.trans s15
  replace s16 : u 16 = .bool q0 := (hu 16).symm.trans s16
  replace s17 : u 17 = .bool q1 := (hu 17).symm.trans s17
  replace s20 : u 20 = .pointer (some ⟨bs, 0, none⟩) := (hu 20).symm.trans s20
  replace s21 : u 21 = .int .i64 (k : Nat) := (hu 21).symm.trans s21
  rw [s1, s2, s3, s8, s9, s12, s13, s14, s15, s16, s17, s20, s21]
  clear hfr hu s1 s2 s3 s8 s9 s12 s13 s14 s15 s16 s17 s20 s21
  conv => arg 2; whnf
  have H : Hid _ := hQ
  have HX : Hid _ := hexit
  clear hQ hexit
  by_cases hlt : k < rn
  · go_wp2
    exact H.out _ hlt ⟨rfl, rfl⟩ ⟨rfl, rfl, rfl, rfl, rfl, rfl, rfl, rfl, rfl, rfl, rfl, rfl, rfl, trivial⟩
  · go_wp2
    exact HX.out _ (by omega) ⟨rfl, rfl⟩ ⟨rfl, rfl, rfl, rfl, rfl, rfl, rfl, rfl, rfl, rfl, rfl, rfl, trivial⟩

set_option maxRecDepth 10000 in
set_option maxHeartbeats 1000000 in
theorem l8_15b (na ra : Option Addr) (nn rn pb bs : Nat) (ad : Bool) (l z o e p : Int) (q0 q1 : Bool) (k rb : Nat) (Sm : SumS) (f : Nat → Int) (a : Act) (w : World) (Q : Exit → Act → World → Prop) (hfr : Fr 375 a) (hs : Slots [(1, .slice na nn nn), (2, .slice ra rn rn), (3, .pointer (some ⟨pb, 0, none⟩)), (8, .bool ad), (9, .int .u32 l), (12, .int .u64 z), (13, .int .u64 o), (14, .int .u64 e), (15, .int .u64 p), (16, .bool q0), (17, .bool q1), (20, .pointer (some ⟨bs, 0, none⟩)), (21, .int .i64 (k : Nat))] a)
    (hk : k < rn) (l2 : (rn : Int) ≤ 65536) (hra : ra = some ⟨rb, 0, none⟩) (hB : IsB w bs Sm.arr 41) (hdn : Sm.drn = rn) (hc : w.cell? ⟨rb, k, none⟩ = some (.int .u64 (f k))) (hD : IsB w Sm.drb (part (fun i => .int .u64 (f i)) (.int .u64 0) rn k) 31)
    (hQ : ∀ a' w', Fr 375 a' → Slots [(1, .slice na nn nn), (2, .slice ra rn rn), (3, .pointer (some ⟨pb, 0, none⟩)), (8, .bool ad), (9, .int .u32 l), (12, .int .u64 z), (13, .int .u64 o), (14, .int .u64 e), (15, .int .u64 p), (16, .bool q0), (17, .bool q1), (20, .pointer (some ⟨bs, 0, none⟩)), (21, .int .i64 (k : Nat))] a' → Kept [Sm.drb] w w' → IsB w' Sm.drb (part (fun i => .int .u64 (f i)) (.int .u64 0) rn (k + 1)) 31 → Q .normal a' w') :
    Code.wp Try.prog (inC (hdC (tlC (inC (inC (tlC (nthC 15 (bodyC Try.f8)))))))) Q a w := by
  obtain ⟨u, hu, rfl⟩ := lay375 hfr
  obtain ⟨s1, s2, s3, s8, s9, s12, s13, s14, s15, s16, s17, s20, s21, -⟩ := hs
  replace s1 : u 1 = .slice na nn nn := (hu 1).symm.trans s1
  replace s2 : u 2 = .slice ra rn rn := (hu 2).symm.trans s2
  replace s3 : u 3 = .pointer (some ⟨pb, 0, none⟩) := (hu 3).symm.trans s3
  replace s8 : u 8 = .bool ad := (hu 8).symm.trans s8
  replace s9 : u 9 = .int .u32 l := (hu 9).symm.trans s9
  replace s12 : u 12 = .int .u64 z := (hu 12).symm.trans s12
  replace s13 : u 13 = .int .u64 o := (hu 13).symm.trans s13
  replace s14 : u 14 = .int .u64 e := (hu 14).symm.trans s14
  replace s15 : u 15 = .int .u64 p := (hu 15).symm.trans s15
  replace s16 : u 16 = .bool q0 := (hu 16).symm.trans s16
  replace s17 : u 17 = .bool q1 := (hu 17).symm.trans s17
  replace s20 : u 20 = .pointer (some ⟨bs, 0, none⟩) := (hu 20).symm.trans s20
  replace s21 : u 21 = .int .i64 (k : Nat) := (hu 21).symm.trans s21
  rw [s1, s2, s3, s8, s9, s12, s13, s14, s15, s16, s17, s20, s21]
  clear hfr hu s1 s2 s3 s8 s9 s12 s13 s14 s15 s16 s17 s20 s21
  conv => arg 2; whnf
  refine wp_np (R := fun a' w' => Fr 375 a' ∧ Slots [(1, .slice na nn nn), (2, .slice ra rn rn), (3, .pointer (some ⟨pb, 0, none⟩)), (8, .bool ad), (9, .int .u32 l), (12, .int .u64 z), (13, .int .u64 o), (14, .int .u64 e), (15, .int .u64 p), (16, .bool q0), (17, .bool q1), (20, .pointer (some ⟨bs, 0, none⟩)), (21, .int .i64 (k : Nat))] a' ∧ Kept [Sm.drb] w w' ∧ IsB w' Sm.drb (part (fun i => .int .u64 (f i)) (.int .u64 0) rn (k + 1)) 31) ?_ (fun a' w' h => hQ a' w' h.1 h.2.1 h.2.2.1 h.2.2.2)
  clear hQ
  subst hra
  have c14 : w.cell? ⟨bs, 14, none⟩ = some (.slice (some ⟨Sm.drb, 0, none⟩) rn rn) := by rw [← hdn]; exact hB.cell 14
  have cd : w.cell? ⟨Sm.drb, k, none⟩ = some (.int .u64 0) := by rw [hD.cell k, part_at _ _ _ _ hk]
  have fd := hD.frozen k
  have HD : Hid _ := hD
  clear hB hD hdn
  go_region
  all_goals
    refine ⟨⟨rfl, rfl⟩, ⟨rfl, rfl, rfl, rfl, rfl, rfl, rfl, rfl, rfl, rfl, rfl, rfl, rfl, trivial⟩, ((Kept.refl _ _).set _ (.inl (by simp))).drew, ?_⟩
    rw [← part_succ]
    exact (IsB.set HD.out k _).drew

set_option maxRecDepth 10000 in
set_option maxHeartbeats 1000000 in
theorem l8_15n (na ra : Option Addr) (nn rn pb bs : Nat) (ad : Bool) (l z o e p : Int) (q0 q1 : Bool) (k : Nat) (a : Act) (w : World) (Q : Exit → Act → World → Prop) (hfr : Fr 375 a) (hs : Slots [(1, .slice na nn nn), (2, .slice ra rn rn), (3, .pointer (some ⟨pb, 0, none⟩)), (8, .bool ad), (9, .int .u32 l), (12, .int .u64 z), (13, .int .u64 o), (14, .int .u64 e), (15, .int .u64 p), (16, .bool q0), (17, .bool q1), (20, .pointer (some ⟨bs, 0, none⟩)), (21, .int .i64 (k : Nat))] a)
    (hk : (k : Int) ≤ 65536) (hQ : ∀ a', Fr 375 a' → Slots [(1, .slice na nn nn), (2, .slice ra rn rn), (3, .pointer (some ⟨pb, 0, none⟩)), (8, .bool ad), (9, .int .u32 l), (12, .int .u64 z), (13, .int .u64 o), (14, .int .u64 e), (15, .int .u64 p), (16, .bool q0), (17, .bool q1), (20, .pointer (some ⟨bs, 0, none⟩)), (21, .int .i64 (k + 1 : Nat))] a' → Q .normal a' w) :
    Code.wp Try.prog (tlC (tlC (inC (inC (tlC (nthC 15 (bodyC Try.f8))))))) Q a w := by
  obtain ⟨u, hu, rfl⟩ := lay375 hfr
  obtain ⟨s1, s2, s3, s8, s9, s12, s13, s14, s15, s16, s17, s20, s21, -⟩ := hs
  replace s1 : u 1 = .slice na nn nn := (hu 1).symm.trans s1
  replace s2 : u 2 = .slice ra rn rn := (hu 2).symm.trans s2
  replace s3 : u 3 = .pointer (some ⟨pb, 0, none⟩) := (hu 3).symm.trans s3
  replace s8 : u 8 = .bool ad := (hu 8).symm.trans s8
  replace s9 : u 9 = .int .u32 l := (hu 9).symm.trans s9
  replace s12 : u 12 = .int .u64 z := (hu 12).symm.trans s12
  replace s13 : u 13 = .int .u64 o := (hu 13).symm.trans s13
  replace s14 : u 14 = .int .u64 e := (hu 14).symm.trans s14
  replace s15 : u 15 = .int .u64 p := (hu 15).symm.trans s15
  replace s16 : u 16 = .bool q0 := (hu 16).symm.trans s16
  replace s17 : u 17 = .bool q1 := (hu 17).symm.trans s17
  replace s20 : u 20 = .pointer (some ⟨bs, 0, none⟩) := (hu 20).symm.trans s20
  replace s21 : u 21 = .int .i64 (k : Nat) := (hu 21).symm.trans s21
  rw [s1, s2, s3, s8, s9, s12, s13, s14, s15, s16, s17, s20, s21]
  clear hfr hu s1 s2 s3 s8 s9 s12 s13 s14 s15 s16 s17 s20 s21
  conv => arg 2; whnf
  have H : Hid _ := hQ
  clear hQ
  go_wp2
  exact H.out _ ⟨rfl, rfl⟩ ⟨rfl, rfl, rfl, rfl, rfl, rfl, rfl, rfl, rfl, rfl, rfl, rfl, rfl, trivial⟩

set_option maxRecDepth 10000 in
set_option maxHeartbeats 1000000 in
theorem l8_16 (na ra : Option Addr) (nn rn pb bs : Nat) (ad : Bool) (l z o e p : Int) (q0 q1 : Bool) (p8 : Int) (a : Act) (w : World) (Q : Exit → Act → World → Prop) (hfr : Fr 375 a) (hs : Slots [(1, .slice na nn nn), (2, .slice ra rn rn), (3, .pointer (some ⟨pb, 0, none⟩)), (8, .bool ad), (9, .int .u32 l), (12, .int .u64 z), (13, .int .u64 o), (14, .int .u64 e), (15, .int .u64 p), (16, .bool q0), (17, .bool q1), (20, .pointer (some ⟨bs, 0, none⟩))] a)
    (hc : w.cell? ⟨pb, 8, none⟩ = some (.int .u64 p8)) (hQ : ∀ a', Fr 375 a' → Slots [(1, .slice na nn nn), (2, .slice ra rn rn), (3, .pointer (some ⟨pb, 0, none⟩)), (8, .bool ad), (9, .int .u32 l), (12, .int .u64 z), (13, .int .u64 o), (14, .int .u64 e), (15, .int .u64 p), (16, .bool q0), (17, .bool q1), (20, .pointer (some ⟨bs, 0, none⟩)), (22, .pointer (some ⟨w.heap.size, 0, none⟩))] a' → Q .normal a' (w.alloc (.cells #[.int .u64 p8] 31))) :
    Code.wp Try.prog (nthC 16 (bodyC Try.f8)) Q a w := by
  obtain ⟨u, hu, rfl⟩ := lay375 hfr
  obtain ⟨s1, s2, s3, s8, s9, s12, s13, s14, s15, s16, s17, s20, -⟩ := hs
  replace s1 : u 1 = .slice na nn nn := (hu 1).symm.trans s1
  replace s2 : u 2 = .slice ra rn rn := (hu 2).symm.trans s2
  replace s3 : u 3 = .pointer (some ⟨pb, 0, none⟩) := (hu 3).symm.trans s3
  replace s8 : u 8 = .bool ad := (hu 8).symm.trans s8
  replace s9 : u 9 = .int .u32 l := (hu 9).symm.trans s9
  replace s12 : u 12 = .int .u64 z := (hu 12).symm.trans s12
  replace s13 : u 13 = .int .u64 o := (hu 13).symm.trans s13
  replace s14 : u 14 = .int .u64 e := (hu 14).symm.trans s14
  replace s15 : u 15 = .int .u64 p := (hu 15).symm.trans s15
  replace s16 : u 16 = .bool q0 := (hu 16).symm.trans s16
  replace s17 : u 17 = .bool q1 := (hu 17).symm.trans s17
  replace s20 : u 20 = .pointer (some ⟨bs, 0, none⟩) := (hu 20).symm.trans s20
  rw [s1, s2, s3, s8, s9, s12, s13, s14, s15, s16, s17, s20]
  clear hfr hu s1 s2 s3 s8 s9 s12 s13 s14 s15 s16 s17 s20
  conv => arg 2; whnf
  have H : Hid _ := hQ
  clear hQ
  go_wp2
  exact H.out _ ⟨rfl, rfl⟩ ⟨rfl, rfl, rfl, rfl, rfl, rfl, rfl, rfl, rfl, rfl, rfl, rfl, rfl, trivial⟩

set_option maxRecDepth 10000 in
set_option maxHeartbeats 1000000 in
theorem l8_17 (na ra : Option Addr) (nn rn pb bs : Nat) (ad : Bool) (l z o e p : Int) (q0 q1 : Bool) (ib : Nat) (p7 : Bool) (Sm : SumS) (a : Act) (w : World) (Q : Exit → Act → World → Prop) (hfr : Fr 375 a) (hs : Slots [(1, .slice na nn nn), (2, .slice ra rn rn), (3, .pointer (some ⟨pb, 0, none⟩)), (8, .bool ad), (9, .int .u32 l), (12, .int .u64 z), (13, .int .u64 o), (14, .int .u64 e), (15, .int .u64 p), (16, .bool q0), (17, .bool q1), (20, .pointer (some ⟨bs, 0, none⟩)), (22, .pointer (some ⟨ib, 0, none⟩))] a)
    (hc : w.cell? ⟨pb, 7, none⟩ = some (.bool p7)) (hB : IsB w bs Sm.arr 41)
    (hQ : ∀ a' w', Fr 375 a' → Slots [(1, .slice na nn nn), (2, .slice ra rn rn), (3, .pointer (some ⟨pb, 0, none⟩)), (8, .bool ad), (9, .int .u32 l), (12, .int .u64 z), (13, .int .u64 o), (14, .int .u64 e), (15, .int .u64 p), (16, .bool q0), (17, .bool q1), (20, .pointer (some ⟨bs, 0, none⟩))] a' → Kept [bs] w w' → w'.heap.size = w.heap.size → IsB w' bs { Sm with inv := if p7 then some ⟨ib, 0, none⟩ else Sm.inv }.arr 41 → Q .normal a' w') :
    Code.wp Try.prog (nthC 17 (bodyC Try.f8)) Q a w := by
  obtain ⟨u, hu, rfl⟩ := lay375 hfr
  obtain ⟨s1, s2, s3, s8, s9, s12, s13, s14, s15, s16, s17, s20, s22, -⟩ := hs
  replace s1 : u 1 = .slice na nn nn := (hu 1).symm.trans s1
  replace s2 : u 2 = .slice ra rn rn := (hu 2).symm.trans s2
  replace s3 : u 3 = .pointer (some ⟨pb, 0, none⟩) := (hu 3).symm.trans s3
  replace s8 : u 8 = .bool ad := (hu 8).symm.trans s8
  replace s9 : u 9 = .int .u32 l := (hu 9).symm.trans s9
  replace s12 : u 12 = .int .u64 z := (hu 12).symm.trans s12
  replace s13 : u 13 = .int .u64 o := (hu 13).symm.trans s13
  replace s14 : u 14 = .int .u64 e := (hu 14).symm.trans s14
  replace s15 : u 15 = .int .u64 p := (hu 15).symm.trans s15
  replace s16 : u 16 = .bool q0 := (hu 16).symm.trans s16
  replace s17 : u 17 = .bool q1 := (hu 17).symm.trans s17
  replace s20 : u 20 = .pointer (some ⟨bs, 0, none⟩) := (hu 20).symm.trans s20
  replace s22 : u 22 = .pointer (some ⟨ib, 0, none⟩) := (hu 22).symm.trans s22
  rw [s1, s2, s3, s8, s9, s12, s13, s14, s15, s16, s17, s20, s22]
  clear hfr hu s1 s2 s3 s8 s9 s12 s13 s14 s15 s16 s17 s20 s22
  conv => arg 2; whnf
  have c11 : w.cell? ⟨bs, 11, none⟩ = some (.pointer Sm.inv) := hB.cell 11
  have f11 := hB.frozen 11
  have HB : Hid _ := hB
  have H : Hid _ := hQ
  clear hQ hB
  cases p7
  · go_wp2
    exact H.out _ _ ⟨rfl, rfl⟩ ⟨rfl, rfl, rfl, rfl, rfl, rfl, rfl, rfl, rfl, rfl, rfl, rfl, trivial⟩ (Kept.refl _ _) rfl HB.out
  · go_wp2
    exact H.out _ _ ⟨rfl, rfl⟩ ⟨rfl, rfl, rfl, rfl, rfl, rfl, rfl, rfl, rfl, rfl, rfl, rfl, trivial⟩ ((Kept.refl _ _).set _ (.inl (by simp))) (by simp) (IsB.set HB.out 11 _)

end Go.Proofs.Qxb6602526a
