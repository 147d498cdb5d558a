import Derived.Test.Qxb6602526aA3
import Derived.Test.Qxb6602526aCopy2
import Derived.Test.Qxb6602526aS9
import Derived.Deep.RegionHeld3
namespace Go.Proofs.Qxb6602526a
open Go.RowKit
set_option linter.unusedSimpArgs false
set_option linter.unusedVariables false

theorem Try.info47 : (Try.prog.info? 47).map (fun i => (i.zero, i.size, i.bytes)) = some (some (.agg #[.int .i64 0, .bool false, .pointer none, .pointer none, .pointer none]), 5, 40) := by kernel_rfl

theorem newB {w : World} {b : Nat} (c : Array Value) (t : TypeId) (h : b = w.heap.size) : IsB (w.alloc (.cells c t)) b c t := h ▸ IsB.new w c t

set_option maxRecDepth 10000 in
set_option maxHeartbeats 1000000 in
/-- the instance is built -/
theorem l8_18 (na ra : Option Addr) (nn rn pb bs : Nat) (ad : Bool) (l z o e p : Int) (q0 q1 : Bool) (p0 : Int) (a : Act) (w : World) (Q : Exit → Act → World → Prop) (hfr : Fr 375 a) (hs : Slots [(1, .slice na nn nn), (2, .slice ra rn rn), (3, .pointer (some ⟨pb, 0, none⟩)), (8, .bool ad), (9, .int .u32 l), (12, .int .u64 z), (13, .int .u64 o), (14, .int .u64 e), (15, .int .u64 p), (16, .bool q0), (17, .bool q1), (20, .pointer (some ⟨bs, 0, none⟩))] a)
    (l1 : (nn : Int) ≤ 65536) (hb : pb < w.heap.size) (c0 : w.cell? ⟨pb, 0, none⟩ = some (.int .u64 p0))
    (hQ : ∀ a' w' ib nb, Fr 375 a' → Slots [(1, .slice na nn nn), (2, .slice ra rn rn), (3, .pointer (some ⟨pb, 0, none⟩)), (8, .bool ad), (9, .int .u32 l), (12, .int .u64 z), (13, .int .u64 o), (14, .int .u64 e), (15, .int .u64 p), (16, .bool q0), (17, .bool q1), (20, .pointer (some ⟨bs, 0, none⟩)), (23, .pointer (some ⟨ib, 0, none⟩))] a' → Kept [] w w' → w.heap.size ≤ ib → w.heap.size ≤ nb → ib ≠ nb → IsB w' ib (instA p0 nb nn none none) 50 → (∃ c, c.size = nn * 5 ∧ IsB w' nb c 47) → Q .normal a' w') :
    Code.wp Try.prog (nthC 18 (bodyC Try.f8)) Q a w := by
  obtain ⟨u, hu, rfl⟩ := lay375 hfr
  obtain ⟨s1, s2, s3, s8, s9, s12, s13, s14, s15, s16, s17, s20, -⟩ := hs
  replace s1 : u 1 = .slice na nn nn := (hu 1).symm.trans s1
  replace s2 : u 2 = .slice ra rn rn := (hu 2).symm.trans s2
  replace s3 : u 3 = .pointer (some ⟨pb, 0, none⟩) := (hu 3).symm.trans s3
  replace s8 : u 8 = .bool ad := (hu 8).symm.trans s8
  replace s9 : u 9 = .int .u32 l := (hu 9).symm.trans s9
  replace s12 : u 12 = .int .u64 z := (hu 12).symm.trans s12
  replace s13 : u 13 = .int .u64 o := (hu 13).symm.trans s13
  replace s14 : u 14 = .int .u64 e := (hu 14).symm.trans s14
  replace s15 : u 15 = .int .u64 p := (hu 15).symm.trans s15
  replace s16 : u 16 = .bool q0 := (hu 16).symm.trans s16
  replace s17 : u 17 = .bool q1 := (hu 17).symm.trans s17
  replace s20 : u 20 = .pointer (some ⟨bs, 0, none⟩) := (hu 20).symm.trans s20
  rw [s1, s2, s3, s8, s9, s12, s13, s14, s15, s16, s17, s20]
  clear hfr hu s1 s2 s3 s8 s9 s12 s13 s14 s15 s16 s17 s20
  conv => arg 2; whnf
  have hmk := fun wx => run_mk (P := Try.prog) 48 47 _ 5 40 (by exact Try.underlying48) Try.info47 nn (by omega) (by omega) wx
  refine wp_np (R := fun a' w' => ∃ ib nb, Fr 375 a' ∧ Slots [(1, .slice na nn nn), (2, .slice ra rn rn), (3, .pointer (some ⟨pb, 0, none⟩)), (8, .bool ad), (9, .int .u32 l), (12, .int .u64 z), (13, .int .u64 o), (14, .int .u64 e), (15, .int .u64 p), (16, .bool q0), (17, .bool q1), (20, .pointer (some ⟨bs, 0, none⟩)), (23, .pointer (some ⟨ib, 0, none⟩))] a' ∧ Kept [] w w' ∧ w.heap.size ≤ ib ∧ w.heap.size ≤ nb ∧ ib ≠ nb ∧ IsB w' ib (instA p0 nb nn none none) 50 ∧ (∃ c, c.size = nn * 5 ∧ IsB w' nb c 47)) ?_ (fun a' w' ⟨ib, nb, h1, h2, h3, h4, h5, h6, h7, h8⟩ => hQ a' w' ib nb h1 h2 h3 h4 h5 h6 h7 h8)
  clear hQ
  go_region_held3 (fun w' => w'.cell? ⟨pb, 0, none⟩ = some (.int .u64 p0)) (simp [go_sem, World.cell?_alloc_past, *]) (fail)
  · refine ⟨w.heap.size + 1, w.heap.size, ⟨rfl, rfl⟩, ⟨rfl, rfl, rfl, rfl, rfl, rfl, rfl, rfl, rfl, rfl, rfl, rfl, rfl, trivial⟩, (((Kept.refl _ _).alloc _).alloc _).drew, by omega, Nat.le_refl _, by omega, ?_, ?_⟩
    · exact newB _ _ (by simp)
    · exact ⟨_, size_madeCells _ _, (IsB.new _ _ _).alloc _⟩
  · refine ⟨w.heap.size, w.heap.size + 1, ⟨rfl, rfl⟩, ⟨rfl, rfl, rfl, rfl, rfl, rfl, rfl, rfl, rfl, rfl, rfl, rfl, rfl, trivial⟩, (((Kept.refl _ _).alloc _).alloc _).drew, Nat.le_refl _, by omega, by omega, ?_, ?_⟩
    · exact (IsB.new _ _ _).alloc _
    · exact ⟨_, size_madeCells _ _, newB _ _ (by simp)⟩

set_option maxRecDepth 10000 in
set_option maxHeartbeats 1000000 in
theorem l8_19i (na ra : Option Addr) (nn rn pb bs : Nat) (ad : Bool) (l z o e p : Int) (q0 q1 : Bool) (ib : Nat) (a : Act) (w : World) (Q : Exit → Act → World → Prop) (hfr : Fr 375 a) (hs : Slots [(1, .slice na nn nn), (2, .slice ra rn rn), (3, .pointer (some ⟨pb, 0, none⟩)), (8, .bool ad), (9, .int .u32 l), (12, .int .u64 z), (13, .int .u64 o), (14, .int .u64 e), (15, .int .u64 p), (16, .bool q0), (17, .bool q1), (20, .pointer (some ⟨bs, 0, none⟩)), (23, .pointer (some ⟨ib, 0, none⟩))] a)
    (hQ : ∀ a', Fr 375 a' → Slots [(1, .slice na nn nn), (2, .slice ra rn rn), (3, .pointer (some ⟨pb, 0, none⟩)), (8, .bool ad), (9, .int .u32 l), (12, .int .u64 z), (13, .int .u64 o), (14, .int .u64 e), (15, .int .u64 p), (16, .bool q0), (17, .bool q1), (20, .pointer (some ⟨bs, 0, none⟩)), (23, .pointer (some ⟨ib, 0, none⟩)), (24, .int .i64 (0 : Nat))] a' → Q .normal a' w) :
    Code.wp Try.prog (hdC (nthC 19 (bodyC Try.f8))) Q a w := by
  obtain ⟨u, hu, rfl⟩ := lay375 hfr
  obtain ⟨s1, s2, s3, s8, s9, s12, s13, s14, s15, s16, s17, s20, s23, -⟩ := hs
  replace s1 : u 1 = .slice na nn nn := (hu 1).symm.trans s1
  replace s2 : u 2 = .slice ra rn rn := (hu 2).symm.trans s2
  replace s3 : u 3 = .pointer (some ⟨pb, 0, none⟩) := (hu 3).symm.trans s3
  replace s8 : u 8 = .bool ad := (hu 8).symm.trans s8
  replace s9 : u 9 = .int .u32 l := (hu 9).symm.trans s9
  replace s12 : u 12 = .int .u64 z := (hu 12).symm.trans s12
  replace s13 : u 13 = .int .u64 o := (hu 13).symm.trans s13
  replace s14 : u 14 = .int .u64 e := (hu 14).symm.trans s14
  replace s15 : u 15 = .int .u64 p := (hu 15).symm.trans s15
  replace s16 : u 16 = .bool q0 := (hu 16).symm.trans s16
  replace s17 : u 17 = .bool q1 := (hu 17).symm.trans s17
  replace s20 : u 20 = .pointer (some ⟨bs, 0, none⟩) := (hu 20).symm.trans s20
  replace s23 : u 23 = .pointer (some ⟨ib, 0, none⟩) := (hu 23).symm.trans s23
  rw [s1, s2, s3, s8, s9, s12, s13, s14, s15, s16, s17, s20, s23]
  clear hfr hu s1 s2 s3 s8 s9 s12 s13 s14 s15 s16 s17 s20 s23
  conv => arg 2; whnf
  have H : Hid _ := hQ
  clear hQ
  go_wp2
  exact H.out _ ⟨rfl, rfl⟩ ⟨rfl, rfl, rfl, rfl, rfl, rfl, rfl, rfl, rfl, rfl, rfl, rfl, rfl, rfl, trivial⟩

set_option maxRecDepth 10000 in
set_option maxHeartbeats 1000000 in
theorem l8_19h (na ra : Option Addr) (nn rn pb bs : Nat) (ad : Bool) (l z o e p : Int) (q0 q1 : Bool) (ib : Nat) (k : Nat) (a : Act) (w : World) (Q : Exit → Act → World → Prop) (hfr : Fr 375 a) (hs : Slots [(1, .slice na nn nn), (2, .slice ra rn rn), (3, .pointer (some ⟨pb, 0, none⟩)), (8, .bool ad), (9, .int .u32 l), (12, .int .u64 z), (13, .int .u64 o), (14, .int .u64 e), (15, .int .u64 p), (16, .bool q0), (17, .bool q1), (20, .pointer (some ⟨bs, 0, none⟩)), (23, .pointer (some ⟨ib, 0, none⟩)), (24, .int .i64 (k : Nat))] a)
    (hk : k ≤ nn) (l2 : (nn : Int) ≤ 65536) (hQ : ∀ a', k < nn → Fr 375 a' → Slots [(1, .slice na nn nn), (2, .slice ra rn rn), (3, .pointer (some ⟨pb, 0, none⟩)), (8, .bool ad), (9, .int .u32 l), (12, .int .u64 z), (13, .int .u64 o), (14, .int .u64 e), (15, .int .u64 p), (16, .bool q0), (17, .bool q1), (20, .pointer (some ⟨bs, 0, none⟩)), (23, .pointer (some ⟨ib, 0, none⟩)), (24, .int .i64 (k : Nat))] a' → Q .normal a' w) (hexit : ∀ a', k = nn → Fr 375 a' → Slots [(1, .slice na nn nn), (2, .slice ra rn rn), (3, .pointer (some ⟨pb, 0, none⟩)), (8, .bool ad), (9, .int .u32 l), (12, .int .u64 z), (13, .int .u64 o), (14, .int .u64 e), (15, .int .u64 p), (16, .bool q0), (17, .bool q1), (20, .pointer (some ⟨bs, 0, none⟩)), (23, .pointer (some ⟨ib, 0, none⟩))] a' → Q (.exit 8) a' w) :
    Code.wp Try.prog (hdC (inC (inC (tlC (nthC 19 (bodyC Try.f8)))))) Q a w := by
  obtain ⟨u, hu, rfl⟩ := lay375 hfr
  obtain ⟨s1, s2, s3, s8, s9, s12, s13, s14, s15, s16, s17, s20, s23, s24, -⟩ := hs
  replace s1 : u 1 = .slice na nn nn := (hu 1).symm.trans s1
  replace s2 : u 2 = .slice ra rn rn := (hu 2).symm.trans s2
  replace s3 : u 3 = .pointer (some ⟨pb, 0, none⟩) := (hu 3).symm.trans s3
  replace s8 : u 8 = .bool ad := (hu 8).symm.trans s8
  replace s9 : u 9 = .int .u32 l := (hu 9).symm.trans s9
  replace s12 : u 12 = .int .u64 z := (hu 12).symm.trans s12
  replace s13 : u 13 = .int .u64 o := (hu 13).symm.trans s13
  replace s14 : u 14 = .int .u64 e := (hu 14).symm.trans s14
  replace s15 : u 15 = .int .u64 p := (hu 15).symm.trans s15
  replace s16 : u 16 = .bool q0 := (hu 16).symm.trans s16
  replace s17 : u 17 = .bool q1 := (hu 17).symm.trans s17
  replace s20 : u 20 = .pointer (some ⟨bs, 0, none⟩) := (hu 20).symm.trans s20
  replace s23 : u 23 = .pointer (some ⟨ib, 0, none⟩) := (hu 23).symm.trans s23
  replace s24 : u 24 = .int .i64 (k : Nat) := (hu 24).symm.trans s24
  rw [s1, s2, s3, s8, s9, s12, s13, s14, s15, s16, s17, s20, s23, s24]
  clear hfr hu s1 s2 s3 s8 s9 s12 s13 s14 s15 s16 s17 s20 s23 s24
  conv => arg 2; whnf
  have H : Hid _ := hQ
  have HX : Hid _ := hexit
  clear hQ hexit
  by_cases hlt : k < nn
  · go_wp2
    exact H.out _ hlt ⟨rfl, rfl⟩ ⟨rfl, rfl, rfl, rfl, rfl, rfl, rfl, rfl, rfl, rfl, rfl, rfl, rfl, rfl, trivial⟩
  · go_wp2
    exact HX.out _ (by omega) ⟨rfl, rfl⟩ ⟨rfl, rfl, rfl, rfl, rfl, rfl, rfl, rfl, rfl, rfl, rfl, rfl, rfl, trivial⟩

set_option maxRecDepth 10000 in
set_option maxHeartbeats 1000000 in
theorem l8_19n (na ra : Option Addr) (nn rn pb bs : Nat) (ad : Bool) (l z o e p : Int) (q0 q1 : Bool) (ib : Nat) (k : Nat) (a : Act) (w : World) (Q : Exit → Act → World → Prop) (hfr : Fr 375 a) (hs : Slots [(1, .slice na nn nn), (2, .slice ra rn rn), (3, .pointer (some ⟨pb, 0, none⟩)), (8, .bool ad), (9, .int .u32 l), (12, .int .u64 z), (13, .int .u64 o), (14, .int .u64 e), (15, .int .u64 p), (16, .bool q0), (17, .bool q1), (20, .pointer (some ⟨bs, 0, none⟩)), (23, .pointer (some ⟨ib, 0, none⟩)), (24, .int .i64 (k : Nat))] a)
    (hk : (k : Int) ≤ 65536) (hQ : ∀ a', Fr 375 a' → Slots [(1, .slice na nn nn), (2, .slice ra rn rn), (3, .pointer (some ⟨pb, 0, none⟩)), (8, .bool ad), (9, .int .u32 l), (12, .int .u64 z), (13, .int .u64 o), (14, .int .u64 e), (15, .int .u64 p), (16, .bool q0), (17, .bool q1), (20, .pointer (some ⟨bs, 0, none⟩)), (23, .pointer (some ⟨ib, 0, none⟩)), (24, .int .i64 (k + 1 : Nat))] a' → Q .normal a' w) :
    Code.wp Try.prog (tlC (tlC (inC (inC (tlC (nthC 19 (bodyC Try.f8))))))) Q a w := by
  obtain ⟨u, hu, rfl⟩ := lay375 hfr
  obtain ⟨s1, s2, s3, s8, s9, s12, s13, s14, s15, s16, s17, s20, s23, s24, -⟩ := hs
  replace s1 : u 1 = .slice na nn nn := (hu 1).symm.trans s1
  replace s2 : u 2 = .slice ra rn rn := (hu 2).symm.trans s2
  replace s3 : u 3 = .pointer (some ⟨pb, 0, none⟩) := (hu 3).symm.trans s3
  replace s8 : u 8 = .bool ad := (hu 8).symm.trans s8
  replace s9 : u 9 = .int .u32 l := (hu 9).symm.trans s9
  replace s12 : u 12 = .int .u64 z := (hu 12).symm.trans s12
  replace s13 : u 13 = .int .u64 o := (hu 13).symm.trans s13
  replace s14 : u 14 = .int .u64 e := (hu 14).symm.trans s14
  replace s15 : u 15 = .int .u64 p := (hu 15).symm.trans s15
  replace s16 : u 16 = .bool q0 := (hu 16).symm.trans s16
  replace s17 : u 17 = .bool q1 := (hu 17).symm.trans s17
  replace s20 : u 20 = .pointer (some ⟨bs, 0, none⟩) := (hu 20).symm.trans s20
  replace s23 : u 23 = .pointer (some ⟨ib, 0, none⟩) := (hu 23).symm.trans s23
  replace s24 : u 24 = .int .i64 (k : Nat) := (hu 24).symm.trans s24
  rw [s1, s2, s3, s8, s9, s12, s13, s14, s15, s16, s17, s20, s23, s24]
  clear hfr hu s1 s2 s3 s8 s9 s12 s13 s14 s15 s16 s17 s20 s23 s24
  conv => arg 2; whnf
  have H : Hid _ := hQ
  clear hQ
  go_wp2
  exact H.out _ ⟨rfl, rfl⟩ ⟨rfl, rfl, rfl, rfl, rfl, rfl, rfl, rfl, rfl, rfl, rfl, rfl, rfl, rfl, trivial⟩

/-- A node that stands for a NodeCase. -/
structure Stands (x : NodeC) (y : NodeD) : Prop where
  fa : y.fa = x.fa
  pa : x.fa = false → y.pa.isSome = x.hp
  pv : x.fa = false → y.pv = x.pv
  rv : x.fa = false → y.rv = x.rv
  ro : x.fa = false → y.ro.isSome = x.hr
  dv : x.fa = false → y.dv = x.rd

/-- What its pointers lead to: blocks from B on. -/
def Led (y : NodeD) (B : Nat) (w : World) : Prop :=
  y.fa = false → (∀ b, y.pa = some b → B ≤ b ∧ IsB w b #[.int .u8 y.pv] 5) ∧ (∃ b, y.rs = some b ∧ B ≤ b ∧ IsB w b #[.int .u8 y.rv] 42) ∧ (∀ b, y.ro = some b → B ≤ b ∧ IsB w b #[.int .u32 y.dv] 22)

/-- Five cells set in a row. -/
theorem set5 {w : World} {b o : Nat} {c : Array Value} {t : TypeId} (h : IsB w b c t) (v0 v1 v2 v3 v4 : Value) (hs : o + 5 ≤ c.size) :
    ∃ c', c'.size = c.size ∧ IsB (((((w.setCell ⟨b, o, none⟩ v0).setCell ⟨b, o + 1, none⟩ v1).setCell ⟨b, o + 2, none⟩ v2).setCell ⟨b, o + 3, none⟩ v3).setCell ⟨b, o + 4, none⟩ v4) b c' t ∧
      (∀ i, i < o → c'[i]? = c[i]?) ∧ c'[o]? = some v0 ∧ c'[o + 1]? = some v1 ∧ c'[o + 2]? = some v2 ∧ c'[o + 3]? = some v3 ∧ c'[o + 4]? = some v4 := by
  refine ⟨_, ?_, ((((h.set o v0).set (o + 1) v1).set (o + 2) v2).set (o + 3) v3).set (o + 4) v4, ?_, ?_, ?_, ?_, ?_, ?_⟩
  · simp
  · intro i hi
    simp only [Array.getElem?_setIfInBounds]
    repeat rw [if_neg (by omega)]
  · simp only [Array.getElem?_setIfInBounds, Array.size_setIfInBounds]
    rw [if_neg (by omega), if_neg (by omega), if_neg (by omega), if_neg (by omega), if_pos trivial, if_pos (by omega)]
  · simp only [Array.getElem?_setIfInBounds, Array.size_setIfInBounds]
    rw [if_neg (by omega), if_neg (by omega), if_neg (by omega), if_pos trivial, if_pos (by omega)]
  · simp only [Array.getElem?_setIfInBounds, Array.size_setIfInBounds]
    rw [if_neg (by omega), if_neg (by omega), if_pos trivial, if_pos (by omega)]
  · simp only [Array.getElem?_setIfInBounds, Array.size_setIfInBounds]
    rw [if_neg (by omega), if_pos trivial, if_pos (by omega)]
  · simp only [Array.getElem?_setIfInBounds, Array.size_setIfInBounds]
    rw [if_pos trivial, if_pos (by omega)]

end Go.Proofs.Qxb6602526a
