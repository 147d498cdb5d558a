import Derived.Test.Qxb6602526aE1
import Derived.Test.Qxb6602526aC1
import Derived.Maps.AppendAt
import Derived.OwnWalk
namespace Go.Proofs.Qxb6602526a
open Go.RowKit
set_option linter.unusedSimpArgs false
set_option linter.unusedVariables false

set_option maxRecDepth 10000 in
set_option maxHeartbeats 1000000 in
theorem p0 (b n rc ic : Nat) (xr xi : Option Addr) (p ck : Int) (a : Act) (w : World) (Q : Exit → Act → World → Prop) (hfr : Fr 101 a) (hs : Slots [(0, .pointer (some ⟨b, 0, none⟩)), (1, .int .u64 p), (2, .int .i64 ck), (4, .slice xr n rc), (5, .slice xi n ic)] a)
    (hQ : ∀ a', Fr 101 a' → Slots [(0, .pointer (some ⟨b, 0, none⟩)), (1, .int .u64 p), (2, .int .i64 ck), (4, .slice xr n rc), (5, .slice xi n ic), (12, .bool false)] a' → Q .normal a' w) :
    Code.wp Try.prog (nthC 0 (bodyC Try.f37)) Q a w := by
  obtain ⟨u, hu, rfl⟩ := lay101 hfr
  obtain ⟨s0, s1, s2, s4, s5, -⟩ := hs
  replace s0 : u 0 = .pointer (some ⟨b, 0, none⟩) := (hu 0).symm.trans s0
  replace s1 : u 1 = .int .u64 p := (hu 1).symm.trans s1
  replace s2 : u 2 = .int .i64 ck := (hu 2).symm.trans s2
  replace s4 : u 4 = .slice xr n rc := (hu 4).symm.trans s4
  replace s5 : u 5 = .slice xi n ic := (hu 5).symm.trans s5
  rw [s0, s1, s2, s4, s5]
  clear hfr hu s0 s1 s2 s4 s5
  conv => arg 2; whnf
  have H : Hid _ := hQ
  clear hQ
  go_wp2
  exact H.out _ ⟨rfl, rfl⟩ ⟨rfl, rfl, rfl, rfl, rfl, rfl, trivial⟩

set_option maxRecDepth 10000 in
set_option maxHeartbeats 1000000 in
theorem p1i (b n rc ic : Nat) (xr xi : Option Addr) (p ck : Int) (a : Act) (w : World) (Q : Exit → Act → World → Prop) (hfr : Fr 101 a) (hs : Slots [(0, .pointer (some ⟨b, 0, none⟩)), (1, .int .u64 p), (2, .int .i64 ck), (4, .slice xr n rc), (5, .slice xi n ic), (12, .bool false)] a)
    (hQ : ∀ a', Fr 101 a' → Slots [(0, .pointer (some ⟨b, 0, none⟩)), (1, .int .u64 p), (2, .int .i64 ck), (4, .slice xr n rc), (5, .slice xi n ic), (12, .bool false), (15, .slice xi n ic), (16, .int .i64 n), (17, .int .i64 (0 : Nat))] a' → Q .normal a' w) :
    Code.wp Try.prog (hdC (nthC 1 (bodyC Try.f37))) Q a w := by
  obtain ⟨u, hu, rfl⟩ := lay101 hfr
  obtain ⟨s0, s1, s2, s4, s5, s12, -⟩ := hs
  replace s0 : u 0 = .pointer (some ⟨b, 0, none⟩) := (hu 0).symm.trans s0
  replace s1 : u 1 = .int .u64 p := (hu 1).symm.trans s1
  replace s2 : u 2 = .int .i64 ck := (hu 2).symm.trans s2
  replace s4 : u 4 = .slice xr n rc := (hu 4).symm.trans s4
  replace s5 : u 5 = .slice xi n ic := (hu 5).symm.trans s5
  replace s12 : u 12 = .bool false := (hu 12).symm.trans s12
  rw [s0, s1, s2, s4, s5, s12]
  clear hfr hu s0 s1 s2 s4 s5 s12
  conv => arg 2; whnf
  have H : Hid _ := hQ
  clear hQ
  go_wp2
  exact H.out _ ⟨rfl, rfl⟩ ⟨rfl, rfl, rfl, rfl, rfl, rfl, rfl, rfl, rfl, trivial⟩

set_option maxRecDepth 10000 in
set_option maxHeartbeats 1000000 in
theorem p1x (b n rc ic : Nat) (xr xi : Option Addr) (p ck : Int) (sp : Bool) (k : Nat) (a : Act) (w : World) (Q : Exit → Act → World → Prop) (hfr : Fr 101 a) (hs : Slots [(0, .pointer (some ⟨b, 0, none⟩)), (1, .int .u64 p), (2, .int .i64 ck), (4, .slice xr n rc), (5, .slice xi n ic), (12, .bool sp), (15, .slice xi n ic), (16, .int .i64 n), (17, .int .i64 (k : Nat))] a)
    (hk : k = n) (hexit : ∀ a', Fr 101 a' → Slots [(0, .pointer (some ⟨b, 0, none⟩)), (1, .int .u64 p), (2, .int .i64 ck), (4, .slice xr n rc), (5, .slice xi n ic), (12, .bool sp)] a' → Q (.exit 0) a' w) :
    Code.wp Try.prog (inC (inC (tlC (nthC 1 (bodyC Try.f37))))) Q a w := by
  obtain ⟨u, hu, rfl⟩ := lay101 hfr
  obtain ⟨s0, s1, s2, s4, s5, s12, s15, s16, s17, -⟩ := hs
  replace s0 : u 0 = .pointer (some ⟨b, 0, none⟩) := (hu 0).symm.trans s0
  replace s1 : u 1 = .int .u64 p := (hu 1).symm.trans s1
  replace s2 : u 2 = .int .i64 ck := (hu 2).symm.trans s2
  replace s4 : u 4 = .slice xr n rc := (hu 4).symm.trans s4
  replace s5 : u 5 = .slice xi n ic := (hu 5).symm.trans s5
  replace s12 : u 12 = .bool sp := (hu 12).symm.trans s12
  replace s15 : u 15 = .slice xi n ic := (hu 15).symm.trans s15
  replace s16 : u 16 = .int .i64 n := (hu 16).symm.trans s16
  replace s17 : u 17 = .int .i64 (k : Nat) := (hu 17).symm.trans s17
  rw [s0, s1, s2, s4, s5, s12, s15, s16, s17]
  clear hfr hu s0 s1 s2 s4 s5 s12 s15 s16 s17
  conv => arg 2; whnf
  subst hk
  have H : Hid _ := hexit
  clear hexit
  have lk : ¬ ((k : Int) < k) := by omega
  go_wp2
  exact H.out _ ⟨rfl, rfl⟩ ⟨rfl, rfl, rfl, rfl, rfl, rfl, trivial⟩

set_option maxRecDepth 10000 in
set_option maxHeartbeats 1000000 in
theorem p1r (b n rc ic ib io : Nat) (xr : Option Addr) (p ck : Int) (sp : Bool) (k : Nat) (x x0 : Int) (a : Act) (w : World) (Q : Exit → Act → World → Prop) (hfr : Fr 101 a) (hs : Slots [(0, .pointer (some ⟨b, 0, none⟩)), (1, .int .u64 p), (2, .int .i64 ck), (4, .slice xr n rc), (5, .slice (some ⟨ib, io, none⟩) n ic), (12, .bool sp), (15, .slice (some ⟨ib, io, none⟩) n ic), (16, .int .i64 n), (17, .int .i64 (k : Nat))] a)
    (lk : (k : Int) < n) (ln : (n : Int) ≤ 65536) (hx : w.cell? ⟨ib, io + k, none⟩ = some (.int .u32 x)) (hx0 : w.cell? ⟨ib, io, none⟩ = some (.int .u32 x0)) (hQ : ∀ a', Fr 101 a' → Slots [(0, .pointer (some ⟨b, 0, none⟩)), (1, .int .u64 p), (2, .int .i64 ck), (4, .slice xr n rc), (5, .slice (some ⟨ib, io, none⟩) n ic), (12, .bool (sp || !(x == x0))), (15, .slice (some ⟨ib, io, none⟩) n ic), (16, .int .i64 n), (17, .int .i64 (k + 1 : Nat))] a' → Q .normal a' w) :
    Code.wp Try.prog (inC (inC (tlC (nthC 1 (bodyC Try.f37))))) Q a w := by
  obtain ⟨u, hu, rfl⟩ := lay101 hfr
  obtain ⟨s0, s1, s2, s4, s5, s12, s15, s16, s17, -⟩ := hs
  replace s0 : u 0 = .pointer (some ⟨b, 0, none⟩) := (hu 0).symm.trans s0
  replace s1 : u 1 = .int .u64 p := (hu 1).symm.trans s1
  replace s2 : u 2 = .int .i64 ck := (hu 2).symm.trans s2
  replace s4 : u 4 = .slice xr n rc := (hu 4).symm.trans s4
  replace s5 : u 5 = .slice (some ⟨ib, io, none⟩) n ic := (hu 5).symm.trans s5
  replace s12 : u 12 = .bool sp := (hu 12).symm.trans s12
  replace s15 : u 15 = .slice (some ⟨ib, io, none⟩) n ic := (hu 15).symm.trans s15
  replace s16 : u 16 = .int .i64 n := (hu 16).symm.trans s16
  replace s17 : u 17 = .int .i64 (k : Nat) := (hu 17).symm.trans s17
  rw [s0, s1, s2, s4, s5, s12, s15, s16, s17]
  clear hfr hu s0 s1 s2 s4 s5 s12 s15 s16 s17
  conv => arg 2; whnf
  have H : Hid _ := hQ
  clear hQ
  have l0 : (0 : Int) < n := by omega
  by_cases e : x = x0
  · subst e
    go_wp2
    refine H.out _ ⟨rfl, rfl⟩ ?_
    rw [show (sp || !(x == x)) = sp by simp]
    exact ⟨rfl, rfl, rfl, rfl, rfl, rfl, rfl, rfl, rfl, trivial⟩
  · have g : (x == x0) = false := by simpa using e
    go_wp2
    refine H.out _ ⟨rfl, rfl⟩ ?_
    rw [g, Bool.not_false, Bool.or_true]
    exact ⟨rfl, rfl, rfl, rfl, rfl, rfl, rfl, rfl, rfl, trivial⟩

set_option maxRecDepth 10000 in
set_option maxHeartbeats 1000000 in
theorem p2h (b n rc ic : Nat) (xr xi : Option Addr) (p ck : Int) (sp : Bool) (a : Act) (w : World) (Q : Exit → Act → World → Prop) (hfr : Fr 101 a) (hs : Slots [(0, .pointer (some ⟨b, 0, none⟩)), (1, .int .u64 p), (2, .int .i64 ck), (4, .slice xr n rc), (5, .slice xi n ic), (12, .bool sp)] a)
    (hQ : ∀ a', Fr 101 a' → Slots [(0, .pointer (some ⟨b, 0, none⟩)), (1, .int .u64 p), (2, .int .i64 ck), (4, .slice xr n rc), (5, .slice xi n ic), (12, .bool sp), (28, .bool (ck == 0))] a' → Q .normal a' w) :
    Code.wp Try.prog (hdC (nthC 2 (bodyC Try.f37))) Q a w := by
  obtain ⟨u, hu, rfl⟩ := lay101 hfr
  obtain ⟨s0, s1, s2, s4, s5, s12, -⟩ := hs
  replace s0 : u 0 = .pointer (some ⟨b, 0, none⟩) := (hu 0).symm.trans s0
  replace s1 : u 1 = .int .u64 p := (hu 1).symm.trans s1
  replace s2 : u 2 = .int .i64 ck := (hu 2).symm.trans s2
  replace s4 : u 4 = .slice xr n rc := (hu 4).symm.trans s4
  replace s5 : u 5 = .slice xi n ic := (hu 5).symm.trans s5
  replace s12 : u 12 = .bool sp := (hu 12).symm.trans s12
  rw [s0, s1, s2, s4, s5, s12]
  clear hfr hu s0 s1 s2 s4 s5 s12
  conv => arg 2; whnf
  have H : Hid _ := hQ
  clear hQ
  go_wp2
  exact H.out _ ⟨rfl, rfl⟩ ⟨rfl, rfl, rfl, rfl, rfl, rfl, rfl, trivial⟩

set_option maxRecDepth 10000 in
set_option maxHeartbeats 1000000 in
theorem p2t (b n rc ic : Nat) (xr xi : Option Addr) (p ck : Int) (sp : Bool) (T : IW) (a : Act) (w : World) (Q : Exit → Act → World → Prop) (hfr : Fr 101 a) (hs : Slots [(0, .pointer (some ⟨b, 0, none⟩)), (1, .int .u64 p), (2, .int .i64 ck), (4, .slice xr n rc), (5, .slice xi n ic), (12, .bool sp)] a)
    (hB : IsB w b T.arr 93) (hQ : ∀ a' w', Fr 101 a' → Slots [(0, .pointer (some ⟨b, 0, none⟩)), (1, .int .u64 p), (2, .int .i64 ck), (4, .slice xr n rc), (5, .slice xi n ic), (12, .bool sp)] a' → Kept [b] w w' → IsB w' b { T with whole := true, cnt := false }.arr 93 → Q .normal a' w') :
    Code.wp Try.prog (thC (tlC (nthC 2 (bodyC Try.f37)))) Q a w := by
  obtain ⟨u, hu, rfl⟩ := lay101 hfr
  obtain ⟨s0, s1, s2, s4, s5, s12, -⟩ := hs
  replace s0 : u 0 = .pointer (some ⟨b, 0, none⟩) := (hu 0).symm.trans s0
  replace s1 : u 1 = .int .u64 p := (hu 1).symm.trans s1
  replace s2 : u 2 = .int .i64 ck := (hu 2).symm.trans s2
  replace s4 : u 4 = .slice xr n rc := (hu 4).symm.trans s4
  replace s5 : u 5 = .slice xi n ic := (hu 5).symm.trans s5
  replace s12 : u 12 = .bool sp := (hu 12).symm.trans s12
  rw [s0, s1, s2, s4, s5, s12]
  clear hfr hu s0 s1 s2 s4 s5 s12
  conv => arg 2; whnf
  obtain ⟨tk, ts, tl, t3, t4, t5, t6, t7, t8, t9⟩ := T
  have b8 : w.cell? ⟨b, 8, none⟩ = some (.bool t8) := hB.cell 8
  have fz8 := hB.frozen 8
  have b9 : w.cell? ⟨b, 9, none⟩ = some (.bool t9) := hB.cell 9
  have fz9 := hB.frozen 9
  have HB : Hid _ := hB
  have H : Hid _ := hQ
  clear hQ hB
  go_wp2
  refine H.out _ _ ⟨rfl, rfl⟩ ⟨rfl, rfl, rfl, rfl, rfl, rfl, trivial⟩ (((Kept.refl _ _).set _ (.inl (by simp))).set _ (.inl (by simp))) ?_
  exact IsB.set (IsB.set (IsB.as HB.out) 8 _) 9 _

set_option maxRecDepth 10000 in
set_option maxHeartbeats 1000000 in
theorem p9 (b n rc ic : Nat) (xr xi : Option Addr) (p ck : Int) (sp : Bool) (a : Act) (w : World) (Q : Exit → Act → World → Prop) (hfr : Fr 101 a) (hs : Slots [(0, .pointer (some ⟨b, 0, none⟩)), (1, .int .u64 p), (2, .int .i64 ck), (4, .slice xr n rc), (5, .slice xi n ic), (12, .bool sp)] a)
    (hQ : ∀ a', Fr 101 a' → Slots [(0, .pointer (some ⟨b, 0, none⟩)), (1, .int .u64 p), (2, .int .i64 ck), (4, .slice xr n rc), (5, .slice xi n ic), (12, .bool sp), (35, .bool sp)] a' → Q .normal a' w) :
    Code.wp Try.prog (hdC (inC (nthC 3 (bodyC Try.f37)))) Q a w := by
  obtain ⟨u, hu, rfl⟩ := lay101 hfr
  obtain ⟨s0, s1, s2, s4, s5, s12, -⟩ := hs
  replace s0 : u 0 = .pointer (some ⟨b, 0, none⟩) := (hu 0).symm.trans s0
  replace s1 : u 1 = .int .u64 p := (hu 1).symm.trans s1
  replace s2 : u 2 = .int .i64 ck := (hu 2).symm.trans s2
  replace s4 : u 4 = .slice xr n rc := (hu 4).symm.trans s4
  replace s5 : u 5 = .slice xi n ic := (hu 5).symm.trans s5
  replace s12 : u 12 = .bool sp := (hu 12).symm.trans s12
  rw [s0, s1, s2, s4, s5, s12]
  clear hfr hu s0 s1 s2 s4 s5 s12
  conv => arg 2; whnf
  have H : Hid _ := hQ
  clear hQ
  go_wp2
  exact H.out _ ⟨rfl, rfl⟩ ⟨rfl, rfl, rfl, rfl, rfl, rfl, rfl, trivial⟩

set_option maxRecDepth 10000 in
set_option maxHeartbeats 1000000 in
theorem p10 (b n rc ic : Nat) (xr xi : Option Addr) (p ck : Int) (sp : Bool) (T : IW) (a : Act) (w : World) (Q : Exit → Act → World → Prop) (hfr : Fr 101 a) (hs : Slots [(0, .pointer (some ⟨b, 0, none⟩)), (1, .int .u64 p), (2, .int .i64 ck), (4, .slice xr n rc), (5, .slice xi n ic), (12, .bool sp)] a)
    (hB : IsB w b T.arr 93) (hQ : ∀ a' w', Fr 101 a' → Slots [(0, .pointer (some ⟨b, 0, none⟩)), (1, .int .u64 p), (2, .int .i64 ck), (4, .slice xr n rc), (5, .slice xi n ic), (12, .bool sp)] a' → Kept [b] w w' → IsB w' b { T with any := true, last := p, viol := 0, whole := false }.arr 93 → Q .normal a' w') :
    Code.wp Try.prog (thC (tlC (inC (nthC 3 (bodyC Try.f37))))) Q a w := by
  obtain ⟨u, hu, rfl⟩ := lay101 hfr
  obtain ⟨s0, s1, s2, s4, s5, s12, -⟩ := hs
  replace s0 : u 0 = .pointer (some ⟨b, 0, none⟩) := (hu 0).symm.trans s0
  replace s1 : u 1 = .int .u64 p := (hu 1).symm.trans s1
  replace s2 : u 2 = .int .i64 ck := (hu 2).symm.trans s2
  replace s4 : u 4 = .slice xr n rc := (hu 4).symm.trans s4
  replace s5 : u 5 = .slice xi n ic := (hu 5).symm.trans s5
  replace s12 : u 12 = .bool sp := (hu 12).symm.trans s12
  rw [s0, s1, s2, s4, s5, s12]
  clear hfr hu s0 s1 s2 s4 s5 s12
  conv => arg 2; whnf
  have HM : Hid _ := mark_calls b 5 (.bool T.any) (.int .u64 T.last) p w (hB.cell 5) (hB.cell 6) (hB.frozen 5) (hB.frozen 6)
  obtain ⟨tk, ts, tl, t3, t4, t5, t6, t7, t8, t9⟩ := T
  have b7 : w.cell? ⟨b, 7, none⟩ = some (.int .u64 t7) := hB.cell 7
  have fz7 := hB.frozen 7
  have b8 : w.cell? ⟨b, 8, none⟩ = some (.bool t8) := hB.cell 8
  have fz8 := hB.frozen 8
  have HB : Hid _ := hB
  have H : Hid _ := hQ
  clear hQ hB
  go_wp2_with (go_at_call 43; refine Calls.mono HM.out ?_; rintro e w' ⟨rfl, rfl⟩)
  exact H.out _ _ ⟨rfl, rfl⟩ ⟨rfl, rfl, rfl, rfl, rfl, rfl, trivial⟩ (((((Kept.refl _ _).set _ (.inl (by simp))).set _ (.inl (by simp))).set _ (.inl (by simp))).set _ (.inl (by simp))) (IsB.set (IsB.set (IsB.set (IsB.set (IsB.as HB.out) 5 _) 6 _) 7 _) 8 _)

set_option maxRecDepth 10000 in
set_option maxHeartbeats 1000000 in
theorem p12 (b n rc ic : Nat) (xr xi : Option Addr) (p ck : Int) (sp : Bool) (T : IW) (c : Bool) (a : Act) (w : World) (Q : Exit → Act → World → Prop) (hfr : Fr 101 a) (hs : Slots [(0, .pointer (some ⟨b, 0, none⟩)), (1, .int .u64 p), (2, .int .i64 ck), (4, .slice xr n rc), (5, .slice xi n ic), (12, .bool sp)] a)
    (hB : IsB w b T.arr 93) (hcall : (T.whole && T.seen && !T.cnt) = true → Calls Try.prog 44 #[.pointer (some ⟨b, 0, none⟩), .int .i64 ck, .slice xr n rc, .slice xi n ic] w fun e w' => e = .returned (.bool c) ∧ ∃ m, w' = w.drewN m)
    (hQ : ∀ a' w', (∃ m, w' = w.drewN m) → Fr 101 a' → Slots [(0, .pointer (some ⟨b, 0, none⟩)), (1, .int .u64 p), (2, .int .i64 ck), (4, .slice xr n rc), (5, .slice xi n ic), (12, .bool sp), (48, .bool (T.whole && T.seen && !T.cnt && !c))] a' → Q .normal a' w') :
    Code.wp Try.prog (hdC (elC (tlC (inC (nthC 3 (bodyC Try.f37)))))) Q a w := by
  obtain ⟨u, hu, rfl⟩ := lay101 hfr
  obtain ⟨s0, s1, s2, s4, s5, s12, -⟩ := hs
  replace s0 : u 0 = .pointer (some ⟨b, 0, none⟩) := (hu 0).symm.trans s0
  replace s1 : u 1 = .int .u64 p := (hu 1).symm.trans s1
  replace s2 : u 2 = .int .i64 ck := (hu 2).symm.trans s2
  replace s4 : u 4 = .slice xr n rc := (hu 4).symm.trans s4
  replace s5 : u 5 = .slice xi n ic := (hu 5).symm.trans s5
  replace s12 : u 12 = .bool sp := (hu 12).symm.trans s12
  rw [s0, s1, s2, s4, s5, s12]
  clear hfr hu s0 s1 s2 s4 s5 s12
  conv => arg 2; whnf
  obtain ⟨tk, ts, tl, t3, t4, t5, t6, t7, t8, t9⟩ := T
  simp only at hcall
  have b3 : w.cell? ⟨b, 3, none⟩ = some (.bool t3) := hB.cell 3
  have fz3 := hB.frozen 3
  have b8 : w.cell? ⟨b, 8, none⟩ = some (.bool t8) := hB.cell 8
  have fz8 := hB.frozen 8
  have b9 : w.cell? ⟨b, 9, none⟩ = some (.bool t9) := hB.cell 9
  have fz9 := hB.frozen 9
  have H : Hid _ := hQ
  clear hQ hB fz3 fz8 fz9
  cases t8 with
  | false =>
    clear hcall
    go_wp2
    exact H.out _ _ ⟨0, rfl⟩ ⟨rfl, rfl⟩ ⟨rfl, rfl, rfl, rfl, rfl, rfl, rfl, trivial⟩
  | true =>
    cases t3 with
    | false =>
      clear hcall
      go_wp2
      exact H.out _ _ ⟨0, rfl⟩ ⟨rfl, rfl⟩ ⟨rfl, rfl, rfl, rfl, rfl, rfl, rfl, trivial⟩
    | true =>
      cases t9 with
      | true =>
        clear hcall
        go_wp2
        exact H.out _ _ ⟨0, rfl⟩ ⟨rfl, rfl⟩ ⟨rfl, rfl, rfl, rfl, rfl, rfl, rfl, trivial⟩
      | false =>
        have HC : Hid _ := hcall rfl
        clear hcall
        go_wp2_with (go_at_call 44; refine Calls.mono HC.out ?_; rintro e w' ⟨rfl, m, rfl⟩)
        cases c <;> exact H.out _ _ ⟨m, rfl⟩ ⟨rfl, rfl⟩ ⟨rfl, rfl, rfl, rfl, rfl, rfl, rfl, trivial⟩

set_option maxRecDepth 10000 in
set_option maxHeartbeats 1000000 in
theorem p13 (b n rc ic : Nat) (xr xi : Option Addr) (p ck : Int) (sp : Bool) (T : IW) (a : Act) (w : World) (Q : Exit → Act → World → Prop) (hfr : Fr 101 a) (hs : Slots [(0, .pointer (some ⟨b, 0, none⟩)), (1, .int .u64 p), (2, .int .i64 ck), (4, .slice xr n rc), (5, .slice xi n ic), (12, .bool sp)] a)
    (hB : IsB w b T.arr 93) (v0 : 0 ≤ T.viol) (v1 : T.viol ≤ 1000000) (hQ : ∀ a' w', Fr 101 a' → Slots [(0, .pointer (some ⟨b, 0, none⟩)), (1, .int .u64 p), (2, .int .i64 ck), (4, .slice xr n rc), (5, .slice xi n ic), (12, .bool sp)] a' → Kept [b] w w' → IsB w' b { T with viol := T.viol + 1, cnt := true }.arr 93 → Q .normal a' w') :
    Code.wp Try.prog (thC (tlC (elC (tlC (inC (nthC 3 (bodyC Try.f37))))))) Q a w := by
  obtain ⟨u, hu, rfl⟩ := lay101 hfr
  obtain ⟨s0, s1, s2, s4, s5, s12, -⟩ := hs
  replace s0 : u 0 = .pointer (some ⟨b, 0, none⟩) := (hu 0).symm.trans s0
  replace s1 : u 1 = .int .u64 p := (hu 1).symm.trans s1
  replace s2 : u 2 = .int .i64 ck := (hu 2).symm.trans s2
  replace s4 : u 4 = .slice xr n rc := (hu 4).symm.trans s4
  replace s5 : u 5 = .slice xi n ic := (hu 5).symm.trans s5
  replace s12 : u 12 = .bool sp := (hu 12).symm.trans s12
  rw [s0, s1, s2, s4, s5, s12]
  clear hfr hu s0 s1 s2 s4 s5 s12
  conv => arg 2; whnf
  obtain ⟨tk, ts, tl, t3, t4, t5, t6, t7, t8, t9⟩ := T
  have b7 : w.cell? ⟨b, 7, none⟩ = some (.int .u64 t7) := hB.cell 7
  have fz7 := hB.frozen 7
  have b9 : w.cell? ⟨b, 9, none⟩ = some (.bool t9) := hB.cell 9
  have fz9 := hB.frozen 9
  simp only at v0 v1
  have wv : IntKind.u64.wrap (t7 + 1) = t7 + 1 := by rw [IntKind.wrap_u64]; omega
  have HB : Hid _ := hB
  have H : Hid _ := hQ
  clear hQ hB
  go_wp2
  refine H.out _ _ ⟨rfl, rfl⟩ ⟨rfl, rfl, rfl, rfl, rfl, rfl, trivial⟩ (((Kept.refl _ _).set _ (.inl (by simp))).set _ (.inl (by simp))) ?_
  exact IsB.set (IsB.set (IsB.as HB.out) 7 _) 9 _

/-- append, its run known. -/
theorem wpList_append_run {P : Program} (w : World) {ops : Array Oper} {rest : List Oper} {o : Oper} {a : Act} {Q : Exit → Act → World → Prop}
    (hg : o.guard = none) (s x : Operand) (t : TypeId) (hop : o.op = Op.call { callee := Callee.builtin Builtin.append, args := #[s, x], argTypes := #[t, t] }) (vs vx : Value) (hs : a.eval s = vs) (hx : a.eval x = vx)
    (v' : Value) (w' : World) (hrun : (Builtin.append_ #[t, t] 0 #[vs, vx]).run P w = .ok v' w') (hK : wpList P ops Q rest (a.put o.dst v') w') : wpList P ops Q (o :: rest) a w := by
  refine wpList_plain hg fun K hK' => ?_
  have hrun' : (Builtin.append_ #[t, t] o.type #[vs, vx]).run P w = .ok v' w' := hrun
  unfold Oper.wp
  simp [execOp, hop, resolve, invoke, builtin, hs, hx, hrun', Result.andThen]
  exact hK' _ _ hK

set_option maxRecDepth 10000 in
set_option maxHeartbeats 1000000 in
theorem p15 (b n rc ic : Nat) (xr xi : Option Addr) (p ck : Int) (sp : Bool) (T : IW) (lp vp : Option Addr) (ln lc vn vc : Nat) (w1 : World) (a : Act) (w : World) (Q : Exit → Act → World → Prop) (hfr : Fr 101 a) (hs : Slots [(0, .pointer (some ⟨b, 0, none⟩)), (1, .int .u64 p), (2, .int .i64 ck), (4, .slice xr n rc), (5, .slice xi n ic), (12, .bool sp)] a)
    (hlv : T.lv = .slice lp ln lc) (hlp : (lp = none ∧ lc = 0) ∨ ∃ g, lp = some ⟨g, 0, none⟩ ∧ 0 < lc) (hB : IsB w b T.arr 93) (hB1 : IsB w1 b T.arr 93) (hrun : (Builtin.append_ #[25, 25] 0 #[.slice lp 0 lc, .slice xi n ic]).run Try.prog w = .ok (.slice vp vn vc) w1)
    (hQ : ∀ a' w', Fr 101 a' → Slots [(0, .pointer (some ⟨b, 0, none⟩)), (1, .int .u64 p), (2, .int .i64 ck), (4, .slice xr n rc), (5, .slice xi n ic), (12, .bool sp)] a' → Kept [b] w1 w' → IsB w' b { T with lv := .slice vp vn vc }.arr 93 → Q .normal a' w') :
    Code.wp Try.prog (nthC 4 (bodyC Try.f37)) Q a w := by
  obtain ⟨u, hu, rfl⟩ := lay101 hfr
  obtain ⟨s0, s1, s2, s4, s5, s12, -⟩ := hs
  replace s0 : u 0 = .pointer (some ⟨b, 0, none⟩) := (hu 0).symm.trans s0
  replace s1 : u 1 = .int .u64 p := (hu 1).symm.trans s1
  replace s2 : u 2 = .int .i64 ck := (hu 2).symm.trans s2
  replace s4 : u 4 = .slice xr n rc := (hu 4).symm.trans s4
  replace s5 : u 5 = .slice xi n ic := (hu 5).symm.trans s5
  replace s12 : u 12 = .bool sp := (hu 12).symm.trans s12
  rw [s0, s1, s2, s4, s5, s12]
  clear hfr hu s0 s1 s2 s4 s5 s12
  conv => arg 2; whnf
  obtain ⟨tk, ts, tl, t3, t4, t5, t6, t7, t8, t9⟩ := T
  simp only at hlv
  subst hlv
  have b2 : w.cell? ⟨b, 2, none⟩ = some (.slice lp ln lc) := hB.cell 2
  have c2 : w1.cell? ⟨b, 2, none⟩ = some (.slice lp ln lc) := hB1.cell 2
  have fz2 := hB1.frozen 2
  have HB : Hid _ := hB1
  have HR : Hid _ := hrun
  have H : Hid _ := hQ
  clear hQ hB hB1 hrun
  rcases hlp with ⟨rfl, rfl⟩ | ⟨g, rfl, h0⟩
  · go_wp2_with (first | (at_builtin; refine wpList_append_run _ rfl _ _ 25 rfl _ _ rfl rfl (.slice vp vn vc) w1 HR.out ?_))
    exact H.out _ _ ⟨rfl, rfl⟩ ⟨rfl, rfl, rfl, rfl, rfl, rfl, trivial⟩ ((Kept.refl _ _).set _ (.inl (by simp))) (IsB.set (IsB.as HB.out) 2 _)
  · have h1 : ¬ (lc = 0) := by omega
    go_wp2_with (first | (at_builtin; refine wpList_append_run _ rfl _ _ 25 rfl _ _ rfl rfl (.slice vp vn vc) w1 HR.out ?_))
    exact H.out _ _ ⟨rfl, rfl⟩ ⟨rfl, rfl, rfl, rfl, rfl, rfl, trivial⟩ ((Kept.refl _ _).set _ (.inl (by simp))) (IsB.set (IsB.as HB.out) 2 _)

set_option maxRecDepth 10000 in
set_option maxHeartbeats 1000000 in
theorem p16 (b n rc ic : Nat) (xr xi : Option Addr) (p ck : Int) (sp : Bool) (T : IW) (a : Act) (w : World) (Q : Exit → Act → World → Prop) (hfr : Fr 101 a) (hs : Slots [(0, .pointer (some ⟨b, 0, none⟩)), (1, .int .u64 p), (2, .int .i64 ck), (4, .slice xr n rc), (5, .slice xi n ic), (12, .bool sp)] a)
    (hB : IsB w b T.arr 93) (hQ : ∀ a' w', Fr 101 a' → Kept [b] w w' → IsB w' b { T with seen := true, split := sp }.arr 93 → Q .normal a' w') :
    Code.wp Try.prog (dropC 5 (bodyC Try.f37)) Q a w := by
  obtain ⟨u, hu, rfl⟩ := lay101 hfr
  obtain ⟨s0, s1, s2, s4, s5, s12, -⟩ := hs
  replace s0 : u 0 = .pointer (some ⟨b, 0, none⟩) := (hu 0).symm.trans s0
  replace s1 : u 1 = .int .u64 p := (hu 1).symm.trans s1
  replace s2 : u 2 = .int .i64 ck := (hu 2).symm.trans s2
  replace s4 : u 4 = .slice xr n rc := (hu 4).symm.trans s4
  replace s5 : u 5 = .slice xi n ic := (hu 5).symm.trans s5
  replace s12 : u 12 = .bool sp := (hu 12).symm.trans s12
  rw [s0, s1, s2, s4, s5, s12]
  clear hfr hu s0 s1 s2 s4 s5 s12
  conv => arg 2; whnf
  obtain ⟨tk, ts, tl, t3, t4, t5, t6, t7, t8, t9⟩ := T
  have b3 : w.cell? ⟨b, 3, none⟩ = some (.bool t3) := hB.cell 3
  have fz3 := hB.frozen 3
  have b4 : w.cell? ⟨b, 4, none⟩ = some (.bool t4) := hB.cell 4
  have fz4 := hB.frozen 4
  have HB : Hid _ := hB
  have H : Hid _ := hQ
  clear hQ hB
  go_wp2
  exact H.out _ _ ⟨rfl, rfl⟩ (((Kept.refl _ _).set _ (.inl (by simp))).set _ (.inl (by simp))) (IsB.set (IsB.set (IsB.as HB.out) 3 _) 4 _)

end Go.Proofs.Qxb6602526a
