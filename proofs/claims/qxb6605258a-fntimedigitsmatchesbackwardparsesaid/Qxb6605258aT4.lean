import Derived.Test.Qxb6605258aT3
import Derived.Test.Qxb6605258aNav
import Derived.BigQuiet
import Derived.Deep.QuietTactic
import Derived.Deep.RegionWith
namespace Go.Proofs.Qxb6605258a
open Go.RowKit
set_option linter.unusedSimpArgs false
set_option linter.unusedVariables false

set_option maxRecDepth 10000 in
set_option maxHeartbeats 1000000 in
theorem q0 (s : ByteArray) (a : Act) (w : World) (Q : Exit → Act → World → Prop) (hfr : Fr 93 a) (hs : Slots [(0, .string s)] a)
    (hQ : ∀ a', Fr 93 a' → Slots [(0, .string s)] a' → Q .normal a' w) :
    Code.wp Try.prog (nthC 0 (bodyC Try.f14)) Q a w := by
  obtain ⟨u, hu, rfl⟩ := lay93 hfr
  obtain ⟨s0, -⟩ := hs
  replace s0 : u 0 = .string s := (hu 0).symm.trans s0
  rw [s0]
  clear hfr hu s0
  conv => arg 2; whnf
  have H : Hid _ := hQ
  clear hQ
  go_wp2
  exact H.out _ ⟨rfl, rfl⟩ ⟨rfl, trivial⟩

set_option maxRecDepth 10000 in
set_option maxHeartbeats 1000000 in
theorem q1 (s : ByteArray) (a : Act) (w : World) (Q : Exit → Act → World → Prop) (hfr : Fr 93 a) (hs : Slots [(0, .string s)] a)
    (hQ : ∀ a', Fr 93 a' → Slots [(0, .string s), (4, .int .i64 (s.size : Nat))] a' → Q .normal a' w) :
    Code.wp Try.prog (nthC 1 (bodyC Try.f14)) Q a w := by
  obtain ⟨u, hu, rfl⟩ := lay93 hfr
  obtain ⟨s0, -⟩ := hs
  replace s0 : u 0 = .string s := (hu 0).symm.trans s0
  rw [s0]
  clear hfr hu s0
  conv => arg 2; whnf
  have H : Hid _ := hQ
  clear hQ
  go_wp2
  exact H.out _ ⟨rfl, rfl⟩ ⟨rfl, rfl, trivial⟩

set_option maxRecDepth 10000 in
set_option maxHeartbeats 1000000 in
theorem q2 (s : ByteArray) (hd : Bool) (a : Act) (w : World) (Q : Exit → Act → World → Prop) (hfr : Fr 93 a) (hs : Slots [(0, .string s), (4, .int .i64 (s.size : Nat))] a)
    (hcall : 20 ≤ s.size → Calls Try.prog 20 #[.string s] w fun e w' => e = .returned (.bool hd) ∧ w' = w) (hQ : ∀ a', 20 ≤ s.size → hd = true → Fr 93 a' → Slots [(0, .string s), (4, .int .i64 (s.size : Nat))] a' → Q .normal a' w) (hret : ∀ a', ¬ (20 ≤ s.size ∧ hd = true) → Fr 93 a' → sl a' 2 = .int .i64 0 → sl a' 3 = .bool false → Q .ret a' w) :
    Code.wp Try.prog (nthC 2 (bodyC Try.f14)) Q a w := by
  obtain ⟨u, hu, rfl⟩ := lay93 hfr
  obtain ⟨s0, s4, -⟩ := hs
  replace s0 : u 0 = .string s := (hu 0).symm.trans s0
  replace s4 : u 4 = .int .i64 (s.size : Nat) := (hu 4).symm.trans s4
  rw [s0, s4]
  clear hfr hu s0 s4
  conv => arg 2; whnf
  have H : Hid _ := hQ
  have HR : Hid _ := hret
  clear hQ hret
  by_cases h : s.size < 20
  · have l : (s.size : Int) < 20 := by omega
    clear hcall
    go_wp2
    exact HR.out _ (by omega) ⟨rfl, rfl⟩ rfl rfl
  · have l : ¬ ((s.size : Int) < 20) := by omega
    have HC : Hid _ := hcall (by omega)
    clear hcall
    cases hd
    · go_wp2_with (go_at_call 20; refine Calls.mono HC.out ?_; rintro e w' ⟨rfl, rfl⟩)
      exact HR.out _ (by simp) ⟨rfl, rfl⟩ rfl rfl
    · go_wp2_with (go_at_call 20; refine Calls.mono HC.out ?_; rintro e w' ⟨rfl, rfl⟩)
      exact H.out _ (by omega) (by trivial) ⟨rfl, rfl⟩ ⟨rfl, rfl, trivial⟩

set_option maxRecDepth 10000 in
set_option maxHeartbeats 1000000 in
theorem q3h (s : ByteArray) (a : Act) (w : World) (Q : Exit → Act → World → Prop) (hfr : Fr 93 a) (hs : Slots [(0, .string s), (4, .int .i64 (s.size : Nat))] a)
    (h20 : 20 ≤ s.size) (ls : s.size ≤ 1048576) (hQ : ∀ a', Fr 93 a' → Slots [(0, .string s), (4, .int .i64 (s.size : Nat)), (40, .bool (decide (25 ≤ s.size) && ((bt s (s.size - 6) == 43) || (bt s (s.size - 6) == 45)) && (bt s (s.size - 3) == 58)))] a' → Q .normal a' w) :
    Code.wp Try.prog (hdC (nthC 3 (bodyC Try.f14))) Q a w := by
  obtain ⟨u, hu, rfl⟩ := lay93 hfr
  obtain ⟨s0, s4, -⟩ := hs
  replace s0 : u 0 = .string s := (hu 0).symm.trans s0
  replace s4 : u 4 = .int .i64 (s.size : Nat) := (hu 4).symm.trans s4
  rw [s0, s4]
  clear hfr hu s0 s4
  conv => arg 2; whnf
  have hb := bt_at s
  have H : Hid _ := hQ
  clear hQ
  have e6 : IntKind.i64.wrap ((s.size : Int) - 6) = ((s.size - 6 : Nat) : Int) := by rw [IntKind.wrap_i64]; omega
  have e3 : IntKind.i64.wrap ((s.size : Int) - 3) = ((s.size - 3 : Nat) : Int) := by rw [IntKind.wrap_i64]; omega
  have m6 : s.size - 6 < s.size := by omega
  have m3 : s.size - 3 < s.size := by omega
  have i6 : ((s.size - 6 : Nat) : Int) < s.size := by omega
  have i3 : ((s.size - 3 : Nat) : Int) < s.size := by omega
  by_cases h : 25 ≤ s.size
  case neg =>
    have l : ¬ ((25 : Int) ≤ s.size) := by omega
    have d : decide (25 ≤ s.size) = false := by simpa using h
    rw [d] at H
    clear ls h20 h
    go_wp2
    exact H.out _ ⟨rfl, rfl⟩ ⟨rfl, rfl, rfl, trivial⟩
  have l : (25 : Int) ≤ s.size := by omega
  have d : decide (25 ≤ s.size) = true := by simpa using h
  rw [d] at H
  clear ls h20 h d
  generalize s.size - 6 = j6 at *
  generalize s.size - 3 = j3 at *
  by_cases g1 : bt s j6 = 43
  · rw [g1] at H
    by_cases g3 : bt s j3 = 58
    · rw [g3] at H
      go_wp2
      exact H.out _ ⟨rfl, rfl⟩ ⟨rfl, rfl, rfl, trivial⟩
    · have g : (bt s j3 == 58) = false := by simpa using g3
      rw [g] at H
      clear g3
      go_wp2
      exact H.out _ ⟨rfl, rfl⟩ ⟨rfl, rfl, rfl, trivial⟩
  · have k1 : (bt s j6 == 43) = false := by simpa using g1
    clear g1
    by_cases g2 : bt s j6 = 45
    · rw [g2] at H
      by_cases g3 : bt s j3 = 58
      · rw [g3] at H
        go_wp2
        exact H.out _ ⟨rfl, rfl⟩ ⟨rfl, rfl, rfl, trivial⟩
      · have g : (bt s j3 == 58) = false := by simpa using g3
        rw [g] at H
        clear g3
        go_wp2
        exact H.out _ ⟨rfl, rfl⟩ ⟨rfl, rfl, rfl, trivial⟩
    · have k2 : (bt s j6 == 45) = false := by simpa using g2
      clear g2
      rw [k1, k2] at H
      go_wp2
      exact H.out _ ⟨rfl, rfl⟩ ⟨rfl, rfl, rfl, trivial⟩

set_option maxRecDepth 10000 in
set_option maxHeartbeats 1000000 in
theorem q5 (s : ByteArray) (N : Int) (ok : Bool) (a : Act) (w : World) (Q : Exit → Act → World → Prop) (hfr : Fr 93 a) (hs : Slots [(0, .string s), (4, .int .i64 (s.size : Nat))] a)
    (h25 : 25 ≤ s.size) (ls : s.size ≤ 1048576) (hcall : Calls Try.prog 21 #[.string (s.extract 19 (s.size - 6))] w fun e w' => e = .returned (.tuple #[.int .i64 N, .bool ok]) ∧ w' = w) (hQ : ∀ a', Fr 93 a' → Slots [(0, .string s), (4, .int .i64 (s.size : Nat)), (5, .int .i64 N), (6, .bool ok)] a' → Q .normal a' w) :
    Code.wp Try.prog (nthC 0 (thC (tlC (nthC 3 (bodyC Try.f14))))) Q a w := by
  obtain ⟨u, hu, rfl⟩ := lay93 hfr
  obtain ⟨s0, s4, -⟩ := hs
  replace s0 : u 0 = .string s := (hu 0).symm.trans s0
  replace s4 : u 4 = .int .i64 (s.size : Nat) := (hu 4).symm.trans s4
  rw [s0, s4]
  clear hfr hu s0 s4
  conv => arg 2; whnf
  have HC : Hid _ := hcall
  clear hcall
  have H : Hid _ := hQ
  clear hQ
  have e6 : IntKind.i64.wrap ((s.size : Int) - 6) = ((s.size - 6 : Nat) : Int) := by rw [IntKind.wrap_i64]; omega
  have l1 : (19 : Int) ≤ ((s.size - 6 : Nat) : Int) := by omega
  have l2 : ((s.size - 6 : Nat) : Int) ≤ s.size := by omega
  clear h25 ls
  generalize s.size - 6 = j6 at *
  go_wp2_with (go_at_call 21; refine Calls.mono HC.out ?_; rintro e w' ⟨rfl, rfl⟩)
  exact H.out _ ⟨rfl, rfl⟩ ⟨rfl, rfl, rfl, rfl, trivial⟩

set_option maxRecDepth 10000 in
set_option maxHeartbeats 1000000 in
theorem q6 (s : ByteArray) (N : Int) (ok : Bool) (a : Act) (w : World) (Q : Exit → Act → World → Prop) (hfr : Fr 93 a) (hs : Slots [(0, .string s), (4, .int .i64 (s.size : Nat)), (5, .int .i64 N), (6, .bool ok)] a)
    (hQ : ∀ a', Fr 93 a' → Slots [(0, .string s), (4, .int .i64 (s.size : Nat)), (5, .int .i64 N), (6, .bool ok), (49, .bool ok)] a' → Q .normal a' w) :
    Code.wp Try.prog (nthC 1 (thC (tlC (nthC 3 (bodyC Try.f14))))) Q a w := by
  obtain ⟨u, hu, rfl⟩ := lay93 hfr
  obtain ⟨s0, s4, s5, s6, -⟩ := hs
  replace s0 : u 0 = .string s := (hu 0).symm.trans s0
  replace s4 : u 4 = .int .i64 (s.size : Nat) := (hu 4).symm.trans s4
  replace s5 : u 5 = .int .i64 N := (hu 5).symm.trans s5
  replace s6 : u 6 = .bool ok := (hu 6).symm.trans s6
  rw [s0, s4, s5, s6]
  clear hfr hu s0 s4 s5 s6
  conv => arg 2; whnf
  have H : Hid _ := hQ
  clear hQ
  go_wp2
  exact H.out _ ⟨rfl, rfl⟩ ⟨rfl, rfl, rfl, rfl, rfl, trivial⟩

set_option maxRecDepth 10000 in
set_option maxHeartbeats 1000000 in
theorem q7 (s : ByteArray) (N : Int) (ok : Bool) (a : Act) (w : World) (Q : Exit → Act → World → Prop) (hfr : Fr 93 a) (hs : Slots [(0, .string s), (4, .int .i64 (s.size : Nat)), (5, .int .i64 N), (6, .bool ok)] a)
    (h25 : 25 ≤ s.size) (ls : s.size ≤ 1048576) (hret : ∀ a' m, Fr 93 a' → sl a' 2 = .int .i64 N → sl a' 3 = .bool (atM (bt s (s.size - 5)) (bt s (s.size - 4)) 23 && atM (bt s (s.size - 2)) (bt s (s.size - 1)) 59) → Q .ret a' (w.drewN m)) :
    Code.wp Try.prog (thC (dropC 2 (thC (tlC (nthC 3 (bodyC Try.f14)))))) Q a w := by
  obtain ⟨u, hu, rfl⟩ := lay93 hfr
  obtain ⟨s0, s4, s5, s6, -⟩ := hs
  replace s0 : u 0 = .string s := (hu 0).symm.trans s0
  replace s4 : u 4 = .int .i64 (s.size : Nat) := (hu 4).symm.trans s4
  replace s5 : u 5 = .int .i64 N := (hu 5).symm.trans s5
  replace s6 : u 6 = .bool ok := (hu 6).symm.trans s6
  rw [s0, s4, s5, s6]
  clear hfr hu s0 s4 s5 s6
  conv => arg 2; whnf
  have hb := bt_at s
  have H : Hid _ := hret
  clear hret
  have e5 : IntKind.i64.wrap ((s.size : Int) - 5) = ((s.size - 5 : Nat) : Int) := by rw [IntKind.wrap_i64]; omega
  have e4 : IntKind.i64.wrap ((s.size : Int) - 4) = ((s.size - 4 : Nat) : Int) := by rw [IntKind.wrap_i64]; omega
  have e2 : IntKind.i64.wrap ((s.size : Int) - 2) = ((s.size - 2 : Nat) : Int) := by rw [IntKind.wrap_i64]; omega
  have e1 : IntKind.i64.wrap ((s.size : Int) - 1) = ((s.size - 1 : Nat) : Int) := by rw [IntKind.wrap_i64]; omega
  have m5 : s.size - 5 < s.size := by omega
  have i5 : ((s.size - 5 : Nat) : Int) < s.size := by omega
  have m4 : s.size - 4 < s.size := by omega
  have i4 : ((s.size - 4 : Nat) : Int) < s.size := by omega
  have m2 : s.size - 2 < s.size := by omega
  have i2 : ((s.size - 2 : Nat) : Int) < s.size := by omega
  have m1 : s.size - 1 < s.size := by omega
  have i1 : ((s.size - 1 : Nat) : Int) < s.size := by omega
  clear h25 ls
  generalize s.size - 5 = j5 at *
  generalize s.size - 4 = j4 at *
  generalize s.size - 2 = j2 at *
  generalize s.size - 1 = j1 at *
  have HA : Hid _ := fun (w : World) => atMost22 (bt s j5) (bt s j4) 23 w (bt_nonneg _ _) (bt_lt _ _) (bt_nonneg _ _) (bt_lt _ _)
  have HB : Hid _ := fun (w : World) => atMost22 (bt s j2) (bt s j1) 59 w (bt_nonneg _ _) (bt_lt _ _) (bt_nonneg _ _) (bt_lt _ _)
  generalize atM (bt s j5) (bt s j4) 23 = vA at *
  generalize atM (bt s j2) (bt s j1) 59 = vB at *
  cases vA
  · go_wp2_with fail
    go_quiet ((first | (go_at_call_of 22 (Value.int .i64 23); exact Calls.quiet_of_same (HA.out _)) | (go_at_call_of 22 (Value.int .i64 59); exact Calls.quiet_of_same (HB.out _))))
    go_wp2
    exact H.out _ _ ⟨rfl, rfl⟩ rfl rfl
  · cases vB
    · go_wp2_with fail
      go_quiet ((first | (go_at_call_of 22 (Value.int .i64 23); exact Calls.quiet_of_same (HA.out _)) | (go_at_call_of 22 (Value.int .i64 59); exact Calls.quiet_of_same (HB.out _))))
      go_wp2
      exact H.out _ _ ⟨rfl, rfl⟩ rfl rfl
    · go_wp2_with fail
      go_quiet ((first | (go_at_call_of 22 (Value.int .i64 23); exact Calls.quiet_of_same (HA.out _)) | (go_at_call_of 22 (Value.int .i64 59); exact Calls.quiet_of_same (HB.out _))))
      go_wp2
      exact H.out _ _ ⟨rfl, rfl⟩ rfl rfl

set_option maxRecDepth 10000 in
set_option maxHeartbeats 1000000 in
theorem q8 (s : ByteArray) (a : Act) (w : World) (Q : Exit → Act → World → Prop) (hfr : Fr 93 a) (hs : Slots [(0, .string s), (4, .int .i64 (s.size : Nat))] a)
    (h20 : 20 ≤ s.size) (ls : s.size ≤ 1048576) (hQ : ∀ a', Fr 93 a' → Slots [(0, .string s), (4, .int .i64 (s.size : Nat)), (82, .bool ((bt s (s.size - 1) == 90) || (bt s (s.size - 1) == 122)))] a' → Q .normal a' w) :
    Code.wp Try.prog (hdC (nthC 4 (bodyC Try.f14))) Q a w := by
  obtain ⟨u, hu, rfl⟩ := lay93 hfr
  obtain ⟨s0, s4, -⟩ := hs
  replace s0 : u 0 = .string s := (hu 0).symm.trans s0
  replace s4 : u 4 = .int .i64 (s.size : Nat) := (hu 4).symm.trans s4
  rw [s0, s4]
  clear hfr hu s0 s4
  conv => arg 2; whnf
  have hb := bt_at s
  have H : Hid _ := hQ
  clear hQ
  have e1 : IntKind.i64.wrap ((s.size : Int) - 1) = ((s.size - 1 : Nat) : Int) := by rw [IntKind.wrap_i64]; omega
  have m1 : s.size - 1 < s.size := by omega
  have i1 : ((s.size - 1 : Nat) : Int) < s.size := by omega
  clear ls h20
  generalize s.size - 1 = j1 at *
  by_cases g1 : bt s j1 = 90
  · rw [g1] at H
    go_wp2
    exact H.out _ ⟨rfl, rfl⟩ ⟨rfl, rfl, rfl, trivial⟩
  · have k1 : (bt s j1 == 90) = false := by simpa using g1
    rw [k1] at H
    clear g1
    go_wp2
    exact H.out _ ⟨rfl, rfl⟩ ⟨rfl, rfl, rfl, trivial⟩

set_option maxRecDepth 10000 in
set_option maxHeartbeats 1000000 in
theorem q9 (s : ByteArray) (N : Int) (ok : Bool) (a : Act) (w : World) (Q : Exit → Act → World → Prop) (hfr : Fr 93 a) (hs : Slots [(0, .string s), (4, .int .i64 (s.size : Nat))] a)
    (h20 : 20 ≤ s.size) (ls : s.size ≤ 1048576) (hcall : Calls Try.prog 21 #[.string (s.extract 19 (s.size - 1))] w fun e w' => e = .returned (.tuple #[.int .i64 N, .bool ok]) ∧ w' = w) (hQ : ∀ a', Fr 93 a' → Slots [(0, .string s), (4, .int .i64 (s.size : Nat)), (7, .int .i64 N), (8, .bool ok)] a' → Q .normal a' w) :
    Code.wp Try.prog (nthC 0 (thC (tlC (nthC 4 (bodyC Try.f14))))) Q a w := by
  obtain ⟨u, hu, rfl⟩ := lay93 hfr
  obtain ⟨s0, s4, -⟩ := hs
  replace s0 : u 0 = .string s := (hu 0).symm.trans s0
  replace s4 : u 4 = .int .i64 (s.size : Nat) := (hu 4).symm.trans s4
  rw [s0, s4]
  clear hfr hu s0 s4
  conv => arg 2; whnf
  have HC : Hid _ := hcall
  clear hcall
  have H : Hid _ := hQ
  clear hQ
  have e1 : IntKind.i64.wrap ((s.size : Int) - 1) = ((s.size - 1 : Nat) : Int) := by rw [IntKind.wrap_i64]; omega
  have l1 : (19 : Int) ≤ ((s.size - 1 : Nat) : Int) := by omega
  have l2 : ((s.size - 1 : Nat) : Int) ≤ s.size := by omega
  clear h20 ls
  generalize s.size - 1 = j1 at *
  go_wp2_with (go_at_call 21; refine Calls.mono HC.out ?_; rintro e w' ⟨rfl, rfl⟩)
  exact H.out _ ⟨rfl, rfl⟩ ⟨rfl, rfl, rfl, rfl, trivial⟩

set_option maxRecDepth 10000 in
set_option maxHeartbeats 1000000 in
theorem q10 (s : ByteArray) (N : Int) (ok : Bool) (a : Act) (w : World) (Q : Exit → Act → World → Prop) (hfr : Fr 93 a) (hs : Slots [(0, .string s), (4, .int .i64 (s.size : Nat)), (7, .int .i64 N), (8, .bool ok)] a)
    (hQ : ∀ a', Fr 93 a' → Slots [(0, .string s), (4, .int .i64 (s.size : Nat)), (7, .int .i64 N), (8, .bool ok), (91, .bool ok)] a' → Q .normal a' w) :
    Code.wp Try.prog (nthC 1 (thC (tlC (nthC 4 (bodyC Try.f14))))) Q a w := by
  obtain ⟨u, hu, rfl⟩ := lay93 hfr
  obtain ⟨s0, s4, s7, s8, -⟩ := hs
  replace s0 : u 0 = .string s := (hu 0).symm.trans s0
  replace s4 : u 4 = .int .i64 (s.size : Nat) := (hu 4).symm.trans s4
  replace s7 : u 7 = .int .i64 N := (hu 7).symm.trans s7
  replace s8 : u 8 = .bool ok := (hu 8).symm.trans s8
  rw [s0, s4, s7, s8]
  clear hfr hu s0 s4 s7 s8
  conv => arg 2; whnf
  have H : Hid _ := hQ
  clear hQ
  go_wp2
  exact H.out _ ⟨rfl, rfl⟩ ⟨rfl, rfl, rfl, rfl, rfl, trivial⟩

set_option maxRecDepth 10000 in
set_option maxHeartbeats 1000000 in
theorem q11 (s : ByteArray) (N : Int) (ok : Bool) (a : Act) (w : World) (Q : Exit → Act → World → Prop) (hfr : Fr 93 a) (hs : Slots [(0, .string s), (4, .int .i64 (s.size : Nat)), (7, .int .i64 N), (8, .bool ok)] a)
    (hret : ∀ a', Fr 93 a' → sl a' 2 = .int .i64 N → sl a' 3 = .bool true → Q .ret a' w) :
    Code.wp Try.prog (thC (dropC 2 (thC (tlC (nthC 4 (bodyC Try.f14)))))) Q a w := by
  obtain ⟨u, hu, rfl⟩ := lay93 hfr
  obtain ⟨s0, s4, s7, s8, -⟩ := hs
  replace s0 : u 0 = .string s := (hu 0).symm.trans s0
  replace s4 : u 4 = .int .i64 (s.size : Nat) := (hu 4).symm.trans s4
  replace s7 : u 7 = .int .i64 N := (hu 7).symm.trans s7
  replace s8 : u 8 = .bool ok := (hu 8).symm.trans s8
  rw [s0, s4, s7, s8]
  clear hfr hu s0 s4 s7 s8
  conv => arg 2; whnf
  have H : Hid _ := hret
  clear hret
  go_wp2
  exact H.out _ ⟨rfl, rfl⟩ rfl rfl

set_option maxRecDepth 10000 in
set_option maxHeartbeats 1000000 in
theorem q12  (a : Act) (w : World) (Q : Exit → Act → World → Prop) (hfr : Fr 93 a)
    (hret : ∀ a', Fr 93 a' → sl a' 2 = .int .i64 0 → sl a' 3 = .bool false → Q .ret a' w) :
    Code.wp Try.prog (dropC 5 (bodyC Try.f14)) Q a w := by
  obtain ⟨u, hu, rfl⟩ := lay93 hfr
  clear hfr hu
  conv => arg 2; whnf
  have H : Hid _ := hret
  clear hret
  go_wp2
  exact H.out _ ⟨rfl, rfl⟩ rfl rfl

end Go.Proofs.Qxb6605258a
