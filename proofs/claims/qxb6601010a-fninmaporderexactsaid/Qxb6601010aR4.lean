import Derived.Test.Qxb6601010aR3
import Derived.OwnWalk
namespace Go.Proofs.Qxb6601010a
open Go.RowKit
set_option linter.unusedSimpArgs false
set_option linter.unusedVariables false

set_option maxRecDepth 10000 in
set_option maxHeartbeats 1000000 in
theorem j0 (hb n : Nat) (a : Act) (w : World) (Q : Exit → Act → World → Prop) (hfr : Fr 67 a) (hs : Slots [(0, .slice (some ⟨hb, 0, none⟩) n n)] a)
    (hQ : ∀ a', Fr 67 a' → Slots [(0, .slice (some ⟨hb, 0, none⟩) n n)] a' → Q .normal a' w) :
    Code.wp Try.prog (nthC 0 (bodyC Try.f23)) Q a w := by
  obtain ⟨u, hu, rfl⟩ := lay67 hfr
  obtain ⟨s0, -⟩ := hs
  replace s0 : u 0 = .slice (some ⟨hb, 0, none⟩) n n := (hu 0).symm.trans s0
  rw [s0]
  clear hfr hu s0
  conv => arg 2; whnf
  have H : Hid _ := hQ
  clear hQ
  go_wp2
  exact H.out _ ⟨rfl, rfl⟩ ⟨rfl, trivial⟩

set_option maxRecDepth 10000 in
set_option maxHeartbeats 1000000 in
theorem j1 (hb n : Nat) (a : Act) (w : World) (Q : Exit → Act → World → Prop) (hfr : Fr 67 a) (hs : Slots [(0, .slice (some ⟨hb, 0, none⟩) n n)] a)
    (hQ : ∀ a', Fr 67 a' → Slots [(0, .slice (some ⟨hb, 0, none⟩) n n), (3, .bool true)] a' → Q .normal a' w) :
    Code.wp Try.prog (nthC 1 (bodyC Try.f23)) Q a w := by
  obtain ⟨u, hu, rfl⟩ := lay67 hfr
  obtain ⟨s0, -⟩ := hs
  replace s0 : u 0 = .slice (some ⟨hb, 0, none⟩) n n := (hu 0).symm.trans s0
  rw [s0]
  clear hfr hu s0
  conv => arg 2; whnf
  have H : Hid _ := hQ
  clear hQ
  go_wp2
  exact H.out _ ⟨rfl, rfl⟩ ⟨rfl, rfl, trivial⟩

set_option maxRecDepth 10000 in
set_option maxHeartbeats 1000000 in
theorem j2i (hb n : Nat) (od : Bool) (a : Act) (w : World) (Q : Exit → Act → World → Prop) (hfr : Fr 67 a) (hs : Slots [(0, .slice (some ⟨hb, 0, none⟩) n n), (3, .bool od)] a)
    (hQ : ∀ a', Fr 67 a' → Slots [(0, .slice (some ⟨hb, 0, none⟩) n n), (3, .bool od), (4, .int .i64 (1 : Nat))] a' → Q .normal a' w) :
    Code.wp Try.prog (hdC (nthC 2 (bodyC Try.f23))) Q a w := by
  obtain ⟨u, hu, rfl⟩ := lay67 hfr
  obtain ⟨s0, s3, -⟩ := hs
  replace s0 : u 0 = .slice (some ⟨hb, 0, none⟩) n n := (hu 0).symm.trans s0
  replace s3 : u 3 = .bool od := (hu 3).symm.trans s3
  rw [s0, s3]
  clear hfr hu s0 s3
  conv => arg 2; whnf
  have H : Hid _ := hQ
  clear hQ
  go_wp2
  exact H.out _ ⟨rfl, rfl⟩ ⟨rfl, rfl, rfl, trivial⟩

set_option maxRecDepth 10000 in
set_option maxHeartbeats 1000000 in
theorem jh (hb n : Nat) (od : Bool) (i : Nat) (a : Act) (w : World) (Q : Exit → Act → World → Prop) (hfr : Fr 67 a) (hs : Slots [(0, .slice (some ⟨hb, 0, none⟩) n n), (3, .bool od), (4, .int .i64 (i : Nat))] a)
    (hQ : ∀ a', i < n → od = true → Fr 67 a' → Slots [(0, .slice (some ⟨hb, 0, none⟩) n n), (3, .bool od), (4, .int .i64 (i : Nat))] a' → Q .normal a' w) (hexit : ∀ a', ¬ (i < n ∧ od = true) → Fr 67 a' → Slots [(0, .slice (some ⟨hb, 0, none⟩) n n), (3, .bool od)] a' → Q (.exit 0) a' w) :
    Code.wp Try.prog (hdC (inC (inC (tlC (nthC 2 (bodyC Try.f23)))))) Q a w := by
  obtain ⟨u, hu, rfl⟩ := lay67 hfr
  obtain ⟨s0, s3, s4, -⟩ := hs
  replace s0 : u 0 = .slice (some ⟨hb, 0, none⟩) n n := (hu 0).symm.trans s0
  replace s3 : u 3 = .bool od := (hu 3).symm.trans s3
  replace s4 : u 4 = .int .i64 (i : Nat) := (hu 4).symm.trans s4
  rw [s0, s3, s4]
  clear hfr hu s0 s3 s4
  conv => arg 2; whnf
  have H : Hid _ := hQ
  have HX : Hid _ := hexit
  clear hQ hexit
  by_cases hlt : i < n
  · have l : (i : Int) < n := by omega
    cases od
    · go_wp2
      exact HX.out _ (by simp) ⟨rfl, rfl⟩ ⟨rfl, rfl, trivial⟩
    · go_wp2
      exact H.out _ hlt (by trivial) ⟨rfl, rfl⟩ ⟨rfl, rfl, rfl, trivial⟩
  · have l : ¬ ((i : Int) < n) := by omega
    go_wp2
    exact HX.out _ (fun h => hlt h.1) ⟨rfl, rfl⟩ ⟨rfl, rfl, trivial⟩

set_option maxRecDepth 10000 in
set_option maxHeartbeats 1000000 in
theorem j5 (hb n : Nat) (od : Bool) (i : Nat) (i1 : Nat) (x y : ByteArray) (a : Act) (w : World) (Q : Exit → Act → World → Prop) (hfr : Fr 67 a) (hs : Slots [(0, .slice (some ⟨hb, 0, none⟩) n n), (3, .bool od), (4, .int .i64 (i : Nat))] a)
    (e1 : IntKind.i64.wrap ((i : Int) - 1) = (i1 : Int)) (l1 : (i1 : Int) < n) (l2 : (i : Int) < n) (c1 : w.cell? ⟨hb, i1 * 2, none⟩ = some (.string x)) (c2 : w.cell? ⟨hb, i * 2, none⟩ = some (.string y)) (hQ : ∀ a' q, Fr 67 a' → Slots [(0, .slice (some ⟨hb, 0, none⟩) n n), (3, .bool (nl x y)), (4, .int .i64 (i : Nat))] a' → Q .normal a' (w.drewN q)) :
    Code.wp Try.prog (inC (hdC (tlC (inC (inC (tlC (nthC 2 (bodyC Try.f23)))))))) Q a w := by
  obtain ⟨u, hu, rfl⟩ := lay67 hfr
  obtain ⟨s0, s3, s4, -⟩ := hs
  replace s0 : u 0 = .slice (some ⟨hb, 0, none⟩) n n := (hu 0).symm.trans s0
  replace s3 : u 3 = .bool od := (hu 3).symm.trans s3
  replace s4 : u 4 = .int .i64 (i : Nat) := (hu 4).symm.trans s4
  rw [s0, s3, s4]
  clear hfr hu s0 s3 s4
  conv => arg 2; whnf
  have H : Hid _ := hQ
  clear hQ
  unfold nl at H
  go_wp2_with fail
  go_quiet (fail)
  go_wp2
  exact H.out _ _ ⟨rfl, rfl⟩ ⟨rfl, rfl, rfl, trivial⟩

set_option maxRecDepth 10000 in
set_option maxHeartbeats 1000000 in
theorem j4 (hb n : Nat) (od : Bool) (i : Nat) (a : Act) (w : World) (Q : Exit → Act → World → Prop) (hfr : Fr 67 a) (hs : Slots [(0, .slice (some ⟨hb, 0, none⟩) n n), (3, .bool od), (4, .int .i64 (i : Nat))] a)
    (hk : (i : Int) ≤ 4096) (hQ : ∀ a', Fr 67 a' → Slots [(0, .slice (some ⟨hb, 0, none⟩) n n), (3, .bool od), (4, .int .i64 (i + 1 : Nat))] a' → Q .normal a' w) :
    Code.wp Try.prog (tlC (tlC (inC (inC (tlC (nthC 2 (bodyC Try.f23))))))) Q a w := by
  obtain ⟨u, hu, rfl⟩ := lay67 hfr
  obtain ⟨s0, s3, s4, -⟩ := hs
  replace s0 : u 0 = .slice (some ⟨hb, 0, none⟩) n n := (hu 0).symm.trans s0
  replace s3 : u 3 = .bool od := (hu 3).symm.trans s3
  replace s4 : u 4 = .int .i64 (i : Nat) := (hu 4).symm.trans s4
  rw [s0, s3, s4]
  clear hfr hu s0 s3 s4
  conv => arg 2; whnf
  have H : Hid _ := hQ
  clear hQ
  go_wp2
  exact H.out _ ⟨rfl, rfl⟩ ⟨rfl, rfl, rfl, trivial⟩

set_option maxRecDepth 10000 in
set_option maxHeartbeats 1000000 in
theorem j6 (hb n : Nat) (od : Bool) (a : Act) (w : World) (Q : Exit → Act → World → Prop) (hfr : Fr 67 a) (hs : Slots [(0, .slice (some ⟨hb, 0, none⟩) n n), (3, .bool od)] a)
    (hQ : ∀ a', Fr 67 a' → Slots [(0, .slice (some ⟨hb, 0, none⟩) n n), (30, .bool od)] a' → Q .normal a' w) :
    Code.wp Try.prog (hdC (nthC 3 (bodyC Try.f23))) Q a w := by
  obtain ⟨u, hu, rfl⟩ := lay67 hfr
  obtain ⟨s0, s3, -⟩ := hs
  replace s0 : u 0 = .slice (some ⟨hb, 0, none⟩) n n := (hu 0).symm.trans s0
  replace s3 : u 3 = .bool od := (hu 3).symm.trans s3
  rw [s0, s3]
  clear hfr hu s0 s3
  conv => arg 2; whnf
  have H : Hid _ := hQ
  clear hQ
  go_wp2
  exact H.out _ ⟨rfl, rfl⟩ ⟨rfl, rfl, trivial⟩

set_option maxRecDepth 10000 in
set_option maxHeartbeats 1000000 in
theorem j7 (hb n : Nat) (a : Act) (w : World) (Q : Exit → Act → World → Prop) (hfr : Fr 67 a) (hs : Slots [(0, .slice (some ⟨hb, 0, none⟩) n n)] a)
    (hret : ∀ a', Fr 67 a' → sl a' 2 = .slice (some ⟨hb, 0, none⟩) n n → Q .ret a' w) :
    Code.wp Try.prog (thC (tlC (nthC 3 (bodyC Try.f23)))) Q a w := by
  obtain ⟨u, hu, rfl⟩ := lay67 hfr
  obtain ⟨s0, -⟩ := hs
  replace s0 : u 0 = .slice (some ⟨hb, 0, none⟩) n n := (hu 0).symm.trans s0
  rw [s0]
  clear hfr hu s0
  conv => arg 2; whnf
  have H : Hid _ := hret
  clear hret
  go_wp2
  exact H.out _ ⟨rfl, rfl⟩ rfl

set_option maxRecDepth 10000 in
set_option maxHeartbeats 1000000 in
theorem j8 (hb n : Nat) (G : Nat → Nat → World → Prop) (a : Act) (w : World) (Q : Exit → Act → World → Prop) (hfr : Fr 67 a) (hs : Slots [(0, .slice (some ⟨hb, 0, none⟩) n n)] a)
    (hcall : Calls Try.prog 25 #[.slice (some ⟨hb, 0, none⟩) n n] w fun e w' => ∃ g cap, e = .returned (.slice (some ⟨g, 0, none⟩) n cap) ∧ G g cap w') (hQ : ∀ a' g cap w', G g cap w' → Fr 67 a' → Slots [(5, .slice (some ⟨g, 0, none⟩) n cap)] a' → Q .normal a' w') :
    Code.wp Try.prog (nthC 4 (bodyC Try.f23)) Q a w := by
  obtain ⟨u, hu, rfl⟩ := lay67 hfr
  obtain ⟨s0, -⟩ := hs
  replace s0 : u 0 = .slice (some ⟨hb, 0, none⟩) n n := (hu 0).symm.trans s0
  rw [s0]
  clear hfr hu s0
  conv => arg 2; whnf
  have HC : Hid _ := hcall
  clear hcall
  have H : Hid _ := hQ
  clear hQ
  go_wp2_with (go_at_call 25; refine Calls.mono HC.out ?_; rintro e w' ⟨g, cap, rfl, hG⟩)
  exact H.out _ _ _ _ hG ⟨rfl, rfl⟩ ⟨rfl, trivial⟩

set_option maxRecDepth 10000 in
set_option maxHeartbeats 1000000 in
theorem j9 (g n cap : Nat) (G : World → Prop) (a : Act) (w : World) (Q : Exit → Act → World → Prop) (hfr : Fr 67 a) (hs : Slots [(5, .slice (some ⟨g, 0, none⟩) n cap)] a)
    (hcall : Calls Try.prog 26 #[.slice (some ⟨g, 0, none⟩) n cap, .func (.func 27) #[] #[]] w fun e w' => e = .returned (.tuple #[]) ∧ G w') (hQ : ∀ a' w', G w' → Fr 67 a' → Slots [(5, .slice (some ⟨g, 0, none⟩) n cap)] a' → Q .normal a' w') :
    Code.wp Try.prog (nthC 5 (bodyC Try.f23)) Q a w := by
  obtain ⟨u, hu, rfl⟩ := lay67 hfr
  obtain ⟨s5, -⟩ := hs
  replace s5 : u 5 = .slice (some ⟨g, 0, none⟩) n cap := (hu 5).symm.trans s5
  rw [s5]
  clear hfr hu s5
  conv => arg 2; whnf
  have HC : Hid _ := hcall
  clear hcall
  have H : Hid _ := hQ
  clear hQ
  go_wp2_with (go_at_call 26; refine Calls.mono HC.out ?_; rintro e w' ⟨rfl, hG⟩)
  exact H.out _ _ hG ⟨rfl, rfl⟩ ⟨rfl, trivial⟩

set_option maxRecDepth 10000 in
set_option maxHeartbeats 1000000 in
theorem j10 (g n cap : Nat) (a : Act) (w : World) (Q : Exit → Act → World → Prop) (hfr : Fr 67 a) (hs : Slots [(5, .slice (some ⟨g, 0, none⟩) n cap)] a)
    (hc : ¬ (cap = 0)) (hQ : ∀ a', Fr 67 a' → Slots [(5, .slice (some ⟨g, 0, none⟩) n cap), (6, .slice (some ⟨g, 0, none⟩) 0 cap)] a' → Q .normal a' w) :
    Code.wp Try.prog (nthC 6 (bodyC Try.f23)) Q a w := by
  obtain ⟨u, hu, rfl⟩ := lay67 hfr
  obtain ⟨s5, -⟩ := hs
  replace s5 : u 5 = .slice (some ⟨g, 0, none⟩) n cap := (hu 5).symm.trans s5
  rw [s5]
  clear hfr hu s5
  conv => arg 2; whnf
  have H : Hid _ := hQ
  clear hQ
  go_wp2
  exact H.out _ ⟨rfl, rfl⟩ ⟨rfl, rfl, trivial⟩

set_option maxRecDepth 10000 in
set_option maxHeartbeats 1000000 in
theorem j11 (g n cap : Nat) (K : Nat) (a : Act) (w : World) (Q : Exit → Act → World → Prop) (hfr : Fr 67 a) (hs : Slots [(5, .slice (some ⟨g, 0, none⟩) n cap), (6, .slice (some ⟨g, 0, none⟩) K cap)] a)
    (hQ : ∀ a', Fr 67 a' → Slots [(5, .slice (some ⟨g, 0, none⟩) n cap), (6, .slice (some ⟨g, 0, none⟩) K cap), (38, .slice (some ⟨g, 0, none⟩) n cap), (39, .int .i64 (n : Nat)), (40, .int .i64 (0 : Nat))] a' → Q .normal a' w) :
    Code.wp Try.prog (hdC (nthC 7 (bodyC Try.f23))) Q a w := by
  obtain ⟨u, hu, rfl⟩ := lay67 hfr
  obtain ⟨s5, s6, -⟩ := hs
  replace s5 : u 5 = .slice (some ⟨g, 0, none⟩) n cap := (hu 5).symm.trans s5
  replace s6 : u 6 = .slice (some ⟨g, 0, none⟩) K cap := (hu 6).symm.trans s6
  rw [s5, s6]
  clear hfr hu s5 s6
  conv => arg 2; whnf
  have H : Hid _ := hQ
  clear hQ
  go_wp2
  exact H.out _ ⟨rfl, rfl⟩ ⟨rfl, rfl, rfl, rfl, rfl, trivial⟩

set_option maxRecDepth 10000 in
set_option maxHeartbeats 1000000 in
theorem j12 (g n cap : Nat) (K : Nat) (k : Nat) (a : Act) (w : World) (Q : Exit → Act → World → Prop) (hfr : Fr 67 a) (hs : Slots [(5, .slice (some ⟨g, 0, none⟩) n cap), (6, .slice (some ⟨g, 0, none⟩) K cap), (38, .slice (some ⟨g, 0, none⟩) n cap), (39, .int .i64 (n : Nat)), (40, .int .i64 (k : Nat))] a)
    (hQ : ∀ a', Fr 67 a' → Slots [(5, .slice (some ⟨g, 0, none⟩) n cap), (6, .slice (some ⟨g, 0, none⟩) K cap), (38, .slice (some ⟨g, 0, none⟩) n cap), (39, .int .i64 (n : Nat)), (40, .int .i64 (k : Nat)), (41, .bool (decide (k < n)))] a' → Q .normal a' w) :
    Code.wp Try.prog (nthC 0 (inC (inC (tlC (nthC 7 (bodyC Try.f23)))))) Q a w := by
  obtain ⟨u, hu, rfl⟩ := lay67 hfr
  obtain ⟨s5, s6, s38, s39, s40, -⟩ := hs
  replace s5 : u 5 = .slice (some ⟨g, 0, none⟩) n cap := (hu 5).symm.trans s5
  replace s6 : u 6 = .slice (some ⟨g, 0, none⟩) K cap := (hu 6).symm.trans s6
  replace s38 : u 38 = .slice (some ⟨g, 0, none⟩) n cap := (hu 38).symm.trans s38
  replace s39 : u 39 = .int .i64 (n : Nat) := (hu 39).symm.trans s39
  replace s40 : u 40 = .int .i64 (k : Nat) := (hu 40).symm.trans s40
  rw [s5, s6, s38, s39, s40]
  clear hfr hu s5 s6 s38 s39 s40
  conv => arg 2; whnf
  have H : Hid _ := hQ
  clear hQ
  go_wp2
  exact H.out _ ⟨rfl, rfl⟩ ⟨rfl, rfl, rfl, rfl, rfl, rfl, trivial⟩

set_option maxRecDepth 10000 in
set_option maxHeartbeats 1000000 in
theorem j13 (g n cap : Nat) (K : Nat) (k : Nat) (e : Hd) (a : Act) (w : World) (Q : Exit → Act → World → Prop) (hfr : Fr 67 a) (hs : Slots [(5, .slice (some ⟨g, 0, none⟩) n cap), (6, .slice (some ⟨g, 0, none⟩) K cap), (38, .slice (some ⟨g, 0, none⟩) n cap), (39, .int .i64 (n : Nat)), (40, .int .i64 (k : Nat))] a)
    (lk : (k : Int) < n) (c0 : w.cell? ⟨g, k * 2, none⟩ = some (.string e.nm)) (c1 : w.cell? ⟨g, k * 2 + 1, none⟩ = some (.slice (some ⟨e.vb, 0, none⟩) 2 2)) (hg : g < w.heap.size) (hQ : ∀ a', Fr 67 a' → Slots [(5, .slice (some ⟨g, 0, none⟩) n cap), (6, .slice (some ⟨g, 0, none⟩) K cap), (38, .slice (some ⟨g, 0, none⟩) n cap), (39, .int .i64 (n : Nat)), (40, .int .i64 (k : Nat)), (7, .int .i64 (k : Nat)), (8, .pointer (some ⟨w.heap.size, 0, none⟩))] a' → Q .normal a' (w.alloc (.cells #[.string e.nm, .slice (some ⟨e.vb, 0, none⟩) 2 2] 39))) :
    Code.wp Try.prog (nthC 0 (inC (nthC 2 (inC (inC (tlC (nthC 7 (bodyC Try.f23)))))))) Q a w := by
  obtain ⟨u, hu, rfl⟩ := lay67 hfr
  obtain ⟨s5, s6, s38, s39, s40, -⟩ := hs
  replace s5 : u 5 = .slice (some ⟨g, 0, none⟩) n cap := (hu 5).symm.trans s5
  replace s6 : u 6 = .slice (some ⟨g, 0, none⟩) K cap := (hu 6).symm.trans s6
  replace s38 : u 38 = .slice (some ⟨g, 0, none⟩) n cap := (hu 38).symm.trans s38
  replace s39 : u 39 = .int .i64 (n : Nat) := (hu 39).symm.trans s39
  replace s40 : u 40 = .int .i64 (k : Nat) := (hu 40).symm.trans s40
  rw [s5, s6, s38, s39, s40]
  clear hfr hu s5 s6 s38 s39 s40
  conv => arg 2; whnf
  have H : Hid _ := hQ
  clear hQ
  have hne : g ≠ w.heap.size := by omega
  go_wp2
  exact H.out _ ⟨rfl, rfl⟩ ⟨rfl, rfl, rfl, rfl, rfl, rfl, rfl, trivial⟩

set_option maxRecDepth 10000 in
set_option maxHeartbeats 1000000 in
theorem j14z (g n cap : Nat) (K : Nat) (k : Nat) (q : Nat) (a : Act) (w : World) (Q : Exit → Act → World → Prop) (hfr : Fr 67 a) (hs : Slots [(5, .slice (some ⟨g, 0, none⟩) n cap), (6, .slice (some ⟨g, 0, none⟩) K cap), (38, .slice (some ⟨g, 0, none⟩) n cap), (39, .int .i64 (n : Nat)), (40, .int .i64 (k : Nat)), (7, .int .i64 (k : Nat)), (8, .pointer (some ⟨q, 0, none⟩))] a)
    (e1 : IntKind.i64.wrap ((k : Int) + 1) = (n : Int)) (hQ : ∀ a' r, Fr 67 a' → Slots [(5, .slice (some ⟨g, 0, none⟩) n cap), (6, .slice (some ⟨g, 0, none⟩) K cap), (38, .slice (some ⟨g, 0, none⟩) n cap), (39, .int .i64 (n : Nat)), (40, .int .i64 (k : Nat)), (7, .int .i64 (k : Nat)), (8, .pointer (some ⟨q, 0, none⟩)), (60, .bool true)] a' → Q .normal a' (w.drewN r)) :
    Code.wp Try.prog (nthC 1 (inC (nthC 2 (inC (inC (tlC (nthC 7 (bodyC Try.f23)))))))) Q a w := by
  obtain ⟨u, hu, rfl⟩ := lay67 hfr
  obtain ⟨s5, s6, s38, s39, s40, s7, s8, -⟩ := hs
  replace s5 : u 5 = .slice (some ⟨g, 0, none⟩) n cap := (hu 5).symm.trans s5
  replace s6 : u 6 = .slice (some ⟨g, 0, none⟩) K cap := (hu 6).symm.trans s6
  replace s38 : u 38 = .slice (some ⟨g, 0, none⟩) n cap := (hu 38).symm.trans s38
  replace s39 : u 39 = .int .i64 (n : Nat) := (hu 39).symm.trans s39
  replace s40 : u 40 = .int .i64 (k : Nat) := (hu 40).symm.trans s40
  replace s7 : u 7 = .int .i64 (k : Nat) := (hu 7).symm.trans s7
  replace s8 : u 8 = .pointer (some ⟨q, 0, none⟩) := (hu 8).symm.trans s8
  rw [s5, s6, s38, s39, s40, s7, s8]
  clear hfr hu s5 s6 s38 s39 s40 s7 s8
  conv => arg 2; whnf
  have H : Hid _ := hQ
  clear hQ
  have hd : ((n : Int) == (n : Int)) = true := by simp
  go_wp2_with fail
  go_quiet (fail)
  go_wp2
  exact H.out _ _ ⟨rfl, rfl⟩ ⟨rfl, rfl, rfl, rfl, rfl, rfl, rfl, rfl, trivial⟩

set_option maxRecDepth 10000 in
set_option maxHeartbeats 1000000 in
theorem j14 (g n cap : Nat) (K : Nat) (k : Nat) (q : Nat) (k1 : Nat) (x y : ByteArray) (a : Act) (w : World) (Q : Exit → Act → World → Prop) (hfr : Fr 67 a) (hs : Slots [(5, .slice (some ⟨g, 0, none⟩) n cap), (6, .slice (some ⟨g, 0, none⟩) K cap), (38, .slice (some ⟨g, 0, none⟩) n cap), (39, .int .i64 (n : Nat)), (40, .int .i64 (k : Nat)), (7, .int .i64 (k : Nat)), (8, .pointer (some ⟨q, 0, none⟩))] a)
    (e1 : IntKind.i64.wrap ((k : Int) + 1) = (k1 : Int)) (l1 : (k1 : Int) < n) (c1 : w.cell? ⟨g, k1 * 2, none⟩ = some (.string x)) (c2 : w.cell? ⟨q, 0, none⟩ = some (.string y)) (hQ : ∀ a' r, Fr 67 a' → Slots [(5, .slice (some ⟨g, 0, none⟩) n cap), (6, .slice (some ⟨g, 0, none⟩) K cap), (38, .slice (some ⟨g, 0, none⟩) n cap), (39, .int .i64 (n : Nat)), (40, .int .i64 (k : Nat)), (7, .int .i64 (k : Nat)), (8, .pointer (some ⟨q, 0, none⟩)), (60, .bool (!(x.toList == y.toList)))] a' → Q .normal a' (w.drewN r)) :
    Code.wp Try.prog (nthC 1 (inC (nthC 2 (inC (inC (tlC (nthC 7 (bodyC Try.f23)))))))) Q a w := by
  obtain ⟨u, hu, rfl⟩ := lay67 hfr
  obtain ⟨s5, s6, s38, s39, s40, s7, s8, -⟩ := hs
  replace s5 : u 5 = .slice (some ⟨g, 0, none⟩) n cap := (hu 5).symm.trans s5
  replace s6 : u 6 = .slice (some ⟨g, 0, none⟩) K cap := (hu 6).symm.trans s6
  replace s38 : u 38 = .slice (some ⟨g, 0, none⟩) n cap := (hu 38).symm.trans s38
  replace s39 : u 39 = .int .i64 (n : Nat) := (hu 39).symm.trans s39
  replace s40 : u 40 = .int .i64 (k : Nat) := (hu 40).symm.trans s40
  replace s7 : u 7 = .int .i64 (k : Nat) := (hu 7).symm.trans s7
  replace s8 : u 8 = .pointer (some ⟨q, 0, none⟩) := (hu 8).symm.trans s8
  rw [s5, s6, s38, s39, s40, s7, s8]
  clear hfr hu s5 s6 s38 s39 s40 s7 s8
  conv => arg 2; whnf
  have H : Hid _ := hQ
  clear hQ
  have hd : ((k1 : Int) == (n : Int)) = false := by simp; omega
  go_wp2_with fail
  go_quiet (fail)
  go_wp2
  exact H.out _ _ ⟨rfl, rfl⟩ ⟨rfl, rfl, rfl, rfl, rfl, rfl, rfl, rfl, trivial⟩

set_option maxRecDepth 10000 in
set_option maxHeartbeats 1000000 in
theorem j15 (g n cap : Nat) (K : Nat) (k : Nat) (q : Nat) (e : Hd) (w1 : World) (a : Act) (w : World) (Q : Exit → Act → World → Prop) (hfr : Fr 67 a) (hs : Slots [(5, .slice (some ⟨g, 0, none⟩) n cap), (6, .slice (some ⟨g, 0, none⟩) K cap), (38, .slice (some ⟨g, 0, none⟩) n cap), (39, .int .i64 (n : Nat)), (40, .int .i64 (k : Nat)), (7, .int .i64 (k : Nat)), (8, .pointer (some ⟨q, 0, none⟩))] a)
    (c0 : w.cell? ⟨q, 0, none⟩ = some (.string e.nm)) (c1 : w.cell? ⟨q, 1, none⟩ = some (.slice (some ⟨e.vb, 0, none⟩) 2 2)) (hrun : (Builtin.append_ #[34, 34] 0 #[.slice (some ⟨g, 0, none⟩) K cap, .slice (some ⟨w.heap.size, 0, none⟩) 1 1]).run Try.prog (w.alloc (.cells #[.string e.nm, .slice (some ⟨e.vb, 0, none⟩) 2 2] 39)) = .ok (.slice (some ⟨g, 0, none⟩) (K + 1) cap) w1) (hQ : ∀ a', Fr 67 a' → Slots [(5, .slice (some ⟨g, 0, none⟩) n cap), (6, .slice (some ⟨g, 0, none⟩) (K + 1) cap), (38, .slice (some ⟨g, 0, none⟩) n cap), (39, .int .i64 (n : Nat)), (40, .int .i64 (k : Nat))] a' → Q .normal a' w1) :
    Code.wp Try.prog (thC (dropC 2 (inC (nthC 2 (inC (inC (tlC (nthC 7 (bodyC Try.f23))))))))) Q a w := by
  obtain ⟨u, hu, rfl⟩ := lay67 hfr
  obtain ⟨s5, s6, s38, s39, s40, s7, s8, -⟩ := hs
  replace s5 : u 5 = .slice (some ⟨g, 0, none⟩) n cap := (hu 5).symm.trans s5
  replace s6 : u 6 = .slice (some ⟨g, 0, none⟩) K cap := (hu 6).symm.trans s6
  replace s38 : u 38 = .slice (some ⟨g, 0, none⟩) n cap := (hu 38).symm.trans s38
  replace s39 : u 39 = .int .i64 (n : Nat) := (hu 39).symm.trans s39
  replace s40 : u 40 = .int .i64 (k : Nat) := (hu 40).symm.trans s40
  replace s7 : u 7 = .int .i64 (k : Nat) := (hu 7).symm.trans s7
  replace s8 : u 8 = .pointer (some ⟨q, 0, none⟩) := (hu 8).symm.trans s8
  rw [s5, s6, s38, s39, s40, s7, s8]
  clear hfr hu s5 s6 s38 s39 s40 s7 s8
  conv => arg 2; whnf
  have HR : Hid _ := hrun
  clear hrun
  have H : Hid _ := hQ
  clear hQ
  go_wp2_with (first | (at_builtin; refine wpList_append_run _ rfl _ _ 34 rfl _ _ rfl rfl (.slice (some ⟨g, 0, none⟩) (K + 1) cap) w1 HR.out ?_))
  exact H.out _ ⟨rfl, rfl⟩ ⟨rfl, rfl, rfl, rfl, rfl, trivial⟩

set_option maxRecDepth 10000 in
set_option maxHeartbeats 1000000 in
theorem j16 (g n cap : Nat) (K : Nat) (k : Nat) (a : Act) (w : World) (Q : Exit → Act → World → Prop) (hfr : Fr 67 a) (hs : Slots [(5, .slice (some ⟨g, 0, none⟩) n cap), (6, .slice (some ⟨g, 0, none⟩) K cap), (38, .slice (some ⟨g, 0, none⟩) n cap), (39, .int .i64 (n : Nat)), (40, .int .i64 (k : Nat))] a)
    (hk : (k : Int) ≤ 4096) (hQ : ∀ a', Fr 67 a' → Slots [(5, .slice (some ⟨g, 0, none⟩) n cap), (6, .slice (some ⟨g, 0, none⟩) K cap), (38, .slice (some ⟨g, 0, none⟩) n cap), (39, .int .i64 (n : Nat)), (40, .int .i64 (k + 1 : Nat))] a' → Q .normal a' w) :
    Code.wp Try.prog (dropC 3 (inC (inC (tlC (nthC 7 (bodyC Try.f23)))))) Q a w := by
  obtain ⟨u, hu, rfl⟩ := lay67 hfr
  obtain ⟨s5, s6, s38, s39, s40, -⟩ := hs
  replace s5 : u 5 = .slice (some ⟨g, 0, none⟩) n cap := (hu 5).symm.trans s5
  replace s6 : u 6 = .slice (some ⟨g, 0, none⟩) K cap := (hu 6).symm.trans s6
  replace s38 : u 38 = .slice (some ⟨g, 0, none⟩) n cap := (hu 38).symm.trans s38
  replace s39 : u 39 = .int .i64 (n : Nat) := (hu 39).symm.trans s39
  replace s40 : u 40 = .int .i64 (k : Nat) := (hu 40).symm.trans s40
  rw [s5, s6, s38, s39, s40]
  clear hfr hu s5 s6 s38 s39 s40
  conv => arg 2; whnf
  have H : Hid _ := hQ
  clear hQ
  go_wp2
  exact H.out _ ⟨rfl, rfl⟩ ⟨rfl, rfl, rfl, rfl, rfl, trivial⟩

set_option maxRecDepth 10000 in
set_option maxHeartbeats 1000000 in
theorem j17 (g n cap : Nat) (K : Nat) (a : Act) (w : World) (Q : Exit → Act → World → Prop) (hfr : Fr 67 a) (hs : Slots [(5, .slice (some ⟨g, 0, none⟩) n cap), (6, .slice (some ⟨g, 0, none⟩) K cap)] a)
    (hret : ∀ a', Fr 67 a' → sl a' 2 = .slice (some ⟨g, 0, none⟩) K cap → Q .ret a' w) :
    Code.wp Try.prog (dropC 8 (bodyC Try.f23)) Q a w := by
  obtain ⟨u, hu, rfl⟩ := lay67 hfr
  obtain ⟨s5, s6, -⟩ := hs
  replace s5 : u 5 = .slice (some ⟨g, 0, none⟩) n cap := (hu 5).symm.trans s5
  replace s6 : u 6 = .slice (some ⟨g, 0, none⟩) K cap := (hu 6).symm.trans s6
  rw [s5, s6]
  clear hfr hu s5 s6
  conv => arg 2; whnf
  have H : Hid _ := hret
  clear hret
  go_wp2
  exact H.out _ ⟨rfl, rfl⟩ rfl

end Go.Proofs.Qxb6601010a
