import Derived.Test.Qxb6602526aF5
import Derived.Test.Qxb6602526aF7
import Derived.WalkSmall
namespace Go.Proofs.Qxb6602526a
open Go.RowKit
set_option linter.unusedSimpArgs false
set_option linter.unusedVariables false

theorem and_32 (E : Int) (h0 : 0 ≤ E) (h1 : E ≤ 18446744073709551615) : bits BinOp.and IntKind.u64 E 4294967295 = E % 4294967296 := by
  have h := bits_and_u64_nat E.toNat 4294967295 (by omega) (by omega)
  rw [show (4294967295 : Nat) = 2 ^ 32 - 1 from rfl, Nat.and_two_pow_sub_one_eq_mod, Int.toNat_of_nonneg h0] at h
  have h2 : ((E.toNat % 2 ^ 32 : Nat) : Int) = E % 4294967296 := by omega
  exact h.trans h2

/-- rowDiffer32 -/
theorem df38 (x : Option Addr) (b o n cap : Nat) (f : Nat → Int) (w : World) (ln : (n : Int) ≤ 1048576) (hR : RowR .u32 x b o n f w) :
    Calls Try.prog 38 #[.slice x n cap] w fun e w' => e = .returned (.bool (dif f (f 0) n)) ∧ w' = w := by
  rcases Nat.eq_zero_or_pos n with h0 | h0
  · subst h0
    clear hR
    go_enter Try.func38, Try.ntmps38
    go_wp2
    go_ret
    exact ⟨rfl, rfl⟩
  have hx := hR.ptr h0
  subst hx
  have hc := hR.cell
  have eq := eq_mm f n h0
  clear hR
  have c0 : w.cell? ⟨b, o, none⟩ = some (.int .u32 (f 0)) := hc 0 h0
  have l0 : (0 : Int) < n := by omega
  have m1 : minTo f 1 = f 0 := by simp [minTo]
  have M1 : maxTo f 1 = f 0 := by simp [maxTo]
  have HC : Hid _ := hc
  have Hm : Hid _ := m1
  have HM : Hid _ := M1
  have HE : Hid _ := eq
  clear hc m1 M1 eq
  have n0 : ¬ ((n : Int) = 0) := by omega
  go_enter Try.func38, Try.ntmps38
  go_wp2
  go_loop [3, 4, 5] (fun lo hi i => ∃ k : Nat, 1 ≤ k ∧ k ≤ n ∧ i = .int .i64 k ∧ lo = .int .u32 (minTo f k) ∧ hi = .int .u32 (maxTo f k)) (fun _ _ i => n - (intOf i).toNat)
  case atStart => exact ⟨1, by omega, by omega, rfl, by rw [Hm.out], by rw [HM.out]⟩
  case round =>
    obtain ⟨k, hk1, hk, rfl, rfl, rfl⟩ := hrel
    by_cases hlt : k < n
    · have ck := HC.out k hlt
      have lk : (k : Int) < n := by omega
      have e1 : minTo f (k + 1) = if f k < minTo f k then f k else minTo f k := rfl
      have e2 : maxTo f (k + 1) = if maxTo f k < f k then f k else maxTo f k := rfl
      have E1 : Hid _ := e1
      have E2 : Hid _ := e2
      clear e1 e2
      by_cases g1 : f k < minTo f k
      · by_cases g2 : maxTo f k < f k
        · go_wp2
          go_round
          case rel => exact ⟨k + 1, by omega, by omega, by go_num, by rw [E1.out, if_pos g1], by rw [E2.out, if_pos g2]⟩
          case measure => simp [intOf]; omega
        · go_wp2
          go_round
          case rel => exact ⟨k + 1, by omega, by omega, by go_num, by rw [E1.out, if_pos g1], by rw [E2.out, if_neg g2]⟩
          case measure => simp [intOf]; omega
      · by_cases g2 : maxTo f k < f k
        · go_wp2
          go_round
          case rel => exact ⟨k + 1, by omega, by omega, by go_num, by rw [E1.out, if_neg g1], by rw [E2.out, if_pos g2]⟩
          case measure => simp [intOf]; omega
        · go_wp2
          go_round
          case rel => exact ⟨k + 1, by omega, by omega, by go_num, by rw [E1.out, if_neg g1], by rw [E2.out, if_neg g2]⟩
          case measure => simp [intOf]; omega
    · have e : k = n := by omega
      subst e
      have eq := HE.out
      generalize minTo f k = lo at *
      generalize maxTo f k = hi at *
      have e3 : (lo != hi) = dif f (f 0) k := by
        cases h : dif f (f 0) k <;> rw [h] at eq <;> simp_all
      have E3 : Hid _ := e3
      clear e3 eq HE
      go_wp2
      go_ret
      exact ⟨by rw [← E3.out]; rfl, rfl⟩

set_option maxRecDepth 10000 in
set_option maxHeartbeats 1000000 in
theorem t0 (kap st : Int) (m K I cb k : Nat) (xr xi : Option Addr) (a : Act) (w : World) (Q : Exit → Act → World → Prop) (hfr : Fr 69 a) (hs : Slots [(0, .int .i64 kap), (1, .int .u32 st), (2, .int .i64 (m : Nat)), (3, .slice (some ⟨cb, 0, none⟩) K K), (4, .slice xr I I), (5, .slice xi I I), (6, .int .i64 (k : Nat))] a)
    (hQ : ∀ a', Fr 69 a' → Slots [(0, .int .i64 kap), (1, .int .u32 st), (2, .int .i64 (m : Nat)), (3, .slice (some ⟨cb, 0, none⟩) K K), (4, .slice xr I I), (5, .slice xi I I), (6, .int .i64 (k : Nat))] a' → Q .normal a' w) :
    Code.wp Try.prog (nthC 0 (bodyC Try.f39)) Q a w := by
  obtain ⟨u, hu, rfl⟩ := lay69 hfr
  obtain ⟨s0, s1, s2, s3, s4, s5, s6, -⟩ := hs
  replace s0 : u 0 = .int .i64 kap := (hu 0).symm.trans s0
  replace s1 : u 1 = .int .u32 st := (hu 1).symm.trans s1
  replace s2 : u 2 = .int .i64 (m : Nat) := (hu 2).symm.trans s2
  replace s3 : u 3 = .slice (some ⟨cb, 0, none⟩) K K := (hu 3).symm.trans s3
  replace s4 : u 4 = .slice xr I I := (hu 4).symm.trans s4
  replace s5 : u 5 = .slice xi I I := (hu 5).symm.trans s5
  replace s6 : u 6 = .int .i64 (k : Nat) := (hu 6).symm.trans s6
  rw [s0, s1, s2, s3, s4, s5, s6]
  clear hfr hu s0 s1 s2 s3 s4 s5 s6
  conv => arg 2; whnf
  have H : Hid _ := hQ
  clear hQ
  go_wp2
  exact H.out _ ⟨rfl, rfl⟩ ⟨rfl, rfl, rfl, rfl, rfl, rfl, rfl, trivial⟩

set_option maxRecDepth 10000 in
set_option maxHeartbeats 1000000 in
theorem t1 (kap st : Int) (m K I cb k : Nat) (xr xi : Option Addr) (c q : Int) (a : Act) (w : World) (Q : Exit → Act → World → Prop) (hfr : Fr 69 a) (hs : Slots [(0, .int .i64 kap), (1, .int .u32 st), (2, .int .i64 (m : Nat)), (3, .slice (some ⟨cb, 0, none⟩) K K), (4, .slice xr I I), (5, .slice xi I I), (6, .int .i64 (k : Nat))] a)
    (lk : (k : Int) < K) (hq : IntKind.i64.wrap (kap - 1) = q) (hc : w.cell? ⟨cb, k, none⟩ = some (.int .i64 c)) (hQ : ∀ a', Fr 69 a' → Slots [(0, .int .i64 kap), (1, .int .u32 st), (2, .int .i64 (m : Nat)), (3, .slice (some ⟨cb, 0, none⟩) K K), (4, .slice xr I I), (5, .slice xi I I), (6, .int .i64 (k : Nat)), (15, .bool (c == q))] a' → Q .normal a' w) :
    Code.wp Try.prog (nthC 1 (bodyC Try.f39)) Q a w := by
  obtain ⟨u, hu, rfl⟩ := lay69 hfr
  obtain ⟨s0, s1, s2, s3, s4, s5, s6, -⟩ := hs
  replace s0 : u 0 = .int .i64 kap := (hu 0).symm.trans s0
  replace s1 : u 1 = .int .u32 st := (hu 1).symm.trans s1
  replace s2 : u 2 = .int .i64 (m : Nat) := (hu 2).symm.trans s2
  replace s3 : u 3 = .slice (some ⟨cb, 0, none⟩) K K := (hu 3).symm.trans s3
  replace s4 : u 4 = .slice xr I I := (hu 4).symm.trans s4
  replace s5 : u 5 = .slice xi I I := (hu 5).symm.trans s5
  replace s6 : u 6 = .int .i64 (k : Nat) := (hu 6).symm.trans s6
  rw [s0, s1, s2, s3, s4, s5, s6]
  clear hfr hu s0 s1 s2 s3 s4 s5 s6
  conv => arg 2; whnf
  have H : Hid _ := hQ
  clear hQ
  go_wp2
  exact H.out _ ⟨rfl, rfl⟩ ⟨rfl, rfl, rfl, rfl, rfl, rfl, rfl, rfl, trivial⟩

set_option maxRecDepth 10000 in
set_option maxHeartbeats 1000000 in
theorem t2i (kap st : Int) (m K I cb k : Nat) (xr xi : Option Addr) (t : Bool) (a : Act) (w : World) (Q : Exit → Act → World → Prop) (hfr : Fr 69 a) (hs : Slots [(0, .int .i64 kap), (1, .int .u32 st), (2, .int .i64 (m : Nat)), (3, .slice (some ⟨cb, 0, none⟩) K K), (4, .slice xr I I), (5, .slice xi I I), (6, .int .i64 (k : Nat)), (15, .bool t)] a)
    (hQ : ∀ a', Fr 69 a' → Slots [(0, .int .i64 kap), (1, .int .u32 st), (2, .int .i64 (m : Nat)), (3, .slice (some ⟨cb, 0, none⟩) K K), (4, .slice xr I I), (5, .slice xi I I), (6, .int .i64 (k : Nat)), (15, .bool t), (16, .int .i64 (0 : Nat))] a' → Q .normal a' w) :
    Code.wp Try.prog (hdC (nthC 2 (bodyC Try.f39))) Q a w := by
  obtain ⟨u, hu, rfl⟩ := lay69 hfr
  obtain ⟨s0, s1, s2, s3, s4, s5, s6, s15, -⟩ := hs
  replace s0 : u 0 = .int .i64 kap := (hu 0).symm.trans s0
  replace s1 : u 1 = .int .u32 st := (hu 1).symm.trans s1
  replace s2 : u 2 = .int .i64 (m : Nat) := (hu 2).symm.trans s2
  replace s3 : u 3 = .slice (some ⟨cb, 0, none⟩) K K := (hu 3).symm.trans s3
  replace s4 : u 4 = .slice xr I I := (hu 4).symm.trans s4
  replace s5 : u 5 = .slice xi I I := (hu 5).symm.trans s5
  replace s6 : u 6 = .int .i64 (k : Nat) := (hu 6).symm.trans s6
  replace s15 : u 15 = .bool t := (hu 15).symm.trans s15
  rw [s0, s1, s2, s3, s4, s5, s6, s15]
  clear hfr hu s0 s1 s2 s3 s4 s5 s6 s15
  conv => arg 2; whnf
  have H : Hid _ := hQ
  clear hQ
  go_wp2
  exact H.out _ ⟨rfl, rfl⟩ ⟨rfl, rfl, rfl, rfl, rfl, rfl, rfl, rfl, rfl, trivial⟩

set_option maxRecDepth 10000 in
set_option maxHeartbeats 1000000 in
theorem t2h (kap st : Int) (m K I cb k : Nat) (xr xi : Option Addr) (t : Bool) (i : Nat) (a : Act) (w : World) (Q : Exit → Act → World → Prop) (hfr : Fr 69 a) (hs : Slots [(0, .int .i64 kap), (1, .int .u32 st), (2, .int .i64 (m : Nat)), (3, .slice (some ⟨cb, 0, none⟩) K K), (4, .slice xr I I), (5, .slice xi I I), (6, .int .i64 (k : Nat)), (15, .bool t), (16, .int .i64 (i : Nat))] a)
    (hk : i ≤ m) (lm : (m : Int) ≤ 65536) (hQ : ∀ a', i < m → Fr 69 a' → Slots [(0, .int .i64 kap), (1, .int .u32 st), (2, .int .i64 (m : Nat)), (3, .slice (some ⟨cb, 0, none⟩) K K), (4, .slice xr I I), (5, .slice xi I I), (6, .int .i64 (k : Nat)), (15, .bool t), (16, .int .i64 (i : Nat))] a' → Q .normal a' w) (hexit : ∀ a', i = m → Fr 69 a' → Q (.exit 0) a' w) :
    Code.wp Try.prog (hdC (inC (inC (tlC (nthC 2 (bodyC Try.f39)))))) Q a w := by
  obtain ⟨u, hu, rfl⟩ := lay69 hfr
  obtain ⟨s0, s1, s2, s3, s4, s5, s6, s15, s16, -⟩ := hs
  replace s0 : u 0 = .int .i64 kap := (hu 0).symm.trans s0
  replace s1 : u 1 = .int .u32 st := (hu 1).symm.trans s1
  replace s2 : u 2 = .int .i64 (m : Nat) := (hu 2).symm.trans s2
  replace s3 : u 3 = .slice (some ⟨cb, 0, none⟩) K K := (hu 3).symm.trans s3
  replace s4 : u 4 = .slice xr I I := (hu 4).symm.trans s4
  replace s5 : u 5 = .slice xi I I := (hu 5).symm.trans s5
  replace s6 : u 6 = .int .i64 (k : Nat) := (hu 6).symm.trans s6
  replace s15 : u 15 = .bool t := (hu 15).symm.trans s15
  replace s16 : u 16 = .int .i64 (i : Nat) := (hu 16).symm.trans s16
  rw [s0, s1, s2, s3, s4, s5, s6, s15, s16]
  clear hfr hu s0 s1 s2 s3 s4 s5 s6 s15 s16
  conv => arg 2; whnf
  have H : Hid _ := hQ
  have HX : Hid _ := hexit
  clear hQ hexit
  by_cases hlt : i < m
  · have l : (i : Int) < m := by omega
    go_wp2
    exact H.out _ hlt ⟨rfl, rfl⟩ ⟨rfl, rfl, rfl, rfl, rfl, rfl, rfl, rfl, rfl, trivial⟩
  · have l : ¬ ((i : Int) < m) := by omega
    go_wp2
    exact HX.out _ (by omega) ⟨rfl, rfl⟩

set_option maxRecDepth 10000 in
set_option maxHeartbeats 1000000 in
theorem t2b (kap st : Int) (m K I cb k rb ib k1 km1 km a1 a2 : Nat) (t : Bool) (i : Nat) (x pv r v : Int) (a : Act) (w : World) (Q : Exit → Act → World → Prop) (hfr : Fr 69 a) (hs : Slots [(0, .int .i64 kap), (1, .int .u32 st), (2, .int .i64 (m : Nat)), (3, .slice (some ⟨cb, 0, none⟩) K K), (4, .slice (some ⟨rb, 0, none⟩) I I), (5, .slice (some ⟨ib, 0, none⟩) I I), (6, .int .i64 (k : Nat)), (15, .bool t), (16, .int .i64 (i : Nat))] a)
    (e0 : IntKind.i64.wrap ((k : Int) - 1) = (k1 : Int)) (e1 : IntKind.i64.wrap ((k1 : Int) * (m : Int)) = (km1 : Int)) (e2 : IntKind.i64.wrap ((km1 : Int) + (i : Int)) = (a1 : Int)) (e3 : IntKind.i64.wrap ((k : Int) * (m : Int)) = (km : Int)) (e4 : IntKind.i64.wrap ((km : Int) + (i : Int)) = (a2 : Int)) (l1 : (a1 : Int) < I) (l2 : (a2 : Int) < I)
    (hp : w.cell? ⟨ib, a1, none⟩ = some (.int .u32 pv)) (hx : w.cell? ⟨ib, a2, none⟩ = some (.int .u32 x)) (hr : w.cell? ⟨rb, a2, none⟩ = some (.int .u8 r)) (p0 : 0 ≤ pv) (p1 : pv < 4294967296) (x0 : 0 ≤ x) (x1 : x < 4294967296) (r0 : 0 ≤ r) (r1 : r < 256) (s0 : 0 < st) (s1 : st < 4294967296) (hv : v = if t then (pv + r) % 4294967296 % st else pv)
    (hQ : ∀ a', x = v → Fr 69 a' → Slots [(0, .int .i64 kap), (1, .int .u32 st), (2, .int .i64 (m : Nat)), (3, .slice (some ⟨cb, 0, none⟩) K K), (4, .slice (some ⟨rb, 0, none⟩) I I), (5, .slice (some ⟨ib, 0, none⟩) I I), (6, .int .i64 (k : Nat)), (15, .bool t), (16, .int .i64 (i : Nat))] a' → Q .normal a' w) (hret : ∀ a', x ≠ v → Fr 69 a' → sl a' 14 = .bool false → Q .ret a' w) :
    Code.wp Try.prog (hdC (tlC (inC (inC (tlC (nthC 2 (bodyC Try.f39))))))) Q a w := by
  obtain ⟨u, hu, rfl⟩ := lay69 hfr
  obtain ⟨s0, s1, s2, s3, s4, s5, s6, s15, s16, -⟩ := hs
  replace s0 : u 0 = .int .i64 kap := (hu 0).symm.trans s0
  replace s1 : u 1 = .int .u32 st := (hu 1).symm.trans s1
  replace s2 : u 2 = .int .i64 (m : Nat) := (hu 2).symm.trans s2
  replace s3 : u 3 = .slice (some ⟨cb, 0, none⟩) K K := (hu 3).symm.trans s3
  replace s4 : u 4 = .slice (some ⟨rb, 0, none⟩) I I := (hu 4).symm.trans s4
  replace s5 : u 5 = .slice (some ⟨ib, 0, none⟩) I I := (hu 5).symm.trans s5
  replace s6 : u 6 = .int .i64 (k : Nat) := (hu 6).symm.trans s6
  replace s15 : u 15 = .bool t := (hu 15).symm.trans s15
  replace s16 : u 16 = .int .i64 (i : Nat) := (hu 16).symm.trans s16
  rw [s0, s1, s2, s3, s4, s5, s6, s15, s16]
  clear hfr hu s0 s1 s2 s3 s4 s5 s6 s15 s16
  conv => arg 2; whnf
  have H : Hid _ := hQ
  have HX : Hid _ := hret
  clear hQ hret
  have u1 : IntKind.u64.wrap pv = pv := by rw [IntKind.wrap_u64]; omega
  have u2 : IntKind.u64.wrap x = x := by rw [IntKind.wrap_u64]; omega
  have u3 : IntKind.u64.wrap r = r := by rw [IntKind.wrap_u64]; omega
  have u4 : IntKind.u64.wrap (pv + r) = pv + r := by rw [IntKind.wrap_u64]; omega
  have u5 : IntKind.u64.wrap st = st := by rw [IntKind.wrap_u64]; omega
  have z0 : (st == 0) = false := by simp; omega
  cases t with
  | false =>
    simp only [Bool.false_eq_true, if_false] at hv
    subst hv
    by_cases h : x = v
    · subst h
      go_wp2
      exact H.out _ (by trivial) ⟨rfl, rfl⟩ ⟨rfl, rfl, rfl, rfl, rfl, rfl, rfl, rfl, rfl, trivial⟩
    · have g2 : (x == v) = false := by simpa using h
      have HN : Hid _ := h
      clear h
      go_wp2
      exact HX.out _ HN.out ⟨rfl, rfl⟩ rfl
  | true =>
    simp only [if_true] at hv
    have a1 := and_32 (pv + r) (by omega) (by omega)
    have n0 : 0 ≤ (pv + r) % 4294967296 := Int.emod_nonneg _ (by omega)
    have n1 : (pv + r) % 4294967296 < 4294967296 := Int.emod_lt_of_pos _ (by omega)
    have a2 : ((pv + r) % 4294967296).tmod st = (pv + r) % 4294967296 % st := Int.tmod_eq_emod_of_nonneg n0
    have m0 : 0 ≤ (pv + r) % 4294967296 % st := Int.emod_nonneg _ (by omega)
    have m1 : (pv + r) % 4294967296 % st < st := Int.emod_lt_of_pos _ s0
    rw [← hv] at a2 m0 m1
    clear hv
    generalize (pv + r) % 4294967296 = y at *
    have u6 : IntKind.u64.wrap v = v := by rw [IntKind.wrap_u64]; omega
    have u7 : IntKind.u64.wrap y = y := by rw [IntKind.wrap_u64]; omega
    by_cases h : x = v
    · subst h
      go_wp2
      exact H.out _ (by trivial) ⟨rfl, rfl⟩ ⟨rfl, rfl, rfl, rfl, rfl, rfl, rfl, rfl, rfl, trivial⟩
    · have g2 : (x == v) = false := by simpa using h
      have HN : Hid _ := h
      clear h
      go_wp2
      exact HX.out _ HN.out ⟨rfl, rfl⟩ rfl

set_option maxRecDepth 10000 in
set_option maxHeartbeats 1000000 in
theorem t2n (kap st : Int) (m K I cb k : Nat) (xr xi : Option Addr) (t : Bool) (i : Nat) (a : Act) (w : World) (Q : Exit → Act → World → Prop) (hfr : Fr 69 a) (hs : Slots [(0, .int .i64 kap), (1, .int .u32 st), (2, .int .i64 (m : Nat)), (3, .slice (some ⟨cb, 0, none⟩) K K), (4, .slice xr I I), (5, .slice xi I I), (6, .int .i64 (k : Nat)), (15, .bool t), (16, .int .i64 (i : Nat))] a)
    (hk : (i : Int) ≤ 65536) (hQ : ∀ a', Fr 69 a' → Slots [(0, .int .i64 kap), (1, .int .u32 st), (2, .int .i64 (m : Nat)), (3, .slice (some ⟨cb, 0, none⟩) K K), (4, .slice xr I I), (5, .slice xi I I), (6, .int .i64 (k : Nat)), (15, .bool t), (16, .int .i64 (i + 1 : Nat))] a' → Q .normal a' w) :
    Code.wp Try.prog (tlC (tlC (inC (inC (tlC (nthC 2 (bodyC Try.f39))))))) Q a w := by
  obtain ⟨u, hu, rfl⟩ := lay69 hfr
  obtain ⟨s0, s1, s2, s3, s4, s5, s6, s15, s16, -⟩ := hs
  replace s0 : u 0 = .int .i64 kap := (hu 0).symm.trans s0
  replace s1 : u 1 = .int .u32 st := (hu 1).symm.trans s1
  replace s2 : u 2 = .int .i64 (m : Nat) := (hu 2).symm.trans s2
  replace s3 : u 3 = .slice (some ⟨cb, 0, none⟩) K K := (hu 3).symm.trans s3
  replace s4 : u 4 = .slice xr I I := (hu 4).symm.trans s4
  replace s5 : u 5 = .slice xi I I := (hu 5).symm.trans s5
  replace s6 : u 6 = .int .i64 (k : Nat) := (hu 6).symm.trans s6
  replace s15 : u 15 = .bool t := (hu 15).symm.trans s15
  replace s16 : u 16 = .int .i64 (i : Nat) := (hu 16).symm.trans s16
  rw [s0, s1, s2, s3, s4, s5, s6, s15, s16]
  clear hfr hu s0 s1 s2 s3 s4 s5 s6 s15 s16
  conv => arg 2; whnf
  have H : Hid _ := hQ
  clear hQ
  go_wp2
  exact H.out _ ⟨rfl, rfl⟩ ⟨rfl, rfl, rfl, rfl, rfl, rfl, rfl, rfl, rfl, trivial⟩

set_option maxRecDepth 10000 in
set_option maxHeartbeats 1000000 in
theorem t3  (a : Act) (w : World) (Q : Exit → Act → World → Prop) (hfr : Fr 69 a)
    (hQ : ∀ a', Fr 69 a' → sl a' 14 = .bool true → Q .ret a' w) :
    Code.wp Try.prog (dropC 3 (bodyC Try.f39)) Q a w := by
  obtain ⟨u, hu, rfl⟩ := lay69 hfr
  clear hfr hu
  conv => arg 2; whnf
  have H : Hid _ := hQ
  clear hQ
  go_wp2
  exact H.out _ ⟨rfl, rfl⟩ rfl

end Go.Proofs.Qxb6602526a
