import Derived.Test.Qxb6602526aD1
import Derived.Test.Qxb6602526aNav6
import Derived.BigQuiet
import Derived.Deep.QuietTactic
namespace Go.Proofs.Qxb6602526a
open Go.RowKit
set_option linter.unusedSimpArgs false
set_option linter.unusedVariables false

/-- An indexWatch. -/
structure IW where
  kap : Int
  st : Int
  lv : Value
  seen : Bool
  split : Bool
  any : Bool
  last : Int
  viol : Int
  whole : Bool
  cnt : Bool
def IW.arr (s : IW) : Array Value := #[.int .i64 s.kap, .int .u32 s.st, s.lv, .bool s.seen, .bool s.split, .bool s.any, .int .u64 s.last, .int .u64 s.viol, .bool s.whole, .bool s.cnt]

/-- Where closure wants an index. -/
def wantV (kap st ck prev res : Int) : Int := if ck == IntKind.i64.wrap (kap - 1) then (prev + res) % 4294967296 % st else prev
def cls (kap st ck : Int) (prev res idx : Nat → Int) (n : Nat) : Bool := !anyTo (fun i => !(idx i == wantV kap st ck (prev i) (res i))) n
theorem cls_zero (kap st ck : Int) (prev res idx : Nat → Int) : cls kap st ck prev res idx 0 = true := rfl
theorem cls_succ (kap st ck : Int) (prev res idx : Nat → Int) (k : Nat) : cls kap st ck prev res idx (k + 1) = (cls kap st ck prev res idx k && (idx k == wantV kap st ck (prev k) (res k))) := by
  simp [cls, anyTo]
theorem cls_true {kap st ck : Int} {prev res idx : Nat → Int} : ∀ {n}, cls kap st ck prev res idx n = true ↔ ∀ i, i < n → idx i = wantV kap st ck (prev i) (res i)
  | 0 => ⟨fun _ i hi => by omega, fun _ => rfl⟩
  | n + 1 => by
    rw [cls_succ, Bool.and_eq_true, cls_true]
    constructor
    · rintro ⟨h1, h2⟩ i hi
      by_cases e : i = n
      · subst e; simpa using h2
      · exact h1 i (by omega)
    · intro h
      exact ⟨fun i hi => h i (by omega), by simpa using h n (by omega)⟩
theorem cls_bad {kap st ck : Int} {prev res idx : Nat → Int} {n k : Nat} (hk : k < n) (h : idx k ≠ wantV kap st ck (prev k) (res k)) : cls kap st ck prev res idx n = false := by
  cases e : cls kap st ck prev res idx n
  · rfl
  · exact absurd (cls_true.1 e k hk) h

/-- What 'observe' leaves (the held row aside). -/
def IW.obs (s : IW) (n : Nat) (p ck : Int) (prev res idx : Nat → Int) : IW :=
  let sp := dif idx (idx 0) n
  let wh := s.whole || (ck == 0)
  let ct := s.cnt && !(ck == 0)
  let vi := !sp && (wh && s.seen && !ct && !cls s.kap s.st ck prev res idx n)
  { kap := s.kap, st := s.st, lv := s.lv, seen := true, split := sp, any := s.any || sp, last := if sp then p else s.last, viol := if sp then 0 else if vi then s.viol + 1 else s.viol,
    whole := !sp && wh, cnt := ct || vi }

set_option maxRecDepth 10000 in
set_option maxHeartbeats 1000000 in
theorem c0 (b n rc ic : Nat) (xr xi : Option Addr) (ck : Int) (a : Act) (w : World) (Q : Exit → Act → World → Prop) (hfr : Fr 49 a) (hs : Slots [(0, .pointer (some ⟨b, 0, none⟩)), (1, .int .i64 ck), (2, .slice xr n rc), (3, .slice xi n ic)] a)
    (hQ : ∀ a', Fr 49 a' → Slots [(0, .pointer (some ⟨b, 0, none⟩)), (1, .int .i64 ck), (2, .slice xr n rc), (3, .slice xi n ic)] a' → Q .normal a' w) :
    Code.wp Try.prog (nthC 0 (bodyC Try.f44)) Q a w := by
  obtain ⟨u, hu, rfl⟩ := lay49 hfr
  obtain ⟨s0, s1, s2, s3, -⟩ := hs
  replace s0 : u 0 = .pointer (some ⟨b, 0, none⟩) := (hu 0).symm.trans s0
  replace s1 : u 1 = .int .i64 ck := (hu 1).symm.trans s1
  replace s2 : u 2 = .slice xr n rc := (hu 2).symm.trans s2
  replace s3 : u 3 = .slice xi n ic := (hu 3).symm.trans s3
  rw [s0, s1, s2, s3]
  clear hfr hu s0 s1 s2 s3
  conv => arg 2; whnf
  have H : Hid _ := hQ
  clear hQ
  go_wp2
  exact H.out _ ⟨rfl, rfl⟩ ⟨rfl, rfl, rfl, rfl, trivial⟩

set_option maxRecDepth 10000 in
set_option maxHeartbeats 1000000 in
theorem c1 (b n rc ic : Nat) (xr xi : Option Addr) (ck : Int) (a : Act) (w : World) (Q : Exit → Act → World → Prop) (hfr : Fr 49 a) (hs : Slots [(0, .pointer (some ⟨b, 0, none⟩)), (1, .int .i64 ck), (2, .slice xr n rc), (3, .slice xi n ic)] a)
    (hQ : ∀ a', Fr 49 a' → Slots [(0, .pointer (some ⟨b, 0, none⟩)), (1, .int .i64 ck), (2, .slice xr n rc), (3, .slice xi n ic), (12, .slice xi n ic), (13, .int .i64 n), (14, .int .i64 (0 : Nat))] a' → Q .normal a' w) :
    Code.wp Try.prog (hdC (nthC 1 (bodyC Try.f44))) Q a w := by
  obtain ⟨u, hu, rfl⟩ := lay49 hfr
  obtain ⟨s0, s1, s2, s3, -⟩ := hs
  replace s0 : u 0 = .pointer (some ⟨b, 0, none⟩) := (hu 0).symm.trans s0
  replace s1 : u 1 = .int .i64 ck := (hu 1).symm.trans s1
  replace s2 : u 2 = .slice xr n rc := (hu 2).symm.trans s2
  replace s3 : u 3 = .slice xi n ic := (hu 3).symm.trans s3
  rw [s0, s1, s2, s3]
  clear hfr hu s0 s1 s2 s3
  conv => arg 2; whnf
  have H : Hid _ := hQ
  clear hQ
  go_wp2
  exact H.out _ ⟨rfl, rfl⟩ ⟨rfl, rfl, rfl, rfl, rfl, rfl, rfl, trivial⟩

set_option maxRecDepth 10000 in
set_option maxHeartbeats 1000000 in
theorem cx (b n rc ic : Nat) (xr xi : Option Addr) (ck : Int) (k : Nat) (a : Act) (w : World) (Q : Exit → Act → World → Prop) (hfr : Fr 49 a) (hs : Slots [(0, .pointer (some ⟨b, 0, none⟩)), (1, .int .i64 ck), (2, .slice xr n rc), (3, .slice xi n ic), (12, .slice xi n ic), (13, .int .i64 n), (14, .int .i64 (k : Nat))] a)
    (hk : k = n) (hexit : ∀ a', Fr 49 a' → Q (.exit 0) a' w) :
    Code.wp Try.prog (inC (inC (tlC (nthC 1 (bodyC Try.f44))))) Q a w := by
  obtain ⟨u, hu, rfl⟩ := lay49 hfr
  obtain ⟨s0, s1, s2, s3, s12, s13, s14, -⟩ := hs
  replace s0 : u 0 = .pointer (some ⟨b, 0, none⟩) := (hu 0).symm.trans s0
  replace s1 : u 1 = .int .i64 ck := (hu 1).symm.trans s1
  replace s2 : u 2 = .slice xr n rc := (hu 2).symm.trans s2
  replace s3 : u 3 = .slice xi n ic := (hu 3).symm.trans s3
  replace s12 : u 12 = .slice xi n ic := (hu 12).symm.trans s12
  replace s13 : u 13 = .int .i64 n := (hu 13).symm.trans s13
  replace s14 : u 14 = .int .i64 (k : Nat) := (hu 14).symm.trans s14
  rw [s0, s1, s2, s3, s12, s13, s14]
  clear hfr hu s0 s1 s2 s3 s12 s13 s14
  conv => arg 2; whnf
  subst hk
  have H : Hid _ := hexit
  clear hexit
  have lk : ¬ ((k : Int) < k) := by omega
  go_wp2
  exact H.out _ ⟨rfl, rfl⟩

set_option maxRecDepth 10000 in
set_option maxHeartbeats 1000000 in
theorem cr (b n rc ic : Nat) (rb ro ib io g lc ln : Nat) (ck : Int) (k : Nat) (T : IW) (x pv r : Int) (a : Act) (w : World) (Q : Exit → Act → World → Prop) (hfr : Fr 49 a) (hs : Slots [(0, .pointer (some ⟨b, 0, none⟩)), (1, .int .i64 ck), (2, .slice (some ⟨rb, ro, none⟩) n rc), (3, .slice (some ⟨ib, io, none⟩) n ic), (12, .slice (some ⟨ib, io, none⟩) n ic), (13, .int .i64 n), (14, .int .i64 (k : Nat))] a)
    (lk : (k : Int) < n) (hln : (n : Int) ≤ 65536) (lkn : (k : Int) < ln) (hB : IsB w b T.arr 93) (hlv : T.lv = .slice (some ⟨g, 0, none⟩) ln lc) (hx : w.cell? ⟨ib, io + k, none⟩ = some (.int .u32 x)) (hr : w.cell? ⟨rb, ro + k, none⟩ = some (.int .u8 r)) (hp : w.cell? ⟨g, k, none⟩ = some (.int .u32 pv))
    (r0 : 0 ≤ r) (r1 : r < 256) (p0 : 0 ≤ pv) (p1 : pv < 4294967296) (t0 : 0 < T.st) (t1 : T.st < 4294967296)
    (hQ : ∀ a' w', (∃ m, w' = w.drewN m) → x = wantV T.kap T.st ck pv r → Fr 49 a' → Slots [(0, .pointer (some ⟨b, 0, none⟩)), (1, .int .i64 ck), (2, .slice (some ⟨rb, ro, none⟩) n rc), (3, .slice (some ⟨ib, io, none⟩) n ic), (12, .slice (some ⟨ib, io, none⟩) n ic), (13, .int .i64 n), (14, .int .i64 (k + 1 : Nat))] a' → Q .normal a' w') (hret : ∀ a' w', (∃ m, w' = w.drewN m) → x ≠ wantV T.kap T.st ck pv r → Fr 49 a' → sl a' 8 = .bool false → Q .ret a' w') :
    Code.wp Try.prog (inC (inC (tlC (nthC 1 (bodyC Try.f44))))) Q a w := by
  obtain ⟨u, hu, rfl⟩ := lay49 hfr
  obtain ⟨s0, s1, s2, s3, s12, s13, s14, -⟩ := hs
  replace s0 : u 0 = .pointer (some ⟨b, 0, none⟩) := (hu 0).symm.trans s0
  replace s1 : u 1 = .int .i64 ck := (hu 1).symm.trans s1
  replace s2 : u 2 = .slice (some ⟨rb, ro, none⟩) n rc := (hu 2).symm.trans s2
  replace s3 : u 3 = .slice (some ⟨ib, io, none⟩) n ic := (hu 3).symm.trans s3
  replace s12 : u 12 = .slice (some ⟨ib, io, none⟩) n ic := (hu 12).symm.trans s12
  replace s13 : u 13 = .int .i64 n := (hu 13).symm.trans s13
  replace s14 : u 14 = .int .i64 (k : Nat) := (hu 14).symm.trans s14
  rw [s0, s1, s2, s3, s12, s13, s14]
  clear hfr hu s0 s1 s2 s3 s12 s13 s14
  conv => arg 2; whnf
  obtain ⟨tk, ts, tl, t3, t4, t5, t6, t7, t8, t9⟩ := T
  simp only at hlv t0 t1 hQ hret
  subst hlv
  have b0 : w.cell? ⟨b, 0, none⟩ = some (.int .i64 tk) := hB.cell 0
  have b1 : w.cell? ⟨b, 1, none⟩ = some (.int .u32 ts) := hB.cell 1
  have b2 : w.cell? ⟨b, 2, none⟩ = some (.slice (some ⟨g, 0, none⟩) ln lc) := hB.cell 2
  have H : Hid _ := hQ
  have HX : Hid _ := hret
  clear hQ hret hB
  have e1 : IntKind.u32.wrap r = r := by simp only [IntKind.wrap_u32]; omega
  have e2 : IntKind.u32.wrap (pv + r) = (pv + r) % 4294967296 := by simp only [IntKind.wrap_u32]
  generalize hq : IntKind.i64.wrap (tk - 1) = q at *
  by_cases ht : ck = q
  · subst ht
    have ew : wantV tk ts ck pv r = (pv + r) % 4294967296 % ts := by simp [wantV, hq]
    rw [ew] at H HX
    have z0 : (ts == 0) = false := by simp; omega
    generalize hv : (pv + r) % 4294967296 % ts = v at *
    by_cases hx2 : x = v
    · subst hx2
      go_wp2_with fail
      go_quiet (fail)
      go_wp2
      exact H.out _ _ ⟨_, rfl⟩ (by trivial) ⟨rfl, rfl⟩ ⟨rfl, rfl, rfl, rfl, rfl, rfl, rfl, trivial⟩
    · have g2 : (x == v) = false := by simpa using hx2
      have HN : Hid _ := hx2
      clear hx2
      go_wp2_with fail
      go_quiet (fail)
      go_wp2
      exact HX.out _ _ ⟨_, rfl⟩ HN.out ⟨rfl, rfl⟩ rfl
  · have g : (ck == q) = false := by simpa using ht
    have ew : wantV tk ts ck pv r = pv := by simp [wantV, hq, ht]
    rw [ew] at H HX
    clear ht
    by_cases hx2 : x = pv
    · subst hx2
      go_wp2
      exact H.out _ _ ⟨0, rfl⟩ (by trivial) ⟨rfl, rfl⟩ ⟨rfl, rfl, rfl, rfl, rfl, rfl, rfl, trivial⟩
    · have g2 : (x == pv) = false := by simpa using hx2
      have HN : Hid _ := hx2
      clear hx2
      go_wp2
      exact HX.out _ _ ⟨0, rfl⟩ HN.out ⟨rfl, rfl⟩ rfl

set_option maxRecDepth 10000 in
set_option maxHeartbeats 1000000 in
theorem c2  (a : Act) (w : World) (Q : Exit → Act → World → Prop) (hfr : Fr 49 a)
    (hQ : ∀ a', Fr 49 a' → sl a' 8 = .bool true → Q .ret a' w) :
    Code.wp Try.prog (dropC 2 (bodyC Try.f44)) Q a w := by
  obtain ⟨u, hu, rfl⟩ := lay49 hfr
  clear hfr hu
  conv => arg 2; whnf
  have H : Hid _ := hQ
  clear hQ
  go_wp2
  exact H.out _ ⟨rfl, rfl⟩ rfl

end Go.Proofs.Qxb6602526a
