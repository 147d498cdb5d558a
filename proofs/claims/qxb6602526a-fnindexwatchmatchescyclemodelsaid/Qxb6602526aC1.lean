import Derived.Test.Qxb6602526aNav5
import Derived.Test.Qxb6602526aMem
import Derived.Test.Qxb6602526aRows
import Derived.Test.Qxb6602526aS3
import Derived.Deep.QuietTactic
import Derived.BigQuiet
namespace Go.Proofs.Qxb6602526a
open Go.RowKit
set_option linter.unusedSimpArgs false
set_option linter.unusedVariables false

/-- An agreementWatch. -/
structure AW where
  fc : Int
  cb : Bool
  un : Bool
  cs : Int
  bit : Int
  ag : Bool
  inv : Bool
  any : Bool
  last : Int
def AW.arr (s : AW) : Array Value := #[.int .u64 s.fc, .bool s.cb, .bool s.un, .int .u64 s.cs, .int .u8 s.bit, .bool s.ag, .bool s.inv, .bool s.any, .int .u64 s.last]

/-- One of f 0 .. f (k-1) is not v. -/
def dif (f : Nat → Int) (v : Int) (k : Nat) : Bool := anyTo (fun i => !(f i == v)) k

/-- What 'observe' leaves. -/
def AW.obs (s : AW) (n : Nat) (p ck : Int) (ins res : Nat → Int) : AW :=
  let ag := !dif res (res 0) n
  let iv := (ck == 0) && (s.cb && s.un && decide (s.fc ≤ s.cs)) && dif res s.bit n
  { fc := s.fc, cb := s.cb || (ck == 0), un := if ck == 0 then !dif ins (ins 0) n else s.un, cs := if ck == 0 then p else s.cs, bit := if ck == 0 then ins 0 else s.bit,
    ag := ag, inv := s.inv || iv, any := s.any || (!ag || iv), last := if !ag || iv then p else s.last }

/-- A piece that is a branch. -/
theorem wp_navI {P : Program} {c : Code} {Q : Exit → Act → World → Prop} {a : Act} {w : World} {j : Nat} {t : Bool} (hc : c = .cond (.tmp j) (thC c) (elC c)) (hj : sl a j = .bool t)
    (h1 : t = true → (thC c).wp P Q a w) (h2 : t = false → (elC c).wp P Q a w) : c.wp P Q a w := by
  rw [hc]
  refine wp_cond (t := t) (by simpa [sl, Act.eval] using hj) ?_
  cases t
  · exact h2 rfl
  · exact h1 rfl
theorem wp_skip' {P : Program} {c : Code} {Q : Exit → Act → World → Prop} {a : Act} {w : World} (hc : c = .skip) (h : Q .normal a w) : c.wp P Q a w := by
  rw [hc]; exact wp_skip h

theorem IsB.as {w : World} {b : Nat} {c : Array Value} {t : TypeId} (h : w.heap[b]? = some (.cells c t)) : IsB w b c t := h

set_option maxRecDepth 10000 in
set_option maxHeartbeats 1000000 in
theorem o0 (b ib io rb ro n icap rcap : Nat) (p ck : Int) (T : AW) (a : Act) (w : World) (Q : Exit → Act → World → Prop) (hfr : Fr 128 a) (hs : Slots [(0, .pointer (some ⟨b, 0, none⟩)), (1, .int .u64 p), (2, .int .i64 ck), (3, .slice (some ⟨ib, io, none⟩) n icap), (4, .slice (some ⟨rb, ro, none⟩) n rcap)] a)
    (hB : IsB w b T.arr 88) (hQ : ∀ a' w', Fr 128 a' → Slots [(0, .pointer (some ⟨b, 0, none⟩)), (1, .int .u64 p), (2, .int .i64 ck), (3, .slice (some ⟨ib, io, none⟩) n icap), (4, .slice (some ⟨rb, ro, none⟩) n rcap)] a' → Kept [b] w w' → IsB w' b { T with ag := true }.arr 88 → Q .normal a' w') :
    Code.wp Try.prog (nthC 0 (bodyC Try.f35)) Q a w := by
  obtain ⟨u, hu, rfl⟩ := lay128 hfr
  obtain ⟨s0, s1, s2, s3, s4, -⟩ := hs
  replace s0 : u 0 = .pointer (some ⟨b, 0, none⟩) := (hu 0).symm.trans s0
  replace s1 : u 1 = .int .u64 p := (hu 1).symm.trans s1
  replace s2 : u 2 = .int .i64 ck := (hu 2).symm.trans s2
  replace s3 : u 3 = .slice (some ⟨ib, io, none⟩) n icap := (hu 3).symm.trans s3
  replace s4 : u 4 = .slice (some ⟨rb, ro, none⟩) n rcap := (hu 4).symm.trans s4
  rw [s0, s1, s2, s3, s4]
  clear hfr hu s0 s1 s2 s3 s4
  conv => arg 2; whnf
  have b5 : w.cell? ⟨b, 5, none⟩ = some (.bool T.ag) := hB.cell 5
  have fz5 := hB.frozen 5
  have HB : Hid _ := hB
  have H : Hid _ := hQ
  clear hQ hB
  go_wp2
  exact H.out _ _ ⟨rfl, rfl⟩ ⟨rfl, rfl, rfl, rfl, rfl, trivial⟩ ((Kept.refl _ _).set _ (.inl (by simp))) (IsB.set (IsB.as HB.out) 5 _)

set_option maxRecDepth 10000 in
set_option maxHeartbeats 1000000 in
theorem o1i (b ib io rb ro n icap rcap : Nat) (p ck : Int) (a : Act) (w : World) (Q : Exit → Act → World → Prop) (hfr : Fr 128 a) (hs : Slots [(0, .pointer (some ⟨b, 0, none⟩)), (1, .int .u64 p), (2, .int .i64 ck), (3, .slice (some ⟨ib, io, none⟩) n icap), (4, .slice (some ⟨rb, ro, none⟩) n rcap)] a)
    (hQ : ∀ a', Fr 128 a' → Slots [(0, .pointer (some ⟨b, 0, none⟩)), (1, .int .u64 p), (2, .int .i64 ck), (3, .slice (some ⟨ib, io, none⟩) n icap), (4, .slice (some ⟨rb, ro, none⟩) n rcap), (22, .slice (some ⟨rb, ro, none⟩) n rcap), (23, .int .i64 n), (24, .int .i64 (0 : Nat))] a' → Q .normal a' w) :
    Code.wp Try.prog (hdC (nthC 1 (bodyC Try.f35))) Q a w := by
  obtain ⟨u, hu, rfl⟩ := lay128 hfr
  obtain ⟨s0, s1, s2, s3, s4, -⟩ := hs
  replace s0 : u 0 = .pointer (some ⟨b, 0, none⟩) := (hu 0).symm.trans s0
  replace s1 : u 1 = .int .u64 p := (hu 1).symm.trans s1
  replace s2 : u 2 = .int .i64 ck := (hu 2).symm.trans s2
  replace s3 : u 3 = .slice (some ⟨ib, io, none⟩) n icap := (hu 3).symm.trans s3
  replace s4 : u 4 = .slice (some ⟨rb, ro, none⟩) n rcap := (hu 4).symm.trans s4
  rw [s0, s1, s2, s3, s4]
  clear hfr hu s0 s1 s2 s3 s4
  conv => arg 2; whnf
  have H : Hid _ := hQ
  clear hQ
  go_wp2
  exact H.out _ ⟨rfl, rfl⟩ ⟨rfl, rfl, rfl, rfl, rfl, rfl, rfl, rfl, trivial⟩

set_option maxRecDepth 10000 in
set_option maxHeartbeats 1000000 in
theorem o1r (b ib io rb ro n icap rcap : Nat) (p ck : Int) (k : Nat) (T : AW) (x x0 : Int) (a : Act) (w : World) (Q : Exit → Act → World → Prop) (hfr : Fr 128 a) (hs : Slots [(0, .pointer (some ⟨b, 0, none⟩)), (1, .int .u64 p), (2, .int .i64 ck), (3, .slice (some ⟨ib, io, none⟩) n icap), (4, .slice (some ⟨rb, ro, none⟩) n rcap), (22, .slice (some ⟨rb, ro, none⟩) n rcap), (23, .int .i64 n), (24, .int .i64 (k : Nat))] a)
    (hk : k ≤ n) (ln : (n : Int) ≤ 65536) (h0 : 0 < n) (hB : IsB w b T.arr 88) (hne : rb ≠ b) (hx : k < n → w.cell? ⟨rb, ro + k, none⟩ = some (.int .u8 x)) (hx0 : w.cell? ⟨rb, ro, none⟩ = some (.int .u8 x0))
    (hQ : ∀ a' w', k < n → Fr 128 a' → Slots [(0, .pointer (some ⟨b, 0, none⟩)), (1, .int .u64 p), (2, .int .i64 ck), (3, .slice (some ⟨ib, io, none⟩) n icap), (4, .slice (some ⟨rb, ro, none⟩) n rcap), (22, .slice (some ⟨rb, ro, none⟩) n rcap), (23, .int .i64 n), (24, .int .i64 (k + 1 : Nat))] a' → Kept [b] w w' → IsB w' b { T with ag := T.ag && (x == x0) }.arr 88 → Q .normal a' w') (hexit : ∀ a', k = n → Fr 128 a' → Slots [(0, .pointer (some ⟨b, 0, none⟩)), (1, .int .u64 p), (2, .int .i64 ck), (3, .slice (some ⟨ib, io, none⟩) n icap), (4, .slice (some ⟨rb, ro, none⟩) n rcap)] a' → Q (.exit 0) a' w) :
    Code.wp Try.prog (inC (inC (tlC (nthC 1 (bodyC Try.f35))))) Q a w := by
  obtain ⟨u, hu, rfl⟩ := lay128 hfr
  obtain ⟨s0, s1, s2, s3, s4, s22, s23, s24, -⟩ := hs
  replace s0 : u 0 = .pointer (some ⟨b, 0, none⟩) := (hu 0).symm.trans s0
  replace s1 : u 1 = .int .u64 p := (hu 1).symm.trans s1
  replace s2 : u 2 = .int .i64 ck := (hu 2).symm.trans s2
  replace s3 : u 3 = .slice (some ⟨ib, io, none⟩) n icap := (hu 3).symm.trans s3
  replace s4 : u 4 = .slice (some ⟨rb, ro, none⟩) n rcap := (hu 4).symm.trans s4
  replace s22 : u 22 = .slice (some ⟨rb, ro, none⟩) n rcap := (hu 22).symm.trans s22
  replace s23 : u 23 = .int .i64 n := (hu 23).symm.trans s23
  replace s24 : u 24 = .int .i64 (k : Nat) := (hu 24).symm.trans s24
  rw [s0, s1, s2, s3, s4, s22, s23, s24]
  clear hfr hu s0 s1 s2 s3 s4 s22 s23 s24
  conv => arg 2; whnf
  have hne' : b ≠ rb := fun e => hne e.symm
  have b5 : w.cell? ⟨b, 5, none⟩ = some (.bool T.ag) := hB.cell 5
  have fz5 := hB.frozen 5
  have HB : Hid _ := hB
  have H : Hid _ := hQ
  have HX : Hid _ := hexit
  clear hQ hexit hB
  by_cases hlt : k < n
  · have c1 := hx hlt
    have lk : (k : Int) < n := by omega
    have l0 : (0 : Int) < n := by omega
    clear hx
    by_cases e : x = x0
    · subst e
      go_wp2
      refine H.out _ _ hlt ⟨rfl, rfl⟩ ⟨rfl, rfl, rfl, rfl, rfl, rfl, rfl, rfl, trivial⟩ (Kept.refl _ _) ?_
      rw [show (T.ag && (x == x)) = T.ag by simp]
      exact IsB.as HB.out
    · have g : (x == x0) = false := by simpa using e
      go_wp2
      refine H.out _ _ hlt ⟨rfl, rfl⟩ ⟨rfl, rfl, rfl, rfl, rfl, rfl, rfl, rfl, trivial⟩ ((Kept.refl _ _).set _ (.inl (by simp))) ?_
      rw [g, Bool.and_false]
      exact IsB.set (IsB.as HB.out) 5 (.bool false)
  · have lk : ¬ ((k : Int) < n) := by omega
    clear hx
    go_wp2
    exact HX.out _ (by omega) ⟨rfl, rfl⟩ ⟨rfl, rfl, rfl, rfl, rfl, trivial⟩

set_option maxRecDepth 10000 in
set_option maxHeartbeats 1000000 in
theorem o2 (b ib io rb ro n icap rcap : Nat) (p ck : Int) (a : Act) (w : World) (Q : Exit → Act → World → Prop) (hfr : Fr 128 a) (hs : Slots [(0, .pointer (some ⟨b, 0, none⟩)), (1, .int .u64 p), (2, .int .i64 ck), (3, .slice (some ⟨ib, io, none⟩) n icap), (4, .slice (some ⟨rb, ro, none⟩) n rcap)] a)
    (hQ : ∀ a', Fr 128 a' → Slots [(0, .pointer (some ⟨b, 0, none⟩)), (1, .int .u64 p), (2, .int .i64 ck), (3, .slice (some ⟨ib, io, none⟩) n icap), (4, .slice (some ⟨rb, ro, none⟩) n rcap), (14, .bool false)] a' → Q .normal a' w) :
    Code.wp Try.prog (nthC 2 (bodyC Try.f35)) Q a w := by
  obtain ⟨u, hu, rfl⟩ := lay128 hfr
  obtain ⟨s0, s1, s2, s3, s4, -⟩ := hs
  replace s0 : u 0 = .pointer (some ⟨b, 0, none⟩) := (hu 0).symm.trans s0
  replace s1 : u 1 = .int .u64 p := (hu 1).symm.trans s1
  replace s2 : u 2 = .int .i64 ck := (hu 2).symm.trans s2
  replace s3 : u 3 = .slice (some ⟨ib, io, none⟩) n icap := (hu 3).symm.trans s3
  replace s4 : u 4 = .slice (some ⟨rb, ro, none⟩) n rcap := (hu 4).symm.trans s4
  rw [s0, s1, s2, s3, s4]
  clear hfr hu s0 s1 s2 s3 s4
  conv => arg 2; whnf
  have H : Hid _ := hQ
  clear hQ
  go_wp2
  exact H.out _ ⟨rfl, rfl⟩ ⟨rfl, rfl, rfl, rfl, rfl, rfl, trivial⟩

set_option maxRecDepth 10000 in
set_option maxHeartbeats 1000000 in
theorem o3h (b ib io rb ro n icap rcap : Nat) (p ck : Int) (a : Act) (w : World) (Q : Exit → Act → World → Prop) (hfr : Fr 128 a) (hs : Slots [(0, .pointer (some ⟨b, 0, none⟩)), (1, .int .u64 p), (2, .int .i64 ck), (3, .slice (some ⟨ib, io, none⟩) n icap), (4, .slice (some ⟨rb, ro, none⟩) n rcap), (14, .bool false)] a)
    (hQ : ∀ a', Fr 128 a' → Slots [(0, .pointer (some ⟨b, 0, none⟩)), (1, .int .u64 p), (2, .int .i64 ck), (3, .slice (some ⟨ib, io, none⟩) n icap), (4, .slice (some ⟨rb, ro, none⟩) n rcap), (14, .bool false), (38, .bool (ck == 0))] a' → Q .normal a' w) :
    Code.wp Try.prog (hdC (nthC 3 (bodyC Try.f35))) Q a w := by
  obtain ⟨u, hu, rfl⟩ := lay128 hfr
  obtain ⟨s0, s1, s2, s3, s4, s14, -⟩ := hs
  replace s0 : u 0 = .pointer (some ⟨b, 0, none⟩) := (hu 0).symm.trans s0
  replace s1 : u 1 = .int .u64 p := (hu 1).symm.trans s1
  replace s2 : u 2 = .int .i64 ck := (hu 2).symm.trans s2
  replace s3 : u 3 = .slice (some ⟨ib, io, none⟩) n icap := (hu 3).symm.trans s3
  replace s4 : u 4 = .slice (some ⟨rb, ro, none⟩) n rcap := (hu 4).symm.trans s4
  replace s14 : u 14 = .bool false := (hu 14).symm.trans s14
  rw [s0, s1, s2, s3, s4, s14]
  clear hfr hu s0 s1 s2 s3 s4 s14
  conv => arg 2; whnf
  have H : Hid _ := hQ
  clear hQ
  go_wp2
  exact H.out _ ⟨rfl, rfl⟩ ⟨rfl, rfl, rfl, rfl, rfl, rfl, rfl, trivial⟩

set_option maxRecDepth 10000 in
set_option maxHeartbeats 1000000 in
theorem o10 (b ib io rb ro n icap rcap : Nat) (p ck : Int) (a : Act) (w : World) (Q : Exit → Act → World → Prop) (hfr : Fr 128 a) (hs : Slots [(0, .pointer (some ⟨b, 0, none⟩)), (1, .int .u64 p), (2, .int .i64 ck), (3, .slice (some ⟨ib, io, none⟩) n icap), (4, .slice (some ⟨rb, ro, none⟩) n rcap), (14, .bool false)] a)
    (hQ : ∀ a', Fr 128 a' → Slots [(0, .pointer (some ⟨b, 0, none⟩)), (1, .int .u64 p), (2, .int .i64 ck), (3, .slice (some ⟨ib, io, none⟩) n icap), (4, .slice (some ⟨rb, ro, none⟩) n rcap), (14, .bool false), (60, .slice (some ⟨rb, ro, none⟩) n rcap), (61, .int .i64 n), (62, .int .i64 (0 : Nat))] a' → Q .normal a' w) :
    Code.wp Try.prog (hdC (thC (tlC (hdC (thC (tlC (nthC 3 (bodyC Try.f35)))))))) Q a w := by
  obtain ⟨u, hu, rfl⟩ := lay128 hfr
  obtain ⟨s0, s1, s2, s3, s4, s14, -⟩ := hs
  replace s0 : u 0 = .pointer (some ⟨b, 0, none⟩) := (hu 0).symm.trans s0
  replace s1 : u 1 = .int .u64 p := (hu 1).symm.trans s1
  replace s2 : u 2 = .int .i64 ck := (hu 2).symm.trans s2
  replace s3 : u 3 = .slice (some ⟨ib, io, none⟩) n icap := (hu 3).symm.trans s3
  replace s4 : u 4 = .slice (some ⟨rb, ro, none⟩) n rcap := (hu 4).symm.trans s4
  replace s14 : u 14 = .bool false := (hu 14).symm.trans s14
  rw [s0, s1, s2, s3, s4, s14]
  clear hfr hu s0 s1 s2 s3 s4 s14
  conv => arg 2; whnf
  have H : Hid _ := hQ
  clear hQ
  go_wp2
  exact H.out _ ⟨rfl, rfl⟩ ⟨rfl, rfl, rfl, rfl, rfl, rfl, rfl, rfl, rfl, trivial⟩

set_option maxRecDepth 10000 in
set_option maxHeartbeats 1000000 in
theorem o11r (b ib io rb ro n icap rcap : Nat) (p ck : Int) (iv : Bool) (k : Nat) (T : AW) (x : Int) (a : Act) (w : World) (Q : Exit → Act → World → Prop) (hfr : Fr 128 a) (hs : Slots [(0, .pointer (some ⟨b, 0, none⟩)), (1, .int .u64 p), (2, .int .i64 ck), (3, .slice (some ⟨ib, io, none⟩) n icap), (4, .slice (some ⟨rb, ro, none⟩) n rcap), (14, .bool iv), (60, .slice (some ⟨rb, ro, none⟩) n rcap), (61, .int .i64 n), (62, .int .i64 (k : Nat))] a)
    (hk : k ≤ n) (ln : (n : Int) ≤ 65536) (hB : IsB w b T.arr 88) (hx : k < n → w.cell? ⟨rb, ro + k, none⟩ = some (.int .u8 x))
    (hQ : ∀ a', k < n → Fr 128 a' → Slots [(0, .pointer (some ⟨b, 0, none⟩)), (1, .int .u64 p), (2, .int .i64 ck), (3, .slice (some ⟨ib, io, none⟩) n icap), (4, .slice (some ⟨rb, ro, none⟩) n rcap), (14, .bool (iv || !(x == T.bit))), (60, .slice (some ⟨rb, ro, none⟩) n rcap), (61, .int .i64 n), (62, .int .i64 (k + 1 : Nat))] a' → Q .normal a' w) (hexit : ∀ a', k = n → Fr 128 a' → Slots [(0, .pointer (some ⟨b, 0, none⟩)), (1, .int .u64 p), (2, .int .i64 ck), (3, .slice (some ⟨ib, io, none⟩) n icap), (4, .slice (some ⟨rb, ro, none⟩) n rcap), (14, .bool iv)] a' → Q (.exit 2) a' w) :
    Code.wp Try.prog (inC (inC (tlC (thC (tlC (hdC (thC (tlC (nthC 3 (bodyC Try.f35)))))))))) Q a w := by
  obtain ⟨u, hu, rfl⟩ := lay128 hfr
  obtain ⟨s0, s1, s2, s3, s4, s14, s60, s61, s62, -⟩ := hs
  replace s0 : u 0 = .pointer (some ⟨b, 0, none⟩) := (hu 0).symm.trans s0
  replace s1 : u 1 = .int .u64 p := (hu 1).symm.trans s1
  replace s2 : u 2 = .int .i64 ck := (hu 2).symm.trans s2
  replace s3 : u 3 = .slice (some ⟨ib, io, none⟩) n icap := (hu 3).symm.trans s3
  replace s4 : u 4 = .slice (some ⟨rb, ro, none⟩) n rcap := (hu 4).symm.trans s4
  replace s14 : u 14 = .bool iv := (hu 14).symm.trans s14
  replace s60 : u 60 = .slice (some ⟨rb, ro, none⟩) n rcap := (hu 60).symm.trans s60
  replace s61 : u 61 = .int .i64 n := (hu 61).symm.trans s61
  replace s62 : u 62 = .int .i64 (k : Nat) := (hu 62).symm.trans s62
  rw [s0, s1, s2, s3, s4, s14, s60, s61, s62]
  clear hfr hu s0 s1 s2 s3 s4 s14 s60 s61 s62
  conv => arg 2; whnf
  have b4 : w.cell? ⟨b, 4, none⟩ = some (.int .u8 T.bit) := hB.cell 4
  have fz4 := hB.frozen 4
  have H : Hid _ := hQ
  have HX : Hid _ := hexit
  clear hQ hexit hB
  by_cases hlt : k < n
  · have c1 := hx hlt
    have lk : (k : Int) < n := by omega
    clear hx
    by_cases e : x = T.bit
    · have g : (x == T.bit) = true := by simpa using e
      rw [← e] at b4
      go_wp2
      refine H.out _ hlt ⟨rfl, rfl⟩ ?_
      rw [g, Bool.not_true, Bool.or_false]
      exact ⟨rfl, rfl, rfl, rfl, rfl, rfl, rfl, rfl, rfl, trivial⟩
    · have g : (x == T.bit) = false := by simpa using e
      go_wp2
      refine H.out _ hlt ⟨rfl, rfl⟩ ?_
      rw [g, Bool.not_false, Bool.or_true]
      exact ⟨rfl, rfl, rfl, rfl, rfl, rfl, rfl, rfl, rfl, trivial⟩
  · have lk : ¬ ((k : Int) < n) := by omega
    clear hx
    go_wp2
    exact HX.out _ (by omega) ⟨rfl, rfl⟩ ⟨rfl, rfl, rfl, rfl, rfl, rfl, trivial⟩

set_option maxRecDepth 10000 in
set_option maxHeartbeats 1000000 in
theorem o16 (b ib io rb ro n icap rcap : Nat) (p ck : Int) (iv : Bool) (T : AW) (i0 : Int) (a : Act) (w : World) (Q : Exit → Act → World → Prop) (hfr : Fr 128 a) (hs : Slots [(0, .pointer (some ⟨b, 0, none⟩)), (1, .int .u64 p), (2, .int .i64 ck), (3, .slice (some ⟨ib, io, none⟩) n icap), (4, .slice (some ⟨rb, ro, none⟩) n rcap), (14, .bool iv)] a)
    (h0 : (0 : Int) < n) (hne : ib ≠ b) (hB : IsB w b T.arr 88) (hi : w.cell? ⟨ib, io, none⟩ = some (.int .u8 i0)) (hQ : ∀ a' w', Fr 128 a' → Slots [(0, .pointer (some ⟨b, 0, none⟩)), (1, .int .u64 p), (2, .int .i64 ck), (3, .slice (some ⟨ib, io, none⟩) n icap), (4, .slice (some ⟨rb, ro, none⟩) n rcap), (14, .bool iv)] a' → Kept [b] w w' → IsB w' b { T with cb := true, un := true, cs := p, bit := i0 }.arr 88 → Q .normal a' w') :
    Code.wp Try.prog (nthC 1 (thC (tlC (nthC 3 (bodyC Try.f35))))) Q a w := by
  obtain ⟨u, hu, rfl⟩ := lay128 hfr
  obtain ⟨s0, s1, s2, s3, s4, s14, -⟩ := hs
  replace s0 : u 0 = .pointer (some ⟨b, 0, none⟩) := (hu 0).symm.trans s0
  replace s1 : u 1 = .int .u64 p := (hu 1).symm.trans s1
  replace s2 : u 2 = .int .i64 ck := (hu 2).symm.trans s2
  replace s3 : u 3 = .slice (some ⟨ib, io, none⟩) n icap := (hu 3).symm.trans s3
  replace s4 : u 4 = .slice (some ⟨rb, ro, none⟩) n rcap := (hu 4).symm.trans s4
  replace s14 : u 14 = .bool iv := (hu 14).symm.trans s14
  rw [s0, s1, s2, s3, s4, s14]
  clear hfr hu s0 s1 s2 s3 s4 s14
  conv => arg 2; whnf
  have hne' : b ≠ ib := fun e => hne e.symm
  have b1 : w.cell? ⟨b, 1, none⟩ = some (.bool T.cb) := hB.cell 1
  have fz1 := hB.frozen 1
  have b2 : w.cell? ⟨b, 2, none⟩ = some (.bool T.un) := hB.cell 2
  have fz2 := hB.frozen 2
  have b3 : w.cell? ⟨b, 3, none⟩ = some (.int .u64 T.cs) := hB.cell 3
  have fz3 := hB.frozen 3
  have b4 : w.cell? ⟨b, 4, none⟩ = some (.int .u8 T.bit) := hB.cell 4
  have fz4 := hB.frozen 4
  have HB : Hid _ := hB
  have H : Hid _ := hQ
  clear hQ hB
  go_wp2
  refine H.out _ _ ⟨rfl, rfl⟩ ⟨rfl, rfl, rfl, rfl, rfl, rfl, trivial⟩ ?_ ?_
  · exact ((((Kept.refl _ _).set _ (.inl (by simp))).set _ (.inl (by simp))).set _ (.inl (by simp))).set _ (.inl (by simp))
  · exact IsB.set (IsB.set (IsB.set (IsB.set (IsB.as HB.out) 1 _) 3 _) 2 _) 4 _

set_option maxRecDepth 10000 in
set_option maxHeartbeats 1000000 in
theorem o17 (b ib io rb ro n icap rcap : Nat) (p ck : Int) (iv : Bool) (a : Act) (w : World) (Q : Exit → Act → World → Prop) (hfr : Fr 128 a) (hs : Slots [(0, .pointer (some ⟨b, 0, none⟩)), (1, .int .u64 p), (2, .int .i64 ck), (3, .slice (some ⟨ib, io, none⟩) n icap), (4, .slice (some ⟨rb, ro, none⟩) n rcap), (14, .bool iv)] a)
    (hQ : ∀ a', Fr 128 a' → Slots [(0, .pointer (some ⟨b, 0, none⟩)), (1, .int .u64 p), (2, .int .i64 ck), (3, .slice (some ⟨ib, io, none⟩) n icap), (4, .slice (some ⟨rb, ro, none⟩) n rcap), (14, .bool iv), (89, .slice (some ⟨ib, io, none⟩) n icap), (90, .int .i64 n), (91, .int .i64 (0 : Nat))] a' → Q .normal a' w) :
    Code.wp Try.prog (nthC 2 (thC (tlC (nthC 3 (bodyC Try.f35))))) Q a w := by
  obtain ⟨u, hu, rfl⟩ := lay128 hfr
  obtain ⟨s0, s1, s2, s3, s4, s14, -⟩ := hs
  replace s0 : u 0 = .pointer (some ⟨b, 0, none⟩) := (hu 0).symm.trans s0
  replace s1 : u 1 = .int .u64 p := (hu 1).symm.trans s1
  replace s2 : u 2 = .int .i64 ck := (hu 2).symm.trans s2
  replace s3 : u 3 = .slice (some ⟨ib, io, none⟩) n icap := (hu 3).symm.trans s3
  replace s4 : u 4 = .slice (some ⟨rb, ro, none⟩) n rcap := (hu 4).symm.trans s4
  replace s14 : u 14 = .bool iv := (hu 14).symm.trans s14
  rw [s0, s1, s2, s3, s4, s14]
  clear hfr hu s0 s1 s2 s3 s4 s14
  conv => arg 2; whnf
  have H : Hid _ := hQ
  clear hQ
  go_wp2
  exact H.out _ ⟨rfl, rfl⟩ ⟨rfl, rfl, rfl, rfl, rfl, rfl, rfl, rfl, rfl, trivial⟩

set_option maxRecDepth 10000 in
set_option maxHeartbeats 1000000 in
theorem o18r (b ib io rb ro n icap rcap : Nat) (p ck : Int) (iv : Bool) (k : Nat) (T : AW) (x : Int) (a : Act) (w : World) (Q : Exit → Act → World → Prop) (hfr : Fr 128 a) (hs : Slots [(0, .pointer (some ⟨b, 0, none⟩)), (1, .int .u64 p), (2, .int .i64 ck), (3, .slice (some ⟨ib, io, none⟩) n icap), (4, .slice (some ⟨rb, ro, none⟩) n rcap), (14, .bool iv), (89, .slice (some ⟨ib, io, none⟩) n icap), (90, .int .i64 n), (91, .int .i64 (k : Nat))] a)
    (hk : k ≤ n) (ln : (n : Int) ≤ 65536) (hne : ib ≠ b) (hB : IsB w b T.arr 88) (hx : k < n → w.cell? ⟨ib, io + k, none⟩ = some (.int .u8 x))
    (hQ : ∀ a' w', k < n → Fr 128 a' → Slots [(0, .pointer (some ⟨b, 0, none⟩)), (1, .int .u64 p), (2, .int .i64 ck), (3, .slice (some ⟨ib, io, none⟩) n icap), (4, .slice (some ⟨rb, ro, none⟩) n rcap), (14, .bool iv), (89, .slice (some ⟨ib, io, none⟩) n icap), (90, .int .i64 n), (91, .int .i64 (k + 1 : Nat))] a' → Kept [b] w w' → IsB w' b { T with un := T.un && (x == T.bit) }.arr 88 → Q .normal a' w') (hexit : ∀ a', k = n → Fr 128 a' → Slots [(0, .pointer (some ⟨b, 0, none⟩)), (1, .int .u64 p), (2, .int .i64 ck), (3, .slice (some ⟨ib, io, none⟩) n icap), (4, .slice (some ⟨rb, ro, none⟩) n rcap), (14, .bool iv)] a' → Q (.exit 4) a' w) :
    Code.wp Try.prog (inC (inC (dropC 3 (thC (tlC (nthC 3 (bodyC Try.f35))))))) Q a w := by
  obtain ⟨u, hu, rfl⟩ := lay128 hfr
  obtain ⟨s0, s1, s2, s3, s4, s14, s89, s90, s91, -⟩ := hs
  replace s0 : u 0 = .pointer (some ⟨b, 0, none⟩) := (hu 0).symm.trans s0
  replace s1 : u 1 = .int .u64 p := (hu 1).symm.trans s1
  replace s2 : u 2 = .int .i64 ck := (hu 2).symm.trans s2
  replace s3 : u 3 = .slice (some ⟨ib, io, none⟩) n icap := (hu 3).symm.trans s3
  replace s4 : u 4 = .slice (some ⟨rb, ro, none⟩) n rcap := (hu 4).symm.trans s4
  replace s14 : u 14 = .bool iv := (hu 14).symm.trans s14
  replace s89 : u 89 = .slice (some ⟨ib, io, none⟩) n icap := (hu 89).symm.trans s89
  replace s90 : u 90 = .int .i64 n := (hu 90).symm.trans s90
  replace s91 : u 91 = .int .i64 (k : Nat) := (hu 91).symm.trans s91
  rw [s0, s1, s2, s3, s4, s14, s89, s90, s91]
  clear hfr hu s0 s1 s2 s3 s4 s14 s89 s90 s91
  conv => arg 2; whnf
  have hne' : b ≠ ib := fun e => hne e.symm
  have b2 : w.cell? ⟨b, 2, none⟩ = some (.bool T.un) := hB.cell 2
  have fz2 := hB.frozen 2
  have b4 : w.cell? ⟨b, 4, none⟩ = some (.int .u8 T.bit) := hB.cell 4
  have fz4 := hB.frozen 4
  have HB : Hid _ := hB
  have H : Hid _ := hQ
  have HX : Hid _ := hexit
  clear hQ hexit hB
  by_cases hlt : k < n
  · have c1 := hx hlt
    have lk : (k : Int) < n := by omega
    clear hx
    by_cases e : x = T.bit
    · have g : (x == T.bit) = true := by simpa using e
      rw [← e] at b4
      go_wp2
      refine H.out _ _ hlt ⟨rfl, rfl⟩ ⟨rfl, rfl, rfl, rfl, rfl, rfl, rfl, rfl, rfl, trivial⟩ (Kept.refl _ _) ?_
      rw [g, Bool.and_true]
      exact IsB.as HB.out
    · have g : (x == T.bit) = false := by simpa using e
      go_wp2
      refine H.out _ _ hlt ⟨rfl, rfl⟩ ⟨rfl, rfl, rfl, rfl, rfl, rfl, rfl, rfl, rfl, trivial⟩ ((Kept.refl _ _).set _ (.inl (by simp))) ?_
      rw [g, Bool.and_false]
      exact IsB.set (IsB.as HB.out) 2 (.bool false)
  · have lk : ¬ ((k : Int) < n) := by omega
    clear hx
    go_wp2
    exact HX.out _ (by omega) ⟨rfl, rfl⟩ ⟨rfl, rfl, rfl, rfl, rfl, rfl, trivial⟩

theorem mark_calls (b o : Nat) (v0 v1 : Value) (p : Int) (w : World) (h0 : w.cell? ⟨b, o, none⟩ = some v0) (h1 : w.cell? ⟨b, o + 1, none⟩ = some v1) (f0 : w.frozen? ⟨b, o, none⟩ = false) (f1 : w.frozen? ⟨b, o + 1, none⟩ = false) :
    Calls Try.prog 43 #[.pointer (some ⟨b, o, none⟩), .int .u64 p] w fun e w' => e = .returned (.tuple #[]) ∧ w' = (w.setCell ⟨b, o, none⟩ (.bool true)).setCell ⟨b, o + 1, none⟩ (.int .u64 p) := by
  go_enter Try.func43, Try.ntmps43
  go_wp2
  go_end0
  exact ⟨rfl, rfl⟩

end Go.Proofs.Qxb6602526a
