import Derived.Test.Qxb6602526aE3
import Derived.Test.Qxb6602526aC5
namespace Go.Proofs.Qxb6602526a
open Go.RowKit
set_option linter.unusedSimpArgs false
set_option linter.unusedVariables false

/-- Five results. -/
theorem results_tmp5 {fn : Func} {t u v x y : Tmp} (h : fn.results = #[.tmp t, .tmp u, .tmp v, .tmp x, .tmp y]) (tmps : Array Value) (P : Program) (w : World) :
    (results fn tmps).run P w = .ok (.tuple #[tmps.getD t undef, tmps.getD u undef, tmps.getD v undef, tmps.getD x undef, tmps.getD y undef]) w := by
  simp [results, h]

/-- A fresh watch. -/
def IW.new (kap st : Int) : IW := ⟨kap, st, .slice none 0 0, false, false, false, 0, 0, false, false⟩

theorem new26 (kap st : Int) (w : World) : Calls Try.prog 26 #[.int .i64 kap, .int .u32 st] w fun e w' => e = .returned (.pointer (some ⟨w.heap.size, 0, none⟩)) ∧ w' = w.alloc (.cells (IW.new kap st).arr 93) := by
  go_enter Try.func26, Try.ntmps26
  go_wp2
  go_ret
  exact ⟨rfl, rfl⟩

def ObsPost (b n : Nat) (p ck : Int) (T : IW) (prev res idx : Nat → Int) (w : World) (w' : World) : Prop :=
  ∃ lv, Kept (b :: (T.lv.ownBlock.toList)) w w' ∧ Held w' lv n idx ∧ (lv.ownBlock = T.lv.ownBlock ∨ ∃ g, lv.ownBlock = some g ∧ w.heap.size ≤ g) ∧ IsB w' b { T.obs n p ck prev res idx with lv := lv }.arr 93

theorem obs27 (b n rc ic rb ro ib io : Nat) (xr xi : Option Addr) (p ck : Int) (T : IW) (m0 : Nat) (prev res idx : Nat → Int) (w : World) (ln : (n : Int) ≤ 65536)
    (hB : IsB w b T.arr 93) (hL : Held w T.lv m0 prev) (hm : T.seen = true → m0 = n) (hLb : ∀ g, T.lv.ownBlock = some g → g ≠ b ∧ (0 < n → g ≠ rb ∧ g ≠ ib)) (hR : RowR .u8 xr rb ro n res w) (hI : RowR .u32 xi ib io n idx w) (hne : 0 < n → rb ≠ b ∧ ib ≠ b)
    (r8 : ∀ i, i < n → 0 ≤ res i ∧ res i < 256) (p32 : ∀ i, i < n → 0 ≤ prev i ∧ prev i < 4294967296) (t0 : 0 < T.st) (t1 : T.st < 4294967296) (v0 : 0 ≤ T.viol) (v1 : T.viol ≤ 1000000) :
    Calls Try.prog 27 #[.pointer (some ⟨b, 0, none⟩), .int .u64 p, .int .i64 ck, .slice xr n rc, .slice xi n ic] w fun e w' => e = .returned (.tuple #[]) ∧ ObsPost b n p ck T prev res idx w w' := by
  have HH : Hid _ := iobserve_calls b n rc ic rb ro ib io xr xi p ck T m0 prev res idx w ln hB hL hm hLb hR hI hne r8 p32 t0 t1 v0 v1
  clear hB hL hm hLb hR hI hne r8 p32 t0 t1 v0 v1 ln
  go_enter Try.func27, Try.ntmps27
  go_wp2_with (go_at_call 37; refine Calls.mono HH.out ?_; rintro e w' ⟨rfl, hp⟩)
  go_end0
  exact ⟨rfl, hp⟩

theorem read28 (b : Nat) (T : IW) (w : World) (hB : IsB w b T.arr 93) :
    Calls Try.prog 28 #[.pointer (some ⟨b, 0, none⟩)] w fun e w' => e = .returned (.tuple #[.bool T.seen, .bool T.split, .bool T.any, .int .u64 T.last, .int .u64 T.viol]) ∧ ∃ n, w' = w.drewN n := by
  have b3 : w.cell? ⟨b, 3, none⟩ = some (.bool T.seen) := hB.cell 3
  have b4 : w.cell? ⟨b, 4, none⟩ = some (.bool T.split) := hB.cell 4
  have b5 : w.cell? ⟨b, 5, none⟩ = some (.bool T.any) := hB.cell 5
  have b6 : w.cell? ⟨b, 6, none⟩ = some (.int .u64 T.last) := hB.cell 6
  have b7 : w.cell? ⟨b, 7, none⟩ = some (.int .u64 T.viol) := hB.cell 7
  clear hB
  go_enter Try.func28, Try.ntmps28
  go_wp2_with fail
  go_quiet (fail)
  go_wp2
  refine bodyPost_ret (results_tmp5 rfl _ _ _) rfl ?_
  exact ⟨rfl, _, rfl⟩

theorem last30 (b : Nat) (T : IW) (lp : Option Addr) (l c : Nat) (w : World) (hB : IsB w b T.arr 93) (hlv : T.lv = .slice lp l c) :
    Calls Try.prog 30 #[.pointer (some ⟨b, 0, none⟩)] w fun e w' => e = .returned (.slice lp l c) ∧ w' = w := by
  have b2 : w.cell? ⟨b, 2, none⟩ = some T.lv := hB.cell 2
  rw [hlv] at b2
  clear hB hlv
  go_enter Try.func30, Try.ntmps30
  go_wp2
  go_ret
  exact ⟨rfl, rfl⟩

/-- What indexShapeOK asks. -/
def ShapeX (st n : Int) (K C R I : Nat) : Prop := st ≠ 0 ∧ 0 ≤ n ∧ n ≤ 65536 ∧ C = K ∧ (R : Int) = n * K ∧ (I : Int) = n * K

def ShapePostX (st n : Int) (K C R I : Nat) (w : World) (e : Ending) (w' : World) : Prop := ∃ ok : Bool, e = .returned (.bool ok) ∧ w' = w ∧ (ok = true → ShapeX st n K C R I)

theorem shape25 (st n : Int) (K C R I : Nat) (xp xc xr xi : Option Addr) (kc cc rc ic : Nat) (w : World) (lK : (K : Int) ≤ 1048576) (lC : (C : Int) ≤ 1048576) (lR : (R : Int) ≤ 1048576) (lI : (I : Int) ≤ 1048576) :
    Calls Try.prog 25 #[.int .u32 st, .int .i64 n, .slice xp K kc, .slice xc C cc, .slice xr R rc, .slice xi I ic] w (ShapePostX st n K C R I w) := by
  by_cases hst : st = 0
  · subst hst
    go_enter Try.func25, Try.ntmps25
    go_wp2
    go_ret
    exact ⟨false, rfl, rfl, fun e => by cases e⟩
  have hst' : (st == 0) = false := by simpa using hst
  have Hst : Hid _ := hst
  clear hst
  by_cases h1 : n < 0
  · go_enter Try.func25, Try.ntmps25
    go_wp2
    go_ret
    exact ⟨false, rfl, rfl, fun e => by cases e⟩
  by_cases h2 : n > 65536
  · go_enter Try.func25, Try.ntmps25
    go_wp2
    go_ret
    exact ⟨false, rfl, rfl, fun e => by cases e⟩
  by_cases h3 : C = K
  case neg =>
    have h3' : ¬ ((C : Int) = (K : Int)) := by omega
    go_enter Try.func25, Try.ntmps25
    go_wp2
    go_ret
    exact ⟨false, rfl, rfl, fun e => by cases e⟩
  subst h3
  by_cases hn : n = 0
  · subst hn
    by_cases g1 : R = 0
    case neg =>
      have g1' : ¬ ((R : Int) = 0) := by omega
      go_enter Try.func25, Try.ntmps25
      go_wp2
      go_ret
      exact ⟨false, rfl, rfl, fun e => by cases e⟩
    subst g1
    by_cases g2 : I = 0
    case neg =>
      have g2' : ¬ ((I : Int) = 0) := by omega
      have g2'' : ((I : Int) == 0) = false := by simpa using g2'
      go_enter Try.func25, Try.ntmps25
      go_wp2
      go_ret
      exact ⟨false, rfl, rfl, fun e => by cases e⟩
    subst g2
    go_enter Try.func25, Try.ntmps25
    go_wp2
    go_ret
    exact ⟨true, rfl, rfl, fun _ => ⟨Hst.out, by omega, by omega, rfl, by simp, by simp⟩⟩
  obtain ⟨m, rfl⟩ : ∃ m : Nat, n = m := ⟨n.toNat, by omega⟩
  have hn0 : ((m : Int) == 0) = false := by simpa using hn
  have t3 : ∀ X : Nat, (X : Int) ≤ 1048576 → IntKind.i64.wrap ((X / m : Nat) : Int) = ((X / m : Nat) : Int) := fun X hX => by
    have : X / m ≤ X := Nat.div_le_self _ _
    generalize X / m = y at *
    rw [IntKind.wrap_i64]; omega
  have t4 : ∀ X : Nat, (X : Int) ≤ 1048576 → IntKind.i64.wrap ((X % m : Nat) : Int) = ((X % m : Nat) : Int) := fun X hX => by
    have : X % m ≤ X := Nat.mod_le _ _
    generalize X % m = y at *
    rw [IntKind.wrap_i64]; omega
  have a1 : ((I : Int).tmod (m : Int)) = ((I % m : Nat) : Int) := Int.ofNat_tmod I m
  have a2 : ((I : Int).tdiv (m : Int)) = ((I / m : Nat) : Int) := Int.ofNat_tdiv I m
  have a3 := t3 I lI
  have a4 := t4 I lI
  have r1 : ((R : Int).tmod (m : Int)) = ((R % m : Nat) : Int) := Int.ofNat_tmod R m
  have r2 : ((R : Int).tdiv (m : Int)) = ((R / m : Nat) : Int) := Int.ofNat_tdiv R m
  have r3 := t3 R lR
  have r4 := t4 R lR
  have dI := Nat.div_add_mod I m
  have dR := Nat.div_add_mod R m
  have HdI : Hid _ := dI
  have HdR : Hid _ := dR
  clear t3 t4 dI dR
  generalize hqI : I / m = qI at *
  generalize hsI : I % m = sI at *
  generalize hqR : R / m = qR at *
  generalize hsR : R % m = sR at *
  clear hqI hsI hqR hsR
  by_cases g1 : sR = 0
  case neg =>
    have g1' : ¬ ((sR : Int) = 0) := by omega
    go_enter Try.func25, Try.ntmps25
    go_wp2
    go_ret
    exact ⟨false, rfl, rfl, fun e => by cases e⟩
  subst g1
  by_cases g2 : qR = C
  case neg =>
    have g2' : ¬ ((qR : Int) = (C : Int)) := by omega
    go_enter Try.func25, Try.ntmps25
    go_wp2
    go_ret
    exact ⟨false, rfl, rfl, fun e => by cases e⟩
  subst g2
  by_cases g3 : sI = 0
  case neg =>
    have g3' : ¬ ((sI : Int) = 0) := by omega
    go_enter Try.func25, Try.ntmps25
    go_wp2
    go_ret
    exact ⟨false, rfl, rfl, fun e => by cases e⟩
  subst g3
  by_cases g4 : qI = qR
  case neg =>
    have g4' : ¬ ((qI : Int) = (qR : Int)) := by omega
    go_enter Try.func25, Try.ntmps25
    go_wp2
    go_ret
    exact ⟨false, rfl, rfl, fun e => by cases e⟩
  subst g4
  go_enter Try.func25, Try.ntmps25
  go_wp2
  go_ret
  refine ⟨true, rfl, rfl, fun _ => ⟨Hst.out, by omega, by omega, rfl, ?_, ?_⟩⟩
  · have := HdR.out
    rw [← this]; simp
  · have := HdI.out
    rw [← this]; simp

end Go.Proofs.Qxb6602526a
