import Derived.Test.Qxb6602526aC4
namespace Go.Proofs.Qxb6602526a
open Go.RowKit
set_option linter.unusedSimpArgs false
set_option linter.unusedVariables false

/-- Four results. -/
theorem results_tmp4 {fn : Func} {t u v x : Tmp} (h : fn.results = #[.tmp t, .tmp u, .tmp v, .tmp x]) (tmps : Array Value) (P : Program) (w : World) :
    (results fn tmps).run P w = .ok (.tuple #[tmps.getD t undef, tmps.getD u undef, tmps.getD v undef, tmps.getD x undef]) w := by
  simp [results, h]

/-- A fresh watch. -/
def AW.new (fc : Int) : AW := ⟨fc, false, false, 0, 0, false, false, false, 0⟩

theorem new19 (fc : Int) (w : World) : Calls Try.prog 19 #[.int .u64 fc] w fun e w' => e = .returned (.pointer (some ⟨w.heap.size, 0, none⟩)) ∧ w' = w.alloc (.cells (AW.new fc).arr 88) := by
  go_enter Try.func19, Try.ntmps19
  go_wp2
  go_ret
  exact ⟨rfl, rfl⟩

theorem obs20 (b ib io rb ro n icap rcap : Nat) (p ck : Int) (T : AW) (ins res : Nat → Int) (w : World)
    (ln : (n : Int) ≤ 65536) (h0 : 0 < n) (hB : IsB w b T.arr 88) (hib : ib ≠ b) (hrb : rb ≠ b) (hil : ib < w.heap.size) (hrl : rb < w.heap.size) (hi : ∀ k, k < n → w.cell? ⟨ib, io + k, none⟩ = some (.int .u8 (ins k))) (hr : ∀ k, k < n → w.cell? ⟨rb, ro + k, none⟩ = some (.int .u8 (res k))) :
    Calls Try.prog 20 #[.pointer (some ⟨b, 0, none⟩), .int .u64 p, .int .i64 ck, .slice (some ⟨ib, io, none⟩) n icap, .slice (some ⟨rb, ro, none⟩) n rcap] w
      fun e w' => e = .returned (.tuple #[]) ∧ Kept [b] w w' ∧ IsB w' b (T.obs n p ck ins res).arr 88 := by
  have HH : Hid _ := observe_calls b ib io rb ro n icap rcap p ck T ins res w ln h0 hB hib hrb hil hrl hi hr
  clear hB hi hr
  go_enter Try.func20, Try.ntmps20
  go_wp2_with (go_at_call 35; refine Calls.mono HH.out ?_; rintro e w' ⟨rfl, hp⟩)
  go_end0
  exact ⟨rfl, hp⟩

theorem read21 (b : Nat) (T : AW) (w : World) (hB : IsB w b T.arr 88) :
    Calls Try.prog 21 #[.pointer (some ⟨b, 0, none⟩)] w fun e w' => e = .returned (.tuple #[.bool T.ag, .bool T.inv, .bool T.any, .int .u64 T.last]) ∧ ∃ n, w' = w.drewN n := by
  have b5 : w.cell? ⟨b, 5, none⟩ = some (.bool T.ag) := hB.cell 5
  have b6 : w.cell? ⟨b, 6, none⟩ = some (.bool T.inv) := hB.cell 6
  have b7 : w.cell? ⟨b, 7, none⟩ = some (.bool T.any) := hB.cell 7
  have b8 : w.cell? ⟨b, 8, none⟩ = some (.int .u64 T.last) := hB.cell 8
  clear hB
  go_enter Try.func21, Try.ntmps21
  go_wp2_with fail
  go_quiet (fail)
  go_wp2
  refine bodyPost_ret (results_tmp4 rfl _ _ _) rfl ?_
  exact ⟨rfl, _, rfl⟩

/-- What agreeShapeOK asks. -/
def Shape (n : Int) (K C I R : Nat) : Prop := 1 ≤ n ∧ n ≤ 65536 ∧ C = K ∧ (I : Int) = n * K ∧ (R : Int) = n * K

def ShapePost (n : Int) (K C I R : Nat) (w : World) (e : Ending) (w' : World) : Prop := ∃ ok : Bool, e = .returned (.bool ok) ∧ w' = w ∧ (ok = true → Shape n K C I R)

theorem shape16 (n : Int) (K C I R : Nat) (xp xc xi xr : Option Addr) (kc cc ic rc : Nat) (w : World) (lK : (K : Int) ≤ 1048576) (lC : (C : Int) ≤ 1048576) (lI : (I : Int) ≤ 1048576) (lR : (R : Int) ≤ 1048576) :
    Calls Try.prog 16 #[.int .i64 n, .slice xp K kc, .slice xc C cc, .slice xi I ic, .slice xr R rc] w (ShapePost n K C I R w) := by
  by_cases h1 : n < 1
  · go_enter Try.func16, Try.ntmps16
    go_wp2
    go_ret
    exact ⟨false, rfl, rfl, fun e => by cases e⟩
  by_cases h2 : n > 65536
  · go_enter Try.func16, Try.ntmps16
    go_wp2
    go_ret
    exact ⟨false, rfl, rfl, fun e => by cases e⟩
  by_cases h3 : C = K
  case neg =>
    have h3' : ¬ ((C : Int) = (K : Int)) := by omega
    go_enter Try.func16, Try.ntmps16
    go_wp2
    go_ret
    exact ⟨false, rfl, rfl, fun e => by cases e⟩
  subst h3
  obtain ⟨m, rfl⟩ : ∃ m : Nat, n = m := ⟨n.toNat, by omega⟩
  have hn0 : ((m : Int) == 0) = false := by simp; omega
  have t3 : ∀ X : Nat, (X : Int) ≤ 1048576 → IntKind.i64.wrap ((X / m : Nat) : Int) = ((X / m : Nat) : Int) := fun X hX => by
    have : X / m ≤ X := Nat.div_le_self _ _
    generalize X / m = y at *
    rw [IntKind.wrap_i64]; omega
  have t4 : ∀ X : Nat, (X : Int) ≤ 1048576 → IntKind.i64.wrap ((X % m : Nat) : Int) = ((X % m : Nat) : Int) := fun X hX => by
    have : X % m ≤ X := Nat.mod_le _ _
    generalize X % m = y at *
    rw [IntKind.wrap_i64]; omega
  have a1 : ((I : Int).tmod (m : Int)) = ((I % m : Nat) : Int) := Int.ofNat_tmod I m
  have a2 : ((I : Int).tdiv (m : Int)) = ((I / m : Nat) : Int) := Int.ofNat_tdiv I m
  have a3 := t3 I lI
  have a4 := t4 I lI
  have r1 : ((R : Int).tmod (m : Int)) = ((R % m : Nat) : Int) := Int.ofNat_tmod R m
  have r2 : ((R : Int).tdiv (m : Int)) = ((R / m : Nat) : Int) := Int.ofNat_tdiv R m
  have r3 := t3 R lR
  have r4 := t4 R lR
  have dI := Nat.div_add_mod I m
  have dR := Nat.div_add_mod R m
  have HdI : Hid _ := dI
  have HdR : Hid _ := dR
  clear t3 t4 dI dR
  generalize hqI : I / m = qI at *
  generalize hsI : I % m = sI at *
  generalize hqR : R / m = qR at *
  generalize hsR : R % m = sR at *
  clear hqI hsI hqR hsR
  by_cases g1 : sI = 0
  case neg =>
    have g1' : ¬ ((sI : Int) = 0) := by omega
    go_enter Try.func16, Try.ntmps16
    go_wp2
    go_ret
    exact ⟨false, rfl, rfl, fun e => by cases e⟩
  subst g1
  by_cases g2 : qI = C
  case neg =>
    have g2' : ¬ ((qI : Int) = (C : Int)) := by omega
    go_enter Try.func16, Try.ntmps16
    go_wp2
    go_ret
    exact ⟨false, rfl, rfl, fun e => by cases e⟩
  subst g2
  by_cases g3 : sR = 0
  case neg =>
    have g3' : ¬ ((sR : Int) = 0) := by omega
    go_enter Try.func16, Try.ntmps16
    go_wp2
    go_ret
    exact ⟨false, rfl, rfl, fun e => by cases e⟩
  subst g3
  by_cases g4 : qR = qI
  case neg =>
    have g4' : ¬ ((qR : Int) = (qI : Int)) := by omega
    go_enter Try.func16, Try.ntmps16
    go_wp2
    go_ret
    exact ⟨false, rfl, rfl, fun e => by cases e⟩
  subst g4
  go_enter Try.func16, Try.ntmps16
  go_wp2
  go_ret
  refine ⟨true, rfl, rfl, fun _ => ⟨by omega, by omega, rfl, ?_, ?_⟩⟩
  · have := HdI.out
    rw [← this]; simp
  · have := HdR.out
    rw [← this]; simp

end Go.Proofs.Qxb6602526a
