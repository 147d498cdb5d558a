import Derived.Test.Qxb6605258aT4
namespace Go.Proofs.Qxb6605258a
open Go.RowKit
set_option linter.unusedSimpArgs false
set_option linter.unusedVariables false

def c6 (s : ByteArray) : Bool := (decide (25 ≤ s.size) && ((bt s (s.size - 6) == 43) || (bt s (s.size - 6) == 45)) && (bt s (s.size - 3) == 58))
def cZ (s : ByteArray) : Bool := ((bt s (s.size - 1) == 90) || (bt s (s.size - 1) == 122))
def offs (s : ByteArray) : Bool := (atM (bt s (s.size - 5)) (bt s (s.size - 4)) 23 && atM (bt s (s.size - 2)) (bt s (s.size - 1)) 59)
/-- What timeModel answers. -/
def mdl (s : ByteArray) : Int × Bool :=
  if 20 ≤ s.size ∧ headB s = true then
    if c6 s = true ∧ frOk (zb s) (s.size - 25) = true then (frN (s.size - 25), offs s)
    else if cZ s = true ∧ frOk (zb s) (s.size - 20) = true then (frN (s.size - 20), true) else (0, false)
  else (0, false)

def Post (s : ByteArray) (w : World) (e : Ending) (w' : World) : Prop := e = .returned (.tuple #[.int .i64 (mdl s).1, .bool (mdl s).2]) ∧ ∃ m, w' = w.drewN m

theorem fracZ (s : ByteArray) (j : Nat) (w : World) (hs : s.size ≤ 1048576) (h1 : 19 ≤ j) (h2 : j ≤ s.size) :
    Calls Try.prog 21 #[.string (s.extract 19 j)] w fun e w' => e = .returned (.tuple #[.int .i64 (if frOk (zb s) (j - 19) then frN (j - 19) else 0), .bool (frOk (zb s) (j - 19))]) ∧ w' = w := by
  have h := frac21 (s.extract 19 j) w (by rw [ext_size s 19 j h2]; omega)
  rw [ext_size s 19 j h2, frOk_congr (g := zb s) (fun i hi => bt_ext s 19 j i h2 hi)] at h
  exact h

theorem model14 (s : ByteArray) (w : World) (hs : s.size ≤ 1048576) : Calls Try.prog 14 #[.string s] w (Post s w) := by
  refine calls_nav 93 Try.func14 rfl rfl (by simp) fun a fr0 ha => ?_
  have s0 : Slots [(0, .string s)] a := ⟨ha 0 (by simp), trivial⟩
  have fin : ∀ (a' : Act) (N : Int) (ok : Bool) (m : Nat), (N, ok) = mdl s → Fr 93 a' → sl a' 2 = .int .i64 N → sl a' 3 = .bool ok → bodyPost Try.prog Try.f14 (Post s w) .ret a' (w.drewN m) := by
    intro a' N ok m hm f' s2 s3
    refine bodyPost_ret (results_tmp2 rfl _ _ _) f'.defers ⟨?_, m, rfl⟩
    rw [show a'.tmps.getD 2 undef = _ from s2, show a'.tmps.getD 3 undef = _ from s3, ← hm]
  refine wp_nav rfl (q0 _ _ _ _ fr0 s0 fun a1 f1 s1 => ?_)
  refine wp_nav rfl (q1 _ _ _ _ f1 s1 fun a2 f2 s2 => ?_)
  refine wp_nav rfl (q2 s (headB s) _ _ _ f2 s2 (fun h => head20 s w hs (by omega)) (fun a3 h20 hh f3 s3 => ?_) (fun a3 hn f3 t2 t3 => fin a3 0 false 0 (by rw [mdl, if_neg hn]) f3 t2 t3))
  have tail : ∀ a4, ¬ (c6 s = true ∧ frOk (zb s) (s.size - 25) = true) → Fr 93 a4 → Slots [(0, .string s), (4, .int .i64 (s.size : Nat))] a4 → Code.wp Try.prog (dropC 4 (bodyC Try.f14)) (bodyPost Try.prog Try.f14 (Post s w)) a4 w := by
    intro a4 hn f4 s4
    refine wp_nav rfl (wp_nav rfl (q8 s _ _ _ f4 s4 h20 hs fun a5 f5 s5 => ?_))
    have s5' : Slots [(0, .string s), (4, .int .i64 (s.size : Nat))] a5 := ⟨s5.1, s5.2.1, trivial⟩
    refine wp_navI (j := 82) rfl s5.2.2.1 (fun ht => ?_) (fun ht => ?_)
    · refine wp_nav rfl (q9 s _ _ _ _ _ f5 s5' h20 hs (fracZ s (s.size - 1) w hs (by omega) (by omega)) fun a6 f6 s6 => ?_)
      refine wp_nav rfl (q10 s _ _ _ _ _ f6 s6 fun a7 f7 s7 => ?_)
      refine wp_navI (j := 91) rfl s7.2.2.2.2.1 (fun hf => ?_) (fun hf => ?_)
      · refine q11 s _ _ _ _ _ f7 ⟨s7.1, s7.2.1, s7.2.2.1, s7.2.2.2.1, trivial⟩ fun a8 f8 t2 t3 => ?_
        refine fin a8 _ true 0 ?_ f8 t2 t3
        have e : s.size - 1 - 19 = s.size - 20 := by omega
        rw [e] at hf
        have hm : mdl s = (frN (s.size - 20), true) := by unfold mdl; rw [if_pos ⟨h20, hh⟩, if_neg hn, if_pos ⟨ht, hf⟩]
        rw [hm, e, hf, if_pos rfl]
      · refine wp_skip' rfl ?_
        refine q12 _ _ _ f7 fun a8 f8 t2 t3 => fin a8 0 false 0 ?_ f8 t2 t3
        have e : s.size - 1 - 19 = s.size - 20 := by omega
        rw [e] at hf
        rw [mdl, if_pos ⟨h20, hh⟩, if_neg hn, if_neg (fun h => by rw [h.2] at hf; cases hf)]
    · refine wp_skip' rfl ?_
      refine q12 _ _ _ f5 fun a8 f8 t2 t3 => fin a8 0 false 0 ?_ f8 t2 t3
      rw [mdl, if_pos ⟨h20, hh⟩, if_neg hn, if_neg (fun h => by have := h.1; rw [show cZ s = false from ht] at this; cases this)]
  refine wp_nav rfl (wp_nav rfl (q3h s _ _ _ f3 s3 h20 hs fun a4 f4 s4 => ?_))
  have s4' : Slots [(0, .string s), (4, .int .i64 (s.size : Nat))] a4 := ⟨s4.1, s4.2.1, trivial⟩
  refine wp_navI (j := 40) rfl s4.2.2.1 (fun ht => ?_) (fun ht => ?_)
  · have h25 : 25 ≤ s.size := by
      have := ht
      simp only [Bool.and_eq_true, decide_eq_true_eq] at this
      exact this.1.1
    refine wp_nav rfl (q5 s _ _ _ _ _ f4 s4' h25 hs (fracZ s (s.size - 6) w hs (by omega) (by omega)) fun a6 f6 s6 => ?_)
    refine wp_nav rfl (q6 s _ _ _ _ _ f6 s6 fun a7 f7 s7 => ?_)
    have e : s.size - 6 - 19 = s.size - 25 := by omega
    refine wp_navI (j := 49) rfl s7.2.2.2.2.1 (fun hf => ?_) (fun hf => ?_)
    · refine q7 s _ _ _ _ _ f7 ⟨s7.1, s7.2.1, s7.2.2.1, s7.2.2.2.1, trivial⟩ h25 hs fun a8 m f8 t2 t3 => ?_
      refine fin a8 _ _ m ?_ f8 t2 t3
      rw [e] at hf
      have hm : mdl s = (frN (s.size - 25), offs s) := by unfold mdl; rw [if_pos ⟨h20, hh⟩, if_pos ⟨ht, hf⟩]
      rw [hm, e, hf, if_pos rfl]
      rfl
    · refine wp_skip' rfl ?_
      rw [e] at hf
      exact tail a7 (fun h => by rw [h.2] at hf; cases hf) f7 ⟨s7.1, s7.2.1, trivial⟩
  · refine wp_skip' rfl ?_
    exact tail a4 (fun h => by have := h.1; rw [show c6 s = false from ht] at this; cases this) f4 s4'

end Go.Proofs.Qxb6605258a
