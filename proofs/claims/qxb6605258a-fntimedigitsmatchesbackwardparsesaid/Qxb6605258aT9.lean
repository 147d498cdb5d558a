import Derived.Test.Qxb6605258aT8
namespace Go.Proofs.Qxb6605258a
open Go.RowKit
set_option linter.unusedSimpArgs false
set_option linter.unusedVariables false

theorem zz12 (s : ByteArray) (w : World) (hs : s.size ≤ 9223372036854775807) : Calls Try.prog 12 #[.string s] w fun e w' => e = .returned (.bool (decide (s.size ≤ 1048576))) ∧ w' = w := by
  by_cases h : s.size ≤ 1048576
  · have l : ¬ ((1048576 : Int) < s.size) := by omega
    have d : decide (s.size ≤ 1048576) = true := by simpa using h
    rw [d]
    clear d
    go_enter Try.func12, Try.ntmps12
    go_wp2
    go_ret
    exact ⟨rfl, rfl⟩
  · have l : (1048576 : Int) < s.size := by omega
    have d : decide (s.size ≤ 1048576) = false := by simpa using h
    rw [d]
    clear d h
    go_enter Try.func12, Try.ntmps12
    go_wp2
    go_ret
    exact ⟨rfl, rfl⟩

theorem zt13 (s : ByteArray) (w : World) (hs : s.size ≤ 1048576) : Calls Try.prog 13 #[.string s] w (Post s w) := by
  have HC : Hid _ := digits19 s w hs
  clear hs
  unfold Post at *
  generalize mdl s = v at *
  obtain ⟨N, ok⟩ := v
  go_enter Try.func13, Try.ntmps13
  go_wp2_with (go_at_call 19; refine Calls.mono HC.out ?_; rintro e w' ⟨rfl, m, rfl⟩)
  go_ret2
  exact ⟨rfl, m, rfl⟩

/-- THE LAW. -/
theorem l5_walk (s : ByteArray) (w : World) (hs : s.size ≤ 9223372036854775807) : Calls Try.prog 5 #[.string s] w fun e w' => e = .returned (.bool true) ∧ ∃ m, w' = w.drewN m := by
  have HZ : Hid _ := zz12 s w hs
  by_cases h : s.size ≤ 1048576
  · have d : decide (s.size ≤ 1048576) = true := by simpa using h
    rw [d] at HZ
    have l : ¬ ((1048576 : Int) < s.size) := by omega
    have H1 : Hid _ := zt13 s w h
    have H2 : Hid _ := fun w : World => model14 s w h
    clear d h hs
    unfold Post at *
    generalize mdl s = v at *
    obtain ⟨N, ok⟩ := v
    go_enter Try.func5, Try.ntmps5
    go_wp2_with (first | (go_at_call 12; refine Calls.mono HZ.out ?_; rintro e w' ⟨rfl, rfl⟩) | (go_at_call 13; refine Calls.mono H1.out ?_; rintro e w' ⟨rfl, m1, rfl⟩) | (go_at_call 14; refine Calls.mono (H2.out _) ?_; rintro e w' ⟨rfl, m2, rfl⟩))
    go_ret
    exact ⟨rfl, _, rfl⟩
  · have d : decide (s.size ≤ 1048576) = false := by simpa using h
    rw [d] at HZ
    clear d h hs
    go_enter Try.func5, Try.ntmps5
    go_wp2_with (go_at_call 12; refine Calls.mono HZ.out ?_; rintro e w' ⟨rfl, rfl⟩)
    go_ret
    exact ⟨rfl, 0, rfl⟩

theorem grown_drewN (w : World) : ∀ m, Grown w (w.drewN m)
  | 0 => Grown.refl w
  | m + 1 => (grown_drewN w m).drew

end Go.Proofs.Qxb6605258a
