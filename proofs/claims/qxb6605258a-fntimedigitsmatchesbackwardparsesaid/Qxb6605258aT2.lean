import Derived.Test.Qxb6605258aT1
namespace Go.Proofs.Qxb6605258a
open Go.RowKit
set_option linter.unusedSimpArgs false
set_option linter.unusedVariables false

def frOk (z : Nat → Int) (m : Nat) : Bool := decide (m = 0) || ((z 0 == 46) && decide (2 ≤ m) && decide (m ≤ 10) && allD z 1 (m - 1))
def frN (m : Nat) : Int := if m = 0 then 0 else (m : Int) - 1

theorem toList_nil {s : ByteArray} (h : s.size = 0) : s.toList = [] := by
  rw [ByteArray.toList_eq]
  have : s.data.size = 0 := h
  simp at this
  subst this
  rfl
theorem toList_cons {s : ByteArray} (h : 0 < s.size) : (s.toList == []) = false := by
  rw [ByteArray.toList_eq]
  have : 0 < s.data.size := h
  cases e : s.data.toList with
  | nil => have h2 : s.data.toList.length = 0 := by rw [e]; rfl
           simp at h2; simp [h2] at this
  | cons a l => rfl

theorem frac21 (s : ByteArray) (w : World) (hs : s.size ≤ 1048576) : Calls Try.prog 21 #[.string s] w fun e w' => e = .returned (.tuple #[.int .i64 (if frOk (bt s) s.size then frN s.size else 0), .bool (frOk (bt s) s.size)]) ∧ w' = w := by
  by_cases h0 : s.size = 0
  · have hl := toList_nil h0
    have e1 : frOk (bt s) s.size = true := by simp [frOk, h0]
    have e2 : frN s.size = 0 := by simp [frN, h0]
    rw [e1, e2, if_pos rfl]
    clear e1 e2 hs
    go_enter Try.func21, Try.ntmps21
    go_wp2
    go_ret2
    exact ⟨rfl, rfl⟩
  have hl := toList_cons (s := s) (by omega)
  have hb := bt_at s
  have l0 : (0 : Int) < s.size := by omega
  have l1 : (s.size : Int) ≤ 1048576 := by omega
  by_cases g0 : bt s 0 = 46
  case neg =>
    have g : (bt s 0 == 46) = false := by simpa using g0
    have gn : (bt s 0 != 46) = true := by simpa using g0
    have e1 : frOk (bt s) s.size = false := by simp [frOk, h0, g]
    rw [e1, if_neg (by simp)]
    clear e1 hs g0 h0
    go_enter Try.func21, Try.ntmps21
    go_wp2
    go_ret2
    exact ⟨rfl, rfl⟩
  by_cases g1 : s.size < 2
  · have e1 : frOk (bt s) s.size = false := by simp [frOk, h0]; omega
    rw [e1, if_neg (by simp)]
    have l2 : (s.size : Int) < 2 := by omega
    clear e1 hs h0
    go_enter Try.func21, Try.ntmps21
    go_wp2
    go_ret2
    exact ⟨rfl, rfl⟩
  by_cases g2 : 10 < s.size
  · have e1 : frOk (bt s) s.size = false := by simp [frOk, h0]; omega
    rw [e1, if_neg (by simp)]
    have l2 : ¬ ((s.size : Int) < 2) := by omega
    have l3 : (10 : Int) < s.size := by omega
    clear e1 hs h0
    go_enter Try.func21, Try.ntmps21
    go_wp2
    go_ret2
    exact ⟨rfl, rfl⟩
  have hc := timeRun28 s 1 (s.size - 1) w (by omega) (by omega)
  rw [show ((s.size - 1 : Nat) : Int) = (s.size : Int) - 1 by omega] at hc
  have e1 : frOk (bt s) s.size = allD (bt s) 1 (s.size - 1) := by
    have a : decide (2 ≤ s.size) = true := by simp; omega
    have b : decide (s.size ≤ 10) = true := by simp; omega
    simp only [frOk, h0, g0, a, b]; simp
  have e2 : frN s.size = (s.size : Int) - 1 := by simp [frN, h0]
  rw [e1, e2]
  have HC : Hid _ := hc
  have l2 : ¬ ((s.size : Int) < 2) := by omega
  have l3 : ¬ ((10 : Int) < s.size) := by omega
  clear e1 e2 hs h0 hc
  generalize allD (bt s) 1 (s.size - 1) = d at *
  cases d
  · go_enter Try.func21, Try.ntmps21
    go_wp2_with (go_at_call 28; refine Calls.mono HC.out ?_; rintro e w' ⟨rfl, rfl⟩)
    go_ret2
    exact ⟨rfl, rfl⟩
  · go_enter Try.func21, Try.ntmps21
    go_wp2_with (go_at_call 28; refine Calls.mono HC.out ?_; rintro e w' ⟨rfl, rfl⟩)
    go_ret2
    exact ⟨rfl, rfl⟩

/-- timeRun at whole numbers. -/
def runD (s : ByteArray) (x y : Int) : Bool := allD (bt s) x.toNat y.toNat
theorem run28 (s : ByteArray) (w : World) (hs : s.size ≤ 1048576) (x y : Int) (hx : 0 ≤ x) (hy : 0 ≤ y) (hn : x + y ≤ s.size) : Calls Try.prog 28 #[.string s, .int .i64 x, .int .i64 y] w fun e w' => e = .returned (.bool (runD s x y)) ∧ w' = w := by
  obtain ⟨i, rfl⟩ : ∃ i : Nat, x = i := ⟨x.toNat, by omega⟩
  obtain ⟨n, rfl⟩ : ∃ n : Nat, y = n := ⟨y.toNat, by omega⟩
  exact timeRun28 s i n w hs (by omega)
def headB (s : ByteArray) : Bool := runD s 0 4 && (bt s 4 == 45) && runD s 5 2 && (bt s 7 == 45) && runD s 8 2 && ((bt s 10 == 84) || (bt s 10 == 116)) && runD s 11 2 && (bt s 13 == 58) && runD s 14 2 && (bt s 16 == 58) && runD s 17 2
set_option maxHeartbeats 2000000 in
theorem head20 (s : ByteArray) (w : World) (hs : s.size ≤ 1048576) (hn : 19 ≤ s.size) : Calls Try.prog 20 #[.string s] w fun e w' => e = .returned (.bool (headB s)) ∧ w' = w := by
  have hb := bt_at s
  have HC : Hid _ := run28 s w hs
  have ln : (19 : Int) ≤ s.size := by omega
  have n4 : 4 < s.size := by omega
  have n7 : 7 < s.size := by omega
  have n10 : 10 < s.size := by omega
  have n13 : 13 < s.size := by omega
  have n16 : 16 < s.size := by omega
  clear hs hn
  unfold headB
  cases h0 : runD s 0 4 with
  | false =>
    simp only [h0, Bool.false_and, Bool.true_and, Bool.and_false, Bool.and_true, beq_self_eq_true, Bool.or_true, Bool.true_or, Bool.or_self, Bool.false_or, Bool.or_false]
    go_enter Try.func20, Try.ntmps20
    go_wp2_with (go_at_call 28; refine Calls.mono (HC.out _ _ (by omega) (by omega) (by omega)) ?_; rintro e w' ⟨rfl, rfl⟩)
    go_ret
    exact ⟨rfl, rfl⟩
  | true =>
    by_cases g4 : bt s 4 = 45
    case neg =>
      have q4 : (bt s 4 == 45) = false := by simpa using g4
      clear g4
      simp only [q4, h0, Bool.false_and, Bool.true_and, Bool.and_false, Bool.and_true, beq_self_eq_true, Bool.or_true, Bool.true_or, Bool.or_self, Bool.false_or, Bool.or_false]
      go_enter Try.func20, Try.ntmps20
      go_wp2_with (go_at_call 28; refine Calls.mono (HC.out _ _ (by omega) (by omega) (by omega)) ?_; rintro e w' ⟨rfl, rfl⟩)
      go_ret
      exact ⟨rfl, rfl⟩
    cases h5 : runD s 5 2 with
    | false =>
      simp only [h5, h0, g4, Bool.false_and, Bool.true_and, Bool.and_false, Bool.and_true, beq_self_eq_true, Bool.or_true, Bool.true_or, Bool.or_self, Bool.false_or, Bool.or_false]
      go_enter Try.func20, Try.ntmps20
      go_wp2_with (go_at_call 28; refine Calls.mono (HC.out _ _ (by omega) (by omega) (by omega)) ?_; rintro e w' ⟨rfl, rfl⟩)
      go_ret
      exact ⟨rfl, rfl⟩
    | true =>
      by_cases g7 : bt s 7 = 45
      case neg =>
        have q7 : (bt s 7 == 45) = false := by simpa using g7
        clear g7
        simp only [q7, h0, g4, h5, Bool.false_and, Bool.true_and, Bool.and_false, Bool.and_true, beq_self_eq_true, Bool.or_true, Bool.true_or, Bool.or_self, Bool.false_or, Bool.or_false]
        go_enter Try.func20, Try.ntmps20
        go_wp2_with (go_at_call 28; refine Calls.mono (HC.out _ _ (by omega) (by omega) (by omega)) ?_; rintro e w' ⟨rfl, rfl⟩)
        go_ret
        exact ⟨rfl, rfl⟩
      cases h8 : runD s 8 2 with
      | false =>
        simp only [h8, h0, g4, h5, g7, Bool.false_and, Bool.true_and, Bool.and_false, Bool.and_true, beq_self_eq_true, Bool.or_true, Bool.true_or, Bool.or_self, Bool.false_or, Bool.or_false]
        go_enter Try.func20, Try.ntmps20
        go_wp2_with (go_at_call 28; refine Calls.mono (HC.out _ _ (by omega) (by omega) (by omega)) ?_; rintro e w' ⟨rfl, rfl⟩)
        go_ret
        exact ⟨rfl, rfl⟩
      | true =>
        by_cases g10 : bt s 10 = 84
        case neg =>
          have q10 : (bt s 10 == 84) = false := by simpa using g10
          clear g10
          by_cases g11 : bt s 10 = 116
          case neg =>
            have q11 : (bt s 10 == 116) = false := by simpa using g11
            clear g11
            simp only [q10, q11, h0, g4, h5, g7, h8, Bool.false_and, Bool.true_and, Bool.and_false, Bool.and_true, beq_self_eq_true, Bool.or_true, Bool.true_or, Bool.or_self, Bool.false_or, Bool.or_false]
            go_enter Try.func20, Try.ntmps20
            go_wp2_with (go_at_call 28; refine Calls.mono (HC.out _ _ (by omega) (by omega) (by omega)) ?_; rintro e w' ⟨rfl, rfl⟩)
            go_ret
            exact ⟨rfl, rfl⟩
          have q12 : ((116 : Int) == 84) = false := by decide
          cases h11 : runD s 11 2 with
          | false =>
            simp only [h11, h0, g4, h5, g7, h8, g11, q12, Bool.false_and, Bool.true_and, Bool.and_false, Bool.and_true, beq_self_eq_true, Bool.or_true, Bool.true_or, Bool.or_self, Bool.false_or, Bool.or_false]
            go_enter Try.func20, Try.ntmps20
            go_wp2_with (go_at_call 28; refine Calls.mono (HC.out _ _ (by omega) (by omega) (by omega)) ?_; rintro e w' ⟨rfl, rfl⟩)
            go_ret
            exact ⟨rfl, rfl⟩
          | true =>
            by_cases g13 : bt s 13 = 58
            case neg =>
              have q13 : (bt s 13 == 58) = false := by simpa using g13
              clear g13
              simp only [q13, h0, g4, h5, g7, h8, g11, q12, h11, Bool.false_and, Bool.true_and, Bool.and_false, Bool.and_true, beq_self_eq_true, Bool.or_true, Bool.true_or, Bool.or_self, Bool.false_or, Bool.or_false]
              go_enter Try.func20, Try.ntmps20
              go_wp2_with (go_at_call 28; refine Calls.mono (HC.out _ _ (by omega) (by omega) (by omega)) ?_; rintro e w' ⟨rfl, rfl⟩)
              go_ret
              exact ⟨rfl, rfl⟩
            cases h14 : runD s 14 2 with
            | false =>
              simp only [h14, h0, g4, h5, g7, h8, g11, q12, h11, g13, Bool.false_and, Bool.true_and, Bool.and_false, Bool.and_true, beq_self_eq_true, Bool.or_true, Bool.true_or, Bool.or_self, Bool.false_or, Bool.or_false]
              go_enter Try.func20, Try.ntmps20
              go_wp2_with (go_at_call 28; refine Calls.mono (HC.out _ _ (by omega) (by omega) (by omega)) ?_; rintro e w' ⟨rfl, rfl⟩)
              go_ret
              exact ⟨rfl, rfl⟩
            | true =>
              by_cases g16 : bt s 16 = 58
              case neg =>
                have q16 : (bt s 16 == 58) = false := by simpa using g16
                clear g16
                simp only [q16, h0, g4, h5, g7, h8, g11, q12, h11, g13, h14, Bool.false_and, Bool.true_and, Bool.and_false, Bool.and_true, beq_self_eq_true, Bool.or_true, Bool.true_or, Bool.or_self, Bool.false_or, Bool.or_false]
                go_enter Try.func20, Try.ntmps20
                go_wp2_with (go_at_call 28; refine Calls.mono (HC.out _ _ (by omega) (by omega) (by omega)) ?_; rintro e w' ⟨rfl, rfl⟩)
                go_ret
                exact ⟨rfl, rfl⟩
              cases h17 : runD s 17 2 with
              | false =>
                simp only [h17, h0, g4, h5, g7, h8, g11, q12, h11, g13, h14, g16, Bool.false_and, Bool.true_and, Bool.and_false, Bool.and_true, beq_self_eq_true, Bool.or_true, Bool.true_or, Bool.or_self, Bool.false_or, Bool.or_false]
                go_enter Try.func20, Try.ntmps20
                go_wp2_with (go_at_call 28; refine Calls.mono (HC.out _ _ (by omega) (by omega) (by omega)) ?_; rintro e w' ⟨rfl, rfl⟩)
                go_ret
                exact ⟨rfl, rfl⟩
              | true =>
                simp only [h0, g4, h5, g7, h8, g11, q12, h11, g13, h14, g16, h17, Bool.false_and, Bool.true_and, Bool.and_false, Bool.and_true, beq_self_eq_true, Bool.or_true, Bool.true_or, Bool.or_self, Bool.false_or, Bool.or_false]
                go_enter Try.func20, Try.ntmps20
                go_wp2_with (go_at_call 28; refine Calls.mono (HC.out _ _ (by omega) (by omega) (by omega)) ?_; rintro e w' ⟨rfl, rfl⟩)
                go_ret
                exact ⟨rfl, rfl⟩
        cases h11 : runD s 11 2 with
        | false =>
          simp only [h11, h0, g4, h5, g7, h8, g10, Bool.false_and, Bool.true_and, Bool.and_false, Bool.and_true, beq_self_eq_true, Bool.or_true, Bool.true_or, Bool.or_self, Bool.false_or, Bool.or_false]
          go_enter Try.func20, Try.ntmps20
          go_wp2_with (go_at_call 28; refine Calls.mono (HC.out _ _ (by omega) (by omega) (by omega)) ?_; rintro e w' ⟨rfl, rfl⟩)
          go_ret
          exact ⟨rfl, rfl⟩
        | true =>
          by_cases g13 : bt s 13 = 58
          case neg =>
            have q13 : (bt s 13 == 58) = false := by simpa using g13
            clear g13
            simp only [q13, h0, g4, h5, g7, h8, g10, h11, Bool.false_and, Bool.true_and, Bool.and_false, Bool.and_true, beq_self_eq_true, Bool.or_true, Bool.true_or, Bool.or_self, Bool.false_or, Bool.or_false]
            go_enter Try.func20, Try.ntmps20
            go_wp2_with (go_at_call 28; refine Calls.mono (HC.out _ _ (by omega) (by omega) (by omega)) ?_; rintro e w' ⟨rfl, rfl⟩)
            go_ret
            exact ⟨rfl, rfl⟩
          cases h14 : runD s 14 2 with
          | false =>
            simp only [h14, h0, g4, h5, g7, h8, g10, h11, g13, Bool.false_and, Bool.true_and, Bool.and_false, Bool.and_true, beq_self_eq_true, Bool.or_true, Bool.true_or, Bool.or_self, Bool.false_or, Bool.or_false]
            go_enter Try.func20, Try.ntmps20
            go_wp2_with (go_at_call 28; refine Calls.mono (HC.out _ _ (by omega) (by omega) (by omega)) ?_; rintro e w' ⟨rfl, rfl⟩)
            go_ret
            exact ⟨rfl, rfl⟩
          | true =>
            by_cases g16 : bt s 16 = 58
            case neg =>
              have q16 : (bt s 16 == 58) = false := by simpa using g16
              clear g16
              simp only [q16, h0, g4, h5, g7, h8, g10, h11, g13, h14, Bool.false_and, Bool.true_and, Bool.and_false, Bool.and_true, beq_self_eq_true, Bool.or_true, Bool.true_or, Bool.or_self, Bool.false_or, Bool.or_false]
              go_enter Try.func20, Try.ntmps20
              go_wp2_with (go_at_call 28; refine Calls.mono (HC.out _ _ (by omega) (by omega) (by omega)) ?_; rintro e w' ⟨rfl, rfl⟩)
              go_ret
              exact ⟨rfl, rfl⟩
            cases h17 : runD s 17 2 with
            | false =>
              simp only [h17, h0, g4, h5, g7, h8, g10, h11, g13, h14, g16, Bool.false_and, Bool.true_and, Bool.and_false, Bool.and_true, beq_self_eq_true, Bool.or_true, Bool.true_or, Bool.or_self, Bool.false_or, Bool.or_false]
              go_enter Try.func20, Try.ntmps20
              go_wp2_with (go_at_call 28; refine Calls.mono (HC.out _ _ (by omega) (by omega) (by omega)) ?_; rintro e w' ⟨rfl, rfl⟩)
              go_ret
              exact ⟨rfl, rfl⟩
            | true =>
              simp only [h0, g4, h5, g7, h8, g10, h11, g13, h14, g16, h17, Bool.false_and, Bool.true_and, Bool.and_false, Bool.and_true, beq_self_eq_true, Bool.or_true, Bool.true_or, Bool.or_self, Bool.false_or, Bool.or_false]
              go_enter Try.func20, Try.ntmps20
              go_wp2_with (go_at_call 28; refine Calls.mono (HC.out _ _ (by omega) (by omega) (by omega)) ?_; rintro e w' ⟨rfl, rfl⟩)
              go_ret
              exact ⟨rfl, rfl⟩

end Go.Proofs.Qxb6605258a
