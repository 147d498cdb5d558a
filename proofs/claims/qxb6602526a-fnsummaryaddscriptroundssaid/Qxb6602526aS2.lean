import Derived.Test.Qxb6602526aS1
import Derived.Test.Qxb6602526aFlo
import Derived.Test.Qxb6602526aSum
import Derived.Laws.FloatArith
namespace Go.Proofs.Qxb6602526a
open Go.RowKit
set_option linter.unusedSimpArgs false
set_option linter.unusedVariables false

theorem run_fdiv (m n : Int) (hm0 : 0 ≤ m) (hm : m < 18446744073709551616) (hn0 : 0 < n) (hn : n < 18446744073709551616) (w : World) :
    (binOp .quo 54 (.float .f64 (floatOfInt .f64 m)) (.float .f64 (floatOfInt .f64 n))).run Try.prog w = .ok (.float .f64 (fdiv m n)) w :=
  run_float_arith (P := Try.prog) w .quo 54 .f64 _ _ _ (fdiv_eq m n hm0 hm hn0 hn).1

@[local go_sem] theorem run_store_float (P : Program) (w : World) (a : Addr) (m : Mode) (k : FloatKind) (x : Nat) : (store a (.float k x) m).run P w = stored P w a (.float k x) m := run_store P w a _ m rfl

/-- (DecisionRounds).mean of counts that do not add up to zero: a new float64. -/
theorem mean_any (b m cap : Nat) (f : Nat → Int) (w : World) (hm : m ≤ 65536)
    (hc : ∀ i, i < m → w.cell? ⟨b, i, none⟩ = some (.int .u64 (f i))) (hf : ∀ i, i < m → 0 ≤ f i ∧ f i ≤ 1099511627777) (hpos : sumTo f m ≠ 0) :
    Calls Try.prog 42 #[.slice (some ⟨b, 0, none⟩) m cap] w fun e w' =>
      e = .returned (.pointer (some ⟨w.heap.size, 0, none⟩)) ∧ w' = w.alloc (.cells #[.float .f64 (fdiv (totTo f m % 18446744073709551616) (sumTo f m))] 54) := by
  have hl2 : (m : Int) ≤ 9223372036854775807 := by omega
  have H1 : Hid (∀ k, k < m → IntKind.u64.wrap (sumTo f k + f k) = sumTo f (k + 1)) := fun k hk => sum_step f m k hm hk hf
  have hsm := sum_small f m hm hf
  have hq := fun w => run_fdiv (totTo f m % 18446744073709551616) (sumTo f m) (by omega) (by omega) (by omega) (by omega) w
  clear hm hf hsm
  go_enter Try.func42, Try.ntmps42
  go_wp2
  go_loop [3, 4, 10] (fun s t i => ∃ k : Nat, k ≤ m ∧ i = .int .i64 k ∧ s = .int .u64 (sumTo f k) ∧ t = .int .u64 (totTo f k % 18446744073709551616)) (fun _ _ i => m - (intOf i).toNat)
  case atStart => exact ⟨0, Nat.zero_le _, rfl, rfl, rfl⟩
  case round =>
    obtain ⟨k, hk, rfl, rfl, rfl⟩ := hrel
    by_cases hlt : k < m
    · have hck := hc k hlt
      go_wp2
      go_round
      case rel => exact ⟨k + 1, by omega, by go_num, by rw [H1.out k hlt], by rw [tot_step]⟩
      case measure => simp [intOf]; omega
    · have hkm : k = m := by omega
      subst hkm
      have hp2 : (sumTo f k == 0) = false := by simpa using hpos
      go_wp2
      go_ret
      exact ⟨rfl, rfl⟩
end Go.Proofs.Qxb6602526a
