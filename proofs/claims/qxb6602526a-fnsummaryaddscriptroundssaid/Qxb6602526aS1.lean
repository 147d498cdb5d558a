import Derived.Test.Qxb6602526aRows
import Derived.Test.Qxb6602526aMem
import Derived.WalkLawsBesides
import Derived.Deep.QuietTactic
import Derived.BigQuiet
namespace Go.Proofs.Qxb6602526a
open Go.RowKit
set_option linter.unusedSimpArgs false
set_option linter.unusedVariables false

/-- What (Result).Bit answers. -/
def bitOf (r : Int) : Int := if r = 2 then 1 else 0
def bitOk (r : Int) : Bool := r == 1 || r == 2

theorem bit_any (r : Int) (w : World) :
    Calls Try.prog 41 #[.int .u8 r] w fun e w' => e = .returned (.tuple #[.int .u8 (bitOf r), .bool (bitOk r)]) ∧ w' = w := by
  by_cases h1 : r = 1
  · subst h1
    go_enter Try.func41, Try.ntmps41
    go_wp2
    go_ret2
    exact ⟨rfl, rfl⟩
  · by_cases h2 : r = 2
    · subst h2
      go_enter Try.func41, Try.ntmps41
      go_wp2
      go_ret2
      exact ⟨rfl, rfl⟩
    · go_enter Try.func41, Try.ntmps41
      go_wp2
      go_ret2
      exact ⟨by simp [bitOf, bitOk, h1, h2], rfl⟩

/-- What maxOrNil hands back: 'x', 'y': what the two pointers point at. -/
def maxP (first : Bool) (largest v : Option Addr) (x y : Int) : Option Addr :=
  if first then v else match largest, v with
    | some a, some b => if x < y then some b else some a
    | _, _ => none

theorem maxOrNil_first (largest v : Option Addr) (w : World) :
    Calls Try.prog 40 #[.pointer largest, .pointer v, .bool true] w fun e w' => e = .returned (.pointer v) ∧ w' = w := by
  go_enter Try.func40, Try.ntmps40
  go_wp2
  go_ret
  exact ⟨rfl, rfl⟩

theorem maxOrNil_none (v : Option Addr) (w : World) :
    Calls Try.prog 40 #[.pointer none, .pointer v, .bool false] w fun e w' => e = .returned (.pointer none) ∧ w' = w := by
  go_enter Try.func40, Try.ntmps40
  go_wp2
  go_ret
  exact ⟨rfl, rfl⟩

theorem maxOrNil_vnone (a : Addr) (w : World) :
    Calls Try.prog 40 #[.pointer (some a), .pointer none, .bool false] w fun e w' => e = .returned (.pointer none) ∧ w' = w := by
  go_enter Try.func40, Try.ntmps40
  go_wp2
  go_ret
  exact ⟨rfl, rfl⟩

theorem maxOrNil_some (b c : Nat) (x y : Int) (w : World) (hx : w.cell? ⟨b, 0, none⟩ = some (.int .u64 x)) (hy : w.cell? ⟨c, 0, none⟩ = some (.int .u64 y)) :
    Calls Try.prog 40 #[.pointer (some ⟨b, 0, none⟩), .pointer (some ⟨c, 0, none⟩), .bool false] w fun e w' => e = .returned (.pointer (some (if x < y then ⟨c, 0, none⟩ else ⟨b, 0, none⟩))) ∧ ∃ n, w' = w.drewN n := by
  by_cases h : x < y
  · go_enter Try.func40, Try.ntmps40
    go_wp2
    go_quiet (fail)
    go_wp2
    go_ret
    exact ⟨by simp [h], _, rfl⟩
  · go_enter Try.func40, Try.ntmps40
    go_wp2
    go_quiet (fail)
    go_wp2
    go_ret
    exact ⟨by simp [h], _, rfl⟩

end Go.Proofs.Qxb6602526a
