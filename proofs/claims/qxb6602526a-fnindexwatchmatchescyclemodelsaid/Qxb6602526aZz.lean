import Derived.Test.Qxb6602526aRows
import Derived.Test.Qxb6602526aMem
namespace Go.Proofs.Qxb6602526a
open Go.RowKit
set_option linter.unusedSimpArgs false
set_option linter.unusedVariables false

theorem zz9_yes (a0 : Int) (x0 : Option Addr) (n0 c0 : Nat) (x1 : Option Addr) (n1 c1 : Nat) (x2 : Option Addr) (n2 c2 : Nat) (x3 : Option Addr) (n3 c3 : Nat) (x4 : Option Addr) (n4 c4 : Nat) (w : World) (h : n0 + n1 + n2 + n3 + n4 ≤ 1048576) :
    Calls Try.prog 9 #[.int .u32 a0, .slice x0 n0 c0, .slice x1 n1 c1, .slice x2 n2 c2, .slice x3 n3 c3, .slice x4 n4 c4] w fun e w' => e = .returned (.bool true) ∧ w' = w := by
  have h0 : (n0 : Int) ≤ 1048576 := by omega
  have h1 : (n1 : Int) ≤ 1048576 := by omega
  have h2 : (n2 : Int) ≤ 1048576 := by omega
  have h3 : (n3 : Int) ≤ 1048576 := by omega
  have h4 : (n4 : Int) ≤ 1048576 := by omega
  have g1 : (n0 : Int) + (n1 : Int) ≤ 1048576 := by omega
  have g2 : (n0 : Int) + (n1 : Int) + (n2 : Int) ≤ 1048576 := by omega
  have g3 : (n0 : Int) + (n1 : Int) + (n2 : Int) + (n3 : Int) ≤ 1048576 := by omega
  have g4 : (n0 : Int) + (n1 : Int) + (n2 : Int) + (n3 : Int) + (n4 : Int) ≤ 1048576 := by omega
  clear h
  go_enter Try.func9, Try.ntmps9
  go_wp2
  go_ret
  exact ⟨rfl, rfl⟩

theorem zz9_no (a0 : Int) (x0 : Option Addr) (n0 c0 : Nat) (x1 : Option Addr) (n1 c1 : Nat) (x2 : Option Addr) (n2 c2 : Nat) (x3 : Option Addr) (n3 c3 : Nat) (x4 : Option Addr) (n4 c4 : Nat) (w : World) (h : ¬ n0 + n1 + n2 + n3 + n4 ≤ 1048576) (l0 : n0 ≤ 9223372036854775807) (l1 : n1 ≤ 9223372036854775807) (l2 : n2 ≤ 9223372036854775807) (l3 : n3 ≤ 9223372036854775807) (l4 : n4 ≤ 9223372036854775807) :
    Calls Try.prog 9 #[.int .u32 a0, .slice x0 n0 c0, .slice x1 n1 c1, .slice x2 n2 c2, .slice x3 n3 c3, .slice x4 n4 c4] w fun e w' => e = .returned (.bool false) ∧ w' = w := by
  have m0 : (n0 : Int) ≤ 9223372036854775807 := by omega
  have m1 : (n1 : Int) ≤ 9223372036854775807 := by omega
  have m2 : (n2 : Int) ≤ 9223372036854775807 := by omega
  have m3 : (n3 : Int) ≤ 9223372036854775807 := by omega
  have m4 : (n4 : Int) ≤ 9223372036854775807 := by omega
  clear l0 l1 l2 l3 l4
  by_cases h0 : (1048576 : Int) < n0
  · clear h
    go_enter Try.func9, Try.ntmps9
    go_wp2
    go_ret
    exact ⟨rfl, rfl⟩
  by_cases h1 : (1048576 : Int) < n1
  · clear h
    go_enter Try.func9, Try.ntmps9
    go_wp2
    go_ret
    exact ⟨rfl, rfl⟩
  by_cases g1 : (1048576 : Int) < (n0 : Int) + (n1 : Int)
  · clear h
    go_enter Try.func9, Try.ntmps9
    go_wp2
    go_ret
    exact ⟨rfl, rfl⟩
  by_cases h2 : (1048576 : Int) < n2
  · clear h
    go_enter Try.func9, Try.ntmps9
    go_wp2
    go_ret
    exact ⟨rfl, rfl⟩
  by_cases g2 : (1048576 : Int) < (n0 : Int) + (n1 : Int) + (n2 : Int)
  · clear h
    go_enter Try.func9, Try.ntmps9
    go_wp2
    go_ret
    exact ⟨rfl, rfl⟩
  by_cases h3 : (1048576 : Int) < n3
  · clear h
    go_enter Try.func9, Try.ntmps9
    go_wp2
    go_ret
    exact ⟨rfl, rfl⟩
  by_cases g3 : (1048576 : Int) < (n0 : Int) + (n1 : Int) + (n2 : Int) + (n3 : Int)
  · clear h
    go_enter Try.func9, Try.ntmps9
    go_wp2
    go_ret
    exact ⟨rfl, rfl⟩
  by_cases h4 : (1048576 : Int) < n4
  · clear h
    go_enter Try.func9, Try.ntmps9
    go_wp2
    go_ret
    exact ⟨rfl, rfl⟩
  by_cases g4 : (1048576 : Int) < (n0 : Int) + (n1 : Int) + (n2 : Int) + (n3 : Int) + (n4 : Int)
  · clear h
    go_enter Try.func9, Try.ntmps9
    go_wp2
    go_ret
    exact ⟨rfl, rfl⟩
  exact absurd h (by omega)

theorem zz15_yes (a0 : Int) (a1 : Int) (x0 : Option Addr) (n0 c0 : Nat) (x1 : Option Addr) (n1 c1 : Nat) (x2 : Option Addr) (n2 c2 : Nat) (x3 : Option Addr) (n3 c3 : Nat) (w : World) (h : n0 + n1 + n2 + n3 ≤ 1048576) :
    Calls Try.prog 15 #[.int .u64 a0, .int .i64 a1, .slice x0 n0 c0, .slice x1 n1 c1, .slice x2 n2 c2, .slice x3 n3 c3] w fun e w' => e = .returned (.bool true) ∧ w' = w := by
  have h0 : (n0 : Int) ≤ 1048576 := by omega
  have h1 : (n1 : Int) ≤ 1048576 := by omega
  have h2 : (n2 : Int) ≤ 1048576 := by omega
  have h3 : (n3 : Int) ≤ 1048576 := by omega
  have g1 : (n0 : Int) + (n1 : Int) ≤ 1048576 := by omega
  have g2 : (n0 : Int) + (n1 : Int) + (n2 : Int) ≤ 1048576 := by omega
  have g3 : (n0 : Int) + (n1 : Int) + (n2 : Int) + (n3 : Int) ≤ 1048576 := by omega
  clear h
  go_enter Try.func15, Try.ntmps15
  go_wp2
  go_ret
  exact ⟨rfl, rfl⟩

theorem zz15_no (a0 : Int) (a1 : Int) (x0 : Option Addr) (n0 c0 : Nat) (x1 : Option Addr) (n1 c1 : Nat) (x2 : Option Addr) (n2 c2 : Nat) (x3 : Option Addr) (n3 c3 : Nat) (w : World) (h : ¬ n0 + n1 + n2 + n3 ≤ 1048576) (l0 : n0 ≤ 9223372036854775807) (l1 : n1 ≤ 9223372036854775807) (l2 : n2 ≤ 9223372036854775807) (l3 : n3 ≤ 9223372036854775807) :
    Calls Try.prog 15 #[.int .u64 a0, .int .i64 a1, .slice x0 n0 c0, .slice x1 n1 c1, .slice x2 n2 c2, .slice x3 n3 c3] w fun e w' => e = .returned (.bool false) ∧ w' = w := by
  have m0 : (n0 : Int) ≤ 9223372036854775807 := by omega
  have m1 : (n1 : Int) ≤ 9223372036854775807 := by omega
  have m2 : (n2 : Int) ≤ 9223372036854775807 := by omega
  have m3 : (n3 : Int) ≤ 9223372036854775807 := by omega
  clear l0 l1 l2 l3
  by_cases h0 : (1048576 : Int) < n0
  · clear h
    go_enter Try.func15, Try.ntmps15
    go_wp2
    go_ret
    exact ⟨rfl, rfl⟩
  by_cases h1 : (1048576 : Int) < n1
  · clear h
    go_enter Try.func15, Try.ntmps15
    go_wp2
    go_ret
    exact ⟨rfl, rfl⟩
  by_cases g1 : (1048576 : Int) < (n0 : Int) + (n1 : Int)
  · clear h
    go_enter Try.func15, Try.ntmps15
    go_wp2
    go_ret
    exact ⟨rfl, rfl⟩
  by_cases h2 : (1048576 : Int) < n2
  · clear h
    go_enter Try.func15, Try.ntmps15
    go_wp2
    go_ret
    exact ⟨rfl, rfl⟩
  by_cases g2 : (1048576 : Int) < (n0 : Int) + (n1 : Int) + (n2 : Int)
  · clear h
    go_enter Try.func15, Try.ntmps15
    go_wp2
    go_ret
    exact ⟨rfl, rfl⟩
  by_cases h3 : (1048576 : Int) < n3
  · clear h
    go_enter Try.func15, Try.ntmps15
    go_wp2
    go_ret
    exact ⟨rfl, rfl⟩
  by_cases g3 : (1048576 : Int) < (n0 : Int) + (n1 : Int) + (n2 : Int) + (n3 : Int)
  · clear h
    go_enter Try.func15, Try.ntmps15
    go_wp2
    go_ret
    exact ⟨rfl, rfl⟩
  exact absurd h (by omega)

theorem zz23_yes (a0 : Int) (a1 : Int) (a2 : Int) (x0 : Option Addr) (n0 c0 : Nat) (x1 : Option Addr) (n1 c1 : Nat) (x2 : Option Addr) (n2 c2 : Nat) (x3 : Option Addr) (n3 c3 : Nat) (w : World) (h : n0 + n1 + n2 + n3 ≤ 1048576) :
    Calls Try.prog 23 #[.int .u64 a0, .int .u64 a1, .int .i64 a2, .slice x0 n0 c0, .slice x1 n1 c1, .slice x2 n2 c2, .slice x3 n3 c3] w fun e w' => e = .returned (.bool true) ∧ w' = w := by
  have h0 : (n0 : Int) ≤ 1048576 := by omega
  have h1 : (n1 : Int) ≤ 1048576 := by omega
  have h2 : (n2 : Int) ≤ 1048576 := by omega
  have h3 : (n3 : Int) ≤ 1048576 := by omega
  have g1 : (n0 : Int) + (n1 : Int) ≤ 1048576 := by omega
  have g2 : (n0 : Int) + (n1 : Int) + (n2 : Int) ≤ 1048576 := by omega
  have g3 : (n0 : Int) + (n1 : Int) + (n2 : Int) + (n3 : Int) ≤ 1048576 := by omega
  clear h
  go_enter Try.func23, Try.ntmps23
  go_wp2
  go_ret
  exact ⟨rfl, rfl⟩

theorem zz23_no (a0 : Int) (a1 : Int) (a2 : Int) (x0 : Option Addr) (n0 c0 : Nat) (x1 : Option Addr) (n1 c1 : Nat) (x2 : Option Addr) (n2 c2 : Nat) (x3 : Option Addr) (n3 c3 : Nat) (w : World) (h : ¬ n0 + n1 + n2 + n3 ≤ 1048576) (l0 : n0 ≤ 9223372036854775807) (l1 : n1 ≤ 9223372036854775807) (l2 : n2 ≤ 9223372036854775807) (l3 : n3 ≤ 9223372036854775807) :
    Calls Try.prog 23 #[.int .u64 a0, .int .u64 a1, .int .i64 a2, .slice x0 n0 c0, .slice x1 n1 c1, .slice x2 n2 c2, .slice x3 n3 c3] w fun e w' => e = .returned (.bool false) ∧ w' = w := by
  have m0 : (n0 : Int) ≤ 9223372036854775807 := by omega
  have m1 : (n1 : Int) ≤ 9223372036854775807 := by omega
  have m2 : (n2 : Int) ≤ 9223372036854775807 := by omega
  have m3 : (n3 : Int) ≤ 9223372036854775807 := by omega
  clear l0 l1 l2 l3
  by_cases h0 : (1048576 : Int) < n0
  · clear h
    go_enter Try.func23, Try.ntmps23
    go_wp2
    go_ret
    exact ⟨rfl, rfl⟩
  by_cases h1 : (1048576 : Int) < n1
  · clear h
    go_enter Try.func23, Try.ntmps23
    go_wp2
    go_ret
    exact ⟨rfl, rfl⟩
  by_cases g1 : (1048576 : Int) < (n0 : Int) + (n1 : Int)
  · clear h
    go_enter Try.func23, Try.ntmps23
    go_wp2
    go_ret
    exact ⟨rfl, rfl⟩
  by_cases h2 : (1048576 : Int) < n2
  · clear h
    go_enter Try.func23, Try.ntmps23
    go_wp2
    go_ret
    exact ⟨rfl, rfl⟩
  by_cases g2 : (1048576 : Int) < (n0 : Int) + (n1 : Int) + (n2 : Int)
  · clear h
    go_enter Try.func23, Try.ntmps23
    go_wp2
    go_ret
    exact ⟨rfl, rfl⟩
  by_cases h3 : (1048576 : Int) < n3
  · clear h
    go_enter Try.func23, Try.ntmps23
    go_wp2
    go_ret
    exact ⟨rfl, rfl⟩
  by_cases g3 : (1048576 : Int) < (n0 : Int) + (n1 : Int) + (n2 : Int) + (n3 : Int)
  · clear h
    go_enter Try.func23, Try.ntmps23
    go_wp2
    go_ret
    exact ⟨rfl, rfl⟩
  exact absurd h (by omega)

theorem zz24_yes (a0 : Int) (a1 : Int) (a2 : Int) (x0 : Option Addr) (n0 c0 : Nat) (x1 : Option Addr) (n1 c1 : Nat) (x2 : Option Addr) (n2 c2 : Nat) (x3 : Option Addr) (n3 c3 : Nat) (w : World) (h : n0 + n1 + n2 + n3 ≤ 1048576) :
    Calls Try.prog 24 #[.int .i64 a0, .int .u32 a1, .int .i64 a2, .slice x0 n0 c0, .slice x1 n1 c1, .slice x2 n2 c2, .slice x3 n3 c3] w fun e w' => e = .returned (.bool true) ∧ w' = w := by
  have h0 : (n0 : Int) ≤ 1048576 := by omega
  have h1 : (n1 : Int) ≤ 1048576 := by omega
  have h2 : (n2 : Int) ≤ 1048576 := by omega
  have h3 : (n3 : Int) ≤ 1048576 := by omega
  have g1 : (n0 : Int) + (n1 : Int) ≤ 1048576 := by omega
  have g2 : (n0 : Int) + (n1 : Int) + (n2 : Int) ≤ 1048576 := by omega
  have g3 : (n0 : Int) + (n1 : Int) + (n2 : Int) + (n3 : Int) ≤ 1048576 := by omega
  clear h
  go_enter Try.func24, Try.ntmps24
  go_wp2
  go_ret
  exact ⟨rfl, rfl⟩

theorem zz24_no (a0 : Int) (a1 : Int) (a2 : Int) (x0 : Option Addr) (n0 c0 : Nat) (x1 : Option Addr) (n1 c1 : Nat) (x2 : Option Addr) (n2 c2 : Nat) (x3 : Option Addr) (n3 c3 : Nat) (w : World) (h : ¬ n0 + n1 + n2 + n3 ≤ 1048576) (l0 : n0 ≤ 9223372036854775807) (l1 : n1 ≤ 9223372036854775807) (l2 : n2 ≤ 9223372036854775807) (l3 : n3 ≤ 9223372036854775807) :
    Calls Try.prog 24 #[.int .i64 a0, .int .u32 a1, .int .i64 a2, .slice x0 n0 c0, .slice x1 n1 c1, .slice x2 n2 c2, .slice x3 n3 c3] w fun e w' => e = .returned (.bool false) ∧ w' = w := by
  have m0 : (n0 : Int) ≤ 9223372036854775807 := by omega
  have m1 : (n1 : Int) ≤ 9223372036854775807 := by omega
  have m2 : (n2 : Int) ≤ 9223372036854775807 := by omega
  have m3 : (n3 : Int) ≤ 9223372036854775807 := by omega
  clear l0 l1 l2 l3
  by_cases h0 : (1048576 : Int) < n0
  · clear h
    go_enter Try.func24, Try.ntmps24
    go_wp2
    go_ret
    exact ⟨rfl, rfl⟩
  by_cases h1 : (1048576 : Int) < n1
  · clear h
    go_enter Try.func24, Try.ntmps24
    go_wp2
    go_ret
    exact ⟨rfl, rfl⟩
  by_cases g1 : (1048576 : Int) < (n0 : Int) + (n1 : Int)
  · clear h
    go_enter Try.func24, Try.ntmps24
    go_wp2
    go_ret
    exact ⟨rfl, rfl⟩
  by_cases h2 : (1048576 : Int) < n2
  · clear h
    go_enter Try.func24, Try.ntmps24
    go_wp2
    go_ret
    exact ⟨rfl, rfl⟩
  by_cases g2 : (1048576 : Int) < (n0 : Int) + (n1 : Int) + (n2 : Int)
  · clear h
    go_enter Try.func24, Try.ntmps24
    go_wp2
    go_ret
    exact ⟨rfl, rfl⟩
  by_cases h3 : (1048576 : Int) < n3
  · clear h
    go_enter Try.func24, Try.ntmps24
    go_wp2
    go_ret
    exact ⟨rfl, rfl⟩
  by_cases g3 : (1048576 : Int) < (n0 : Int) + (n1 : Int) + (n2 : Int) + (n3 : Int)
  · clear h
    go_enter Try.func24, Try.ntmps24
    go_wp2
    go_ret
    exact ⟨rfl, rfl⟩
  exact absurd h (by omega)

theorem zz31_yes (a0 : Int) (a1 : Int) (a2 : Int) (x0 : Option Addr) (n0 c0 : Nat) (x1 : Option Addr) (n1 c1 : Nat) (x2 : Option Addr) (n2 c2 : Nat) (x3 : Option Addr) (n3 c3 : Nat) (w : World) (h : n0 + n1 + n2 + n3 ≤ 1048576) :
    Calls Try.prog 31 #[.int .i64 a0, .int .u32 a1, .int .i64 a2, .slice x0 n0 c0, .slice x1 n1 c1, .slice x2 n2 c2, .slice x3 n3 c3] w fun e w' => e = .returned (.bool true) ∧ w' = w := by
  have h0 : (n0 : Int) ≤ 1048576 := by omega
  have h1 : (n1 : Int) ≤ 1048576 := by omega
  have h2 : (n2 : Int) ≤ 1048576 := by omega
  have h3 : (n3 : Int) ≤ 1048576 := by omega
  have g1 : (n0 : Int) + (n1 : Int) ≤ 1048576 := by omega
  have g2 : (n0 : Int) + (n1 : Int) + (n2 : Int) ≤ 1048576 := by omega
  have g3 : (n0 : Int) + (n1 : Int) + (n2 : Int) + (n3 : Int) ≤ 1048576 := by omega
  clear h
  go_enter Try.func31, Try.ntmps31
  go_wp2
  go_ret
  exact ⟨rfl, rfl⟩

theorem zz31_no (a0 : Int) (a1 : Int) (a2 : Int) (x0 : Option Addr) (n0 c0 : Nat) (x1 : Option Addr) (n1 c1 : Nat) (x2 : Option Addr) (n2 c2 : Nat) (x3 : Option Addr) (n3 c3 : Nat) (w : World) (h : ¬ n0 + n1 + n2 + n3 ≤ 1048576) (l0 : n0 ≤ 9223372036854775807) (l1 : n1 ≤ 9223372036854775807) (l2 : n2 ≤ 9223372036854775807) (l3 : n3 ≤ 9223372036854775807) :
    Calls Try.prog 31 #[.int .i64 a0, .int .u32 a1, .int .i64 a2, .slice x0 n0 c0, .slice x1 n1 c1, .slice x2 n2 c2, .slice x3 n3 c3] w fun e w' => e = .returned (.bool false) ∧ w' = w := by
  have m0 : (n0 : Int) ≤ 9223372036854775807 := by omega
  have m1 : (n1 : Int) ≤ 9223372036854775807 := by omega
  have m2 : (n2 : Int) ≤ 9223372036854775807 := by omega
  have m3 : (n3 : Int) ≤ 9223372036854775807 := by omega
  clear l0 l1 l2 l3
  by_cases h0 : (1048576 : Int) < n0
  · clear h
    go_enter Try.func31, Try.ntmps31
    go_wp2
    go_ret
    exact ⟨rfl, rfl⟩
  by_cases h1 : (1048576 : Int) < n1
  · clear h
    go_enter Try.func31, Try.ntmps31
    go_wp2
    go_ret
    exact ⟨rfl, rfl⟩
  by_cases g1 : (1048576 : Int) < (n0 : Int) + (n1 : Int)
  · clear h
    go_enter Try.func31, Try.ntmps31
    go_wp2
    go_ret
    exact ⟨rfl, rfl⟩
  by_cases h2 : (1048576 : Int) < n2
  · clear h
    go_enter Try.func31, Try.ntmps31
    go_wp2
    go_ret
    exact ⟨rfl, rfl⟩
  by_cases g2 : (1048576 : Int) < (n0 : Int) + (n1 : Int) + (n2 : Int)
  · clear h
    go_enter Try.func31, Try.ntmps31
    go_wp2
    go_ret
    exact ⟨rfl, rfl⟩
  by_cases h3 : (1048576 : Int) < n3
  · clear h
    go_enter Try.func31, Try.ntmps31
    go_wp2
    go_ret
    exact ⟨rfl, rfl⟩
  by_cases g3 : (1048576 : Int) < (n0 : Int) + (n1 : Int) + (n2 : Int) + (n3 : Int)
  · clear h
    go_enter Try.func31, Try.ntmps31
    go_wp2
    go_ret
    exact ⟨rfl, rfl⟩
  exact absurd h (by omega)

end Go.Proofs.Qxb6602526a
