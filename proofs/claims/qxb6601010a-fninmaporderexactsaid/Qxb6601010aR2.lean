import Derived.Test.Qxb6601010aR1
namespace Go.Proofs.Qxb6601010a
open Go.RowKit
set_option linter.unusedSimpArgs false
set_option linter.unusedVariables false

/-- The slice of names. -/
structure RowS (x : Option Addr) (b o n : Nat) (nm : Nat → ByteArray) (w : World) : Prop where
  ptr : 0 < n → x = some ⟨b, o, none⟩
  lt : 0 < n → b < w.heap.size
  cell : ∀ i, i < n → w.cell? ⟨b, o + i, none⟩ = some (.string (nm i))
theorem RowS.keep {x : Option Addr} {b o n : Nat} {nm : Nat → ByteArray} {w w' : World} {X : List Nat} (h : RowS x b o n nm w) (hk : Kept X w w') (hX : 0 < n → b ∉ X) : RowS x b o n nm w' :=
  ⟨h.ptr, fun h0 => Nat.lt_of_lt_of_le (h.lt h0) hk.size, fun i hi => (hk.cell (p := ⟨b, o + i, none⟩) (h.lt (by omega)) (hX (by omega))).trans (h.cell i hi)⟩

def ZPost (n : Nat) (nm : Nat → ByteArray) (w : World) (e : Ending) (w' : World) : Prop := ∃ ok : Bool, e = .returned (.bool ok) ∧ w' = w ∧ (ok = true → n ≤ 1048576 ∧ ∀ i, i < n → (nm i).size ≤ 1048576)

theorem zz14 (x : Option Addr) (nb no n cn : Nat) (nm : Nat → ByteArray) (w : World) (hR : RowS x nb no n nm w) (ln : n ≤ 9223372036854775807) (lsz : ∀ i, i < n → (nm i).size ≤ 9223372036854775807) : Calls Try.prog 14 #[.slice x n cn] w (ZPost n nm w) := by
  by_cases h1 : 1048576 < n
  · have l : (1048576 : Int) < n := by omega
    clear hR
    go_enter Try.func14, Try.ntmps14
    go_wp2
    go_ret
    exact ⟨false, rfl, rfl, fun e => by cases e⟩
  have l : ¬ ((1048576 : Int) < n) := by omega
  have hp := hR.ptr
  have HC : Hid _ := hR.cell
  have HZ : Hid _ := lsz
  clear hR lsz
  go_enter Try.func14, Try.ntmps14
  go_wp2
  go_loop [3, 4] (fun z i => ∃ (k : Nat) (t : Int), k ≤ n ∧ 0 ≤ t ∧ t ≤ 1048576 ∧ i = .int .i64 k ∧ z = .int .i64 t ∧ ∀ j, j < k → (nm j).size ≤ 1048576) (fun _ i => n - (intOf i).toNat)
  case atStart => exact ⟨0, n, by omega, by omega, by omega, rfl, by simp, fun j hj => by omega⟩
  case round =>
    obtain ⟨k, t, hk, t0, t1, rfl, rfl, hj⟩ := hrel
    have HJ : Hid _ := hj
    clear hj
    by_cases hlt : k < n
    · have e := hp (by omega)
      subst e
      clear hp
      have ck := HC.out k hlt
      have lk : (k : Int) < n := by omega
      have lz := HZ.out k hlt
      have lz1 : ((nm k).size : Int) ≤ 9223372036854775807 := by omega
      clear lz
      by_cases g : 1048576 < (nm k).size
      · have g1 : (1048576 : Int) < (nm k).size := by omega
        go_wp2
        go_ret
        exact ⟨false, rfl, rfl, fun e => by cases e⟩
      · have g1 : ¬ ((1048576 : Int) < (nm k).size) := by omega
        have w1 : IntKind.i64.wrap (t + ((nm k).size : Int)) = t + (nm k).size := by rw [IntKind.wrap_i64]; omega
        by_cases g2 : 1048576 < t + ((nm k).size : Int)
        · go_wp2
          go_ret
          exact ⟨false, rfl, rfl, fun e => by cases e⟩
        · go_wp2
          go_round
          case rel => exact ⟨k + 1, t + (nm k).size, by omega, by omega, by omega, by go_num, by go_num, fun j hj => by
            by_cases e : j = k
            · rw [e]; omega
            · exact HJ.out j (by omega)⟩
          case measure => simp [intOf]; omega
    · have lk : ¬ ((k : Int) < n) := by omega
      go_wp2
      go_ret
      exact ⟨true, rfl, rfl, fun _ => ⟨by omega, fun i hi => HJ.out i (by omega)⟩⟩

def FPost (n : Nat) (w : World) (e : Ending) (w' : World) : Prop := ∃ ok : Bool, e = .returned (.bool ok) ∧ w' = w ∧ (ok = true → n ≤ 4096)
theorem fit15 (x : Option Addr) (nb no n cn : Nat) (nm : Nat → ByteArray) (w : World) (hR : RowS x nb no n nm w) (ln : n ≤ 1048576) (lsz : ∀ i, i < n → (nm i).size ≤ 1048576) : Calls Try.prog 15 #[.slice x n cn] w (FPost n w) := by
  by_cases h1 : 4096 < n
  · have l : (4096 : Int) < n := by omega
    clear hR
    go_enter Try.func15, Try.ntmps15
    go_wp2
    go_ret
    exact ⟨false, rfl, rfl, fun e => by cases e⟩
  have l : ¬ ((4096 : Int) < n) := by omega
  have hp := hR.ptr
  have HC : Hid _ := hR.cell
  have HZ : Hid _ := lsz
  clear hR lsz
  go_enter Try.func15, Try.ntmps15
  go_wp2
  go_loop [3, 4] (fun z i => ∃ (k : Nat) (t : Int), k ≤ n ∧ 0 ≤ t ∧ t ≤ 1048576 ∧ i = .int .i64 k ∧ z = .int .i64 t) (fun _ i => n - (intOf i).toNat)
  case atStart => exact ⟨0, 16 * n, by omega, by omega, by omega, rfl, by simp⟩
  case round =>
    obtain ⟨k, t, hk, t0, t1, rfl, rfl⟩ := hrel
    by_cases hlt : k < n
    · have e := hp (by omega)
      subst e
      clear hp
      have ck := HC.out k hlt
      have lk : (k : Int) < n := by omega
      have lz := HZ.out k hlt
      have lz1 : ((nm k).size : Int) ≤ 1048576 := by omega
      have w1 : IntKind.i64.wrap (t + ((nm k).size : Int)) = t + (nm k).size := by rw [IntKind.wrap_i64]; omega
      clear lz
      by_cases g2 : 1048576 < t + ((nm k).size : Int)
      · go_wp2
        go_ret
        exact ⟨false, rfl, rfl, fun e => by cases e⟩
      · go_wp2
        go_round
        case rel => exact ⟨k + 1, t + (nm k).size, by omega, by omega, by omega, by go_num, by go_num⟩
        case measure => simp [intOf]; omega
    · have lk : ¬ ((k : Int) < n) := by omega
      go_wp2
      go_ret
      exact ⟨true, rfl, rfl, fun _ => by omega⟩

end Go.Proofs.Qxb6601010a
