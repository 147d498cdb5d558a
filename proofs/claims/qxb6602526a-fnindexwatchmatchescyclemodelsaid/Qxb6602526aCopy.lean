import Derived.Test.Qxb6602526aRows
import Derived.Test.Qxb6602526aMem
namespace Go.Proofs.Qxb6602526a
open Go.RowKit

theorem Try.info31 : (Try.prog.info? 31).map (fun i => (i.zero, i.size, i.bytes)) = some (some (.int .u64 0), 1, 8) := by kernel_rfl
theorem Try.info3 : (Try.prog.info? 3).map (fun i => (i.zero, i.size, i.bytes)) = some (some (.int .i64 0), 1, 8) := by kernel_rfl
theorem Try.info5 : (Try.prog.info? 5).map (fun i => (i.zero, i.size, i.bytes)) = some (some (.int .u8 0), 1, 1) := by kernel_rfl
theorem Try.info22 : (Try.prog.info? 22).map (fun i => (i.zero, i.size, i.bytes)) = some (some (.int .u32 0), 1, 4) := by kernel_rfl
theorem Try.info4 : (Try.prog.info? 4).map (fun i => (i.zero, i.size, i.bytes)) = some (some (.bool false), 1, 1) := by kernel_rfl

/-- copyU64 of a slice that is not nil: a new row with the same elements. -/
theorem copyU64_any (x : Addr) (b off len cap : Nat) (f : Nat → Int) (w : World) (hlen : len ≤ 1048576)
    (hc : ∀ i, i < len → w.cell? ⟨b, off + i, none⟩ = some (.int .u64 (f i))) (hx : 0 < len → x = ⟨b, off, none⟩ ∧ b < w.heap.size) :
    Calls Try.prog 10 #[.slice (some x) len cap] w fun e w' =>
      e = .returned (.slice (some ⟨w.heap.size, 0, none⟩) len len) ∧ w' = w.alloc (.cells (rowA (fun i => .int .u64 (f i)) len) 31) := by
  have hmk := fun wx => run_mk (P := Try.prog) 23 31 (.int .u64 0) 1 8 Try.underlying23 Try.info31 len (by omega) (by omega) wx
  have q := fun (w : World) (a : Option Addr) (n c n' c' : Nat) => Lib.run_eql_slice_nil (P := Try.prog) w 23 _ a n c n' c' Try.underlying23
  have hl2 : (len : Int) ≤ 9223372036854775807 := by omega
  clear hlen
  go_enter Try.func10, Try.ntmps10
  go_wp2
  rw [part_zero (fun i => .int .u64 (f i))]
  go_loopw [4] (fun i wr => ∃ k : Nat, k ≤ len ∧ i = .int .i64 k ∧ wr = w.alloc (.cells (part (fun i => .int .u64 (f i)) (.int .u64 0) len k) 31)) (fun i _ => len - (intOf i).toNat)
  case atStart => exact ⟨0, Nat.zero_le _, rfl, rfl⟩
  case round =>
    obtain ⟨k, hk, rfl, rfl⟩ := hrel
    by_cases hlt : k < len
    · have hck := hc k hlt
      obtain ⟨hx1, hb⟩ := hx (by omega)
      subst hx1
      clear hx
      have hp := part_at (fun i => .int .u64 (f i)) (.int .u64 0) len k hlt
      have hps := part_succ (fun i => .int .u64 (f i)) (.int .u64 0) len k
      go_wp2
      go_roundw
      case rel => exact ⟨k + 1, by omega, by go_num, by rw [← hps]⟩
      case measure => simp [intOf]; omega
    · go_wp2
      go_ret
      have : k = len := by omega
      subst this
      rw [part_full]
      exact ⟨rfl, rfl⟩

theorem copyU64_nil (w : World) :
    Calls Try.prog 10 #[.slice none 0 0] w fun e w' => e = .returned (.slice none 0 0) ∧ w' = w := by
  have q := fun (w : World) (a : Option Addr) (n c n' c' : Nat) => Lib.run_eql_slice_nil (P := Try.prog) w 23 _ a n c n' c' Try.underlying23
  go_enter Try.func10, Try.ntmps10
  go_wp2
  go_ret
  exact ⟨rfl, rfl⟩

/-- copyBool of a slice that is not nil: a new row with the same elements. -/
theorem copyBool_any (x : Addr) (b off len cap : Nat) (f : Nat → Bool) (w : World) (hlen : len ≤ 1048576)
    (hc : ∀ i, i < len → w.cell? ⟨b, off + i, none⟩ = some (.bool (f i))) (hx : 0 < len → x = ⟨b, off, none⟩ ∧ b < w.heap.size) :
    Calls Try.prog 11 #[.slice (some x) len cap] w fun e w' =>
      e = .returned (.slice (some ⟨w.heap.size, 0, none⟩) len len) ∧ w' = w.alloc (.cells (rowA (fun i => .bool (f i)) len) 4) := by
  have hmk := fun wx => run_mk (P := Try.prog) 24 4 (.bool false) 1 1 Try.underlying24 Try.info4 len (by omega) (by omega) wx
  have q := fun (w : World) (a : Option Addr) (n c n' c' : Nat) => Lib.run_eql_slice_nil (P := Try.prog) w 24 _ a n c n' c' Try.underlying24
  have hl2 : (len : Int) ≤ 9223372036854775807 := by omega
  clear hlen
  go_enter Try.func11, Try.ntmps11
  go_wp2
  rw [part_zero (fun i => .bool (f i))]
  go_loopw [4] (fun i wr => ∃ k : Nat, k ≤ len ∧ i = .int .i64 k ∧ wr = w.alloc (.cells (part (fun i => .bool (f i)) (.bool false) len k) 4)) (fun i _ => len - (intOf i).toNat)
  case atStart => exact ⟨0, Nat.zero_le _, rfl, rfl⟩
  case round =>
    obtain ⟨k, hk, rfl, rfl⟩ := hrel
    by_cases hlt : k < len
    · have hck := hc k hlt
      obtain ⟨hx1, hb⟩ := hx (by omega)
      subst hx1
      clear hx
      have hp := part_at (fun i => .bool (f i)) (.bool false) len k hlt
      have hps := part_succ (fun i => .bool (f i)) (.bool false) len k
      go_wp2
      go_roundw
      case rel => exact ⟨k + 1, by omega, by go_num, by rw [← hps]⟩
      case measure => simp [intOf]; omega
    · go_wp2
      go_ret
      have : k = len := by omega
      subst this
      rw [part_full]
      exact ⟨rfl, rfl⟩

theorem copyBool_nil (w : World) :
    Calls Try.prog 11 #[.slice none 0 0] w fun e w' => e = .returned (.slice none 0 0) ∧ w' = w := by
  have q := fun (w : World) (a : Option Addr) (n c n' c' : Nat) => Lib.run_eql_slice_nil (P := Try.prog) w 24 _ a n c n' c' Try.underlying24
  go_enter Try.func11, Try.ntmps11
  go_wp2
  go_ret
  exact ⟨rfl, rfl⟩

/-- copyU32 of a slice that is not nil: a new row with the same elements. -/
theorem copyU32_any (x : Addr) (b off len cap : Nat) (f : Nat → Int) (w : World) (hlen : len ≤ 1048576)
    (hc : ∀ i, i < len → w.cell? ⟨b, off + i, none⟩ = some (.int .u32 (f i))) (hx : 0 < len → x = ⟨b, off, none⟩ ∧ b < w.heap.size) :
    Calls Try.prog 12 #[.slice (some x) len cap] w fun e w' =>
      e = .returned (.slice (some ⟨w.heap.size, 0, none⟩) len len) ∧ w' = w.alloc (.cells (rowA (fun i => .int .u32 (f i)) len) 22) := by
  have hmk := fun wx => run_mk (P := Try.prog) 25 22 (.int .u32 0) 1 4 Try.underlying25 Try.info22 len (by omega) (by omega) wx
  have q := fun (w : World) (a : Option Addr) (n c n' c' : Nat) => Lib.run_eql_slice_nil (P := Try.prog) w 25 _ a n c n' c' Try.underlying25
  have hl2 : (len : Int) ≤ 9223372036854775807 := by omega
  clear hlen
  go_enter Try.func12, Try.ntmps12
  go_wp2
  rw [part_zero (fun i => .int .u32 (f i))]
  go_loopw [4] (fun i wr => ∃ k : Nat, k ≤ len ∧ i = .int .i64 k ∧ wr = w.alloc (.cells (part (fun i => .int .u32 (f i)) (.int .u32 0) len k) 22)) (fun i _ => len - (intOf i).toNat)
  case atStart => exact ⟨0, Nat.zero_le _, rfl, rfl⟩
  case round =>
    obtain ⟨k, hk, rfl, rfl⟩ := hrel
    by_cases hlt : k < len
    · have hck := hc k hlt
      obtain ⟨hx1, hb⟩ := hx (by omega)
      subst hx1
      clear hx
      have hp := part_at (fun i => .int .u32 (f i)) (.int .u32 0) len k hlt
      have hps := part_succ (fun i => .int .u32 (f i)) (.int .u32 0) len k
      go_wp2
      go_roundw
      case rel => exact ⟨k + 1, by omega, by go_num, by rw [← hps]⟩
      case measure => simp [intOf]; omega
    · go_wp2
      go_ret
      have : k = len := by omega
      subst this
      rw [part_full]
      exact ⟨rfl, rfl⟩

theorem copyU32_nil (w : World) :
    Calls Try.prog 12 #[.slice none 0 0] w fun e w' => e = .returned (.slice none 0 0) ∧ w' = w := by
  have q := fun (w : World) (a : Option Addr) (n c n' c' : Nat) => Lib.run_eql_slice_nil (P := Try.prog) w 25 _ a n c n' c' Try.underlying25
  go_enter Try.func12, Try.ntmps12
  go_wp2
  go_ret
  exact ⟨rfl, rfl⟩

/-- copyInt of a slice that is not nil: a new row with the same elements. -/
theorem copyInt_any (x : Addr) (b off len cap : Nat) (f : Nat → Int) (w : World) (hlen : len ≤ 1048576)
    (hc : ∀ i, i < len → w.cell? ⟨b, off + i, none⟩ = some (.int .i64 (f i))) (hx : 0 < len → x = ⟨b, off, none⟩ ∧ b < w.heap.size) :
    Calls Try.prog 17 #[.slice (some x) len cap] w fun e w' =>
      e = .returned (.slice (some ⟨w.heap.size, 0, none⟩) len len) ∧ w' = w.alloc (.cells (rowA (fun i => .int .i64 (f i)) len) 3) := by
  have hmk := fun wx => run_mk (P := Try.prog) 55 3 (.int .i64 0) 1 8 Try.underlying55 Try.info3 len (by omega) (by omega) wx
  have q := fun (w : World) (a : Option Addr) (n c n' c' : Nat) => Lib.run_eql_slice_nil (P := Try.prog) w 55 _ a n c n' c' Try.underlying55
  have hl2 : (len : Int) ≤ 9223372036854775807 := by omega
  clear hlen
  go_enter Try.func17, Try.ntmps17
  go_wp2
  rw [part_zero (fun i => .int .i64 (f i))]
  go_loopw [4] (fun i wr => ∃ k : Nat, k ≤ len ∧ i = .int .i64 k ∧ wr = w.alloc (.cells (part (fun i => .int .i64 (f i)) (.int .i64 0) len k) 3)) (fun i _ => len - (intOf i).toNat)
  case atStart => exact ⟨0, Nat.zero_le _, rfl, rfl⟩
  case round =>
    obtain ⟨k, hk, rfl, rfl⟩ := hrel
    by_cases hlt : k < len
    · have hck := hc k hlt
      obtain ⟨hx1, hb⟩ := hx (by omega)
      subst hx1
      clear hx
      have hp := part_at (fun i => .int .i64 (f i)) (.int .i64 0) len k hlt
      have hps := part_succ (fun i => .int .i64 (f i)) (.int .i64 0) len k
      go_wp2
      go_roundw
      case rel => exact ⟨k + 1, by omega, by go_num, by rw [← hps]⟩
      case measure => simp [intOf]; omega
    · go_wp2
      go_ret
      have : k = len := by omega
      subst this
      rw [part_full]
      exact ⟨rfl, rfl⟩

theorem copyInt_nil (w : World) :
    Calls Try.prog 17 #[.slice none 0 0] w fun e w' => e = .returned (.slice none 0 0) ∧ w' = w := by
  have q := fun (w : World) (a : Option Addr) (n c n' c' : Nat) => Lib.run_eql_slice_nil (P := Try.prog) w 55 _ a n c n' c' Try.underlying55
  go_enter Try.func17, Try.ntmps17
  go_wp2
  go_ret
  exact ⟨rfl, rfl⟩

/-- copyU8 of a slice that is not nil: a new row with the same elements. -/
theorem copyU8_any (x : Addr) (b off len cap : Nat) (f : Nat → Int) (w : World) (hlen : len ≤ 1048576)
    (hc : ∀ i, i < len → w.cell? ⟨b, off + i, none⟩ = some (.int .u8 (f i))) (hx : 0 < len → x = ⟨b, off, none⟩ ∧ b < w.heap.size) :
    Calls Try.prog 18 #[.slice (some x) len cap] w fun e w' =>
      e = .returned (.slice (some ⟨w.heap.size, 0, none⟩) len len) ∧ w' = w.alloc (.cells (rowA (fun i => .int .u8 (f i)) len) 5) := by
  have hmk := fun wx => run_mk (P := Try.prog) 56 5 (.int .u8 0) 1 1 Try.underlying56 Try.info5 len (by omega) (by omega) wx
  have q := fun (w : World) (a : Option Addr) (n c n' c' : Nat) => Lib.run_eql_slice_nil (P := Try.prog) w 56 _ a n c n' c' Try.underlying56
  have hl2 : (len : Int) ≤ 9223372036854775807 := by omega
  clear hlen
  go_enter Try.func18, Try.ntmps18
  go_wp2
  rw [part_zero (fun i => .int .u8 (f i))]
  go_loopw [4] (fun i wr => ∃ k : Nat, k ≤ len ∧ i = .int .i64 k ∧ wr = w.alloc (.cells (part (fun i => .int .u8 (f i)) (.int .u8 0) len k) 5)) (fun i _ => len - (intOf i).toNat)
  case atStart => exact ⟨0, Nat.zero_le _, rfl, rfl⟩
  case round =>
    obtain ⟨k, hk, rfl, rfl⟩ := hrel
    by_cases hlt : k < len
    · have hck := hc k hlt
      obtain ⟨hx1, hb⟩ := hx (by omega)
      subst hx1
      clear hx
      have hp := part_at (fun i => .int .u8 (f i)) (.int .u8 0) len k hlt
      have hps := part_succ (fun i => .int .u8 (f i)) (.int .u8 0) len k
      go_wp2
      go_roundw
      case rel => exact ⟨k + 1, by omega, by go_num, by rw [← hps]⟩
      case measure => simp [intOf]; omega
    · go_wp2
      go_ret
      have : k = len := by omega
      subst this
      rw [part_full]
      exact ⟨rfl, rfl⟩

theorem copyU8_nil (w : World) :
    Calls Try.prog 18 #[.slice none 0 0] w fun e w' => e = .returned (.slice none 0 0) ∧ w' = w := by
  have q := fun (w : World) (a : Option Addr) (n c n' c' : Nat) => Lib.run_eql_slice_nil (P := Try.prog) w 56 _ a n c n' c' Try.underlying56
  go_enter Try.func18, Try.ntmps18
  go_wp2
  go_ret
  exact ⟨rfl, rfl⟩

end Go.Proofs.Qxb6602526a
