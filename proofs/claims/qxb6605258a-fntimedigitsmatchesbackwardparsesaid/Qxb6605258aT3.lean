import Derived.Test.Qxb6605258aT2
namespace Go.Proofs.Qxb6605258a
open Go.RowKit
set_option linter.unusedSimpArgs false
set_option linter.unusedVariables false

theorem ext_size (s : ByteArray) (a b : Nat) (h : b ≤ s.size) : (s.extract a b).size = b - a := by
  rw [ByteArray.size_extract, Nat.min_eq_left h]
theorem bt_ext (s : ByteArray) (a b i : Nat) (h : b ≤ s.size) (hi : i < b - a) : bt (s.extract a b) i = bt s (a + i) := by
  have h1 : i < (s.extract a b).size := by rw [ext_size s a b h]; exact hi
  have h2 : a + i < s.size := by omega
  unfold bt
  rw [dif_pos h1, dif_pos h2, ByteArray.getElem_extract]

theorem allD_congr {f g : Nat → Int} {i n : Nat} (h : ∀ j, j < n → f (i + j) = g (i + j)) : allD f i n = allD g i n := by
  induction n with
  | zero => rfl
  | succ n ih => rw [allD, allD, ih (fun j hj => h j (by omega)), h n (by omega)]
theorem frOk_congr {f g : Nat → Int} {m : Nat} (h : ∀ i, i < m → f i = g i) : frOk f m = frOk g m := by
  by_cases h0 : m = 0
  · simp [frOk, h0]
  · unfold frOk
    rw [h 0 (by omega), allD_congr (f := f) (g := g) (fun j hj => h (1 + j) (by omega))]

/-- The bytes behind the head. -/
def zb (s : ByteArray) (i : Nat) : Int := bt s (19 + i)
theorem ext_ext (s : ByteArray) (a b c d : Nat) (hab : a ≤ b) (hb : b ≤ s.size) (hd : d ≤ b - a) : (s.extract a b).extract c d = s.extract (a + c) (a + d) := by
  apply ByteArray.ext
  simp only [ByteArray.data_extract, Array.extract_extract]
  rw [Nat.min_eq_left (by omega)]

end Go.Proofs.Qxb6605258a
