import Derived.Test.Qxb6601010aRows
import Derived.Test.Qxb6601010aP1
import Derived.Test.Qxb6601010aMem2
import Derived.Test.Qxb6601010aReg
import Derived.BigQuiet
import Derived.Deep.QuietTactic
import Derived.Deep.RegionWith
import Derived.Lib.Strings
import Derived.Lib.Slices
import Derived.Lib.Walk
import Derived.Lib.Bytealg
namespace Go.Proofs.Qxb6601010a
open Go.RowKit
set_option linter.unusedSimpArgs false
set_option linter.unusedVariables false

/-- Names compared. -/
def cmpB (a b : ByteArray) : Int := Lib.compareBytes a.data.toList b.data.toList

set_option maxHeartbeats 1000000 in
set_option maxRecDepth 100000 in
theorem compare30 (a b : ByteArray) (w : World) : Calls Try.prog 30 #[.string a, .string b] w fun e w' => e = .returned (.int .i64 (cmpB a b)) ∧ w' = w := by
  go_enter Try.func30, Try.ntmps30
  go_wp2
  rw [run_callFunc_extern Try.func33 (by kernel_rfl) (by kernel_rfl) (by kernel_rfl) (e := Extern.BytealgCompare.compare) (by kernel_rfl), Lib.run_compareString]
  simp only [Result.andThen]
  rw [Oper.upon_value]
  go_wp2
  go_ret
  exact ⟨rfl, rfl⟩
theorem compare28 (a b : ByteArray) (w : World) : Calls Try.prog 28 #[.string a, .string b] w fun e w' => e = .returned (.int .i64 (cmpB a b)) ∧ w' = w := by
  have HC : Hid _ := compare30
  go_enter Try.func28, Try.ntmps28
  go_wp2_with (go_at_call 30; refine (HC.out _ _ _).mono ?_; rintro e w' ⟨rfl, rfl⟩)
  go_ret
  exact ⟨rfl, rfl⟩
/-- The closure: it boxes both. -/
theorem cmp27 (a b : ByteArray) (x y : Option Addr) (l c l' c' : Nat) (w : World) : Calls Try.prog 27 #[.agg #[.string a, .slice x l c], .agg #[.string b, .slice y l' c']] w fun e w' => e = .returned (.int .i64 (cmpB a b)) ∧ Kept [] w w' := by
  have HC : Hid _ := compare28
  go_enter Try.func27, Try.ntmps27
  go_wp2_with (go_at_call 28; refine (HC.out _ _ _).mono ?_; rintro e w' ⟨rfl, rfl⟩)
  go_ret
  exact ⟨rfl, ((Kept.refl _ _).alloc _).alloc _⟩

/-- A header. -/
structure Hd where
  nm : ByteArray
  vb : Nat
def Hd.val (h : Hd) : Value := .slice (some ⟨h.vb, 0, none⟩) 2 2
def Hd.agg (h : Hd) : Value := .agg #[.string h.nm, h.val]

/-- n headers in block b: the one at j is E (s j). -/
def HB (w : World) (b n : Nat) (E : Nat → Hd) (s : Nat → Nat) : Prop := ∃ cur, IsB w b cur 39 ∧ ∀ j, j < n → cur[j * 2]? = some (.string (E (s j)).nm) ∧ cur[j * 2 + 1]? = some (E (s j)).val
theorem HB.c0 {w : World} {b n : Nat} {E : Nat → Hd} {s : Nat → Nat} (h : HB w b n E s) {j : Nat} (hj : j < n) : w.cell? ⟨b, j * 2, none⟩ = some (.string (E (s j)).nm) := by
  obtain ⟨cur, h1, h2⟩ := h
  rw [h1.cell]; exact (h2 j hj).1
theorem HB.c1 {w : World} {b n : Nat} {E : Nat → Hd} {s : Nat → Nat} (h : HB w b n E s) {j : Nat} (hj : j < n) : w.cell? ⟨b, j * 2 + 1, none⟩ = some (E (s j)).val := by
  obtain ⟨cur, h1, h2⟩ := h
  rw [h1.cell]; exact (h2 j hj).2
theorem HB.lt {w : World} {b n : Nat} {E : Nat → Hd} {s : Nat → Nat} (h : HB w b n E s) : b < w.heap.size := by
  obtain ⟨cur, h1, h2⟩ := h
  exact h1.lt
theorem HB.frozen {w : World} {b n : Nat} {E : Nat → Hd} {s : Nat → Nat} (h : HB w b n E s) (i : Nat) : w.frozen? ⟨b, i, none⟩ = false := by
  obtain ⟨cur, h1, h2⟩ := h
  exact h1.frozen i
theorem HB.keep {w w' : World} {b n : Nat} {E : Nat → Hd} {s : Nat → Nat} {X : List Nat} (h : HB w b n E s) (hk : Kept X w w') (hX : b ∉ X) : HB w' b n E s := by
  obtain ⟨cur, h1, h2⟩ := h
  exact ⟨cur, hk.isB h1 hX, h2⟩
/-- The store of a header. -/
def put2 (w : World) (b j : Nat) (h : Hd) : World := (w.setCell ⟨b, j * 2, none⟩ (.string h.nm)).setCell ⟨b, j * 2 + 1, none⟩ h.val
theorem HB.swap {w : World} {b n : Nat} {E : Nat → Hd} {s : Nat → Nat} (h : HB w b n E s) {i j : Nat} (hi : i < n) (hj : j < n) : HB (put2 (put2 w b i (E (s j))) b j (E (s i))) b n E (sw s i j) := by
  obtain ⟨cur, h1, h2⟩ := h
  refine ⟨_, (((h1.set _ _).set _ _).set _ _).set _ _, fun k hk => ?_⟩
  obtain ⟨k0, k1⟩ := h2 k hk
  have zs : ∀ t, t < n → t * 2 + 1 < cur.size := fun t ht => by
    have := (h2 t ht).2
    rcases Nat.lt_or_ge (t * 2 + 1) cur.size with q | q
    · exact q
    · rw [Array.getElem?_eq_none q] at this; cases this
  have zi := zs i hi
  have zj := zs j hj
  by_cases ej : k = j
  · subst ej
    rw [sw_r]
    constructor
    · rw [Array.getElem?_setIfInBounds_ne (by omega), Array.getElem?_setIfInBounds_self]
      simp; omega
    · rw [Array.getElem?_setIfInBounds_self]
      simp; omega
  · by_cases ei : k = i
    · subst ei
      rw [sw_l]
      constructor
      · rw [Array.getElem?_setIfInBounds_ne (by omega), Array.getElem?_setIfInBounds_ne (by omega), Array.getElem?_setIfInBounds_ne (by omega), Array.getElem?_setIfInBounds_self]
        simp; omega
      · rw [Array.getElem?_setIfInBounds_ne (by omega), Array.getElem?_setIfInBounds_ne (by omega), Array.getElem?_setIfInBounds_self]
        simp; omega
    · rw [sw_o _ _ _ ei ej]
      constructor
      · rw [Array.getElem?_setIfInBounds_ne (by omega), Array.getElem?_setIfInBounds_ne (by omega), Array.getElem?_setIfInBounds_ne (by omega), Array.getElem?_setIfInBounds_ne (by omega)]; exact k0
      · rw [Array.getElem?_setIfInBounds_ne (by omega), Array.getElem?_setIfInBounds_ne (by omega), Array.getElem?_setIfInBounds_ne (by omega), Array.getElem?_setIfInBounds_ne (by omega)]; exact k1
theorem Kept.put2 {X : List Nat} {a w : World} (h : Kept X a w) {b : Nat} (j : Nat) (e : Hd) (hb : b ∈ X ∨ a.heap.size ≤ b) : Kept X a (put2 w b j e) := (h.set _ hb).set _ hb

end Go.Proofs.Qxb6601010a
