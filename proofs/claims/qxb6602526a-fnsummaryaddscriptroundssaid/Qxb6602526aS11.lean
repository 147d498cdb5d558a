import Derived.Test.Qxb6602526aS10
namespace Go.Proofs.Qxb6602526a
open Go.RowKit
set_option linter.unusedSimpArgs false
set_option linter.unusedVariables false

theorem cell_alloc {w : World} {b i : Nat} {v : Value} (o : Obj) (h : w.cell? ⟨b, i, none⟩ = some v) : (w.alloc o).cell? ⟨b, i, none⟩ = some v := by
  have hb : b < w.heap.size := by
    rcases Nat.lt_or_ge b w.heap.size with h' | h'
    · exact h'
    · simp [World.cell?, Array.getElem?_eq_none h'] at h
  rw [World.cell?_alloc_past o b i hb]; exact h

theorem AddPre.alloc {S : SumS} {N : Nat → NodeD} {bs bn nn : Nat} {rr sr r s : Option Addr} {inv : Option (Nat × Int)} {f : Nat → Int} {w : World} (h : AddPre S N bs bn nn rr sr r s inv f w) (o : Obj) : AddPre S N bs bn nn rr sr r s inv f (w.alloc o) := by
  obtain ⟨hB, hnn, hbn, hne, hat, hled, max1, max2, hinv, hI, hD, hdn, hdne, hff, dec, z1, z2, z3, z4⟩ := h
  have hz : w.heap.size ≤ (w.alloc o).heap.size := by simp
  refine ⟨hB.alloc _, hnn, by omega, hne, ?_, ?_, ?_, ?_, hinv, ?_, hD.alloc _, hdn, hdne, hff, dec, z1, z2, z3, z4⟩
  · intro i hi
    obtain ⟨h0, h1, h2, h3, h4⟩ := hat i hi
    exact ⟨cell_alloc o h0, cell_alloc o h1, cell_alloc o h2, cell_alloc o h3, cell_alloc o h4⟩
  · intro i hi hf
    obtain ⟨h1, ⟨b, h2, h3, h4, h5⟩, h6⟩ := hled i hi hf
    refine ⟨fun b hb => ?_, ⟨b, h2, by omega, h4, cell_alloc o h5⟩, fun b hb => ?_⟩
    · obtain ⟨a1, a2, a3, a4⟩ := h1 b hb
      exact ⟨by omega, a2, cell_alloc o a3, a4⟩
    · obtain ⟨a1, a2, a3⟩ := h6 b hb
      exact ⟨by omega, a2, cell_alloc o a3⟩
  · intro w1 k1
    exact max1 w1 (((Kept.refl _ _).alloc o).trans k1)
  · intro w1 k1
    exact max2 w1 (((Kept.refl _ _).alloc o).trans k1)
  · intro bi iv e
    obtain ⟨a1, a2, a3⟩ := hI bi iv e
    exact ⟨a1.alloc _, a2, a3⟩

theorem AddPost.base {S : SumS} {N : Nat → NodeD} {bs nn : Nat} {r s : Option Addr} {inv : Option (Nat × Int)} {f : Nat → Int} {w w' : World} {o : Obj} (h : AddPost S N bs nn r s inv f (w.alloc o) w') : AddPost S N bs nn r s inv f w w' := by
  obtain ⟨kept, hI, hD, no, yes⟩ := h
  refine ⟨((Kept.refl _ _).alloc o).trans kept, hI, hD, no, fun e => ?_⟩
  obtain ⟨mb, h1, h2, h3⟩ := yes e
  have hz : w.heap.size ≤ (w.alloc o).heap.size := by simp
  exact ⟨mb, by omega, h2, h3⟩

/-- ZZSummaryAdd. -/
theorem zadd_calls (S : SumS) (N : Nat → NodeD) (bs bn nn : Nat) (ino : Int) (rr sr r s : Option Addr) (inv : Option (Nat × Int)) (f : Nat → Int) (w : World)
    (h : AddPre S N bs bn nn rr sr r s inv f w) :
    Calls Try.prog 13 #[.pointer (some ⟨bs, 0, none⟩), .agg (instA ino bn nn rr sr)] w fun e w' => e = .returned (.tuple #[]) ∧ AddPost S N bs nn r s inv f w w' := by
  have HH : Hid _ := add_calls S N bs bn nn ino rr sr r s inv f _ (h.alloc (.cells (instA ino bn nn rr sr) 50))
  clear h
  unfold instA at *
  go_enter Try.func13, Try.ntmps13
  go_wp2_with (go_at_call 34; refine Calls.mono HH.out ?_; rintro e w' ⟨rfl, hp⟩)
  go_end0
  exact ⟨rfl, hp.base⟩

end Go.Proofs.Qxb6602526a
