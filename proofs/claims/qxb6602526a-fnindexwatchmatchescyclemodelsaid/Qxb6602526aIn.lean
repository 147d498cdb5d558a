import Derived.Test.Qxb6602526aMem
import Derived.ProofKit
namespace Go.Proofs.Qxb6602526a
open Go.ChangeShapes Go.WideShapes Go.ChangeAt Go.RowKit
set_option linter.unusedVariables false

/-- A slice that came in. -/
structure RowIn (na : Option Addr) (b off n cap : Nat) (w : World) : Prop where
  nil : na = none → n = 0 ∧ cap = 0
  ptr : 0 < n → na = some ⟨b, off, none⟩
  lt : 0 < n → b < w.heap.size
  len : n ≤ 9223372036854775807

theorem lt_of_cell' {w : World} {a : Addr} {v : Value} (h : w.cell? a = some v) : a.block < w.heap.size := by
  rcases Nat.lt_or_ge a.block w.heap.size with h' | h'
  · exact h'
  · simp [World.cell?, Array.getElem?_eq_none h'] at h

/-- What the row's step tells of a slice of integers, opened. -/
theorem rowIn {k : IntKind} {w : World} {a : Option Addr} {len cap : Nat} {zs : List Int}
    (h : (a = none ∧ len = 0 ∧ cap = 0 ∧ zs = []) ∨ ∃ x, a = some x ∧ len ≤ cap ∧ cap ≤ maxLen ∧ zs.length = cap ∧ (∀ i, i < zs.length → w.cell? (x.add i) = some (.int k (zs.getD i 0))) ∧ ∀ n ∈ zs, (Lit.int k n).wf = true) :
    ∃ b off, RowIn a b off len cap w ∧ (∀ i, i < len → w.cell? ⟨b, off + i, none⟩ = some (.int k (zs.getD i 0))) ∧ ∀ i, i < len → (Lit.int k (zs.getD i 0)).wf = true := by
  rcases h with ⟨rfl, rfl, rfl, rfl⟩ | ⟨x, rfl, hl, hm, hz, hc, hw⟩
  · exact ⟨0, 0, ⟨fun _ => ⟨rfl, rfl⟩, fun h => by omega, fun h => by omega, by omega⟩, fun i hi => by omega, fun i hi => by omega⟩
  · obtain ⟨b, off, spot⟩ := x
    have hsp : 0 < len → spot = none := fun h0 => by
      have := World.cell?_spot (hc 0 (by omega))
      simpa [Addr.add] using this
    refine ⟨b, off, ⟨(fun h => by cases h), (fun h => by rw [hsp h]), fun h => lt_of_cell' (hc 0 (by omega)), by unfold maxLen at hm; omega⟩, fun i hi => ?_, fun i hi => ?_⟩
    · have hs := hsp (by omega)
      subst hs
      have := hc i (by omega)
      rw [add_plain] at this
      exact this
    · have hi' : i < zs.length := by omega
      exact hw _ (by rw [List.getD_eq_getElem?_getD, List.getElem?_eq_getElem hi']; exact List.getElem_mem _)

/-- Writes into what was not there at the start. -/
theorem Kept.anew {S : List Nat} {a b c : World} (h : Kept [] a b) (k : Kept S b c) (hS : ∀ x ∈ S, a.heap.size ≤ x) : Kept [] a c :=
  ⟨k.os.trans h.os, k.tape.trans h.tape, k.output.trans h.output, Nat.le_trans h.size k.size,
    fun i hi hn => (k.block i (Nat.lt_of_lt_of_le hi h.size) (fun hm => by have := hS i hm; omega)).trans (h.block i hi hn)⟩
theorem Kept.wide {X Y : List Nat} {w w' : World} (h : Kept X w w') (hs : ∀ k ∈ X, k ∈ Y) : Kept Y w w' := h.mono (fun k _ hm => hs k hm)

end Go.Proofs.Qxb6602526a
