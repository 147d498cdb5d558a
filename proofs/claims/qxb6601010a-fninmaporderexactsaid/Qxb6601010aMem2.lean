import Derived.Test.Qxb6601010aMem
import Derived.Test.Qxb6601010aNav
import Derived.Maps.AppendAt
namespace Go.Proofs.Qxb6601010a
open Go.RowKit
set_option linter.unusedVariables false

/-- Writes into what was not there at the start. -/
theorem Kept.anew {S : List Nat} {a b c : World} (h : Kept [] a b) (k : Kept S b c) (hS : ∀ x ∈ S, a.heap.size ≤ x) : Kept [] a c :=
  ⟨k.os.trans h.os, k.tape.trans h.tape, k.output.trans h.output, Nat.le_trans h.size k.size,
    fun i hi hn => (k.block i (Nat.lt_of_lt_of_le hi h.size) (fun hm => by have := hS i hm; omega)).trans (h.block i hi hn)⟩
theorem Kept.wide {X Y : List Nat} {w w' : World} (h : Kept X w w') (hs : ∀ k ∈ X, k ∈ Y) : Kept Y w w' := h.mono (fun k _ hm => hs k hm)

/-- Kept, the second step's writes new or in S. -/
theorem Kept.then {S T : List Nat} {a b c : World} (h : Kept S a b) (k : Kept T b c) (hT : ∀ x ∈ T, x ∈ S ∨ a.heap.size ≤ x) : Kept S a c :=
  ⟨k.os.trans h.os, k.tape.trans h.tape, k.output.trans h.output, Nat.le_trans h.size k.size,
    fun i hi hn => (k.block i (Nat.lt_of_lt_of_le hi h.size) (fun hm => by rcases hT i hm with h' | h'; exact hn h'; omega)).trans (h.block i hi hn)⟩

theorem IsB.grown {w w' : World} {row : Option Nat} {b : Nat} {c : Array Value} {t : TypeId} (h : IsB w b c t) (hg : w.grownBy w' row) (hne : some b ≠ row) : IsB w' b c t := by
  unfold IsB at *
  rw [hg.block b (IsB.lt h) hne]; exact h
theorem Kept.of_grown {w w' : World} {row : Option Nat} {X : List Nat} (hg : w.grownBy w' row) (h : ∀ g, row = some g → g ∈ X) : Kept X w w' :=
  ⟨hg.os, hg.tape, hg.output, hg.size, fun k hk hn => hg.block k hk (fun e => hn (h k e.symm))⟩

theorem IsB.as {w : World} {b : Nat} {c : Array Value} {t : TypeId} (h : w.heap[b]? = some (.cells c t)) : IsB w b c t := h

end Go.Proofs.Qxb6601010a
