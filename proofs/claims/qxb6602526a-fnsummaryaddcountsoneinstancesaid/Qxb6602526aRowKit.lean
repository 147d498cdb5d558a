import Derived.ProofKit
import Derived.WalkKit
import Derived.Deep.Slices
import Derived.Below
import Derived.Carry
namespace Go.Proofs.Qxb6602526a
open Go.ChangeShapes Go.WideShapes Go.ChangeAt Go.RowKit

theorem mapM_at {α β : Type} {f : α → Option β} : ∀ {l : List α} {r : List β}, l.mapM f = some r → ∀ (j : Nat) (x : α), l[j]? = some x → ∃ v, r[j]? = some v ∧ f x = some v
  | [], r, _, j, x, hx => by simp at hx
  | a :: l, r, h, j, x, hx => by
    simp only [List.mapM_cons, Option.bind_eq_bind, Option.bind_eq_some_iff, Option.pure_def, Option.some.injEq] at h
    obtain ⟨y, hy, ys, hys, rfl⟩ := h
    cases j with
    | zero => simp at hx; subst hx; exact ⟨y, rfl, hy⟩
    | succ j => exact mapM_at hys j x (by simpa using hx)

section
variable {H : Type} {enc : TypeId × Value → H} {P : Program} {w : World} {base : Nat} {spare : Nat → Bool} {held : Bool}

/-- One cell of a struct's row, an integer. -/
theorem field_int {n i off : Nat} {ty : TypeId} {k : IntKind} {cs : List Value} {xs : List (DataW H × List MemPlace)}
    (h : DataW.trod enc P w base spare held n ty ((cs.drop off).take (P.cellsOf ty)) = xs[i]?) (hi : i < xs.length) (hc : P.cellsOf ty = 1) (ht : P.underlying ty = some (.int k)) :
    ∃ v, cs[off]? = some (.int k v) ∧ (Lit.int k v).wf = true := by
  rw [List.getElem?_eq_getElem hi] at h
  obtain ⟨v, h1, _, h2⟩ := DataW.trod_int ht h
  rw [hc] at h1
  refine ⟨v, ?_, h2⟩
  have := congrArg (·[0]?) h1
  simpa [List.getElem?_take, List.getElem?_drop] using this

/-- One cell of a struct's row, a bool. -/
theorem field_bool {n i off : Nat} {ty : TypeId} {cs : List Value} {xs : List (DataW H × List MemPlace)}
    (h : DataW.trod enc P w base spare held n ty ((cs.drop off).take (P.cellsOf ty)) = xs[i]?) (hi : i < xs.length) (hc : P.cellsOf ty = 1) (ht : P.underlying ty = some .bool) :
    ∃ v, cs[off]? = some (.bool v) := by
  rw [List.getElem?_eq_getElem hi] at h
  obtain ⟨v, h1, _⟩ := DataW.trod_bool ht h
  rw [hc] at h1
  refine ⟨v, ?_⟩
  have := congrArg (·[0]?) h1
  simpa [List.getElem?_take, List.getElem?_drop] using this

/-- The cells of a range, one by one. -/
theorem cells_at {a : Addr} {n j : Nat} {cs : List Value} (h : w.cells? base a n = some cs) (hj : j < n) : ∃ v, cs[j]? = some v ∧ w.cell? (a.add j) = some v := by
  unfold World.cells? at h
  split at h
  · obtain ⟨v, h1, h2⟩ := mapM_at h j j (by simp [hj])
    exact ⟨v, h1, h2⟩
  · cases h
end

end Go.Proofs.Qxb6602526a
