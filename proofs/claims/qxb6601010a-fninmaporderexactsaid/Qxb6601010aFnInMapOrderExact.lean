import Derived.Test.Qxb6601010aR8
import Derived.Test.Qxb6601010aRows
import Derived.ProofKit
import Derived.WalkKit
import Derived.Below
import Derived.Carry
import Derived.OpenShut
import Derived.ChangeOld
import Derived.SliceStrings
namespace Go.Proofs.Qxb6601010a.fnInMapOrderExact
open Go.ChangeShapes Go.WideShapes Go.ChangeAt Go.RowKit
set_option linter.unusedVariables false

theorem own : ownKnob Try.prog.godebug = none := by kernel_rfl
theorem laidOut : laidOutB Try.prog = true := by kernel_rfl
theorem cells9 : Try.prog.cellsOf 9 = 1 := by kernel_rfl

theorem lt_of_cell {w : World} {a : Addr} {v : Value} (h : w.cell? a = some v) : a.block < w.heap.size := by
  rcases Nat.lt_or_ge a.block w.heap.size with h' | h'
  · exact h'
  · simp [World.cell?, Array.getElem?_eq_none h'] at h

section
variable {H : Type} {enc : TypeId × Value → H} {w : World} {base : Nat} {held : Bool}

/-- The names, opened. -/
theorem open_names {na : Option Addr} {len cap : Nat} {d : DataW H} {p : List MemPlace} (h : DataW.Trod enc Try.prog w base (fun _ => true) held 32 (.slice na len cap) d p) :
    ∃ (nb noff : Nat) (nm : Nat → ByteArray), RowS na nb noff len nm w ∧ len ≤ 9223372036854775807 ∧ ∀ i, i < len → (nm i).size ≤ 9223372036854775807 := by
  obtain ⟨fuel, hf⟩ := h
  rcases open_strings Try.underlying32 Try.underlying9 cells9 hf with ⟨hcs, _⟩ | ⟨x, l, c, ss, hcs, _, hl, hm, hz, _, hcell, hsz⟩
  · simp [Value.cells] at hcs
    obtain ⟨rfl, rfl, rfl⟩ := hcs
    exact ⟨0, 0, fun _ => ByteArray.empty, ⟨fun h => by omega, fun h => by omega, fun i hi => by omega⟩, by omega, fun i hi => by omega⟩
  · simp [Value.cells] at hcs
    obtain ⟨rfl, rfl, rfl⟩ := hcs
    simp only [if_true] at hz
    obtain ⟨b, off, spot⟩ := x
    have hsp : 0 < len → spot = none := fun h0 => by
      have := World.cell?_spot (hcell 0 (by omega))
      simpa [Addr.add] using this
    unfold maxLen at hm hsz
    refine ⟨b, off, fun i => ss.getD i ByteArray.empty, ⟨fun h => by rw [hsp h], fun h => lt_of_cell (hcell 0 (by omega)), fun i hi => ?_⟩, by omega, fun i hi => ?_⟩
    · have hs := hsp (by omega)
      subst hs
      have := hcell i (by omega)
      rw [Addr.add_lit] at this
      exact this
    · have hi' : i < ss.length := by omega
      have := hsz (ss.getD i ByteArray.empty) (by rw [List.getD_eq_getElem?_getD, List.getElem?_eq_getElem hi']; exact List.getElem_mem _)
      omega
end

set_option maxRecDepth 100000 in
theorem lifted (os : Os) (started : os.Started) (H : Type) (enc : TypeId × Value → H) :
    ReturnsInHanded {} Try.checked os 5 .any (Rows.fnInMapOrderExactSpec.pre6 enc Try.prog Try.f5 Rows.fnInMapOrderExactRow.domain false) (Rows.fnInMapOrderExactSpec.post enc Try.prog Try.f5 false true false false) := by
  refine returnsInHanded_of_change (C := Try.checked) own started (by kernel_rfl) Try.func5
    (ChangeSpec.witness6 (enc := enc) (C := Try.checked) false ⟨#[], #[.slice none 0 0], []⟩ 8 (by kernel_rfl) (by kernel_rfl) (by kernel_rfl) (by kernel_rfl)) ?_
  intro W base args ds gs before hval0 hW hcnd _
  have hval : ∀ (j : Nat) t v, Try.f5.params[j]? = some t → args[j]? = some v → Value.okWide Try.prog W .any base t v := hval0
  have hW' := hW
  obtain ⟨p, q, hA0, hV, rfl, hfz, hnd⟩ := hW
  have hA : DataW.TrodAll enc Try.prog W 0 (fun _ => true) true Try.f5.params.toList args.toList ds p := hA0
  rw [Try.params5] at hA hval
  obtain ⟨v0, vs0, d0, ds0, p0, q0, hargs, rfl, rfl, h0, r0⟩ := trodAll_cons hA
  obtain ⟨rfl, rfl, rfl⟩ := trodAll_nil r0
  obtain rfl : args = #[v0] := by cases args; simp_all
  obtain ⟨rfl, rfl⟩ := trodVars_none hV
  have k0 := h0
  have lt0 : ∀ x ∈ p0, x.block < W.heap.size := by obtain ⟨m, hm⟩ := k0; exact DataW.trod_lt m _ _ _ hm
  obtain ⟨na, nn, ncap, rfl⟩ := okWide_slice Try.underlying32 (hval 0 32 v0 rfl rfl)
  obtain ⟨nb, noff, nm, hN, hn, hsz⟩ := open_names h0
  clear hA0 hval0
  refine (l7_walk na nb noff nn ncap nm W hN hn hsz).mono fun e W' ⟨he, kp⟩ => ?_
  subst he
  have bel : Below W.heap.size W W' := kp.below _ (Nat.le_refl _) (by simp)
  exact ⟨_, rfl, _, _, _, [], _, [], hW', trodAll_mk1 (shut_bool Try.underlying4 _), (trodAll_cons_mk (Below.trod laidOut (by kernel_rfl) (of_decide_eq_true (by kernel_rfl)) k0 bel lt0) trodAll_mk0), rfl, bel.frame _, fun h => by cases h⟩

theorem over : Rows.fnInMapOrderExactRow.holds Try.pinned (OpenSpec.ofChange Rows.fnInMapOrderExactSpec) :=
  OpenClaim.holds_of_wide 5 Try.f5 rfl rfl rfl rfl rfl rfl rfl ⟨rfl, rfl, rfl, rfl, rfl⟩ rfl rfl rfl rfl rfl (by kernel_rfl) Try.func5 (by kernel_rfl)
    (of_decide_eq_true (by kernel_rfl)) (by unfold Func.isWrapper; first | (rw [if_pos (by decide +kernel)]; kernel_rfl) | (rw [if_neg (by decide +kernel)]; exact ⟨rfl, rfl⟩))
    (fun os started H enc _ => lifted os started H enc)

/-- THE STATEMENT -/
theorem proved : Rows.FnInMapOrderExactSaid := over
#print axioms proved
end Go.Proofs.Qxb6601010a.fnInMapOrderExact
