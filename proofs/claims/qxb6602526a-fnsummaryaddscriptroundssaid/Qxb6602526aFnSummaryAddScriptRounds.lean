import Derived.Test.Qxb6602526aB9
import Derived.Deep.Grids
import Derived.OpenShut
import Derived.ChangeOld
import Derived.ProofKit
import Derived.Below
import Derived.Carry
namespace Go.Proofs.Qxb6602526a.fnSummaryAddScriptRounds
open Go.ChangeShapes Go.WideShapes Go.ChangeAt Go.RowKit Go.Deep
set_option linter.unusedVariables false

theorem own : ownKnob Try.prog.godebug = none := by kernel_rfl
theorem laidOut : laidOutB Try.prog = true := by kernel_rfl
theorem cells31 : Try.prog.cellsOf 31 = 1 := by kernel_rfl
theorem cells4 : Try.prog.cellsOf 4 = 1 := by kernel_rfl
theorem cells22 : Try.prog.cellsOf 22 = 1 := by kernel_rfl

theorem bd64 {x : Int} (h : (Lit.int .u64 x).wf = true) : 0 ≤ x ∧ x < 18446744073709551616 := by
  simp [Lit.wf, IntKind.min, IntKind.max, IntKind.signed, IntKind.bits] at h; omega
theorem bd32 {x : Int} (h : (Lit.int .u32 x).wf = true) : 0 ≤ x ∧ x < 4294967296 := by
  simp [Lit.wf, IntKind.min, IntKind.max, IntKind.signed, IntKind.bits] at h; omega

theorem lt_of_cell {w : World} {a : Addr} {v : Value} (h : w.cell? a = some v) : a.block < w.heap.size := by
  rcases Nat.lt_or_ge a.block w.heap.size with h' | h'
  · exact h'
  · simp [World.cell?, Array.getElem?_eq_none h'] at h

section
variable {H : Type} {enc : TypeId × Value → H} {w : World} {base : Nat} {held : Bool}

theorem open_u64s {na : Option Addr} {len cap : Nat} {d : DataW H} {p : List MemPlace} (h : DataW.Trod enc Try.prog w base (fun _ => true) held 23 (.slice na len cap) d p) :
    ∃ (nb noff : Nat) (f : Nat → Int), SlIn na nb noff len cap w ∧ (∀ i, i < len → w.cell? ⟨nb, noff + i, none⟩ = some (.int .u64 (f i))) ∧ (∀ i, i < len → 0 ≤ f i) := by
  obtain ⟨fuel, hf⟩ := h
  rcases open_ints Try.underlying23 Try.underlying31 cells31 hf with ⟨hcs, _⟩ | ⟨x, l, c, zs, hcs, _, hl, hm, hz, _, hcell, hwz⟩
  · simp [Value.cells] at hcs
    obtain ⟨rfl, rfl, rfl⟩ := hcs
    exact ⟨0, 0, fun _ => 0, ⟨fun _ => ⟨rfl, rfl⟩, fun h => by omega, fun h => by omega, by omega⟩, fun i hi => by omega, fun i hi => by omega⟩
  · simp [Value.cells] at hcs
    obtain ⟨rfl, rfl, rfl⟩ := hcs
    simp only [if_true] at hz
    obtain ⟨b, off, spot⟩ := x
    have hsp : 0 < len → spot = none := fun h0 => by
      have := World.cell?_spot (hcell 0 (by omega))
      simpa [Addr.add] using this
    refine ⟨b, off, fun i => zs.getD i 0, ⟨(fun h => by cases h), (fun h => by rw [hsp h]), fun h => lt_of_cell (hcell 0 (by omega)), by unfold maxLen at hm; omega⟩, fun i hi => ?_, fun i hi => ?_⟩
    · have hs := hsp (by omega)
      subst hs
      have := hcell i (by omega)
      rw [add_plain] at this
      exact this
    · have hi' : i < zs.length := by omega
      have := hwz (zs.getD i 0) (by rw [List.getD_eq_getElem?_getD, List.getElem?_eq_getElem hi']; exact List.getElem_mem _)
      exact (bd64 this).1

theorem open_u32s {na : Option Addr} {len cap : Nat} {d : DataW H} {p : List MemPlace} (h : DataW.Trod enc Try.prog w base (fun _ => true) held 25 (.slice na len cap) d p) :
    ∃ (nb noff : Nat) (f : Nat → Int), SlIn na nb noff len cap w ∧ (∀ i, i < len → w.cell? ⟨nb, noff + i, none⟩ = some (.int .u32 (f i))) ∧ (∀ i, i < len → 0 ≤ f i) := by
  obtain ⟨fuel, hf⟩ := h
  rcases open_ints Try.underlying25 Try.underlying22 cells22 hf with ⟨hcs, _⟩ | ⟨x, l, c, zs, hcs, _, hl, hm, hz, _, hcell, hwz⟩
  · simp [Value.cells] at hcs
    obtain ⟨rfl, rfl, rfl⟩ := hcs
    exact ⟨0, 0, fun _ => 0, ⟨fun _ => ⟨rfl, rfl⟩, fun h => by omega, fun h => by omega, by omega⟩, fun i hi => by omega, fun i hi => by omega⟩
  · simp [Value.cells] at hcs
    obtain ⟨rfl, rfl, rfl⟩ := hcs
    simp only [if_true] at hz
    obtain ⟨b, off, spot⟩ := x
    have hsp : 0 < len → spot = none := fun h0 => by
      have := World.cell?_spot (hcell 0 (by omega))
      simpa [Addr.add] using this
    refine ⟨b, off, fun i => zs.getD i 0, ⟨(fun h => by cases h), (fun h => by rw [hsp h]), fun h => lt_of_cell (hcell 0 (by omega)), by unfold maxLen at hm; omega⟩, fun i hi => ?_, fun i hi => ?_⟩
    · have hs := hsp (by omega)
      subst hs
      have := hcell i (by omega)
      rw [add_plain] at this
      exact this
    · have hi' : i < zs.length := by omega
      have := hwz (zs.getD i 0) (by rw [List.getD_eq_getElem?_getD, List.getElem?_eq_getElem hi']; exact List.getElem_mem _)
      exact (bd32 this).1

theorem open_bs {na : Option Addr} {len cap : Nat} {d : DataW H} {p : List MemPlace} (h : DataW.Trod enc Try.prog w base (fun _ => true) held 24 (.slice na len cap) d p) :
    ∃ (nb noff : Nat) (f : Nat → Bool), SlIn na nb noff len cap w ∧ (∀ i, i < len → w.cell? ⟨nb, noff + i, none⟩ = some (.bool (f i))) := by
  obtain ⟨fuel, hf⟩ := h
  rcases open_bools Try.underlying24 Try.underlying4 cells4 hf with ⟨hcs, _⟩ | ⟨x, l, c, B, hcs, _, hl, hm, _, hcell⟩
  · simp [Value.cells] at hcs
    obtain ⟨rfl, rfl, rfl⟩ := hcs
    exact ⟨0, 0, fun _ => false, ⟨fun _ => ⟨rfl, rfl⟩, fun h => by omega, fun h => by omega, by omega⟩, fun i hi => by omega⟩
  · simp [Value.cells] at hcs
    obtain ⟨rfl, rfl, rfl⟩ := hcs
    obtain ⟨b, off, spot⟩ := x
    have hsp : 0 < len → spot = none := fun h0 => by
      have := World.cell?_spot (hcell 0 (by omega))
      simpa [Addr.add] using this
    refine ⟨b, off, B, ⟨(fun h => by cases h), (fun h => by rw [hsp h]), fun h => lt_of_cell (hcell 0 (by omega)), by unfold maxLen at hm; omega⟩, fun i hi => ?_⟩
    have hs := hsp (by omega)
    subst hs
    have := hcell i (by omega)
    rw [add_plain] at this
    exact this

end

set_option maxRecDepth 100000 in
theorem lifted (os : Os) (started : os.Started) (H : Type) (enc : TypeId × Value → H) :
    ReturnsInHanded {} Try.checked os 3 .any (Rows.fnSummaryAddScriptRoundsSpec.pre6 enc Try.prog Try.f3 Rows.fnSummaryAddScriptRoundsRow.domain false) (Rows.fnSummaryAddScriptRoundsSpec.post enc Try.prog Try.f3 false true false false) := by
  refine returnsInHanded_of_change (C := Try.checked) own started (by kernel_rfl) Try.func3
    (ChangeSpec.witness6 (enc := enc) (C := Try.checked) false ⟨#[], #[.int .u32 0, .slice none 0 0, .slice none 0 0, .slice none 0 0, .slice none 0 0, .slice none 0 0], []⟩ 8 (by kernel_rfl) (by kernel_rfl) (by kernel_rfl) (by kernel_rfl)) ?_
  intro W base args ds gs before hval0 hW hcnd _
  have hval : ∀ (j : Nat) t v, Try.f3.params[j]? = some t → args[j]? = some v → Value.okWide Try.prog W .any base t v := hval0
  have hW' := hW
  obtain ⟨p, q, hA0, hV, rfl, hfz, hnd⟩ := hW
  have hA : DataW.TrodAll enc Try.prog W 0 (fun _ => true) true Try.f3.params.toList args.toList ds p := hA0
  rw [Try.params3] at hA hval
  obtain ⟨v0, vs0, d0, ds0, p0, q0, hargs, rfl, rfl, h0, r0⟩ := trodAll_cons hA
  obtain ⟨v1, vs1, d1, ds1, p1, q1, rfl, rfl, rfl, h1, r1⟩ := trodAll_cons r0
  obtain ⟨v2, vs2, d2, ds2, p2, q2, rfl, rfl, rfl, h2, r2⟩ := trodAll_cons r1
  obtain ⟨v3, vs3, d3, ds3, p3, q3, rfl, rfl, rfl, h3, r3⟩ := trodAll_cons r2
  obtain ⟨v4, vs4, d4, ds4, p4, q4, rfl, rfl, rfl, h4, r4⟩ := trodAll_cons r3
  obtain ⟨v5, vs5, d5, ds5, p5, q5, rfl, rfl, rfl, h5, r5⟩ := trodAll_cons r4
  obtain ⟨rfl, rfl, rfl⟩ := trodAll_nil r5
  obtain rfl : args = #[v0, v1, v2, v3, v4, v5] := by cases args; simp_all
  obtain ⟨rfl, rfl⟩ := trodVars_none hV
  have k0 := h0
  have lt0 : ∀ x ∈ p0, x.block < W.heap.size := by obtain ⟨m, hm⟩ := k0; exact DataW.trod_lt m _ _ _ hm
  obtain ⟨mi, rfl, _, _, w0⟩ := open_int Try.underlying22 (hval 0 22 v0 rfl rfl) h0
  obtain ⟨x1, n1, e1, rfl⟩ := okWide_slice Try.underlying23 (hval 1 23 v1 rfl rfl)
  have k1 := h1
  have lt1 : ∀ x ∈ p1, x.block < W.heap.size := by obtain ⟨m, hm⟩ := k1; exact DataW.trod_lt m _ _ _ hm
  obtain ⟨b1, o1, f1, i1, c1, g1⟩ := open_u64s h1
  obtain ⟨x2, n2, e2, rfl⟩ := okWide_slice Try.underlying24 (hval 2 24 v2 rfl rfl)
  have k2 := h2
  have lt2 : ∀ x ∈ p2, x.block < W.heap.size := by obtain ⟨m, hm⟩ := k2; exact DataW.trod_lt m _ _ _ hm
  obtain ⟨b2, o2, f2, i2, c2⟩ := open_bs h2
  obtain ⟨x3, n3, e3, rfl⟩ := okWide_slice Try.underlying23 (hval 3 23 v3 rfl rfl)
  have k3 := h3
  have lt3 : ∀ x ∈ p3, x.block < W.heap.size := by obtain ⟨m, hm⟩ := k3; exact DataW.trod_lt m _ _ _ hm
  obtain ⟨b3, o3, f3, i3, c3, g3⟩ := open_u64s h3
  obtain ⟨x4, n4, e4, rfl⟩ := okWide_slice Try.underlying24 (hval 4 24 v4 rfl rfl)
  have k4 := h4
  have lt4 : ∀ x ∈ p4, x.block < W.heap.size := by obtain ⟨m, hm⟩ := k4; exact DataW.trod_lt m _ _ _ hm
  obtain ⟨b4, o4, f4, i4, c4⟩ := open_bs h4
  obtain ⟨x5, n5, e5, rfl⟩ := okWide_slice Try.underlying25 (hval 5 25 v5 rfl rfl)
  have k5 := h5
  have lt5 : ∀ x ∈ p5, x.block < W.heap.size := by obtain ⟨m, hm⟩ := k5; exact DataW.trod_lt m _ _ _ hm
  obtain ⟨b5, o5, f5, i5, c5, g5⟩ := open_u32s h5
  clear hA0 hval0
  refine (l3_walk mi x1 n1 e1 b1 o1 x2 n2 e2 b2 o2 x3 n3 e3 b3 o3 x4 n4 e4 b4 o4 x5 n5 e5 b5 o5 f1 f3 f5 f2 f4 W i1 i2 i3 i4 i5 c1 c2 c3 c4 c5 (bd32 w0).1 g1 g3 g5).mono fun e W' ⟨he, bel⟩ => ?_
  subst he
  exact ⟨_, rfl, _, _, _, [], _, [], hW', trodAll_mk1 (shut_bool Try.underlying4 _), (trodAll_cons_mk (Below.trod laidOut (by kernel_rfl) (of_decide_eq_true (by kernel_rfl)) k0 bel lt0) (trodAll_cons_mk (Below.trod laidOut (by kernel_rfl) (of_decide_eq_true (by kernel_rfl)) k1 bel lt1) (trodAll_cons_mk (Below.trod laidOut (by kernel_rfl) (of_decide_eq_true (by kernel_rfl)) k2 bel lt2) (trodAll_cons_mk (Below.trod laidOut (by kernel_rfl) (of_decide_eq_true (by kernel_rfl)) k3 bel lt3) (trodAll_cons_mk (Below.trod laidOut (by kernel_rfl) (of_decide_eq_true (by kernel_rfl)) k4 bel lt4) (trodAll_cons_mk (Below.trod laidOut (by kernel_rfl) (of_decide_eq_true (by kernel_rfl)) k5 bel lt5) trodAll_mk0)))))), rfl, bel.frame _, fun h => by cases h⟩

theorem over : Rows.fnSummaryAddScriptRoundsRow.holds Try.pinned (OpenSpec.ofChange Rows.fnSummaryAddScriptRoundsSpec) :=
  OpenClaim.holds_of_wide 3 Try.f3 rfl rfl rfl rfl rfl rfl rfl ⟨rfl, rfl, rfl, rfl, rfl⟩ rfl rfl rfl rfl rfl (by kernel_rfl) Try.func3 (by kernel_rfl)
    (of_decide_eq_true (by kernel_rfl)) (by unfold Func.isWrapper; first | (rw [if_pos (by decide +kernel)]; kernel_rfl) | (rw [if_neg (by decide +kernel)]; exact ⟨rfl, rfl⟩))
    (fun os started H enc _ => lifted os started H enc)

/-- THE STATEMENT -/
theorem proved : Rows.FnSummaryAddScriptRoundsSaid := over
#print axioms proved
end Go.Proofs.Qxb6602526a.fnSummaryAddScriptRounds
