import Derived.Test.Qxb6602526aA13
import Derived.Test.Qxb6602526aRowKit
import Derived.OpenShut
import Derived.ChangeOld
namespace Go.Proofs.Qxb6602526a.fnSummaryAddCountsOneInstance
open Go.ChangeShapes Go.WideShapes Go.ChangeAt Go.RowKit
open Go.Deep (open_slice)
set_option linter.unusedVariables false

theorem own : ownKnob Try.prog.godebug = none := by kernel_rfl
theorem laidOut : laidOutB Try.prog = true := by kernel_rfl
theorem cells31 : Try.prog.cellsOf 31 = 1 := by kernel_rfl
theorem cells4 : Try.prog.cellsOf 4 = 1 := by kernel_rfl
theorem cells5 : Try.prog.cellsOf 5 = 1 := by kernel_rfl
theorem cells22 : Try.prog.cellsOf 22 = 1 := by kernel_rfl
theorem cells78 : Try.prog.cellsOf 78 = 9 := by kernel_rfl
theorem cells82 : Try.prog.cellsOf 82 = 6 := by kernel_rfl

theorem bd64 {x : Int} (h : (Lit.int .u64 x).wf = true) : 0 ≤ x ∧ x < 18446744073709551616 := by
  simp [Lit.wf, IntKind.min, IntKind.max, IntKind.signed, IntKind.bits] at h; omega
theorem bd8 {x : Int} (h : (Lit.int .u8 x).wf = true) : 0 ≤ x ∧ x < 256 := by
  simp [Lit.wf, IntKind.min, IntKind.max, IntKind.signed, IntKind.bits] at h; omega
theorem bd32 {x : Int} (h : (Lit.int .u32 x).wf = true) : 0 ≤ x ∧ x < 4294967296 := by
  simp [Lit.wf, IntKind.min, IntKind.max, IntKind.signed, IntKind.bits] at h; omega

theorem lt_of_cell {w : World} {a : Addr} {v : Value} (h : w.cell? a = some v) : a.block < w.heap.size := by
  rcases Nat.lt_or_ge a.block w.heap.size with h' | h'
  · exact h'
  · simp [World.cell?, Array.getElem?_eq_none h'] at h

section
variable {H : Type} {enc : TypeId × Value → H} {w : World} {base : Nat} {held : Bool}

set_option maxRecDepth 100000 in
/-- A SumCase, opened. -/
theorem open_prior {r : Reach} {b0 : Nat} {v : Value} {d : DataW H} {p : List MemPlace} (hv : Value.okWide Try.prog w r b0 78 v) (h : DataW.Trod enc Try.prog w base (fun _ => true) held 78 v d p) :
    ∃ (p0 p1 p2 p3 p4 p5 p6 p8 : Int) (p7 : Bool), v = .agg (priorA p0 p1 p2 p3 p4 p5 p6 p7 p8) ∧ (0 ≤ p0 ∧ p0 < 18446744073709551616) ∧ (0 ≤ p1 ∧ p1 < 18446744073709551616) ∧ (0 ≤ p2 ∧ p2 < 18446744073709551616) ∧ (0 ≤ p3 ∧ p3 < 18446744073709551616) ∧
      (0 ≤ p4 ∧ p4 < 18446744073709551616) ∧ (0 ≤ p5 ∧ p5 < 18446744073709551616) ∧ (0 ≤ p6 ∧ p6 < 18446744073709551616) ∧ (0 ≤ p8 ∧ p8 < 18446744073709551616) := by
  obtain ⟨cs, rfl, hsz⟩ := okWide_struct Try.underlying78 hv
  obtain ⟨fuel, hf⟩ := h
  obtain ⟨xs, n, _, _, hl, hlen, hall⟩ := DataW.trod_struct Try.underlying78 hf
  have hlen' : xs.length = 9 := hlen
  obtain ⟨p0, e0, q0⟩ := field_int (i := 0) (hall 0 _ rfl) (by omega) cells31 Try.underlying31
  obtain ⟨p1, e1, q1⟩ := field_int (i := 1) (hall 1 _ rfl) (by omega) cells31 Try.underlying31
  obtain ⟨p2, e2, q2⟩ := field_int (i := 2) (hall 2 _ rfl) (by omega) cells31 Try.underlying31
  obtain ⟨p3, e3, q3⟩ := field_int (i := 3) (hall 3 _ rfl) (by omega) cells31 Try.underlying31
  obtain ⟨p4, e4, q4⟩ := field_int (i := 4) (hall 4 _ rfl) (by omega) cells31 Try.underlying31
  obtain ⟨p5, e5, q5⟩ := field_int (i := 5) (hall 5 _ rfl) (by omega) cells31 Try.underlying31
  obtain ⟨p6, e6, q6⟩ := field_int (i := 6) (hall 6 _ rfl) (by omega) cells31 Try.underlying31
  obtain ⟨p7, e7⟩ := field_bool (i := 7) (hall 7 _ rfl) (by omega) cells4 Try.underlying4
  obtain ⟨p8, e8, q8⟩ := field_int (i := 8) (hall 8 _ rfl) (by omega) cells31 Try.underlying31
  refine ⟨p0, p1, p2, p3, p4, p5, p6, p8, p7, ?_, bd64 q0, bd64 q1, bd64 q2, bd64 q3, bd64 q4, bd64 q5, bd64 q6, bd64 q8⟩
  rw [cells78] at hsz
  simp only [Value.cells] at e0 e1 e2 e3 e4 e5 e6 e7 e8
  congr 1
  apply Array.ext'
  apply List.ext_getElem?
  intro i
  match i with
  | 0 => exact e0
  | 1 => exact e1
  | 2 => exact e2
  | 3 => exact e3
  | 4 => exact e4
  | 5 => exact e5
  | 6 => exact e6
  | 7 => exact e7
  | 8 => exact e8
  | i + 9 =>
    rw [List.getElem?_eq_none (by simp; omega), List.getElem?_eq_none (by simp [priorA])]

set_option maxRecDepth 100000 in
/-- The nodes, opened. -/
theorem open_nodes {na : Option Addr} {len cap : Nat} {d : DataW H} {p : List MemPlace} (h : DataW.Trod enc Try.prog w base (fun _ => true) held 79 (.slice na len cap) d p) :
    ∃ (nb noff : Nat) (nc : Nat → NodeC), SliceIn na nb noff len cap w ∧ (∀ i, i < len → (nc i).at w nb (noff + i * 6)) ∧ (∀ i, i < len → 0 ≤ (nc i).pv) ∧ (∀ i, i < len → 0 ≤ (nc i).rd ∧ (nc i).rd < 4294967296) := by
  obtain ⟨fuel, hf⟩ := h
  rcases open_slice Try.underlying79 hf with ⟨hcs, _⟩ | ⟨a, len', cap', m, n, D, Pl, hcs, _, hl, hm, hmm, _, hx⟩
  · simp [Value.cells] at hcs
    obtain ⟨rfl, rfl, rfl⟩ := hcs
    exact ⟨0, 0, fun _ => ⟨false, false, 0, 0, false, 0⟩, ⟨fun _ => ⟨rfl, rfl⟩, fun h => by omega, fun h => by omega, by omega⟩, fun i hi => by omega, fun i hi => by omega, fun i hi => by omega⟩
  · simp [Value.cells] at hcs
    obtain ⟨rfl, rfl, rfl⟩ := hcs
    simp only [if_true] at hmm
    subst hmm
    rw [cells82] at hx
    obtain ⟨b, off, spot⟩ := a
    have hsp : 0 < len → spot = none := fun h0 => by
      obtain ⟨cs', h1, h2⟩ := hx 0 (by omega)
      obtain ⟨v, _, hv⟩ := cells_at h1 (j := 0) (by omega)
      have := World.cell?_spot hv
      simpa [Addr.add] using this
    have hex : ∀ i, ∃ x : NodeC, i < len → x.at w b (off + i * 6) ∧ 0 ≤ x.pv ∧ 0 ≤ x.rd ∧ x.rd < 4294967296 := by
      intro i
      by_cases hi : i < len
      · have hs := hsp (by omega)
        subst hs
        obtain ⟨cs', h1, h2⟩ := hx i (by omega)
        obtain ⟨xs, n', _, _, hl', hlen, hall⟩ := DataW.trod_struct Try.underlying82 h2
        have hlen' : xs.length = 6 := hlen
        have get : ∀ j v, j < 6 → cs'[j]? = some v → w.cell? ⟨b, off + i * 6 + j, none⟩ = some v := by
          intro j v hj e
          obtain ⟨v', e1, e2⟩ := cells_at h1 hj
          rw [e] at e1
          cases e1
          rw [add_plain, add_plain] at e2
          exact e2
        obtain ⟨f0, e0⟩ := field_bool (i := 0) (hall 0 _ rfl) (by omega) cells4 Try.underlying4
        obtain ⟨f1, e1⟩ := field_bool (i := 1) (hall 1 _ rfl) (by omega) cells4 Try.underlying4
        obtain ⟨f2, e2, q2⟩ := field_int (i := 2) (hall 2 _ rfl) (by omega) cells5 Try.underlying5
        obtain ⟨f3, e3, q3⟩ := field_int (i := 3) (hall 3 _ rfl) (by omega) cells5 Try.underlying5
        obtain ⟨f4, e4⟩ := field_bool (i := 4) (hall 4 _ rfl) (by omega) cells4 Try.underlying4
        obtain ⟨f5, e5, q5⟩ := field_int (i := 5) (hall 5 _ rfl) (by omega) cells22 Try.underlying22
        exact ⟨⟨f0, f1, f2, f3, f4, f5⟩, fun _ => ⟨⟨get 0 _ (by omega) e0, get 1 _ (by omega) e1, get 2 _ (by omega) e2, get 3 _ (by omega) e3, get 4 _ (by omega) e4, get 5 _ (by omega) e5⟩, (bd8 q2).1, bd32 q5⟩⟩
      · exact ⟨⟨false, false, 0, 0, false, 0⟩, fun h => absurd h hi⟩
    have hc := fun i => (hex i).choose_spec
    refine ⟨b, off, fun i => (hex i).choose, ⟨(fun h => by cases h), (fun h => by rw [hsp h]), fun h => ?_, by unfold maxLen at hm; omega⟩, fun i hi => (hc i hi).1, fun i hi => (hc i hi).2.1, fun i hi => (hc i hi).2.2⟩
    exact lt_of_cell (hc 0 h).1.1

/-- The rounds, opened. -/
theorem open_rounds {na : Option Addr} {len cap : Nat} {d : DataW H} {p : List MemPlace} (h : DataW.Trod enc Try.prog w base (fun _ => true) held 23 (.slice na len cap) d p) :
    ∃ (nb noff : Nat) (f : Nat → Int), SliceIn na nb noff len cap w ∧ (∀ i, i < len → w.cell? ⟨nb, noff + i, none⟩ = some (.int .u64 (f i))) ∧ (∀ i, i < len → 0 ≤ f i) := by
  obtain ⟨fuel, hf⟩ := h
  rcases open_ints Try.underlying23 Try.underlying31 cells31 hf with ⟨hcs, _⟩ | ⟨x, l, c, zs, hcs, _, hl, hm, hz, _, hcell, hwz⟩
  · simp [Value.cells] at hcs
    obtain ⟨rfl, rfl, rfl⟩ := hcs
    exact ⟨0, 0, fun _ => 0, ⟨fun _ => ⟨rfl, rfl⟩, fun h => by omega, fun h => by omega, by omega⟩, fun i hi => by omega, fun i hi => by omega⟩
  · simp [Value.cells] at hcs
    obtain ⟨rfl, rfl, rfl⟩ := hcs
    simp only [if_true] at hz
    obtain ⟨b, off, spot⟩ := x
    have hsp : 0 < len → spot = none := fun h0 => by
      have := World.cell?_spot (hcell 0 (by omega))
      simpa [Addr.add] using this
    refine ⟨b, off, fun i => zs.getD i 0, ⟨(fun h => by cases h), (fun h => by rw [hsp h]), fun h => lt_of_cell (hcell 0 (by omega)), by unfold maxLen at hm; omega⟩, fun i hi => ?_, fun i hi => ?_⟩
    · have hs := hsp (by omega)
      subst hs
      have := hcell i (by omega)
      rw [add_plain] at this
      exact this
    · have hi' : i < zs.length := by omega
      have := hwz (zs.getD i 0) (by rw [List.getD_eq_getElem?_getD, List.getElem?_eq_getElem hi']; exact List.getElem_mem _)
      exact (bd64 this).1
end

set_option maxRecDepth 100000 in
theorem lifted (os : Os) (started : os.Started) (H : Type) (enc : TypeId × Value → H) :
    ReturnsInHanded {} Try.checked os 8 .any (Rows.fnSummaryAddCountsOneInstanceSpec.pre6 enc Try.prog Try.f8 Rows.fnSummaryAddCountsOneInstanceRow.domain false) (Rows.fnSummaryAddCountsOneInstanceSpec.post enc Try.prog Try.f8 false true false false) := by
  refine returnsInHanded_of_change (C := Try.checked) own started (by kernel_rfl) Try.func8
    (ChangeSpec.witness6 (enc := enc) (C := Try.checked) false ⟨#[], #[.agg #[.int .u64 0, .int .u64 0, .int .u64 0, .int .u64 0, .int .u64 0, .int .u64 0, .int .u64 0, .bool false, .int .u64 0], .slice none 0 0, .slice none 0 0], []⟩ 8 (by kernel_rfl) (by kernel_rfl) (by kernel_rfl) (by kernel_rfl)) ?_
  intro W base args ds gs before hval0 hW hcnd _
  have hval : ∀ (j : Nat) t v, Try.f8.params[j]? = some t → args[j]? = some v → Value.okWide Try.prog W .any base t v := hval0
  have hW' := hW
  obtain ⟨p, q, hA0, hV, rfl, hfz, hnd⟩ := hW
  have hA : DataW.TrodAll enc Try.prog W 0 (fun _ => true) true Try.f8.params.toList args.toList ds p := hA0
  rw [Try.params8] at hA hval
  obtain ⟨v0, vs0, d0, ds0, p0, q0, hargs, rfl, rfl, h0, r0⟩ := trodAll_cons hA
  obtain ⟨v1, vs1, d1, ds1, p1, q1, rfl, rfl, rfl, h1, r1⟩ := trodAll_cons r0
  obtain ⟨v2, vs2, d2, ds2, p2, q2, rfl, rfl, rfl, h2, r2⟩ := trodAll_cons r1
  obtain ⟨rfl, rfl, rfl⟩ := trodAll_nil r2
  obtain rfl : args = #[v0, v1, v2] := by cases args; simp_all
  obtain ⟨rfl, rfl⟩ := trodVars_none hV
  have k0 := h0
  have lt0 : ∀ x ∈ p0, x.block < W.heap.size := by obtain ⟨m, hm⟩ := k0; exact DataW.trod_lt m _ _ _ hm
  obtain ⟨a0, a1, a2, a3, a4, a5, a6, a8, a7, rfl, b0, b1, b2, b3, b4, b5, b6, b8⟩ := open_prior (hval 0 78 v0 rfl rfl) h0
  obtain ⟨na, nn, ncap, rfl⟩ := okWide_slice Try.underlying79 (hval 1 79 v1 rfl rfl)
  have k1 := h1
  have lt1 : ∀ x ∈ p1, x.block < W.heap.size := by obtain ⟨m, hm⟩ := k1; exact DataW.trod_lt m _ _ _ hm
  obtain ⟨nb, noff, nc, hN, hnc, hpv, hrd⟩ := open_nodes h1
  obtain ⟨ra, rn, rcap, rfl⟩ := okWide_slice Try.underlying23 (hval 2 23 v2 rfl rfl)
  have k2 := h2
  have lt2 : ∀ x ∈ p2, x.block < W.heap.size := by obtain ⟨m, hm⟩ := k2; exact DataW.trod_lt m _ _ _ hm
  obtain ⟨rb, roff, f, hR, hf, hf0⟩ := open_rounds h2
  clear hA0 hval0
  refine (l8_walk na ra nn ncap rn rcap nb noff rb roff nc f a0 a1 a2 a3 a4 a5 a6 a8 a7 W hN hR hnc hf hf0 hpv hrd b0 b1 b2 b3 b4 b5 b6 b8).mono fun e W' ⟨he, bel⟩ => ?_
  subst he
  exact ⟨_, rfl, _, _, _, [], _, [], hW', trodAll_mk1 (shut_bool Try.underlying4 _), (trodAll_cons_mk (Below.trod laidOut (by kernel_rfl) (of_decide_eq_true (by kernel_rfl)) k0 bel lt0) (trodAll_cons_mk (Below.trod laidOut (by kernel_rfl) (of_decide_eq_true (by kernel_rfl)) k1 bel lt1) (trodAll_cons_mk (Below.trod laidOut (by kernel_rfl) (of_decide_eq_true (by kernel_rfl)) k2 bel lt2) trodAll_mk0))), rfl, bel.frame _, fun h => by cases h⟩

theorem over : Rows.fnSummaryAddCountsOneInstanceRow.holds Try.pinned (OpenSpec.ofChange Rows.fnSummaryAddCountsOneInstanceSpec) :=
  OpenClaim.holds_of_wide 8 Try.f8 rfl rfl rfl rfl rfl rfl rfl ⟨rfl, rfl, rfl, rfl, rfl⟩ rfl rfl rfl rfl rfl (by kernel_rfl) Try.func8 (by kernel_rfl)
    (of_decide_eq_true (by kernel_rfl)) (by unfold Func.isWrapper; first | (rw [if_pos (by decide +kernel)]; kernel_rfl) | (rw [if_neg (by decide +kernel)]; exact ⟨rfl, rfl⟩))
    (fun os started H enc _ => lifted os started H enc)

/-- THE STATEMENT -/
theorem proved : Rows.FnSummaryAddCountsOneInstanceSaid := over
#print axioms proved
end Go.Proofs.Qxb6602526a.fnSummaryAddCountsOneInstance
