import Derived.Test.Qxb6601010aU1
namespace Go.Proofs.Qxb6601010a
open Go.RowKit
set_option linter.unusedVariables false

theorem tmps_bool {a : Act} {d : Nat} {b : Bool} (h : a.tmps[d]?.getD undef = .bool b) : a.tmps[d]? = some (.bool b) := by
  cases e : a.tmps[d]? with
  | none => rw [e] at h; cases h
  | some v => rw [e] at h; simpa using h
theorem wanted_of {ops : Array Oper} {oi og : Oper} {a : Act} {g d : Nat} {b : Bool} (hg : oi.guard = some (g, b)) (hi : ops[g]? = some og) (hd : og.dst = some d) (ht : a.tmps[d]?.getD undef = .bool b) : Region.wanted oi (yielded ops a.tmps) = true := by
  simp [Region.wanted, hg, yielded, hi, hd, tmps_bool ht]

section
variable {P : Program} {ops : Array Oper} {S : World → Prop} {R : Act → World → Prop} {md : Region.Mode} {n fuel : Nat} {listed : Array Bool} {a : Act} {w : World}
theorem take1w (i d : Nat) (oi : Oper) (v : Value) (listed' : Array Bool)
    (hi : ops[i]? = some oi) (hdst : oi.dst = some d) (hd : d < n) (hs : Region.noSelect ops = true) (hf : Region.free md ops listed i = true) (hr : (Region.ready md ops listed).contains i = true)
    (hw : Region.wanted oi (yielded ops a.tmps) = true) (hl : listed.setIfInBounds i true = listed') (hS : S w) (hfr : Fr n a) (hy : ∀ w, S w → (execOp a.eval oi).run P w = .ok (.value v) w)
    (h : ∀ a', Fr n a' → a'.tmps[d]?.getD undef = v → (∀ j, j ≠ d → a'.tmps[j]?.getD undef = a.tmps[j]?.getD undef) → wpAnyH P md ops (NP R) S fuel listed' a' w) : wpAnyH P md ops (NP R) S (fuel + 1) listed a w := by
  refine wpAnyH_take hi hs hf hr (fun _ _ _ h => h) (.inl ⟨hw, hy⟩) hS ?_
  rw [hl, hdst]
  exact h _ (hfr.put d v) (at_put_same hfr d v hd) (fun j hj => at_put_ne d j v hj)
theorem actCw (i d : Nat) (oi : Oper) (v : Value) (f : FuncId) (args : Array Value) (G : World → Prop) (listed' : Array Bool)
    (hi : ops[i]? = some oi) (hdst : oi.dst = some d) (hd : d < n) (hw : Region.wanted oi (yielded ops a.tmps) = true) (hl : listed.setIfInBounds i true = listed') (hfr : Fr n a) (hy : (execOp a.eval oi).run P w = .ok (.enter f args) w)
    (hc : Calls P f args w fun e w' => e = .returned v ∧ S w' ∧ G w')
    (h : ∀ a' w', S w' → G w' → Fr n a' → a'.tmps[d]?.getD undef = v → (∀ j, j ≠ d → a'.tmps[j]?.getD undef = a.tmps[j]?.getD undef) → wpAnyH P md ops (NP R) S fuel listed' a' w') :
    wpOp P ops (NP R) i (fun a' w' => S w' ∧ wpAnyH P md ops (NP R) S fuel (listed.setIfInBounds i true) a' w') a w := by
  unfold wpOp
  simp only [hi]
  simp only [hw, if_true, Oper.wp, hy, Oper.upon_enter, hdst, hl]
  refine .inl (hc.mono ?_)
  rintro e w' ⟨rfl, hS, hG⟩
  exact ⟨hS, h _ _ hS hG (hfr.put d v) (at_put_same hfr d v hd) (fun j hj => at_put_ne d j v hj)⟩
end

theorem wanted_none {oi : Oper} {y : Nat → Option Bool} (h : oi.guard = none) : Region.wanted oi y = true := by simp [Region.wanted, h]

end Go.Proofs.Qxb6601010a
