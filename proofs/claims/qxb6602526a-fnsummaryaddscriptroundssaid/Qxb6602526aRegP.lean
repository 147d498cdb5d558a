import Derived.Test.Qxb6602526aReg
namespace Go.Proofs.Qxb6602526a

/-! A REGION IN ITS TEXT's ORDER, OPERATION BY OPERATION, OVER A FRAME THAT IS NOT WRITTEN OUT. -/
section
variable {P : Program} {ops : Array Oper} {Q : Exit → Act → World → Prop} {n : Nat} {rest : List Nat} {a : Act} {w : World}

theorem pl1 (i d : Nat) (oi : Oper) (v : Value) (w' : World) (hi : ops[i]? = some oi) (hdst : oi.dst = some d) (hd : d < n) (hw : oi.guard = none) (hfr : Fr n a) (hy : (execOp a.eval oi).run P w = .ok (.value v) w')
    (h : ∀ a', Fr n a' → a'.tmps[d]?.getD undef = v → (∀ j, j ≠ d → a'.tmps[j]?.getD undef = a.tmps[j]?.getD undef) → wpOps P ops Q rest a' w') : wpOps P ops Q (i :: rest) a w := by
  unfold wpOps
  simp only [hi]
  have hw' : Region.wanted oi (yielded ops a.tmps) = true := by simp [Region.wanted, hw]
  simp only [hw', if_true, Oper.wp, hy, Oper.upon, hdst]
  exact .inl (h _ (hfr.put d v) (at_put_same hfr d v hd) (fun j hj => at_put_ne d j v hj))

theorem pl0 (i : Nat) (oi : Oper) (w' : World) (hi : ops[i]? = some oi) (hdst : oi.dst = none) (hw : oi.guard = none) (hy : (execOp a.eval oi).run P w = .ok .skip w') (h : wpOps P ops Q rest a w') : wpOps P ops Q (i :: rest) a w := by
  unfold wpOps
  simp only [hi]
  have hw' : Region.wanted oi (yielded ops a.tmps) = true := by simp [Region.wanted, hw]
  simp only [hw', if_true, Oper.wp, hy, Oper.upon, hdst]
  exact .inl h
end

/-- A piece that is a plain region. -/
theorem wp_navP {P : Program} {c : Code} {Q : Exit → Act → World → Prop} {a : Act} {w : World} (l : List Nat) (hc : c = .region (regId c) (regOps c) false) (hl : List.range (regOps c).size = l)
    (h : wpOps P (regOps c) Q l a w) : c.wp P Q a w := by
  rw [hc]
  refine wp_region ?_
  rw [hl]; exact h

end Go.Proofs.Qxb6602526a
