import Derived.Test.Qxb6601010aNav
import Derived.Test.Qxb6601010aMem
import Derived.Laws.Tables
import Derived.Deep.RegionHeld3
namespace Go.Proofs.Qxb6601010a

/-! A REGION THAT DRAWS ITS ORDER, TAKEN OPERATION BY OPERATION, OVER A FRAME THAT IS NOT WRITTEN OUT. -/
def regOps : Code → Array Oper
  | .region _ ops _ => ops
  | _ => #[]
def regOp (c : Code) (i : Nat) : Oper := ((regOps c)[i]?).getD default
def regId : Code → Nat
  | .region i _ _ => i
  | _ => 0

theorem Fr.put {n : Nat} {a : Act} (h : Fr n a) (d : Nat) (v : Value) : Fr n (a.put (some d) v) := ⟨by simp [Act.put, h.size], by simp [Act.put, h.defers]⟩
theorem at_put_same {n : Nat} {a : Act} (h : Fr n a) (d : Nat) (v : Value) (hd : d < n) : (a.put (some d) v).tmps[d]?.getD undef = v := by
  have := h.size
  simp [Act.put, this, hd]
theorem at_put_ne {a : Act} (d j : Nat) (v : Value) (hne : j ≠ d) : (a.put (some d) v).tmps[j]?.getD undef = a.tmps[j]?.getD undef := by
  simp only [Act.put, Array.getElem?_setIfInBounds]
  rw [if_neg (fun e => hne e.symm)]
theorem sl_at (a : Act) (i : Nat) : sl a i = a.tmps[i]?.getD undef := by simp [sl]

section
variable {P : Program} {ops : Array Oper} {S : World → Prop} {R : Act → World → Prop} {md : Region.Mode} {n fuel : Nat} {listed : Array Bool} {a : Act} {w : World}

/-- Take operation i first: it yields v, whatever S-world it runs in. -/
theorem take1 (i d : Nat) (oi : Oper) (v : Value) (listed' : Array Bool)
    (hi : ops[i]? = some oi) (hdst : oi.dst = some d) (hd : d < n) (hs : Region.noSelect ops = true) (hf : Region.free md ops listed i = true) (hr : (Region.ready md ops listed).contains i = true)
    (hw : oi.guard = none) (hl : listed.setIfInBounds i true = listed') (hS : S w) (hfr : Fr n a) (hy : ∀ w, S w → (execOp a.eval oi).run P w = .ok (.value v) w)
    (h : ∀ a', Fr n a' → a'.tmps[d]?.getD undef = v → (∀ j, j ≠ d → a'.tmps[j]?.getD undef = a.tmps[j]?.getD undef) → wpAnyH P md ops (NP R) S fuel listed' a' w) : wpAnyH P md ops (NP R) S (fuel + 1) listed a w := by
  refine wpAnyH_take hi hs hf hr (fun _ _ _ h => h) (.inl ⟨?_, hy⟩) hS ?_
  · simp [Region.wanted, hw]
  · rw [hl, hdst]
    exact h _ (hfr.put d v) (at_put_same hfr d v hd) (fun j hj => at_put_ne d j v hj)

/-- Operation i comes up and yields v; the world turns. -/
theorem act1 (i d : Nat) (oi : Oper) (v : Value) (w' : World) (listed' : Array Bool)
    (hi : ops[i]? = some oi) (hdst : oi.dst = some d) (hd : d < n) (hw : oi.guard = none) (hl : listed.setIfInBounds i true = listed') (hfr : Fr n a) (hy : (execOp a.eval oi).run P w = .ok (.value v) w') (hS : S w')
    (h : ∀ a', Fr n a' → a'.tmps[d]?.getD undef = v → (∀ j, j ≠ d → a'.tmps[j]?.getD undef = a.tmps[j]?.getD undef) → wpAnyH P md ops (NP R) S fuel listed' a' w') :
    wpOp P ops (NP R) i (fun a' w' => S w' ∧ wpAnyH P md ops (NP R) S fuel (listed.setIfInBounds i true) a' w') a w := by
  unfold wpOp
  simp only [hi]
  have hw' : Region.wanted oi (yielded ops a.tmps) = true := by simp [Region.wanted, hw]
  simp only [hw', if_true, Oper.wp, hy, Oper.upon, hdst, hl]
  exact .inl ⟨hS, h _ (hfr.put d v) (at_put_same hfr d v hd) (fun j hj => at_put_ne d j v hj)⟩

/-- Operation i, a store, comes up. -/
theorem act0 (i : Nat) (oi : Oper) (w' : World) (listed' : Array Bool)
    (hi : ops[i]? = some oi) (hdst : oi.dst = none) (hw : oi.guard = none) (hl : listed.setIfInBounds i true = listed') (hy : (execOp a.eval oi).run P w = .ok .skip w') (hS : S w')
    (h : wpAnyH P md ops (NP R) S fuel listed' a w') :
    wpOp P ops (NP R) i (fun a' w' => S w' ∧ wpAnyH P md ops (NP R) S fuel (listed.setIfInBounds i true) a' w') a w := by
  unfold wpOp
  simp only [hi]
  have hw' : Region.wanted oi (yielded ops a.tmps) = true := by simp [Region.wanted, hw]
  simp only [hw', if_true, Oper.wp, hy, Oper.upon, hdst, hl]
  exact .inl ⟨hS, h⟩

theorem only1 (i : Nat) (hr : Region.ready md ops listed = [i]) (h : wpOp P ops (NP R) i (fun a' w' => S w' ∧ wpAnyH P md ops (NP R) S fuel (listed.setIfInBounds i true) a' w') a w) : wpAnyH P md ops (NP R) S (fuel + 1) listed a w :=
  wpAnyH_all hr (by simp) (fun j hj => by simp at hj; subst hj; exact h)
theorem both2 (i j : Nat) (hr : Region.ready md ops listed = [i, j]) (h : wpOp P ops (NP R) i (fun a' w' => S w' ∧ wpAnyH P md ops (NP R) S fuel (listed.setIfInBounds i true) a' w') a w)
    (h' : wpOp P ops (NP R) j (fun a' w' => S w' ∧ wpAnyH P md ops (NP R) S fuel (listed.setIfInBounds j true) a' w') a w) : wpAnyH P md ops (NP R) S (fuel + 1) listed a w :=
  wpAnyH_all hr (by simp) (fun k hk => by
    simp at hk
    rcases hk with rfl | rfl
    · exact h
    · exact h')
end

/-- A whole struct or array into a block of its own. -/
theorem run_store_row {P : Program} {w : World} {b : Nat} {t ty : TypeId} {old cells : Array Value} (h : IsB w b old t) (hi : (P.info? ty).map (·.size) = some cells.size) (ho : old.size = cells.size) (h1 : cells.all (·.oneCell') = true) :
    (Instr.storeAt ty (.pointer (some ⟨b, 0, none⟩)) (.agg cells)).run P w = .ok () (w.setRow b cells) := by
  simp only [Instr.storeAt, Instr.sureAddr, Sem.run_bind, Sem.run_pure, Result.andThen_ok]
  exact run_storeVar_row w b t ty old cells h hi ho h1
theorem IsB.row {w : World} {b : Nat} {c : Array Value} {t : TypeId} (h : IsB w b c t) (cs : Array Value) : IsB (w.setRow b cs) b cs t := setRow_heap w b c cs t (0, 0) h
theorem IsB.row_off {w : World} {b g : Nat} {c : Array Value} {t : TypeId} (h : IsB w b c t) (cs : Array Value) (hne : b ≠ g) : IsB (w.setRow g cs) b c t := by
  unfold IsB at *; rw [setRow_other w g b cs hne]; exact h
theorem Kept.row {S : List Nat} {a w : World} (h : Kept S a w) (g : Nat) (cs : Array Value) (hp : g ∈ S ∨ a.heap.size ≤ g) : Kept S a (w.setRow g cs) :=
  ⟨h.os, h.tape, h.output, Nat.le_trans h.size (by simp), fun k hk hn => by
    rw [setRow_other w g k cs (by rcases hp with hp | hp <;> intro e <;> subst e <;> first | exact hn hp | omega)]; exact h.block k hk hn⟩
theorem exec_store {P : Program} {a : Act} {oi : Oper} {ty : TypeId} {x y : Operand} {b : Nat} {cells : Array Value} {w w' : World} (ho : oi.op = .store ty x y) (hx : a.eval x = .pointer (some ⟨b, 0, none⟩)) (hy : a.eval y = .agg cells)
    (h : (Instr.storeAt ty (.pointer (some ⟨b, 0, none⟩)) (.agg cells)).run P w = .ok () w') : (execOp a.eval oi).run P w = .ok .skip w' := by
  simp only [execOp, ho, hx, hy, Sem.run_bind, h, Result.andThen_ok, Sem.run_pure]

/-- A piece that is a region that draws. -/
theorem wp_navR {P : Program} {c : Code} {Q : Exit → Act → World → Prop} {a : Act} {w : World} (S : World → Prop) (R : Act → World → Prop) (k : Nat) (listed : Array Bool) (hm : P.follows .mixedOrders = true)
    (hc : c = .region (regId c) (regOps c) true) (hk : (regOps c).size = k) (hl : Array.replicate k false = listed) (h : wpAnyH P .any (regOps c) (NP R) S k listed a w.drew) (hq : ∀ a w, R a w → Q .normal a w) : c.wp P Q a w := by
  refine wp_np (R := R) ?_ hq
  rw [hc]
  refine wp_region_held (S := S) hm ?_
  rw [hk, hl]
  exact h

section
variable {P : Program} {ops : Array Oper} {S : World → Prop} {R : Act → World → Prop} {md : Region.Mode} {n fuel : Nat} {listed : Array Bool} {a : Act} {w : World}
/-- Operation i, a call, comes up. -/
theorem actC (i d : Nat) (oi : Oper) (v : Value) (f : FuncId) (args : Array Value) (G : World → Prop) (listed' : Array Bool)
    (hi : ops[i]? = some oi) (hdst : oi.dst = some d) (hd : d < n) (hw : oi.guard = none) (hl : listed.setIfInBounds i true = listed') (hfr : Fr n a) (hy : (execOp a.eval oi).run P w = .ok (.enter f args) w)
    (hc : Calls P f args w fun e w' => e = .returned v ∧ S w' ∧ G w')
    (h : ∀ a' w', G w' → Fr n a' → a'.tmps[d]?.getD undef = v → (∀ j, j ≠ d → a'.tmps[j]?.getD undef = a.tmps[j]?.getD undef) → wpAnyH P md ops (NP R) S fuel listed' a' w') :
    wpOp P ops (NP R) i (fun a' w' => S w' ∧ wpAnyH P md ops (NP R) S fuel (listed.setIfInBounds i true) a' w') a w := by
  unfold wpOp
  simp only [hi]
  have hw' : Region.wanted oi (yielded ops a.tmps) = true := by simp [Region.wanted, hw]
  simp only [hw', if_true, Oper.wp, hy, Oper.upon_enter, hdst, hl]
  refine .inl (hc.mono ?_)
  rintro e w' ⟨rfl, hS, hG⟩
  exact ⟨hS, h _ _ hG (hfr.put d v) (at_put_same hfr d v hd) (fun j hj => at_put_ne d j v hj)⟩
end

end Go.Proofs.Qxb6601010a
