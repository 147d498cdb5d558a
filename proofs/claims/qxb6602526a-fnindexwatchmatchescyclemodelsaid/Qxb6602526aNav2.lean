import Derived.Test.Qxb6602526aNav
namespace Go.Proofs.Qxb6602526a

/-- A call, by the function's code; the frame by what lies in its first slots. -/
theorem calls_nav {P : Program} {f : FuncId} {fn : Func} {args : Array Value} {w : World} {R : Ending → World → Prop} (n : Nat)
    (hf : P.funcs[f]? = some fn) (hb : fn.body = some (bodyC fn)) (hn : fn.ntmps = n) (hs : args.size ≤ n)
    (h : ∀ a, Fr n a → (∀ i, i < args.size → sl a i = args.getD i undef) → (bodyC fn).wp P (bodyPost P fn R) a w) : Calls P f args w R := by
  refine calls_of_wp hf hb (h _ ⟨?_, rfl⟩ ?_)
  · simp; omega
  · intro i hi
    simp [sl, Array.getD, hi]
    intro h2
    omega

end Go.Proofs.Qxb6602526a
