/-
  No cell of these rows narrows 'for every input' (looked for: loops, veiled, ifaces, maps, wideKeys, modest, calm, conditions, laid).
  DERIVED. THE GIVEN ROWS OF THIS SEAT. 5 by the template 'for every input the law returns true; each argument reads behind the call as it read before'; 0 by the template 'total and deterministic' (their statements: Qxb6601010aTotals.lean).
  GIVEN WITH THE SEED: the statements are not yours to turn. If you find one false, say at which input.
  Laid BY PROGRAM, IN A SANDBOX (cutbox-rows.mjs): the forced cells as the released guide's own fill.sh prints them over the translation 09ce58309ce96ea5… (all of the seat's roots in one cut). By AI agents, Wed Nov 11 2026. No macro, syntax, notation, axiom, sorry.
-/
import Derived.Test.Qxb6601010aChecked
import GoSem.Claim
import GoSem.ClaimJoined
import GoSem.ClaimMapViews
import Derived.JoinedTies
import Derived.KernelRfl
namespace Go.Proofs.Qxb6601010a
/- THE CELL 'sum', in the pinned program and in every row, IS THE sha256 OF THE DUMP (.gsa) THAT Qxb6601010aProg.lean LOADS. Nothing in Lean hashes anything: it is a label: what it is worth is what the hold of that sum in a sandbox is worth. -/
noncomputable def Try.pinned : Pinned := { name := "qxb6601010a", sum := "09ce58309ce96ea5a55af2fd08c6e5ff66137cfdcb83999c34a78e5b83307719", checked := Try.checked }
namespace Rows
def none {H : Type} : Left H := { results := [], args := [] }

/-- 'zzlaws_internal_api_b1.FnScanBytesSplit': WHATEVER THE INPUT: true; the input reads as it did. -/
def fnScanBytesSplitSpec : ChangeSpec := { name := "fnScanBytesSplit", fn := fun _ => fun
  | [d1, d2, d3, d4] => { results := [.lit (.bool true)], args := [d1, d2, d3, d4] }
  | _ => none }
def fnScanBytesSplitRow : OpenClaim := { program := "qxb6601010a", sum := "09ce58309ce96ea5a55af2fd08c6e5ff66137cfdcb83999c34a78e5b83307719", func := "example.com/tidemark/tidemark/zzlaws_internal_api_b1.FnScanBytesSplit", spec := "fnScanBytesSplit", apart := false }
def FnScanBytesSplitSaid : Prop := fnScanBytesSplitRow.holds Try.pinned (OpenSpec.ofChange fnScanBytesSplitSpec)

/-- ITS FALSE NEIGHBOUR: 'it returns false'. Refute it at one input. -/
def fnScanBytesSplitWrong : ChangeSpec := { name := "fnScanBytesSplit", fn := fun _ => fun
  | [d1, d2, d3, d4] => { results := [.lit (.bool false)], args := [d1, d2, d3, d4] }
  | _ => none }
def FnScanBytesSplitWrongFalsely : Prop := fnScanBytesSplitRow.holds Try.pinned (OpenSpec.ofChange fnScanBytesSplitWrong)

/-- 'zzlaws_internal_api_b1.FnAppendEscapeRoundTrip': WHATEVER THE INPUT: true; the input reads as it did. -/
def fnAppendEscapeRoundTripSpec : ChangeSpec := { name := "fnAppendEscapeRoundTrip", fn := fun _ => fun
  | [d1, d2] => { results := [.lit (.bool true)], args := [d1, d2] }
  | _ => none }
def fnAppendEscapeRoundTripRow : OpenClaim := { program := "qxb6601010a", sum := "09ce58309ce96ea5a55af2fd08c6e5ff66137cfdcb83999c34a78e5b83307719", func := "example.com/tidemark/tidemark/zzlaws_internal_api_b1.FnAppendEscapeRoundTrip", spec := "fnAppendEscapeRoundTrip", apart := false }
def FnAppendEscapeRoundTripSaid : Prop := fnAppendEscapeRoundTripRow.holds Try.pinned (OpenSpec.ofChange fnAppendEscapeRoundTripSpec)

/-- ITS FALSE NEIGHBOUR: 'it returns false'. Refute it at one input. -/
def fnAppendEscapeRoundTripWrong : ChangeSpec := { name := "fnAppendEscapeRoundTrip", fn := fun _ => fun
  | [d1, d2] => { results := [.lit (.bool false)], args := [d1, d2] }
  | _ => none }
def FnAppendEscapeRoundTripWrongFalsely : Prop := fnAppendEscapeRoundTripRow.holds Try.pinned (OpenSpec.ofChange fnAppendEscapeRoundTripWrong)

/-- 'zzlaws_internal_api_b1.FnInMapOrderExact': WHATEVER THE INPUT: true; the input reads as it did. -/
def fnInMapOrderExactSpec : ChangeSpec := { name := "fnInMapOrderExact", fn := fun _ => fun
  | [d] => { results := [.lit (.bool true)], args := [d] }
  | _ => none }
def fnInMapOrderExactRow : OpenClaim := { program := "qxb6601010a", sum := "09ce58309ce96ea5a55af2fd08c6e5ff66137cfdcb83999c34a78e5b83307719", func := "example.com/tidemark/tidemark/zzlaws_internal_api_b1.FnInMapOrderExact", spec := "fnInMapOrderExact", inPlace := ["internal/bytealg.abigen_runtime_cmpstring"], unfollowed := true, recurses := true, apart := false }
def FnInMapOrderExactSaid : Prop := fnInMapOrderExactRow.holds Try.pinned (OpenSpec.ofChange fnInMapOrderExactSpec)

/-- ITS FALSE NEIGHBOUR: 'it returns false'. Refute it at one input. -/
def fnInMapOrderExactWrong : ChangeSpec := { name := "fnInMapOrderExact", fn := fun _ => fun
  | [d] => { results := [.lit (.bool false)], args := [d] }
  | _ => none }
def FnInMapOrderExactWrongFalsely : Prop := fnInMapOrderExactRow.holds Try.pinned (OpenSpec.ofChange fnInMapOrderExactWrong)

/-- 'zzlaws_internal_api_b1.FnInMapOrderIdempotent': WHATEVER THE INPUT: true; the input reads as it did. -/
def fnInMapOrderIdempotentSpec : ChangeSpec := { name := "fnInMapOrderIdempotent", fn := fun _ => fun
  | [d] => { results := [.lit (.bool true)], args := [d] }
  | _ => none }
def fnInMapOrderIdempotentRow : OpenClaim := { program := "qxb6601010a", sum := "09ce58309ce96ea5a55af2fd08c6e5ff66137cfdcb83999c34a78e5b83307719", func := "example.com/tidemark/tidemark/zzlaws_internal_api_b1.FnInMapOrderIdempotent", spec := "fnInMapOrderIdempotent", inPlace := ["internal/bytealg.abigen_runtime_cmpstring"], unfollowed := true, recurses := true, apart := false }
def FnInMapOrderIdempotentSaid : Prop := fnInMapOrderIdempotentRow.holds Try.pinned (OpenSpec.ofChange fnInMapOrderIdempotentSpec)

/-- ITS FALSE NEIGHBOUR: 'it returns false'. Refute it at one input. -/
def fnInMapOrderIdempotentWrong : ChangeSpec := { name := "fnInMapOrderIdempotent", fn := fun _ => fun
  | [d] => { results := [.lit (.bool false)], args := [d] }
  | _ => none }
def FnInMapOrderIdempotentWrongFalsely : Prop := fnInMapOrderIdempotentRow.holds Try.pinned (OpenSpec.ofChange fnInMapOrderIdempotentWrong)

/-- 'zzlaws_internal_api_b1.FnInMapOrderKeepsInput': WHATEVER THE INPUT: true; the input reads as it did. -/
def fnInMapOrderKeepsInputSpec : ChangeSpec := { name := "fnInMapOrderKeepsInput", fn := fun _ => fun
  | [d] => { results := [.lit (.bool true)], args := [d] }
  | _ => none }
def fnInMapOrderKeepsInputRow : OpenClaim := { program := "qxb6601010a", sum := "09ce58309ce96ea5a55af2fd08c6e5ff66137cfdcb83999c34a78e5b83307719", func := "example.com/tidemark/tidemark/zzlaws_internal_api_b1.FnInMapOrderKeepsInput", spec := "fnInMapOrderKeepsInput", inPlace := ["internal/bytealg.abigen_runtime_cmpstring"], unfollowed := true, recurses := true, apart := false }
def FnInMapOrderKeepsInputSaid : Prop := fnInMapOrderKeepsInputRow.holds Try.pinned (OpenSpec.ofChange fnInMapOrderKeepsInputSpec)

/-- ITS FALSE NEIGHBOUR: 'it returns false'. Refute it at one input. -/
def fnInMapOrderKeepsInputWrong : ChangeSpec := { name := "fnInMapOrderKeepsInput", fn := fun _ => fun
  | [d] => { results := [.lit (.bool false)], args := [d] }
  | _ => none }
def FnInMapOrderKeepsInputWrongFalsely : Prop := fnInMapOrderKeepsInputRow.holds Try.pinned (OpenSpec.ofChange fnInMapOrderKeepsInputWrong)

end Rows
end Go.Proofs.Qxb6601010a
