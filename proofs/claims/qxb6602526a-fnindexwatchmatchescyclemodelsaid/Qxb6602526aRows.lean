/-
  No cell of these rows narrows 'for every input' (looked for: loops, veiled, ifaces, maps, wideKeys, modest, calm, conditions, laid).
  DERIVED. THE GIVEN ROWS OF THIS SEAT. 6 by the template 'for every input the law returns true; each argument reads behind the call as it read before'; 0 by the template 'total and deterministic' (their statements: Qxb6602526aTotals.lean).
  GIVEN WITH THE SEED: the statements are not yours to turn. If you find one false, say at which input.
  Laid BY PROGRAM, IN A SANDBOX (cutbox-rows.mjs): the forced cells as the released guide's own fill.sh prints them over the translation 60ee187bfcad6020… (all of the seat's roots in one cut). By AI agents, Wed Nov 11 2026. No macro, syntax, notation, axiom, sorry.
-/
import Derived.Test.Qxb6602526aChecked
import GoSem.Claim
import GoSem.ClaimJoined
import GoSem.ClaimMapViews
import Derived.JoinedTies
import Derived.KernelRfl
namespace Go.Proofs.Qxb6602526a
/- THE CELL 'sum', in the pinned program and in every row, IS THE sha256 OF THE DUMP (.gsa) THAT Qxb6602526aProg.lean LOADS. Nothing in Lean hashes anything: it is a label: what it is worth is what the hold of that sum in a sandbox is worth. -/
noncomputable def Try.pinned : Pinned := { name := "qxb6602526a", sum := "60ee187bfcad60209d938167db42bb98c1d5bb8e139479a7dd0ec6be4d9c5576", checked := Try.checked }
namespace Rows
def none {H : Type} : Left H := { results := [], args := [] }

/-- 'zzlaws_internal_sim_b1.FnSummaryAddScriptRounds': WHATEVER THE INPUT: true; the input reads as it did. -/
def fnSummaryAddScriptRoundsSpec : ChangeSpec := { name := "fnSummaryAddScriptRounds", fn := fun _ => fun
  | [d1, d2, d3, d4, d5, d6] => { results := [.lit (.bool true)], args := [d1, d2, d3, d4, d5, d6] }
  | _ => none }
def fnSummaryAddScriptRoundsRow : OpenClaim := { program := "qxb6602526a", sum := "60ee187bfcad60209d938167db42bb98c1d5bb8e139479a7dd0ec6be4d9c5576", func := "example.com/reconvene/reconvene/zzlaws_internal_sim_b1.FnSummaryAddScriptRounds", spec := "fnSummaryAddScriptRounds", apart := false }
def FnSummaryAddScriptRoundsSaid : Prop := fnSummaryAddScriptRoundsRow.holds Try.pinned (OpenSpec.ofChange fnSummaryAddScriptRoundsSpec)

/-- ITS FALSE NEIGHBOUR: 'it returns false'. Refute it at one input. -/
def fnSummaryAddScriptRoundsWrong : ChangeSpec := { name := "fnSummaryAddScriptRounds", fn := fun _ => fun
  | [d1, d2, d3, d4, d5, d6] => { results := [.lit (.bool false)], args := [d1, d2, d3, d4, d5, d6] }
  | _ => none }
def FnSummaryAddScriptRoundsWrongFalsely : Prop := fnSummaryAddScriptRoundsRow.holds Try.pinned (OpenSpec.ofChange fnSummaryAddScriptRoundsWrong)

/-- 'zzlaws_internal_sim_b1.FnAgreementWatchMatchesPulseModel': WHATEVER THE INPUT: true; the input reads as it did. -/
def fnAgreementWatchMatchesPulseModelSpec : ChangeSpec := { name := "fnAgreementWatchMatchesPulseModel", fn := fun _ => fun
  | [d1, d2, d3, d4, d5, d6] => { results := [.lit (.bool true)], args := [d1, d2, d3, d4, d5, d6] }
  | _ => none }
def fnAgreementWatchMatchesPulseModelRow : OpenClaim := { program := "qxb6602526a", sum := "60ee187bfcad60209d938167db42bb98c1d5bb8e139479a7dd0ec6be4d9c5576", func := "example.com/reconvene/reconvene/zzlaws_internal_sim_b1.FnAgreementWatchMatchesPulseModel", spec := "fnAgreementWatchMatchesPulseModel", apart := false }
def FnAgreementWatchMatchesPulseModelSaid : Prop := fnAgreementWatchMatchesPulseModelRow.holds Try.pinned (OpenSpec.ofChange fnAgreementWatchMatchesPulseModelSpec)

/-- ITS FALSE NEIGHBOUR: 'it returns false'. Refute it at one input. -/
def fnAgreementWatchMatchesPulseModelWrong : ChangeSpec := { name := "fnAgreementWatchMatchesPulseModel", fn := fun _ => fun
  | [d1, d2, d3, d4, d5, d6] => { results := [.lit (.bool false)], args := [d1, d2, d3, d4, d5, d6] }
  | _ => none }
def FnAgreementWatchMatchesPulseModelWrongFalsely : Prop := fnAgreementWatchMatchesPulseModelRow.holds Try.pinned (OpenSpec.ofChange fnAgreementWatchMatchesPulseModelWrong)

/-- 'zzlaws_internal_sim_b1.FnAgreementWatchLaterFirstCheckedFlagsNoMore': WHATEVER THE INPUT: true; the input reads as it did. -/
def fnAgreementWatchLaterFirstCheckedFlagsNoMoreSpec : ChangeSpec := { name := "fnAgreementWatchLaterFirstCheckedFlagsNoMore", fn := fun _ => fun
  | [d1, d2, d3, d4, d5, d6, d7] => { results := [.lit (.bool true)], args := [d1, d2, d3, d4, d5, d6, d7] }
  | _ => none }
def fnAgreementWatchLaterFirstCheckedFlagsNoMoreRow : OpenClaim := { program := "qxb6602526a", sum := "60ee187bfcad60209d938167db42bb98c1d5bb8e139479a7dd0ec6be4d9c5576", func := "example.com/reconvene/reconvene/zzlaws_internal_sim_b1.FnAgreementWatchLaterFirstCheckedFlagsNoMore", spec := "fnAgreementWatchLaterFirstCheckedFlagsNoMore", apart := false }
def FnAgreementWatchLaterFirstCheckedFlagsNoMoreSaid : Prop := fnAgreementWatchLaterFirstCheckedFlagsNoMoreRow.holds Try.pinned (OpenSpec.ofChange fnAgreementWatchLaterFirstCheckedFlagsNoMoreSpec)

/-- ITS FALSE NEIGHBOUR: 'it returns false'. Refute it at one input. -/
def fnAgreementWatchLaterFirstCheckedFlagsNoMoreWrong : ChangeSpec := { name := "fnAgreementWatchLaterFirstCheckedFlagsNoMore", fn := fun _ => fun
  | [d1, d2, d3, d4, d5, d6, d7] => { results := [.lit (.bool false)], args := [d1, d2, d3, d4, d5, d6, d7] }
  | _ => none }
def FnAgreementWatchLaterFirstCheckedFlagsNoMoreWrongFalsely : Prop := fnAgreementWatchLaterFirstCheckedFlagsNoMoreRow.holds Try.pinned (OpenSpec.ofChange fnAgreementWatchLaterFirstCheckedFlagsNoMoreWrong)

/-- 'zzlaws_internal_sim_b1.FnIndexWatchMatchesCycleModel': WHATEVER THE INPUT: true; the input reads as it did. -/
def fnIndexWatchMatchesCycleModelSpec : ChangeSpec := { name := "fnIndexWatchMatchesCycleModel", fn := fun _ => fun
  | [d1, d2, d3, d4, d5, d6, d7] => { results := [.lit (.bool true)], args := [d1, d2, d3, d4, d5, d6, d7] }
  | _ => none }
def fnIndexWatchMatchesCycleModelRow : OpenClaim := { program := "qxb6602526a", sum := "60ee187bfcad60209d938167db42bb98c1d5bb8e139479a7dd0ec6be4d9c5576", func := "example.com/reconvene/reconvene/zzlaws_internal_sim_b1.FnIndexWatchMatchesCycleModel", spec := "fnIndexWatchMatchesCycleModel", apart := false }
def FnIndexWatchMatchesCycleModelSaid : Prop := fnIndexWatchMatchesCycleModelRow.holds Try.pinned (OpenSpec.ofChange fnIndexWatchMatchesCycleModelSpec)

/-- ITS FALSE NEIGHBOUR: 'it returns false'. Refute it at one input. -/
def fnIndexWatchMatchesCycleModelWrong : ChangeSpec := { name := "fnIndexWatchMatchesCycleModel", fn := fun _ => fun
  | [d1, d2, d3, d4, d5, d6, d7] => { results := [.lit (.bool false)], args := [d1, d2, d3, d4, d5, d6, d7] }
  | _ => none }
def FnIndexWatchMatchesCycleModelWrongFalsely : Prop := fnIndexWatchMatchesCycleModelRow.holds Try.pinned (OpenSpec.ofChange fnIndexWatchMatchesCycleModelWrong)

/-- 'zzlaws_internal_sim_b1.FnIndexWatchIgnoresNodeOrder': WHATEVER THE INPUT: true; the input reads as it did. -/
def fnIndexWatchIgnoresNodeOrderSpec : ChangeSpec := { name := "fnIndexWatchIgnoresNodeOrder", fn := fun _ => fun
  | [d1, d2, d3, d4, d5, d6, d7] => { results := [.lit (.bool true)], args := [d1, d2, d3, d4, d5, d6, d7] }
  | _ => none }
def fnIndexWatchIgnoresNodeOrderRow : OpenClaim := { program := "qxb6602526a", sum := "60ee187bfcad60209d938167db42bb98c1d5bb8e139479a7dd0ec6be4d9c5576", func := "example.com/reconvene/reconvene/zzlaws_internal_sim_b1.FnIndexWatchIgnoresNodeOrder", spec := "fnIndexWatchIgnoresNodeOrder", apart := false }
def FnIndexWatchIgnoresNodeOrderSaid : Prop := fnIndexWatchIgnoresNodeOrderRow.holds Try.pinned (OpenSpec.ofChange fnIndexWatchIgnoresNodeOrderSpec)

/-- ITS FALSE NEIGHBOUR: 'it returns false'. Refute it at one input. -/
def fnIndexWatchIgnoresNodeOrderWrong : ChangeSpec := { name := "fnIndexWatchIgnoresNodeOrder", fn := fun _ => fun
  | [d1, d2, d3, d4, d5, d6, d7] => { results := [.lit (.bool false)], args := [d1, d2, d3, d4, d5, d6, d7] }
  | _ => none }
def FnIndexWatchIgnoresNodeOrderWrongFalsely : Prop := fnIndexWatchIgnoresNodeOrderRow.holds Try.pinned (OpenSpec.ofChange fnIndexWatchIgnoresNodeOrderWrong)

/-- 'zzlaws_internal_sim_b1.FnSummaryAddCountsOneInstance': WHATEVER THE INPUT: true; the input reads as it did. -/
def fnSummaryAddCountsOneInstanceSpec : ChangeSpec := { name := "fnSummaryAddCountsOneInstance", fn := fun _ => fun
  | [d1, d2, d3] => { results := [.lit (.bool true)], args := [d1, d2, d3] }
  | _ => none }
def fnSummaryAddCountsOneInstanceRow : OpenClaim := { program := "qxb6602526a", sum := "60ee187bfcad60209d938167db42bb98c1d5bb8e139479a7dd0ec6be4d9c5576", func := "example.com/reconvene/reconvene/zzlaws_internal_sim_b1.FnSummaryAddCountsOneInstance", spec := "fnSummaryAddCountsOneInstance", apart := false }
def FnSummaryAddCountsOneInstanceSaid : Prop := fnSummaryAddCountsOneInstanceRow.holds Try.pinned (OpenSpec.ofChange fnSummaryAddCountsOneInstanceSpec)

/-- ITS FALSE NEIGHBOUR: 'it returns false'. Refute it at one input. -/
def fnSummaryAddCountsOneInstanceWrong : ChangeSpec := { name := "fnSummaryAddCountsOneInstance", fn := fun _ => fun
  | [d1, d2, d3] => { results := [.lit (.bool false)], args := [d1, d2, d3] }
  | _ => none }
def FnSummaryAddCountsOneInstanceWrongFalsely : Prop := fnSummaryAddCountsOneInstanceRow.holds Try.pinned (OpenSpec.ofChange fnSummaryAddCountsOneInstanceWrong)

end Rows
end Go.Proofs.Qxb6602526a
