/-
  No cell of these rows narrows 'for every input' (looked for: loops, veiled, ifaces, maps, wideKeys, modest, calm, conditions, laid).
  DERIVED. THE GIVEN ROWS OF THIS SEAT. 3 by the template 'for every input the law returns true; each argument reads behind the call as it read before'; 0 by the template 'total and deterministic' (their statements: Qxb6602448aTotals.lean).
  GIVEN WITH THE SEED: the statements are not yours to turn. If you find one false, say at which input.
  Laid BY PROGRAM, IN A SANDBOX (cutbox-rows.mjs): the forced cells as the released guide's own fill.sh prints them over the translation 482eb709ed22413b… (all of the seat's roots in one cut). By AI agents, Wed Nov 11 2026. No macro, syntax, notation, axiom, sorry.
-/
import Derived.Test.Qxb6602448aChecked
import GoSem.Claim
import GoSem.ClaimJoined
import GoSem.ClaimMapViews
import Derived.JoinedTies
import Derived.KernelRfl
namespace Go.Proofs.Qxb6602448a
/- THE CELL 'sum', in the pinned program and in every row, IS THE sha256 OF THE DUMP (.gsa) THAT Qxb6602448aProg.lean LOADS. Nothing in Lean hashes anything: it is a label: what it is worth is what the hold of that sum in a sandbox is worth. -/
noncomputable def Try.pinned : Pinned := { name := "qxb6602448a", sum := "482eb709ed22413b7a0ce37ab0557a08cfd653e0889bff8772f1458025f366bc", checked := Try.checked }
namespace Rows
def none {H : Type} : Left H := { results := [], args := [] }

/-- 'zzlaws_internal_exactjson_b1.FnScanNumberMatchesAutomaton': WHATEVER THE INPUT: true; the input reads as it did. -/
def fnScanNumberMatchesAutomatonSpec : ChangeSpec := { name := "fnScanNumberMatchesAutomaton", fn := fun _ => fun
  | [d1, d2] => { results := [.lit (.bool true)], args := [d1, d2] }
  | _ => none }
def fnScanNumberMatchesAutomatonRow : OpenClaim := { program := "qxb6602448a", sum := "482eb709ed22413b7a0ce37ab0557a08cfd653e0889bff8772f1458025f366bc", func := "example.com/postbag/postbag/zzlaws_internal_exactjson_b1.FnScanNumberMatchesAutomaton", spec := "fnScanNumberMatchesAutomaton", apart := false }
def FnScanNumberMatchesAutomatonSaid : Prop := fnScanNumberMatchesAutomatonRow.holds Try.pinned (OpenSpec.ofChange fnScanNumberMatchesAutomatonSpec)

/-- ITS FALSE NEIGHBOUR: 'it returns false'. Refute it at one input. -/
def fnScanNumberMatchesAutomatonWrong : ChangeSpec := { name := "fnScanNumberMatchesAutomaton", fn := fun _ => fun
  | [d1, d2] => { results := [.lit (.bool false)], args := [d1, d2] }
  | _ => none }
def FnScanNumberMatchesAutomatonWrongFalsely : Prop := fnScanNumberMatchesAutomatonRow.holds Try.pinned (OpenSpec.ofChange fnScanNumberMatchesAutomatonWrong)

/-- 'zzlaws_internal_exactjson_b1.FnScanNumberShiftInvariant': WHATEVER THE INPUT: true; the input reads as it did. -/
def fnScanNumberShiftInvariantSpec : ChangeSpec := { name := "fnScanNumberShiftInvariant", fn := fun _ => fun
  | [d1, d2] => { results := [.lit (.bool true)], args := [d1, d2] }
  | _ => none }
def fnScanNumberShiftInvariantRow : OpenClaim := { program := "qxb6602448a", sum := "482eb709ed22413b7a0ce37ab0557a08cfd653e0889bff8772f1458025f366bc", func := "example.com/postbag/postbag/zzlaws_internal_exactjson_b1.FnScanNumberShiftInvariant", spec := "fnScanNumberShiftInvariant", apart := false }
def FnScanNumberShiftInvariantSaid : Prop := fnScanNumberShiftInvariantRow.holds Try.pinned (OpenSpec.ofChange fnScanNumberShiftInvariantSpec)

/-- ITS FALSE NEIGHBOUR: 'it returns false'. Refute it at one input. -/
def fnScanNumberShiftInvariantWrong : ChangeSpec := { name := "fnScanNumberShiftInvariant", fn := fun _ => fun
  | [d1, d2] => { results := [.lit (.bool false)], args := [d1, d2] }
  | _ => none }
def FnScanNumberShiftInvariantWrongFalsely : Prop := fnScanNumberShiftInvariantRow.holds Try.pinned (OpenSpec.ofChange fnScanNumberShiftInvariantWrong)

/-- 'zzlaws_internal_exactjson_b1.FnScanNumberEndInRangeAndStable': WHATEVER THE INPUT: true; the input reads as it did. -/
def fnScanNumberEndInRangeAndStableSpec : ChangeSpec := { name := "fnScanNumberEndInRangeAndStable", fn := fun _ => fun
  | [d1, d2] => { results := [.lit (.bool true)], args := [d1, d2] }
  | _ => none }
def fnScanNumberEndInRangeAndStableRow : OpenClaim := { program := "qxb6602448a", sum := "482eb709ed22413b7a0ce37ab0557a08cfd653e0889bff8772f1458025f366bc", func := "example.com/postbag/postbag/zzlaws_internal_exactjson_b1.FnScanNumberEndInRangeAndStable", spec := "fnScanNumberEndInRangeAndStable", apart := false }
def FnScanNumberEndInRangeAndStableSaid : Prop := fnScanNumberEndInRangeAndStableRow.holds Try.pinned (OpenSpec.ofChange fnScanNumberEndInRangeAndStableSpec)

/-- ITS FALSE NEIGHBOUR: 'it returns false'. Refute it at one input. -/
def fnScanNumberEndInRangeAndStableWrong : ChangeSpec := { name := "fnScanNumberEndInRangeAndStable", fn := fun _ => fun
  | [d1, d2] => { results := [.lit (.bool false)], args := [d1, d2] }
  | _ => none }
def FnScanNumberEndInRangeAndStableWrongFalsely : Prop := fnScanNumberEndInRangeAndStableRow.holds Try.pinned (OpenSpec.ofChange fnScanNumberEndInRangeAndStableWrong)

end Rows
end Go.Proofs.Qxb6602448a
