/-
  No cell of these rows narrows 'for every input' (looked for: loops, veiled, ifaces, maps, wideKeys, modest, calm, conditions, laid).
  DERIVED. THE GIVEN ROWS OF THIS SEAT. 6 by the template 'for every input the law returns true; each argument reads behind the call as it read before'; 0 by the template 'total and deterministic' (their statements: Qxb6605658aTotals.lean).
  GIVEN WITH THE SEED: the statements are not yours to turn. If you find one false, say at which input.
  Laid BY PROGRAM, IN A SANDBOX (cutbox-rows.mjs): the forced cells as the released guide's own fill.sh prints them over the translation f9e19e567d757b35… (all of the seat's roots in one cut). By AI agents, Wed Nov 11 2026. No macro, syntax, notation, axiom, sorry.
-/
import Derived.Test.Qxb6605658aChecked
import GoSem.Claim
import GoSem.ClaimJoined
import GoSem.ClaimMapViews
import Derived.JoinedTies
import Derived.KernelRfl
namespace Go.Proofs.Qxb6605658a
/- THE CELL 'sum', in the pinned program and in every row, IS THE sha256 OF THE DUMP (.gsa) THAT Qxb6605658aProg.lean LOADS. Nothing in Lean hashes anything: it is a label: what it is worth is what the hold of that sum in a sandbox is worth. -/
noncomputable def Try.pinned : Pinned := { name := "qxb6605658a", sum := "f9e19e567d757b35194ec3bd82a3824f79bf6b9a7c79e3ea461489a140ae794e", checked := Try.checked }
namespace Rows
def none {H : Type} : Left H := { results := [], args := [] }

/-- 'zzlaws_records_b1.FnHasControlAgreesWithRuneScan': WHATEVER THE INPUT: true; the input reads as it did. -/
def fnHasControlAgreesWithRuneScanSpec : ChangeSpec := { name := "fnHasControlAgreesWithRuneScan", fn := fun _ => fun
  | [d] => { results := [.lit (.bool true)], args := [d] }
  | _ => none }
def fnHasControlAgreesWithRuneScanRow : OpenClaim := { program := "qxb6605658a", sum := "f9e19e567d757b35194ec3bd82a3824f79bf6b9a7c79e3ea461489a140ae794e", func := "example.com/nameward/nameward/zzlaws_records_b1.FnHasControlAgreesWithRuneScan", spec := "fnHasControlAgreesWithRuneScan", apart := false }
def FnHasControlAgreesWithRuneScanSaid : Prop := fnHasControlAgreesWithRuneScanRow.holds Try.pinned (OpenSpec.ofChange fnHasControlAgreesWithRuneScanSpec)

/-- ITS FALSE NEIGHBOUR: 'it returns false'. Refute it at one input. -/
def fnHasControlAgreesWithRuneScanWrong : ChangeSpec := { name := "fnHasControlAgreesWithRuneScan", fn := fun _ => fun
  | [d] => { results := [.lit (.bool false)], args := [d] }
  | _ => none }
def FnHasControlAgreesWithRuneScanWrongFalsely : Prop := fnHasControlAgreesWithRuneScanRow.holds Try.pinned (OpenSpec.ofChange fnHasControlAgreesWithRuneScanWrong)

/-- 'zzlaws_records_b1.FnHasControlConcatAndInsert': WHATEVER THE INPUT: true; the input reads as it did. -/
def fnHasControlConcatAndInsertSpec : ChangeSpec := { name := "fnHasControlConcatAndInsert", fn := fun _ => fun
  | [d1, d2] => { results := [.lit (.bool true)], args := [d1, d2] }
  | _ => none }
def fnHasControlConcatAndInsertRow : OpenClaim := { program := "qxb6605658a", sum := "f9e19e567d757b35194ec3bd82a3824f79bf6b9a7c79e3ea461489a140ae794e", func := "example.com/nameward/nameward/zzlaws_records_b1.FnHasControlConcatAndInsert", spec := "fnHasControlConcatAndInsert", apart := false }
def FnHasControlConcatAndInsertSaid : Prop := fnHasControlConcatAndInsertRow.holds Try.pinned (OpenSpec.ofChange fnHasControlConcatAndInsertSpec)

/-- ITS FALSE NEIGHBOUR: 'it returns false'. Refute it at one input. -/
def fnHasControlConcatAndInsertWrong : ChangeSpec := { name := "fnHasControlConcatAndInsert", fn := fun _ => fun
  | [d1, d2] => { results := [.lit (.bool false)], args := [d1, d2] }
  | _ => none }
def FnHasControlConcatAndInsertWrongFalsely : Prop := fnHasControlConcatAndInsertRow.holds Try.pinned (OpenSpec.ofChange fnHasControlConcatAndInsertWrong)

/-- 'zzlaws_records_b1.FnLookupAgreesWithForwardScan': WHATEVER THE INPUT: true; the input reads as it did. -/
def fnLookupAgreesWithForwardScanSpec : ChangeSpec := { name := "fnLookupAgreesWithForwardScan", fn := fun _ => fun
  | [d1, d2, d3] => { results := [.lit (.bool true)], args := [d1, d2, d3] }
  | _ => none }
def fnLookupAgreesWithForwardScanRow : OpenClaim := { program := "qxb6605658a", sum := "f9e19e567d757b35194ec3bd82a3824f79bf6b9a7c79e3ea461489a140ae794e", func := "example.com/nameward/nameward/zzlaws_records_b1.FnLookupAgreesWithForwardScan", spec := "fnLookupAgreesWithForwardScan", apart := false }
def FnLookupAgreesWithForwardScanSaid : Prop := fnLookupAgreesWithForwardScanRow.holds Try.pinned (OpenSpec.ofChange fnLookupAgreesWithForwardScanSpec)

/-- ITS FALSE NEIGHBOUR: 'it returns false'. Refute it at one input. -/
def fnLookupAgreesWithForwardScanWrong : ChangeSpec := { name := "fnLookupAgreesWithForwardScan", fn := fun _ => fun
  | [d1, d2, d3] => { results := [.lit (.bool false)], args := [d1, d2, d3] }
  | _ => none }
def FnLookupAgreesWithForwardScanWrongFalsely : Prop := fnLookupAgreesWithForwardScanRow.holds Try.pinned (OpenSpec.ofChange fnLookupAgreesWithForwardScanWrong)

/-- 'zzlaws_records_b1.FnLookupLaterMemberShadows': WHATEVER THE INPUT: true; the input reads as it did. -/
def fnLookupLaterMemberShadowsSpec : ChangeSpec := { name := "fnLookupLaterMemberShadows", fn := fun _ => fun
  | [d1, d2, d3, d4, d5] => { results := [.lit (.bool true)], args := [d1, d2, d3, d4, d5] }
  | _ => none }
def fnLookupLaterMemberShadowsRow : OpenClaim := { program := "qxb6605658a", sum := "f9e19e567d757b35194ec3bd82a3824f79bf6b9a7c79e3ea461489a140ae794e", func := "example.com/nameward/nameward/zzlaws_records_b1.FnLookupLaterMemberShadows", spec := "fnLookupLaterMemberShadows", apart := false }
def FnLookupLaterMemberShadowsSaid : Prop := fnLookupLaterMemberShadowsRow.holds Try.pinned (OpenSpec.ofChange fnLookupLaterMemberShadowsSpec)

/-- ITS FALSE NEIGHBOUR: 'it returns false'. Refute it at one input. -/
def fnLookupLaterMemberShadowsWrong : ChangeSpec := { name := "fnLookupLaterMemberShadows", fn := fun _ => fun
  | [d1, d2, d3, d4, d5] => { results := [.lit (.bool false)], args := [d1, d2, d3, d4, d5] }
  | _ => none }
def FnLookupLaterMemberShadowsWrongFalsely : Prop := fnLookupLaterMemberShadowsRow.holds Try.pinned (OpenSpec.ofChange fnLookupLaterMemberShadowsWrong)

/-- 'zzlaws_records_b1.FnSampleRandIntnInvertsToState': WHATEVER THE INPUT: true; the input reads as it did. -/
def fnSampleRandIntnInvertsToStateSpec : ChangeSpec := { name := "fnSampleRandIntnInvertsToState", fn := fun _ => fun
  | [d1, d2] => { results := [.lit (.bool true)], args := [d1, d2] }
  | _ => none }
def fnSampleRandIntnInvertsToStateRow : OpenClaim := { program := "qxb6605658a", sum := "f9e19e567d757b35194ec3bd82a3824f79bf6b9a7c79e3ea461489a140ae794e", func := "example.com/nameward/nameward/zzlaws_records_b1.FnSampleRandIntnInvertsToState", spec := "fnSampleRandIntnInvertsToState", apart := false }
def FnSampleRandIntnInvertsToStateSaid : Prop := fnSampleRandIntnInvertsToStateRow.holds Try.pinned (OpenSpec.ofChange fnSampleRandIntnInvertsToStateSpec)

/-- ITS FALSE NEIGHBOUR: 'it returns false'. Refute it at one input. -/
def fnSampleRandIntnInvertsToStateWrong : ChangeSpec := { name := "fnSampleRandIntnInvertsToState", fn := fun _ => fun
  | [d1, d2] => { results := [.lit (.bool false)], args := [d1, d2] }
  | _ => none }
def FnSampleRandIntnInvertsToStateWrongFalsely : Prop := fnSampleRandIntnInvertsToStateRow.holds Try.pinned (OpenSpec.ofChange fnSampleRandIntnInvertsToStateWrong)

/-- 'zzlaws_records_b1.FnSampleRandIntnStreamScript': WHATEVER THE INPUT: true; the input reads as it did. -/
def fnSampleRandIntnStreamScriptSpec : ChangeSpec := { name := "fnSampleRandIntnStreamScript", fn := fun _ => fun
  | [d1, d2, d3] => { results := [.lit (.bool true)], args := [d1, d2, d3] }
  | _ => none }
def fnSampleRandIntnStreamScriptRow : OpenClaim := { program := "qxb6605658a", sum := "f9e19e567d757b35194ec3bd82a3824f79bf6b9a7c79e3ea461489a140ae794e", func := "example.com/nameward/nameward/zzlaws_records_b1.FnSampleRandIntnStreamScript", spec := "fnSampleRandIntnStreamScript", apart := false }
def FnSampleRandIntnStreamScriptSaid : Prop := fnSampleRandIntnStreamScriptRow.holds Try.pinned (OpenSpec.ofChange fnSampleRandIntnStreamScriptSpec)

/-- ITS FALSE NEIGHBOUR: 'it returns false'. Refute it at one input. -/
def fnSampleRandIntnStreamScriptWrong : ChangeSpec := { name := "fnSampleRandIntnStreamScript", fn := fun _ => fun
  | [d1, d2, d3] => { results := [.lit (.bool false)], args := [d1, d2, d3] }
  | _ => none }
def FnSampleRandIntnStreamScriptWrongFalsely : Prop := fnSampleRandIntnStreamScriptRow.holds Try.pinned (OpenSpec.ofChange fnSampleRandIntnStreamScriptWrong)

end Rows
end Go.Proofs.Qxb6605658a
