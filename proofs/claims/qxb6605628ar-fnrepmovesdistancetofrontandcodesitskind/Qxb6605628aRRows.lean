/-
  No cell of these rows narrows 'for every input' (looked for: loops, veiled, ifaces, maps, wideKeys, modest, calm, conditions, laid).
  DERIVED. THE GIVEN ROWS OF THIS SEAT. 4 by the template 'for every input the law returns true; each argument reads behind the call as it read before'; 0 by the template 'total and deterministic' (their statements: Qxb6605628aRTotals.lean).
  GIVEN WITH THE SEED: the statements are not yours to turn. If you find one false, say at which input.
  Laid BY PROGRAM, IN A SANDBOX (cutbox-rows.mjs): the forced cells as the released guide's own fill.sh prints them over the translation 30091cae3cf0984a… (all of the seat's roots in one cut). By AI agents, Wed Nov 11 2026. No macro, syntax, notation, axiom, sorry.
-/
import Derived.Test.Qxb6605628aRChecked
import GoSem.Claim
import GoSem.ClaimJoined
import GoSem.ClaimMapViews
import Derived.JoinedTies
import Derived.KernelRfl
namespace Go.Proofs.Qxb6605628aR
/- THE CELL 'sum', in the pinned program and in every row, IS THE sha256 OF THE DUMP (.gsa) THAT Qxb6605628aRProg.lean LOADS. Nothing in Lean hashes anything: it is a label: what it is worth is what the hold of that sum in a sandbox is worth. -/
noncomputable def Try.pinned : Pinned := { name := "qxb6605628ar", sum := "30091cae3cf0984ad09d7295468acc30e042e21c2ca10853b1db0590d4f5e41e", checked := Try.checked }
namespace Rows
def none {H : Type} : Left H := { results := [], args := [] }

/-- 'zzlaws_internal_xz_b1.FnRepMovesDistanceToFrontAndCodesItsKind': WHATEVER THE INPUT: true; the input reads as it did. -/
def fnRepMovesDistanceToFrontAndCodesItsKindSpec : ChangeSpec := { name := "fnRepMovesDistanceToFrontAndCodesItsKind", fn := fun _ => fun
  | [d1, d2, d3, d4, d5, d6, d7, d8, d9, d10] => { results := [.lit (.bool true)], args := [d1, d2, d3, d4, d5, d6, d7, d8, d9, d10] }
  | _ => none }
def fnRepMovesDistanceToFrontAndCodesItsKindRow : OpenClaim := { program := "qxb6605628ar", sum := "30091cae3cf0984ad09d7295468acc30e042e21c2ca10853b1db0590d4f5e41e", func := "example.com/kistwright/kistwright/zzlaws_internal_xz_b1.FnRepMovesDistanceToFrontAndCodesItsKind", spec := "fnRepMovesDistanceToFrontAndCodesItsKind", apart := false }
def FnRepMovesDistanceToFrontAndCodesItsKindSaid : Prop := fnRepMovesDistanceToFrontAndCodesItsKindRow.holds Try.pinned (OpenSpec.ofChange fnRepMovesDistanceToFrontAndCodesItsKindSpec)

/-- ITS FALSE NEIGHBOUR: 'it returns false'. Refute it at one input. -/
def fnRepMovesDistanceToFrontAndCodesItsKindWrong : ChangeSpec := { name := "fnRepMovesDistanceToFrontAndCodesItsKind", fn := fun _ => fun
  | [d1, d2, d3, d4, d5, d6, d7, d8, d9, d10] => { results := [.lit (.bool false)], args := [d1, d2, d3, d4, d5, d6, d7, d8, d9, d10] }
  | _ => none }
def FnRepMovesDistanceToFrontAndCodesItsKindWrongFalsely : Prop := fnRepMovesDistanceToFrontAndCodesItsKindRow.holds Try.pinned (OpenSpec.ofChange fnRepMovesDistanceToFrontAndCodesItsKindWrong)

/-- 'zzlaws_internal_xz_b1.FnRepScriptKeepsRecentDistances': WHATEVER THE INPUT: true; the input reads as it did. -/
def fnRepScriptKeepsRecentDistancesSpec : ChangeSpec := { name := "fnRepScriptKeepsRecentDistances", fn := fun _ => fun
  | [d1, d2, d3] => { results := [.lit (.bool true)], args := [d1, d2, d3] }
  | _ => none }
def fnRepScriptKeepsRecentDistancesRow : OpenClaim := { program := "qxb6605628ar", sum := "30091cae3cf0984ad09d7295468acc30e042e21c2ca10853b1db0590d4f5e41e", func := "example.com/kistwright/kistwright/zzlaws_internal_xz_b1.FnRepScriptKeepsRecentDistances", spec := "fnRepScriptKeepsRecentDistances", apart := false }
def FnRepScriptKeepsRecentDistancesSaid : Prop := fnRepScriptKeepsRecentDistancesRow.holds Try.pinned (OpenSpec.ofChange fnRepScriptKeepsRecentDistancesSpec)

/-- ITS FALSE NEIGHBOUR: 'it returns false'. Refute it at one input. -/
def fnRepScriptKeepsRecentDistancesWrong : ChangeSpec := { name := "fnRepScriptKeepsRecentDistances", fn := fun _ => fun
  | [d1, d2, d3] => { results := [.lit (.bool false)], args := [d1, d2, d3] }
  | _ => none }
def FnRepScriptKeepsRecentDistancesWrongFalsely : Prop := fnRepScriptKeepsRecentDistancesRow.holds Try.pinned (OpenSpec.ofChange fnRepScriptKeepsRecentDistancesWrong)

/-- 'zzlaws_internal_xz_b1.FnNewWindowsShareNoTables': WHATEVER THE INPUT: true; the input reads as it did. -/
def fnNewWindowsShareNoTablesSpec : ChangeSpec := { name := "fnNewWindowsShareNoTables", fn := fun _ => fun
  | [] => { results := [.lit (.bool true)], args := [] }
  | _ => none }
def fnNewWindowsShareNoTablesRow : OpenClaim := { program := "qxb6605628ar", sum := "30091cae3cf0984ad09d7295468acc30e042e21c2ca10853b1db0590d4f5e41e", func := "example.com/kistwright/kistwright/zzlaws_internal_xz_b1.FnNewWindowsShareNoTables", spec := "fnNewWindowsShareNoTables", apart := false }
def FnNewWindowsShareNoTablesSaid : Prop := fnNewWindowsShareNoTablesRow.holds Try.pinned (OpenSpec.ofChange fnNewWindowsShareNoTablesSpec)

/-- ITS FALSE NEIGHBOUR: 'it returns false'. Refute it at one input. -/
def fnNewWindowsShareNoTablesWrong : ChangeSpec := { name := "fnNewWindowsShareNoTables", fn := fun _ => fun
  | [] => { results := [.lit (.bool false)], args := [] }
  | _ => none }
def FnNewWindowsShareNoTablesWrongFalsely : Prop := fnNewWindowsShareNoTablesRow.holds Try.pinned (OpenSpec.ofChange fnNewWindowsShareNoTablesWrong)

/-- 'zzlaws_internal_xz_b1.FnResetStreamBeginsWithZeroByte': WHATEVER THE INPUT: true; the input reads as it did. -/
def fnResetStreamBeginsWithZeroByteSpec : ChangeSpec := { name := "fnResetStreamBeginsWithZeroByte", fn := fun _ => fun
  | [d1, d2, d3, d4, d5, d6] => { results := [.lit (.bool true)], args := [d1, d2, d3, d4, d5, d6] }
  | _ => none }
def fnResetStreamBeginsWithZeroByteRow : OpenClaim := { program := "qxb6605628ar", sum := "30091cae3cf0984ad09d7295468acc30e042e21c2ca10853b1db0590d4f5e41e", func := "example.com/kistwright/kistwright/zzlaws_internal_xz_b1.FnResetStreamBeginsWithZeroByte", spec := "fnResetStreamBeginsWithZeroByte", apart := false }
def FnResetStreamBeginsWithZeroByteSaid : Prop := fnResetStreamBeginsWithZeroByteRow.holds Try.pinned (OpenSpec.ofChange fnResetStreamBeginsWithZeroByteSpec)

/-- ITS FALSE NEIGHBOUR: 'it returns false'. Refute it at one input. -/
def fnResetStreamBeginsWithZeroByteWrong : ChangeSpec := { name := "fnResetStreamBeginsWithZeroByte", fn := fun _ => fun
  | [d1, d2, d3, d4, d5, d6] => { results := [.lit (.bool false)], args := [d1, d2, d3, d4, d5, d6] }
  | _ => none }
def FnResetStreamBeginsWithZeroByteWrongFalsely : Prop := fnResetStreamBeginsWithZeroByteRow.holds Try.pinned (OpenSpec.ofChange fnResetStreamBeginsWithZeroByteWrong)

end Rows
end Go.Proofs.Qxb6605628aR
