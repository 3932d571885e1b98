/-
  No cell of these rows narrows 'for every input' (looked for: loops, veiled, ifaces, maps, wideKeys, modest, calm, conditions, laid).
  DERIVED. THE GIVEN ROWS OF THIS SEAT. 3 by the template 'for every input the law returns true; each argument reads behind the call as it read before'; 0 by the template 'total and deterministic' (their statements: Qxb6605627aTotals.lean).
  GIVEN WITH THE SEED: the statements are not yours to turn. If you find one false, say at which input.
  Laid BY PROGRAM, IN A SANDBOX (cutbox-rows.mjs): the forced cells as the released guide's own fill.sh prints them over the translation aa3934af656ea406… (all of the seat's roots in one cut). By AI agents, Wed Nov 11 2026. No macro, syntax, notation, axiom, sorry.
-/
import Derived.Test.Qxb6605627aChecked
import GoSem.Claim
import GoSem.ClaimJoined
import GoSem.ClaimMapViews
import Derived.JoinedTies
import Derived.KernelRfl
namespace Go.Proofs.Qxb6605627a
/- THE CELL 'sum', in the pinned program and in every row, IS THE sha256 OF THE DUMP (.gsa) THAT Qxb6605627aProg.lean LOADS. Nothing in Lean hashes anything: it is a label: what it is worth is what the hold of that sum in a sandbox is worth. -/
noncomputable def Try.pinned : Pinned := { name := "qxb6605627a", sum := "aa3934af656ea406efccc4a53807048192e402ba7407cd515599d4b0dd64609f", checked := Try.checked }
namespace Rows
def none {H : Type} : Left H := { results := [], args := [] }

/-- 'zzlaws_internal_ruleset_b1.FnTranslationPartsExactUnion': WHATEVER THE INPUT: true; the input reads as it did. -/
def fnTranslationPartsExactUnionSpec : ChangeSpec := { name := "fnTranslationPartsExactUnion", fn := fun _ => fun
  | [] => { results := [.lit (.bool true)], args := [] }
  | _ => none }
def fnTranslationPartsExactUnionRow : OpenClaim := { program := "qxb6605627a", sum := "aa3934af656ea406efccc4a53807048192e402ba7407cd515599d4b0dd64609f", func := "example.com/ridgeback/ridgeback/zzlaws_internal_ruleset_b1.FnTranslationPartsExactUnion", spec := "fnTranslationPartsExactUnion", apart := false }
def FnTranslationPartsExactUnionSaid : Prop := fnTranslationPartsExactUnionRow.holds Try.pinned (OpenSpec.ofChange fnTranslationPartsExactUnionSpec)

/-- ITS FALSE NEIGHBOUR: 'it returns false'. Refute it at one input. -/
def fnTranslationPartsExactUnionWrong : ChangeSpec := { name := "fnTranslationPartsExactUnion", fn := fun _ => fun
  | [] => { results := [.lit (.bool false)], args := [] }
  | _ => none }
def FnTranslationPartsExactUnionWrongFalsely : Prop := fnTranslationPartsExactUnionRow.holds Try.pinned (OpenSpec.ofChange fnTranslationPartsExactUnionWrong)

/-- 'zzlaws_internal_ruleset_b1.FnVXLANInputChainDropsExactlyOutsiders': WHATEVER THE INPUT: true; the input reads as it did. -/
def fnVXLANInputChainDropsExactlyOutsidersSpec : ChangeSpec := { name := "fnVXLANInputChainDropsExactlyOutsiders", fn := fun _ => fun
  | [d1, d2, d3, d4, d5] => { results := [.lit (.bool true)], args := [d1, d2, d3, d4, d5] }
  | _ => none }
def fnVXLANInputChainDropsExactlyOutsidersRow : OpenClaim := { program := "qxb6605627a", sum := "aa3934af656ea406efccc4a53807048192e402ba7407cd515599d4b0dd64609f", func := "example.com/ridgeback/ridgeback/zzlaws_internal_ruleset_b1.FnVXLANInputChainDropsExactlyOutsiders", spec := "fnVXLANInputChainDropsExactlyOutsiders", apart := false }
def FnVXLANInputChainDropsExactlyOutsidersSaid : Prop := fnVXLANInputChainDropsExactlyOutsidersRow.holds Try.pinned (OpenSpec.ofChange fnVXLANInputChainDropsExactlyOutsidersSpec)

/-- ITS FALSE NEIGHBOUR: 'it returns false'. Refute it at one input. -/
def fnVXLANInputChainDropsExactlyOutsidersWrong : ChangeSpec := { name := "fnVXLANInputChainDropsExactlyOutsiders", fn := fun _ => fun
  | [d1, d2, d3, d4, d5] => { results := [.lit (.bool false)], args := [d1, d2, d3, d4, d5] }
  | _ => none }
def FnVXLANInputChainDropsExactlyOutsidersWrongFalsely : Prop := fnVXLANInputChainDropsExactlyOutsidersRow.holds Try.pinned (OpenSpec.ofChange fnVXLANInputChainDropsExactlyOutsidersWrong)

/-- 'zzlaws_internal_ruleset_b1.FnVXLANInputChainPortOnlyAndPeersNamed': WHATEVER THE INPUT: true; the input reads as it did. -/
def fnVXLANInputChainPortOnlyAndPeersNamedSpec : ChangeSpec := { name := "fnVXLANInputChainPortOnlyAndPeersNamed", fn := fun _ => fun
  | [d1, d2] => { results := [.lit (.bool true)], args := [d1, d2] }
  | _ => none }
def fnVXLANInputChainPortOnlyAndPeersNamedRow : OpenClaim := { program := "qxb6605627a", sum := "aa3934af656ea406efccc4a53807048192e402ba7407cd515599d4b0dd64609f", func := "example.com/ridgeback/ridgeback/zzlaws_internal_ruleset_b1.FnVXLANInputChainPortOnlyAndPeersNamed", spec := "fnVXLANInputChainPortOnlyAndPeersNamed", apart := false }
def FnVXLANInputChainPortOnlyAndPeersNamedSaid : Prop := fnVXLANInputChainPortOnlyAndPeersNamedRow.holds Try.pinned (OpenSpec.ofChange fnVXLANInputChainPortOnlyAndPeersNamedSpec)

/-- ITS FALSE NEIGHBOUR: 'it returns false'. Refute it at one input. -/
def fnVXLANInputChainPortOnlyAndPeersNamedWrong : ChangeSpec := { name := "fnVXLANInputChainPortOnlyAndPeersNamed", fn := fun _ => fun
  | [d1, d2] => { results := [.lit (.bool false)], args := [d1, d2] }
  | _ => none }
def FnVXLANInputChainPortOnlyAndPeersNamedWrongFalsely : Prop := fnVXLANInputChainPortOnlyAndPeersNamedRow.holds Try.pinned (OpenSpec.ofChange fnVXLANInputChainPortOnlyAndPeersNamedWrong)

end Rows
end Go.Proofs.Qxb6605627a
