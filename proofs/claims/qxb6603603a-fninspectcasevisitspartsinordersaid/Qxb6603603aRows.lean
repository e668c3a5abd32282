/-
  No cell of these rows narrows 'for every input' (looked for: loops, veiled, ifaces, maps, wideKeys, modest, calm, conditions, laid).
  DERIVED. THE GIVEN ROWS OF THIS SEAT. 3 by the template 'for every input the law returns true; each argument reads behind the call as it read before'; 0 by the template 'total and deterministic' (their statements: Qxb6603603aTotals.lean).
  GIVEN WITH THE SEED: the statements are not yours to turn. If you find one false, say at which input.
  Laid BY PROGRAM, IN A SANDBOX (cutbox-rows.mjs): the forced cells as the released guide's own fill.sh prints them over the translation 8295b49bba2cbdc6… (all of the seat's roots in one cut). By AI agents, Wed Nov 11 2026. No macro, syntax, notation, axiom, sorry.
-/
import Derived.Test.Qxb6603603aChecked
import GoSem.Claim
import GoSem.ClaimJoined
import GoSem.ClaimMapViews
import Derived.JoinedTies
import Derived.KernelRfl
namespace Go.Proofs.Qxb6603603a
/- THE CELL 'sum', in the pinned program and in every row, IS THE sha256 OF THE DUMP (.gsa) THAT Qxb6603603aProg.lean LOADS. Nothing in Lean hashes anything: it is a label: what it is worth is what the hold of that sum in a sandbox is worth. -/
noncomputable def Try.pinned : Pinned := { name := "qxb6603603a", sum := "8295b49bba2cbdc6f6105a29bfdf828895619a894b5ee154f7a50ff9777aa8dd", checked := Try.checked }
namespace Rows
def none {H : Type} : Left H := { results := [], args := [] }

/-- 'zzlaws_internal_parser_b1.FnInspectLogicalVisitsRootThenTerms': WHATEVER THE INPUT: true; the input reads as it did. -/
def fnInspectLogicalVisitsRootThenTermsSpec : ChangeSpec := { name := "fnInspectLogicalVisitsRootThenTerms", fn := fun _ => fun
  | [d1, d2, d3] => { results := [.lit (.bool true)], args := [d1, d2, d3] }
  | _ => none }
def fnInspectLogicalVisitsRootThenTermsRow : OpenClaim := { program := "qxb6603603a", sum := "8295b49bba2cbdc6f6105a29bfdf828895619a894b5ee154f7a50ff9777aa8dd", func := "example.com/kinship/kinship/zzlaws_internal_parser_b1.FnInspectLogicalVisitsRootThenTerms", spec := "fnInspectLogicalVisitsRootThenTerms", unfollowed := true, recurses := true, apart := false }
def FnInspectLogicalVisitsRootThenTermsSaid : Prop := fnInspectLogicalVisitsRootThenTermsRow.holds Try.pinned (OpenSpec.ofChange fnInspectLogicalVisitsRootThenTermsSpec)

/-- ITS FALSE NEIGHBOUR: 'it returns false'. Refute it at one input. -/
def fnInspectLogicalVisitsRootThenTermsWrong : ChangeSpec := { name := "fnInspectLogicalVisitsRootThenTerms", fn := fun _ => fun
  | [d1, d2, d3] => { results := [.lit (.bool false)], args := [d1, d2, d3] }
  | _ => none }
def FnInspectLogicalVisitsRootThenTermsWrongFalsely : Prop := fnInspectLogicalVisitsRootThenTermsRow.holds Try.pinned (OpenSpec.ofChange fnInspectLogicalVisitsRootThenTermsWrong)

/-- 'zzlaws_internal_parser_b1.FnInspectCaseVisitsPartsInOrder': WHATEVER THE INPUT: true; the input reads as it did. -/
def fnInspectCaseVisitsPartsInOrderSpec : ChangeSpec := { name := "fnInspectCaseVisitsPartsInOrder", fn := fun _ => fun
  | [d1, d2, d3, d4, d5, d6] => { results := [.lit (.bool true)], args := [d1, d2, d3, d4, d5, d6] }
  | _ => none }
def fnInspectCaseVisitsPartsInOrderRow : OpenClaim := { program := "qxb6603603a", sum := "8295b49bba2cbdc6f6105a29bfdf828895619a894b5ee154f7a50ff9777aa8dd", func := "example.com/kinship/kinship/zzlaws_internal_parser_b1.FnInspectCaseVisitsPartsInOrder", spec := "fnInspectCaseVisitsPartsInOrder", unfollowed := true, recurses := true, apart := false }
def FnInspectCaseVisitsPartsInOrderSaid : Prop := fnInspectCaseVisitsPartsInOrderRow.holds Try.pinned (OpenSpec.ofChange fnInspectCaseVisitsPartsInOrderSpec)

/-- ITS FALSE NEIGHBOUR: 'it returns false'. Refute it at one input. -/
def fnInspectCaseVisitsPartsInOrderWrong : ChangeSpec := { name := "fnInspectCaseVisitsPartsInOrder", fn := fun _ => fun
  | [d1, d2, d3, d4, d5, d6] => { results := [.lit (.bool false)], args := [d1, d2, d3, d4, d5, d6] }
  | _ => none }
def FnInspectCaseVisitsPartsInOrderWrongFalsely : Prop := fnInspectCaseVisitsPartsInOrderRow.holds Try.pinned (OpenSpec.ofChange fnInspectCaseVisitsPartsInOrderWrong)

/-- 'zzlaws_internal_parser_b1.FnSkipNumberTailCutsAndRestarts': WHATEVER THE INPUT: true; the input reads as it did. -/
def fnSkipNumberTailCutsAndRestartsSpec : ChangeSpec := { name := "fnSkipNumberTailCutsAndRestarts", fn := fun _ => fun
  | [d1, d2, d3] => { results := [.lit (.bool true)], args := [d1, d2, d3] }
  | _ => none }
def fnSkipNumberTailCutsAndRestartsRow : OpenClaim := { program := "qxb6603603a", sum := "8295b49bba2cbdc6f6105a29bfdf828895619a894b5ee154f7a50ff9777aa8dd", func := "example.com/kinship/kinship/zzlaws_internal_parser_b1.FnSkipNumberTailCutsAndRestarts", spec := "fnSkipNumberTailCutsAndRestarts", apart := false }
def FnSkipNumberTailCutsAndRestartsSaid : Prop := fnSkipNumberTailCutsAndRestartsRow.holds Try.pinned (OpenSpec.ofChange fnSkipNumberTailCutsAndRestartsSpec)

/-- ITS FALSE NEIGHBOUR: 'it returns false'. Refute it at one input. -/
def fnSkipNumberTailCutsAndRestartsWrong : ChangeSpec := { name := "fnSkipNumberTailCutsAndRestarts", fn := fun _ => fun
  | [d1, d2, d3] => { results := [.lit (.bool false)], args := [d1, d2, d3] }
  | _ => none }
def FnSkipNumberTailCutsAndRestartsWrongFalsely : Prop := fnSkipNumberTailCutsAndRestartsRow.holds Try.pinned (OpenSpec.ofChange fnSkipNumberTailCutsAndRestartsWrong)

end Rows
end Go.Proofs.Qxb6603603a
