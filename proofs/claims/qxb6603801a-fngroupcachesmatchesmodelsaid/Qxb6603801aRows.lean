/-
  No cell of these rows narrows 'for every input' (looked for: loops, veiled, ifaces, maps, wideKeys, modest, calm, conditions, laid).
  DERIVED. THE GIVEN ROWS OF THIS SEAT. 3 by the template 'for every input the law returns true; each argument reads behind the call as it read before'; 0 by the template 'total and deterministic' (their statements: Qxb6603801aTotals.lean).
  GIVEN WITH THE SEED: the statements are not yours to turn. If you find one false, say at which input.
  Laid BY PROGRAM, IN A SANDBOX (cutbox-rows.mjs): the forced cells as the released guide's own fill.sh prints them over the translation 7faf24ff31143a28… (all of the seat's roots in one cut). By AI agents, Wed Nov 11 2026. No macro, syntax, notation, axiom, sorry.
-/
import Derived.Test.Qxb6603801aChecked
import GoSem.Claim
import GoSem.ClaimJoined
import GoSem.ClaimMapViews
import Derived.JoinedTies
import Derived.KernelRfl
namespace Go.Proofs.Qxb6603801a
/- THE CELL 'sum', in the pinned program and in every row, IS THE sha256 OF THE DUMP (.gsa) THAT Qxb6603801aProg.lean LOADS. Nothing in Lean hashes anything: it is a label: what it is worth is what the hold of that sum in a sandbox is worth. -/
noncomputable def Try.pinned : Pinned := { name := "qxb6603801a", sum := "7faf24ff31143a289d95877860df56e9c5e5450e2e62b537d4fc0cd47c9c0aff", checked := Try.checked }
namespace Rows
def none {H : Type} : Left H := { results := [], args := [] }

/-- 'zzlaws_root_b1.FnSumSmallestMatchesThresholdModel': WHATEVER THE INPUT: true; the input reads as it did. -/
def fnSumSmallestMatchesThresholdModelSpec : ChangeSpec := { name := "fnSumSmallestMatchesThresholdModel", fn := fun _ => fun
  | [d1, d2, d3] => { results := [.lit (.bool true)], args := [d1, d2, d3] }
  | _ => none }
def fnSumSmallestMatchesThresholdModelRow : OpenClaim := { program := "qxb6603801a", sum := "7faf24ff31143a289d95877860df56e9c5e5450e2e62b537d4fc0cd47c9c0aff", func := "example.com/numalign/numalign/zzlaws_root_b1.FnSumSmallestMatchesThresholdModel", spec := "fnSumSmallestMatchesThresholdModel", plainKeys := false, apart := false }
def FnSumSmallestMatchesThresholdModelSaid : Prop := fnSumSmallestMatchesThresholdModelRow.holds Try.pinned (OpenSpec.ofChange fnSumSmallestMatchesThresholdModelSpec)

/-- ITS FALSE NEIGHBOUR: 'it returns false'. Refute it at one input. -/
def fnSumSmallestMatchesThresholdModelWrong : ChangeSpec := { name := "fnSumSmallestMatchesThresholdModel", fn := fun _ => fun
  | [d1, d2, d3] => { results := [.lit (.bool false)], args := [d1, d2, d3] }
  | _ => none }
def FnSumSmallestMatchesThresholdModelWrongFalsely : Prop := fnSumSmallestMatchesThresholdModelRow.holds Try.pinned (OpenSpec.ofChange fnSumSmallestMatchesThresholdModelWrong)

/-- 'zzlaws_root_b1.FnSumSmallestMarginsNondecreasing': WHATEVER THE INPUT: true; the input reads as it did. -/
def fnSumSmallestMarginsNondecreasingSpec : ChangeSpec := { name := "fnSumSmallestMarginsNondecreasing", fn := fun _ => fun
  | [d1, d2, d3] => { results := [.lit (.bool true)], args := [d1, d2, d3] }
  | _ => none }
def fnSumSmallestMarginsNondecreasingRow : OpenClaim := { program := "qxb6603801a", sum := "7faf24ff31143a289d95877860df56e9c5e5450e2e62b537d4fc0cd47c9c0aff", func := "example.com/numalign/numalign/zzlaws_root_b1.FnSumSmallestMarginsNondecreasing", spec := "fnSumSmallestMarginsNondecreasing", plainKeys := false, apart := false }
def FnSumSmallestMarginsNondecreasingSaid : Prop := fnSumSmallestMarginsNondecreasingRow.holds Try.pinned (OpenSpec.ofChange fnSumSmallestMarginsNondecreasingSpec)

/-- ITS FALSE NEIGHBOUR: 'it returns false'. Refute it at one input. -/
def fnSumSmallestMarginsNondecreasingWrong : ChangeSpec := { name := "fnSumSmallestMarginsNondecreasing", fn := fun _ => fun
  | [d1, d2, d3] => { results := [.lit (.bool false)], args := [d1, d2, d3] }
  | _ => none }
def FnSumSmallestMarginsNondecreasingWrongFalsely : Prop := fnSumSmallestMarginsNondecreasingRow.holds Try.pinned (OpenSpec.ofChange fnSumSmallestMarginsNondecreasingWrong)

/-- 'zzlaws_root_b1.FnGroupCachesMatchesModel': WHATEVER THE INPUT: true; the input reads as it did. -/
def fnGroupCachesMatchesModelSpec : ChangeSpec := { name := "fnGroupCachesMatchesModel", fn := fun _ => fun
  | [d1, d2, d3, d4, d5, d6] => { results := [.lit (.bool true)], args := [d1, d2, d3, d4, d5, d6] }
  | _ => none }
def fnGroupCachesMatchesModelRow : OpenClaim := { program := "qxb6603801a", sum := "7faf24ff31143a289d95877860df56e9c5e5450e2e62b537d4fc0cd47c9c0aff", func := "example.com/numalign/numalign/zzlaws_root_b1.FnGroupCachesMatchesModel", spec := "fnGroupCachesMatchesModel", plainKeys := false, apart := false }
def FnGroupCachesMatchesModelSaid : Prop := fnGroupCachesMatchesModelRow.holds Try.pinned (OpenSpec.ofChange fnGroupCachesMatchesModelSpec)

/-- ITS FALSE NEIGHBOUR: 'it returns false'. Refute it at one input. -/
def fnGroupCachesMatchesModelWrong : ChangeSpec := { name := "fnGroupCachesMatchesModel", fn := fun _ => fun
  | [d1, d2, d3, d4, d5, d6] => { results := [.lit (.bool false)], args := [d1, d2, d3, d4, d5, d6] }
  | _ => none }
def FnGroupCachesMatchesModelWrongFalsely : Prop := fnGroupCachesMatchesModelRow.holds Try.pinned (OpenSpec.ofChange fnGroupCachesMatchesModelWrong)

end Rows
end Go.Proofs.Qxb6603801a
