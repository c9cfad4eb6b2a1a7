/-
  No cell of these rows narrows 'for every input' (looked for: loops, veiled, ifaces, maps, wideKeys, modest, calm, conditions, laid).
  DERIVED. THE GIVEN ROWS OF THIS SEAT. 5 by the template 'for every input the law returns true; each argument reads behind the call as it read before'; 0 by the template 'total and deterministic' (their statements: Qxb6617949aTotals.lean).
  GIVEN WITH THE SEED: the statements are not yours to turn. If you find one false, say at which input.
  Laid BY PROGRAM, IN A SANDBOX (cutbox-rows.mjs): the forced cells as the released guide's own fill.sh prints them over the translation c5f44d8628f64ad7… (all of the seat's roots in one cut). By AI agents, Wed Nov 11 2026. No macro, syntax, notation, axiom, sorry.
-/
import Derived.Test.Qxb6617949aChecked
import GoSem.Claim
import GoSem.ClaimJoined
import GoSem.ClaimMapViews
import Derived.JoinedTies
import Derived.KernelRfl
namespace Go.Proofs.Qxb6617949a
/- THE CELL 'sum', in the pinned program and in every row, IS THE sha256 OF THE DUMP (.gsa) THAT Qxb6617949aProg.lean LOADS. Nothing in Lean hashes anything: it is a label: what it is worth is what the hold of that sum in a sandbox is worth. -/
noncomputable def Try.pinned : Pinned := { name := "qxb6617949a", sum := "c5f44d8628f64ad7aa711f773cf66fdf7221e274a6c25f60c83217ab529a3082", checked := Try.checked }
namespace Rows
def none {H : Type} : Left H := { results := [], args := [] }

/-- 'zzlaws_internal_tracker_b1.FnUnionIsTheSetUnion': WHATEVER THE INPUT: true; the input reads as it did. -/
def fnUnionIsTheSetUnionSpec : ChangeSpec := { name := "fnUnionIsTheSetUnion", fn := fun _ => fun
  | [d1, d2, d3, d4] => { results := [.lit (.bool true)], args := [d1, d2, d3, d4] }
  | _ => none }
def fnUnionIsTheSetUnionRow : OpenClaim := { program := "qxb6617949a", sum := "c5f44d8628f64ad7aa711f773cf66fdf7221e274a6c25f60c83217ab529a3082", func := "example.com/peerstash/peerstash/zzlaws_internal_tracker_b1.FnUnionIsTheSetUnion", spec := "fnUnionIsTheSetUnion", apart := false }
def FnUnionIsTheSetUnionSaid : Prop := fnUnionIsTheSetUnionRow.holds Try.pinned (OpenSpec.ofChange fnUnionIsTheSetUnionSpec)

/-- ITS FALSE NEIGHBOUR: 'it returns false'. Refute it at one input. -/
def fnUnionIsTheSetUnionWrong : ChangeSpec := { name := "fnUnionIsTheSetUnion", fn := fun _ => fun
  | [d1, d2, d3, d4] => { results := [.lit (.bool false)], args := [d1, d2, d3, d4] }
  | _ => none }
def FnUnionIsTheSetUnionWrongFalsely : Prop := fnUnionIsTheSetUnionRow.holds Try.pinned (OpenSpec.ofChange fnUnionIsTheSetUnionWrong)

/-- 'zzlaws_internal_tracker_b1.FnUnionOfRunsOfIsRunsOfTheJoin': WHATEVER THE INPUT: true; the input reads as it did. -/
def fnUnionOfRunsOfIsRunsOfTheJoinSpec : ChangeSpec := { name := "fnUnionOfRunsOfIsRunsOfTheJoin", fn := fun _ => fun
  | [d1, d2] => { results := [.lit (.bool true)], args := [d1, d2] }
  | _ => none }
def fnUnionOfRunsOfIsRunsOfTheJoinRow : OpenClaim := { program := "qxb6617949a", sum := "c5f44d8628f64ad7aa711f773cf66fdf7221e274a6c25f60c83217ab529a3082", func := "example.com/peerstash/peerstash/zzlaws_internal_tracker_b1.FnUnionOfRunsOfIsRunsOfTheJoin", spec := "fnUnionOfRunsOfIsRunsOfTheJoin", recurses := true, apart := false }
def FnUnionOfRunsOfIsRunsOfTheJoinSaid : Prop := fnUnionOfRunsOfIsRunsOfTheJoinRow.holds Try.pinned (OpenSpec.ofChange fnUnionOfRunsOfIsRunsOfTheJoinSpec)

/-- ITS FALSE NEIGHBOUR: 'it returns false'. Refute it at one input. -/
def fnUnionOfRunsOfIsRunsOfTheJoinWrong : ChangeSpec := { name := "fnUnionOfRunsOfIsRunsOfTheJoin", fn := fun _ => fun
  | [d1, d2] => { results := [.lit (.bool false)], args := [d1, d2] }
  | _ => none }
def FnUnionOfRunsOfIsRunsOfTheJoinWrongFalsely : Prop := fnUnionOfRunsOfIsRunsOfTheJoinRow.holds Try.pinned (OpenSpec.ofChange fnUnionOfRunsOfIsRunsOfTheJoinWrong)

/-- 'zzlaws_internal_tracker_b1.FnMinusIsTheSetDifference': WHATEVER THE INPUT: true; the input reads as it did. -/
def fnMinusIsTheSetDifferenceSpec : ChangeSpec := { name := "fnMinusIsTheSetDifference", fn := fun _ => fun
  | [d1, d2, d3, d4] => { results := [.lit (.bool true)], args := [d1, d2, d3, d4] }
  | _ => none }
def fnMinusIsTheSetDifferenceRow : OpenClaim := { program := "qxb6617949a", sum := "c5f44d8628f64ad7aa711f773cf66fdf7221e274a6c25f60c83217ab529a3082", func := "example.com/peerstash/peerstash/zzlaws_internal_tracker_b1.FnMinusIsTheSetDifference", spec := "fnMinusIsTheSetDifference", apart := false }
def FnMinusIsTheSetDifferenceSaid : Prop := fnMinusIsTheSetDifferenceRow.holds Try.pinned (OpenSpec.ofChange fnMinusIsTheSetDifferenceSpec)

/-- ITS FALSE NEIGHBOUR: 'it returns false'. Refute it at one input. -/
def fnMinusIsTheSetDifferenceWrong : ChangeSpec := { name := "fnMinusIsTheSetDifference", fn := fun _ => fun
  | [d1, d2, d3, d4] => { results := [.lit (.bool false)], args := [d1, d2, d3, d4] }
  | _ => none }
def FnMinusIsTheSetDifferenceWrongFalsely : Prop := fnMinusIsTheSetDifferenceRow.holds Try.pinned (OpenSpec.ofChange fnMinusIsTheSetDifferenceWrong)

/-- 'zzlaws_internal_tracker_b1.FnMinusAndUnionSplitAndRebuild': WHATEVER THE INPUT: true; the input reads as it did. -/
def fnMinusAndUnionSplitAndRebuildSpec : ChangeSpec := { name := "fnMinusAndUnionSplitAndRebuild", fn := fun _ => fun
  | [d1, d2, d3, d4] => { results := [.lit (.bool true)], args := [d1, d2, d3, d4] }
  | _ => none }
def fnMinusAndUnionSplitAndRebuildRow : OpenClaim := { program := "qxb6617949a", sum := "c5f44d8628f64ad7aa711f773cf66fdf7221e274a6c25f60c83217ab529a3082", func := "example.com/peerstash/peerstash/zzlaws_internal_tracker_b1.FnMinusAndUnionSplitAndRebuild", spec := "fnMinusAndUnionSplitAndRebuild", apart := false }
def FnMinusAndUnionSplitAndRebuildSaid : Prop := fnMinusAndUnionSplitAndRebuildRow.holds Try.pinned (OpenSpec.ofChange fnMinusAndUnionSplitAndRebuildSpec)

/-- ITS FALSE NEIGHBOUR: 'it returns false'. Refute it at one input. -/
def fnMinusAndUnionSplitAndRebuildWrong : ChangeSpec := { name := "fnMinusAndUnionSplitAndRebuild", fn := fun _ => fun
  | [d1, d2, d3, d4] => { results := [.lit (.bool false)], args := [d1, d2, d3, d4] }
  | _ => none }
def FnMinusAndUnionSplitAndRebuildWrongFalsely : Prop := fnMinusAndUnionSplitAndRebuildRow.holds Try.pinned (OpenSpec.ofChange fnMinusAndUnionSplitAndRebuildWrong)

/-- 'zzlaws_internal_tracker_b1.FnMinusOfRunsOfIsRunsOfTheKept': WHATEVER THE INPUT: true; the input reads as it did. -/
def fnMinusOfRunsOfIsRunsOfTheKeptSpec : ChangeSpec := { name := "fnMinusOfRunsOfIsRunsOfTheKept", fn := fun _ => fun
  | [d1, d2] => { results := [.lit (.bool true)], args := [d1, d2] }
  | _ => none }
def fnMinusOfRunsOfIsRunsOfTheKeptRow : OpenClaim := { program := "qxb6617949a", sum := "c5f44d8628f64ad7aa711f773cf66fdf7221e274a6c25f60c83217ab529a3082", func := "example.com/peerstash/peerstash/zzlaws_internal_tracker_b1.FnMinusOfRunsOfIsRunsOfTheKept", spec := "fnMinusOfRunsOfIsRunsOfTheKept", recurses := true, apart := false }
def FnMinusOfRunsOfIsRunsOfTheKeptSaid : Prop := fnMinusOfRunsOfIsRunsOfTheKeptRow.holds Try.pinned (OpenSpec.ofChange fnMinusOfRunsOfIsRunsOfTheKeptSpec)

/-- ITS FALSE NEIGHBOUR: 'it returns false'. Refute it at one input. -/
def fnMinusOfRunsOfIsRunsOfTheKeptWrong : ChangeSpec := { name := "fnMinusOfRunsOfIsRunsOfTheKept", fn := fun _ => fun
  | [d1, d2] => { results := [.lit (.bool false)], args := [d1, d2] }
  | _ => none }
def FnMinusOfRunsOfIsRunsOfTheKeptWrongFalsely : Prop := fnMinusOfRunsOfIsRunsOfTheKeptRow.holds Try.pinned (OpenSpec.ofChange fnMinusOfRunsOfIsRunsOfTheKeptWrong)

end Rows
end Go.Proofs.Qxb6617949a
