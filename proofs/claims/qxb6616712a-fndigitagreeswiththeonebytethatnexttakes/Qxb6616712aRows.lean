/-
  No cell of these rows narrows 'for every input' (looked for: loops, veiled, ifaces, maps, wideKeys, modest, calm, conditions, laid).
  DERIVED. THE GIVEN ROWS OF THIS SEAT. 1 by the template 'for every input the law returns true; each argument reads behind the call as it read before'; 0 by the template 'total and deterministic' (their statements: Qxb6616712aTotals.lean).
  GIVEN WITH THE SEED: the statements are not yours to turn. If you find one false, say at which input.
  Laid BY PROGRAM, IN A SANDBOX (cutbox-rows.mjs): the forced cells as the released guide's own fill.sh prints them over the translation 48a7d2aa597bb4de… (all of the seat's roots in one cut). By AI agents, Wed Nov 11 2026. No macro, syntax, notation, axiom, sorry.
-/
import Derived.Test.Qxb6616712aChecked
import GoSem.Claim
import GoSem.ClaimJoined
import GoSem.ClaimMapViews
import Derived.JoinedTies
import Derived.KernelRfl
namespace Go.Proofs.Qxb6616712a
/- THE CELL 'sum', in the pinned program and in every row, IS THE sha256 OF THE DUMP (.gsa) THAT Qxb6616712aProg.lean LOADS. Nothing in Lean hashes anything: it is a label: what it is worth is what the hold of that sum in a sandbox is worth. -/
noncomputable def Try.pinned : Pinned := { name := "qxb6616712a", sum := "48a7d2aa597bb4dec655991c7ebbc66de15172dbaa2947b7e8995adaa45961bc", checked := Try.checked }
namespace Rows
def none {H : Type} : Left H := { results := [], args := [] }

/-- 'zzlaws_root_b1.FnDigitAgreesWithTheOneByteThatNextTakes': WHATEVER THE INPUT: true; the input reads as it did. -/
def fnDigitAgreesWithTheOneByteThatNextTakesSpec : ChangeSpec := { name := "fnDigitAgreesWithTheOneByteThatNextTakes", fn := fun _ => fun
  | [d1, d2, d3] => { results := [.lit (.bool true)], args := [d1, d2, d3] }
  | _ => none }
def fnDigitAgreesWithTheOneByteThatNextTakesRow : OpenClaim := { program := "qxb6616712a", sum := "48a7d2aa597bb4dec655991c7ebbc66de15172dbaa2947b7e8995adaa45961bc", func := "example.com/kvitto/kvitto/zzlaws_root_b1.FnDigitAgreesWithTheOneByteThatNextTakes", spec := "fnDigitAgreesWithTheOneByteThatNextTakes", apart := false }
def FnDigitAgreesWithTheOneByteThatNextTakesSaid : Prop := fnDigitAgreesWithTheOneByteThatNextTakesRow.holds Try.pinned (OpenSpec.ofChange fnDigitAgreesWithTheOneByteThatNextTakesSpec)

/-- ITS FALSE NEIGHBOUR: 'it returns false'. Refute it at one input. -/
def fnDigitAgreesWithTheOneByteThatNextTakesWrong : ChangeSpec := { name := "fnDigitAgreesWithTheOneByteThatNextTakes", fn := fun _ => fun
  | [d1, d2, d3] => { results := [.lit (.bool false)], args := [d1, d2, d3] }
  | _ => none }
def FnDigitAgreesWithTheOneByteThatNextTakesWrongFalsely : Prop := fnDigitAgreesWithTheOneByteThatNextTakesRow.holds Try.pinned (OpenSpec.ofChange fnDigitAgreesWithTheOneByteThatNextTakesWrong)

end Rows
end Go.Proofs.Qxb6616712a
