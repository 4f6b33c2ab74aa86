/-
  No cell of these rows narrows 'for every input' (looked for: loops, veiled, ifaces, maps, wideKeys, modest, calm, conditions, laid).
  DERIVED. THE GIVEN ROWS OF THIS SEAT. 4 by the template 'for every input the law returns true; each argument reads behind the call as it read before'; 0 by the template 'total and deterministic' (their statements: Qxb6000750aTotals.lean).
  GIVEN WITH THE SEED: the statements are not yours to turn. If you find one false, say at which input.
  Laid BY PROGRAM, IN A SANDBOX (cutbox-rows.mjs): the forced cells as the released guide's own fill.sh prints them over the translation 20fb7ddf74b2067a… (all of the seat's roots in one cut). By AI agents, Wed Nov 11 2026. No macro, syntax, notation, axiom, sorry.
-/
import Derived.Test.Qxb6000750aChecked
import GoSem.Claim
import GoSem.ClaimJoined
import GoSem.ClaimMapViews
import Derived.JoinedTies
import Derived.KernelRfl
namespace Go.Proofs.Qxb6000750a
/- THE CELL 'sum', in the pinned program and in every row, IS THE sha256 OF THE DUMP (.gsa) THAT Qxb6000750aProg.lean LOADS. Nothing in Lean hashes anything: it is a label: what it is worth is what the hold of that sum in a sandbox is worth. -/
noncomputable def Try.pinned : Pinned := { name := "qxb6000750a", sum := "20fb7ddf74b2067aa1790aca3c86a9b621c67a89ec5b0716edd5c17119a5014e", checked := Try.checked }
namespace Rows
def none {H : Type} : Left H := { results := [], args := [] }

/-- 'zzlaws_root_b1.FnCostSubUndoesAdd': WHATEVER THE INPUT: true; the input reads as it did. -/
def fnCostSubUndoesAddSpec : ChangeSpec := { name := "fnCostSubUndoesAdd", fn := fun _ => fun
  | [d1, d2, d3, d4, d5, d6] => { results := [.lit (.bool true)], args := [d1, d2, d3, d4, d5, d6] }
  | _ => none }
def fnCostSubUndoesAddRow : OpenClaim := { program := "qxb6000750a", sum := "20fb7ddf74b2067aa1790aca3c86a9b621c67a89ec5b0716edd5c17119a5014e", func := "example.com/prepledge/prepledge/zzlaws_root_b1.FnCostSubUndoesAdd", spec := "fnCostSubUndoesAdd", apart := false }
def FnCostSubUndoesAddSaid : Prop := fnCostSubUndoesAddRow.holds Try.pinned (OpenSpec.ofChange fnCostSubUndoesAddSpec)

/-- ITS FALSE NEIGHBOUR: 'it returns false'. Refute it at one input. -/
def fnCostSubUndoesAddWrong : ChangeSpec := { name := "fnCostSubUndoesAdd", fn := fun _ => fun
  | [d1, d2, d3, d4, d5, d6] => { results := [.lit (.bool false)], args := [d1, d2, d3, d4, d5, d6] }
  | _ => none }
def FnCostSubUndoesAddWrongFalsely : Prop := fnCostSubUndoesAddRow.holds Try.pinned (OpenSpec.ofChange fnCostSubUndoesAddWrong)

/-- 'zzlaws_root_b1.FnCostSubThenAddRestoresLaterReading': WHATEVER THE INPUT: true; the input reads as it did. -/
def fnCostSubThenAddRestoresLaterReadingSpec : ChangeSpec := { name := "fnCostSubThenAddRestoresLaterReading", fn := fun _ => fun
  | [d1, d2, d3, d4, d5, d6] => { results := [.lit (.bool true)], args := [d1, d2, d3, d4, d5, d6] }
  | _ => none }
def fnCostSubThenAddRestoresLaterReadingRow : OpenClaim := { program := "qxb6000750a", sum := "20fb7ddf74b2067aa1790aca3c86a9b621c67a89ec5b0716edd5c17119a5014e", func := "example.com/prepledge/prepledge/zzlaws_root_b1.FnCostSubThenAddRestoresLaterReading", spec := "fnCostSubThenAddRestoresLaterReading", apart := false }
def FnCostSubThenAddRestoresLaterReadingSaid : Prop := fnCostSubThenAddRestoresLaterReadingRow.holds Try.pinned (OpenSpec.ofChange fnCostSubThenAddRestoresLaterReadingSpec)

/-- ITS FALSE NEIGHBOUR: 'it returns false'. Refute it at one input. -/
def fnCostSubThenAddRestoresLaterReadingWrong : ChangeSpec := { name := "fnCostSubThenAddRestoresLaterReading", fn := fun _ => fun
  | [d1, d2, d3, d4, d5, d6] => { results := [.lit (.bool false)], args := [d1, d2, d3, d4, d5, d6] }
  | _ => none }
def FnCostSubThenAddRestoresLaterReadingWrongFalsely : Prop := fnCostSubThenAddRestoresLaterReadingRow.holds Try.pinned (OpenSpec.ofChange fnCostSubThenAddRestoresLaterReadingWrong)

/-- 'zzlaws_root_b1.FnCostSubOfSumSplits': WHATEVER THE INPUT: true; the input reads as it did. -/
def fnCostSubOfSumSplitsSpec : ChangeSpec := { name := "fnCostSubOfSumSplits", fn := fun _ => fun
  | [d1, d2, d3, d4, d5, d6, d7, d8, d9] => { results := [.lit (.bool true)], args := [d1, d2, d3, d4, d5, d6, d7, d8, d9] }
  | _ => none }
def fnCostSubOfSumSplitsRow : OpenClaim := { program := "qxb6000750a", sum := "20fb7ddf74b2067aa1790aca3c86a9b621c67a89ec5b0716edd5c17119a5014e", func := "example.com/prepledge/prepledge/zzlaws_root_b1.FnCostSubOfSumSplits", spec := "fnCostSubOfSumSplits", apart := false }
def FnCostSubOfSumSplitsSaid : Prop := fnCostSubOfSumSplitsRow.holds Try.pinned (OpenSpec.ofChange fnCostSubOfSumSplitsSpec)

/-- ITS FALSE NEIGHBOUR: 'it returns false'. Refute it at one input. -/
def fnCostSubOfSumSplitsWrong : ChangeSpec := { name := "fnCostSubOfSumSplits", fn := fun _ => fun
  | [d1, d2, d3, d4, d5, d6, d7, d8, d9] => { results := [.lit (.bool false)], args := [d1, d2, d3, d4, d5, d6, d7, d8, d9] }
  | _ => none }
def FnCostSubOfSumSplitsWrongFalsely : Prop := fnCostSubOfSumSplitsRow.holds Try.pinned (OpenSpec.ofChange fnCostSubOfSumSplitsWrong)

/-- 'zzlaws_root_b1.FnOverExactlyEndedCoreStates': WHATEVER THE INPUT: true; the input reads as it did. -/
def fnOverExactlyEndedCoreStatesSpec : ChangeSpec := { name := "fnOverExactlyEndedCoreStates", fn := fun _ => fun
  | [d] => { results := [.lit (.bool true)], args := [d] }
  | _ => none }
def fnOverExactlyEndedCoreStatesRow : OpenClaim := { program := "qxb6000750a", sum := "20fb7ddf74b2067aa1790aca3c86a9b621c67a89ec5b0716edd5c17119a5014e", func := "example.com/prepledge/prepledge/zzlaws_root_b1.FnOverExactlyEndedCoreStates", spec := "fnOverExactlyEndedCoreStates", apart := false }
def FnOverExactlyEndedCoreStatesSaid : Prop := fnOverExactlyEndedCoreStatesRow.holds Try.pinned (OpenSpec.ofChange fnOverExactlyEndedCoreStatesSpec)

/-- ITS FALSE NEIGHBOUR: 'it returns false'. Refute it at one input. -/
def fnOverExactlyEndedCoreStatesWrong : ChangeSpec := { name := "fnOverExactlyEndedCoreStates", fn := fun _ => fun
  | [d] => { results := [.lit (.bool false)], args := [d] }
  | _ => none }
def FnOverExactlyEndedCoreStatesWrongFalsely : Prop := fnOverExactlyEndedCoreStatesRow.holds Try.pinned (OpenSpec.ofChange fnOverExactlyEndedCoreStatesWrong)

end Rows
end Go.Proofs.Qxb6000750a
