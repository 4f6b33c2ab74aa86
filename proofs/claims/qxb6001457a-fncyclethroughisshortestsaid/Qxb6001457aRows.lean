/-
  No cell of these rows narrows 'for every input' (looked for: loops, veiled, ifaces, maps, wideKeys, modest, calm, conditions, laid).
  DERIVED. THE GIVEN ROWS OF THIS SEAT. 4 by the template 'for every input the law returns true; each argument reads behind the call as it read before'; 0 by the template 'total and deterministic' (their statements: Qxb6001457aTotals.lean).
  GIVEN WITH THE SEED: the statements are not yours to turn. If you find one false, say at which input.
  Laid BY PROGRAM, IN A SANDBOX (cutbox-rows.mjs): the forced cells as the released guide's own fill.sh prints them over the translation 8c70336ebfc0217e… (all of the seat's roots in one cut). By AI agents, Wed Nov 11 2026. No macro, syntax, notation, axiom, sorry.
-/
import Derived.Test.Qxb6001457aChecked
import GoSem.Claim
import GoSem.ClaimJoined
import GoSem.ClaimMapViews
import Derived.JoinedTies
import Derived.KernelRfl
namespace Go.Proofs.Qxb6001457a
/- THE CELL 'sum', in the pinned program and in every row, IS THE sha256 OF THE DUMP (.gsa) THAT Qxb6001457aProg.lean LOADS. Nothing in Lean hashes anything: it is a label: what it is worth is what the hold of that sum in a sandbox is worth. -/
noncomputable def Try.pinned : Pinned := { name := "qxb6001457a", sum := "8c70336ebfc0217e2465e1705de7c84903c8319bd304263672b11109fdb2b7ea", checked := Try.checked }
namespace Rows
def none {H : Type} : Left H := { results := [], args := [] }

/-- 'zzlaws_internal_plugin_b1.FnCycleThroughIsSimpleCycleOfDeps': WHATEVER THE INPUT: true; the input reads as it did. -/
def fnCycleThroughIsSimpleCycleOfDepsSpec : ChangeSpec := { name := "fnCycleThroughIsSimpleCycleOfDeps", fn := fun _ => fun
  | [d1, d2] => { results := [.lit (.bool true)], args := [d1, d2] }
  | _ => none }
def fnCycleThroughIsSimpleCycleOfDepsRow : OpenClaim := { program := "qxb6001457a", sum := "8c70336ebfc0217e2465e1705de7c84903c8319bd304263672b11109fdb2b7ea", func := "example.com/kangaroo/kangaroo/zzlaws_internal_plugin_b1.FnCycleThroughIsSimpleCycleOfDeps", spec := "fnCycleThroughIsSimpleCycleOfDeps", apart := false }
def FnCycleThroughIsSimpleCycleOfDepsSaid : Prop := fnCycleThroughIsSimpleCycleOfDepsRow.holds Try.pinned (OpenSpec.ofChange fnCycleThroughIsSimpleCycleOfDepsSpec)

/-- ITS FALSE NEIGHBOUR: 'it returns false'. Refute it at one input. -/
def fnCycleThroughIsSimpleCycleOfDepsWrong : ChangeSpec := { name := "fnCycleThroughIsSimpleCycleOfDeps", fn := fun _ => fun
  | [d1, d2] => { results := [.lit (.bool false)], args := [d1, d2] }
  | _ => none }
def FnCycleThroughIsSimpleCycleOfDepsWrongFalsely : Prop := fnCycleThroughIsSimpleCycleOfDepsRow.holds Try.pinned (OpenSpec.ofChange fnCycleThroughIsSimpleCycleOfDepsWrong)

/-- 'zzlaws_internal_plugin_b1.FnCycleThroughIsShortest': WHATEVER THE INPUT: true; the input reads as it did. -/
def fnCycleThroughIsShortestSpec : ChangeSpec := { name := "fnCycleThroughIsShortest", fn := fun _ => fun
  | [d1, d2] => { results := [.lit (.bool true)], args := [d1, d2] }
  | _ => none }
def fnCycleThroughIsShortestRow : OpenClaim := { program := "qxb6001457a", sum := "8c70336ebfc0217e2465e1705de7c84903c8319bd304263672b11109fdb2b7ea", func := "example.com/kangaroo/kangaroo/zzlaws_internal_plugin_b1.FnCycleThroughIsShortest", spec := "fnCycleThroughIsShortest", apart := false }
def FnCycleThroughIsShortestSaid : Prop := fnCycleThroughIsShortestRow.holds Try.pinned (OpenSpec.ofChange fnCycleThroughIsShortestSpec)

/-- ITS FALSE NEIGHBOUR: 'it returns false'. Refute it at one input. -/
def fnCycleThroughIsShortestWrong : ChangeSpec := { name := "fnCycleThroughIsShortest", fn := fun _ => fun
  | [d1, d2] => { results := [.lit (.bool false)], args := [d1, d2] }
  | _ => none }
def FnCycleThroughIsShortestWrongFalsely : Prop := fnCycleThroughIsShortestRow.holds Try.pinned (OpenSpec.ofChange fnCycleThroughIsShortestWrong)

/-- 'zzlaws_internal_plugin_b1.FnCycleThroughNodesOnCycleHaveNoLongerCycle': WHATEVER THE INPUT: true; the input reads as it did. -/
def fnCycleThroughNodesOnCycleHaveNoLongerCycleSpec : ChangeSpec := { name := "fnCycleThroughNodesOnCycleHaveNoLongerCycle", fn := fun _ => fun
  | [d1, d2] => { results := [.lit (.bool true)], args := [d1, d2] }
  | _ => none }
def fnCycleThroughNodesOnCycleHaveNoLongerCycleRow : OpenClaim := { program := "qxb6001457a", sum := "8c70336ebfc0217e2465e1705de7c84903c8319bd304263672b11109fdb2b7ea", func := "example.com/kangaroo/kangaroo/zzlaws_internal_plugin_b1.FnCycleThroughNodesOnCycleHaveNoLongerCycle", spec := "fnCycleThroughNodesOnCycleHaveNoLongerCycle", apart := false }
def FnCycleThroughNodesOnCycleHaveNoLongerCycleSaid : Prop := fnCycleThroughNodesOnCycleHaveNoLongerCycleRow.holds Try.pinned (OpenSpec.ofChange fnCycleThroughNodesOnCycleHaveNoLongerCycleSpec)

/-- ITS FALSE NEIGHBOUR: 'it returns false'. Refute it at one input. -/
def fnCycleThroughNodesOnCycleHaveNoLongerCycleWrong : ChangeSpec := { name := "fnCycleThroughNodesOnCycleHaveNoLongerCycle", fn := fun _ => fun
  | [d1, d2] => { results := [.lit (.bool false)], args := [d1, d2] }
  | _ => none }
def FnCycleThroughNodesOnCycleHaveNoLongerCycleWrongFalsely : Prop := fnCycleThroughNodesOnCycleHaveNoLongerCycleRow.holds Try.pinned (OpenSpec.ofChange fnCycleThroughNodesOnCycleHaveNoLongerCycleWrong)

/-- 'zzlaws_internal_plugin_b1.FnIsParamNameConcatenation': WHATEVER THE INPUT: true; the input reads as it did. -/
def fnIsParamNameConcatenationSpec : ChangeSpec := { name := "fnIsParamNameConcatenation", fn := fun _ => fun
  | [d1, d2] => { results := [.lit (.bool true)], args := [d1, d2] }
  | _ => none }
def fnIsParamNameConcatenationRow : OpenClaim := { program := "qxb6001457a", sum := "8c70336ebfc0217e2465e1705de7c84903c8319bd304263672b11109fdb2b7ea", func := "example.com/kangaroo/kangaroo/zzlaws_internal_plugin_b1.FnIsParamNameConcatenation", spec := "fnIsParamNameConcatenation", apart := false }
def FnIsParamNameConcatenationSaid : Prop := fnIsParamNameConcatenationRow.holds Try.pinned (OpenSpec.ofChange fnIsParamNameConcatenationSpec)

/-- ITS FALSE NEIGHBOUR: 'it returns false'. Refute it at one input. -/
def fnIsParamNameConcatenationWrong : ChangeSpec := { name := "fnIsParamNameConcatenation", fn := fun _ => fun
  | [d1, d2] => { results := [.lit (.bool false)], args := [d1, d2] }
  | _ => none }
def FnIsParamNameConcatenationWrongFalsely : Prop := fnIsParamNameConcatenationRow.holds Try.pinned (OpenSpec.ofChange fnIsParamNameConcatenationWrong)

end Rows
end Go.Proofs.Qxb6001457a
