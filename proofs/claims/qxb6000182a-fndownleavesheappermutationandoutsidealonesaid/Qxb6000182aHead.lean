/-
  The head of the translation, as a list of signs: three closed facts of every row of this seat lean on it; reckoned off the string itself each of them costs the kernel a minute and gigabytes.
-/
import Derived.Test.Qxb6000182aRows
import Derived.ProofKit
namespace Go.Proofs.Qxb6000182a

theorem mayEnter_of {P : Program} {l cw : List Char} {r : List (List Char)} (h0 : P.initOrder.toList = l) (h1 : behindMainWord (wordsSigns l) = cw :: r) (h2 : stripLifts liftWords (cw :: r) = ([], cw :: r)) (h3 : (cw == "cut".toList) = true)
    (h4 : P.laysLater = false) (h5 : P.bearsReflect = false) (h6 : P.doorFits [] = true) : P.mayEnter = true := by
  unfold Program.mayEnter
  rw [h0, h1]
  dsimp only
  rw [h2, h4, h5, h6]
  have h7 : ((cw :: r).head? == some "cut".toList) = true := h3
  dsimp only at h7 ⊢
  rw [h7]
  simp
theorem headLifts_of {P : Program} {l cw : List Char} {r : List (List Char)} (h0 : P.initOrder.toList = l) (h1 : behindMainWord (wordsSigns l) = cw :: r) (h2 : stripLifts liftWords (cw :: r) = ([], cw :: r)) : P.headLifts = [] := by
  unfold Program.headLifts
  rw [h0, h1, h2]
  dsimp only
  split <;> rfl
theorem liftsFinal_of {P : Program} {l cw : List Char} {r : List (List Char)} (h0 : P.initOrder.toList = l) (h1 : behindMainWord (wordsSigns l) = cw :: r) (h2 : stripLifts liftWords (cw :: r) = ([], cw :: r)) (h3 : (cw == "carried".toList) = false) : P.liftsFinal = false := by
  have h4 := headLifts_of h0 h1 h2
  unfold Program.liftsFinal
  rw [h0, h1, h4]
  have h7 : ((cw :: r).head? == some "carried".toList) = false := h3
  dsimp only at h7 ⊢
  rw [h7]
  simp
theorem make_of {P : Program} {l cw : List Char} {r : List (List Char)} (h0 : P.initOrder.toList = l) (h1 : behindMainWord (wordsSigns l) = cw :: r) (h2 : (cw == "gc".toList || cw == "spec".toList) = false) (h3 : (cw == "cut".toList) = true) : P.make = some .cut := by
  unfold Program.make
  rw [h0, h1]
  dsimp only
  rw [if_neg (by rw [h2]; exact Bool.false_ne_true), if_pos (by rw [h3]; rfl)]

def headSigns : List Char := ['h', 'a', 'r', 'n', 'e', 's', 's', ' ', '6', '0', '1', 'c', '6', 'e', '6', '5', 'f', 'd', '6', 'a', '9', '1', 'b', '1', 'b', '1', '9', '7', 'e', '5', '7', '4', 'f', '1', '2', 'f', '0', 'f', 'b', 'f', '9', '1', '8', 'f', 'e', 'e', '1', '0', 'f', 'b', '3', '4', '5', '4', '1', '0', '4', '0', 'f', '5', '0', '1', 'e', '8', 'a', '9', 'c', '0', '9', '4', 'd', '2', ' ', 'c', 'u', 't', ' ', 'a', 't', ' ', 'e', 'x', 'a', 'm', 'p', 'l', 'e', '.', 'c', 'o', 'm', '/', 's', 'l', 'a', 'c', 'k', 'l', 'i', 'n', 'e', '/', 's', 'l', 'a', 'c', 'k', 'l', 'i', 'n', 'e', '/', 'z', 'z', 'l', 'a', 'w', 's', '_', 'p', 'k', 'g', '_', 'h', 'i', 's', 't', 'o', 'r', 'y', '_', 'b', '1', '.', 'F', 'n', 'L', 'o', 'n', 'g', 'U', 'v', 'a', 'r', 'i', 'n', 't', 'A', 't', 'M', 'a', 't', 'c', 'h', 'e', 's', 'H', 'o', 'r', 'n', 'e', 'r', 'M', 'o', 'd', 'e', 'l', ' ', 'e', 'x', 'a', 'm', 'p', 'l', 'e', '.', 'c', 'o', 'm', '/', 's', 'l', 'a', 'c', 'k', 'l', 'i', 'n', 'e', '/', 's', 'l', 'a', 'c', 'k', 'l', 'i', 'n', 'e', '/', 'z', 'z', 'l', 'a', 'w', 's', '_', 'p', 'k', 'g', '_', 'h', 'i', 's', 't', 'o', 'r', 'y', '_', 'b', '1', '.', 'F', 'n', 'L', 'o', 'n', 'g', 'U', 'v', 'a', 'r', 'i', 'n', 't', 'A', 't', 'R', 'e', 'a', 'd', 's', 'B', 'a', 'c', 'k', 'E', 'n', 'c', 'o', 'd', 'i', 'n', 'g', ' ', 'e', 'x', 'a', 'm', 'p', 'l', 'e', '.', 'c', 'o', 'm', '/', 's', 'l', 'a', 'c', 'k', 'l', 'i', 'n', 'e', '/', 's', 'l', 'a', 'c', 'k', 'l', 'i', 'n', 'e', '/', 'z', 'z', 'l', 'a', 'w', 's', '_', 'p', 'k', 'g', '_', 'h', 'i', 's', 't', 'o', 'r', 'y', '_', 'b', '1', '.', 'F', 'n', 'U', 'v', 'a', 'r', 'i', 'n', 't', 'A', 't', 'A', 'g', 'r', 'e', 'e', 's', 'W', 'i', 't', 'h', 'L', 'o', 'n', 'g', 'U', 'v', 'a', 'r', 'i', 'n', 't', 'A', 't', ' ', 'e', 'x', 'a', 'm', 'p', 'l', 'e', '.', 'c', 'o', 'm', '/', 's', 'l', 'a', 'c', 'k', 'l', 'i', 'n', 'e', '/', 's', 'l', 'a', 'c', 'k', 'l', 'i', 'n', 'e', '/', 'z', 'z', 'l', 'a', 'w', 's', '_', 'p', 'k', 'g', '_', 'h', 'i', 's', 't', 'o', 'r', 'y', '_', 'b', '1', '.', 'F', 'n', 'P', 'l', 'a', 'c', 'e', 'R', 'e', 'a', 'd', 's', 'B', 'a', 'c', 'k', 'E', 'n', 'c', 'o', 'd', 'e', 'd', 'R', 'e', 'c', 'o', 'r', 'd', ' ', 'e', 'x', 'a', 'm', 'p', 'l', 'e', '.', 'c', 'o', 'm', '/', 's', 'l', 'a', 'c', 'k', 'l', 'i', 'n', 'e', '/', 's', 'l', 'a', 'c', 'k', 'l', 'i', 'n', 'e', '/', 'z', 'z', 'l', 'a', 'w', 's', '_', 'p', 'k', 'g', '_', 'h', 'i', 's', 't', 'o', 'r', 'y', '_', 'b', '1', '.', 'F', 'n', 'P', 'l', 'a', 'c', 'e', 'R', 'e', 'f', 'u', 's', 'e', 's', 'C', 'u', 't', 'R', 'e', 'c', 'o', 'r', 'd', 'A', 'n', 'd', 'R', 'e', 't', 'r', 'i', 'e', 's', ' ', 'e', 'x', 'a', 'm', 'p', 'l', 'e', '.', 'c', 'o', 'm', '/', 's', 'l', 'a', 'c', 'k', 'l', 'i', 'n', 'e', '/', 's', 'l', 'a', 'c', 'k', 'l', 'i', 'n', 'e', '/', 'z', 'z', 'l', 'a', 'w', 's', '_', 'p', 'k', 'g', '_', 'h', 'i', 's', 't', 'o', 'r', 'y', '_', 'b', '1', '.', 'F', 'n', 'P', 'l', 'a', 'c', 'e', 'K', 'e', 'e', 'p', 's', 'F', 'l', 'a', 'g', 'M', 'e', 'a', 'n', 'i', 'n', 'g', 's', ' ', 'e', 'x', 'a', 'm', 'p', 'l', 'e', '.', 'c', 'o', 'm', '/', 's', 'l', 'a', 'c', 'k', 'l', 'i', 'n', 'e', '/', 's', 'l', 'a', 'c', 'k', 'l', 'i', 'n', 'e', '/', 'z', 'z', 'l', 'a', 'w', 's', '_', 'p', 'k', 'g', '_', 'h', 'i', 's', 't', 'o', 'r', 'y', '_', 'b', '1', '.', 'F', 'n', 'D', 'o', 'w', 'n', 'I', 's', 'T', 'e', 'x', 't', 'b', 'o', 'o', 'k', 'S', 'i', 'f', 't', 'D', 'o', 'w', 'n', ' ', 'e', 'x', 'a', 'm', 'p', 'l', 'e', '.', 'c', 'o', 'm', '/', 's', 'l', 'a', 'c', 'k', 'l', 'i', 'n', 'e', '/', 's', 'l', 'a', 'c', 'k', 'l', 'i', 'n', 'e', '/', 'z', 'z', 'l', 'a', 'w', 's', '_', 'p', 'k', 'g', '_', 'h', 'i', 's', 't', 'o', 'r', 'y', '_', 'b', '1', '.', 'F', 'n', 'D', 'o', 'w', 'n', 'L', 'e', 'a', 'v', 'e', 's', 'H', 'e', 'a', 'p', 'P', 'e', 'r', 'm', 'u', 't', 'a', 't', 'i', 'o', 'n', 'A', 'n', 'd', 'O', 'u', 't', 's', 'i', 'd', 'e', 'A', 'l', 'o', 'n', 'e']

theorem initOrder_signs : Try.prog.initOrder = String.ofList headSigns := by kernel_rfl
theorem initOrder_list : Try.prog.initOrder.toList = headSigns := by rw [initOrder_signs]; exact String.toList_ofList

def headCut : List Char := ['c', 'u', 't']
def headRest : List (List Char) := [['a', 't'],
  ['e', 'x', 'a', 'm', 'p', 'l', 'e', '.', 'c', 'o', 'm', '/', 's', 'l', 'a', 'c', 'k', 'l', 'i', 'n', 'e', '/', 's', 'l', 'a', 'c', 'k', 'l', 'i', 'n', 'e', '/', 'z', 'z', 'l', 'a', 'w', 's', '_', 'p', 'k', 'g', '_', 'h', 'i', 's', 't', 'o', 'r', 'y', '_', 'b', '1', '.', 'F', 'n', 'L', 'o', 'n', 'g', 'U', 'v', 'a', 'r', 'i', 'n', 't', 'A', 't', 'M', 'a', 't', 'c', 'h', 'e', 's', 'H', 'o', 'r', 'n', 'e', 'r', 'M', 'o', 'd', 'e', 'l'],
  ['e', 'x', 'a', 'm', 'p', 'l', 'e', '.', 'c', 'o', 'm', '/', 's', 'l', 'a', 'c', 'k', 'l', 'i', 'n', 'e', '/', 's', 'l', 'a', 'c', 'k', 'l', 'i', 'n', 'e', '/', 'z', 'z', 'l', 'a', 'w', 's', '_', 'p', 'k', 'g', '_', 'h', 'i', 's', 't', 'o', 'r', 'y', '_', 'b', '1', '.', 'F', 'n', 'L', 'o', 'n', 'g', 'U', 'v', 'a', 'r', 'i', 'n', 't', 'A', 't', 'R', 'e', 'a', 'd', 's', 'B', 'a', 'c', 'k', 'E', 'n', 'c', 'o', 'd', 'i', 'n', 'g'],
  ['e', 'x', 'a', 'm', 'p', 'l', 'e', '.', 'c', 'o', 'm', '/', 's', 'l', 'a', 'c', 'k', 'l', 'i', 'n', 'e', '/', 's', 'l', 'a', 'c', 'k', 'l', 'i', 'n', 'e', '/', 'z', 'z', 'l', 'a', 'w', 's', '_', 'p', 'k', 'g', '_', 'h', 'i', 's', 't', 'o', 'r', 'y', '_', 'b', '1', '.', 'F', 'n', 'U', 'v', 'a', 'r', 'i', 'n', 't', 'A', 't', 'A', 'g', 'r', 'e', 'e', 's', 'W', 'i', 't', 'h', 'L', 'o', 'n', 'g', 'U', 'v', 'a', 'r', 'i', 'n', 't', 'A', 't'],
  ['e', 'x', 'a', 'm', 'p', 'l', 'e', '.', 'c', 'o', 'm', '/', 's', 'l', 'a', 'c', 'k', 'l', 'i', 'n', 'e', '/', 's', 'l', 'a', 'c', 'k', 'l', 'i', 'n', 'e', '/', 'z', 'z', 'l', 'a', 'w', 's', '_', 'p', 'k', 'g', '_', 'h', 'i', 's', 't', 'o', 'r', 'y', '_', 'b', '1', '.', 'F', 'n', 'P', 'l', 'a', 'c', 'e', 'R', 'e', 'a', 'd', 's', 'B', 'a', 'c', 'k', 'E', 'n', 'c', 'o', 'd', 'e', 'd', 'R', 'e', 'c', 'o', 'r', 'd'],
  ['e', 'x', 'a', 'm', 'p', 'l', 'e', '.', 'c', 'o', 'm', '/', 's', 'l', 'a', 'c', 'k', 'l', 'i', 'n', 'e', '/', 's', 'l', 'a', 'c', 'k', 'l', 'i', 'n', 'e', '/', 'z', 'z', 'l', 'a', 'w', 's', '_', 'p', 'k', 'g', '_', 'h', 'i', 's', 't', 'o', 'r', 'y', '_', 'b', '1', '.', 'F', 'n', 'P', 'l', 'a', 'c', 'e', 'R', 'e', 'f', 'u', 's', 'e', 's', 'C', 'u', 't', 'R', 'e', 'c', 'o', 'r', 'd', 'A', 'n', 'd', 'R', 'e', 't', 'r', 'i', 'e', 's'],
  ['e', 'x', 'a', 'm', 'p', 'l', 'e', '.', 'c', 'o', 'm', '/', 's', 'l', 'a', 'c', 'k', 'l', 'i', 'n', 'e', '/', 's', 'l', 'a', 'c', 'k', 'l', 'i', 'n', 'e', '/', 'z', 'z', 'l', 'a', 'w', 's', '_', 'p', 'k', 'g', '_', 'h', 'i', 's', 't', 'o', 'r', 'y', '_', 'b', '1', '.', 'F', 'n', 'P', 'l', 'a', 'c', 'e', 'K', 'e', 'e', 'p', 's', 'F', 'l', 'a', 'g', 'M', 'e', 'a', 'n', 'i', 'n', 'g', 's'],
  ['e', 'x', 'a', 'm', 'p', 'l', 'e', '.', 'c', 'o', 'm', '/', 's', 'l', 'a', 'c', 'k', 'l', 'i', 'n', 'e', '/', 's', 'l', 'a', 'c', 'k', 'l', 'i', 'n', 'e', '/', 'z', 'z', 'l', 'a', 'w', 's', '_', 'p', 'k', 'g', '_', 'h', 'i', 's', 't', 'o', 'r', 'y', '_', 'b', '1', '.', 'F', 'n', 'D', 'o', 'w', 'n', 'I', 's', 'T', 'e', 'x', 't', 'b', 'o', 'o', 'k', 'S', 'i', 'f', 't', 'D', 'o', 'w', 'n'],
  ['e', 'x', 'a', 'm', 'p', 'l', 'e', '.', 'c', 'o', 'm', '/', 's', 'l', 'a', 'c', 'k', 'l', 'i', 'n', 'e', '/', 's', 'l', 'a', 'c', 'k', 'l', 'i', 'n', 'e', '/', 'z', 'z', 'l', 'a', 'w', 's', '_', 'p', 'k', 'g', '_', 'h', 'i', 's', 't', 'o', 'r', 'y', '_', 'b', '1', '.', 'F', 'n', 'D', 'o', 'w', 'n', 'L', 'e', 'a', 'v', 'e', 's', 'H', 'e', 'a', 'p', 'P', 'e', 'r', 'm', 'u', 't', 'a', 't', 'i', 'o', 'n', 'A', 'n', 'd', 'O', 'u', 't', 's', 'i', 'd', 'e', 'A', 'l', 'o', 'n', 'e']]

theorem headWords_ok : behindMainWord (wordsSigns headSigns) = headCut :: headRest := by kernel_rfl
theorem strip_ok : stripLifts liftWords (headCut :: headRest) = ([], headCut :: headRest) := by kernel_rfl
theorem cut_ok : (headCut == "cut".toList) = true := by kernel_rfl
theorem gc_no : (headCut == "gc".toList || headCut == "spec".toList) = false := by kernel_rfl
theorem lays_no : Try.prog.laysLater = false := by kernel_rfl
theorem reflect_no : Try.prog.bearsReflect = false := by kernel_rfl
theorem door_ok : Try.prog.doorFits [] = true := by kernel_rfl

theorem carried_no : (headCut == "carried".toList) = false := by kernel_rfl
theorem mayEnter_ok : Try.prog.mayEnter = true := mayEnter_of initOrder_list headWords_ok strip_ok cut_ok lays_no reflect_no door_ok
theorem liftsFinal_ok : Try.prog.liftsFinal = false := liftsFinal_of initOrder_list headWords_ok strip_ok carried_no
theorem make_ok : Try.prog.make = some .cut := make_of initOrder_list headWords_ok gc_no cut_ok

theorem andT {a b : Bool} (h : a = true) (k : b = true) : (a && b) = true := by rw [h, k]; rfl

end Go.Proofs.Qxb6000182a
