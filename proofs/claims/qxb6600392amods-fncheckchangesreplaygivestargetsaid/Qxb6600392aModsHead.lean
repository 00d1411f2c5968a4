/- The dump's head, read once. Own work. -/
import Derived.Test.Qxb6600392aModsRows
import Derived.ProofKit
namespace Go.Proofs.Qxb6600392aMods
set_option maxRecDepth 100000
def headCs : List Char := ['h', 'a', 'r', 'n', 'e', 's', 's', ' ', '1', 'e', '7', 'a', '8', '9', 'd', 'a', 'b', '8', 'a', '6', 'b', '5', '2', 'e', 'f', 'e', '7', '2', '3', '4', '0', 'e', '8', '4', '0', 'e', '8', '6', 'b', 'f', '8', '5', 'e', '2', '5', 'c', '4', '6', '9', '1', '3', 'f', '8', 'c', '9', 'a', '7', '7', '7', '8', '5', '0', 'e', '6', 'f', 'd', 'e', 'd', 'a', 'f', 'd', '3', ' ', 'p', 'u', 'b', 'l', 'i', 'c', 's', 'u', 'm', 's', ' ', 'c', 'u', 't', ' ', 'a', 't', ' ', 'e', 'x', 'a', 'm', 'p', 'l', 'e', '.', 'c', 'o', 'm', '/', 's', 'c', 'h', 'e', 'm', 'a', '-', 'p', 'u', 'l', 'l', '-', 'r', 'e', 'q', 'u', 'e', 's', 't', 's', '/', 's', 'c', 'h', 'e', 'm', 'a', '-', 'p', 'u', 'l', 'l', '-', 'r', 'e', 'q', 'u', 'e', 's', 't', 's', '/', 'z', 'z', 'l', 'a', 'w', 's', '_', 'i', 'n', 't', 'e', 'r', 'n', 'a', 'l', '_', 'd', 'i', 'f', 'f', '_', 'b', '1', '.', 'F', 'n', 'C', 'h', 'e', 'c', 'k', 'C', 'h', 'a', 'n', 'g', 'e', 's', 'L', 'o', 'n', 'g', 'e', 's', 't', 'K', 'e', 'p', 't', 'P', 'r', 'e', 'f', 'i', 'x', ' ', 'e', 'x', 'a', 'm', 'p', 'l', 'e', '.', 'c', 'o', 'm', '/', 's', 'c', 'h', 'e', 'm', 'a', '-', 'p', 'u', 'l', 'l', '-', 'r', 'e', 'q', 'u', 'e', 's', 't', 's', '/', 's', 'c', 'h', 'e', 'm', 'a', '-', 'p', 'u', 'l', 'l', '-', 'r', 'e', 'q', 'u', 'e', 's', 't', 's', '/', 'z', 'z', 'l', 'a', 'w', 's', '_', 'i', 'n', 't', 'e', 'r', 'n', 'a', 'l', '_', 'd', 'i', 'f', 'f', '_', 'b', '1', '.', 'F', 'n', 'C', 'h', 'e', 'c', 'k', 'C', 'h', 'a', 'n', 'g', 'e', 's', 'R', 'e', 'p', 'l', 'a', 'y', 'G', 'i', 'v', 'e', 's', 'T', 'a', 'r', 'g', 'e', 't', ' ', 'e', 'x', 'a', 'm', 'p', 'l', 'e', '.', 'c', 'o', 'm', '/', 's', 'c', 'h', 'e', 'm', 'a', '-', 'p', 'u', 'l', 'l', '-', 'r', 'e', 'q', 'u', 'e', 's', 't', 's', '/', 's', 'c', 'h', 'e', 'm', 'a', '-', 'p', 'u', 'l', 'l', '-', 'r', 'e', 'q', 'u', 'e', 's', 't', 's', '/', 'z', 'z', 'l', 'a', 'w', 's', '_', 'i', 'n', 't', 'e', 'r', 'n', 'a', 'l', '_', 'd', 'i', 'f', 'f', '_', 'b', '1', '.', 'F', 'n', 'R', 'e', 'm', 'a', 'i', 'n', 'i', 'n', 'g', 'I', 'n', 'd', 'e', 'x', 'e', 's', 'M', 'o', 'r', 'e', 'C', 'o', 'l', 'u', 'm', 'n', 's', 'N', 'e', 'v', 'e', 'r', 'D', 'r', 'o', 'p', 'M', 'o', 'r', 'e', ' ', 'e', 'x', 'a', 'm', 'p', 'l', 'e', '.', 'c', 'o', 'm', '/', 's', 'c', 'h', 'e', 'm', 'a', '-', 'p', 'u', 'l', 'l', '-', 'r', 'e', 'q', 'u', 'e', 's', 't', 's', '/', 's', 'c', 'h', 'e', 'm', 'a', '-', 'p', 'u', 'l', 'l', '-', 'r', 'e', 'q', 'u', 'e', 's', 't', 's', '/', 'z', 'z', 'l', 'a', 'w', 's', '_', 'i', 'n', 't', 'e', 'r', 'n', 'a', 'l', '_', 'd', 'i', 'f', 'f', '_', 'b', '1', '.', 'F', 'n', 'M', 'a', 'd', 'e', 'I', 'n', 'd', 'e', 'x', 'e', 's', 'K', 'e', 'p', 't', 'D', 'r', 'o', 'p', 's', 'O', 'n', 'l', 'y', 'M', 'a', 'd', 'e', 'I', 'n', 'd', 'e', 'x', 'e', 's', ' ', 'e', 'x', 'a', 'm', 'p', 'l', 'e', '.', 'c', 'o', 'm', '/', 's', 'c', 'h', 'e', 'm', 'a', '-', 'p', 'u', 'l', 'l', '-', 'r', 'e', 'q', 'u', 'e', 's', 't', 's', '/', 's', 'c', 'h', 'e', 'm', 'a', '-', 'p', 'u', 'l', 'l', '-', 'r', 'e', 'q', 'u', 'e', 's', 't', 's', '/', 'z', 'z', 'l', 'a', 'w', 's', '_', 'i', 'n', 't', 'e', 'r', 'n', 'a', 'l', '_', 'd', 'i', 'f', 'f', '_', 'b', '1', '.', 'F', 'n', 'M', 'a', 'd', 'e', 'I', 'n', 'd', 'e', 'x', 'e', 's', 'K', 'e', 'p', 't', 'E', 'v', 'e', 'r', 'y', 'M', 'a', 'd', 'e', 'I', 'n', 'd', 'e', 'x', 'S', 't', 'a', 'y', 's', 'S', 'e', 'r', 'v', 'e', 'd', ' ', 'e', 'x', 'a', 'm', 'p', 'l', 'e', '.', 'c', 'o', 'm', '/', 's', 'c', 'h', 'e', 'm', 'a', '-', 'p', 'u', 'l', 'l', '-', 'r', 'e', 'q', 'u', 'e', 's', 't', 's', '/', 's', 'c', 'h', 'e', 'm', 'a', '-', 'p', 'u', 'l', 'l', '-', 'r', 'e', 'q', 'u', 'e', 's', 't', 's', '/', 'z', 'z', 'l', 'a', 'w', 's', '_', 'i', 'n', 't', 'e', 'r', 'n', 'a', 'l', '_', 'd', 'i', 'f', 'f', '_', 'b', '1', '.', 'F', 'n', 'M', 'a', 'd', 'e', 'I', 'n', 'd', 'e', 'x', 'e', 's', 'K', 'e', 'p', 't', 'D', 'r', 'o', 'p', 's', 'N', 'o', 't', 'h', 'i', 'n', 'g', 'W', 'i', 't', 'h', 'o', 'u', 't', 'C', 'a', 'u', 's', 'e']
def headWs : List (List Char) := [['p', 'u', 'b', 'l', 'i', 'c', 's', 'u', 'm', 's'],
  ['c', 'u', 't'],
  ['a', 't'],
  ['e', 'x', 'a', 'm', 'p', 'l', 'e', '.', 'c', 'o', 'm', '/', 's', 'c', 'h', 'e', 'm', 'a', '-', 'p', 'u', 'l', 'l', '-', 'r', 'e', 'q', 'u', 'e', 's', 't', 's', '/', 's', 'c', 'h', 'e', 'm', 'a', '-', 'p', 'u', 'l', 'l', '-', 'r', 'e', 'q', 'u', 'e', 's', 't', 's', '/', 'z', 'z', 'l', 'a', 'w', 's', '_', 'i', 'n', 't', 'e', 'r', 'n', 'a', 'l', '_', 'd', 'i', 'f', 'f', '_', 'b', '1', '.', 'F', 'n', 'C', 'h', 'e', 'c', 'k', 'C', 'h', 'a', 'n', 'g', 'e', 's', 'L', 'o', 'n', 'g', 'e', 's', 't', 'K', 'e', 'p', 't', 'P', 'r', 'e', 'f', 'i', 'x'],
  ['e', 'x', 'a', 'm', 'p', 'l', 'e', '.', 'c', 'o', 'm', '/', 's', 'c', 'h', 'e', 'm', 'a', '-', 'p', 'u', 'l', 'l', '-', 'r', 'e', 'q', 'u', 'e', 's', 't', 's', '/', 's', 'c', 'h', 'e', 'm', 'a', '-', 'p', 'u', 'l', 'l', '-', 'r', 'e', 'q', 'u', 'e', 's', 't', 's', '/', 'z', 'z', 'l', 'a', 'w', 's', '_', 'i', 'n', 't', 'e', 'r', 'n', 'a', 'l', '_', 'd', 'i', 'f', 'f', '_', 'b', '1', '.', 'F', 'n', 'C', 'h', 'e', 'c', 'k', 'C', 'h', 'a', 'n', 'g', 'e', 's', 'R', 'e', 'p', 'l', 'a', 'y', 'G', 'i', 'v', 'e', 's', 'T', 'a', 'r', 'g', 'e', 't'],
  ['e', 'x', 'a', 'm', 'p', 'l', 'e', '.', 'c', 'o', 'm', '/', 's', 'c', 'h', 'e', 'm', 'a', '-', 'p', 'u', 'l', 'l', '-', 'r', 'e', 'q', 'u', 'e', 's', 't', 's', '/', 's', 'c', 'h', 'e', 'm', 'a', '-', 'p', 'u', 'l', 'l', '-', 'r', 'e', 'q', 'u', 'e', 's', 't', 's', '/', 'z', 'z', 'l', 'a', 'w', 's', '_', 'i', 'n', 't', 'e', 'r', 'n', 'a', 'l', '_', 'd', 'i', 'f', 'f', '_', 'b', '1', '.', 'F', 'n', 'R', 'e', 'm', 'a', 'i', 'n', 'i', 'n', 'g', 'I', 'n', 'd', 'e', 'x', 'e', 's', 'M', 'o', 'r', 'e', 'C', 'o', 'l', 'u', 'm', 'n', 's', 'N', 'e', 'v', 'e', 'r', 'D', 'r', 'o', 'p', 'M', 'o', 'r', 'e'],
  ['e', 'x', 'a', 'm', 'p', 'l', 'e', '.', 'c', 'o', 'm', '/', 's', 'c', 'h', 'e', 'm', 'a', '-', 'p', 'u', 'l', 'l', '-', 'r', 'e', 'q', 'u', 'e', 's', 't', 's', '/', 's', 'c', 'h', 'e', 'm', 'a', '-', 'p', 'u', 'l', 'l', '-', 'r', 'e', 'q', 'u', 'e', 's', 't', 's', '/', 'z', 'z', 'l', 'a', 'w', 's', '_', 'i', 'n', 't', 'e', 'r', 'n', 'a', 'l', '_', 'd', 'i', 'f', 'f', '_', 'b', '1', '.', 'F', 'n', 'M', 'a', 'd', 'e', 'I', 'n', 'd', 'e', 'x', 'e', 's', 'K', 'e', 'p', 't', 'D', 'r', 'o', 'p', 's', 'O', 'n', 'l', 'y', 'M', 'a', 'd', 'e', 'I', 'n', 'd', 'e', 'x', 'e', 's'],
  ['e', 'x', 'a', 'm', 'p', 'l', 'e', '.', 'c', 'o', 'm', '/', 's', 'c', 'h', 'e', 'm', 'a', '-', 'p', 'u', 'l', 'l', '-', 'r', 'e', 'q', 'u', 'e', 's', 't', 's', '/', 's', 'c', 'h', 'e', 'm', 'a', '-', 'p', 'u', 'l', 'l', '-', 'r', 'e', 'q', 'u', 'e', 's', 't', 's', '/', 'z', 'z', 'l', 'a', 'w', 's', '_', 'i', 'n', 't', 'e', 'r', 'n', 'a', 'l', '_', 'd', 'i', 'f', 'f', '_', 'b', '1', '.', 'F', 'n', 'M', 'a', 'd', 'e', 'I', 'n', 'd', 'e', 'x', 'e', 's', 'K', 'e', 'p', 't', 'E', 'v', 'e', 'r', 'y', 'M', 'a', 'd', 'e', 'I', 'n', 'd', 'e', 'x', 'S', 't', 'a', 'y', 's', 'S', 'e', 'r', 'v', 'e', 'd'],
  ['e', 'x', 'a', 'm', 'p', 'l', 'e', '.', 'c', 'o', 'm', '/', 's', 'c', 'h', 'e', 'm', 'a', '-', 'p', 'u', 'l', 'l', '-', 'r', 'e', 'q', 'u', 'e', 's', 't', 's', '/', 's', 'c', 'h', 'e', 'm', 'a', '-', 'p', 'u', 'l', 'l', '-', 'r', 'e', 'q', 'u', 'e', 's', 't', 's', '/', 'z', 'z', 'l', 'a', 'w', 's', '_', 'i', 'n', 't', 'e', 'r', 'n', 'a', 'l', '_', 'd', 'i', 'f', 'f', '_', 'b', '1', '.', 'F', 'n', 'M', 'a', 'd', 'e', 'I', 'n', 'd', 'e', 'x', 'e', 's', 'K', 'e', 'p', 't', 'D', 'r', 'o', 'p', 's', 'N', 'o', 't', 'h', 'i', 'n', 'g', 'W', 'i', 't', 'h', 'o', 'u', 't', 'C', 'a', 'u', 's', 'e']]
theorem head_eq : Trym.prog.initOrder = String.ofList headCs := by kernel_rfl
theorem head_list : Trym.prog.initOrder.toList = headCs := by rw [head_eq, String.toList_ofList]
theorem head_words : behindMainWord (wordsSigns Trym.prog.initOrder.toList) = headWs := by
  rw [head_list]
  kernel_rfl
theorem head_lifts : Trym.prog.headLifts = ["publicsums"] := by
  have key : ∀ P : Program, behindMainWord (wordsSigns P.initOrder.toList) = headWs → P.headLifts = ["publicsums"] := by
    intro P h
    unfold Program.headLifts
    rw [h]
    kernel_rfl
  exact key _ head_words
theorem lifts_final : Trym.prog.liftsFinal = false := by
  have key : ∀ P : Program, behindMainWord (wordsSigns P.initOrder.toList) = headWs → P.headLifts = ["publicsums"] → P.liftsFinal = false := by
    intro P h1 h2
    unfold Program.liftsFinal
    rw [h1, h2]
    kernel_rfl
  exact key _ head_words head_lifts
theorem made : Trym.prog.make = some (.lifted ["publicsums"]) := by
  have key : ∀ P : Program, behindMainWord (wordsSigns P.initOrder.toList) = headWs → P.headLifts = ["publicsums"] → P.make = some (.lifted ["publicsums"]) := by
    intro P h1 h2
    unfold Program.make
    rw [h1, h2]
    kernel_rfl
  exact key _ head_words head_lifts
theorem lays_later : Trym.prog.laysLater = false := by kernel_rfl
theorem bears_reflect : Trym.prog.bearsReflect = false := by kernel_rfl
theorem door_fits : Trym.prog.doorFits (stripLifts liftWords headWs).1 = true := by kernel_rfl
theorem may_enter : Trym.prog.mayEnter = true := by
  have key : ∀ P : Program, behindMainWord (wordsSigns P.initOrder.toList) = headWs → P.laysLater = false → P.bearsReflect = false → P.doorFits (stripLifts liftWords headWs).1 = true → P.mayEnter = true := by
    intro P h1 h2 h3 h4
    unfold Program.mayEnter
    rw [h1, h2, h3]
    unfold headWs at h4 ⊢
    dsimp only
    rw [h4]
    kernel_rfl
  exact key _ head_words lays_later bears_reflect door_fits
end Go.Proofs.Qxb6600392aMods
