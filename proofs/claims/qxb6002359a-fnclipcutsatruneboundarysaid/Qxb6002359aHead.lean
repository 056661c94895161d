/-
  The head of the given dump as signs, and three closed facts that hang on it, each over a program that is a letter: the kernel then never decodes the string sign by sign (which takes it past 10 GB).
-/
import Derived.Test.Qxb6002359aRows
import Derived.JoinedOf
import Derived.KernelRfl
namespace Go.Proofs.Qxb6002359a
open Go

/-- The signs of the head's words, by their numbers. -/
def ioNums : List Nat := [104,97,114,110,101,115,115,32,53,50,51,101,97,52,98,50,51,98,56,98,55,55,100,97,99,52,54,53,97,98,53,49,101,102,52,48,102,51,100,57,99,55,100,101,56,52,99,49,48,50,100,102,51,48,52,52,50,101,53,51,99,101,49,49,50,56,102,101,48,50,50,54,32,99,117,116,32,97,116,32,101,120,97,109,112,108,101,46,99,111,109,47,116,121,112,101,102,105,116,47,116,121,112,101,102,105,116,47,122,122,108,97,119,115,95,114,111,111,116,95,103,50,46,70,110,67,108,105,112,67,117,116,115,65,116,82,117,110,101,66,111,117,110,100,97,114,121,32,101,120,97,109,112,108,101,46,99,111,109,47,116,121,112,101,102,105,116,47,116,121,112,101,102,105,116,47,122,122,108,97,119,115,95,114,111,111,116,95,103,50,46,70,110,68,101,102,105,110,101,100,79,110,67,108,97,115,115,79,114,100,101,114,32,101,120,97,109,112,108,101,46,99,111,109,47,116,121,112,101,102,105,116,47,116,121,112,101,102,105,116,47,122,122,108,97,119,115,95,114,111,111,116,95,103,49,46,70,110,83,116,114,105,110,103,86,97,108,117,101,77,97,116,99,104,101,115,67,111,110,99,97,116,101,110,97,116,105,111,110,79,118,101,114,83,99,114,105,112,116,32,101,120,97,109,112,108,101,46,99,111,109,47,116,121,112,101,102,105,116,47,116,121,112,101,102,105,116,47,122,122,108,97,119,115,95,114,111,111,116,95,103,50,46,70,110,73,108,111,103,50,66,114,97,99,107,101,116,115,65,110,100,83,104,105,102,116,115]
theorem ioIs : Try.prog.initOrder = String.ofList (ioNums.map Char.ofNat) := by kernel_rfl
theorem ioList : Try.prog.initOrder.toList = ioNums.map Char.ofNat := by rw [ioIs]; exact String.toList_ofList

theorem mayEnter_of (P : Program) (h : P.initOrder.toList = ioNums.map Char.ofNat) (h2 : P.laysLater = false) (h3 : P.bearsReflect = false) (h4 : P.doorFits [] = true) : P.mayEnter = true := by
  unfold Program.mayEnter
  rw [h, h2, h3]
  exact Eq.trans (b := P.doorFits []) (by kernel_rfl) h4
theorem headLifts_of (P : Program) (h : P.initOrder.toList = ioNums.map Char.ofNat) : P.headLifts = [] := by
  unfold Program.headLifts
  rw [h]
  kernel_rfl
theorem lifts_of (P : Program) (h : P.initOrder.toList = ioNums.map Char.ofNat) : P.liftsFinal = false := by
  unfold Program.liftsFinal
  rw [h, headLifts_of P h]
  kernel_rfl
theorem make_of (P : Program) (h : P.initOrder.toList = ioNums.map Char.ofNat) : P.make = some .cut := by
  unfold Program.make
  rw [h, headLifts_of P h]
  kernel_rfl
theorem mayEnterIs : Try.prog.mayEnter = true := mayEnter_of _ ioList (by kernel_rfl) (by kernel_rfl) (by kernel_rfl)
theorem liftsIs : Try.prog.liftsFinal = false := lifts_of _ ioList
theorem makeIs : Try.prog.make = some .cut := make_of _ ioList

end Go.Proofs.Qxb6002359a
