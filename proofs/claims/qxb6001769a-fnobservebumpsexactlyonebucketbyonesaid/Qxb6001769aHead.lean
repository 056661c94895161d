/-
  The head of the given dump as signs, and three closed facts that hang on it, each over a program that is a letter: the kernel then never decodes the string sign by sign (which takes it past 10 GB).
-/
import Derived.Test.Qxb6001769aRows
import Derived.JoinedOf
import Derived.KernelRfl
namespace Go.Proofs.Qxb6001769a
open Go

/-- The signs of the head's words, by their numbers. -/
def ioNums : List Nat := [104,97,114,110,101,115,115,32,98,99,97,53,57,51,48,51,53,49,54,101,97,54,54,55,98,51,48,55,57,56,57,54,48,53,49,53,49,100,102,55,98,101,52,49,51,101,100,55,102,102,102,57,49,102,51,99,49,97,51,53,100,56,99,52,57,97,102,54,102,98,100,57,32,99,117,116,32,97,116,32,101,120,97,109,112,108,101,46,99,111,109,47,104,117,115,104,104,101,97,112,47,104,117,115,104,104,101,97,112,47,122,122,108,97,119,115,95,105,110,116,101,114,110,97,108,95,112,114,111,109,116,101,120,116,95,98,49,46,70,110,79,98,115,101,114,118,101,67,111,117,110,116,115,73,110,69,118,101,114,121,67,117,109,117,108,97,116,105,118,101,66,117,99,107,101,116,65,116,79,114,65,98,111,118,101,86,32,101,120,97,109,112,108,101,46,99,111,109,47,104,117,115,104,104,101,97,112,47,104,117,115,104,104,101,97,112,47,122,122,108,97,119,115,95,105,110,116,101,114,110,97,108,95,112,114,111,109,116,101,120,116,95,98,49,46,70,110,79,98,115,101,114,118,101,67,111,117,110,116,115,73,110,100,101,112,101,110,100,101,110,116,79,102,79,114,100,101,114,32,101,120,97,109,112,108,101,46,99,111,109,47,104,117,115,104,104,101,97,112,47,104,117,115,104,104,101,97,112,47,122,122,108,97,119,115,95,105,110,116,101,114,110,97,108,95,112,114,111,109,116,101,120,116,95,98,49,46,70,110,79,98,115,101,114,118,101,66,117,109,112,115,69,120,97,99,116,108,121,79,110,101,66,117,99,107,101,116,66,121,79,110,101]
theorem ioIs : Try.prog.initOrder = String.ofList (ioNums.map Char.ofNat) := by kernel_rfl
theorem ioList : Try.prog.initOrder.toList = ioNums.map Char.ofNat := by rw [ioIs]; exact String.toList_ofList

theorem mayEnter_of (P : Program) (h : P.initOrder.toList = ioNums.map Char.ofNat) (h2 : P.laysLater = false) (h3 : P.bearsReflect = false) (h4 : P.doorFits [] = true) : P.mayEnter = true := by
  unfold Program.mayEnter
  rw [h, h2, h3]
  exact Eq.trans (b := P.doorFits []) (by kernel_rfl) h4
theorem headLifts_of (P : Program) (h : P.initOrder.toList = ioNums.map Char.ofNat) : P.headLifts = [] := by
  unfold Program.headLifts
  rw [h]
  kernel_rfl
theorem lifts_of (P : Program) (h : P.initOrder.toList = ioNums.map Char.ofNat) : P.liftsFinal = false := by
  unfold Program.liftsFinal
  rw [h, headLifts_of P h]
  kernel_rfl
theorem make_of (P : Program) (h : P.initOrder.toList = ioNums.map Char.ofNat) : P.make = some .cut := by
  unfold Program.make
  rw [h, headLifts_of P h]
  kernel_rfl
theorem mayEnterIs : Try.prog.mayEnter = true := mayEnter_of _ ioList (by kernel_rfl) (by kernel_rfl) (by kernel_rfl)
theorem liftsIs : Try.prog.liftsFinal = false := lifts_of _ ioList
theorem makeIs : Try.prog.make = some .cut := make_of _ ioList

end Go.Proofs.Qxb6001769a
