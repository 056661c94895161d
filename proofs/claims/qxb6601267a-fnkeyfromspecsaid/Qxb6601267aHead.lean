/-
  The head of the given dump as signs, and three closed facts that hang on it, each over a program that is a letter: the kernel then never decodes the string sign by sign (which takes it past 10 GB).
-/
import Derived.Test.Qxb6601267aRows
import Derived.JoinedOf
import Derived.KernelRfl
namespace Go.Proofs.Qxb6601267a
open Go

/-- The signs of the head's words, by their numbers. -/
def ioNums : List Nat := [104,97,114,110,101,115,115,32,100,102,50,50,55,101,48,48,101,97,51,51,56,51,98,52,56,52,54,99,55,102,49,50,98,100,49,98,99,99,99,53,57,102,97,57,55,53,54,53,100,53,57,56,50,100,98,51,52,56,101,101,99,53,101,101,56,56,48,99,57,53,49,53,32,99,117,116,32,97,116,32,101,120,97,109,112,108,101,46,99,111,109,47,111,117,116,102,105,116,116,101,114,47,111,117,116,102,105,116,116,101,114,47,122,122,108,97,119,115,95,105,110,116,101,114,110,97,108,95,114,101,103,105,115,116,114,121,95,98,49,46,70,110,69,115,99,97,112,101,73,68,83,112,101,99,32,101,120,97,109,112,108,101,46,99,111,109,47,111,117,116,102,105,116,116,101,114,47,111,117,116,102,105,116,116,101,114,47,122,122,108,97,119,115,95,105,110,116,101,114,110,97,108,95,114,101,103,105,115,116,114,121,95,98,49,46,70,110,69,115,99,97,112,101,73,68,67,111,110,99,97,116,32,101,120,97,109,112,108,101,46,99,111,109,47,111,117,116,102,105,116,116,101,114,47,111,117,116,102,105,116,116,101,114,47,122,122,108,97,119,115,95,105,110,116,101,114,110,97,108,95,114,101,103,105,115,116,114,121,95,98,49,46,70,110,69,115,99,97,112,101,73,68,73,110,106,101,99,116,105,118,101,32,101,120,97,109,112,108,101,46,99,111,109,47,111,117,116,102,105,116,116,101,114,47,111,117,116,102,105,116,116,101,114,47,122,122,108,97,119,115,95,105,110,116,101,114,110,97,108,95,114,101,103,105,115,116,114,121,95,98,49,46,70,110,75,101,121,70,114,111,109,83,112,101,99,32,101,120,97,109,112,108,101,46,99,111,109,47,111,117,116,102,105,116,116,101,114,47,111,117,116,102,105,116,116,101,114,47,122,122,108,97,119,115,95,105,110,116,101,114,110,97,108,95,114,101,103,105,115,116,114,121,95,98,49,46,70,110,75,101,121,70,114,111,109,79,114,100,101,114,115,65,115,66,121,116,101,115]
theorem ioIs : Try.prog.initOrder = String.ofList (ioNums.map Char.ofNat) := by kernel_rfl
theorem ioList : Try.prog.initOrder.toList = ioNums.map Char.ofNat := by rw [ioIs]; exact String.toList_ofList

theorem mayEnter_of (P : Program) (h : P.initOrder.toList = ioNums.map Char.ofNat) (h2 : P.laysLater = false) (h3 : P.bearsReflect = false) (h4 : P.doorFits [] = true) : P.mayEnter = true := by
  unfold Program.mayEnter
  rw [h, h2, h3]
  exact Eq.trans (b := P.doorFits []) (by kernel_rfl) h4
theorem headLifts_of (P : Program) (h : P.initOrder.toList = ioNums.map Char.ofNat) : P.headLifts = [] := by
  unfold Program.headLifts
  rw [h]
  kernel_rfl
theorem lifts_of (P : Program) (h : P.initOrder.toList = ioNums.map Char.ofNat) : P.liftsFinal = false := by
  unfold Program.liftsFinal
  rw [h, headLifts_of P h]
  kernel_rfl
theorem make_of (P : Program) (h : P.initOrder.toList = ioNums.map Char.ofNat) : P.make = some .cut := by
  unfold Program.make
  rw [h, headLifts_of P h]
  kernel_rfl
theorem mayEnterIs : Try.prog.mayEnter = true := mayEnter_of _ ioList (by kernel_rfl) (by kernel_rfl) (by kernel_rfl)
theorem liftsIs : Try.prog.liftsFinal = false := lifts_of _ ioList
theorem makeIs : Try.prog.make = some .cut := make_of _ ioList

end Go.Proofs.Qxb6601267a
