/-
  Three closed facts on the translation's head, made cheap: by 'kernel_rfl' alone each cost the kernel some 90 s (the head's line is a string of more than a thousand signs, and 'String.toList' on a literal is dear); here the literal is first taken for 'String.ofList' of its signs.
-/
import Derived.Test.Qxb6000011aRows
import Derived.JoinedOf
import Derived.KernelRfl
namespace Go.Proofs.Qxb6000011a
set_option maxRecDepth 100000

theorem toList_of {s : String} {l : List Char} (h : s = String.ofList l) : s.toList = l := by rw [h, String.toList_ofList]

theorem head_lifts : Try.prog.headLifts = [] := by
  rw [Program.headLifts.eq_1, toList_of (s := Try.prog.initOrder) (l := _) rfl]
  kernel_rfl

theorem head_make : Try.prog.make = some .cut := by
  rw [Program.make.eq_1, toList_of (s := Try.prog.initOrder) (l := _) rfl]
  kernel_rfl

theorem head_final : Try.prog.liftsFinal = false := by
  rw [Program.liftsFinal.eq_1, toList_of (s := Try.prog.initOrder) (l := _) rfl, head_lifts]
  kernel_rfl

theorem head_enter : Try.prog.mayEnter = true := by
  rw [Program.mayEnter.eq_1, toList_of (s := Try.prog.initOrder) (l := _) rfl]
  kernel_rfl

end Go.Proofs.Qxb6000011a
