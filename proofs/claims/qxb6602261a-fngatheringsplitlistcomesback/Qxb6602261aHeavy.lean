/- Three closed facts of the program as a whole, by the kernel: they are the dear ones of a row's, so they stand apart. -/
import Derived.Test.Qxb6602261aRows
import Derived.JoinedOf
import Derived.KernelRfl
namespace Go.Proofs.Qxb6602261a.Facts
open Go
set_option linter.unusedVariables false

theorem and_mk {a b : Bool} (ha : a = true) (hb : b = true) : (a && b) = true := by rw [ha, hb]; rfl
theorem and_left {a b : Bool} (h : (a && b) = true) : a = true := by cases a <;> simp_all
theorem and_right {a b : Bool} (h : (a && b) = true) : b = true := by cases b <;> simp_all

theorem heavy : ((Try.prog.mayEnter && (Rows.fnEventForCaseTableRow.lifted == Try.prog.liftsFinal)) && (Try.prog.make == some Rows.fnEventForCaseTableRow.make)) = true := by kernel_rfl

end Go.Proofs.Qxb6602261a.Facts
