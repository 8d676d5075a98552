/- Closed facts of the whole program, one theorem each: the kernel's memory is given back behind each. -/
import Derived.Test.Qxb6616140aDoorSent
namespace Go.Proofs.Qxb6616140aDoor
theorem kMay : Tryd.prog.mayEnter = true := by kernel_rfl
theorem kLift : Tryd.prog.liftsFinal = Rows.fnReadArrayTwoInARowRow.lifted := by kernel_rfl
theorem kMake : Tryd.prog.make = some Rows.fnReadArrayTwoInARowRow.make := by kernel_rfl
end Go.Proofs.Qxb6616140aDoor
