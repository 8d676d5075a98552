/- Closed facts of the whole program, for the cards. -/
import Derived.Test.Qxb6616140aDoorSent
import Derived.Test.Qxb6616140aDoorCards
import Derived.SevenTiedAt
namespace Go.Proofs.Qxb6616140aDoor
theorem kMain : Tryd.pinned.checked.prog.mainIs = some ((true, "d0ef90dc1d3d7785b820637c6fcdc2144910aa4fbaba3b1bb45cab5739514cc5").1, (true, "d0ef90dc1d3d7785b820637c6fcdc2144910aa4fbaba3b1bb45cab5739514cc5").2.toList) := by kernel_rfl
theorem kLooks : true = Tryd.pinned.checked.prog.looks [] := by kernel_rfl
theorem kStand : ([35, 3].all fun u => !Tryd.prog.wantsStandIn u) = true := by kernel_rfl
end Go.Proofs.Qxb6616140aDoor
