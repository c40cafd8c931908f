/- FnVersion: the closed facts of the card, each by the kernel. -/
import Derived.Test.YtbjaapiliegegaaGreatDoorRows
import Derived.Test.YtbjaapiliegegaaGreatDoorCards
import Derived.SevenTiedAt
import Derived.KernelRfl
namespace Go.Proofs.YtbjaapiliegegaaGreatDoor
open Go
theorem fv_text : Rows.fnVersionRow.wfByText (OpenSpec.ofChange Rows.fnVersionSpec) = true := by kernel_rfl
theorem fv_main : Tryz.pinned.checked.prog.mainIs = some (true, "4c79875e3fb86b8033b71ca1619b7131d72c900617f63172bddc7ed916594055".toList) := by kernel_rfl
theorem fv_looks : true = Tryz.pinned.checked.prog.looks [] := by kernel_rfl
theorem fv_stand : ([9].all fun u => !Tryz.pinned.checked.prog.wantsStandIn u) = true := by kernel_rfl
theorem fv_goes : false = Rows.fnVersionRow.goesBy Tryz.pinned.checked.prog := by kernel_rfl
end Go.Proofs.YtbjaapiliegegaaGreatDoor
