/- FnCanonical: the closed facts of the card, each by the kernel. -/
import Derived.Test.YtbjaapiliegegaaGreatDoorRows
import Derived.Test.YtbjaapiliegegaaGreatDoorCards
import Derived.SevenTiedAt
import Derived.KernelRfl
namespace Go.Proofs.YtbjaapiliegegaaGreatDoor.Sy
open Go
theorem cn_text : Rows.fnCanonicalRow.wfByText (OpenSpec.ofChange Rows.fnCanonicalSpec) = true := by kernel_rfl
theorem cn_main : Tryz.pinned.checked.prog.mainIs = some (true, "4c79875e3fb86b8033b71ca1619b7131d72c900617f63172bddc7ed916594055".toList) := by kernel_rfl
theorem cn_looks : true = Tryz.pinned.checked.prog.looks [] := by kernel_rfl
theorem cn_stand : ([9].all fun u => !Tryz.pinned.checked.prog.wantsStandIn u) = true := by kernel_rfl
theorem cn_goes : false = Rows.fnCanonicalRow.goesBy Tryz.pinned.checked.prog := by kernel_rfl
end Go.Proofs.YtbjaapiliegegaaGreatDoor.Sy
