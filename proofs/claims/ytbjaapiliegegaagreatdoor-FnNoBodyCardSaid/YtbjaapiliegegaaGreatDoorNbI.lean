/- Of the proof of FnNoBody: NbI. -/
import Derived.Test.YtbjaapiliegegaaGreatDoorRows
import Derived.Test.YtbjaapiliegegaaGreatDoorCards
import Derived.SevenTiedAt
import Derived.KernelRfl
set_option linter.unusedVariables false
set_option linter.unusedSimpArgs false
namespace Go.Proofs.YtbjaapiliegegaaGreatDoor.Sy
open Go
theorem nb_text : Rows.fnNoBodyRow.wfByText (OpenSpec.ofChange Rows.fnNoBodySpec) = true := by kernel_rfl
theorem nb_main : Tryz.pinned.checked.prog.mainIs = some (true, "4c79875e3fb86b8033b71ca1619b7131d72c900617f63172bddc7ed916594055".toList) := by kernel_rfl
theorem nb_looks : true = Tryz.pinned.checked.prog.looks [] := by kernel_rfl
theorem nb_stand : ([31, 27].all fun u => !Tryz.pinned.checked.prog.wantsStandIn u) = true := by kernel_rfl
theorem nb_goes : false = Rows.fnNoBodyRow.goesBy Tryz.pinned.checked.prog := by kernel_rfl
end Go.Proofs.YtbjaapiliegegaaGreatDoor.Sy
