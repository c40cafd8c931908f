/- Runs over known values: two facts on this program. -/
import Derived.KernelRfl
import Derived.Test.YtbjaapiliegegaaGreatDoorSa6
import Derived.Test.YtbjaapiliegegaaGreatDoorProg
namespace Go.Proofs.YtbjaapiliegegaaGreatDoor.Sy
open Go Go.RowKit

theorem mixed : Tryz.prog.follows .mixedOrders = true := by kernel_rfl
theorem noCount_all : (Tryz.prog.funcs.all fun F => !(F.name == "runtime.NumGoroutine")) = true := by kernel_rfl
theorem noCount : NoCount Tryz.prog := by
  intro f F hF
  have := Array.all_eq_true_iff_forall_mem.1 noCount_all F (Array.mem_of_getElem? hF)
  simpa using this


end Go.Proofs.YtbjaapiliegegaaGreatDoor.Sy
