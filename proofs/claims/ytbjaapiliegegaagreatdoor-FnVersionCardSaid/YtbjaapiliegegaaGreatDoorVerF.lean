/- FnVersion: the closed facts of the row, each by the kernel. -/
import Derived.Test.YtbjaapiliegegaaGreatDoorRows
import Derived.ProofKit
import Derived.KernelRfl
namespace Go.Proofs.YtbjaapiliegegaaGreatDoor
open Go
theorem fv_named : Tryz.pinned.checked.prog.funcNamed Rows.fnVersionRow.func = some 3 := by kernel_rfl
theorem fv_facts : joinedFacts Tryz.pinned.checked.prog 3 Tryz.f3 Rows.fnVersionSpec Rows.fnVersionRow = true := by kernel_rfl
theorem fv_inst : Tryz.f3.isInstance Tryz.pinned.checked.prog Rows.fnVersionRow.origin Rows.fnVersionRow.targs := of_decide_eq_true (by kernel_rfl)
theorem fv_wrap : Tryz.f3.isWrapper Tryz.pinned.checked.prog Rows.fnVersionRow.wrapper Rows.fnVersionRow.mainSum := by
  unfold Func.isWrapper
  first | (rw [if_pos (by decide +kernel)]; kernel_rfl) | (rw [if_neg (by decide +kernel)]; exact ⟨rfl, rfl⟩)
end Go.Proofs.YtbjaapiliegegaaGreatDoor
