/- FnCanonical: the closed facts of the row, each by the kernel. -/
import Derived.Test.YtbjaapiliegegaaGreatDoorRows
import Derived.ProofKit
import Derived.KernelRfl
namespace Go.Proofs.YtbjaapiliegegaaGreatDoor.Sy
open Go
theorem cn_named : Tryz.pinned.checked.prog.funcNamed Rows.fnCanonicalRow.func = some 4 := by kernel_rfl
theorem cn_facts : joinedFacts Tryz.pinned.checked.prog 4 Tryz.f4 Rows.fnCanonicalSpec Rows.fnCanonicalRow = true := by kernel_rfl
theorem cn_inst : Tryz.f4.isInstance Tryz.pinned.checked.prog Rows.fnCanonicalRow.origin Rows.fnCanonicalRow.targs := of_decide_eq_true (by kernel_rfl)
theorem cn_wrap : Tryz.f4.isWrapper Tryz.pinned.checked.prog Rows.fnCanonicalRow.wrapper Rows.fnCanonicalRow.mainSum := by
  unfold Func.isWrapper
  first | (rw [if_pos (by decide +kernel)]; kernel_rfl) | (rw [if_neg (by decide +kernel)]; exact ⟨rfl, rfl⟩)
end Go.Proofs.YtbjaapiliegegaaGreatDoor.Sy
