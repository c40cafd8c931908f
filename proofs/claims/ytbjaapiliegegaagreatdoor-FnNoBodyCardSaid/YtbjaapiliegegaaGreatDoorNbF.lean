/- Of the proof of FnNoBody: NbF. -/
import Derived.Test.YtbjaapiliegegaaGreatDoorRows
import Derived.ProofKit
import Derived.KernelRfl
set_option linter.unusedVariables false
set_option linter.unusedSimpArgs false
namespace Go.Proofs.YtbjaapiliegegaaGreatDoor.Sy
open Go
theorem nb_named : Tryz.pinned.checked.prog.funcNamed Rows.fnNoBodyRow.func = some 5 := by kernel_rfl
set_option maxHeartbeats 16000000 in
theorem nb_facts : joinedFacts Tryz.pinned.checked.prog 5 Tryz.f5 Rows.fnNoBodySpec Rows.fnNoBodyRow = true := by
 simp only [joinedFacts, Bool.and_eq_true]
 and_intros
 all_goals as_aux_lemma => kernel_rfl
theorem nb_inst : Tryz.f5.isInstance Tryz.pinned.checked.prog Rows.fnNoBodyRow.origin Rows.fnNoBodyRow.targs := of_decide_eq_true (by kernel_rfl)
theorem nb_wrap : Tryz.f5.isWrapper Tryz.pinned.checked.prog Rows.fnNoBodyRow.wrapper Rows.fnNoBodyRow.mainSum := by
 unfold Func.isWrapper
 first | (rw [if_pos (by decide +kernel)]; kernel_rfl) | (rw [if_neg (by decide +kernel)]; exact ⟨rfl, rfl⟩)
end Go.Proofs.YtbjaapiliegegaaGreatDoor.Sy
