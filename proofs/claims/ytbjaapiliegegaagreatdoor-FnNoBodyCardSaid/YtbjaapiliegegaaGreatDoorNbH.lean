/- PROVED: the given statement FnNoBodyCardSaid: laws.FnNoBody returns true at every input, and the input reads as it did. No condition beside the statement's own. -/
import Derived.Test.YtbjaapiliegegaaGreatDoorNbE
import Derived.Test.YtbjaapiliegegaaGreatDoorNbF
import Derived.Test.YtbjaapiliegegaaGreatDoorNbI
set_option linter.unusedVariables false
set_option linter.unusedSimpArgs false
namespace Go.Proofs.YtbjaapiliegegaaGreatDoor
open Go Sy
theorem fnNoBody_holds : Rows.FnNoBodySaid :=
 OpenClaim.holds_of_wide 5 Tryz.f5 rfl rfl rfl rfl rfl rfl rfl ⟨rfl, rfl, rfl, rfl, rfl⟩ rfl rfl rfl rfl rfl nb_named Tryz.func5 nb_facts nb_inst nb_wrap
  (fun os started H enc _ => fnNoBody_lifted os started H enc)
theorem fnNoBody_card : Rows.FnNoBodyCardSaid :=
 Claim7.holds_tied_plain_at .later [] [.data, .data, .data, .data, .sentinel, .sentinel, .data, .pinned, .pinned] true (true, "4c79875e3fb86b8033b71ca1619b7131d72c900617f63172bddc7ed916594055") true
  fnNoBody_holds (fun _ h => by cases h) nb_text (fun _ h => by cases h) fnNoBody_row_tie rfl ⟨rfl, rfl⟩ nb_main rfl
  (fun f fn hf hfn => by
   obtain rfl : f = 5 := Option.some.inj (nb_named.symm.trans hf) |>.symm
   obtain rfl : fn = Tryz.f5 := (Option.some.inj (Tryz.func5.symm.trans hfn)).symm
   exact ⟨nb_looks, fun j t ht => by
    rw [Tryz.params5] at ht
    have hm : t ∈ [31, 27] := by simpa using Array.mem_of_getElem? ht
    exact (show Tryz.pinned.checked.prog.wantsStandIn t = false by simpa using List.all_eq_true.1 nb_stand t hm)⟩)
  nb_goes
#print axioms fnNoBody_card
end Go.Proofs.YtbjaapiliegegaaGreatDoor
