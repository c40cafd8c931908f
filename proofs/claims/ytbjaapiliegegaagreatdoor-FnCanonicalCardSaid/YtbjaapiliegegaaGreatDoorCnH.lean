/- PROVED: the given statement FnCanonicalCardSaid: laws.FnCanonical returns true at every input, and the input reads as it did. No condition beside the statement's own. -/
import Derived.Test.YtbjaapiliegegaaGreatDoorCnE
import Derived.Test.YtbjaapiliegegaaGreatDoorCnF
import Derived.Test.YtbjaapiliegegaaGreatDoorCnI
namespace Go.Proofs.YtbjaapiliegegaaGreatDoor
open Go Sy

theorem fnCanonical_holds : Rows.FnCanonicalSaid :=
  OpenClaim.holds_of_wide 4 Tryz.f4 rfl rfl rfl rfl rfl rfl rfl ⟨rfl, rfl, rfl, rfl, rfl⟩ rfl rfl rfl rfl rfl cn_named Tryz.func4 cn_facts cn_inst cn_wrap
    (fun os started H enc _ => fnCanonical_lifted os started H enc)

/-- THE STATEMENT. -/
theorem fnCanonical_card : Rows.FnCanonicalCardSaid :=
  Claim7.holds_tied_plain_at .later [] [.data, .data, .data, .data, .sentinel, .sentinel, .data, .pinned, .pinned] true (true, "4c79875e3fb86b8033b71ca1619b7131d72c900617f63172bddc7ed916594055") true
    fnCanonical_holds (fun _ h => by cases h) cn_text (fun _ h => by cases h) fnCanonical_row_tie rfl ⟨rfl, rfl⟩ cn_main rfl
    (fun f fn hf hfn => by
      obtain rfl : f = 4 := Option.some.inj (cn_named.symm.trans hf) |>.symm
      obtain rfl : fn = Tryz.f4 := (Option.some.inj (Tryz.func4.symm.trans hfn)).symm
      exact ⟨cn_looks, fun j t ht => by
        rw [Tryz.params4] at ht
        have hm : t ∈ [9] := by simpa using Array.mem_of_getElem? ht
        exact (show Tryz.pinned.checked.prog.wantsStandIn t = false by simpa using List.all_eq_true.1 cn_stand t hm)⟩)
    cn_goes
#print axioms fnCanonical_card
end Go.Proofs.YtbjaapiliegegaaGreatDoor
