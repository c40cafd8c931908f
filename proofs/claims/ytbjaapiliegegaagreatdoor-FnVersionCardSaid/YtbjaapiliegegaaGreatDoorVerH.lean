/- FnVersion: the row and the card. -/
import Derived.Test.YtbjaapiliegegaaGreatDoorVerE
import Derived.Test.YtbjaapiliegegaaGreatDoorVerF
import Derived.Test.YtbjaapiliegegaaGreatDoorVerI
namespace Go.Proofs.YtbjaapiliegegaaGreatDoor
open Go

theorem fnVersion_holds : Rows.FnVersionSaid :=
  OpenClaim.holds_of_wide 3 Tryz.f3 rfl rfl rfl rfl rfl rfl rfl ⟨rfl, rfl, rfl, rfl, rfl⟩ rfl rfl rfl rfl rfl fv_named Tryz.func3 fv_facts fv_inst fv_wrap
    (fun os started H enc _ => fnVersion_lifted os started H enc)

/-- THE STATEMENT. -/
theorem fnVersion_card : Rows.FnVersionCardSaid :=
  Claim7.holds_tied_plain_at .later [] [.data, .data, .data, .data, .sentinel, .sentinel, .data, .pinned, .pinned] true (true, "4c79875e3fb86b8033b71ca1619b7131d72c900617f63172bddc7ed916594055") true
    fnVersion_holds (fun _ h => by cases h) fv_text (fun _ h => by cases h) fnVersion_row_tie rfl ⟨rfl, rfl⟩ fv_main rfl
    (fun f fn hf hfn => by
      obtain rfl : f = 3 := Option.some.inj (fv_named.symm.trans hf) |>.symm
      obtain rfl : fn = Tryz.f3 := (Option.some.inj (Tryz.func3.symm.trans hfn)).symm
      exact ⟨fv_looks, fun j t ht => by
        rw [Tryz.params3] at ht
        have hm : t ∈ [9] := by simpa using Array.mem_of_getElem? ht
        exact (show Tryz.pinned.checked.prog.wantsStandIn t = false by simpa using List.all_eq_true.1 fv_stand t hm)⟩)
    fv_goes
#print axioms fnVersion_card
end Go.Proofs.YtbjaapiliegegaaGreatDoor
