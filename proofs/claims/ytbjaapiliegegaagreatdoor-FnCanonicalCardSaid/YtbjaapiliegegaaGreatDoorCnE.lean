/- FnCanonical: the row. -/
import Derived.WalkKit
import Derived.Lay
import Derived.LaidOnce
import Derived.ChangeMaps5
import Derived.Test.YtbjaapiliegegaaGreatDoorRowA
import Derived.Test.YtbjaapiliegegaaGreatDoorSbE
import Derived.Test.YtbjaapiliegegaaGreatDoorTie
import Derived.Test.YtbjaapiliegegaaGreatDoorCards
namespace Go.Proofs.YtbjaapiliegegaaGreatDoor.Sy
open Go.RowKit Go.ChangeShapes Go.WideShapes Go.ChangeAt Go.WideMaps Go.WideElems Go.ChangeMaps

theorem own : ownKnob Tryz.prog.godebug = none := by kernel_rfl
set_option maxRecDepth 100000 in
theorem fnCanonical_lifted (os : Os) (started : os.Started) (H : Type) (enc : TypeId × Value → H) :
    ReturnsInHanded {} Tryz.checked os 4 .any (fun w args => (Rows.fnCanonicalSpec.pre enc Tryz.prog Tryz.f4 [] false w args ∧ laidMetH Tryz.prog Rows.fnCanonicalRow.laid w) ∧ sizedMet enc Tryz.prog Tryz.f4 (OpenSpec.ofChange Rows.fnCanonicalSpec) false w args)
      (Rows.fnCanonicalSpec.post enc Tryz.prog Tryz.f4 false true false false) := by
  refine returnsInHanded_of_change_and (C := Tryz.checked) (X := fun w _ => laidMetH Tryz.prog Rows.fnCanonicalRow.laid w) (fun _ _ _ hh h => h.of_heap hh) own started (by kernel_rfl) Tryz.func4
    (ChangeSpec.witness_shaped (enc := enc) (C := Tryz.checked) (os := os) (X := fun w _ => laidMetH Tryz.prog Rows.fnCanonicalRow.laid w) false (World.laidAll Tryz.prog os Rows.fnCanonicalRow.laid) #[.string ⟨#[]⟩] 8 (World.laidAll_os _ _ _)
      (World.shaped_of_ZipB (by kernel_rfl) (by kernel_rfl)) (by kernel_rfl) (by kernel_rfl) (by kernel_rfl)
      (by rw [MakeChecks.laidMetH_plain _ _ _ (by kernel_rfl)]; exact laidMet_laidAll _ (by kernel_rfl) (by kernel_rfl))) ?_
  intro W base args ds gs before hval0 hW _ _ hL _
  have hval : ∀ (j : Nat) t v, Tryz.f4.params[j]? = some t → args[j]? = some v → Value.okWide Tryz.prog W .any base t v := hval0
  have hW' := hW
  obtain ⟨p, q, hA0, hV, rfl, _, _⟩ := hW
  have hA : DataW.TrodAll enc Tryz.prog W 0 (fun _ => true) true Tryz.f4.params.toList args.toList ds p := hA0
  rw [Tryz.params4] at hA hval
  obtain ⟨v0, d0, rfl, rfl, h0⟩ := trodAll_one hA
  obtain ⟨rfl, rfl⟩ := trodVars_none hV
  obtain ⟨s, rfl, rfl, rfl, ws⟩ := open_string Tryz.underlying9 (hval 0 9 v0 rfl rfl) h0
  simp only [List.append_nil] at hW'
  rw [MakeChecks.laidMetH_plain _ _ _ (by kernel_rfl)] at hL
  have hR := laid_ready (by simp [Rows.fnCanonicalRow]) hL
  have hc : Calls Tryz.prog 4 #[Value.string s] W (fun e W' => e = .returned (.bool true) ∧ Below W.heap.size W W') := by
    rw [str_eq s]
    exact (FnCanonical_ok (h := start W) s.data.toList hR).calls (full_start W) (fun v h' W' hF hv => ⟨by rw [hv], hF.below⟩)
  refine hc.mono fun e W' ⟨he, hb⟩ => ?_
  subst he
  exact ⟨_, rfl, _, _, _, [], [], [], hW', trodAll_mk1 (shut_bool Tryz.underlying4 _), trodAll_mk1 (shut_string Tryz.underlying9 ws), rfl, hb.frame _, fun h => by cases h⟩

end Go.Proofs.YtbjaapiliegegaaGreatDoor.Sy
