/- FnVersion's walk. -/
import Derived.Test.YtbjaapiliegegaaGreatDoorVerB
import Derived.Test.YtbjaapiliegegaaGreatDoorCe13
namespace Go.Proofs.YtbjaapiliegegaaGreatDoor
open Go.RowKit Go.Proofs.YtbjaapiliegegaaGreatDoor.PFnVersion Go.Proofs.YtbjaapiliegegaaGreatDoorW.PrintWords

theorem spec_total (s : ByteArray) : ∃ r1 r2 r3, spec_version.f s = some (r1, r2, r3) := by
  by_cases hl : (s.size : Int) = 8
  · by_cases hp : (s.extract 0 5).toList = ([72, 84, 84, 80, 47] : List UInt8)
    · obtain ⟨x, d, y, rfl⟩ := eight_of (s := s) (by simpa using hp) (by omega)
      have hz : ((eight x d y).size : Int) = 8 := rfl
      unfold spec_version.f
      rw [if_pos hl, if_pos (by decide), if_pos (by rw [hz]; decide), if_pos hp, if_pos (by rw [hz]; decide)]
      simp only [hz]
      repeat' split
      all_goals first | exact ⟨_, _, _, rfl⟩ | omega
    · unfold spec_version.f
      rw [if_pos hl, if_pos (by decide), if_pos (by omega), if_neg hp]
      exact ⟨_, _, _, rfl⟩
  · unfold spec_version.f
    rw [if_neg hl]
    exact ⟨_, _, _, rfl⟩

/-- What the trial run asks of a world. -/
structure Ready (w : World) : Prop where
  size : 8 ≤ w.heap.size
  table : Tabled w

theorem Ready.later {w w' : World} (h : Ready w) (hB : Below w.heap.size w w') : Ready w' := by
  have := h.size
  refine ⟨Nat.le_trans h.size hB.size, fun i n e => ?_⟩
  rw [← h.table i n e]
  simp only [World.cell?, hB.block 7 (by omega)]

set_option maxHeartbeats 8000000 in
set_option maxRecDepth 100000 in
theorem walk3 (s : ByteArray) (w : World) (hR : Ready w) (hv : ∃ te pe, w.cell? ⟨4, 0, none⟩ = some (.iface te pe)) :
    Calls Tryz.prog 3 #[.string s] w fun e w' => e = .returned (.bool true) ∧ Below w.heap.size w w' := by
  obtain ⟨r1, r2, r3, hr⟩ := spec_total s
  have hV : spec_Version.f s = some (r1, r2, r3) := by
    unfold spec_Version.f
    rw [hr]
    rfl
  have hB : Below w.heap.size w w := .refl _ _
  cases r3
  all_goals
    go_enter Tryz.func3, Tryz.ntmps3
    go_wp2_with (first
      | (go_at_call 9; (have hR' := hR.later (w' := _) (w := w) ⟨hB.os, hB.tape, hB.output, hB.size, hB.block⟩); refine (works_calls hR'.size hR'.table).mono ?_; rintro e w1 ⟨rfl, hBn⟩; replace hB := after (w := w) hBn ⟨hB.os, hB.tape, hB.output, hB.size, hB.block⟩)
      | (go_at_call 10; refine (spec_Version.calls s r1 r2 _ _ hV).mono ?_; rintro e w' ⟨rfl, ⟨nd, rfl⟩⟩)
      | (go_at_call 11; refine (walk11 s _ r1 r2 _ hr (by exact hv)).mono ?_; rintro e w1 ⟨rfl, hBn⟩; replace hB := after (w := w) hBn ⟨hB.os, hB.tape, hB.output, hB.size, hB.block⟩))
  all_goals first | (go_ret; exact ⟨rfl, hB⟩) | trace_state
end Go.Proofs.YtbjaapiliegegaaGreatDoor
