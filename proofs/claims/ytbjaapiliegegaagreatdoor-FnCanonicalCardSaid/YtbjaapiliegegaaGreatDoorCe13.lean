/- The trial run of the program comes out well. -/
import Derived.Test.YtbjaapiliegegaaGreatDoorCe12
import Derived.Test.YtbjaapiliegegaaGreatDoorCeT
namespace Go.Proofs.YtbjaapiliegegaaGreatDoor
open Go Ce

theorem works_some : ∃ h', callN Tryz.prog [57] 40 9 [] heap0 = some (.bool true, h') := by
  have := works_run
  split at this
  · rename_i b h e
    subst this
    exact ⟨h, e⟩
  · cases this

/-- The url package's table is there. -/
def Tabled (w : World) : Prop := ∀ (i : Nat) (n : Int), table0[i]? = some n → w.cell? ⟨7, i, none⟩ = some (.int .u8 n)

theorem part0_ge : ∀ (l : List Int) (k : Nat) {o : Nat} {v : AV}, Ce.look (part0 l k) o = some v → k ≤ o
  | [], k, o, v, e => by simp [part0, Ce.look] at e
  | n :: l, k, o, v, e => by
    unfold part0 Ce.look at e
    split at e
    · rename_i h; exact Nat.le_of_eq (Nat.eq_of_beq_eq_true h)
    · exact Nat.le_of_succ_le (part0_ge l (k + 1) e)

theorem part0_look : ∀ (l : List Int) (k : Nat) {o : Nat} {v : AV}, Ce.look (part0 l k) o = some v → ∃ n, l[o - k]? = some n ∧ v = .int .u8 n
  | [], k, o, v, e => by simp [part0, Ce.look] at e
  | n :: l, k, o, v, e => by
    unfold part0 Ce.look at e
    split at e
    · rename_i h
      cases e
      rw [Nat.eq_of_beq_eq_true h]
      exact ⟨n, by simp, rfl⟩
    · rename_i h
      obtain ⟨m, h1, h2⟩ := part0_look l (k + 1) e
      have hk := part0_ge l (k + 1) e
      refine ⟨m, ?_, h2⟩
      rw [show o - k = (o - (k + 1)) + 1 by omega]
      simpa using h1

theorem start_full {w : World} (ht : Tabled w) : Full w.heap.size w heap0 w := by
  refine ⟨fun b o e => ?_, Nat.le_refl _, by simp [heap0, n0], .refl _ _⟩
  simp only [heap0, Heap.at] at e
  unfold Ce.look at e
  split at e
  · rename_i hb
    cases e
    have : 7 = b := Nat.eq_of_beq_eq_true hb
    subst this
    have h0 := ht 0 0 rfl
    have hblk : ∃ C e fz, w.heap[7]? = some (.cells C e fz) := by
      unfold World.cell? at h0
      split at h0
      · rename_i C e fz hO
        exact ⟨C, e, fz, hO⟩
      · cases h0
    obtain ⟨C, e, fz, hO⟩ := hblk
    refine ⟨by simp [heap0], _, hO, C, e, fz, rfl, fun o v hv => ?_⟩
    obtain ⟨n, h1, rfl⟩ := part0_look _ _ hv
    refine ⟨_, ?_, rfl⟩
    rw [← ht o n (by simpa using h1), cell_in hO]
  · cases e

/-- THE TRIAL RUN: true, and what stood is as it was. -/
theorem works_calls {w : World} (hsz : 8 ≤ w.heap.size) (ht : Tabled w) :
    Calls Tryz.prog 9 #[] w fun e w' => e = .returned (.bool true) ∧ RowKit.Below w.heap.size w w' := by
  obtain ⟨h', e⟩ := works_some
  refine Calls.mono (callN_ok noCount mixed rfl hsz idle 40 9 [] heap0 h' (.bool true) #[] w e rfl (start_full ht)) ?_
  rintro e w' ⟨V, rfl, hv, hF⟩
  exact ⟨by rw [show V = _ from hv], hF.below⟩
end Go.Proofs.YtbjaapiliegegaaGreatDoor
