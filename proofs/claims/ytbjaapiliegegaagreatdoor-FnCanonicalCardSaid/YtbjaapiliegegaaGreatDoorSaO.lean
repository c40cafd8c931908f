/- Runs over known values: what is there on a condition. -/
import Derived.Test.YtbjaapiliegegaaGreatDoorSaR
namespace Go.Proofs.YtbjaapiliegegaaGreatDoor.Sy
open Go
variable {P : Program} {w0 : World} {K : List Fr} {tm : Tm} {df : Df} {h : Heap} {Q : Post}

/-- What is there on a condition. -/
noncomputable def only {α : Type} (p : Prop) (x : Option α) : Option α := by classical exact if p then x else none
theorem ite_only {α : Type} (p : Prop) [inst : Decidable p] (x : Option α) : @ite (Option α) p inst x none = only p x := by
  unfold only
  by_cases h : p
  · rw [if_pos h, if_pos h]
  · rw [if_neg h, if_neg h]
theorem only_pos {α : Type} {p : Prop} {x : Option α} (h : p) : only p x = x := by
  unfold only; rw [if_pos h]
theorem only_neg {α : Type} {p : Prop} {x : Option α} (h : ¬p) : only p x = none := by
  unfold only; rw [if_neg h]
theorem only_true {α : Type} (x : Option α) : only True x = x := only_pos trivial
theorem only_false {α : Type} (x : Option α) : only False x = none := only_neg id
theorem v1_only (p : Prop) (x : Option Value) : v1 h (only p x) = only p (v1 h x) := by
  by_cases hp : p
  · rw [only_pos hp, only_pos hp]
  · rw [only_neg hp, only_neg hp]; rfl
theorem v2_only (p : Prop) (x : Option (Value × Heap)) : v2 (only p x) = only p (v2 x) := by
  by_cases hp : p
  · rw [only_pos hp, only_pos hp]
  · rw [only_neg hp, only_neg hp]; rfl
theorem v3_only (p : Prop) (x : Option Heap) : v3 (only p x) = only p (v3 x) := by
  by_cases hp : p
  · rw [only_pos hp, only_pos hp]
  · rw [only_neg hp, only_neg hp]; rfl
theorem outVal_only (p : Prop) (x : Option Out) : outVal (only p x) = only p (outVal x) := by
  by_cases hp : p
  · rw [only_pos hp, only_pos hp]
  · rw [only_neg hp, only_neg hp]; rfl
theorem only_only {α : Type} (p q : Prop) (x : Option α) : only p (only q x) = only (p ∧ q) x := by
  by_cases hp : p
  · by_cases hq : q
    · rw [only_pos hp, only_pos hq, only_pos ⟨hp, hq⟩]
    · rw [only_pos hp, only_neg hq, only_neg (fun h => hq h.2)]
  · rw [only_neg hp, only_neg (fun h => hp h.1)]
theorem outM_only (p : Prop) (x : Option Out) (dst : Option Tmp) : outM P w0 (only p x) dst K tm df h Q ↔ p ∧ outM P w0 x dst K tm df h Q := by
  by_cases hp : p
  · rw [only_pos hp]; exact ⟨fun h => ⟨hp, h⟩, fun h => h.2⟩
  · rw [only_neg hp]; exact ⟨fun h => h.elim, fun h => absurd h.1 hp⟩
theorem outP_only (p : Prop) (x : Option Out) (dst : Option Tmp) (acc : Acc) (ks : List Nat) : outP P w0 (only p x) dst acc ks K tm df h Q ↔ p ∧ outP P w0 x dst acc ks K tm df h Q := by
  by_cases hp : p
  · rw [only_pos hp]; exact ⟨fun h => ⟨hp, h⟩, fun h => h.2⟩
  · rw [only_neg hp]; exact ⟨fun h => h.elim, fun h => absurd h.1 hp⟩
theorem valP_only (p : Prop) (x : Option Value) (dst : Option Tmp) : valP P w0 (only p x) dst K tm df h Q ↔ p ∧ valP P w0 x dst K tm df h Q := by
  by_cases hp : p
  · rw [only_pos hp]; exact ⟨fun h => ⟨hp, h⟩, fun h => h.2⟩
  · rw [only_neg hp]; exact ⟨fun h => h.elim, fun h => absurd h.1 hp⟩
theorem loadP_only (p : Prop) (x : Option Value) (dst : Option Tmp) (all : Array Oper) (l : Plan) (acc : Acc) (i : Nat) (t : TypeId) (b off : Nat) : loadP P w0 (only p x) dst all l acc i t b off K tm df h Q ↔ p ∧ loadP P w0 x dst all l acc i t b off K tm df h Q := by
  by_cases hp : p
  · rw [only_pos hp]; exact ⟨fun h => ⟨hp, h⟩, fun h => h.2⟩
  · rw [only_neg hp]; exact ⟨fun h => h.elim, fun h => absurd h.1 hp⟩
/-- Cells of a block that is held. -/
noncomputable def loadC (x : Option AO) (o n : Nat) : Option (List Value) :=
  match x with
  | some (.cells c _ _ _) => only (o + n ≤ c.length) (some ((c.drop o).take n))
  | _ => none
theorem loadN_eq (b o n : Nat) : loadN h b o n = loadC (h.at b) o n := by
  unfold loadN
  generalize h.at b = x
  unfold loadC
  cases x with
  | none => rfl
  | some y =>
    cases y with
    | cells c e lo hi => exact ite_only _ _
    | map => rfl
    | miter => rfl
    | siter => rfl
theorem loadC_some (c : List Value) (e : TypeId) (lo hi o n : Nat) : loadC (some (.cells c e lo hi)) o n = only (o + n ≤ c.length) (some ((c.drop o).take n)) := rfl
/-- Known bytes of a block. -/
theorem loadN_bytes {b n : Nat} {m : List UInt8} {r : List Value} {e : TypeId} {lo hi : Nat} (hat : h.at b = some (.cells (byteVals m ++ r) e lo hi)) (hn : n = m.length) : loadN h b 0 n = some (byteVals m) := by
  subst hn
  rw [loadN_eq, hat, loadC_some, only_pos (by simp [byteVals_length]), List.drop_zero, List.take_left' (by rw [byteVals_length])]
attribute [push_cast] loadN_eq loadC_some
attribute [push_cast] only_true only_false v1_only v2_only v3_only outVal_only only_only outM_only outP_only valP_only loadP_only
end Go.Proofs.YtbjaapiliegegaaGreatDoor.Sy
