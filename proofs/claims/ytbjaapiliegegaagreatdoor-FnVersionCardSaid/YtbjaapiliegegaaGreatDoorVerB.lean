/- The two parsers of a version answer alike. -/
import Derived.Test.YtbjaapiliegegaaGreatDoorVer
namespace Go.Proofs.YtbjaapiliegegaaGreatDoor
open Go.RowKit Go.Proofs.YtbjaapiliegegaaGreatDoor.PFnVersion Go.Proofs.YtbjaapiliegegaaGreatDoorW.PrintWords

theorem spec_pre {s : ByteArray} {r1 r2 : Int} {r3 : Bool} (h : spec_version.f s = some (r1, r2, r3)) (hp : ((s.extract 0 5).toList == ([72, 84, 84, 80, 47] : List UInt8)) = false) : r1 = 0 ∧ r2 = 0 ∧ r3 = false := by
  have hp' : ¬ (s.extract 0 5).toList = ([72, 84, 84, 80, 47] : List UInt8) := by simpa using hp
  unfold spec_version.f at h
  split at h
  · rw [if_pos (by decide)] at h
    split at h
    · first | rw [if_neg hp'] at h | skip
      cases h
      exact ⟨rfl, rfl, rfl⟩
    · cases h
  · cases h
    exact ⟨rfl, rfl, rfl⟩

theorem spec_len {s : ByteArray} {r1 r2 : Int} {r3 : Bool} (h : spec_version.f s = some (r1, r2, r3)) (hl : ¬ (s.size : Int) = 8) : r1 = 0 ∧ r2 = 0 ∧ r3 = false := by
  unfold spec_version.f at h
  rw [if_neg hl] at h
  cases h
  exact ⟨rfl, rfl, rfl⟩

abbrev eight (x d y : UInt8) : ByteArray := ⟨#[72, 84, 84, 80, 47, x, d, y]⟩

theorem eight_of {s : ByteArray} (hp : ((s.extract 0 5).toList == ([72, 84, 84, 80, 47] : List UInt8)) = true) (hl : s.size = 8) : ∃ x d y, s = eight x d y := by
  have hp' : (s.extract 0 5).toList = ([72, 84, 84, 80, 47] : List UInt8) := by simpa using hp
  rw [ByteArray.toList_eq] at hp'
  obtain ⟨⟨l⟩⟩ := s
  have hl' : l.length = 8 := hl
  match l, hl' with
  | [a, b, c, d, e, x, y, z], _ =>
    simp at hp'
    obtain ⟨rfl, rfl, rfl, rfl, rfl⟩ := hp'
    exact ⟨_, _, _, rfl⟩

theorem spec_eight {x d y : UInt8} {r1 r2 : Int} {r3 : Bool} (h : spec_version.f (eight x d y) = some (r1, r2, r3)) :
    if d = 46 ∧ digit x ∧ digit y then r1 = (x.toNat - 48 : Nat) ∧ r2 = (y.toNat - 48 : Nat) ∧ r3 = true else r1 = 0 ∧ r2 = 0 ∧ r3 = false := by
  have b5 : bt (eight x d y) 5 = (x.toNat : Int) := rfl
  have b6 : bt (eight x d y) 6 = (d.toNat : Int) := rfl
  have b7 : bt (eight x d y) 7 = (y.toNat : Int) := rfl
  have hp : ((eight x d y).extract 0 5).toList = ([72, 84, 84, 80, 47] : List UInt8) := by
    rw [ByteArray.toList_eq]; simp
  have hz : ((eight x d y).size : Int) = 8 := rfl
  have hd : d = 46 ↔ (d.toNat : Int) = 46 := by
    constructor
    · rintro rfl; rfl
    · intro e; exact UInt8.toNat_inj.1 (Int.ofNat_inj.1 e)
  unfold spec_version.f at h
  rw [if_pos hz, if_pos (by decide), if_pos (by rw [hz]; decide), if_pos hp, if_pos (by rw [hz]; decide)] at h
  simp only [b5, b6, b7, hz] at h
  have hx := x.toNat_lt
  have hy := y.toNat_lt
  by_cases h6 : (d.toNat : Int) = 46
  · rw [if_pos h6, if_pos (by decide)] at h
    split at h
    · cases h; rw [if_neg (by unfold digit; omega)]; exact ⟨rfl, rfl, rfl⟩
    · split at h
      · cases h; rw [if_neg (by unfold digit; omega)]; exact ⟨rfl, rfl, rfl⟩
      · rw [if_pos (by decide)] at h
        split at h
        · cases h; rw [if_neg (by unfold digit; omega)]; exact ⟨rfl, rfl, rfl⟩
        · split at h
          · cases h; rw [if_neg (by unfold digit; omega)]; exact ⟨rfl, rfl, rfl⟩
          · cases h
            rw [if_pos ⟨hd.2 h6, by unfold digit; omega, by unfold digit; omega⟩]
            exact ⟨by omega, by omega, rfl⟩
  · rw [if_neg h6] at h
    cases h
    rw [if_neg (fun e => h6 (hd.1 e.1))]
    exact ⟨rfl, rfl, rfl⟩

theorem walk30 (s : ByteArray) (w : World) (r1 r2 : Int) (r3 : Bool) (h : spec_version.f s = some (r1, r2, r3)) (hv : ∃ te pe, w.cell? ⟨4, 0, none⟩ = some (.iface te pe)) :
    Calls Tryz.prog 30 #[.string s] w fun e w' => e = .returned (.tuple #[.int .i64 r1, .int .i64 r2, .bool r3]) ∧ Below w.heap.size w w' := by
  have hs : ∀ l : List UInt8, (s.toList == l) = true → s = ⟨l.toArray⟩ := by
    intro l e
    have e' : s.toList = l := by simpa using e
    rw [ByteArray.toList_eq] at e'
    obtain ⟨⟨m⟩⟩ := s
    subst e'
    rfl
  cases h1 : s.toList == v11 with
  | true =>
    have e := hs _ h1
    have : spec_version.f ⟨v11.toArray⟩ = some (1, 1, true) := by kernel_rfl
    rw [e, this] at h
    cases h
    exact walk30_11 s w h1
  | false =>
    cases h0 : s.toList == v10 with
    | true =>
      have e := hs _ h0
      have : spec_version.f ⟨v10.toArray⟩ = some (1, 0, true) := by kernel_rfl
      rw [e, this] at h
      cases h
      exact walk30_10 s w h1 h0
    | false =>
      cases hp : (s.extract 0 5).toList == ([72, 84, 84, 80, 47] : List UInt8) with
      | false =>
        obtain ⟨rfl, rfl, rfl⟩ := spec_pre h hp
        exact walk30_pre s w h1 h0 hp
      | true =>
        by_cases hl : s.size = 8
        · obtain ⟨x, d, y, rfl⟩ := eight_of hp hl
          have hr := spec_eight h
          have e5 : (eight x d y).extract 5 6 = ⟨#[x]⟩ := by apply ByteArray.ext; simp
          have e7 : (eight x d y).extract 7 8 = ⟨#[y]⟩ := by apply ByteArray.ext; simp
          by_cases hd : d = 46
          · subst hd
            by_cases hx : digit x
            · by_cases hy : digit y
              · rw [if_pos ⟨rfl, hx, hy⟩] at hr
                obtain ⟨rfl, rfl, rfl⟩ := hr
                exact walk30_ok _ x y w h1 h0 hp hl (fun _ => rfl) e5 e7 hx hy hv
              · rw [if_neg (fun h => hy h.2.2)] at hr
                obtain ⟨rfl, rfl, rfl⟩ := hr
                exact walk30_seven _ x y w h1 h0 hp hl (fun _ => rfl) e5 e7 hx hy hv
            · rw [if_neg (fun h => hx h.2.1)] at hr
              obtain ⟨rfl, rfl, rfl⟩ := hr
              exact walk30_five _ x w h1 h0 hp hl (fun _ => rfl) e5 hx hv
          · rw [if_neg (fun h => hd h.1)] at hr
            obtain ⟨rfl, rfl, rfl⟩ := hr
            exact walk30_dot _ w h1 h0 hp hl (fun _ => hd)
        · obtain ⟨rfl, rfl, rfl⟩ := spec_len h (by omega)
          exact walk30_len s w h1 h0 hp (by rw [bne_iff_ne]; omega)

set_option maxHeartbeats 8000000 in
set_option maxRecDepth 100000 in
theorem walk11 (s : ByteArray) (w : World) (r1 r2 : Int) (r3 : Bool) (h : spec_version.f s = some (r1, r2, r3)) (hv : ∃ te pe, w.cell? ⟨4, 0, none⟩ = some (.iface te pe)) :
    Calls Tryz.prog 11 #[.string s] w fun e w' => e = .returned (.tuple #[.int .i64 r1, .int .i64 r2, .bool r3]) ∧ Below w.heap.size w w' := by
  go_enter Tryz.func11, Tryz.ntmps11
  go_wp2_with (first
    | (go_at_call 30; refine (walk30 s _ r1 r2 r3 h hv).mono ?_; rintro e w' ⟨rfl, hB⟩))
  go_ret3
  exact ⟨rfl, hB⟩
end Go.Proofs.YtbjaapiliegegaaGreatDoor
