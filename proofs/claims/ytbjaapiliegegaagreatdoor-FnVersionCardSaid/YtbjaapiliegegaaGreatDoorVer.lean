/- ParseHTTPVersion answers as the reference does. -/
import Derived.WalkKit
import Derived.Test.YtbjaapiliegegaaGreatDoorLib
import Derived.Test.YtbjaapiliegegaaGreatDoorPFnVersionx8
import Derived.Test.YtbjaapiliegegaaGreatDoorPFnVersionx16
namespace Go.Proofs.YtbjaapiliegegaaGreatDoor
open Go.RowKit Go.Proofs.YtbjaapiliegegaaGreatDoor.PFnVersion

/-- One byte, read as a number. -/
def isOk (c : UInt8) (r : Go.Lib.NumEnd Nat) : Bool :=
  match r with
  | .ok u => decide (48 ≤ c.toNat ∧ c.toNat ≤ 57 ∧ u = c.toNat - 48)
  | .range => false
  | _ => decide (¬ (48 ≤ c.toNat ∧ c.toNat ≤ 57))

theorem one_all : (List.range 256).all (fun n => isOk (UInt8.ofNat n) (Go.Lib.parseUintB 64 [UInt8.ofNat n])) = true := by kernel_rfl

theorem one_is (c : UInt8) : isOk c (Go.Lib.parseUintB 64 [c]) = true := by
  have := List.all_eq_true.1 one_all c.toNat (List.mem_range.2 c.toNat_lt)
  simpa using this

abbrev httpS : ByteArray := ⟨#[72, 84, 84, 80, 47]⟩

theorem hasPre (s : ByteArray) : strings_HasPrefix.f s httpS = some ((s.extract 0 5).toList == ([72, 84, 84, 80, 47] : List UInt8)) := by
  unfold strings_HasPrefix.f stringslite_HasPrefix.f
  have h5 : (httpS.size : Int) = 5 := rfl
  have hl : httpS.toList = ([72, 84, 84, 80, 47] : List UInt8) := by kernel_rfl
  simp only [h5, hl]
  by_cases h : (s.size : Int) ≥ 5
  · simp [h]
  · rw [if_neg h]
    simp only [Option.bind_some, Option.some.injEq]
    symm
    rw [beq_eq_false_iff_ne]
    intro e
    have := congrArg List.length e
    rw [ByteArray.toList_eq] at this
    simp at this
    omega

abbrev v11 : List UInt8 := [72, 84, 84, 80, 47, 49, 46, 49]
abbrev v10 : List UInt8 := [72, 84, 84, 80, 47, 49, 46, 48]

set_option maxHeartbeats 8000000 in
set_option maxRecDepth 100000 in
theorem walk30_pre (s : ByteArray) (w : World) (h1 : (s.toList == v11) = false) (h0 : (s.toList == v10) = false) (hp : ((s.extract 0 5).toList == ([72, 84, 84, 80, 47] : List UInt8)) = false) :
    Calls Tryz.prog 30 #[.string s] w fun e w' => e = .returned (.tuple #[.int .i64 0, .int .i64 0, .bool false]) ∧ Below w.heap.size w w' := by
  have hc := hasPre s
  rw [hp] at hc
  go_enter Tryz.func30, Tryz.ntmps30
  go_wp2_with (first
    | (go_at_call 63; refine (strings_HasPrefix.calls s httpS _ _ hc).mono ?_; rintro e w' ⟨rfl, ⟨nd, rfl⟩⟩))
  all_goals (go_ret3; exact ⟨rfl, rfl, rfl, rfl, Nat.le_refl _, fun _ _ => rfl⟩)

set_option maxHeartbeats 8000000 in
set_option maxRecDepth 100000 in
theorem walk30_len (s : ByteArray) (w : World) (h1 : (s.toList == v11) = false) (h0 : (s.toList == v10) = false) (hp : ((s.extract 0 5).toList == ([72, 84, 84, 80, 47] : List UInt8)) = true) (hl : ((s.size : Int) != 8) = true) :
    Calls Tryz.prog 30 #[.string s] w fun e w' => e = .returned (.tuple #[.int .i64 0, .int .i64 0, .bool false]) ∧ Below w.heap.size w w' := by
  have hc := hasPre s
  rw [hp] at hc
  go_enter Tryz.func30, Tryz.ntmps30
  go_wp2_with (first
    | (go_at_call 63; refine (strings_HasPrefix.calls s httpS _ _ hc).mono ?_; rintro e w' ⟨rfl, ⟨nd, rfl⟩⟩))
  all_goals (go_ret3; exact ⟨rfl, rfl, rfl, rfl, Nat.le_refl _, fun _ _ => rfl⟩)
abbrev digit (c : UInt8) : Prop := 48 ≤ c.toNat ∧ c.toNat ≤ 57

theorem good_is (c : UInt8) (hc : digit c) : Go.Lib.parseUintB 64 [c] = .ok (c.toNat - 48) := by
  have := one_is c
  cases hr : Go.Lib.parseUintB 64 [c] <;> rw [hr] at this
  all_goals first | (cases this; done) | (have h := of_decide_eq_true this; first | rw [h.2.2] | exact absurd hc h)

theorem bad_is (c : UInt8) (hc : ¬ digit c) : Go.Lib.parseUintB 64 [c] = Go.Lib.parseUintB 64 [] := by
  have := one_is c
  cases hr : Go.Lib.parseUintB 64 [c] <;> rw [hr] at this
  all_goals first | rfl | (cases this; done) | (have h := of_decide_eq_true this; exact absurd ⟨h.1, h.2.1⟩ hc)

theorem pu_ok (c : UInt8) (w : World) (hc : digit c) : Calls Tryz.prog 64 #[.string ⟨#[c]⟩, .int .i64 10, .int .i64 0] w fun e w' => e = .returned (.tuple #[.int .u64 (c.toNat - 48 : Nat), .nilIface]) ∧ Below w.heap.size w w' := by
  refine (Tryz.strconv_ParseUint_10_at0_ok ⟨#[c]⟩ (by simp [ByteArray.size]) _ (good_is c hc) w).mono ?_
  rintro e w' ⟨rfl, hw⟩
  refine ⟨rfl, ?_⟩
  rcases hw with rfl | rfl
  · exact .refl _ _
  · exact Go.Lib.bytesWorld_below _ _ _

theorem pu_bad (c : UInt8) (w : World) (hv : ∃ te pe, w.cell? ⟨4, 0, none⟩ = some (.iface te pe)) (hc : ¬ digit c) : Calls Tryz.prog 64 #[.string ⟨#[c]⟩, .int .i64 10, .int .i64 0] w fun e w' => ∃ N, e = .returned (.tuple #[.int .u64 0, .iface 204 (.pointer (some ⟨N, 0, none⟩))]) ∧ Below w.heap.size w w' := by
  obtain ⟨te, pe, hv⟩ := hv
  refine (Tryz.strconv_ParseUint_10_at0_syntax ⟨#[c]⟩ (by simp [ByteArray.size]) (bad_is c hc) _ w hv (.inr ⟨te, pe, rfl⟩)).mono ?_
  rintro e w' ⟨N, rfl, _, _, hB⟩
  exact ⟨N, rfl, hB⟩

theorem pu (c : UInt8) (w : World) (hv : ∃ te pe, w.cell? ⟨4, 0, none⟩ = some (.iface te pe)) : Calls Tryz.prog 64 #[.string ⟨#[c]⟩, .int .i64 10, .int .i64 0] w fun e w' =>
    ∃ v ev, e = .returned (.tuple #[.int .u64 v, ev]) ∧ (digit c → v = (c.toNat - 48 : Nat) ∧ ev = .nilIface) ∧ (¬ digit c → ∃ N, ev = .iface 204 (.pointer (some ⟨N, 0, none⟩))) ∧ Below w.heap.size w w' := by
  by_cases hc : digit c
  · refine (pu_ok c w hc).mono ?_
    rintro e w' ⟨rfl, hB⟩
    exact ⟨_, _, rfl, fun _ => ⟨rfl, rfl⟩, fun h => absurd hc h, hB⟩
  · refine (pu_bad c w hv hc).mono ?_
    rintro e w' ⟨N, rfl, hB⟩
    exact ⟨_, _, rfl, fun h => absurd h hc, fun _ => ⟨N, rfl⟩, hB⟩

set_option maxHeartbeats 8000000 in
set_option maxRecDepth 100000 in
theorem walk30_dot (s : ByteArray) (w : World) (h1 : (s.toList == v11) = false) (h0 : (s.toList == v10) = false) (hp : ((s.extract 0 5).toList == ([72, 84, 84, 80, 47] : List UInt8)) = true) (hsz : s.size = 8)
    (hd : ∀ h, s[6]'h ≠ 46) : Calls Tryz.prog 30 #[.string s] w fun e w' => e = .returned (.tuple #[.int .i64 0, .int .i64 0, .bool false]) ∧ Below w.heap.size w w' := by
  have hc := hasPre s
  rw [hp] at hc
  have hd2 : ∀ h, (((s[6]'h).toNat : Int) != 46) = true := by
    intro h
    have := hd h
    rw [bne_iff_ne]
    intro e
    exact this (UInt8.toNat_inj.1 (by simpa using (Int.ofNat_inj.1 e)))
  go_enter Tryz.func30, Tryz.ntmps30
  go_wp2_with (first
    | (go_at_call 63; refine (strings_HasPrefix.calls s httpS _ _ hc).mono ?_; rintro e w' ⟨rfl, ⟨nd, rfl⟩⟩))
  all_goals first | (exfalso; omega) | (go_ret3; exact ⟨rfl, rfl, rfl, rfl, Nat.le_refl _, fun _ _ => rfl⟩) | trace_state

set_option maxHeartbeats 8000000 in
set_option maxRecDepth 100000 in
theorem walk30_five (s : ByteArray) (x : UInt8) (w : World) (h1 : (s.toList == v11) = false) (h0 : (s.toList == v10) = false) (hp : ((s.extract 0 5).toList == ([72, 84, 84, 80, 47] : List UInt8)) = true) (hsz : s.size = 8)
    (hd : ∀ h, s[6]'h = 46) (e5 : s.extract 5 6 = ⟨#[x]⟩) (hx : ¬ digit x) (hv : ∃ te pe, w.cell? ⟨4, 0, none⟩ = some (.iface te pe)) :
    Calls Tryz.prog 30 #[.string s] w fun e w' => e = .returned (.tuple #[.int .i64 0, .int .i64 0, .bool false]) ∧ Below w.heap.size w w' := by
  have hc := hasPre s
  rw [hp] at hc
  go_enter Tryz.func30, Tryz.ntmps30
  go_wp2_with (first
    | (go_at_call 63; refine (strings_HasPrefix.calls s httpS _ _ hc).mono ?_; rintro e w' ⟨rfl, ⟨nd, rfl⟩⟩)
    | (go_at_call 64; (try rw [e5]); refine (pu_bad x _ (by exact hv) hx).mono ?_; rintro e w' ⟨N, rfl, hB⟩))
  all_goals first | (exfalso; omega) | (go_ret3; exact ⟨rfl, hB.os, hB.tape, hB.output, hB.size, hB.block⟩)

theorem after {w a w' : World} (h : Below a.heap.size a w') (hB : Below w.heap.size w a) : Below w.heap.size w w' := hB.trans (h.mono hB.size)

theorem keep_cell {w w' : World} (hB : Below w.heap.size w w') {b : Nat} (h : ∃ te pe, w.cell? ⟨b, 0, none⟩ = some (.iface te pe)) : ∃ te pe, w'.cell? ⟨b, 0, none⟩ = some (.iface te pe) := by
  obtain ⟨te, pe, h⟩ := h
  refine ⟨te, pe, ?_⟩
  have hlt : b < w.heap.size := by
    by_cases hlt : b < w.heap.size
    · exact hlt
    · simp [World.cell?, Array.getElem?_eq_none (Nat.not_lt.1 hlt)] at h
  rw [← h]
  simp only [World.cell?, hB.block b hlt]

set_option maxHeartbeats 8000000 in
set_option maxRecDepth 100000 in
theorem walk30_seven (s : ByteArray) (x y : UInt8) (w : World) (h1 : (s.toList == v11) = false) (h0 : (s.toList == v10) = false) (hp : ((s.extract 0 5).toList == ([72, 84, 84, 80, 47] : List UInt8)) = true) (hsz : s.size = 8)
    (hd : ∀ h, s[6]'h = 46) (e5 : s.extract 5 6 = ⟨#[x]⟩) (e7 : s.extract 7 8 = ⟨#[y]⟩) (hx : digit x) (hy : ¬ digit y) (hv : ∃ te pe, w.cell? ⟨4, 0, none⟩ = some (.iface te pe)) :
    Calls Tryz.prog 30 #[.string s] w fun e w' => e = .returned (.tuple #[.int .i64 0, .int .i64 0, .bool false]) ∧ Below w.heap.size w w' := by
  have hc := hasPre s
  rw [hp] at hc
  have hB : Below w.heap.size w w := .refl _ _
  go_enter Tryz.func30, Tryz.ntmps30
  go_wp2_with (first
    | (go_at_call 63; refine (strings_HasPrefix.calls s httpS _ _ hc).mono ?_; rintro e w' ⟨rfl, ⟨nd, rfl⟩⟩)
    | (go_at_call 64; (try simp only [e5, e7]); refine (pu _ _ (by first | exact hv | exact keep_cell (w := w) ⟨hB.os, hB.tape, hB.output, hB.size, hB.block⟩ hv)).mono ?_; rintro e w1 ⟨u, ev, rfl, g1, g2, hBn⟩; replace hB := after (w := w) hBn ⟨hB.os, hB.tape, hB.output, hB.size, hB.block⟩; first | (have hg := g1 hx; obtain ⟨rfl, rfl⟩ := hg) | (have hg := g1 hy; obtain ⟨rfl, rfl⟩ := hg) | (have hg := g2 hy; obtain ⟨N, rfl⟩ := hg)))
  all_goals first | (exfalso; omega) | (go_ret3; exact ⟨rfl, hB⟩) | trace_state

set_option maxHeartbeats 8000000 in
set_option maxRecDepth 100000 in
theorem walk30_ok (s : ByteArray) (x y : UInt8) (w : World) (h1 : (s.toList == v11) = false) (h0 : (s.toList == v10) = false) (hp : ((s.extract 0 5).toList == ([72, 84, 84, 80, 47] : List UInt8)) = true) (hsz : s.size = 8)
    (hd : ∀ h, s[6]'h = 46) (e5 : s.extract 5 6 = ⟨#[x]⟩) (e7 : s.extract 7 8 = ⟨#[y]⟩) (hx : digit x) (hy : digit y) (hv : ∃ te pe, w.cell? ⟨4, 0, none⟩ = some (.iface te pe)) :
    Calls Tryz.prog 30 #[.string s] w fun e w' => e = .returned (.tuple #[.int .i64 (x.toNat - 48 : Nat), .int .i64 (y.toNat - 48 : Nat), .bool true]) ∧ Below w.heap.size w w' := by
  have hc := hasPre s
  rw [hp] at hc
  have hB : Below w.heap.size w w := .refl _ _
  go_enter Tryz.func30, Tryz.ntmps30
  go_wp2_with (first
    | (go_at_call 63; refine (strings_HasPrefix.calls s httpS _ _ hc).mono ?_; rintro e w' ⟨rfl, ⟨nd, rfl⟩⟩)
    | (go_at_call 64; (try simp only [e5, e7]); refine (pu _ _ (by first | exact hv | exact keep_cell (w := w) ⟨hB.os, hB.tape, hB.output, hB.size, hB.block⟩ hv)).mono ?_; rintro e w1 ⟨u, ev, rfl, g1, g2, hBn⟩; replace hB := after (w := w) hBn ⟨hB.os, hB.tape, hB.output, hB.size, hB.block⟩; first | (have hg := g1 hx; obtain ⟨rfl, rfl⟩ := hg) | (have hg := g1 hy; obtain ⟨rfl, rfl⟩ := hg) | (have hg := g2 hy; obtain ⟨N, rfl⟩ := hg)))
  all_goals first | (exfalso; omega) | (go_ret3; exact ⟨rfl, hB⟩) | trace_state

set_option maxHeartbeats 8000000 in
set_option maxRecDepth 100000 in
theorem walk30_11 (s : ByteArray) (w : World) (h1 : (s.toList == v11) = true) :
    Calls Tryz.prog 30 #[.string s] w fun e w' => e = .returned (.tuple #[.int .i64 1, .int .i64 1, .bool true]) ∧ Below w.heap.size w w' := by
  go_enter Tryz.func30, Tryz.ntmps30
  go_wp2
  all_goals first | (exfalso; omega) | (go_ret3; exact ⟨rfl, rfl, rfl, rfl, Nat.le_refl _, fun _ _ => rfl⟩) | trace_state

set_option maxHeartbeats 8000000 in
set_option maxRecDepth 100000 in
theorem walk30_10 (s : ByteArray) (w : World) (h1 : (s.toList == v11) = false) (h0 : (s.toList == v10) = true) :
    Calls Tryz.prog 30 #[.string s] w fun e w' => e = .returned (.tuple #[.int .i64 1, .int .i64 0, .bool true]) ∧ Below w.heap.size w w' := by
  go_enter Tryz.func30, Tryz.ntmps30
  go_wp2
  all_goals first | (exfalso; omega) | (go_ret3; exact ⟨rfl, rfl, rfl, rfl, Nat.le_refl _, fun _ _ => rfl⟩) | trace_state
end Go.Proofs.YtbjaapiliegegaaGreatDoor
