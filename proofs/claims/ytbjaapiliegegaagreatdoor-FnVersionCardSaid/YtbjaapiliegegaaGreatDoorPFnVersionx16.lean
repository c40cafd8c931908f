-- PRINTED BY print.sh 35421559b90ae4d0a3588c463048766b98c2df88dd9212a6774a882060cdf62d: not written by this session
import Derived.Test.YtbjaapiliegegaaGreatDoorPFnVersionx0
namespace Go.Proofs.YtbjaapiliegegaaGreatDoor.PFnVersion
open Go.RowKit Go.Proofs.YtbjaapiliegegaaGreatDoorW.PrintWords Go.Proofs.YtbjaapiliegegaaGreatDoorW.PrintLast Go.Proofs.YtbjaapiliegegaaGreatDoorW.PrintMore
attribute [local go_sem] max2_int min2_int max_two min_two max_three min_three max_four min_four   -- for this text's walks alone
set_option linter.unusedVariables false
set_option linter.unusedSimpArgs false

/-! ### spec_version: function 29 -/
def spec_version.f (a0 : ByteArray) : Option (Int × Int × Bool) := if (a0.size : Int) = 8 then (if 0 ≤ 5 then (if 5 ≤ (a0.size : Int) then (if (a0.extract 0 5).toList = ([72, 84, 84, 80, 47] : List UInt8) then (if 6 < (a0.size : Int) then (if (bt a0 6) = 46 then (if 5 < (a0.size : Int) then (if (bt a0 5) < 48 then (some (0, 0, false)) else (if (bt a0 5) > 57 then (some (0, 0, false)) else (if 7 < (a0.size : Int) then (if (bt a0 7) < 48 then (some (0, 0, false)) else (if (bt a0 7) > 57 then (some (0, 0, false)) else (some (((bt a0 5) - 48) % 256, ((bt a0 7) - 48) % 256, true)))) else (none)))) else (none)) else (some (0, 0, false))) else (none)) else (some (0, 0, false))) else (none)) else (none)) else (some (0, 0, false))
set_option maxHeartbeats 8000000 in
set_option maxRecDepth 100000 in
theorem spec_version.calls (a0 : ByteArray) (r1 : Int) (r2 : Int) (r3 : Bool) (w : World) (h : spec_version.f a0 = some (r1, r2, r3)) :
    Calls Tryz.prog 29 #[.string a0] w fun e w' => e = .returned (.tuple #[.int .i64 r1, .int .i64 r2, .bool r3]) ∧ Drawn0 w w' := by
  have H : (if (a0.size : Int) = 8 then (if 0 ≤ 5 then (if 5 ≤ (a0.size : Int) then (if (a0.extract 0 5).toList = ([72, 84, 84, 80, 47] : List UInt8) then (if 6 < (a0.size : Int) then (if (bt a0 6) = 46 then (if 5 < (a0.size : Int) then (if (bt a0 5) < 48 then (some (0, 0, false)) else (if (bt a0 5) > 57 then (some (0, 0, false)) else (if 7 < (a0.size : Int) then (if (bt a0 7) < 48 then (some (0, 0, false)) else (if (bt a0 7) > 57 then (some (0, 0, false)) else (some (((bt a0 5) - 48) % 256, ((bt a0 7) - 48) % 256, true)))) else (none)))) else (none)) else (some (0, 0, false))) else (none)) else (some (0, 0, false))) else (none)) else (none)) else (some (0, 0, false))) = some (r1, r2, r3) := h
  clear h
  by_cases c2 : (a0.size : Int) = 8
  · rw [if_pos c2] at H
    have c2b0 : ((a0.size : Int) == 8) = true := beq_iff_eq.mpr c2
    have c2b1 : ((a0.size : Int) != 8) = false := bne_eq_false_iff_eq.mpr c2
    clear c2
    by_cases c3 : 0 ≤ 5
    · rw [if_pos c3] at H
      have c3b0 := eq_true c3
      have c3b1 : decide (0 ≤ 5) = true := decide_eq_true c3
      clear c3
      by_cases c4 : 5 ≤ (a0.size : Int)
      · rw [if_pos c4] at H
        have c4b0 := eq_true c4
        have c4b1 : decide (5 ≤ (a0.size : Int)) = true := decide_eq_true c4
        clear c4
        by_cases c5 : (a0.extract 0 5).toList = ([72, 84, 84, 80, 47] : List UInt8)
        · rw [if_pos c5] at H
          have c5b0 : ((a0.extract 0 5).toList == ([72, 84, 84, 80, 47] : List UInt8)) = true := beq_iff_eq.mpr c5
          have c5b1 : ((a0.extract 0 5).toList != ([72, 84, 84, 80, 47] : List UInt8)) = false := bne_eq_false_iff_eq.mpr c5
          clear c5
          by_cases c6 : 6 < (a0.size : Int)
          · rw [if_pos c6] at H
            have c6b0 : decide (6 < (a0.size : Int)) = true := decide_eq_true c6
            have c6b1 : decide (6 < a0.size) = true := decide_eq_true (by omega)
            clear c6
            by_cases c8 : (bt a0 6) = 46
            · rw [if_pos c8] at H
              have c8b0 : ((bt a0 6) == 46) = true := beq_iff_eq.mpr c8
              have c8b1 : ((bt a0 6) != 46) = false := bne_eq_false_iff_eq.mpr c8
              clear c8
              by_cases c9 : 5 < (a0.size : Int)
              · rw [if_pos c9] at H
                have c9b0 : decide (5 < (a0.size : Int)) = true := decide_eq_true c9
                have c9b1 : decide (5 < a0.size) = true := decide_eq_true (by omega)
                clear c9
                by_cases c11 : (bt a0 5) < 48
                · rw [if_pos c11] at H
                  have c11b0 : decide ((bt a0 5) < 48) = true := decide_eq_true c11
                  clear c11
                  simp only [Option.some.injEq, Prod.mk.injEq] at H
                  obtain ⟨rfl, rfl, rfl⟩ := H
                  have p7 : 0 ≤ (6 : Int) := (by omega)
                  have q7 : 6 < a0.size := (by have : (6 : Int) < (a0.size : Int) := of_decide_eq_true (by first | (with_reducible assumption) | assumption); omega)
                  have hx7 : ∀ h : 6 < a0.size, ((a0[6]'h).toNat : Int) = bt a0 6 := bt_at a0 6
                  clear p7
                  have qi7 : (6 < (a0.size : Int)) = True := eq_true (of_decide_eq_true (by first | (with_reducible assumption) | assumption))
                  replace q7 := eq_true q7
                  have p10 : 0 ≤ (5 : Int) := (by omega)
                  have q10 : 5 < a0.size := (by have : (5 : Int) < (a0.size : Int) := of_decide_eq_true (by first | (with_reducible assumption) | assumption); omega)
                  have hx10 : ∀ h : 5 < a0.size, ((a0[5]'h).toNat : Int) = bt a0 5 := bt_at a0 5
                  clear p10
                  have qi10 : (5 < (a0.size : Int)) = True := eq_true (of_decide_eq_true (by first | (with_reducible assumption) | assumption))
                  replace q10 := eq_true q10
                  go_enter Tryz.func29, Tryz.ntmps29
                  go_wp2
                  repeat (go_quiet (fail); try go_wp2)
                  go_ret3
                  exact ⟨by first | rfl | (simp; done) | (simp [*]; done), by repeat (first | exact Drawn0.refl _ | apply Drawn0.step)⟩
                · rw [if_neg c11] at H
                  have c11b0 : decide ((bt a0 5) < 48) = false := decide_eq_false c11
                  clear c11
                  by_cases c13 : (bt a0 5) > 57
                  · rw [if_pos c13] at H
                    have c13b0 : decide (57 < (bt a0 5)) = true := decide_eq_true c13
                    clear c13
                    simp only [Option.some.injEq, Prod.mk.injEq] at H
                    obtain ⟨rfl, rfl, rfl⟩ := H
                    have p7 : 0 ≤ (6 : Int) := (by omega)
                    have q7 : 6 < a0.size := (by have : (6 : Int) < (a0.size : Int) := of_decide_eq_true (by first | (with_reducible assumption) | assumption); omega)
                    have hx7 : ∀ h : 6 < a0.size, ((a0[6]'h).toNat : Int) = bt a0 6 := bt_at a0 6
                    clear p7
                    have qi7 : (6 < (a0.size : Int)) = True := eq_true (of_decide_eq_true (by first | (with_reducible assumption) | assumption))
                    replace q7 := eq_true q7
                    have p10 : 0 ≤ (5 : Int) := (by omega)
                    have q10 : 5 < a0.size := (by have : (5 : Int) < (a0.size : Int) := of_decide_eq_true (by first | (with_reducible assumption) | assumption); omega)
                    have hx10 : ∀ h : 5 < a0.size, ((a0[5]'h).toNat : Int) = bt a0 5 := bt_at a0 5
                    clear p10
                    have qi10 : (5 < (a0.size : Int)) = True := eq_true (of_decide_eq_true (by first | (with_reducible assumption) | assumption))
                    replace q10 := eq_true q10
                    have p12 : 0 ≤ (5 : Int) := (by omega)
                    have q12 : 5 < a0.size := (by have : (5 : Int) < (a0.size : Int) := of_decide_eq_true (by first | (with_reducible assumption) | assumption); omega)
                    have hx12 : ∀ h : 5 < a0.size, ((a0[5]'h).toNat : Int) = bt a0 5 := bt_at a0 5
                    clear p12
                    have qi12 : (5 < (a0.size : Int)) = True := eq_true (of_decide_eq_true (by first | (with_reducible assumption) | assumption))
                    replace q12 := eq_true q12
                    go_enter Tryz.func29, Tryz.ntmps29
                    go_wp2
                    repeat (go_quiet (fail); try go_wp2)
                    go_ret3
                    exact ⟨by first | rfl | (simp; done) | (simp [*]; done), by repeat (first | exact Drawn0.refl _ | apply Drawn0.step)⟩
                  · rw [if_neg c13] at H
                    have c13b0 : decide (57 < (bt a0 5)) = false := decide_eq_false c13
                    clear c13
                    by_cases c14 : 7 < (a0.size : Int)
                    · rw [if_pos c14] at H
                      have c14b0 : decide (7 < (a0.size : Int)) = true := decide_eq_true c14
                      have c14b1 : decide (7 < a0.size) = true := decide_eq_true (by omega)
                      clear c14
                      by_cases c16 : (bt a0 7) < 48
                      · rw [if_pos c16] at H
                        have c16b0 : decide ((bt a0 7) < 48) = true := decide_eq_true c16
                        clear c16
                        simp only [Option.some.injEq, Prod.mk.injEq] at H
                        obtain ⟨rfl, rfl, rfl⟩ := H
                        have p7 : 0 ≤ (6 : Int) := (by omega)
                        have q7 : 6 < a0.size := (by have : (6 : Int) < (a0.size : Int) := of_decide_eq_true (by first | (with_reducible assumption) | assumption); omega)
                        have hx7 : ∀ h : 6 < a0.size, ((a0[6]'h).toNat : Int) = bt a0 6 := bt_at a0 6
                        clear p7
                        have qi7 : (6 < (a0.size : Int)) = True := eq_true (of_decide_eq_true (by first | (with_reducible assumption) | assumption))
                        replace q7 := eq_true q7
                        have p10 : 0 ≤ (5 : Int) := (by omega)
                        have q10 : 5 < a0.size := (by have : (5 : Int) < (a0.size : Int) := of_decide_eq_true (by first | (with_reducible assumption) | assumption); omega)
                        have hx10 : ∀ h : 5 < a0.size, ((a0[5]'h).toNat : Int) = bt a0 5 := bt_at a0 5
                        clear p10
                        have qi10 : (5 < (a0.size : Int)) = True := eq_true (of_decide_eq_true (by first | (with_reducible assumption) | assumption))
                        replace q10 := eq_true q10
                        have p12 : 0 ≤ (5 : Int) := (by omega)
                        have q12 : 5 < a0.size := (by have : (5 : Int) < (a0.size : Int) := of_decide_eq_true (by first | (with_reducible assumption) | assumption); omega)
                        have hx12 : ∀ h : 5 < a0.size, ((a0[5]'h).toNat : Int) = bt a0 5 := bt_at a0 5
                        clear p12
                        have qi12 : (5 < (a0.size : Int)) = True := eq_true (of_decide_eq_true (by first | (with_reducible assumption) | assumption))
                        replace q12 := eq_true q12
                        have p15 : 0 ≤ (7 : Int) := (by omega)
                        have q15 : 7 < a0.size := (by have : (7 : Int) < (a0.size : Int) := of_decide_eq_true (by first | (with_reducible assumption) | assumption); omega)
                        have hx15 : ∀ h : 7 < a0.size, ((a0[7]'h).toNat : Int) = bt a0 7 := bt_at a0 7
                        clear p15
                        have qi15 : (7 < (a0.size : Int)) = True := eq_true (of_decide_eq_true (by first | (with_reducible assumption) | assumption))
                        replace q15 := eq_true q15
                        go_enter Tryz.func29, Tryz.ntmps29
                        go_wp2
                        repeat (go_quiet (fail); try go_wp2)
                        go_ret3
                        exact ⟨by first | rfl | (simp; done) | (simp [*]; done), by repeat (first | exact Drawn0.refl _ | apply Drawn0.step)⟩
                      · rw [if_neg c16] at H
                        have c16b0 : decide ((bt a0 7) < 48) = false := decide_eq_false c16
                        clear c16
                        by_cases c18 : (bt a0 7) > 57
                        · rw [if_pos c18] at H
                          have c18b0 : decide (57 < (bt a0 7)) = true := decide_eq_true c18
                          clear c18
                          simp only [Option.some.injEq, Prod.mk.injEq] at H
                          obtain ⟨rfl, rfl, rfl⟩ := H
                          have p7 : 0 ≤ (6 : Int) := (by omega)
                          have q7 : 6 < a0.size := (by have : (6 : Int) < (a0.size : Int) := of_decide_eq_true (by first | (with_reducible assumption) | assumption); omega)
                          have hx7 : ∀ h : 6 < a0.size, ((a0[6]'h).toNat : Int) = bt a0 6 := bt_at a0 6
                          clear p7
                          have qi7 : (6 < (a0.size : Int)) = True := eq_true (of_decide_eq_true (by first | (with_reducible assumption) | assumption))
                          replace q7 := eq_true q7
                          have p10 : 0 ≤ (5 : Int) := (by omega)
                          have q10 : 5 < a0.size := (by have : (5 : Int) < (a0.size : Int) := of_decide_eq_true (by first | (with_reducible assumption) | assumption); omega)
                          have hx10 : ∀ h : 5 < a0.size, ((a0[5]'h).toNat : Int) = bt a0 5 := bt_at a0 5
                          clear p10
                          have qi10 : (5 < (a0.size : Int)) = True := eq_true (of_decide_eq_true (by first | (with_reducible assumption) | assumption))
                          replace q10 := eq_true q10
                          have p12 : 0 ≤ (5 : Int) := (by omega)
                          have q12 : 5 < a0.size := (by have : (5 : Int) < (a0.size : Int) := of_decide_eq_true (by first | (with_reducible assumption) | assumption); omega)
                          have hx12 : ∀ h : 5 < a0.size, ((a0[5]'h).toNat : Int) = bt a0 5 := bt_at a0 5
                          clear p12
                          have qi12 : (5 < (a0.size : Int)) = True := eq_true (of_decide_eq_true (by first | (with_reducible assumption) | assumption))
                          replace q12 := eq_true q12
                          have p15 : 0 ≤ (7 : Int) := (by omega)
                          have q15 : 7 < a0.size := (by have : (7 : Int) < (a0.size : Int) := of_decide_eq_true (by first | (with_reducible assumption) | assumption); omega)
                          have hx15 : ∀ h : 7 < a0.size, ((a0[7]'h).toNat : Int) = bt a0 7 := bt_at a0 7
                          clear p15
                          have qi15 : (7 < (a0.size : Int)) = True := eq_true (of_decide_eq_true (by first | (with_reducible assumption) | assumption))
                          replace q15 := eq_true q15
                          have p17 : 0 ≤ (7 : Int) := (by omega)
                          have q17 : 7 < a0.size := (by have : (7 : Int) < (a0.size : Int) := of_decide_eq_true (by first | (with_reducible assumption) | assumption); omega)
                          have hx17 : ∀ h : 7 < a0.size, ((a0[7]'h).toNat : Int) = bt a0 7 := bt_at a0 7
                          clear p17
                          have qi17 : (7 < (a0.size : Int)) = True := eq_true (of_decide_eq_true (by first | (with_reducible assumption) | assumption))
                          replace q17 := eq_true q17
                          go_enter Tryz.func29, Tryz.ntmps29
                          go_wp2
                          repeat (go_quiet (fail); try go_wp2)
                          go_ret3
                          exact ⟨by first | rfl | (simp; done) | (simp [*]; done), by repeat (first | exact Drawn0.refl _ | apply Drawn0.step)⟩
                        · rw [if_neg c18] at H
                          have c18b0 : decide (57 < (bt a0 7)) = false := decide_eq_false c18
                          clear c18
                          simp only [Option.some.injEq, Prod.mk.injEq] at H
                          obtain ⟨rfl, rfl, rfl⟩ := H
                          have p7 : 0 ≤ (6 : Int) := (by omega)
                          have q7 : 6 < a0.size := (by have : (6 : Int) < (a0.size : Int) := of_decide_eq_true (by first | (with_reducible assumption) | assumption); omega)
                          have hx7 : ∀ h : 6 < a0.size, ((a0[6]'h).toNat : Int) = bt a0 6 := bt_at a0 6
                          clear p7
                          have qi7 : (6 < (a0.size : Int)) = True := eq_true (of_decide_eq_true (by first | (with_reducible assumption) | assumption))
                          replace q7 := eq_true q7
                          have p10 : 0 ≤ (5 : Int) := (by omega)
                          have q10 : 5 < a0.size := (by have : (5 : Int) < (a0.size : Int) := of_decide_eq_true (by first | (with_reducible assumption) | assumption); omega)
                          have hx10 : ∀ h : 5 < a0.size, ((a0[5]'h).toNat : Int) = bt a0 5 := bt_at a0 5
                          clear p10
                          have qi10 : (5 < (a0.size : Int)) = True := eq_true (of_decide_eq_true (by first | (with_reducible assumption) | assumption))
                          replace q10 := eq_true q10
                          have p12 : 0 ≤ (5 : Int) := (by omega)
                          have q12 : 5 < a0.size := (by have : (5 : Int) < (a0.size : Int) := of_decide_eq_true (by first | (with_reducible assumption) | assumption); omega)
                          have hx12 : ∀ h : 5 < a0.size, ((a0[5]'h).toNat : Int) = bt a0 5 := bt_at a0 5
                          clear p12
                          have qi12 : (5 < (a0.size : Int)) = True := eq_true (of_decide_eq_true (by first | (with_reducible assumption) | assumption))
                          replace q12 := eq_true q12
                          have p15 : 0 ≤ (7 : Int) := (by omega)
                          have q15 : 7 < a0.size := (by have : (7 : Int) < (a0.size : Int) := of_decide_eq_true (by first | (with_reducible assumption) | assumption); omega)
                          have hx15 : ∀ h : 7 < a0.size, ((a0[7]'h).toNat : Int) = bt a0 7 := bt_at a0 7
                          clear p15
                          have qi15 : (7 < (a0.size : Int)) = True := eq_true (of_decide_eq_true (by first | (with_reducible assumption) | assumption))
                          replace q15 := eq_true q15
                          have p17 : 0 ≤ (7 : Int) := (by omega)
                          have q17 : 7 < a0.size := (by have : (7 : Int) < (a0.size : Int) := of_decide_eq_true (by first | (with_reducible assumption) | assumption); omega)
                          have hx17 : ∀ h : 7 < a0.size, ((a0[7]'h).toNat : Int) = bt a0 7 := bt_at a0 7
                          clear p17
                          have qi17 : (7 < (a0.size : Int)) = True := eq_true (of_decide_eq_true (by first | (with_reducible assumption) | assumption))
                          replace q17 := eq_true q17
                          have p19 : 0 ≤ (5 : Int) := (by omega)
                          have q19 : 5 < a0.size := (by have : (5 : Int) < (a0.size : Int) := of_decide_eq_true (by first | (with_reducible assumption) | assumption); omega)
                          have hx19 : ∀ h : 5 < a0.size, ((a0[5]'h).toNat : Int) = bt a0 5 := bt_at a0 5
                          clear p19
                          have qi19 : (5 < (a0.size : Int)) = True := eq_true (of_decide_eq_true (by first | (with_reducible assumption) | assumption))
                          replace q19 := eq_true q19
                          have p20 : 0 ≤ (7 : Int) := (by omega)
                          have q20 : 7 < a0.size := (by have : (7 : Int) < (a0.size : Int) := of_decide_eq_true (by first | (with_reducible assumption) | assumption); omega)
                          have hx20 : ∀ h : 7 < a0.size, ((a0[7]'h).toNat : Int) = bt a0 7 := bt_at a0 7
                          clear p20
                          have qi20 : (7 < (a0.size : Int)) = True := eq_true (of_decide_eq_true (by first | (with_reducible assumption) | assumption))
                          replace q20 := eq_true q20
                          go_enter Tryz.func29, Tryz.ntmps29
                          go_wp2
                          repeat (go_quiet (fail); try go_wp2)
                          go_ret3
                          exact ⟨by first | rfl | (simp; done) | (simp [*]; done), by repeat (first | exact Drawn0.refl _ | apply Drawn0.step)⟩
                    · rw [if_neg c14] at H
                      exact absurd H (by simp)
              · rw [if_neg c9] at H
                exact absurd H (by simp)
            · rw [if_neg c8] at H
              have c8b0 : ((bt a0 6) == 46) = false := beq_eq_false_iff_ne.mpr c8
              have c8b1 : ((bt a0 6) != 46) = true := bne_iff_ne.mpr c8
              simp only [Option.some.injEq, Prod.mk.injEq] at H
              obtain ⟨rfl, rfl, rfl⟩ := H
              have p7 : 0 ≤ (6 : Int) := (by omega)
              have q7 : 6 < a0.size := (by have : (6 : Int) < (a0.size : Int) := of_decide_eq_true (by first | (with_reducible assumption) | assumption); omega)
              have hx7 : ∀ h : 6 < a0.size, ((a0[6]'h).toNat : Int) = bt a0 6 := bt_at a0 6
              clear p7
              have qi7 : (6 < (a0.size : Int)) = True := eq_true (of_decide_eq_true (by first | (with_reducible assumption) | assumption))
              replace q7 := eq_true q7
              go_enter Tryz.func29, Tryz.ntmps29
              go_wp2
              repeat (go_quiet (fail); try go_wp2)
              go_ret3
              exact ⟨by first | rfl | (simp; done) | (simp [*]; done), by repeat (first | exact Drawn0.refl _ | apply Drawn0.step)⟩
          · rw [if_neg c6] at H
            exact absurd H (by simp)
        · rw [if_neg c5] at H
          have c5b0 : ((a0.extract 0 5).toList == ([72, 84, 84, 80, 47] : List UInt8)) = false := beq_eq_false_iff_ne.mpr c5
          have c5b1 : ((a0.extract 0 5).toList != ([72, 84, 84, 80, 47] : List UInt8)) = true := bne_iff_ne.mpr c5
          simp only [Option.some.injEq, Prod.mk.injEq] at H
          obtain ⟨rfl, rfl, rfl⟩ := H
          go_enter Tryz.func29, Tryz.ntmps29
          go_wp2
          repeat (go_quiet (fail); try go_wp2)
          go_ret3
          exact ⟨by first | rfl | (simp; done) | (simp [*]; done), by repeat (first | exact Drawn0.refl _ | apply Drawn0.step)⟩
      · rw [if_neg c4] at H
        exact absurd H (by simp)
    · rw [if_neg c3] at H
      exact absurd H (by simp)
  · rw [if_neg c2] at H
    have c2b0 : ((a0.size : Int) == 8) = false := beq_eq_false_iff_ne.mpr c2
    have c2b1 : ((a0.size : Int) != 8) = true := bne_iff_ne.mpr c2
    simp only [Option.some.injEq, Prod.mk.injEq] at H
    obtain ⟨rfl, rfl, rfl⟩ := H
    go_enter Tryz.func29, Tryz.ntmps29
    go_wp2
    repeat (go_quiet (fail); try go_wp2)
    go_ret3
    exact ⟨by first | rfl | (simp; done) | (simp [*]; done), by repeat (first | exact Drawn0.refl _ | apply Drawn0.step)⟩

/-! ### spec_Version: function 10 -/
def spec_Version.f (a0 : ByteArray) : Option (Int × Int × Bool) := (spec_version.f a0).bind fun bt394 => (some (bt394.1, bt394.2.1, bt394.2.2))
set_option maxHeartbeats 8000000 in
set_option maxRecDepth 100000 in
theorem spec_Version.calls (a0 : ByteArray) (r1 : Int) (r2 : Int) (r3 : Bool) (w : World) (h : spec_Version.f a0 = some (r1, r2, r3)) :
    Calls Tryz.prog 10 #[.string a0] w fun e w' => e = .returned (.tuple #[.int .i64 r1, .int .i64 r2, .bool r3]) ∧ Drawn0 w w' := by
  have H : ((spec_version.f a0).bind fun bt394 => (some (bt394.1, bt394.2.1, bt394.2.2))) = some (r1, r2, r3) := h
  clear h
  replace H := Option.bind_eq_some_iff.mp H
  obtain ⟨⟨t394, t395, t396⟩, A20, H⟩ := H
  replace H : (some (t394, t395, t396)) = some (r1, r2, r3) := H
  have A2 := Aside0.mk A20
  clear A20
  simp only [Option.some.injEq, Prod.mk.injEq] at H
  obtain ⟨rfl, rfl, rfl⟩ := H
  go_enter Tryz.func10, Tryz.ntmps10
  go_wp2_with (first | ((with_reducible refine gate_callee (f := 29) rfl ?_); refine goesL_ (some 6) rfl rfl Tryz.func29 (by kernel_rfl) rfl #[.string a0] rfl (by (try simp only [List.map_toArray, List.map_cons, List.map_nil]); first | done | rfl | (simp only [List.length_drop, List.length_take]; rfl)) ?_; (with_reducible refine (spec_version.calls a0 t394 t395 t396 _ A2.out).mono ?_); rintro e w' ⟨rfl, ⟨nd, rfl⟩⟩; refine ⟨_, rfl, ?_⟩))
  go_ret3
  exact ⟨by first | rfl | (simp; done) | (simp [*]; done), by repeat (first | exact Drawn0.refl _ | apply Drawn0.step)⟩

-- NOT PRINTED: function 11 (impl_ParseVersion)

-- NOT PRINTED: function 3 (laws_FnVersion)

end Go.Proofs.YtbjaapiliegegaaGreatDoor.PFnVersion
