-- Written by xprint.py of this session (a program that runs the kit's print and adds to it); Lean checks it.
import Derived.Test.YtdllbnecbbggfaaXFnGjValidWordx0
import Derived.Test.YtdllbnecbbggfaaXFnGjValidWordx1
import Derived.Test.YtdllbnecbbggfaaXFnGjValidWordx2
namespace Go.Proofs.Ytdllbnecbbggfaa.XFnGjValidWord
open Go.RowKit Go.Proofs.YtdllbnecbbggfaaW.PrintWords Go.Proofs.YtdllbnecbbggfaaW.PrintLast Go.Proofs.YtdllbnecbbggfaaW.PrintMore
attribute [local go_sem] max2_int min2_int max_two min_two max_three min_three max_four min_four   -- for this text's walks alone
set_option linter.unusedVariables false
set_option linter.unusedSimpArgs false

/-! ### gjson_validtrue: function 47 -/
def gjson_validtrue.f (l0 : List Int) (a1 : Int) : Option (Int × Bool) := if (wrap64 (a1 + 3)) ≤ (l0.length : Int) then (if 0 ≤ a1 then (if a1 < (l0.length : Int) then (if (rd l0 a1) = 114 then (if 0 ≤ (wrap64 (a1 + 1)) then (if (wrap64 (a1 + 1)) < (l0.length : Int) then (if (rd l0 (wrap64 (a1 + 1))) = 117 then (if 0 ≤ (wrap64 (a1 + 2)) then (if (wrap64 (a1 + 2)) < (l0.length : Int) then (if (rd l0 (wrap64 (a1 + 2))) = 101 then (some (wrap64 (a1 + 3), true)) else (some (a1, false))) else (none)) else (none)) else (some (a1, false))) else (none)) else (none)) else (some (a1, false))) else (none)) else (none)) else (some (a1, false))
set_option maxHeartbeats 8000000 in
set_option maxRecDepth 100000 in
theorem gjson_validtrue.calls (A0 : Option Addr) (c0 : Nat) (l0 : List Int) (a1 : Int) (r1 : Int) (r2 : Bool) (w : World) (hr0 : Kd.C (Kd.int .u8) w A0 l0.length l0) (hc0 : l0.length ≤ c0) (h : gjson_validtrue.f l0 a1 = some (r1, r2)) :
    Calls Try.prog 47 #[.slice A0 l0.length c0, .int .i64 a1] w fun e w' => e = .returned (.tuple #[.int .i64 r1, .bool r2]) ∧ Drawn0 w w' := by
  have HR0 := Aside0.mk hr0
  have HC0 := Aside0.mk hc0
  clear hr0 hc0
  have H : (if (wrap64 (a1 + 3)) ≤ (l0.length : Int) then (if 0 ≤ a1 then (if a1 < (l0.length : Int) then (if (rd l0 a1) = 114 then (if 0 ≤ (wrap64 (a1 + 1)) then (if (wrap64 (a1 + 1)) < (l0.length : Int) then (if (rd l0 (wrap64 (a1 + 1))) = 117 then (if 0 ≤ (wrap64 (a1 + 2)) then (if (wrap64 (a1 + 2)) < (l0.length : Int) then (if (rd l0 (wrap64 (a1 + 2))) = 101 then (some (wrap64 (a1 + 3), true)) else (some (a1, false))) else (none)) else (none)) else (some (a1, false))) else (none)) else (none)) else (some (a1, false))) else (none)) else (none)) else (some (a1, false))) = some (r1, r2) := h
  clear h
  by_cases c3 : (wrap64 (a1 + 3)) ≤ (l0.length : Int)
  · rw [if_pos c3] at H
    have c3b0 : decide ((wrap64 (a1 + 3)) ≤ (l0.length : Int)) = true := decide_eq_true c3
    clear c3
    by_cases c4 : 0 ≤ a1
    · rw [if_pos c4] at H
      have c4b0 : decide (0 ≤ a1) = true := decide_eq_true c4
      clear c4
      by_cases c5 : a1 < (l0.length : Int)
      · rw [if_pos c5] at H
        have c5b0 : decide (a1 < (l0.length : Int)) = true := decide_eq_true c5
        clear c5
        by_cases c6 : (rd l0 a1) = 114
        · rw [if_pos c6] at H
          have c6b0 : ((rd l0 a1) == 114) = true := beq_iff_eq.mpr c6
          have c6b1 : ((rd l0 a1) != 114) = false := bne_eq_false_iff_eq.mpr c6
          clear c6
          obtain ⟨ji7, hji7⟩ : ∃ j_ : Int, (wrap64 (a1 + 1)) = j_ := ⟨_, rfl⟩
          replace H : (if 0 ≤ (ji7) then (if (ji7) < (l0.length : Int) then (if (rd l0 (ji7)) = 117 then (if 0 ≤ (wrap64 (a1 + 2)) then (if (wrap64 (a1 + 2)) < (l0.length : Int) then (if (rd l0 (wrap64 (a1 + 2))) = 101 then (some (wrap64 (a1 + 3), true)) else (some (a1, false))) else (none)) else (none)) else (some (a1, false))) else (none)) else (none)) = some (r1, r2) := by first | (rw [hji7] at H; exact H) | (simp only [hji7] at H ⊢; exact H)
          have hji7w : (IntKind.i64.wrap (a1 + 1)) = ji7 := (i64_w _).trans hji7
          by_cases c8 : 0 ≤ (ji7)
          · rw [if_pos c8] at H
            have c8b0 : decide (0 ≤ (ji7)) = true := decide_eq_true c8
            clear c8
            by_cases c9 : (ji7) < (l0.length : Int)
            · rw [if_pos c9] at H
              have c9b0 : decide ((ji7) < (l0.length : Int)) = true := decide_eq_true c9
              clear c9
              by_cases c10 : (rd l0 (ji7)) = 117
              · rw [if_pos c10] at H
                have c10b0 : ((rd l0 (ji7)) == 117) = true := beq_iff_eq.mpr c10
                have c10b1 : ((rd l0 (ji7)) != 117) = false := bne_eq_false_iff_eq.mpr c10
                clear c10
                obtain ⟨ji11, hji11⟩ : ∃ j_ : Int, (wrap64 (a1 + 2)) = j_ := ⟨_, rfl⟩
                replace H : (if 0 ≤ (ji11) then (if (ji11) < (l0.length : Int) then (if (rd l0 (ji11)) = 101 then (some (wrap64 (a1 + 3), true)) else (some (a1, false))) else (none)) else (none)) = some (r1, r2) := by first | (rw [hji11] at H; exact H) | (simp only [hji11] at H ⊢; exact H)
                have hji11w : (IntKind.i64.wrap (a1 + 2)) = ji11 := (i64_w _).trans hji11
                by_cases c12 : 0 ≤ (ji11)
                · rw [if_pos c12] at H
                  have c12b0 : decide (0 ≤ (ji11)) = true := decide_eq_true c12
                  clear c12
                  by_cases c13 : (ji11) < (l0.length : Int)
                  · rw [if_pos c13] at H
                    have c13b0 : decide ((ji11) < (l0.length : Int)) = true := decide_eq_true c13
                    clear c13
                    by_cases c14 : (rd l0 (ji11)) = 101
                    · rw [if_pos c14] at H
                      have c14b0 : ((rd l0 (ji11)) == 101) = true := beq_iff_eq.mpr c14
                      have c14b1 : ((rd l0 (ji11)) != 101) = false := bne_eq_false_iff_eq.mpr c14
                      clear c14
                      simp only [Option.some.injEq, Prod.mk.injEq] at H
                      obtain ⟨rfl, rfl⟩ := H
                      have p102 : 0 ≤ (a1 : Int) := of_decide_eq_true (by first | (with_reducible assumption) | assumption)
                      have q102 : a1 < (l0.length : Int) := of_decide_eq_true (by first | (with_reducible assumption) | assumption)
                      obtain ⟨ad102, e102, hx102_0⟩ := Kd.at_int HR0.out a1 p102 q102
                      cases e102
                      replace p102 := eq_true p102
                      replace q102 := eq_true q102
                      have p103 : 0 ≤ ((ji7) : Int) := of_decide_eq_true (by first | (with_reducible assumption) | assumption)
                      have q103 : (ji7) < (l0.length : Int) := of_decide_eq_true (by first | (with_reducible assumption) | assumption)
                      obtain ⟨ad103, e103, hx103_0⟩ := Kd.at_int HR0.out (ji7) p103 q103
                      obtain rfl : ad102 = ad103 := (by injection e103)
                      replace p103 := eq_true p103
                      replace q103 := eq_true q103
                      have p104 : 0 ≤ ((ji11) : Int) := of_decide_eq_true (by first | (with_reducible assumption) | assumption)
                      have q104 : (ji11) < (l0.length : Int) := of_decide_eq_true (by first | (with_reducible assumption) | assumption)
                      obtain ⟨ad104, e104, hx104_0⟩ := Kd.at_int HR0.out (ji11) p104 q104
                      obtain rfl : ad102 = ad104 := (by injection e104)
                      replace p104 := eq_true p104
                      replace q104 := eq_true q104
                      go_enter Try.func47, Try.ntmps47
                      go_wp2
                      go_ret2
                      exact ⟨by first | rfl | (simp; done) | (simp only [← hji7, ← hji11] <;> (first | rfl | simp)) | (simp [*]; done), by repeat (first | exact Drawn0.refl _ | apply Drawn0.step)⟩
                    · rw [if_neg c14] at H
                      have c14b0 : ((rd l0 (ji11)) == 101) = false := beq_eq_false_iff_ne.mpr c14
                      have c14b1 : ((rd l0 (ji11)) != 101) = true := bne_iff_ne.mpr c14
                      simp only [Option.some.injEq, Prod.mk.injEq] at H
                      obtain ⟨rfl, rfl⟩ := H
                      have p102 : 0 ≤ (a1 : Int) := of_decide_eq_true (by first | (with_reducible assumption) | assumption)
                      have q102 : a1 < (l0.length : Int) := of_decide_eq_true (by first | (with_reducible assumption) | assumption)
                      obtain ⟨ad102, e102, hx102_0⟩ := Kd.at_int HR0.out a1 p102 q102
                      cases e102
                      replace p102 := eq_true p102
                      replace q102 := eq_true q102
                      have p103 : 0 ≤ ((ji7) : Int) := of_decide_eq_true (by first | (with_reducible assumption) | assumption)
                      have q103 : (ji7) < (l0.length : Int) := of_decide_eq_true (by first | (with_reducible assumption) | assumption)
                      obtain ⟨ad103, e103, hx103_0⟩ := Kd.at_int HR0.out (ji7) p103 q103
                      obtain rfl : ad102 = ad103 := (by injection e103)
                      replace p103 := eq_true p103
                      replace q103 := eq_true q103
                      have p104 : 0 ≤ ((ji11) : Int) := of_decide_eq_true (by first | (with_reducible assumption) | assumption)
                      have q104 : (ji11) < (l0.length : Int) := of_decide_eq_true (by first | (with_reducible assumption) | assumption)
                      obtain ⟨ad104, e104, hx104_0⟩ := Kd.at_int HR0.out (ji11) p104 q104
                      obtain rfl : ad102 = ad104 := (by injection e104)
                      replace p104 := eq_true p104
                      replace q104 := eq_true q104
                      go_enter Try.func47, Try.ntmps47
                      go_wp2
                      go_ret2
                      exact ⟨by first | rfl | (simp; done) | (simp only [← hji7, ← hji11] <;> (first | rfl | simp)) | (simp [*]; done), by repeat (first | exact Drawn0.refl _ | apply Drawn0.step)⟩
                  · rw [if_neg c13] at H
                    exact absurd H (by simp)
                · rw [if_neg c12] at H
                  exact absurd H (by simp)
              · rw [if_neg c10] at H
                have c10b0 : ((rd l0 (ji7)) == 117) = false := beq_eq_false_iff_ne.mpr c10
                have c10b1 : ((rd l0 (ji7)) != 117) = true := bne_iff_ne.mpr c10
                simp only [Option.some.injEq, Prod.mk.injEq] at H
                obtain ⟨rfl, rfl⟩ := H
                have p102 : 0 ≤ (a1 : Int) := of_decide_eq_true (by first | (with_reducible assumption) | assumption)
                have q102 : a1 < (l0.length : Int) := of_decide_eq_true (by first | (with_reducible assumption) | assumption)
                obtain ⟨ad102, e102, hx102_0⟩ := Kd.at_int HR0.out a1 p102 q102
                cases e102
                replace p102 := eq_true p102
                replace q102 := eq_true q102
                have p103 : 0 ≤ ((ji7) : Int) := of_decide_eq_true (by first | (with_reducible assumption) | assumption)
                have q103 : (ji7) < (l0.length : Int) := of_decide_eq_true (by first | (with_reducible assumption) | assumption)
                obtain ⟨ad103, e103, hx103_0⟩ := Kd.at_int HR0.out (ji7) p103 q103
                obtain rfl : ad102 = ad103 := (by injection e103)
                replace p103 := eq_true p103
                replace q103 := eq_true q103
                go_enter Try.func47, Try.ntmps47
                go_wp2
                go_ret2
                exact ⟨by first | rfl | (simp; done) | (simp only [← hji7] <;> (first | rfl | simp)) | (simp [*]; done), by repeat (first | exact Drawn0.refl _ | apply Drawn0.step)⟩
            · rw [if_neg c9] at H
              exact absurd H (by simp)
          · rw [if_neg c8] at H
            exact absurd H (by simp)
        · rw [if_neg c6] at H
          have c6b0 : ((rd l0 a1) == 114) = false := beq_eq_false_iff_ne.mpr c6
          have c6b1 : ((rd l0 a1) != 114) = true := bne_iff_ne.mpr c6
          simp only [Option.some.injEq, Prod.mk.injEq] at H
          obtain ⟨rfl, rfl⟩ := H
          have p102 : 0 ≤ (a1 : Int) := of_decide_eq_true (by first | (with_reducible assumption) | assumption)
          have q102 : a1 < (l0.length : Int) := of_decide_eq_true (by first | (with_reducible assumption) | assumption)
          obtain ⟨ad102, e102, hx102_0⟩ := Kd.at_int HR0.out a1 p102 q102
          cases e102
          replace p102 := eq_true p102
          replace q102 := eq_true q102
          go_enter Try.func47, Try.ntmps47
          go_wp2
          go_ret2
          exact ⟨by first | rfl | (simp; done) | (simp [*]; done), by repeat (first | exact Drawn0.refl _ | apply Drawn0.step)⟩
      · rw [if_neg c5] at H
        exact absurd H (by simp)
    · rw [if_neg c4] at H
      exact absurd H (by simp)
  · rw [if_neg c3] at H
    have c3b0 : decide ((wrap64 (a1 + 3)) ≤ (l0.length : Int)) = false := decide_eq_false c3
    clear c3
    simp only [Option.some.injEq, Prod.mk.injEq] at H
    obtain ⟨rfl, rfl⟩ := H
    go_enter Try.func47, Try.ntmps47
    go_wp2
    go_ret2
    exact ⟨by first | rfl | (simp; done) | (simp [*]; done), by repeat (first | exact Drawn0.refl _ | apply Drawn0.step)⟩

/-! ### gjson_validfalse: function 48 -/
def gjson_validfalse.f (l0 : List Int) (a1 : Int) : Option (Int × Bool) := if (wrap64 (a1 + 4)) ≤ (l0.length : Int) then (if 0 ≤ a1 then (if a1 < (l0.length : Int) then (if (rd l0 a1) = 97 then (if 0 ≤ (wrap64 (a1 + 1)) then (if (wrap64 (a1 + 1)) < (l0.length : Int) then (if (rd l0 (wrap64 (a1 + 1))) = 108 then (if 0 ≤ (wrap64 (a1 + 2)) then (if (wrap64 (a1 + 2)) < (l0.length : Int) then (if (rd l0 (wrap64 (a1 + 2))) = 115 then (if 0 ≤ (wrap64 (a1 + 3)) then (if (wrap64 (a1 + 3)) < (l0.length : Int) then (if (rd l0 (wrap64 (a1 + 3))) = 101 then (some (wrap64 (a1 + 4), true)) else (some (a1, false))) else (none)) else (none)) else (some (a1, false))) else (none)) else (none)) else (some (a1, false))) else (none)) else (none)) else (some (a1, false))) else (none)) else (none)) else (some (a1, false))
set_option maxHeartbeats 8000000 in
set_option maxRecDepth 100000 in
theorem gjson_validfalse.calls (A0 : Option Addr) (c0 : Nat) (l0 : List Int) (a1 : Int) (r1 : Int) (r2 : Bool) (w : World) (hr0 : Kd.C (Kd.int .u8) w A0 l0.length l0) (hc0 : l0.length ≤ c0) (h : gjson_validfalse.f l0 a1 = some (r1, r2)) :
    Calls Try.prog 48 #[.slice A0 l0.length c0, .int .i64 a1] w fun e w' => e = .returned (.tuple #[.int .i64 r1, .bool r2]) ∧ Drawn0 w w' := by
  have HR0 := Aside0.mk hr0
  have HC0 := Aside0.mk hc0
  clear hr0 hc0
  have H : (if (wrap64 (a1 + 4)) ≤ (l0.length : Int) then (if 0 ≤ a1 then (if a1 < (l0.length : Int) then (if (rd l0 a1) = 97 then (if 0 ≤ (wrap64 (a1 + 1)) then (if (wrap64 (a1 + 1)) < (l0.length : Int) then (if (rd l0 (wrap64 (a1 + 1))) = 108 then (if 0 ≤ (wrap64 (a1 + 2)) then (if (wrap64 (a1 + 2)) < (l0.length : Int) then (if (rd l0 (wrap64 (a1 + 2))) = 115 then (if 0 ≤ (wrap64 (a1 + 3)) then (if (wrap64 (a1 + 3)) < (l0.length : Int) then (if (rd l0 (wrap64 (a1 + 3))) = 101 then (some (wrap64 (a1 + 4), true)) else (some (a1, false))) else (none)) else (none)) else (some (a1, false))) else (none)) else (none)) else (some (a1, false))) else (none)) else (none)) else (some (a1, false))) else (none)) else (none)) else (some (a1, false))) = some (r1, r2) := h
  clear h
  by_cases c3 : (wrap64 (a1 + 4)) ≤ (l0.length : Int)
  · rw [if_pos c3] at H
    have c3b0 : decide ((wrap64 (a1 + 4)) ≤ (l0.length : Int)) = true := decide_eq_true c3
    clear c3
    by_cases c4 : 0 ≤ a1
    · rw [if_pos c4] at H
      have c4b0 : decide (0 ≤ a1) = true := decide_eq_true c4
      clear c4
      by_cases c5 : a1 < (l0.length : Int)
      · rw [if_pos c5] at H
        have c5b0 : decide (a1 < (l0.length : Int)) = true := decide_eq_true c5
        clear c5
        by_cases c6 : (rd l0 a1) = 97
        · rw [if_pos c6] at H
          have c6b0 : ((rd l0 a1) == 97) = true := beq_iff_eq.mpr c6
          have c6b1 : ((rd l0 a1) != 97) = false := bne_eq_false_iff_eq.mpr c6
          clear c6
          obtain ⟨ji7, hji7⟩ : ∃ j_ : Int, (wrap64 (a1 + 1)) = j_ := ⟨_, rfl⟩
          replace H : (if 0 ≤ (ji7) then (if (ji7) < (l0.length : Int) then (if (rd l0 (ji7)) = 108 then (if 0 ≤ (wrap64 (a1 + 2)) then (if (wrap64 (a1 + 2)) < (l0.length : Int) then (if (rd l0 (wrap64 (a1 + 2))) = 115 then (if 0 ≤ (wrap64 (a1 + 3)) then (if (wrap64 (a1 + 3)) < (l0.length : Int) then (if (rd l0 (wrap64 (a1 + 3))) = 101 then (some (wrap64 (a1 + 4), true)) else (some (a1, false))) else (none)) else (none)) else (some (a1, false))) else (none)) else (none)) else (some (a1, false))) else (none)) else (none)) = some (r1, r2) := by first | (rw [hji7] at H; exact H) | (simp only [hji7] at H ⊢; exact H)
          have hji7w : (IntKind.i64.wrap (a1 + 1)) = ji7 := (i64_w _).trans hji7
          by_cases c8 : 0 ≤ (ji7)
          · rw [if_pos c8] at H
            have c8b0 : decide (0 ≤ (ji7)) = true := decide_eq_true c8
            clear c8
            by_cases c9 : (ji7) < (l0.length : Int)
            · rw [if_pos c9] at H
              have c9b0 : decide ((ji7) < (l0.length : Int)) = true := decide_eq_true c9
              clear c9
              by_cases c10 : (rd l0 (ji7)) = 108
              · rw [if_pos c10] at H
                have c10b0 : ((rd l0 (ji7)) == 108) = true := beq_iff_eq.mpr c10
                have c10b1 : ((rd l0 (ji7)) != 108) = false := bne_eq_false_iff_eq.mpr c10
                clear c10
                obtain ⟨ji11, hji11⟩ : ∃ j_ : Int, (wrap64 (a1 + 2)) = j_ := ⟨_, rfl⟩
                replace H : (if 0 ≤ (ji11) then (if (ji11) < (l0.length : Int) then (if (rd l0 (ji11)) = 115 then (if 0 ≤ (wrap64 (a1 + 3)) then (if (wrap64 (a1 + 3)) < (l0.length : Int) then (if (rd l0 (wrap64 (a1 + 3))) = 101 then (some (wrap64 (a1 + 4), true)) else (some (a1, false))) else (none)) else (none)) else (some (a1, false))) else (none)) else (none)) = some (r1, r2) := by first | (rw [hji11] at H; exact H) | (simp only [hji11] at H ⊢; exact H)
                have hji11w : (IntKind.i64.wrap (a1 + 2)) = ji11 := (i64_w _).trans hji11
                by_cases c12 : 0 ≤ (ji11)
                · rw [if_pos c12] at H
                  have c12b0 : decide (0 ≤ (ji11)) = true := decide_eq_true c12
                  clear c12
                  by_cases c13 : (ji11) < (l0.length : Int)
                  · rw [if_pos c13] at H
                    have c13b0 : decide ((ji11) < (l0.length : Int)) = true := decide_eq_true c13
                    clear c13
                    by_cases c14 : (rd l0 (ji11)) = 115
                    · rw [if_pos c14] at H
                      have c14b0 : ((rd l0 (ji11)) == 115) = true := beq_iff_eq.mpr c14
                      have c14b1 : ((rd l0 (ji11)) != 115) = false := bne_eq_false_iff_eq.mpr c14
                      clear c14
                      obtain ⟨ji15, hji15⟩ : ∃ j_ : Int, (wrap64 (a1 + 3)) = j_ := ⟨_, rfl⟩
                      replace H : (if 0 ≤ (ji15) then (if (ji15) < (l0.length : Int) then (if (rd l0 (ji15)) = 101 then (some (wrap64 (a1 + 4), true)) else (some (a1, false))) else (none)) else (none)) = some (r1, r2) := by first | (rw [hji15] at H; exact H) | (simp only [hji15] at H ⊢; exact H)
                      have hji15w : (IntKind.i64.wrap (a1 + 3)) = ji15 := (i64_w _).trans hji15
                      by_cases c16 : 0 ≤ (ji15)
                      · rw [if_pos c16] at H
                        have c16b0 : decide (0 ≤ (ji15)) = true := decide_eq_true c16
                        clear c16
                        by_cases c17 : (ji15) < (l0.length : Int)
                        · rw [if_pos c17] at H
                          have c17b0 : decide ((ji15) < (l0.length : Int)) = true := decide_eq_true c17
                          clear c17
                          by_cases c18 : (rd l0 (ji15)) = 101
                          · rw [if_pos c18] at H
                            have c18b0 : ((rd l0 (ji15)) == 101) = true := beq_iff_eq.mpr c18
                            have c18b1 : ((rd l0 (ji15)) != 101) = false := bne_eq_false_iff_eq.mpr c18
                            clear c18
                            simp only [Option.some.injEq, Prod.mk.injEq] at H
                            obtain ⟨rfl, rfl⟩ := H
                            have p105 : 0 ≤ (a1 : Int) := of_decide_eq_true (by first | (with_reducible assumption) | assumption)
                            have q105 : a1 < (l0.length : Int) := of_decide_eq_true (by first | (with_reducible assumption) | assumption)
                            obtain ⟨ad105, e105, hx105_0⟩ := Kd.at_int HR0.out a1 p105 q105
                            cases e105
                            replace p105 := eq_true p105
                            replace q105 := eq_true q105
                            have p106 : 0 ≤ ((ji7) : Int) := of_decide_eq_true (by first | (with_reducible assumption) | assumption)
                            have q106 : (ji7) < (l0.length : Int) := of_decide_eq_true (by first | (with_reducible assumption) | assumption)
                            obtain ⟨ad106, e106, hx106_0⟩ := Kd.at_int HR0.out (ji7) p106 q106
                            obtain rfl : ad105 = ad106 := (by injection e106)
                            replace p106 := eq_true p106
                            replace q106 := eq_true q106
                            have p107 : 0 ≤ ((ji11) : Int) := of_decide_eq_true (by first | (with_reducible assumption) | assumption)
                            have q107 : (ji11) < (l0.length : Int) := of_decide_eq_true (by first | (with_reducible assumption) | assumption)
                            obtain ⟨ad107, e107, hx107_0⟩ := Kd.at_int HR0.out (ji11) p107 q107
                            obtain rfl : ad105 = ad107 := (by injection e107)
                            replace p107 := eq_true p107
                            replace q107 := eq_true q107
                            have p108 : 0 ≤ ((ji15) : Int) := of_decide_eq_true (by first | (with_reducible assumption) | assumption)
                            have q108 : (ji15) < (l0.length : Int) := of_decide_eq_true (by first | (with_reducible assumption) | assumption)
                            obtain ⟨ad108, e108, hx108_0⟩ := Kd.at_int HR0.out (ji15) p108 q108
                            obtain rfl : ad105 = ad108 := (by injection e108)
                            replace p108 := eq_true p108
                            replace q108 := eq_true q108
                            go_enter Try.func48, Try.ntmps48
                            go_wp2
                            go_ret2
                            exact ⟨by first | rfl | (simp; done) | (simp only [← hji7, ← hji11, ← hji15] <;> (first | rfl | simp)) | (simp [*]; done), by repeat (first | exact Drawn0.refl _ | apply Drawn0.step)⟩
                          · rw [if_neg c18] at H
                            have c18b0 : ((rd l0 (ji15)) == 101) = false := beq_eq_false_iff_ne.mpr c18
                            have c18b1 : ((rd l0 (ji15)) != 101) = true := bne_iff_ne.mpr c18
                            simp only [Option.some.injEq, Prod.mk.injEq] at H
                            obtain ⟨rfl, rfl⟩ := H
                            have p105 : 0 ≤ (a1 : Int) := of_decide_eq_true (by first | (with_reducible assumption) | assumption)
                            have q105 : a1 < (l0.length : Int) := of_decide_eq_true (by first | (with_reducible assumption) | assumption)
                            obtain ⟨ad105, e105, hx105_0⟩ := Kd.at_int HR0.out a1 p105 q105
                            cases e105
                            replace p105 := eq_true p105
                            replace q105 := eq_true q105
                            have p106 : 0 ≤ ((ji7) : Int) := of_decide_eq_true (by first | (with_reducible assumption) | assumption)
                            have q106 : (ji7) < (l0.length : Int) := of_decide_eq_true (by first | (with_reducible assumption) | assumption)
                            obtain ⟨ad106, e106, hx106_0⟩ := Kd.at_int HR0.out (ji7) p106 q106
                            obtain rfl : ad105 = ad106 := (by injection e106)
                            replace p106 := eq_true p106
                            replace q106 := eq_true q106
                            have p107 : 0 ≤ ((ji11) : Int) := of_decide_eq_true (by first | (with_reducible assumption) | assumption)
                            have q107 : (ji11) < (l0.length : Int) := of_decide_eq_true (by first | (with_reducible assumption) | assumption)
                            obtain ⟨ad107, e107, hx107_0⟩ := Kd.at_int HR0.out (ji11) p107 q107
                            obtain rfl : ad105 = ad107 := (by injection e107)
                            replace p107 := eq_true p107
                            replace q107 := eq_true q107
                            have p108 : 0 ≤ ((ji15) : Int) := of_decide_eq_true (by first | (with_reducible assumption) | assumption)
                            have q108 : (ji15) < (l0.length : Int) := of_decide_eq_true (by first | (with_reducible assumption) | assumption)
                            obtain ⟨ad108, e108, hx108_0⟩ := Kd.at_int HR0.out (ji15) p108 q108
                            obtain rfl : ad105 = ad108 := (by injection e108)
                            replace p108 := eq_true p108
                            replace q108 := eq_true q108
                            go_enter Try.func48, Try.ntmps48
                            go_wp2
                            go_ret2
                            exact ⟨by first | rfl | (simp; done) | (simp only [← hji7, ← hji11, ← hji15] <;> (first | rfl | simp)) | (simp [*]; done), by repeat (first | exact Drawn0.refl _ | apply Drawn0.step)⟩
                        · rw [if_neg c17] at H
                          exact absurd H (by simp)
                      · rw [if_neg c16] at H
                        exact absurd H (by simp)
                    · rw [if_neg c14] at H
                      have c14b0 : ((rd l0 (ji11)) == 115) = false := beq_eq_false_iff_ne.mpr c14
                      have c14b1 : ((rd l0 (ji11)) != 115) = true := bne_iff_ne.mpr c14
                      simp only [Option.some.injEq, Prod.mk.injEq] at H
                      obtain ⟨rfl, rfl⟩ := H
                      have p105 : 0 ≤ (a1 : Int) := of_decide_eq_true (by first | (with_reducible assumption) | assumption)
                      have q105 : a1 < (l0.length : Int) := of_decide_eq_true (by first | (with_reducible assumption) | assumption)
                      obtain ⟨ad105, e105, hx105_0⟩ := Kd.at_int HR0.out a1 p105 q105
                      cases e105
                      replace p105 := eq_true p105
                      replace q105 := eq_true q105
                      have p106 : 0 ≤ ((ji7) : Int) := of_decide_eq_true (by first | (with_reducible assumption) | assumption)
                      have q106 : (ji7) < (l0.length : Int) := of_decide_eq_true (by first | (with_reducible assumption) | assumption)
                      obtain ⟨ad106, e106, hx106_0⟩ := Kd.at_int HR0.out (ji7) p106 q106
                      obtain rfl : ad105 = ad106 := (by injection e106)
                      replace p106 := eq_true p106
                      replace q106 := eq_true q106
                      have p107 : 0 ≤ ((ji11) : Int) := of_decide_eq_true (by first | (with_reducible assumption) | assumption)
                      have q107 : (ji11) < (l0.length : Int) := of_decide_eq_true (by first | (with_reducible assumption) | assumption)
                      obtain ⟨ad107, e107, hx107_0⟩ := Kd.at_int HR0.out (ji11) p107 q107
                      obtain rfl : ad105 = ad107 := (by injection e107)
                      replace p107 := eq_true p107
                      replace q107 := eq_true q107
                      go_enter Try.func48, Try.ntmps48
                      go_wp2
                      go_ret2
                      exact ⟨by first | rfl | (simp; done) | (simp only [← hji7, ← hji11] <;> (first | rfl | simp)) | (simp [*]; done), by repeat (first | exact Drawn0.refl _ | apply Drawn0.step)⟩
                  · rw [if_neg c13] at H
                    exact absurd H (by simp)
                · rw [if_neg c12] at H
                  exact absurd H (by simp)
              · rw [if_neg c10] at H
                have c10b0 : ((rd l0 (ji7)) == 108) = false := beq_eq_false_iff_ne.mpr c10
                have c10b1 : ((rd l0 (ji7)) != 108) = true := bne_iff_ne.mpr c10
                simp only [Option.some.injEq, Prod.mk.injEq] at H
                obtain ⟨rfl, rfl⟩ := H
                have p105 : 0 ≤ (a1 : Int) := of_decide_eq_true (by first | (with_reducible assumption) | assumption)
                have q105 : a1 < (l0.length : Int) := of_decide_eq_true (by first | (with_reducible assumption) | assumption)
                obtain ⟨ad105, e105, hx105_0⟩ := Kd.at_int HR0.out a1 p105 q105
                cases e105
                replace p105 := eq_true p105
                replace q105 := eq_true q105
                have p106 : 0 ≤ ((ji7) : Int) := of_decide_eq_true (by first | (with_reducible assumption) | assumption)
                have q106 : (ji7) < (l0.length : Int) := of_decide_eq_true (by first | (with_reducible assumption) | assumption)
                obtain ⟨ad106, e106, hx106_0⟩ := Kd.at_int HR0.out (ji7) p106 q106
                obtain rfl : ad105 = ad106 := (by injection e106)
                replace p106 := eq_true p106
                replace q106 := eq_true q106
                go_enter Try.func48, Try.ntmps48
                go_wp2
                go_ret2
                exact ⟨by first | rfl | (simp; done) | (simp only [← hji7] <;> (first | rfl | simp)) | (simp [*]; done), by repeat (first | exact Drawn0.refl _ | apply Drawn0.step)⟩
            · rw [if_neg c9] at H
              exact absurd H (by simp)
          · rw [if_neg c8] at H
            exact absurd H (by simp)
        · rw [if_neg c6] at H
          have c6b0 : ((rd l0 a1) == 97) = false := beq_eq_false_iff_ne.mpr c6
          have c6b1 : ((rd l0 a1) != 97) = true := bne_iff_ne.mpr c6
          simp only [Option.some.injEq, Prod.mk.injEq] at H
          obtain ⟨rfl, rfl⟩ := H
          have p105 : 0 ≤ (a1 : Int) := of_decide_eq_true (by first | (with_reducible assumption) | assumption)
          have q105 : a1 < (l0.length : Int) := of_decide_eq_true (by first | (with_reducible assumption) | assumption)
          obtain ⟨ad105, e105, hx105_0⟩ := Kd.at_int HR0.out a1 p105 q105
          cases e105
          replace p105 := eq_true p105
          replace q105 := eq_true q105
          go_enter Try.func48, Try.ntmps48
          go_wp2
          go_ret2
          exact ⟨by first | rfl | (simp; done) | (simp [*]; done), by repeat (first | exact Drawn0.refl _ | apply Drawn0.step)⟩
      · rw [if_neg c5] at H
        exact absurd H (by simp)
    · rw [if_neg c4] at H
      exact absurd H (by simp)
  · rw [if_neg c3] at H
    have c3b0 : decide ((wrap64 (a1 + 4)) ≤ (l0.length : Int)) = false := decide_eq_false c3
    clear c3
    simp only [Option.some.injEq, Prod.mk.injEq] at H
    obtain ⟨rfl, rfl⟩ := H
    go_enter Try.func48, Try.ntmps48
    go_wp2
    go_ret2
    exact ⟨by first | rfl | (simp; done) | (simp [*]; done), by repeat (first | exact Drawn0.refl _ | apply Drawn0.step)⟩

/-! ### gjson_validnull: function 49 -/
def gjson_validnull.f (l0 : List Int) (a1 : Int) : Option (Int × Bool) := if (wrap64 (a1 + 3)) ≤ (l0.length : Int) then (if 0 ≤ a1 then (if a1 < (l0.length : Int) then (if (rd l0 a1) = 117 then (if 0 ≤ (wrap64 (a1 + 1)) then (if (wrap64 (a1 + 1)) < (l0.length : Int) then (if (rd l0 (wrap64 (a1 + 1))) = 108 then (if 0 ≤ (wrap64 (a1 + 2)) then (if (wrap64 (a1 + 2)) < (l0.length : Int) then (if (rd l0 (wrap64 (a1 + 2))) = 108 then (some (wrap64 (a1 + 3), true)) else (some (a1, false))) else (none)) else (none)) else (some (a1, false))) else (none)) else (none)) else (some (a1, false))) else (none)) else (none)) else (some (a1, false))
set_option maxHeartbeats 8000000 in
set_option maxRecDepth 100000 in
theorem gjson_validnull.calls (A0 : Option Addr) (c0 : Nat) (l0 : List Int) (a1 : Int) (r1 : Int) (r2 : Bool) (w : World) (hr0 : Kd.C (Kd.int .u8) w A0 l0.length l0) (hc0 : l0.length ≤ c0) (h : gjson_validnull.f l0 a1 = some (r1, r2)) :
    Calls Try.prog 49 #[.slice A0 l0.length c0, .int .i64 a1] w fun e w' => e = .returned (.tuple #[.int .i64 r1, .bool r2]) ∧ Drawn0 w w' := by
  have HR0 := Aside0.mk hr0
  have HC0 := Aside0.mk hc0
  clear hr0 hc0
  have H : (if (wrap64 (a1 + 3)) ≤ (l0.length : Int) then (if 0 ≤ a1 then (if a1 < (l0.length : Int) then (if (rd l0 a1) = 117 then (if 0 ≤ (wrap64 (a1 + 1)) then (if (wrap64 (a1 + 1)) < (l0.length : Int) then (if (rd l0 (wrap64 (a1 + 1))) = 108 then (if 0 ≤ (wrap64 (a1 + 2)) then (if (wrap64 (a1 + 2)) < (l0.length : Int) then (if (rd l0 (wrap64 (a1 + 2))) = 108 then (some (wrap64 (a1 + 3), true)) else (some (a1, false))) else (none)) else (none)) else (some (a1, false))) else (none)) else (none)) else (some (a1, false))) else (none)) else (none)) else (some (a1, false))) = some (r1, r2) := h
  clear h
  by_cases c3 : (wrap64 (a1 + 3)) ≤ (l0.length : Int)
  · rw [if_pos c3] at H
    have c3b0 : decide ((wrap64 (a1 + 3)) ≤ (l0.length : Int)) = true := decide_eq_true c3
    clear c3
    by_cases c4 : 0 ≤ a1
    · rw [if_pos c4] at H
      have c4b0 : decide (0 ≤ a1) = true := decide_eq_true c4
      clear c4
      by_cases c5 : a1 < (l0.length : Int)
      · rw [if_pos c5] at H
        have c5b0 : decide (a1 < (l0.length : Int)) = true := decide_eq_true c5
        clear c5
        by_cases c6 : (rd l0 a1) = 117
        · rw [if_pos c6] at H
          have c6b0 : ((rd l0 a1) == 117) = true := beq_iff_eq.mpr c6
          have c6b1 : ((rd l0 a1) != 117) = false := bne_eq_false_iff_eq.mpr c6
          clear c6
          obtain ⟨ji7, hji7⟩ : ∃ j_ : Int, (wrap64 (a1 + 1)) = j_ := ⟨_, rfl⟩
          replace H : (if 0 ≤ (ji7) then (if (ji7) < (l0.length : Int) then (if (rd l0 (ji7)) = 108 then (if 0 ≤ (wrap64 (a1 + 2)) then (if (wrap64 (a1 + 2)) < (l0.length : Int) then (if (rd l0 (wrap64 (a1 + 2))) = 108 then (some (wrap64 (a1 + 3), true)) else (some (a1, false))) else (none)) else (none)) else (some (a1, false))) else (none)) else (none)) = some (r1, r2) := by first | (rw [hji7] at H; exact H) | (simp only [hji7] at H ⊢; exact H)
          have hji7w : (IntKind.i64.wrap (a1 + 1)) = ji7 := (i64_w _).trans hji7
          by_cases c8 : 0 ≤ (ji7)
          · rw [if_pos c8] at H
            have c8b0 : decide (0 ≤ (ji7)) = true := decide_eq_true c8
            clear c8
            by_cases c9 : (ji7) < (l0.length : Int)
            · rw [if_pos c9] at H
              have c9b0 : decide ((ji7) < (l0.length : Int)) = true := decide_eq_true c9
              clear c9
              by_cases c10 : (rd l0 (ji7)) = 108
              · rw [if_pos c10] at H
                have c10b0 : ((rd l0 (ji7)) == 108) = true := beq_iff_eq.mpr c10
                have c10b1 : ((rd l0 (ji7)) != 108) = false := bne_eq_false_iff_eq.mpr c10
                clear c10
                obtain ⟨ji11, hji11⟩ : ∃ j_ : Int, (wrap64 (a1 + 2)) = j_ := ⟨_, rfl⟩
                replace H : (if 0 ≤ (ji11) then (if (ji11) < (l0.length : Int) then (if (rd l0 (ji11)) = 108 then (some (wrap64 (a1 + 3), true)) else (some (a1, false))) else (none)) else (none)) = some (r1, r2) := by first | (rw [hji11] at H; exact H) | (simp only [hji11] at H ⊢; exact H)
                have hji11w : (IntKind.i64.wrap (a1 + 2)) = ji11 := (i64_w _).trans hji11
                by_cases c12 : 0 ≤ (ji11)
                · rw [if_pos c12] at H
                  have c12b0 : decide (0 ≤ (ji11)) = true := decide_eq_true c12
                  clear c12
                  by_cases c13 : (ji11) < (l0.length : Int)
                  · rw [if_pos c13] at H
                    have c13b0 : decide ((ji11) < (l0.length : Int)) = true := decide_eq_true c13
                    clear c13
                    by_cases c14 : (rd l0 (ji11)) = 108
                    · rw [if_pos c14] at H
                      have c14b0 : ((rd l0 (ji11)) == 108) = true := beq_iff_eq.mpr c14
                      have c14b1 : ((rd l0 (ji11)) != 108) = false := bne_eq_false_iff_eq.mpr c14
                      clear c14
                      simp only [Option.some.injEq, Prod.mk.injEq] at H
                      obtain ⟨rfl, rfl⟩ := H
                      have p109 : 0 ≤ (a1 : Int) := of_decide_eq_true (by first | (with_reducible assumption) | assumption)
                      have q109 : a1 < (l0.length : Int) := of_decide_eq_true (by first | (with_reducible assumption) | assumption)
                      obtain ⟨ad109, e109, hx109_0⟩ := Kd.at_int HR0.out a1 p109 q109
                      cases e109
                      replace p109 := eq_true p109
                      replace q109 := eq_true q109
                      have p110 : 0 ≤ ((ji7) : Int) := of_decide_eq_true (by first | (with_reducible assumption) | assumption)
                      have q110 : (ji7) < (l0.length : Int) := of_decide_eq_true (by first | (with_reducible assumption) | assumption)
                      obtain ⟨ad110, e110, hx110_0⟩ := Kd.at_int HR0.out (ji7) p110 q110
                      obtain rfl : ad109 = ad110 := (by injection e110)
                      replace p110 := eq_true p110
                      replace q110 := eq_true q110
                      have p111 : 0 ≤ ((ji11) : Int) := of_decide_eq_true (by first | (with_reducible assumption) | assumption)
                      have q111 : (ji11) < (l0.length : Int) := of_decide_eq_true (by first | (with_reducible assumption) | assumption)
                      obtain ⟨ad111, e111, hx111_0⟩ := Kd.at_int HR0.out (ji11) p111 q111
                      obtain rfl : ad109 = ad111 := (by injection e111)
                      replace p111 := eq_true p111
                      replace q111 := eq_true q111
                      go_enter Try.func49, Try.ntmps49
                      go_wp2
                      go_ret2
                      exact ⟨by first | rfl | (simp; done) | (simp only [← hji7, ← hji11] <;> (first | rfl | simp)) | (simp [*]; done), by repeat (first | exact Drawn0.refl _ | apply Drawn0.step)⟩
                    · rw [if_neg c14] at H
                      have c14b0 : ((rd l0 (ji11)) == 108) = false := beq_eq_false_iff_ne.mpr c14
                      have c14b1 : ((rd l0 (ji11)) != 108) = true := bne_iff_ne.mpr c14
                      simp only [Option.some.injEq, Prod.mk.injEq] at H
                      obtain ⟨rfl, rfl⟩ := H
                      have p109 : 0 ≤ (a1 : Int) := of_decide_eq_true (by first | (with_reducible assumption) | assumption)
                      have q109 : a1 < (l0.length : Int) := of_decide_eq_true (by first | (with_reducible assumption) | assumption)
                      obtain ⟨ad109, e109, hx109_0⟩ := Kd.at_int HR0.out a1 p109 q109
                      cases e109
                      replace p109 := eq_true p109
                      replace q109 := eq_true q109
                      have p110 : 0 ≤ ((ji7) : Int) := of_decide_eq_true (by first | (with_reducible assumption) | assumption)
                      have q110 : (ji7) < (l0.length : Int) := of_decide_eq_true (by first | (with_reducible assumption) | assumption)
                      obtain ⟨ad110, e110, hx110_0⟩ := Kd.at_int HR0.out (ji7) p110 q110
                      obtain rfl : ad109 = ad110 := (by injection e110)
                      replace p110 := eq_true p110
                      replace q110 := eq_true q110
                      have p111 : 0 ≤ ((ji11) : Int) := of_decide_eq_true (by first | (with_reducible assumption) | assumption)
                      have q111 : (ji11) < (l0.length : Int) := of_decide_eq_true (by first | (with_reducible assumption) | assumption)
                      obtain ⟨ad111, e111, hx111_0⟩ := Kd.at_int HR0.out (ji11) p111 q111
                      obtain rfl : ad109 = ad111 := (by injection e111)
                      replace p111 := eq_true p111
                      replace q111 := eq_true q111
                      go_enter Try.func49, Try.ntmps49
                      go_wp2
                      go_ret2
                      exact ⟨by first | rfl | (simp; done) | (simp only [← hji7, ← hji11] <;> (first | rfl | simp)) | (simp [*]; done), by repeat (first | exact Drawn0.refl _ | apply Drawn0.step)⟩
                  · rw [if_neg c13] at H
                    exact absurd H (by simp)
                · rw [if_neg c12] at H
                  exact absurd H (by simp)
              · rw [if_neg c10] at H
                have c10b0 : ((rd l0 (ji7)) == 108) = false := beq_eq_false_iff_ne.mpr c10
                have c10b1 : ((rd l0 (ji7)) != 108) = true := bne_iff_ne.mpr c10
                simp only [Option.some.injEq, Prod.mk.injEq] at H
                obtain ⟨rfl, rfl⟩ := H
                have p109 : 0 ≤ (a1 : Int) := of_decide_eq_true (by first | (with_reducible assumption) | assumption)
                have q109 : a1 < (l0.length : Int) := of_decide_eq_true (by first | (with_reducible assumption) | assumption)
                obtain ⟨ad109, e109, hx109_0⟩ := Kd.at_int HR0.out a1 p109 q109
                cases e109
                replace p109 := eq_true p109
                replace q109 := eq_true q109
                have p110 : 0 ≤ ((ji7) : Int) := of_decide_eq_true (by first | (with_reducible assumption) | assumption)
                have q110 : (ji7) < (l0.length : Int) := of_decide_eq_true (by first | (with_reducible assumption) | assumption)
                obtain ⟨ad110, e110, hx110_0⟩ := Kd.at_int HR0.out (ji7) p110 q110
                obtain rfl : ad109 = ad110 := (by injection e110)
                replace p110 := eq_true p110
                replace q110 := eq_true q110
                go_enter Try.func49, Try.ntmps49
                go_wp2
                go_ret2
                exact ⟨by first | rfl | (simp; done) | (simp only [← hji7] <;> (first | rfl | simp)) | (simp [*]; done), by repeat (first | exact Drawn0.refl _ | apply Drawn0.step)⟩
            · rw [if_neg c9] at H
              exact absurd H (by simp)
          · rw [if_neg c8] at H
            exact absurd H (by simp)
        · rw [if_neg c6] at H
          have c6b0 : ((rd l0 a1) == 117) = false := beq_eq_false_iff_ne.mpr c6
          have c6b1 : ((rd l0 a1) != 117) = true := bne_iff_ne.mpr c6
          simp only [Option.some.injEq, Prod.mk.injEq] at H
          obtain ⟨rfl, rfl⟩ := H
          have p109 : 0 ≤ (a1 : Int) := of_decide_eq_true (by first | (with_reducible assumption) | assumption)
          have q109 : a1 < (l0.length : Int) := of_decide_eq_true (by first | (with_reducible assumption) | assumption)
          obtain ⟨ad109, e109, hx109_0⟩ := Kd.at_int HR0.out a1 p109 q109
          cases e109
          replace p109 := eq_true p109
          replace q109 := eq_true q109
          go_enter Try.func49, Try.ntmps49
          go_wp2
          go_ret2
          exact ⟨by first | rfl | (simp; done) | (simp [*]; done), by repeat (first | exact Drawn0.refl _ | apply Drawn0.step)⟩
      · rw [if_neg c5] at H
        exact absurd H (by simp)
    · rw [if_neg c4] at H
      exact absurd H (by simp)
  · rw [if_neg c3] at H
    have c3b0 : decide ((wrap64 (a1 + 3)) ≤ (l0.length : Int)) = false := decide_eq_false c3
    clear c3
    simp only [Option.some.injEq, Prod.mk.injEq] at H
    obtain ⟨rfl, rfl⟩ := H
    go_enter Try.func49, Try.ntmps49
    go_wp2
    go_ret2
    exact ⟨by first | rfl | (simp; done) | (simp [*]; done), by repeat (first | exact Drawn0.refl _ | apply Drawn0.step)⟩

/-! ### gjson_validarray: function 44 -/

/-! ### gjson_validany: function 40 -/

mutual
def gjson_validarray.l0 : Nat → List Int → Int → Option (Int × Bool)
  | 0, _, _ => none
  | k + 1, x0, x1 => if x1 < (x0.length : Int) then (if 0 ≤ x1 then (if (rd x0 x1) = 32 then (gjson_validarray.j1 k x0 x1 (rd x0 x1) ((rd x0 x1) == 32)) else (if (rd x0 x1) = 9 then (gjson_validarray.j1 k x0 x1 (rd x0 x1) ((rd x0 x1) == 9)) else (if (rd x0 x1) = 10 then (gjson_validarray.j1 k x0 x1 (rd x0 x1) ((rd x0 x1) == 10)) else (gjson_validarray.j1 k x0 x1 (rd x0 x1) ((rd x0 x1) == 13))))) else (none)) else (some (x1, false))
def gjson_validarray.j1 : Nat → List Int → Int → Int → Bool → Option (Int × Bool)
  | 0, _, _, _, _ => none
  | k + 1, x0, x1, x15, x47 => if x47 = true then (gjson_validarray.l0 k x0 (wrap64 (x1 + 1))) else (if x15 = 93 then (some (wrap64 (x1 + 1), true)) else (gjson_validarray.l1 k x0 x1))
def gjson_validarray.l1 : Nat → List Int → Int → Option (Int × Bool)
  | 0, _, _ => none
  | k + 1, x0, x1 => if x1 < (x0.length : Int) then ((gjson_validany.f k x0 x1).bind fun bt113 => (if bt113.2 = true then ((gjson_validcomma.f k x0 bt113.1 93).bind fun bt115 => (if bt115.2 = true then (if 0 ≤ bt115.1 then (if bt115.1 < (x0.length : Int) then (if (rd x0 bt115.1) = 93 then (some (wrap64 (bt115.1 + 1), true)) else (gjson_validarray.l1 k x0 (wrap64 (bt115.1 + 1)))) else (none)) else (none)) else (some (bt115.1, false)))) else (some (bt113.1, false)))) else (gjson_validarray.l0 k x0 (wrap64 (x1 + 1)))
def gjson_validarray.f : Nat → List Int → Int → Option (Int × Bool)
  | 0, _, _ => none
  | k + 1, l0, a1 => gjson_validarray.l0 k l0 a1
def gjson_validany.l0 : Nat → List Int → Int → Option (Int × Bool)
  | 0, _, _ => none
  | k + 1, x0, x1 => if x1 < (x0.length : Int) then (if 0 ≤ x1 then (if (rd x0 x1) = 32 then (gjson_validany.j1 k x0 x1 (rd x0 x1) ((rd x0 x1) == 32)) else (if (rd x0 x1) = 9 then (gjson_validany.j1 k x0 x1 (rd x0 x1) ((rd x0 x1) == 9)) else (if (rd x0 x1) = 10 then (gjson_validany.j1 k x0 x1 (rd x0 x1) ((rd x0 x1) == 10)) else (gjson_validany.j1 k x0 x1 (rd x0 x1) ((rd x0 x1) == 13))))) else (none)) else (some (x1, false))
def gjson_validany.j1 : Nat → List Int → Int → Int → Bool → Option (Int × Bool)
  | 0, _, _, _, _ => none
  | k + 1, x0, x1, x15, x17 => if x17 = true then (gjson_validany.l0 k x0 (wrap64 (x1 + 1))) else (if x15 = 123 then ((gjson_validobject.f x0 (wrap64 (x1 + 1))).bind fun bt119 => (some (bt119.1, bt119.2))) else (if x15 = 91 then ((gjson_validarray.f k x0 (wrap64 (x1 + 1))).bind fun bt121 => (some (bt121.1, bt121.2))) else (if x15 = 34 then ((gjson_validstring.f x0 (wrap64 (x1 + 1))).bind fun bt123 => (some (bt123.1, bt123.2))) else (if x15 = 45 then (gjson_validany.j2 k x0 x1 x15 (x15 == 45)) else (if x15 = 48 then (gjson_validany.j2 k x0 x1 x15 (x15 == 48)) else (if x15 = 49 then (gjson_validany.j2 k x0 x1 x15 (x15 == 49)) else (if x15 = 50 then (gjson_validany.j2 k x0 x1 x15 (x15 == 50)) else (if x15 = 51 then (gjson_validany.j2 k x0 x1 x15 (x15 == 51)) else (if x15 = 52 then (gjson_validany.j2 k x0 x1 x15 (x15 == 52)) else (if x15 = 53 then (gjson_validany.j2 k x0 x1 x15 (x15 == 53)) else (if x15 = 54 then (gjson_validany.j2 k x0 x1 x15 (x15 == 54)) else (if x15 = 55 then (gjson_validany.j2 k x0 x1 x15 (x15 == 55)) else (if x15 = 56 then (gjson_validany.j2 k x0 x1 x15 (x15 == 56)) else (gjson_validany.j2 k x0 x1 x15 (x15 == 57)))))))))))))))
def gjson_validany.j2 : Nat → List Int → Int → Int → Bool → Option (Int × Bool)
  | 0, _, _, _, _ => none
  | k + 1, x0, x1, x15, x46 => if x46 = true then ((gjson_validnumber.f x0 (wrap64 (x1 + 1))).bind fun bt125 => (some (bt125.1, bt125.2))) else (if x15 = 116 then ((gjson_validtrue.f x0 (wrap64 (x1 + 1))).bind fun bt127 => (some (bt127.1, bt127.2))) else (if x15 = 102 then ((gjson_validfalse.f x0 (wrap64 (x1 + 1))).bind fun bt129 => (some (bt129.1, bt129.2))) else (if x15 = 110 then ((gjson_validnull.f x0 (wrap64 (x1 + 1))).bind fun bt131 => (some (bt131.1, bt131.2))) else (some (x1, false)))))
def gjson_validany.f : Nat → List Int → Int → Option (Int × Bool)
  | 0, _, _ => none
  | k + 1, l0, a1 => gjson_validany.l0 k l0 a1
end
set_option maxHeartbeats 8000000 in
theorem gjson_validarray.scc_mono : ∀ k, (∀ y0 y1, LeO (gjson_validarray.f k y0 y1) (gjson_validarray.f (k + 1) y0 y1)) ∧ (∀ y0 y1, LeO (gjson_validarray.l0 k y0 y1) (gjson_validarray.l0 (k + 1) y0 y1)) ∧ (∀ y0 y1 y2 y3, LeO (gjson_validarray.j1 k y0 y1 y2 y3) (gjson_validarray.j1 (k + 1) y0 y1 y2 y3)) ∧ (∀ y0 y1, LeO (gjson_validarray.l1 k y0 y1) (gjson_validarray.l1 (k + 1) y0 y1)) ∧ (∀ y0 y1, LeO (gjson_validany.f k y0 y1) (gjson_validany.f (k + 1) y0 y1)) ∧ (∀ y0 y1, LeO (gjson_validany.l0 k y0 y1) (gjson_validany.l0 (k + 1) y0 y1)) ∧ (∀ y0 y1 y2 y3, LeO (gjson_validany.j1 k y0 y1 y2 y3) (gjson_validany.j1 (k + 1) y0 y1 y2 y3)) ∧ (∀ y0 y1 y2 y3, LeO (gjson_validany.j2 k y0 y1 y2 y3) (gjson_validany.j2 (k + 1) y0 y1 y2 y3))
  | 0 => ⟨fun _ _ r h => by simp [gjson_validarray.f] at h, fun _ _ r h => by simp [gjson_validarray.l0] at h, fun _ _ _ _ r h => by simp [gjson_validarray.j1] at h, fun _ _ r h => by simp [gjson_validarray.l1] at h, fun _ _ r h => by simp [gjson_validany.f] at h, fun _ _ r h => by simp [gjson_validany.l0] at h, fun _ _ _ _ r h => by simp [gjson_validany.j1] at h, fun _ _ _ _ r h => by simp [gjson_validany.j2] at h⟩
  | k + 1 => by
    obtain ⟨ih0, ih1, ih2, ih3, ih4, ih5, ih6, ih7⟩ := gjson_validarray.scc_mono k
    refine ⟨?_, ?_, ?_, ?_, ?_, ?_, ?_, ?_⟩
    · intro y0 y1
      unfold gjson_validarray.f
      repeat' first
      | (with_reducible exact ih0 _ _)
      | (with_reducible exact ih1 _ _)
      | (with_reducible exact ih2 _ _ _ _)
      | (with_reducible exact ih3 _ _)
      | (with_reducible exact ih4 _ _)
      | (with_reducible exact ih5 _ _)
      | (with_reducible exact ih6 _ _ _ _)
      | (with_reducible exact ih7 _ _ _ _)
      | (with_reducible exact gjson_validcomma.mono _ _ _ _)
      | (with_reducible exact LeO.refl _)
      | (with_reducible exact LeO.none _)
      | (with_reducible refine LeO.ite ?_ ?_)
      | (with_reducible refine LeO.bind ?_ (fun _ => ?_))
      | exact ih0 _ _
      | exact ih1 _ _
      | exact ih2 _ _ _ _
      | exact ih3 _ _
      | exact ih4 _ _
      | exact ih5 _ _
      | exact ih6 _ _ _ _
      | exact ih7 _ _ _ _
      | exact gjson_validcomma.mono _ _ _ _
      | exact LeO.none _
      | refine LeO.ite ?_ ?_
      | refine LeO.bind ?_ (fun _ => ?_)
    · intro y0 y1
      unfold gjson_validarray.l0
      repeat' first
      | (with_reducible exact ih0 _ _)
      | (with_reducible exact ih1 _ _)
      | (with_reducible exact ih2 _ _ _ _)
      | (with_reducible exact ih3 _ _)
      | (with_reducible exact ih4 _ _)
      | (with_reducible exact ih5 _ _)
      | (with_reducible exact ih6 _ _ _ _)
      | (with_reducible exact ih7 _ _ _ _)
      | (with_reducible exact gjson_validcomma.mono _ _ _ _)
      | (with_reducible exact LeO.refl _)
      | (with_reducible exact LeO.none _)
      | (with_reducible refine LeO.ite ?_ ?_)
      | (with_reducible refine LeO.bind ?_ (fun _ => ?_))
      | exact ih0 _ _
      | exact ih1 _ _
      | exact ih2 _ _ _ _
      | exact ih3 _ _
      | exact ih4 _ _
      | exact ih5 _ _
      | exact ih6 _ _ _ _
      | exact ih7 _ _ _ _
      | exact gjson_validcomma.mono _ _ _ _
      | exact LeO.none _
      | refine LeO.ite ?_ ?_
      | refine LeO.bind ?_ (fun _ => ?_)
    · intro y0 y1 y2 y3
      unfold gjson_validarray.j1
      repeat' first
      | (with_reducible exact ih0 _ _)
      | (with_reducible exact ih1 _ _)
      | (with_reducible exact ih2 _ _ _ _)
      | (with_reducible exact ih3 _ _)
      | (with_reducible exact ih4 _ _)
      | (with_reducible exact ih5 _ _)
      | (with_reducible exact ih6 _ _ _ _)
      | (with_reducible exact ih7 _ _ _ _)
      | (with_reducible exact gjson_validcomma.mono _ _ _ _)
      | (with_reducible exact LeO.refl _)
      | (with_reducible exact LeO.none _)
      | (with_reducible refine LeO.ite ?_ ?_)
      | (with_reducible refine LeO.bind ?_ (fun _ => ?_))
      | exact ih0 _ _
      | exact ih1 _ _
      | exact ih2 _ _ _ _
      | exact ih3 _ _
      | exact ih4 _ _
      | exact ih5 _ _
      | exact ih6 _ _ _ _
      | exact ih7 _ _ _ _
      | exact gjson_validcomma.mono _ _ _ _
      | exact LeO.none _
      | refine LeO.ite ?_ ?_
      | refine LeO.bind ?_ (fun _ => ?_)
    · intro y0 y1
      unfold gjson_validarray.l1
      repeat' first
      | (with_reducible exact ih0 _ _)
      | (with_reducible exact ih1 _ _)
      | (with_reducible exact ih2 _ _ _ _)
      | (with_reducible exact ih3 _ _)
      | (with_reducible exact ih4 _ _)
      | (with_reducible exact ih5 _ _)
      | (with_reducible exact ih6 _ _ _ _)
      | (with_reducible exact ih7 _ _ _ _)
      | (with_reducible exact gjson_validcomma.mono _ _ _ _)
      | (with_reducible exact LeO.refl _)
      | (with_reducible exact LeO.none _)
      | (with_reducible refine LeO.ite ?_ ?_)
      | (with_reducible refine LeO.bind ?_ (fun _ => ?_))
      | exact ih0 _ _
      | exact ih1 _ _
      | exact ih2 _ _ _ _
      | exact ih3 _ _
      | exact ih4 _ _
      | exact ih5 _ _
      | exact ih6 _ _ _ _
      | exact ih7 _ _ _ _
      | exact gjson_validcomma.mono _ _ _ _
      | exact LeO.none _
      | refine LeO.ite ?_ ?_
      | refine LeO.bind ?_ (fun _ => ?_)
    · intro y0 y1
      unfold gjson_validany.f
      repeat' first
      | (with_reducible exact ih0 _ _)
      | (with_reducible exact ih1 _ _)
      | (with_reducible exact ih2 _ _ _ _)
      | (with_reducible exact ih3 _ _)
      | (with_reducible exact ih4 _ _)
      | (with_reducible exact ih5 _ _)
      | (with_reducible exact ih6 _ _ _ _)
      | (with_reducible exact ih7 _ _ _ _)
      | (with_reducible exact gjson_validcomma.mono _ _ _ _)
      | (with_reducible exact LeO.refl _)
      | (with_reducible exact LeO.none _)
      | (with_reducible refine LeO.ite ?_ ?_)
      | (with_reducible refine LeO.bind ?_ (fun _ => ?_))
      | exact ih0 _ _
      | exact ih1 _ _
      | exact ih2 _ _ _ _
      | exact ih3 _ _
      | exact ih4 _ _
      | exact ih5 _ _
      | exact ih6 _ _ _ _
      | exact ih7 _ _ _ _
      | exact gjson_validcomma.mono _ _ _ _
      | exact LeO.none _
      | refine LeO.ite ?_ ?_
      | refine LeO.bind ?_ (fun _ => ?_)
    · intro y0 y1
      unfold gjson_validany.l0
      repeat' first
      | (with_reducible exact ih0 _ _)
      | (with_reducible exact ih1 _ _)
      | (with_reducible exact ih2 _ _ _ _)
      | (with_reducible exact ih3 _ _)
      | (with_reducible exact ih4 _ _)
      | (with_reducible exact ih5 _ _)
      | (with_reducible exact ih6 _ _ _ _)
      | (with_reducible exact ih7 _ _ _ _)
      | (with_reducible exact gjson_validcomma.mono _ _ _ _)
      | (with_reducible exact LeO.refl _)
      | (with_reducible exact LeO.none _)
      | (with_reducible refine LeO.ite ?_ ?_)
      | (with_reducible refine LeO.bind ?_ (fun _ => ?_))
      | exact ih0 _ _
      | exact ih1 _ _
      | exact ih2 _ _ _ _
      | exact ih3 _ _
      | exact ih4 _ _
      | exact ih5 _ _
      | exact ih6 _ _ _ _
      | exact ih7 _ _ _ _
      | exact gjson_validcomma.mono _ _ _ _
      | exact LeO.none _
      | refine LeO.ite ?_ ?_
      | refine LeO.bind ?_ (fun _ => ?_)
    · intro y0 y1 y2 y3
      unfold gjson_validany.j1
      repeat' first
      | (with_reducible exact ih0 _ _)
      | (with_reducible exact ih1 _ _)
      | (with_reducible exact ih2 _ _ _ _)
      | (with_reducible exact ih3 _ _)
      | (with_reducible exact ih4 _ _)
      | (with_reducible exact ih5 _ _)
      | (with_reducible exact ih6 _ _ _ _)
      | (with_reducible exact ih7 _ _ _ _)
      | (with_reducible exact gjson_validcomma.mono _ _ _ _)
      | (with_reducible exact LeO.refl _)
      | (with_reducible exact LeO.none _)
      | (with_reducible refine LeO.ite ?_ ?_)
      | (with_reducible refine LeO.bind ?_ (fun _ => ?_))
      | exact ih0 _ _
      | exact ih1 _ _
      | exact ih2 _ _ _ _
      | exact ih3 _ _
      | exact ih4 _ _
      | exact ih5 _ _
      | exact ih6 _ _ _ _
      | exact ih7 _ _ _ _
      | exact gjson_validcomma.mono _ _ _ _
      | exact LeO.none _
      | refine LeO.ite ?_ ?_
      | refine LeO.bind ?_ (fun _ => ?_)
    · intro y0 y1 y2 y3
      unfold gjson_validany.j2
      repeat' first
      | (with_reducible exact ih0 _ _)
      | (with_reducible exact ih1 _ _)
      | (with_reducible exact ih2 _ _ _ _)
      | (with_reducible exact ih3 _ _)
      | (with_reducible exact ih4 _ _)
      | (with_reducible exact ih5 _ _)
      | (with_reducible exact ih6 _ _ _ _)
      | (with_reducible exact ih7 _ _ _ _)
      | (with_reducible exact gjson_validcomma.mono _ _ _ _)
      | (with_reducible exact LeO.refl _)
      | (with_reducible exact LeO.none _)
      | (with_reducible refine LeO.ite ?_ ?_)
      | (with_reducible refine LeO.bind ?_ (fun _ => ?_))
      | exact ih0 _ _
      | exact ih1 _ _
      | exact ih2 _ _ _ _
      | exact ih3 _ _
      | exact ih4 _ _
      | exact ih5 _ _
      | exact ih6 _ _ _ _
      | exact ih7 _ _ _ _
      | exact gjson_validcomma.mono _ _ _ _
      | exact LeO.none _
      | refine LeO.ite ?_ ?_
      | refine LeO.bind ?_ (fun _ => ?_)
theorem gjson_validarray.mono : ∀ a0 a1 k, LeO (gjson_validarray.f k a0 a1) (gjson_validarray.f (k + 1) a0 a1) := by
  intro a0 a1 k
  obtain ⟨ih0, ih1, ih2, ih3, ih4, ih5, ih6, ih7⟩ := gjson_validarray.scc_mono k
  exact ih0 a0 a1
theorem gjson_validany.mono : ∀ a0 a1 k, LeO (gjson_validany.f k a0 a1) (gjson_validany.f (k + 1) a0 a1) := by
  intro a0 a1 k
  obtain ⟨ih0, ih1, ih2, ih3, ih4, ih5, ih6, ih7⟩ := gjson_validarray.scc_mono k
  exact ih4 a0 a1
abbrev gjson_validarray.Spec (k : Nat) : Prop := ∀ (A0 : Option Addr) (c0 : Nat) (l0 : List Int) (a1 : Int) (r1 : Int) (r2 : Bool) (w : World) (hr0 : Kd.C (Kd.int .u8) w A0 l0.length l0) (hc0 : l0.length ≤ c0) (h : gjson_validarray.f k l0 a1 = some (r1, r2)),
    Calls Try.prog 44 #[.slice A0 l0.length c0, .int .i64 a1] w fun e w' => e = .returned (.tuple #[.int .i64 r1, .bool r2]) ∧ Drawn0 w w'
abbrev gjson_validany.Spec (k : Nat) : Prop := ∀ (A0 : Option Addr) (c0 : Nat) (l0 : List Int) (a1 : Int) (r1 : Int) (r2 : Bool) (w : World) (hr0 : Kd.C (Kd.int .u8) w A0 l0.length l0) (hc0 : l0.length ≤ c0) (h : gjson_validany.f k l0 a1 = some (r1, r2)),
    Calls Try.prog 40 #[.slice A0 l0.length c0, .int .i64 a1] w fun e w' => e = .returned (.tuple #[.int .i64 r1, .bool r2]) ∧ Drawn0 w w'

end Go.Proofs.Ytdllbnecbbggfaa.XFnGjValidWord
