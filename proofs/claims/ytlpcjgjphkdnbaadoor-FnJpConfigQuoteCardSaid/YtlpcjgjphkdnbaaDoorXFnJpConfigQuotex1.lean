-- Written by xprint.py of this session (a program that runs the kit's print and adds to it); Lean checks it.
import Derived.Test.YtlpcjgjphkdnbaaDoorXFnJpConfigQuotex0
namespace Go.Proofs.YtlpcjgjphkdnbaaDoor.XFnJpConfigQuote
open Go.RowKit Go.Proofs.YtlpcjgjphkdnbaaDoorW.PrintWords Go.Proofs.YtlpcjgjphkdnbaaDoorW.PrintLast Go.Proofs.YtlpcjgjphkdnbaaDoorW.PrintMore
attribute [local go_sem] max2_int min2_int max_two min_two max_three min_three max_four min_four   -- for this text's walks alone
set_option linter.unusedVariables false
set_option linter.unusedSimpArgs false

/-! ### laws_jpSimple: function 4 -/
def laws_jpSimple.l0 : Nat → ByteArray → Int → Option (Bool)
  | 0, _, _ => none
  | k + 1, x0, x3 => if x3 < (x0.size : Int) then (if 0 ≤ x3 then (if (Go.bits .or .u8 (bt x0 x3) 32) < 97 then (if (bt x0 x3) < 48 then (if (bt x0 x3) = 32 then (laws_jpSimple.l0 k x0 (wrap64 (x3 + 1))) else (if (bt x0 x3) < 128 then (some false) else (laws_jpSimple.l0 k x0 (wrap64 (x3 + 1))))) else (if (bt x0 x3) > 57 then (if (bt x0 x3) = 32 then (laws_jpSimple.l0 k x0 (wrap64 (x3 + 1))) else (if (bt x0 x3) < 128 then (some false) else (laws_jpSimple.l0 k x0 (wrap64 (x3 + 1))))) else (laws_jpSimple.l0 k x0 (wrap64 (x3 + 1))))) else (if (Go.bits .or .u8 (bt x0 x3) 32) > 122 then (if (bt x0 x3) < 48 then (if (bt x0 x3) = 32 then (laws_jpSimple.l0 k x0 (wrap64 (x3 + 1))) else (if (bt x0 x3) < 128 then (some false) else (laws_jpSimple.l0 k x0 (wrap64 (x3 + 1))))) else (if (bt x0 x3) > 57 then (if (bt x0 x3) = 32 then (laws_jpSimple.l0 k x0 (wrap64 (x3 + 1))) else (if (bt x0 x3) < 128 then (some false) else (laws_jpSimple.l0 k x0 (wrap64 (x3 + 1))))) else (laws_jpSimple.l0 k x0 (wrap64 (x3 + 1))))) else (laws_jpSimple.l0 k x0 (wrap64 (x3 + 1))))) else (none)) else (some (decide ((x0.size : Int) ≤ 100)))
def laws_jpSimple.f (k : Nat) (a0 : ByteArray) : Option (Bool) := laws_jpSimple.l0 k a0 0
theorem laws_jpSimple.mono_l : ∀ k, (∀ y0 y1, LeO (laws_jpSimple.l0 k y0 y1) (laws_jpSimple.l0 (k + 1) y0 y1))
  | 0 => fun _ _ r h => by simp [laws_jpSimple.l0] at h
  | k + 1 => by
    have ih0 := laws_jpSimple.mono_l k
    · intro y0 y1
      unfold laws_jpSimple.l0
      repeat' first
      | (with_reducible exact ih0 _ _)
      | (with_reducible exact LeO.refl _)
      | (with_reducible exact LeO.none _)
      | (with_reducible refine LeO.ite ?_ ?_)
      | (with_reducible refine LeO.bind ?_ (fun _ => ?_))
      | exact ih0 _ _
      | exact LeO.none _
      | refine LeO.ite ?_ ?_
      | refine LeO.bind ?_ (fun _ => ?_)
theorem laws_jpSimple.mono : ∀ a0 k, LeO (laws_jpSimple.f k a0) (laws_jpSimple.f (k + 1) a0) := by
  intro a0 k
  have ih0 := laws_jpSimple.mono_l k
  unfold laws_jpSimple.f
  repeat' first
      | (with_reducible exact ih0 _ _)
      | (with_reducible exact LeO.refl _)
      | (with_reducible exact LeO.none _)
      | (with_reducible refine LeO.ite ?_ ?_)
      | (with_reducible refine LeO.bind ?_ (fun _ => ?_))
      | exact ih0 _ _
      | exact LeO.none _
      | refine LeO.ite ?_ ?_
      | refine LeO.bind ?_ (fun _ => ?_)
set_option maxHeartbeats 8000000 in
set_option maxRecDepth 100000 in
theorem laws_jpSimple.calls (k : Nat) (a0 : ByteArray) (r : Bool) (w : World) (h : laws_jpSimple.f k a0 = some r) :
    Calls Tryd.prog 4 #[.string a0] w fun e w' => e = .returned (.bool r) ∧ Drawn0 w w' := by
  have H : (laws_jpSimple.l0 k a0 0) = some r := h
  clear h
  have H' := Aside0.mk H
  clear H
  go_enter Tryd.func4, Tryd.ntmps4
  go_wp2
  try simp only [Act.put, List.setIfInBounds_toArray, List.set_cons_succ, List.set_cons_zero]
  go_loopg [3] k (fun kq v3 w' => ∃ (x3_1 : Int), v3 = .int .i64 x3_1 ∧ Aside0 (laws_jpSimple.l0 kq a0 x3_1 = some r) ∧ Aside0 (kq ≤ k) ∧ Drawn0 w w')
  case atStart => exact ⟨(0), (by first | rfl | (simp; done) | (simp [*]; done)), H', ⟨Nat.le_refl _⟩, by repeat (first | exact Drawn0.refl _ | apply Drawn0.step)⟩
  case round =>
    clear H'
    obtain ⟨x3_1, rfl, HA, HK1, ⟨m1, rfl⟩⟩ := hrel
    cases gk with
    | zero => exact absurd HA.out (by simp [laws_jpSimple.l0])
    | succ k1 =>
      have H := HA.out
      clear HA
      simp only [laws_jpSimple.l0] at H
      by_cases c2 : x3_1 < (a0.size : Int)
      · rw [if_pos c2] at H
        have c2b0 : decide (x3_1 < (a0.size : Int)) = true := decide_eq_true c2
        clear c2
        by_cases c3 : 0 ≤ x3_1
        · rw [if_pos c3] at H
          have c3b0 : decide (0 ≤ x3_1) = true := decide_eq_true c3
          clear c3
          by_cases c5 : (Go.bits .or .u8 (bt a0 x3_1) 32) < 97
          · rw [if_pos c5] at H
            have c5b0 : decide ((Go.bits .or .u8 (bt a0 x3_1) 32) < 97) = true := decide_eq_true c5
            clear c5
            by_cases c6 : (bt a0 x3_1) < 48
            · rw [if_pos c6] at H
              have c6b0 : decide ((bt a0 x3_1) < 48) = true := decide_eq_true c6
              clear c6
              by_cases c7 : (bt a0 x3_1) = 32
              · rw [if_pos c7] at H
                have c7b0 : ((bt a0 x3_1) == 32) = true := beq_iff_eq.mpr c7
                have c7b1 : ((bt a0 x3_1) != 32) = false := bne_eq_false_iff_eq.mpr c7
                clear c7
                have H' := Aside0.mk H
                clear H
                have p4 : 0 ≤ (x3_1 : Int) := of_decide_eq_true (by first | (with_reducible assumption) | assumption)
                have q4 : x3_1 < (a0.size : Int) := of_decide_eq_true (by first | (with_reducible assumption) | assumption)
                have hx4 := bt_at a0 x3_1
                replace p4 := eq_true p4
                replace q4 := eq_true q4
                go_wp2
                go_roundg k1
                case measure => have := HK1.out; omega
                case rel => exact ⟨(wrap64 (x3_1 + 1)), (by first | rfl | (simp; done) | (simp [*]; done)), H', ⟨by have := HK1.out; omega⟩, by repeat (first | exact Drawn0.refl _ | apply Drawn0.step)⟩
              · rw [if_neg c7] at H
                have c7b0 : ((bt a0 x3_1) == 32) = false := beq_eq_false_iff_ne.mpr c7
                have c7b1 : ((bt a0 x3_1) != 32) = true := bne_iff_ne.mpr c7
                by_cases c8 : (bt a0 x3_1) < 128
                · rw [if_pos c8] at H
                  have c8b0 : decide ((bt a0 x3_1) < 128) = true := decide_eq_true c8
                  clear c8
                  obtain rfl := Option.some.inj H
                  have p4 : 0 ≤ (x3_1 : Int) := of_decide_eq_true (by first | (with_reducible assumption) | assumption)
                  have q4 : x3_1 < (a0.size : Int) := of_decide_eq_true (by first | (with_reducible assumption) | assumption)
                  have hx4 := bt_at a0 x3_1
                  replace p4 := eq_true p4
                  replace q4 := eq_true q4
                  go_wp2
                  go_ret
                  exact ⟨by first | rfl | (simp; done) | (simp [*]; done), by repeat (first | exact Drawn0.refl _ | apply Drawn0.step)⟩
                · rw [if_neg c8] at H
                  have c8b0 : decide ((bt a0 x3_1) < 128) = false := decide_eq_false c8
                  clear c8
                  have H' := Aside0.mk H
                  clear H
                  have p4 : 0 ≤ (x3_1 : Int) := of_decide_eq_true (by first | (with_reducible assumption) | assumption)
                  have q4 : x3_1 < (a0.size : Int) := of_decide_eq_true (by first | (with_reducible assumption) | assumption)
                  have hx4 := bt_at a0 x3_1
                  replace p4 := eq_true p4
                  replace q4 := eq_true q4
                  go_wp2
                  go_roundg k1
                  case measure => have := HK1.out; omega
                  case rel => exact ⟨(wrap64 (x3_1 + 1)), (by first | rfl | (simp; done) | (simp [*]; done)), H', ⟨by have := HK1.out; omega⟩, by repeat (first | exact Drawn0.refl _ | apply Drawn0.step)⟩
            · rw [if_neg c6] at H
              have c6b0 : decide ((bt a0 x3_1) < 48) = false := decide_eq_false c6
              clear c6
              by_cases c9 : (bt a0 x3_1) > 57
              · rw [if_pos c9] at H
                have c9b0 : decide (57 < (bt a0 x3_1)) = true := decide_eq_true c9
                clear c9
                by_cases c10 : (bt a0 x3_1) = 32
                · rw [if_pos c10] at H
                  have c10b0 : ((bt a0 x3_1) == 32) = true := beq_iff_eq.mpr c10
                  have c10b1 : ((bt a0 x3_1) != 32) = false := bne_eq_false_iff_eq.mpr c10
                  clear c10
                  have H' := Aside0.mk H
                  clear H
                  have p4 : 0 ≤ (x3_1 : Int) := of_decide_eq_true (by first | (with_reducible assumption) | assumption)
                  have q4 : x3_1 < (a0.size : Int) := of_decide_eq_true (by first | (with_reducible assumption) | assumption)
                  have hx4 := bt_at a0 x3_1
                  replace p4 := eq_true p4
                  replace q4 := eq_true q4
                  go_wp2
                  go_roundg k1
                  case measure => have := HK1.out; omega
                  case rel => exact ⟨(wrap64 (x3_1 + 1)), (by first | rfl | (simp; done) | (simp [*]; done)), H', ⟨by have := HK1.out; omega⟩, by repeat (first | exact Drawn0.refl _ | apply Drawn0.step)⟩
                · rw [if_neg c10] at H
                  have c10b0 : ((bt a0 x3_1) == 32) = false := beq_eq_false_iff_ne.mpr c10
                  have c10b1 : ((bt a0 x3_1) != 32) = true := bne_iff_ne.mpr c10
                  by_cases c11 : (bt a0 x3_1) < 128
                  · rw [if_pos c11] at H
                    have c11b0 : decide ((bt a0 x3_1) < 128) = true := decide_eq_true c11
                    clear c11
                    obtain rfl := Option.some.inj H
                    have p4 : 0 ≤ (x3_1 : Int) := of_decide_eq_true (by first | (with_reducible assumption) | assumption)
                    have q4 : x3_1 < (a0.size : Int) := of_decide_eq_true (by first | (with_reducible assumption) | assumption)
                    have hx4 := bt_at a0 x3_1
                    replace p4 := eq_true p4
                    replace q4 := eq_true q4
                    go_wp2
                    go_ret
                    exact ⟨by first | rfl | (simp; done) | (simp [*]; done), by repeat (first | exact Drawn0.refl _ | apply Drawn0.step)⟩
                  · rw [if_neg c11] at H
                    have c11b0 : decide ((bt a0 x3_1) < 128) = false := decide_eq_false c11
                    clear c11
                    have H' := Aside0.mk H
                    clear H
                    have p4 : 0 ≤ (x3_1 : Int) := of_decide_eq_true (by first | (with_reducible assumption) | assumption)
                    have q4 : x3_1 < (a0.size : Int) := of_decide_eq_true (by first | (with_reducible assumption) | assumption)
                    have hx4 := bt_at a0 x3_1
                    replace p4 := eq_true p4
                    replace q4 := eq_true q4
                    go_wp2
                    go_roundg k1
                    case measure => have := HK1.out; omega
                    case rel => exact ⟨(wrap64 (x3_1 + 1)), (by first | rfl | (simp; done) | (simp [*]; done)), H', ⟨by have := HK1.out; omega⟩, by repeat (first | exact Drawn0.refl _ | apply Drawn0.step)⟩
              · rw [if_neg c9] at H
                have c9b0 : decide (57 < (bt a0 x3_1)) = false := decide_eq_false c9
                clear c9
                have H' := Aside0.mk H
                clear H
                have p4 : 0 ≤ (x3_1 : Int) := of_decide_eq_true (by first | (with_reducible assumption) | assumption)
                have q4 : x3_1 < (a0.size : Int) := of_decide_eq_true (by first | (with_reducible assumption) | assumption)
                have hx4 := bt_at a0 x3_1
                replace p4 := eq_true p4
                replace q4 := eq_true q4
                go_wp2
                go_roundg k1
                case measure => have := HK1.out; omega
                case rel => exact ⟨(wrap64 (x3_1 + 1)), (by first | rfl | (simp; done) | (simp [*]; done)), H', ⟨by have := HK1.out; omega⟩, by repeat (first | exact Drawn0.refl _ | apply Drawn0.step)⟩
          · rw [if_neg c5] at H
            have c5b0 : decide ((Go.bits .or .u8 (bt a0 x3_1) 32) < 97) = false := decide_eq_false c5
            clear c5
            by_cases c12 : (Go.bits .or .u8 (bt a0 x3_1) 32) > 122
            · rw [if_pos c12] at H
              have c12b0 : decide (122 < (Go.bits .or .u8 (bt a0 x3_1) 32)) = true := decide_eq_true c12
              clear c12
              by_cases c13 : (bt a0 x3_1) < 48
              · rw [if_pos c13] at H
                have c13b0 : decide ((bt a0 x3_1) < 48) = true := decide_eq_true c13
                clear c13
                by_cases c14 : (bt a0 x3_1) = 32
                · rw [if_pos c14] at H
                  have c14b0 : ((bt a0 x3_1) == 32) = true := beq_iff_eq.mpr c14
                  have c14b1 : ((bt a0 x3_1) != 32) = false := bne_eq_false_iff_eq.mpr c14
                  clear c14
                  have H' := Aside0.mk H
                  clear H
                  have p4 : 0 ≤ (x3_1 : Int) := of_decide_eq_true (by first | (with_reducible assumption) | assumption)
                  have q4 : x3_1 < (a0.size : Int) := of_decide_eq_true (by first | (with_reducible assumption) | assumption)
                  have hx4 := bt_at a0 x3_1
                  replace p4 := eq_true p4
                  replace q4 := eq_true q4
                  go_wp2
                  go_roundg k1
                  case measure => have := HK1.out; omega
                  case rel => exact ⟨(wrap64 (x3_1 + 1)), (by first | rfl | (simp; done) | (simp [*]; done)), H', ⟨by have := HK1.out; omega⟩, by repeat (first | exact Drawn0.refl _ | apply Drawn0.step)⟩
                · rw [if_neg c14] at H
                  have c14b0 : ((bt a0 x3_1) == 32) = false := beq_eq_false_iff_ne.mpr c14
                  have c14b1 : ((bt a0 x3_1) != 32) = true := bne_iff_ne.mpr c14
                  by_cases c15 : (bt a0 x3_1) < 128
                  · rw [if_pos c15] at H
                    have c15b0 : decide ((bt a0 x3_1) < 128) = true := decide_eq_true c15
                    clear c15
                    obtain rfl := Option.some.inj H
                    have p4 : 0 ≤ (x3_1 : Int) := of_decide_eq_true (by first | (with_reducible assumption) | assumption)
                    have q4 : x3_1 < (a0.size : Int) := of_decide_eq_true (by first | (with_reducible assumption) | assumption)
                    have hx4 := bt_at a0 x3_1
                    replace p4 := eq_true p4
                    replace q4 := eq_true q4
                    go_wp2
                    go_ret
                    exact ⟨by first | rfl | (simp; done) | (simp [*]; done), by repeat (first | exact Drawn0.refl _ | apply Drawn0.step)⟩
                  · rw [if_neg c15] at H
                    have c15b0 : decide ((bt a0 x3_1) < 128) = false := decide_eq_false c15
                    clear c15
                    have H' := Aside0.mk H
                    clear H
                    have p4 : 0 ≤ (x3_1 : Int) := of_decide_eq_true (by first | (with_reducible assumption) | assumption)
                    have q4 : x3_1 < (a0.size : Int) := of_decide_eq_true (by first | (with_reducible assumption) | assumption)
                    have hx4 := bt_at a0 x3_1
                    replace p4 := eq_true p4
                    replace q4 := eq_true q4
                    go_wp2
                    go_roundg k1
                    case measure => have := HK1.out; omega
                    case rel => exact ⟨(wrap64 (x3_1 + 1)), (by first | rfl | (simp; done) | (simp [*]; done)), H', ⟨by have := HK1.out; omega⟩, by repeat (first | exact Drawn0.refl _ | apply Drawn0.step)⟩
              · rw [if_neg c13] at H
                have c13b0 : decide ((bt a0 x3_1) < 48) = false := decide_eq_false c13
                clear c13
                by_cases c16 : (bt a0 x3_1) > 57
                · rw [if_pos c16] at H
                  have c16b0 : decide (57 < (bt a0 x3_1)) = true := decide_eq_true c16
                  clear c16
                  by_cases c17 : (bt a0 x3_1) = 32
                  · rw [if_pos c17] at H
                    have c17b0 : ((bt a0 x3_1) == 32) = true := beq_iff_eq.mpr c17
                    have c17b1 : ((bt a0 x3_1) != 32) = false := bne_eq_false_iff_eq.mpr c17
                    clear c17
                    have H' := Aside0.mk H
                    clear H
                    have p4 : 0 ≤ (x3_1 : Int) := of_decide_eq_true (by first | (with_reducible assumption) | assumption)
                    have q4 : x3_1 < (a0.size : Int) := of_decide_eq_true (by first | (with_reducible assumption) | assumption)
                    have hx4 := bt_at a0 x3_1
                    replace p4 := eq_true p4
                    replace q4 := eq_true q4
                    go_wp2
                    go_roundg k1
                    case measure => have := HK1.out; omega
                    case rel => exact ⟨(wrap64 (x3_1 + 1)), (by first | rfl | (simp; done) | (simp [*]; done)), H', ⟨by have := HK1.out; omega⟩, by repeat (first | exact Drawn0.refl _ | apply Drawn0.step)⟩
                  · rw [if_neg c17] at H
                    have c17b0 : ((bt a0 x3_1) == 32) = false := beq_eq_false_iff_ne.mpr c17
                    have c17b1 : ((bt a0 x3_1) != 32) = true := bne_iff_ne.mpr c17
                    by_cases c18 : (bt a0 x3_1) < 128
                    · rw [if_pos c18] at H
                      have c18b0 : decide ((bt a0 x3_1) < 128) = true := decide_eq_true c18
                      clear c18
                      obtain rfl := Option.some.inj H
                      have p4 : 0 ≤ (x3_1 : Int) := of_decide_eq_true (by first | (with_reducible assumption) | assumption)
                      have q4 : x3_1 < (a0.size : Int) := of_decide_eq_true (by first | (with_reducible assumption) | assumption)
                      have hx4 := bt_at a0 x3_1
                      replace p4 := eq_true p4
                      replace q4 := eq_true q4
                      go_wp2
                      go_ret
                      exact ⟨by first | rfl | (simp; done) | (simp [*]; done), by repeat (first | exact Drawn0.refl _ | apply Drawn0.step)⟩
                    · rw [if_neg c18] at H
                      have c18b0 : decide ((bt a0 x3_1) < 128) = false := decide_eq_false c18
                      clear c18
                      have H' := Aside0.mk H
                      clear H
                      have p4 : 0 ≤ (x3_1 : Int) := of_decide_eq_true (by first | (with_reducible assumption) | assumption)
                      have q4 : x3_1 < (a0.size : Int) := of_decide_eq_true (by first | (with_reducible assumption) | assumption)
                      have hx4 := bt_at a0 x3_1
                      replace p4 := eq_true p4
                      replace q4 := eq_true q4
                      go_wp2
                      go_roundg k1
                      case measure => have := HK1.out; omega
                      case rel => exact ⟨(wrap64 (x3_1 + 1)), (by first | rfl | (simp; done) | (simp [*]; done)), H', ⟨by have := HK1.out; omega⟩, by repeat (first | exact Drawn0.refl _ | apply Drawn0.step)⟩
                · rw [if_neg c16] at H
                  have c16b0 : decide (57 < (bt a0 x3_1)) = false := decide_eq_false c16
                  clear c16
                  have H' := Aside0.mk H
                  clear H
                  have p4 : 0 ≤ (x3_1 : Int) := of_decide_eq_true (by first | (with_reducible assumption) | assumption)
                  have q4 : x3_1 < (a0.size : Int) := of_decide_eq_true (by first | (with_reducible assumption) | assumption)
                  have hx4 := bt_at a0 x3_1
                  replace p4 := eq_true p4
                  replace q4 := eq_true q4
                  go_wp2
                  go_roundg k1
                  case measure => have := HK1.out; omega
                  case rel => exact ⟨(wrap64 (x3_1 + 1)), (by first | rfl | (simp; done) | (simp [*]; done)), H', ⟨by have := HK1.out; omega⟩, by repeat (first | exact Drawn0.refl _ | apply Drawn0.step)⟩
            · rw [if_neg c12] at H
              have c12b0 : decide (122 < (Go.bits .or .u8 (bt a0 x3_1) 32)) = false := decide_eq_false c12
              clear c12
              have H' := Aside0.mk H
              clear H
              have p4 : 0 ≤ (x3_1 : Int) := of_decide_eq_true (by first | (with_reducible assumption) | assumption)
              have q4 : x3_1 < (a0.size : Int) := of_decide_eq_true (by first | (with_reducible assumption) | assumption)
              have hx4 := bt_at a0 x3_1
              replace p4 := eq_true p4
              replace q4 := eq_true q4
              go_wp2
              go_roundg k1
              case measure => have := HK1.out; omega
              case rel => exact ⟨(wrap64 (x3_1 + 1)), (by first | rfl | (simp; done) | (simp [*]; done)), H', ⟨by have := HK1.out; omega⟩, by repeat (first | exact Drawn0.refl _ | apply Drawn0.step)⟩
        · rw [if_neg c3] at H
          exact absurd H (by simp)
      · rw [if_neg c2] at H
        have c2b0 : decide (x3_1 < (a0.size : Int)) = false := decide_eq_false c2
        clear c2
        obtain rfl := Option.some.inj H
        go_wp2
        go_ret
        exact ⟨by first | rfl | (simp; done) | (simp [*]; done), by repeat (first | exact Drawn0.refl _ | apply Drawn0.step)⟩

/-! ### impl_config: function 6 -/
def impl_config.f (a0 : Bool) (a1 : Bool) : Option (Bool × Bool × Int) := some (a0, a1, 0)
set_option maxHeartbeats 8000000 in
set_option maxRecDepth 100000 in
theorem impl_config.calls (a0 : Bool) (a1 : Bool) (r1 : Bool) (r2 : Bool) (r3 : Int) (w : World) (h : impl_config.f a0 a1 = some (r1, r2, r3)) :
    Calls Tryd.prog 6 #[.bool a0, .bool a1] w fun e w' => e = .returned (.agg #[.bool r1, .bool r2, .int .i64 r3]) ∧ Below w.heap.size w w' := by
  have hu31 := Tryd.underlying31
  have HB := Aside0.mk (Below.refl w.heap.size w)
  have H : (some (a0, a1, 0)) = some (r1, r2, r3) := h
  clear h
  simp only [Option.some.injEq, Prod.mk.injEq] at H
  obtain ⟨rfl, rfl, rfl⟩ := H
  go_enter Tryd.func6, Tryd.ntmps6
  go_wp2_with (first | ((with_reducible refine gate_dst (N := 4) rfl ?_); refine box_event ?hg (N := 4) ?hd (cs := #[.bool false, .bool false, .int .i64 0]) (t := 31) ?hr ?_; (case hd => rfl); (case hg => rfl); (case hr => first | (go_simp; done) | (go_simp; rfl)); intro gb101 hg w3 hbox hb; have n0_ := Aside0.mk (below_step (by repeat (first | (with_reducible first | exact HB.out | apply below_alloc | apply pw_below_drewN | apply below_drew1) | exact HB.out)) hb); have n1_ := Aside0.mk (hbox); have n2_ := Aside0.mk ((by rw [hg]; exact (below_size (by repeat (first | (with_reducible first | exact HB.out | apply below_alloc | apply pw_below_drewN | apply below_drew1) | exact HB.out))) : w.heap.size ≤ gb101)); have n3_ := Aside0.mk ((by rw [hg]; exact (below_size (by repeat (first | (with_reducible first | exact HB.out | apply below_alloc | apply pw_below_drewN | apply below_drew1) | exact HB.out))) : w.heap.size ≤ gb101)); clear HB; have HB := n0_; have BK101 := n1_; have GW101 := n2_; have GE101 := n3_; clear n0_ n1_ n2_ n3_; clear hb hbox hg; have hcz4_0 : w3.cell? ⟨gb101, 0, none⟩ = some (.bool false) := (blk_cell BK101.out 0).trans rfl; have hcz4_1 : w3.cell? ⟨gb101, 1, none⟩ = some (.bool false) := (blk_cell BK101.out 1).trans rfl; have hcz4_2 : w3.cell? ⟨gb101, 2, none⟩ = some (.int .i64 0) := (blk_cell BK101.out 2).trans rfl; have hfz4_0 := blk_frozen BK101.out 0; have hfz4_1 := blk_frozen BK101.out 1; have hfz4_2 := blk_frozen BK101.out 2))
  refine bodyPost_ret (results_cell_row rfl _ _ gb101 31 #[.bool a0, .bool a1, .int .i64 0] (0, 0) _ rfl (by (with_reducible repeat (first | refine blk_drewN ?_ _ | refine blk_drew ?_ | refine blk_alloc ?_ _)); refine blk_put (cs := #[.bool a0, .bool a1, .int .i64 0]) ?_ 2 _ rfl; (with_reducible repeat (first | refine blk_drewN ?_ _ | refine blk_drew ?_ | refine blk_alloc ?_ _)); refine blk_put (cs := #[.bool a0, .bool false, .int .i64 0]) ?_ 1 _ rfl; (with_reducible repeat (first | refine blk_drewN ?_ _ | refine blk_drew ?_ | refine blk_alloc ?_ _)); refine blk_put (cs := #[.bool false, .bool false, .int .i64 0]) ?_ 0 _ rfl; (with_reducible repeat (first | refine blk_drewN ?_ _ | refine blk_drew ?_ | refine blk_alloc ?_ _)); exact BK101.out) Tryd.underlying31 rfl (by kernel_rfl)) rfl ?_
  exact ⟨by first | rfl | (simp [errW_none, errW_some] <;> rfl) | (simp [*, errW_none, errW_some] <;> rfl), by repeat (first | (with_reducible first | exact HB.out | apply below_alloc | apply pw_below_drewN | apply below_drew1 | refine below_set ?_ GE101.out) | exact HB.out)⟩

/-! ### jsonparser_searchKeysConfig: function 15 -/
def jsonparser_searchKeysConfig.f (a0_0 : Bool) (a0_1 : Bool) (a0_2 : Int) (l1 : List Int) (l2 : List ByteArray) : Option (Int) := none
set_option maxHeartbeats 8000000 in
set_option maxRecDepth 100000 in
theorem jsonparser_searchKeysConfig.calls (a0_0 : Bool) (a0_1 : Bool) (a0_2 : Int) (A1 : Option Addr) (c1 : Nat) (l1 : List Int) (A2 : Option Addr) (c2 : Nat) (l2 : List ByteArray) (r : Int) (w : World) (hr1 : Kd.C (Kd.int .u8) w A1 l1.length l1) (hc1 : l1.length ≤ c1) (hr2 : Kd.C Kd.string w A2 l2.length l2) (hc2 : l2.length ≤ c2) (h : jsonparser_searchKeysConfig.f a0_0 a0_1 a0_2 l1 l2 = some r) :
    Calls Tryd.prog 15 #[.agg #[.bool a0_0, .bool a0_1, .int .i64 a0_2], .slice A1 l1.length c1, .slice A2 l2.length c2] w fun e w' => e = .returned (.int .i64 r) ∧ Drawn0 w w' := by
  have hu31 := Tryd.underlying31
  have hu28 := Tryd.underlying28
  have HR1 := Aside0.mk hr1
  have HC1 := Aside0.mk hc1
  clear hr1 hc1
  have HR2 := Aside0.mk hr2
  have HC2 := Aside0.mk hc2
  clear hr2 hc2
  have H : (none) = some r := h
  clear h
  exact absurd H (by simp)

/-! ### jsonparser_nextTokenConfig: function 16 -/
def jsonparser_nextTokenConfig.l0 : Nat → List Int → Int → Int → Option (Int)
  | 0, _, _, _ => none
  | k + 1, x7, x8, x9 => if x9 < x8 then (if 0 ≤ x9 then (if x9 < (x7.length : Int) then (if (rd x7 x9) = 32 then (jsonparser_nextTokenConfig.l0 k x7 x8 (wrap64 (x9 + 1))) else (if (rd x7 x9) = 10 then (jsonparser_nextTokenConfig.l0 k x7 x8 (wrap64 (x9 + 1))) else (if (rd x7 x9) = 13 then (jsonparser_nextTokenConfig.l0 k x7 x8 (wrap64 (x9 + 1))) else (if (rd x7 x9) = 9 then (jsonparser_nextTokenConfig.l0 k x7 x8 (wrap64 (x9 + 1))) else (some x9))))) else (none)) else (none)) else (some (-1))
def jsonparser_nextTokenConfig.f (k : Nat) (a0_0 : Bool) (a0_1 : Bool) (a0_2 : Int) (l1 : List Int) : Option (Int) := jsonparser_nextTokenConfig.l0 k l1 (l1.length : Int) 0
theorem jsonparser_nextTokenConfig.mono_l : ∀ k, (∀ y0 y1 y2, LeO (jsonparser_nextTokenConfig.l0 k y0 y1 y2) (jsonparser_nextTokenConfig.l0 (k + 1) y0 y1 y2))
  | 0 => fun _ _ _ r h => by simp [jsonparser_nextTokenConfig.l0] at h
  | k + 1 => by
    have ih0 := jsonparser_nextTokenConfig.mono_l k
    · intro y0 y1 y2
      unfold jsonparser_nextTokenConfig.l0
      repeat' first
      | (with_reducible exact ih0 _ _ _)
      | (with_reducible exact LeO.refl _)
      | (with_reducible exact LeO.none _)
      | (with_reducible refine LeO.ite ?_ ?_)
      | (with_reducible refine LeO.bind ?_ (fun _ => ?_))
      | exact ih0 _ _ _
      | exact LeO.none _
      | refine LeO.ite ?_ ?_
      | refine LeO.bind ?_ (fun _ => ?_)
theorem jsonparser_nextTokenConfig.mono : ∀ a0 a1 a2 a3 k, LeO (jsonparser_nextTokenConfig.f k a0 a1 a2 a3) (jsonparser_nextTokenConfig.f (k + 1) a0 a1 a2 a3) := by
  intro a0 a1 a2 a3 k
  have ih0 := jsonparser_nextTokenConfig.mono_l k
  unfold jsonparser_nextTokenConfig.f
  repeat' first
      | (with_reducible exact ih0 _ _ _)
      | (with_reducible exact LeO.refl _)
      | (with_reducible exact LeO.none _)
      | (with_reducible refine LeO.ite ?_ ?_)
      | (with_reducible refine LeO.bind ?_ (fun _ => ?_))
      | exact ih0 _ _ _
      | exact LeO.none _
      | refine LeO.ite ?_ ?_
      | refine LeO.bind ?_ (fun _ => ?_)
set_option maxHeartbeats 8000000 in
set_option maxRecDepth 100000 in
theorem jsonparser_nextTokenConfig.calls (k : Nat) (a0_0 : Bool) (a0_1 : Bool) (a0_2 : Int) (A1 : Option Addr) (c1 : Nat) (l1 : List Int) (r : Int) (w : World) (hr1 : Kd.C (Kd.int .u8) w A1 l1.length l1) (hc1 : l1.length ≤ c1) (h : jsonparser_nextTokenConfig.f k a0_0 a0_1 a0_2 l1 = some r) :
    Calls Tryd.prog 16 #[.agg #[.bool a0_0, .bool a0_1, .int .i64 a0_2], .slice A1 l1.length c1] w fun e w' => e = .returned (.int .i64 r) ∧ Below w.heap.size w w' := by
  have hu31 := Tryd.underlying31
  have HR1 := Aside0.mk hr1
  have HC1 := Aside0.mk hc1
  clear hr1 hc1
  have HB := Aside0.mk (Below.refl w.heap.size w)
  have H : (jsonparser_nextTokenConfig.l0 k l1 (l1.length : Int) 0) = some r := h
  clear h
  have H' := Aside0.mk H
  clear H
  go_enter Tryd.func16, Tryd.ntmps16
  go_wp2_with (first | ((with_reducible refine gate_dst (N := 2) rfl ?_); refine box_event ?hg (N := 2) ?hd (cs := #[.bool a0_0, .bool a0_1, .int .i64 a0_2]) (t := 31) ?hr ?_; (case hd => rfl); (case hg => rfl); (case hr => first | (go_simp; done) | (go_simp; rfl)); intro gb102 hg w3 hbox hb; have n0_ := Aside0.mk (below_step (by repeat (first | (with_reducible first | exact HB.out | apply below_alloc | apply pw_below_drewN | apply below_drew1) | exact HB.out)) hb); have n1_ := Aside0.mk (hbox); have n2_ := Aside0.mk ((by rw [hg]; exact (below_size (by repeat (first | (with_reducible first | exact HB.out | apply below_alloc | apply pw_below_drewN | apply below_drew1) | exact HB.out))) : w.heap.size ≤ gb102)); have n3_ := Aside0.mk ((by rw [hg]; exact (below_size (by repeat (first | (with_reducible first | exact HB.out | apply below_alloc | apply pw_below_drewN | apply below_drew1) | exact HB.out))) : w.heap.size ≤ gb102)); clear HB; have HB := n0_; have BK102 := n1_; have GW102 := n2_; have GE102 := n3_; clear n0_ n1_ n2_ n3_; clear hb hbox hg))
  try simp only [Act.put, List.setIfInBounds_toArray, List.set_cons_succ, List.set_cons_zero]
  go_loopg [9] k (fun kq v9 w' => ∃ (x9_1 : Int), v9 = .int .i64 x9_1 ∧ Aside0 (jsonparser_nextTokenConfig.l0 kq l1 (l1.length : Int) x9_1 = some r) ∧ Aside0 (kq ≤ k) ∧ Aside0 (w'.heap[gb102]? = some (.cells #[.bool a0_0, .bool a0_1, .int .i64 a0_2] 31 (0, 0))) ∧ Aside0 (Below w.heap.size w w'))
  case atStart => exact ⟨(0), (by first | rfl | (simp; done) | (simp [*]; done)), H', ⟨Nat.le_refl _⟩, ⟨by (with_reducible repeat (first | refine blk_drewN ?_ _ | refine blk_drew ?_ | refine blk_alloc ?_ _)); exact BK102.out⟩, ⟨by repeat (first | (with_reducible first | exact HB.out | apply below_alloc | apply pw_below_drewN | apply below_drew1 | refine below_set ?_ GE102.out) | exact HB.out)⟩⟩
  case round =>
    clear H'
    try clear c1
    try clear p2
    obtain ⟨x9_1, rfl, HA, HK1, BK102, HB⟩ := hrel
    cases gk with
    | zero => exact absurd HA.out (by simp [jsonparser_nextTokenConfig.l0])
    | succ k1 =>
      have H := HA.out
      clear HA
      simp only [jsonparser_nextTokenConfig.l0] at H
      by_cases c4 : x9_1 < (l1.length : Int)
      · rw [if_pos c4] at H
        have c4b0 : decide (x9_1 < (l1.length : Int)) = true := decide_eq_true c4
        clear c4
        by_cases c5 : 0 ≤ x9_1
        · rw [if_pos c5] at H
          have c5b0 : decide (0 ≤ x9_1) = true := decide_eq_true c5
          clear c5
          by_cases c6 : x9_1 < (l1.length : Int)
          · rw [if_pos c6] at H
            have c6b0 : decide (x9_1 < (l1.length : Int)) = true := decide_eq_true c6
            clear c6
            by_cases c7 : (rd l1 x9_1) = 32
            · rw [if_pos c7] at H
              have c7b0 : ((rd l1 x9_1) == 32) = true := beq_iff_eq.mpr c7
              have c7b1 : ((rd l1 x9_1) != 32) = false := bne_eq_false_iff_eq.mpr c7
              clear c7
              have H' := Aside0.mk H
              clear H
              have p103 : 0 ≤ (x9_1 : Int) := of_decide_eq_true (by first | (with_reducible assumption) | assumption)
              have q103 : x9_1 < (l1.length : Int) := of_decide_eq_true (by first | (with_reducible assumption) | assumption)
              obtain ⟨ad103, e103, hx103_0⟩ := Kd.at_int HR1.out x9_1 p103 q103
              cases e103
              replace hx103_0 := (HB.out.cell (World.block_lt_of_cell? w _ hx103_0)).trans hx103_0
              replace p103 := eq_true p103
              replace q103 := eq_true q103
              go_wp2
              go_roundg k1
              case measure => have := HK1.out; omega
              case rel => exact ⟨(wrap64 (x9_1 + 1)), (by first | rfl | (simp; done) | (simp [*]; done)), H', ⟨by have := HK1.out; omega⟩, ⟨by (with_reducible repeat (first | refine blk_drewN ?_ _ | refine blk_drew ?_ | refine blk_alloc ?_ _)); exact BK102.out⟩, ⟨by repeat (first | (with_reducible first | exact HB.out | apply below_alloc | apply pw_below_drewN | apply below_drew1 | refine below_set ?_ GE102.out) | exact HB.out)⟩⟩
            · rw [if_neg c7] at H
              have c7b0 : ((rd l1 x9_1) == 32) = false := beq_eq_false_iff_ne.mpr c7
              have c7b1 : ((rd l1 x9_1) != 32) = true := bne_iff_ne.mpr c7
              by_cases c8 : (rd l1 x9_1) = 10
              · rw [if_pos c8] at H
                have c8b0 : ((rd l1 x9_1) == 10) = true := beq_iff_eq.mpr c8
                have c8b1 : ((rd l1 x9_1) != 10) = false := bne_eq_false_iff_eq.mpr c8
                clear c8
                have H' := Aside0.mk H
                clear H
                have p103 : 0 ≤ (x9_1 : Int) := of_decide_eq_true (by first | (with_reducible assumption) | assumption)
                have q103 : x9_1 < (l1.length : Int) := of_decide_eq_true (by first | (with_reducible assumption) | assumption)
                obtain ⟨ad103, e103, hx103_0⟩ := Kd.at_int HR1.out x9_1 p103 q103
                cases e103
                replace hx103_0 := (HB.out.cell (World.block_lt_of_cell? w _ hx103_0)).trans hx103_0
                replace p103 := eq_true p103
                replace q103 := eq_true q103
                go_wp2
                go_roundg k1
                case measure => have := HK1.out; omega
                case rel => exact ⟨(wrap64 (x9_1 + 1)), (by first | rfl | (simp; done) | (simp [*]; done)), H', ⟨by have := HK1.out; omega⟩, ⟨by (with_reducible repeat (first | refine blk_drewN ?_ _ | refine blk_drew ?_ | refine blk_alloc ?_ _)); exact BK102.out⟩, ⟨by repeat (first | (with_reducible first | exact HB.out | apply below_alloc | apply pw_below_drewN | apply below_drew1 | refine below_set ?_ GE102.out) | exact HB.out)⟩⟩
              · rw [if_neg c8] at H
                have c8b0 : ((rd l1 x9_1) == 10) = false := beq_eq_false_iff_ne.mpr c8
                have c8b1 : ((rd l1 x9_1) != 10) = true := bne_iff_ne.mpr c8
                by_cases c9 : (rd l1 x9_1) = 13
                · rw [if_pos c9] at H
                  have c9b0 : ((rd l1 x9_1) == 13) = true := beq_iff_eq.mpr c9
                  have c9b1 : ((rd l1 x9_1) != 13) = false := bne_eq_false_iff_eq.mpr c9
                  clear c9
                  have H' := Aside0.mk H
                  clear H
                  have p103 : 0 ≤ (x9_1 : Int) := of_decide_eq_true (by first | (with_reducible assumption) | assumption)
                  have q103 : x9_1 < (l1.length : Int) := of_decide_eq_true (by first | (with_reducible assumption) | assumption)
                  obtain ⟨ad103, e103, hx103_0⟩ := Kd.at_int HR1.out x9_1 p103 q103
                  cases e103
                  replace hx103_0 := (HB.out.cell (World.block_lt_of_cell? w _ hx103_0)).trans hx103_0
                  replace p103 := eq_true p103
                  replace q103 := eq_true q103
                  go_wp2
                  go_roundg k1
                  case measure => have := HK1.out; omega
                  case rel => exact ⟨(wrap64 (x9_1 + 1)), (by first | rfl | (simp; done) | (simp [*]; done)), H', ⟨by have := HK1.out; omega⟩, ⟨by (with_reducible repeat (first | refine blk_drewN ?_ _ | refine blk_drew ?_ | refine blk_alloc ?_ _)); exact BK102.out⟩, ⟨by repeat (first | (with_reducible first | exact HB.out | apply below_alloc | apply pw_below_drewN | apply below_drew1 | refine below_set ?_ GE102.out) | exact HB.out)⟩⟩
                · rw [if_neg c9] at H
                  have c9b0 : ((rd l1 x9_1) == 13) = false := beq_eq_false_iff_ne.mpr c9
                  have c9b1 : ((rd l1 x9_1) != 13) = true := bne_iff_ne.mpr c9
                  by_cases c10 : (rd l1 x9_1) = 9
                  · rw [if_pos c10] at H
                    have c10b0 : ((rd l1 x9_1) == 9) = true := beq_iff_eq.mpr c10
                    have c10b1 : ((rd l1 x9_1) != 9) = false := bne_eq_false_iff_eq.mpr c10
                    clear c10
                    have H' := Aside0.mk H
                    clear H
                    have p103 : 0 ≤ (x9_1 : Int) := of_decide_eq_true (by first | (with_reducible assumption) | assumption)
                    have q103 : x9_1 < (l1.length : Int) := of_decide_eq_true (by first | (with_reducible assumption) | assumption)
                    obtain ⟨ad103, e103, hx103_0⟩ := Kd.at_int HR1.out x9_1 p103 q103
                    cases e103
                    replace hx103_0 := (HB.out.cell (World.block_lt_of_cell? w _ hx103_0)).trans hx103_0
                    replace p103 := eq_true p103
                    replace q103 := eq_true q103
                    go_wp2
                    go_roundg k1
                    case measure => have := HK1.out; omega
                    case rel => exact ⟨(wrap64 (x9_1 + 1)), (by first | rfl | (simp; done) | (simp [*]; done)), H', ⟨by have := HK1.out; omega⟩, ⟨by (with_reducible repeat (first | refine blk_drewN ?_ _ | refine blk_drew ?_ | refine blk_alloc ?_ _)); exact BK102.out⟩, ⟨by repeat (first | (with_reducible first | exact HB.out | apply below_alloc | apply pw_below_drewN | apply below_drew1 | refine below_set ?_ GE102.out) | exact HB.out)⟩⟩
                  · rw [if_neg c10] at H
                    have c10b0 : ((rd l1 x9_1) == 9) = false := beq_eq_false_iff_ne.mpr c10
                    have c10b1 : ((rd l1 x9_1) != 9) = true := bne_iff_ne.mpr c10
                    obtain rfl := Option.some.inj H
                    have p103 : 0 ≤ (x9_1 : Int) := of_decide_eq_true (by first | (with_reducible assumption) | assumption)
                    have q103 : x9_1 < (l1.length : Int) := of_decide_eq_true (by first | (with_reducible assumption) | assumption)
                    obtain ⟨ad103, e103, hx103_0⟩ := Kd.at_int HR1.out x9_1 p103 q103
                    cases e103
                    replace hx103_0 := (HB.out.cell (World.block_lt_of_cell? w _ hx103_0)).trans hx103_0
                    replace p103 := eq_true p103
                    replace q103 := eq_true q103
                    go_wp2
                    go_ret
                    exact ⟨by first | rfl | (simp [errW_none, errW_some] <;> rfl) | (simp [*, errW_none, errW_some] <;> rfl), by repeat (first | (with_reducible first | exact HB.out | apply below_alloc | apply pw_below_drewN | apply below_drew1 | refine below_set ?_ GE102.out) | exact HB.out)⟩
          · rw [if_neg c6] at H
            exact absurd H (by simp)
        · rw [if_neg c5] at H
          exact absurd H (by simp)
      · rw [if_neg c4] at H
        have c4b0 : decide (x9_1 < (l1.length : Int)) = false := decide_eq_false c4
        clear c4
        obtain rfl := Option.some.inj H
        go_wp2
        go_ret
        exact ⟨by first | rfl | (simp [errW_none, errW_some] <;> rfl) | (simp [*, errW_none, errW_some] <;> rfl), by repeat (first | (with_reducible first | exact HB.out | apply below_alloc | apply pw_below_drewN | apply below_drew1 | refine below_set ?_ GE102.out) | exact HB.out)⟩

/-! ### jsonparser_getTypeConfig: function 17 -/
def jsonparser_getTypeConfig.f (a0_0 : Bool) (a0_1 : Bool) (a0_2 : Int) (l1 : List Int) (a2 : Int) : Option (List Int × Int × Int × Option Int) := none
set_option maxHeartbeats 8000000 in
set_option maxRecDepth 100000 in
theorem jsonparser_getTypeConfig.calls (a0_0 : Bool) (a0_1 : Bool) (a0_2 : Int) (A1 : Option Addr) (c1 : Nat) (l1 : List Int) (a2 : Int) (r1 : List Int) (r2 : Int) (r3 : Int) (r4 : Option Int) (w : World) (hr1 : Kd.C (Kd.int .u8) w A1 l1.length l1) (hc1 : l1.length ≤ c1) (h : jsonparser_getTypeConfig.f a0_0 a0_1 a0_2 l1 a2 = some (r1, r2, r3, r4)) :
    Calls Tryd.prog 17 #[.agg #[.bool a0_0, .bool a0_1, .int .i64 a0_2], .slice A1 l1.length c1, .int .i64 a2] w fun e w' => ∃ v0_ : Value, e = .returned (.tuple #[v0_, .int .i64 r2, .int .i64 r3, errW r4]) ∧ Kd.R (Kd.int .u8) 5 w' w.heap.size (fun _ => True) v0_ r1 ∧ Below w.heap.size w w' := by
  have hu31 := Tryd.underlying31
  have HR1 := Aside0.mk hr1
  have HC1 := Aside0.mk hc1
  clear hr1 hc1
  have HB := Aside0.mk (Below.refl w.heap.size w)
  have H : (none) = some (r1, r2, r3, r4) := h
  clear h
  exact absurd H (by simp)

-- NOT PRINTED: function 12 (jsonparser_internalGetConfig)

-- NOT PRINTED: function 8 (jsonparser_Config_Get)

-- NOT PRINTED: function 9 (errors_New)

-- NOT PRINTED: function 13 (bytealg_IndexByte)

-- NOT PRINTED: function 10 (bytes_IndexByte)

/-! ### jsonparser_unescapeConfig: function 11 -/
def jsonparser_unescapeConfig.f (a0_0 : Bool) (a0_1 : Bool) (a0_2 : Int) (l1 : List Int) (l2 : List Int) : Option (List Int × Option Int) := none
set_option maxHeartbeats 8000000 in
set_option maxRecDepth 100000 in
theorem jsonparser_unescapeConfig.calls (a0_0 : Bool) (a0_1 : Bool) (a0_2 : Int) (A1 : Option Addr) (c1 : Nat) (l1 : List Int) (A2 : Option Addr) (c2 : Nat) (l2 : List Int) (r1 : List Int) (r2 : Option Int) (w : World) (hr1 : Kd.C (Kd.int .u8) w A1 l1.length l1) (hc1 : l1.length ≤ c1) (hr2 : Kd.C (Kd.int .u8) w A2 l2.length l2) (hc2 : l2.length ≤ c2) (h : jsonparser_unescapeConfig.f a0_0 a0_1 a0_2 l1 l2 = some (r1, r2)) :
    Calls Tryd.prog 11 #[.agg #[.bool a0_0, .bool a0_1, .int .i64 a0_2], .slice A1 l1.length c1, .slice A2 l2.length c2] w fun e w' => ∃ v0_ : Value, e = .returned (.tuple #[v0_, errW r2]) ∧ Kd.R (Kd.int .u8) 5 w' w.heap.size (fun _ => True) v0_ r1 ∧ Below w.heap.size w w' := by
  have hu31 := Tryd.underlying31
  have HR1 := Aside0.mk hr1
  have HC1 := Aside0.mk hc1
  clear hr1 hc1
  have HR2 := Aside0.mk hr2
  have HC2 := Aside0.mk hc2
  clear hr2 hc2
  have HB := Aside0.mk (Below.refl w.heap.size w)
  have H : (none) = some (r1, r2) := h
  clear h
  exact absurd H (by simp)

-- NOT PRINTED: function 7 (jsonparser_Config_GetString)

-- NOT PRINTED: function 5 (impl_JqConfigString)

-- NOT PRINTED: function 3 (laws_FnJpConfigQuote)

end Go.Proofs.YtlpcjgjphkdnbaaDoor.XFnJpConfigQuote
