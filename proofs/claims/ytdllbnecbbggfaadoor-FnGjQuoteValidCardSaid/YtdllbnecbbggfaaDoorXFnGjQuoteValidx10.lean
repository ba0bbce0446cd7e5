-- Written by xprint.py of this session (a program that runs the kit's print and adds to it); Lean checks it.
import Derived.Test.YtdllbnecbbggfaaDoorXFnGjQuoteValidx0
import Derived.Test.YtdllbnecbbggfaaDoorXFnGjQuoteValidx9
namespace Go.Proofs.YtdllbnecbbggfaaDoor.XFnGjQuoteValid
open Go.RowKit Go.Proofs.YtdllbnecbbggfaaDoorW.PrintWords Go.Proofs.YtdllbnecbbggfaaDoorW.PrintLast Go.Proofs.YtdllbnecbbggfaaDoorW.PrintMore
attribute [local go_sem] max2_int min2_int max_two min_two max_three min_three max_four min_four   -- for this text's walks alone
set_option linter.unusedVariables false
set_option linter.unusedSimpArgs false

/-! ### gjson_validpayload: function 65 -/
mutual
def gjson_validpayload.l0 : Nat → List Int → Int → Option (Int × Bool)
  | 0, _, _ => none
  | k + 1, x0, x1 => if x1 < (x0.length : Int) then (if 0 ≤ x1 then (if (rd x0 x1) = 32 then (gjson_validpayload.j1 k x0 x1 ((rd x0 x1) == 32)) else (if (rd x0 x1) = 9 then (gjson_validpayload.j1 k x0 x1 ((rd x0 x1) == 9)) else (if (rd x0 x1) = 10 then (gjson_validpayload.j1 k x0 x1 ((rd x0 x1) == 10)) else (gjson_validpayload.j1 k x0 x1 ((rd x0 x1) == 13))))) else (none)) else (some (x1, false))
def gjson_validpayload.j1 : Nat → List Int → Int → Bool → Option (Int × Bool)
  | 0, _, _, _ => none
  | k + 1, x0, x1, x42 => if x42 = true then (gjson_validpayload.l0 k x0 (wrap64 (x1 + 1))) else ((gjson_validany.f k x0 x1).bind fun bt286 => (if bt286.2 = true then (gjson_validpayload.l1 k x0 bt286.1) else (some (bt286.1, false))))
def gjson_validpayload.l1 : Nat → List Int → Int → Option (Int × Bool)
  | 0, _, _ => none
  | k + 1, x0, x1 => if x1 < (x0.length : Int) then (if 0 ≤ x1 then (if (rd x0 x1) = 32 then (gjson_validpayload.l1 k x0 (wrap64 (x1 + 1))) else (if (rd x0 x1) = 9 then (gjson_validpayload.l1 k x0 (wrap64 (x1 + 1))) else (if (rd x0 x1) = 10 then (gjson_validpayload.l1 k x0 (wrap64 (x1 + 1))) else (if (rd x0 x1) = 13 then (gjson_validpayload.l1 k x0 (wrap64 (x1 + 1))) else (some (x1, false)))))) else (none)) else (some (x1, true))
end
def gjson_validpayload.f (k : Nat) (l0 : List Int) (a1 : Int) : Option (Int × Bool) := gjson_validpayload.l0 k l0 a1
theorem gjson_validpayload.mono_l : ∀ k, (∀ y0 y1, LeO (gjson_validpayload.l0 k y0 y1) (gjson_validpayload.l0 (k + 1) y0 y1)) ∧ (∀ y0 y1 y2, LeO (gjson_validpayload.j1 k y0 y1 y2) (gjson_validpayload.j1 (k + 1) y0 y1 y2)) ∧ (∀ y0 y1, LeO (gjson_validpayload.l1 k y0 y1) (gjson_validpayload.l1 (k + 1) y0 y1))
  | 0 => ⟨fun _ _ r h => by simp [gjson_validpayload.l0] at h, fun _ _ _ r h => by simp [gjson_validpayload.j1] at h, fun _ _ r h => by simp [gjson_validpayload.l1] at h⟩
  | k + 1 => by
    obtain ⟨ih0, ih1, ih2⟩ := gjson_validpayload.mono_l k
    refine ⟨?_, ?_, ?_⟩
    · intro y0 y1
      unfold gjson_validpayload.l0
      repeat' first
      | (with_reducible exact ih0 _ _)
      | (with_reducible exact ih1 _ _ _)
      | (with_reducible exact ih2 _ _)
      | (with_reducible exact gjson_validany.mono _ _ _)
      | (with_reducible exact LeO.refl _)
      | (with_reducible exact LeO.none _)
      | (with_reducible refine LeO.ite ?_ ?_)
      | (with_reducible refine LeO.bind ?_ (fun _ => ?_))
      | exact ih0 _ _
      | exact ih1 _ _ _
      | exact ih2 _ _
      | exact gjson_validany.mono _ _ _
      | exact LeO.none _
      | refine LeO.ite ?_ ?_
      | refine LeO.bind ?_ (fun _ => ?_)
    · intro y0 y1 y2
      unfold gjson_validpayload.j1
      repeat' first
      | (with_reducible exact ih0 _ _)
      | (with_reducible exact ih1 _ _ _)
      | (with_reducible exact ih2 _ _)
      | (with_reducible exact gjson_validany.mono _ _ _)
      | (with_reducible exact LeO.refl _)
      | (with_reducible exact LeO.none _)
      | (with_reducible refine LeO.ite ?_ ?_)
      | (with_reducible refine LeO.bind ?_ (fun _ => ?_))
      | exact ih0 _ _
      | exact ih1 _ _ _
      | exact ih2 _ _
      | exact gjson_validany.mono _ _ _
      | exact LeO.none _
      | refine LeO.ite ?_ ?_
      | refine LeO.bind ?_ (fun _ => ?_)
    · intro y0 y1
      unfold gjson_validpayload.l1
      repeat' first
      | (with_reducible exact ih0 _ _)
      | (with_reducible exact ih1 _ _ _)
      | (with_reducible exact ih2 _ _)
      | (with_reducible exact gjson_validany.mono _ _ _)
      | (with_reducible exact LeO.refl _)
      | (with_reducible exact LeO.none _)
      | (with_reducible refine LeO.ite ?_ ?_)
      | (with_reducible refine LeO.bind ?_ (fun _ => ?_))
      | exact ih0 _ _
      | exact ih1 _ _ _
      | exact ih2 _ _
      | exact gjson_validany.mono _ _ _
      | exact LeO.none _
      | refine LeO.ite ?_ ?_
      | refine LeO.bind ?_ (fun _ => ?_)
theorem gjson_validpayload.mono : ∀ a0 a1 k, LeO (gjson_validpayload.f k a0 a1) (gjson_validpayload.f (k + 1) a0 a1) := by
  intro a0 a1 k
  obtain ⟨ih0, ih1, ih2⟩ := gjson_validpayload.mono_l k
  unfold gjson_validpayload.f
  repeat' first
      | (with_reducible exact ih0 _ _)
      | (with_reducible exact ih1 _ _ _)
      | (with_reducible exact ih2 _ _)
      | (with_reducible exact gjson_validany.mono _ _ _)
      | (with_reducible exact LeO.refl _)
      | (with_reducible exact LeO.none _)
      | (with_reducible refine LeO.ite ?_ ?_)
      | (with_reducible refine LeO.bind ?_ (fun _ => ?_))
      | exact ih0 _ _
      | exact ih1 _ _ _
      | exact ih2 _ _
      | exact gjson_validany.mono _ _ _
      | exact LeO.none _
      | refine LeO.ite ?_ ?_
      | refine LeO.bind ?_ (fun _ => ?_)
set_option maxHeartbeats 8000000 in
set_option maxRecDepth 100000 in
theorem gjson_validpayload.calls (k : Nat) (A0 : Option Addr) (c0 : Nat) (l0 : List Int) (a1 : Int) (r1 : Int) (r2 : Bool) (w : World) (hr0 : Kd.C (Kd.int .u8) w A0 l0.length l0) (hc0 : l0.length ≤ c0) (h : gjson_validpayload.f k l0 a1 = some (r1, r2)) :
    Calls Tryd.prog 65 #[.slice A0 l0.length c0, .int .i64 a1] w fun e w' => e = .returned (.tuple #[.int .i64 r1, .bool r2]) ∧ Drawn0 w w' := by
  have HR0 := Aside0.mk hr0
  have HC0 := Aside0.mk hc0
  clear hr0 hc0
  have H : (gjson_validpayload.l0 k l0 a1) = some (r1, r2) := h
  clear h
  have H' := Aside0.mk H
  clear H
  go_enter Tryd.func65, Tryd.ntmps65
  go_wp2
  try simp only [Act.put, List.setIfInBounds_toArray, List.set_cons_succ, List.set_cons_zero]
  go_loopg [1] k (fun kq v1 w' => ∃ (x1_1 : Int), v1 = .int .i64 x1_1 ∧ Aside0 (gjson_validpayload.l0 kq l0 x1_1 = some (r1, r2)) ∧ Aside0 (kq ≤ k) ∧ Drawn0 w w')
  case atStart => exact ⟨(a1), (by first | rfl | (simp; done) | (simp [*]; done)), H', ⟨Nat.le_refl _⟩, by repeat (first | exact Drawn0.refl _ | apply Drawn0.step)⟩
  case round =>
    clear H'
    try clear p2
    obtain ⟨x1_1, rfl, HA, HK1, ⟨m1, rfl⟩⟩ := hrel
    cases gk with
    | zero => exact absurd HA.out (by simp [gjson_validpayload.l0])
    | succ k1 =>
      have H := HA.out
      clear HA
      simp only [gjson_validpayload.l0] at H
      by_cases c3 : x1_1 < (l0.length : Int)
      · rw [if_pos c3] at H
        have c3b0 : decide (x1_1 < (l0.length : Int)) = true := decide_eq_true c3
        clear c3
        by_cases c4 : 0 ≤ x1_1
        · rw [if_pos c4] at H
          have c4b0 : decide (0 ≤ x1_1) = true := decide_eq_true c4
          clear c4
          have HC5 := Aside0.mk H
          clear H
          have p285 : 0 ≤ (x1_1 : Int) := of_decide_eq_true (by first | (with_reducible assumption) | assumption)
          have q285 : x1_1 < (l0.length : Int) := of_decide_eq_true (by first | (with_reducible assumption) | assumption)
          obtain ⟨ad285, e285, hx285_0⟩ := Kd.at_int HR0.out x1_1 p285 q285
          cases e285
          replace p285 := eq_true p285
          replace q285 := eq_true q285
          go_upto_if 42 with (fail)
          go_cut [42] (fun v42 wc => ∃ (kq : Nat) (x42_4 : Bool), v42 = .bool x42_4 ∧ Aside0 (gjson_validpayload.j1 kq l0 x1_1 x42_4 = some (r1, r2)) ∧ Aside0 (kq ≤ k1) ∧ Drawn0 w wc)
          case first =>
            have H := HC5.out
            clear HC5
            by_cases c6 : (rd l0 x1_1) = 32
            · rw [if_pos c6] at H
              have c6b0 : ((rd l0 x1_1) == 32) = true := beq_iff_eq.mpr c6
              have c6b1 : ((rd l0 x1_1) != 32) = false := bne_eq_false_iff_eq.mpr c6
              clear c6
              (first | rw [c6b0] | (simp only [i64_w, i32_w]; rw [c6b0]) | skip)
              have H' := Aside0.mk H
              clear H
              go_wp2
              go_meet
              case rel => exact ⟨_, (((rd l0 x1_1) == 32)), (by first | rfl | (simp; done) | (simp [*]; done)), H', ⟨by have := HK1.out; first | omega | exact Nat.le_refl _⟩, by repeat (first | exact Drawn0.refl _ | apply Drawn0.step)⟩
            · rw [if_neg c6] at H
              have c6b0 : ((rd l0 x1_1) == 32) = false := beq_eq_false_iff_ne.mpr c6
              have c6b1 : ((rd l0 x1_1) != 32) = true := bne_iff_ne.mpr c6
              (first | rw [c6b0] | (simp only [i64_w, i32_w]; rw [c6b0]) | skip)
              by_cases c7 : (rd l0 x1_1) = 9
              · rw [if_pos c7] at H
                have c7b0 : ((rd l0 x1_1) == 9) = true := beq_iff_eq.mpr c7
                have c7b1 : ((rd l0 x1_1) != 9) = false := bne_eq_false_iff_eq.mpr c7
                clear c7
                have H' := Aside0.mk H
                clear H
                go_wp2
                go_meet
                case rel => exact ⟨_, (((rd l0 x1_1) == 9)), (by first | rfl | (simp; done) | (simp [*]; done)), H', ⟨by have := HK1.out; first | omega | exact Nat.le_refl _⟩, by repeat (first | exact Drawn0.refl _ | apply Drawn0.step)⟩
              · rw [if_neg c7] at H
                have c7b0 : ((rd l0 x1_1) == 9) = false := beq_eq_false_iff_ne.mpr c7
                have c7b1 : ((rd l0 x1_1) != 9) = true := bne_iff_ne.mpr c7
                by_cases c8 : (rd l0 x1_1) = 10
                · rw [if_pos c8] at H
                  have c8b0 : ((rd l0 x1_1) == 10) = true := beq_iff_eq.mpr c8
                  have c8b1 : ((rd l0 x1_1) != 10) = false := bne_eq_false_iff_eq.mpr c8
                  clear c8
                  have H' := Aside0.mk H
                  clear H
                  go_wp2
                  go_meet
                  case rel => exact ⟨_, (((rd l0 x1_1) == 10)), (by first | rfl | (simp; done) | (simp [*]; done)), H', ⟨by have := HK1.out; first | omega | exact Nat.le_refl _⟩, by repeat (first | exact Drawn0.refl _ | apply Drawn0.step)⟩
                · rw [if_neg c8] at H
                  have c8b0 : ((rd l0 x1_1) == 10) = false := beq_eq_false_iff_ne.mpr c8
                  have c8b1 : ((rd l0 x1_1) != 10) = true := bne_iff_ne.mpr c8
                  have H' := Aside0.mk H
                  clear H
                  go_wp2
                  go_meet
                  case rel => exact ⟨_, (((rd l0 x1_1) == 13)), (by first | rfl | (simp; done) | (simp [*]; done)), H', ⟨by have := HK1.out; first | omega | exact Nat.le_refl _⟩, by repeat (first | exact Drawn0.refl _ | apply Drawn0.step)⟩
          case rest =>
            clear HC5
            try clear p2
            try clear q2
            try clear hx2
            try clear c3
            try clear c3b0
            try clear c4
            try clear c4b0
            try clear c6
            try clear c6b0
            try clear c6b1
            try clear c7
            try clear c7b0
            try clear c7b1
            try clear c8
            try clear c8b0
            try clear c8b1
            try clear hx285_0
            try clear p2
            try clear p285
            try clear q285
            obtain ⟨kq, x42_4, rfl, HA, HJ4, ⟨mc4, rfl⟩⟩ := hcut
            cases kq with
            | zero => exact absurd HA.out (by simp [gjson_validpayload.j1])
            | succ kj4 =>
              have H := HA.out
              clear HA
              simp only [gjson_validpayload.j1] at H
              by_cases c9 : x42_4 = true
              · subst c9
                have H1 : (gjson_validpayload.l0 kj4 l0 (wrap64 (x1_1 + 1))) = some (r1, r2) := by rw [if_pos rfl] at H; exact H
                clear H
                have H := H1
                clear H1
                have H' := Aside0.mk H
                clear H
                go_wp2
                go_roundg kj4
                case measure => have := HK1.out; have := HJ4.out; omega
                case rel => exact ⟨(wrap64 (x1_1 + 1)), (by first | rfl | (simp; done) | (simp [*]; done)), H', ⟨by have := HK1.out; have := HJ4.out; omega⟩, by repeat (first | exact Drawn0.refl _ | apply Drawn0.step)⟩
              · replace c9 := Bool.eq_false_iff.mpr c9
                subst c9
                have H1 : ((gjson_validany.f kj4 l0 x1_1).bind fun bt286 => (if bt286.2 = true then (gjson_validpayload.l1 kj4 l0 bt286.1) else (some (bt286.1, false)))) = some (r1, r2) := by rw [if_neg (show ¬ (false = true) by decide)] at H; exact H
                clear H
                have H := H1
                clear H1
                replace H := Option.bind_eq_some_iff.mp H
                obtain ⟨⟨t286, t287⟩, A100, H⟩ := H
                replace H : (if t287 = true then (gjson_validpayload.l1 kj4 l0 t286) else (some (t286, false))) = some (r1, r2) := H
                have A10 := Aside0.mk A100
                clear A100
                by_cases c11 : t287 = true
                · subst c11
                  have H1 : (gjson_validpayload.l1 kj4 l0 t286) = some (r1, r2) := by rw [if_pos rfl] at H; exact H
                  clear H
                  have H := H1
                  clear H1
                  have H' := Aside0.mk H
                  clear H
                  go_wp2_with (first | ((with_reducible refine gate_callee (f := 79) rfl ?_); refine goesL_ (some 19) rfl rfl Tryd.func79 (by kernel_rfl) rfl #[.slice (some ad285) l0.length c0, .int .i64 x1_1] rfl (by (try simp only [List.map_toArray, List.map_cons, List.map_nil]); first | done | rfl | (simp only [List.length_drop, List.length_take]; rfl)) ?_; (with_reducible refine (gjson_validany.calls kj4 _ _ l0 x1_1 t286 true _ ?side1 ?side2 A10.out).mono ?_); (case side1 => repeat (first | exact HR0.out | (with_reducible refine Kd.C_alloc ?_ _) | (with_reducible refine Kd.C_drewN ?_ _) | (with_reducible refine Kd.C_drew ?_))); (case side2 => exact HC0.out); rintro e w' ⟨rfl, ⟨nd, rfl⟩⟩; refine ⟨_, rfl, ?_⟩))
                  try simp only [Act.put, List.setIfInBounds_toArray, List.set_cons_succ, List.set_cons_zero]
                  go_loopg [1] kj4 (fun kq v1 w' => ∃ (x1_3 : Int), v1 = .int .i64 x1_3 ∧ Aside0 (gjson_validpayload.l1 kq l0 x1_3 = some (r1, r2)) ∧ Aside0 (kq ≤ kj4) ∧ Drawn0 w w')
                  case atStart => exact ⟨(t286), (by first | rfl | (simp; done) | (simp [*]; done)), H', ⟨Nat.le_refl _⟩, by repeat (first | exact Drawn0.refl _ | apply Drawn0.step)⟩
                  case round =>
                    clear H'
                    try clear c1
                    try clear p2
                    try clear q2
                    try clear hx2
                    try clear c3
                    try clear c3b0
                    try clear c4
                    try clear c4b0
                    try clear c6
                    try clear c6b0
                    try clear c6b1
                    try clear p6
                    try clear c7
                    try clear c7b0
                    try clear c7b1
                    try clear c8
                    try clear c8b0
                    try clear c8b1
                    try clear c9
                    try clear c11
                    try clear hx285_0
                    try clear p2
                    try clear p285
                    try clear q2
                    try clear q285
                    obtain ⟨x1_3, rfl, HA, HK3, ⟨m3, rfl⟩⟩ := hrel
                    cases gk with
                    | zero => exact absurd HA.out (by simp [gjson_validpayload.l1])
                    | succ k3 =>
                      have H := HA.out
                      clear HA
                      simp only [gjson_validpayload.l1] at H
                      by_cases c12 : x1_3 < (l0.length : Int)
                      · rw [if_pos c12] at H
                        have c12b0 : decide (x1_3 < (l0.length : Int)) = true := decide_eq_true c12
                        clear c12
                        by_cases c13 : 0 ≤ x1_3
                        · rw [if_pos c13] at H
                          have c13b0 : decide (0 ≤ x1_3) = true := decide_eq_true c13
                          clear c13
                          by_cases c14 : (rd l0 x1_3) = 32
                          · rw [if_pos c14] at H
                            have c14b0 : ((rd l0 x1_3) == 32) = true := beq_iff_eq.mpr c14
                            have c14b1 : ((rd l0 x1_3) != 32) = false := bne_eq_false_iff_eq.mpr c14
                            clear c14
                            have H' := Aside0.mk H
                            clear H
                            have p288 : 0 ≤ (x1_3 : Int) := of_decide_eq_true (by first | (with_reducible assumption) | assumption)
                            have q288 : x1_3 < (l0.length : Int) := of_decide_eq_true (by first | (with_reducible assumption) | assumption)
                            obtain ⟨ad288, e288, hx288_0⟩ := Kd.at_int HR0.out x1_3 p288 q288
                            obtain rfl : ad285 = ad288 := (by injection e288)
                            replace p288 := eq_true p288
                            replace q288 := eq_true q288
                            go_wp2
                            go_roundg k3
                            case measure => have := HK1.out; have := HJ4.out; have := HK3.out; omega
                            case rel => exact ⟨(wrap64 (x1_3 + 1)), (by first | rfl | (simp; done) | (simp [*]; done)), H', ⟨by have := HK1.out; have := HJ4.out; have := HK3.out; omega⟩, by repeat (first | exact Drawn0.refl _ | apply Drawn0.step)⟩
                          · rw [if_neg c14] at H
                            have c14b0 : ((rd l0 x1_3) == 32) = false := beq_eq_false_iff_ne.mpr c14
                            have c14b1 : ((rd l0 x1_3) != 32) = true := bne_iff_ne.mpr c14
                            by_cases c15 : (rd l0 x1_3) = 9
                            · rw [if_pos c15] at H
                              have c15b0 : ((rd l0 x1_3) == 9) = true := beq_iff_eq.mpr c15
                              have c15b1 : ((rd l0 x1_3) != 9) = false := bne_eq_false_iff_eq.mpr c15
                              clear c15
                              have H' := Aside0.mk H
                              clear H
                              have p288 : 0 ≤ (x1_3 : Int) := of_decide_eq_true (by first | (with_reducible assumption) | assumption)
                              have q288 : x1_3 < (l0.length : Int) := of_decide_eq_true (by first | (with_reducible assumption) | assumption)
                              obtain ⟨ad288, e288, hx288_0⟩ := Kd.at_int HR0.out x1_3 p288 q288
                              obtain rfl : ad285 = ad288 := (by injection e288)
                              replace p288 := eq_true p288
                              replace q288 := eq_true q288
                              go_wp2
                              go_roundg k3
                              case measure => have := HK1.out; have := HJ4.out; have := HK3.out; omega
                              case rel => exact ⟨(wrap64 (x1_3 + 1)), (by first | rfl | (simp; done) | (simp [*]; done)), H', ⟨by have := HK1.out; have := HJ4.out; have := HK3.out; omega⟩, by repeat (first | exact Drawn0.refl _ | apply Drawn0.step)⟩
                            · rw [if_neg c15] at H
                              have c15b0 : ((rd l0 x1_3) == 9) = false := beq_eq_false_iff_ne.mpr c15
                              have c15b1 : ((rd l0 x1_3) != 9) = true := bne_iff_ne.mpr c15
                              by_cases c16 : (rd l0 x1_3) = 10
                              · rw [if_pos c16] at H
                                have c16b0 : ((rd l0 x1_3) == 10) = true := beq_iff_eq.mpr c16
                                have c16b1 : ((rd l0 x1_3) != 10) = false := bne_eq_false_iff_eq.mpr c16
                                clear c16
                                have H' := Aside0.mk H
                                clear H
                                have p288 : 0 ≤ (x1_3 : Int) := of_decide_eq_true (by first | (with_reducible assumption) | assumption)
                                have q288 : x1_3 < (l0.length : Int) := of_decide_eq_true (by first | (with_reducible assumption) | assumption)
                                obtain ⟨ad288, e288, hx288_0⟩ := Kd.at_int HR0.out x1_3 p288 q288
                                obtain rfl : ad285 = ad288 := (by injection e288)
                                replace p288 := eq_true p288
                                replace q288 := eq_true q288
                                go_wp2
                                go_roundg k3
                                case measure => have := HK1.out; have := HJ4.out; have := HK3.out; omega
                                case rel => exact ⟨(wrap64 (x1_3 + 1)), (by first | rfl | (simp; done) | (simp [*]; done)), H', ⟨by have := HK1.out; have := HJ4.out; have := HK3.out; omega⟩, by repeat (first | exact Drawn0.refl _ | apply Drawn0.step)⟩
                              · rw [if_neg c16] at H
                                have c16b0 : ((rd l0 x1_3) == 10) = false := beq_eq_false_iff_ne.mpr c16
                                have c16b1 : ((rd l0 x1_3) != 10) = true := bne_iff_ne.mpr c16
                                by_cases c17 : (rd l0 x1_3) = 13
                                · rw [if_pos c17] at H
                                  have c17b0 : ((rd l0 x1_3) == 13) = true := beq_iff_eq.mpr c17
                                  have c17b1 : ((rd l0 x1_3) != 13) = false := bne_eq_false_iff_eq.mpr c17
                                  clear c17
                                  have H' := Aside0.mk H
                                  clear H
                                  have p288 : 0 ≤ (x1_3 : Int) := of_decide_eq_true (by first | (with_reducible assumption) | assumption)
                                  have q288 : x1_3 < (l0.length : Int) := of_decide_eq_true (by first | (with_reducible assumption) | assumption)
                                  obtain ⟨ad288, e288, hx288_0⟩ := Kd.at_int HR0.out x1_3 p288 q288
                                  obtain rfl : ad285 = ad288 := (by injection e288)
                                  replace p288 := eq_true p288
                                  replace q288 := eq_true q288
                                  go_wp2
                                  go_roundg k3
                                  case measure => have := HK1.out; have := HJ4.out; have := HK3.out; omega
                                  case rel => exact ⟨(wrap64 (x1_3 + 1)), (by first | rfl | (simp; done) | (simp [*]; done)), H', ⟨by have := HK1.out; have := HJ4.out; have := HK3.out; omega⟩, by repeat (first | exact Drawn0.refl _ | apply Drawn0.step)⟩
                                · rw [if_neg c17] at H
                                  have c17b0 : ((rd l0 x1_3) == 13) = false := beq_eq_false_iff_ne.mpr c17
                                  have c17b1 : ((rd l0 x1_3) != 13) = true := bne_iff_ne.mpr c17
                                  simp only [Option.some.injEq, Prod.mk.injEq] at H
                                  obtain ⟨rfl, rfl⟩ := H
                                  have p288 : 0 ≤ (x1_3 : Int) := of_decide_eq_true (by first | (with_reducible assumption) | assumption)
                                  have q288 : x1_3 < (l0.length : Int) := of_decide_eq_true (by first | (with_reducible assumption) | assumption)
                                  obtain ⟨ad288, e288, hx288_0⟩ := Kd.at_int HR0.out x1_3 p288 q288
                                  obtain rfl : ad285 = ad288 := (by injection e288)
                                  replace p288 := eq_true p288
                                  replace q288 := eq_true q288
                                  go_wp2
                                  go_ret2
                                  exact ⟨by first | rfl | (simp; done) | (simp [*]; done), by repeat (first | exact Drawn0.refl _ | apply Drawn0.step)⟩
                        · rw [if_neg c13] at H
                          exact absurd H (by simp)
                      · rw [if_neg c12] at H
                        have c12b0 : decide (x1_3 < (l0.length : Int)) = false := decide_eq_false c12
                        clear c12
                        simp only [Option.some.injEq, Prod.mk.injEq] at H
                        obtain ⟨rfl, rfl⟩ := H
                        go_wp2
                        go_ret2
                        exact ⟨by first | rfl | (simp; done) | (simp [*]; done), by repeat (first | exact Drawn0.refl _ | apply Drawn0.step)⟩
                · replace c11 := Bool.eq_false_iff.mpr c11
                  subst c11
                  have H1 : (some (t286, false)) = some (r1, r2) := by rw [if_neg (show ¬ (false = true) by decide)] at H; exact H
                  clear H
                  have H := H1
                  clear H1
                  simp only [Option.some.injEq, Prod.mk.injEq] at H
                  obtain ⟨rfl, rfl⟩ := H
                  go_wp2_with (first | ((with_reducible refine gate_callee (f := 79) rfl ?_); refine goesL_ (some 19) rfl rfl Tryd.func79 (by kernel_rfl) rfl #[.slice (some ad285) l0.length c0, .int .i64 x1_1] rfl (by (try simp only [List.map_toArray, List.map_cons, List.map_nil]); first | done | rfl | (simp only [List.length_drop, List.length_take]; rfl)) ?_; (with_reducible refine (gjson_validany.calls kj4 _ _ l0 x1_1 t286 false _ ?side1 ?side2 A10.out).mono ?_); (case side1 => repeat (first | exact HR0.out | (with_reducible refine Kd.C_alloc ?_ _) | (with_reducible refine Kd.C_drewN ?_ _) | (with_reducible refine Kd.C_drew ?_))); (case side2 => exact HC0.out); rintro e w' ⟨rfl, ⟨nd, rfl⟩⟩; refine ⟨_, rfl, ?_⟩))
                  go_ret2
                  exact ⟨by first | rfl | (simp; done) | (simp [*]; done), by repeat (first | exact Drawn0.refl _ | apply Drawn0.step)⟩
        · rw [if_neg c4] at H
          exact absurd H (by simp)
      · rw [if_neg c3] at H
        have c3b0 : decide (x1_1 < (l0.length : Int)) = false := decide_eq_false c3
        clear c3
        simp only [Option.some.injEq, Prod.mk.injEq] at H
        obtain ⟨rfl, rfl⟩ := H
        go_wp2
        go_ret2
        exact ⟨by first | rfl | (simp; done) | (simp [*]; done), by repeat (first | exact Drawn0.refl _ | apply Drawn0.step)⟩

end Go.Proofs.YtdllbnecbbggfaaDoor.XFnGjQuoteValid
