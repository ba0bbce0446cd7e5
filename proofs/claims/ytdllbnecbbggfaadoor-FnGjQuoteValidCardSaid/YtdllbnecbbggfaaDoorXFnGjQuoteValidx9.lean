-- Written by xprint.py of this session (a program that runs the kit's print and adds to it); Lean checks it.
import Derived.Test.YtdllbnecbbggfaaDoorXFnGjQuoteValidx0
import Derived.Test.YtdllbnecbbggfaaDoorXFnGjQuoteValidx7
import Derived.Test.YtdllbnecbbggfaaDoorXFnGjQuoteValidx8
namespace Go.Proofs.YtdllbnecbbggfaaDoor.XFnGjQuoteValid
open Go.RowKit Go.Proofs.YtdllbnecbbggfaaDoorW.PrintWords Go.Proofs.YtdllbnecbbggfaaDoorW.PrintLast Go.Proofs.YtdllbnecbbggfaaDoorW.PrintMore
attribute [local go_sem] max2_int min2_int max_two min_two max_three min_three max_four min_four   -- for this text's walks alone
set_option linter.unusedVariables false
set_option linter.unusedSimpArgs false

/-! ### gjson_validnumber: function 93 -/
def gjson_validnumber.f (l0 : List Int) (a1 : Int) : Option (Int × Bool) := none
set_option maxHeartbeats 8000000 in
set_option maxRecDepth 100000 in
theorem gjson_validnumber.calls (A0 : Option Addr) (c0 : Nat) (l0 : List Int) (a1 : Int) (r1 : Int) (r2 : Bool) (w : World) (hr0 : Kd.C (Kd.int .u8) w A0 l0.length l0) (hc0 : l0.length ≤ c0) (h : gjson_validnumber.f l0 a1 = some (r1, r2)) :
    Calls Tryd.prog 93 #[.slice A0 l0.length c0, .int .i64 a1] w fun e w' => e = .returned (.tuple #[.int .i64 r1, .bool r2]) ∧ Drawn0 w w' := by
  have HR0 := Aside0.mk hr0
  have HC0 := Aside0.mk hc0
  clear hr0 hc0
  have H : (none) = some (r1, r2) := h
  clear h
  exact absurd H (by simp)

/-! ### gjson_validtrue: function 94 -/
def gjson_validtrue.f (l0 : List Int) (a1 : Int) : Option (Int × Bool) := none
set_option maxHeartbeats 8000000 in
set_option maxRecDepth 100000 in
theorem gjson_validtrue.calls (A0 : Option Addr) (c0 : Nat) (l0 : List Int) (a1 : Int) (r1 : Int) (r2 : Bool) (w : World) (hr0 : Kd.C (Kd.int .u8) w A0 l0.length l0) (hc0 : l0.length ≤ c0) (h : gjson_validtrue.f l0 a1 = some (r1, r2)) :
    Calls Tryd.prog 94 #[.slice A0 l0.length c0, .int .i64 a1] w fun e w' => e = .returned (.tuple #[.int .i64 r1, .bool r2]) ∧ Drawn0 w w' := by
  have HR0 := Aside0.mk hr0
  have HC0 := Aside0.mk hc0
  clear hr0 hc0
  have H : (none) = some (r1, r2) := h
  clear h
  exact absurd H (by simp)

/-! ### gjson_validfalse: function 95 -/
def gjson_validfalse.f (l0 : List Int) (a1 : Int) : Option (Int × Bool) := none
set_option maxHeartbeats 8000000 in
set_option maxRecDepth 100000 in
theorem gjson_validfalse.calls (A0 : Option Addr) (c0 : Nat) (l0 : List Int) (a1 : Int) (r1 : Int) (r2 : Bool) (w : World) (hr0 : Kd.C (Kd.int .u8) w A0 l0.length l0) (hc0 : l0.length ≤ c0) (h : gjson_validfalse.f l0 a1 = some (r1, r2)) :
    Calls Tryd.prog 95 #[.slice A0 l0.length c0, .int .i64 a1] w fun e w' => e = .returned (.tuple #[.int .i64 r1, .bool r2]) ∧ Drawn0 w w' := by
  have HR0 := Aside0.mk hr0
  have HC0 := Aside0.mk hc0
  clear hr0 hc0
  have H : (none) = some (r1, r2) := h
  clear h
  exact absurd H (by simp)

/-! ### gjson_validnull: function 96 -/
def gjson_validnull.f (l0 : List Int) (a1 : Int) : Option (Int × Bool) := none
set_option maxHeartbeats 8000000 in
set_option maxRecDepth 100000 in
theorem gjson_validnull.calls (A0 : Option Addr) (c0 : Nat) (l0 : List Int) (a1 : Int) (r1 : Int) (r2 : Bool) (w : World) (hr0 : Kd.C (Kd.int .u8) w A0 l0.length l0) (hc0 : l0.length ≤ c0) (h : gjson_validnull.f l0 a1 = some (r1, r2)) :
    Calls Tryd.prog 96 #[.slice A0 l0.length c0, .int .i64 a1] w fun e w' => e = .returned (.tuple #[.int .i64 r1, .bool r2]) ∧ Drawn0 w w' := by
  have HR0 := Aside0.mk hr0
  have HC0 := Aside0.mk hc0
  clear hr0 hc0
  have H : (none) = some (r1, r2) := h
  clear h
  exact absurd H (by simp)

/-! ### gjson_validany: function 79 -/
mutual
def gjson_validany.l0 : Nat → List Int → Int → Option (Int × Bool)
  | 0, _, _ => none
  | k + 1, x0, x1 => if x1 < (x0.length : Int) then (if 0 ≤ x1 then (if (rd x0 x1) = 32 then (gjson_validany.j1 k x0 x1 (rd x0 x1) ((rd x0 x1) == 32)) else (if (rd x0 x1) = 9 then (gjson_validany.j1 k x0 x1 (rd x0 x1) ((rd x0 x1) == 9)) else (if (rd x0 x1) = 10 then (gjson_validany.j1 k x0 x1 (rd x0 x1) ((rd x0 x1) == 10)) else (gjson_validany.j1 k x0 x1 (rd x0 x1) ((rd x0 x1) == 13))))) else (none)) else (some (x1, false))
def gjson_validany.j1 : Nat → List Int → Int → Int → Bool → Option (Int × Bool)
  | 0, _, _, _, _ => none
  | k + 1, x0, x1, x15, x17 => if x17 = true then (gjson_validany.l0 k x0 (wrap64 (x1 + 1))) else (if x15 = 123 then ((gjson_validobject.f x0 (wrap64 (x1 + 1))).bind fun bt271 => (some (bt271.1, bt271.2))) else (if x15 = 91 then ((gjson_validarray.f x0 (wrap64 (x1 + 1))).bind fun bt273 => (some (bt273.1, bt273.2))) else (if x15 = 34 then ((gjson_validstring.f k x0 (wrap64 (x1 + 1))).bind fun bt275 => (some (bt275.1, bt275.2))) else (if x15 = 45 then (gjson_validany.j2 k x0 x1 x15 (x15 == 45)) else (if x15 = 48 then (gjson_validany.j2 k x0 x1 x15 (x15 == 48)) else (if x15 = 49 then (gjson_validany.j2 k x0 x1 x15 (x15 == 49)) else (if x15 = 50 then (gjson_validany.j2 k x0 x1 x15 (x15 == 50)) else (if x15 = 51 then (gjson_validany.j2 k x0 x1 x15 (x15 == 51)) else (if x15 = 52 then (gjson_validany.j2 k x0 x1 x15 (x15 == 52)) else (if x15 = 53 then (gjson_validany.j2 k x0 x1 x15 (x15 == 53)) else (if x15 = 54 then (gjson_validany.j2 k x0 x1 x15 (x15 == 54)) else (if x15 = 55 then (gjson_validany.j2 k x0 x1 x15 (x15 == 55)) else (if x15 = 56 then (gjson_validany.j2 k x0 x1 x15 (x15 == 56)) else (gjson_validany.j2 k x0 x1 x15 (x15 == 57)))))))))))))))
def gjson_validany.j2 : Nat → List Int → Int → Int → Bool → Option (Int × Bool)
  | 0, _, _, _, _ => none
  | k + 1, x0, x1, x15, x46 => if x46 = true then ((gjson_validnumber.f x0 (wrap64 (x1 + 1))).bind fun bt277 => (some (bt277.1, bt277.2))) else (if x15 = 116 then ((gjson_validtrue.f x0 (wrap64 (x1 + 1))).bind fun bt279 => (some (bt279.1, bt279.2))) else (if x15 = 102 then ((gjson_validfalse.f x0 (wrap64 (x1 + 1))).bind fun bt281 => (some (bt281.1, bt281.2))) else (if x15 = 110 then ((gjson_validnull.f x0 (wrap64 (x1 + 1))).bind fun bt283 => (some (bt283.1, bt283.2))) else (some (x1, false)))))
end
def gjson_validany.f (k : Nat) (l0 : List Int) (a1 : Int) : Option (Int × Bool) := gjson_validany.l0 k l0 a1
theorem gjson_validany.mono_l : ∀ k, (∀ y0 y1, LeO (gjson_validany.l0 k y0 y1) (gjson_validany.l0 (k + 1) y0 y1)) ∧ (∀ y0 y1 y2 y3, LeO (gjson_validany.j1 k y0 y1 y2 y3) (gjson_validany.j1 (k + 1) y0 y1 y2 y3)) ∧ (∀ y0 y1 y2 y3, LeO (gjson_validany.j2 k y0 y1 y2 y3) (gjson_validany.j2 (k + 1) y0 y1 y2 y3))
  | 0 => ⟨fun _ _ r h => by simp [gjson_validany.l0] at h, fun _ _ _ _ r h => by simp [gjson_validany.j1] at h, fun _ _ _ _ r h => by simp [gjson_validany.j2] at h⟩
  | k + 1 => by
    obtain ⟨ih0, ih1, ih2⟩ := gjson_validany.mono_l k
    refine ⟨?_, ?_, ?_⟩
    · intro y0 y1
      unfold gjson_validany.l0
      repeat' first
      | (with_reducible exact ih0 _ _)
      | (with_reducible exact ih1 _ _ _ _)
      | (with_reducible exact ih2 _ _ _ _)
      | (with_reducible exact gjson_validstring.mono _ _ _)
      | (with_reducible exact LeO.refl _)
      | (with_reducible exact LeO.none _)
      | (with_reducible refine LeO.ite ?_ ?_)
      | (with_reducible refine LeO.bind ?_ (fun _ => ?_))
      | exact ih0 _ _
      | exact ih1 _ _ _ _
      | exact ih2 _ _ _ _
      | exact gjson_validstring.mono _ _ _
      | exact LeO.none _
      | refine LeO.ite ?_ ?_
      | refine LeO.bind ?_ (fun _ => ?_)
    · intro y0 y1 y2 y3
      unfold gjson_validany.j1
      repeat' first
      | (with_reducible exact ih0 _ _)
      | (with_reducible exact ih1 _ _ _ _)
      | (with_reducible exact ih2 _ _ _ _)
      | (with_reducible exact gjson_validstring.mono _ _ _)
      | (with_reducible exact LeO.refl _)
      | (with_reducible exact LeO.none _)
      | (with_reducible refine LeO.ite ?_ ?_)
      | (with_reducible refine LeO.bind ?_ (fun _ => ?_))
      | exact ih0 _ _
      | exact ih1 _ _ _ _
      | exact ih2 _ _ _ _
      | exact gjson_validstring.mono _ _ _
      | exact LeO.none _
      | refine LeO.ite ?_ ?_
      | refine LeO.bind ?_ (fun _ => ?_)
    · intro y0 y1 y2 y3
      unfold gjson_validany.j2
      repeat' first
      | (with_reducible exact ih0 _ _)
      | (with_reducible exact ih1 _ _ _ _)
      | (with_reducible exact ih2 _ _ _ _)
      | (with_reducible exact gjson_validstring.mono _ _ _)
      | (with_reducible exact LeO.refl _)
      | (with_reducible exact LeO.none _)
      | (with_reducible refine LeO.ite ?_ ?_)
      | (with_reducible refine LeO.bind ?_ (fun _ => ?_))
      | exact ih0 _ _
      | exact ih1 _ _ _ _
      | exact ih2 _ _ _ _
      | exact gjson_validstring.mono _ _ _
      | exact LeO.none _
      | refine LeO.ite ?_ ?_
      | refine LeO.bind ?_ (fun _ => ?_)
theorem gjson_validany.mono : ∀ a0 a1 k, LeO (gjson_validany.f k a0 a1) (gjson_validany.f (k + 1) a0 a1) := by
  intro a0 a1 k
  obtain ⟨ih0, ih1, ih2⟩ := gjson_validany.mono_l k
  unfold gjson_validany.f
  repeat' first
      | (with_reducible exact ih0 _ _)
      | (with_reducible exact ih1 _ _ _ _)
      | (with_reducible exact ih2 _ _ _ _)
      | (with_reducible exact gjson_validstring.mono _ _ _)
      | (with_reducible exact LeO.refl _)
      | (with_reducible exact LeO.none _)
      | (with_reducible refine LeO.ite ?_ ?_)
      | (with_reducible refine LeO.bind ?_ (fun _ => ?_))
      | exact ih0 _ _
      | exact ih1 _ _ _ _
      | exact ih2 _ _ _ _
      | exact gjson_validstring.mono _ _ _
      | exact LeO.none _
      | refine LeO.ite ?_ ?_
      | refine LeO.bind ?_ (fun _ => ?_)
set_option maxHeartbeats 8000000 in
set_option maxRecDepth 100000 in
theorem gjson_validany.calls (k : Nat) (A0 : Option Addr) (c0 : Nat) (l0 : List Int) (a1 : Int) (r1 : Int) (r2 : Bool) (w : World) (hr0 : Kd.C (Kd.int .u8) w A0 l0.length l0) (hc0 : l0.length ≤ c0) (h : gjson_validany.f k l0 a1 = some (r1, r2)) :
    Calls Tryd.prog 79 #[.slice A0 l0.length c0, .int .i64 a1] w fun e w' => e = .returned (.tuple #[.int .i64 r1, .bool r2]) ∧ Drawn0 w w' := by
  have HR0 := Aside0.mk hr0
  have HC0 := Aside0.mk hc0
  clear hr0 hc0
  have H : (gjson_validany.l0 k l0 a1) = some (r1, r2) := h
  clear h
  have H' := Aside0.mk H
  clear H
  go_enter Tryd.func79, Tryd.ntmps79
  go_wp2
  try simp only [Act.put, List.setIfInBounds_toArray, List.set_cons_succ, List.set_cons_zero]
  go_loopg [1] k (fun kq v1 w' => ∃ (x1_1 : Int), v1 = .int .i64 x1_1 ∧ Aside0 (gjson_validany.l0 kq l0 x1_1 = some (r1, r2)) ∧ Aside0 (kq ≤ k) ∧ Drawn0 w w')
  case atStart => exact ⟨(a1), (by first | rfl | (simp; done) | (simp [*]; done)), H', ⟨Nat.le_refl _⟩, by repeat (first | exact Drawn0.refl _ | apply Drawn0.step)⟩
  case round =>
    clear H'
    try clear p2
    obtain ⟨x1_1, rfl, HA, HK1, ⟨m1, rfl⟩⟩ := hrel
    cases gk with
    | zero => exact absurd HA.out (by simp [gjson_validany.l0])
    | succ k1 =>
      have H := HA.out
      clear HA
      simp only [gjson_validany.l0] at H
      by_cases c3 : x1_1 < (l0.length : Int)
      · rw [if_pos c3] at H
        have c3b0 : decide (x1_1 < (l0.length : Int)) = true := decide_eq_true c3
        clear c3
        by_cases c4 : 0 ≤ x1_1
        · rw [if_pos c4] at H
          have c4b0 : decide (0 ≤ x1_1) = true := decide_eq_true c4
          clear c4
          have HC5 := Aside0.mk H
          clear H
          have p270 : 0 ≤ (x1_1 : Int) := of_decide_eq_true (by first | (with_reducible assumption) | assumption)
          have q270 : x1_1 < (l0.length : Int) := of_decide_eq_true (by first | (with_reducible assumption) | assumption)
          obtain ⟨ad270, e270, hx270_0⟩ := Kd.at_int HR0.out x1_1 p270 q270
          cases e270
          replace p270 := eq_true p270
          replace q270 := eq_true q270
          go_upto_if 17 with (fail)
          go_cut [17] (fun v17 wc => ∃ (kq : Nat) (x17_4 : Bool), v17 = .bool x17_4 ∧ Aside0 (gjson_validany.j1 kq l0 x1_1 (rd l0 x1_1) x17_4 = some (r1, r2)) ∧ Aside0 (kq ≤ k1) ∧ Drawn0 w wc)
          case first =>
            have H := HC5.out
            clear HC5
            by_cases c6 : (rd l0 x1_1) = 32
            · rw [if_pos c6] at H
              have c6b0 : ((rd l0 x1_1) == 32) = true := beq_iff_eq.mpr c6
              have c6b1 : ((rd l0 x1_1) != 32) = false := bne_eq_false_iff_eq.mpr c6
              clear c6
              (first | rw [c6b0] | (simp only [i64_w, i32_w]; rw [c6b0]) | skip)
              have H' := Aside0.mk H
              clear H
              go_wp2
              go_meet
              case rel => exact ⟨_, (((rd l0 x1_1) == 32)), (by first | rfl | (simp; done) | (simp [*]; done)), H', ⟨by have := HK1.out; first | omega | exact Nat.le_refl _⟩, by repeat (first | exact Drawn0.refl _ | apply Drawn0.step)⟩
            · rw [if_neg c6] at H
              have c6b0 : ((rd l0 x1_1) == 32) = false := beq_eq_false_iff_ne.mpr c6
              have c6b1 : ((rd l0 x1_1) != 32) = true := bne_iff_ne.mpr c6
              (first | rw [c6b0] | (simp only [i64_w, i32_w]; rw [c6b0]) | skip)
              by_cases c7 : (rd l0 x1_1) = 9
              · rw [if_pos c7] at H
                have c7b0 : ((rd l0 x1_1) == 9) = true := beq_iff_eq.mpr c7
                have c7b1 : ((rd l0 x1_1) != 9) = false := bne_eq_false_iff_eq.mpr c7
                clear c7
                have H' := Aside0.mk H
                clear H
                go_wp2
                go_meet
                case rel => exact ⟨_, (((rd l0 x1_1) == 9)), (by first | rfl | (simp; done) | (simp [*]; done)), H', ⟨by have := HK1.out; first | omega | exact Nat.le_refl _⟩, by repeat (first | exact Drawn0.refl _ | apply Drawn0.step)⟩
              · rw [if_neg c7] at H
                have c7b0 : ((rd l0 x1_1) == 9) = false := beq_eq_false_iff_ne.mpr c7
                have c7b1 : ((rd l0 x1_1) != 9) = true := bne_iff_ne.mpr c7
                by_cases c8 : (rd l0 x1_1) = 10
                · rw [if_pos c8] at H
                  have c8b0 : ((rd l0 x1_1) == 10) = true := beq_iff_eq.mpr c8
                  have c8b1 : ((rd l0 x1_1) != 10) = false := bne_eq_false_iff_eq.mpr c8
                  clear c8
                  have H' := Aside0.mk H
                  clear H
                  go_wp2
                  go_meet
                  case rel => exact ⟨_, (((rd l0 x1_1) == 10)), (by first | rfl | (simp; done) | (simp [*]; done)), H', ⟨by have := HK1.out; first | omega | exact Nat.le_refl _⟩, by repeat (first | exact Drawn0.refl _ | apply Drawn0.step)⟩
                · rw [if_neg c8] at H
                  have c8b0 : ((rd l0 x1_1) == 10) = false := beq_eq_false_iff_ne.mpr c8
                  have c8b1 : ((rd l0 x1_1) != 10) = true := bne_iff_ne.mpr c8
                  have H' := Aside0.mk H
                  clear H
                  go_wp2
                  go_meet
                  case rel => exact ⟨_, (((rd l0 x1_1) == 13)), (by first | rfl | (simp; done) | (simp [*]; done)), H', ⟨by have := HK1.out; first | omega | exact Nat.le_refl _⟩, by repeat (first | exact Drawn0.refl _ | apply Drawn0.step)⟩
          case rest =>
            clear HC5
            try clear p2
            try clear q2
            try clear hx2
            try clear c3
            try clear c3b0
            try clear c4
            try clear c4b0
            try clear c6
            try clear c6b0
            try clear c6b1
            try clear c7
            try clear c7b0
            try clear c7b1
            try clear c8
            try clear c8b0
            try clear c8b1
            try clear hx270_0
            try clear p2
            try clear p270
            try clear q270
            obtain ⟨kq, x17_4, rfl, HA, HJ4, ⟨mc4, rfl⟩⟩ := hcut
            cases kq with
            | zero => exact absurd HA.out (by simp [gjson_validany.j1])
            | succ kj4 =>
              have H := HA.out
              clear HA
              simp only [gjson_validany.j1] at H
              by_cases c9 : x17_4 = true
              · subst c9
                have H1 : (gjson_validany.l0 kj4 l0 (wrap64 (x1_1 + 1))) = some (r1, r2) := by rw [if_pos rfl] at H; exact H
                clear H
                have H := H1
                clear H1
                have H' := Aside0.mk H
                clear H
                go_wp2
                go_roundg kj4
                case measure => have := HK1.out; have := HJ4.out; omega
                case rel => exact ⟨(wrap64 (x1_1 + 1)), (by first | rfl | (simp; done) | (simp [*]; done)), H', ⟨by have := HK1.out; have := HJ4.out; omega⟩, by repeat (first | exact Drawn0.refl _ | apply Drawn0.step)⟩
              · replace c9 := Bool.eq_false_iff.mpr c9
                subst c9
                have H1 : (if (rd l0 x1_1) = 123 then ((gjson_validobject.f l0 (wrap64 (x1_1 + 1))).bind fun bt271 => (some (bt271.1, bt271.2))) else (if (rd l0 x1_1) = 91 then ((gjson_validarray.f l0 (wrap64 (x1_1 + 1))).bind fun bt273 => (some (bt273.1, bt273.2))) else (if (rd l0 x1_1) = 34 then ((gjson_validstring.f kj4 l0 (wrap64 (x1_1 + 1))).bind fun bt275 => (some (bt275.1, bt275.2))) else (if (rd l0 x1_1) = 45 then (gjson_validany.j2 kj4 l0 x1_1 (rd l0 x1_1) ((rd l0 x1_1) == 45)) else (if (rd l0 x1_1) = 48 then (gjson_validany.j2 kj4 l0 x1_1 (rd l0 x1_1) ((rd l0 x1_1) == 48)) else (if (rd l0 x1_1) = 49 then (gjson_validany.j2 kj4 l0 x1_1 (rd l0 x1_1) ((rd l0 x1_1) == 49)) else (if (rd l0 x1_1) = 50 then (gjson_validany.j2 kj4 l0 x1_1 (rd l0 x1_1) ((rd l0 x1_1) == 50)) else (if (rd l0 x1_1) = 51 then (gjson_validany.j2 kj4 l0 x1_1 (rd l0 x1_1) ((rd l0 x1_1) == 51)) else (if (rd l0 x1_1) = 52 then (gjson_validany.j2 kj4 l0 x1_1 (rd l0 x1_1) ((rd l0 x1_1) == 52)) else (if (rd l0 x1_1) = 53 then (gjson_validany.j2 kj4 l0 x1_1 (rd l0 x1_1) ((rd l0 x1_1) == 53)) else (if (rd l0 x1_1) = 54 then (gjson_validany.j2 kj4 l0 x1_1 (rd l0 x1_1) ((rd l0 x1_1) == 54)) else (if (rd l0 x1_1) = 55 then (gjson_validany.j2 kj4 l0 x1_1 (rd l0 x1_1) ((rd l0 x1_1) == 55)) else (if (rd l0 x1_1) = 56 then (gjson_validany.j2 kj4 l0 x1_1 (rd l0 x1_1) ((rd l0 x1_1) == 56)) else (gjson_validany.j2 kj4 l0 x1_1 (rd l0 x1_1) ((rd l0 x1_1) == 57))))))))))))))) = some (r1, r2) := by rw [if_neg (show ¬ (false = true) by decide)] at H; exact H
                clear H
                have H := H1
                clear H1
                by_cases c10 : (rd l0 x1_1) = 123
                · rw [if_pos c10] at H
                  have c10b0 : ((rd l0 x1_1) == 123) = true := beq_iff_eq.mpr c10
                  have c10b1 : ((rd l0 x1_1) != 123) = false := bne_eq_false_iff_eq.mpr c10
                  clear c10
                  replace H := Option.bind_eq_some_iff.mp H
                  obtain ⟨⟨t271, t272⟩, A110, H⟩ := H
                  replace H : (some (t271, t272)) = some (r1, r2) := H
                  have A11 := Aside0.mk A110
                  clear A110
                  simp only [Option.some.injEq, Prod.mk.injEq] at H
                  obtain ⟨rfl, rfl⟩ := H
                  go_wp2_with (first | ((with_reducible refine gate_callee (f := 90) rfl ?_); refine goesL_ (some 27) rfl rfl Tryd.func90 (by kernel_rfl) rfl #[.slice (some ad270) l0.length c0, .int .i64 (wrap64 (x1_1 + 1))] rfl (by (try simp only [List.map_toArray, List.map_cons, List.map_nil]); first | done | rfl | (simp only [List.length_drop, List.length_take]; rfl)) ?_; (with_reducible refine (gjson_validobject.calls _ _ l0 (wrap64 (x1_1 + 1)) t271 t272 _ ?side1 ?side2 A11.out).mono ?_); (case side1 => repeat (first | exact HR0.out | (with_reducible refine Kd.C_alloc ?_ _) | (with_reducible refine Kd.C_drewN ?_ _) | (with_reducible refine Kd.C_drew ?_))); (case side2 => exact HC0.out); rintro e w' ⟨rfl, ⟨nd, rfl⟩⟩; refine ⟨_, rfl, ?_⟩))
                  go_ret2
                  exact ⟨by first | rfl | (simp; done) | (simp [*]; done), by repeat (first | exact Drawn0.refl _ | apply Drawn0.step)⟩
                · rw [if_neg c10] at H
                  have c10b0 : ((rd l0 x1_1) == 123) = false := beq_eq_false_iff_ne.mpr c10
                  have c10b1 : ((rd l0 x1_1) != 123) = true := bne_iff_ne.mpr c10
                  by_cases c12 : (rd l0 x1_1) = 91
                  · rw [if_pos c12] at H
                    have c12b0 : ((rd l0 x1_1) == 91) = true := beq_iff_eq.mpr c12
                    have c12b1 : ((rd l0 x1_1) != 91) = false := bne_eq_false_iff_eq.mpr c12
                    clear c12
                    replace H := Option.bind_eq_some_iff.mp H
                    obtain ⟨⟨t273, t274⟩, A130, H⟩ := H
                    replace H : (some (t273, t274)) = some (r1, r2) := H
                    have A13 := Aside0.mk A130
                    clear A130
                    simp only [Option.some.injEq, Prod.mk.injEq] at H
                    obtain ⟨rfl, rfl⟩ := H
                    go_wp2_with (first | ((with_reducible refine gate_callee (f := 91) rfl ?_); refine goesL_ (some 35) rfl rfl Tryd.func91 (by kernel_rfl) rfl #[.slice (some ad270) l0.length c0, .int .i64 (wrap64 (x1_1 + 1))] rfl (by (try simp only [List.map_toArray, List.map_cons, List.map_nil]); first | done | rfl | (simp only [List.length_drop, List.length_take]; rfl)) ?_; (with_reducible refine (gjson_validarray.calls _ _ l0 (wrap64 (x1_1 + 1)) t273 t274 _ ?side1 ?side2 A13.out).mono ?_); (case side1 => repeat (first | exact HR0.out | (with_reducible refine Kd.C_alloc ?_ _) | (with_reducible refine Kd.C_drewN ?_ _) | (with_reducible refine Kd.C_drew ?_))); (case side2 => exact HC0.out); rintro e w' ⟨rfl, ⟨nd, rfl⟩⟩; refine ⟨_, rfl, ?_⟩))
                    go_ret2
                    exact ⟨by first | rfl | (simp; done) | (simp [*]; done), by repeat (first | exact Drawn0.refl _ | apply Drawn0.step)⟩
                  · rw [if_neg c12] at H
                    have c12b0 : ((rd l0 x1_1) == 91) = false := beq_eq_false_iff_ne.mpr c12
                    have c12b1 : ((rd l0 x1_1) != 91) = true := bne_iff_ne.mpr c12
                    by_cases c14 : (rd l0 x1_1) = 34
                    · rw [if_pos c14] at H
                      have c14b0 : ((rd l0 x1_1) == 34) = true := beq_iff_eq.mpr c14
                      have c14b1 : ((rd l0 x1_1) != 34) = false := bne_eq_false_iff_eq.mpr c14
                      clear c14
                      replace H := Option.bind_eq_some_iff.mp H
                      obtain ⟨⟨t275, t276⟩, A150, H⟩ := H
                      replace H : (some (t275, t276)) = some (r1, r2) := H
                      have A15 := Aside0.mk A150
                      clear A150
                      simp only [Option.some.injEq, Prod.mk.injEq] at H
                      obtain ⟨rfl, rfl⟩ := H
                      go_wp2_with (first | ((with_reducible refine gate_callee (f := 92) rfl ?_); refine goesL_ (some 43) rfl rfl Tryd.func92 (by kernel_rfl) rfl #[.slice (some ad270) l0.length c0, .int .i64 (wrap64 (x1_1 + 1))] rfl (by (try simp only [List.map_toArray, List.map_cons, List.map_nil]); first | done | rfl | (simp only [List.length_drop, List.length_take]; rfl)) ?_; (with_reducible refine (gjson_validstring.calls kj4 _ _ l0 (wrap64 (x1_1 + 1)) t275 t276 _ ?side1 ?side2 A15.out).mono ?_); (case side1 => repeat (first | exact HR0.out | (with_reducible refine Kd.C_alloc ?_ _) | (with_reducible refine Kd.C_drewN ?_ _) | (with_reducible refine Kd.C_drew ?_))); (case side2 => exact HC0.out); rintro e w' ⟨rfl, ⟨nd, rfl⟩⟩; refine ⟨_, rfl, ?_⟩))
                      go_ret2
                      exact ⟨by first | rfl | (simp; done) | (simp [*]; done), by repeat (first | exact Drawn0.refl _ | apply Drawn0.step)⟩
                    · rw [if_neg c14] at H
                      have c14b0 : ((rd l0 x1_1) == 34) = false := beq_eq_false_iff_ne.mpr c14
                      have c14b1 : ((rd l0 x1_1) != 34) = true := bne_iff_ne.mpr c14
                      have HC16 := Aside0.mk H
                      clear H
                      go_upto_if 46 with (fail)
                      go_cut [46] (fun v46 wc => ∃ (kq : Nat) (x46_15 : Bool), v46 = .bool x46_15 ∧ Aside0 (gjson_validany.j2 kq l0 x1_1 (rd l0 x1_1) x46_15 = some (r1, r2)) ∧ Aside0 (kq ≤ kj4) ∧ Drawn0 w wc)
                      case first =>
                        have H := HC16.out
                        clear HC16
                        by_cases c17 : (rd l0 x1_1) = 45
                        · rw [if_pos c17] at H
                          have c17b0 : ((rd l0 x1_1) == 45) = true := beq_iff_eq.mpr c17
                          have c17b1 : ((rd l0 x1_1) != 45) = false := bne_eq_false_iff_eq.mpr c17
                          clear c17
                          (first | rw [c17b0] | (simp only [i64_w, i32_w]; rw [c17b0]) | skip)
                          have H' := Aside0.mk H
                          clear H
                          go_wp2
                          go_meet
                          case rel => exact ⟨_, (((rd l0 x1_1) == 45)), (by first | rfl | (simp; done) | (simp [*]; done)), H', ⟨by have := HK1.out; have := HJ4.out; first | omega | exact Nat.le_refl _⟩, by repeat (first | exact Drawn0.refl _ | apply Drawn0.step)⟩
                        · rw [if_neg c17] at H
                          have c17b0 : ((rd l0 x1_1) == 45) = false := beq_eq_false_iff_ne.mpr c17
                          have c17b1 : ((rd l0 x1_1) != 45) = true := bne_iff_ne.mpr c17
                          (first | rw [c17b0] | (simp only [i64_w, i32_w]; rw [c17b0]) | skip)
                          by_cases c18 : (rd l0 x1_1) = 48
                          · rw [if_pos c18] at H
                            have c18b0 : ((rd l0 x1_1) == 48) = true := beq_iff_eq.mpr c18
                            have c18b1 : ((rd l0 x1_1) != 48) = false := bne_eq_false_iff_eq.mpr c18
                            clear c18
                            have H' := Aside0.mk H
                            clear H
                            go_wp2
                            go_meet
                            case rel => exact ⟨_, (((rd l0 x1_1) == 48)), (by first | rfl | (simp; done) | (simp [*]; done)), H', ⟨by have := HK1.out; have := HJ4.out; first | omega | exact Nat.le_refl _⟩, by repeat (first | exact Drawn0.refl _ | apply Drawn0.step)⟩
                          · rw [if_neg c18] at H
                            have c18b0 : ((rd l0 x1_1) == 48) = false := beq_eq_false_iff_ne.mpr c18
                            have c18b1 : ((rd l0 x1_1) != 48) = true := bne_iff_ne.mpr c18
                            by_cases c19 : (rd l0 x1_1) = 49
                            · rw [if_pos c19] at H
                              have c19b0 : ((rd l0 x1_1) == 49) = true := beq_iff_eq.mpr c19
                              have c19b1 : ((rd l0 x1_1) != 49) = false := bne_eq_false_iff_eq.mpr c19
                              clear c19
                              have H' := Aside0.mk H
                              clear H
                              go_wp2
                              go_meet
                              case rel => exact ⟨_, (((rd l0 x1_1) == 49)), (by first | rfl | (simp; done) | (simp [*]; done)), H', ⟨by have := HK1.out; have := HJ4.out; first | omega | exact Nat.le_refl _⟩, by repeat (first | exact Drawn0.refl _ | apply Drawn0.step)⟩
                            · rw [if_neg c19] at H
                              have c19b0 : ((rd l0 x1_1) == 49) = false := beq_eq_false_iff_ne.mpr c19
                              have c19b1 : ((rd l0 x1_1) != 49) = true := bne_iff_ne.mpr c19
                              by_cases c20 : (rd l0 x1_1) = 50
                              · rw [if_pos c20] at H
                                have c20b0 : ((rd l0 x1_1) == 50) = true := beq_iff_eq.mpr c20
                                have c20b1 : ((rd l0 x1_1) != 50) = false := bne_eq_false_iff_eq.mpr c20
                                clear c20
                                have H' := Aside0.mk H
                                clear H
                                go_wp2
                                go_meet
                                case rel => exact ⟨_, (((rd l0 x1_1) == 50)), (by first | rfl | (simp; done) | (simp [*]; done)), H', ⟨by have := HK1.out; have := HJ4.out; first | omega | exact Nat.le_refl _⟩, by repeat (first | exact Drawn0.refl _ | apply Drawn0.step)⟩
                              · rw [if_neg c20] at H
                                have c20b0 : ((rd l0 x1_1) == 50) = false := beq_eq_false_iff_ne.mpr c20
                                have c20b1 : ((rd l0 x1_1) != 50) = true := bne_iff_ne.mpr c20
                                by_cases c21 : (rd l0 x1_1) = 51
                                · rw [if_pos c21] at H
                                  have c21b0 : ((rd l0 x1_1) == 51) = true := beq_iff_eq.mpr c21
                                  have c21b1 : ((rd l0 x1_1) != 51) = false := bne_eq_false_iff_eq.mpr c21
                                  clear c21
                                  have H' := Aside0.mk H
                                  clear H
                                  go_wp2
                                  go_meet
                                  case rel => exact ⟨_, (((rd l0 x1_1) == 51)), (by first | rfl | (simp; done) | (simp [*]; done)), H', ⟨by have := HK1.out; have := HJ4.out; first | omega | exact Nat.le_refl _⟩, by repeat (first | exact Drawn0.refl _ | apply Drawn0.step)⟩
                                · rw [if_neg c21] at H
                                  have c21b0 : ((rd l0 x1_1) == 51) = false := beq_eq_false_iff_ne.mpr c21
                                  have c21b1 : ((rd l0 x1_1) != 51) = true := bne_iff_ne.mpr c21
                                  by_cases c22 : (rd l0 x1_1) = 52
                                  · rw [if_pos c22] at H
                                    have c22b0 : ((rd l0 x1_1) == 52) = true := beq_iff_eq.mpr c22
                                    have c22b1 : ((rd l0 x1_1) != 52) = false := bne_eq_false_iff_eq.mpr c22
                                    clear c22
                                    have H' := Aside0.mk H
                                    clear H
                                    go_wp2
                                    go_meet
                                    case rel => exact ⟨_, (((rd l0 x1_1) == 52)), (by first | rfl | (simp; done) | (simp [*]; done)), H', ⟨by have := HK1.out; have := HJ4.out; first | omega | exact Nat.le_refl _⟩, by repeat (first | exact Drawn0.refl _ | apply Drawn0.step)⟩
                                  · rw [if_neg c22] at H
                                    have c22b0 : ((rd l0 x1_1) == 52) = false := beq_eq_false_iff_ne.mpr c22
                                    have c22b1 : ((rd l0 x1_1) != 52) = true := bne_iff_ne.mpr c22
                                    by_cases c23 : (rd l0 x1_1) = 53
                                    · rw [if_pos c23] at H
                                      have c23b0 : ((rd l0 x1_1) == 53) = true := beq_iff_eq.mpr c23
                                      have c23b1 : ((rd l0 x1_1) != 53) = false := bne_eq_false_iff_eq.mpr c23
                                      clear c23
                                      have H' := Aside0.mk H
                                      clear H
                                      go_wp2
                                      go_meet
                                      case rel => exact ⟨_, (((rd l0 x1_1) == 53)), (by first | rfl | (simp; done) | (simp [*]; done)), H', ⟨by have := HK1.out; have := HJ4.out; first | omega | exact Nat.le_refl _⟩, by repeat (first | exact Drawn0.refl _ | apply Drawn0.step)⟩
                                    · rw [if_neg c23] at H
                                      have c23b0 : ((rd l0 x1_1) == 53) = false := beq_eq_false_iff_ne.mpr c23
                                      have c23b1 : ((rd l0 x1_1) != 53) = true := bne_iff_ne.mpr c23
                                      by_cases c24 : (rd l0 x1_1) = 54
                                      · rw [if_pos c24] at H
                                        have c24b0 : ((rd l0 x1_1) == 54) = true := beq_iff_eq.mpr c24
                                        have c24b1 : ((rd l0 x1_1) != 54) = false := bne_eq_false_iff_eq.mpr c24
                                        clear c24
                                        have H' := Aside0.mk H
                                        clear H
                                        go_wp2
                                        go_meet
                                        case rel => exact ⟨_, (((rd l0 x1_1) == 54)), (by first | rfl | (simp; done) | (simp [*]; done)), H', ⟨by have := HK1.out; have := HJ4.out; first | omega | exact Nat.le_refl _⟩, by repeat (first | exact Drawn0.refl _ | apply Drawn0.step)⟩
                                      · rw [if_neg c24] at H
                                        have c24b0 : ((rd l0 x1_1) == 54) = false := beq_eq_false_iff_ne.mpr c24
                                        have c24b1 : ((rd l0 x1_1) != 54) = true := bne_iff_ne.mpr c24
                                        by_cases c25 : (rd l0 x1_1) = 55
                                        · rw [if_pos c25] at H
                                          have c25b0 : ((rd l0 x1_1) == 55) = true := beq_iff_eq.mpr c25
                                          have c25b1 : ((rd l0 x1_1) != 55) = false := bne_eq_false_iff_eq.mpr c25
                                          clear c25
                                          have H' := Aside0.mk H
                                          clear H
                                          go_wp2
                                          go_meet
                                          case rel => exact ⟨_, (((rd l0 x1_1) == 55)), (by first | rfl | (simp; done) | (simp [*]; done)), H', ⟨by have := HK1.out; have := HJ4.out; first | omega | exact Nat.le_refl _⟩, by repeat (first | exact Drawn0.refl _ | apply Drawn0.step)⟩
                                        · rw [if_neg c25] at H
                                          have c25b0 : ((rd l0 x1_1) == 55) = false := beq_eq_false_iff_ne.mpr c25
                                          have c25b1 : ((rd l0 x1_1) != 55) = true := bne_iff_ne.mpr c25
                                          by_cases c26 : (rd l0 x1_1) = 56
                                          · rw [if_pos c26] at H
                                            have c26b0 : ((rd l0 x1_1) == 56) = true := beq_iff_eq.mpr c26
                                            have c26b1 : ((rd l0 x1_1) != 56) = false := bne_eq_false_iff_eq.mpr c26
                                            clear c26
                                            have H' := Aside0.mk H
                                            clear H
                                            go_wp2
                                            go_meet
                                            case rel => exact ⟨_, (((rd l0 x1_1) == 56)), (by first | rfl | (simp; done) | (simp [*]; done)), H', ⟨by have := HK1.out; have := HJ4.out; first | omega | exact Nat.le_refl _⟩, by repeat (first | exact Drawn0.refl _ | apply Drawn0.step)⟩
                                          · rw [if_neg c26] at H
                                            have c26b0 : ((rd l0 x1_1) == 56) = false := beq_eq_false_iff_ne.mpr c26
                                            have c26b1 : ((rd l0 x1_1) != 56) = true := bne_iff_ne.mpr c26
                                            have H' := Aside0.mk H
                                            clear H
                                            go_wp2
                                            go_meet
                                            case rel => exact ⟨_, (((rd l0 x1_1) == 57)), (by first | rfl | (simp; done) | (simp [*]; done)), H', ⟨by have := HK1.out; have := HJ4.out; first | omega | exact Nat.le_refl _⟩, by repeat (first | exact Drawn0.refl _ | apply Drawn0.step)⟩
                      case rest =>
                        clear HC16
                        try clear c1
                        try clear c2
                        try clear p2
                        try clear q2
                        try clear hx2
                        try clear c3
                        try clear c3b0
                        try clear c4
                        try clear c4b0
                        try clear c6
                        try clear c6b0
                        try clear c6b1
                        try clear p6
                        try clear c7
                        try clear c7b0
                        try clear c7b1
                        try clear c8
                        try clear c8b0
                        try clear c8b1
                        try clear c9
                        try clear c10
                        try clear c10b0
                        try clear c10b1
                        try clear c12
                        try clear c12b0
                        try clear c12b1
                        try clear c14
                        try clear c14b0
                        try clear c14b1
                        try clear c17
                        try clear c17b0
                        try clear c17b1
                        try clear c18
                        try clear c18b0
                        try clear c18b1
                        try clear c19
                        try clear c19b0
                        try clear c19b1
                        try clear c20
                        try clear c20b0
                        try clear c20b1
                        try clear c21
                        try clear c21b0
                        try clear c21b1
                        try clear c22
                        try clear c22b0
                        try clear c22b1
                        try clear c23
                        try clear c23b0
                        try clear c23b1
                        try clear c24
                        try clear c24b0
                        try clear c24b1
                        try clear c25
                        try clear c25b0
                        try clear c25b1
                        try clear c26
                        try clear c26b0
                        try clear c26b1
                        try clear hx270_0
                        try clear p2
                        try clear p270
                        try clear q2
                        try clear q270
                        obtain ⟨kq, x46_15, rfl, HA, HJ15, ⟨mc15, rfl⟩⟩ := hcut
                        cases kq with
                        | zero => exact absurd HA.out (by simp [gjson_validany.j2])
                        | succ kj15 =>
                          have H := HA.out
                          clear HA
                          simp only [gjson_validany.j2] at H
                          by_cases c27 : x46_15 = true
                          · subst c27
                            have H1 : ((gjson_validnumber.f l0 (wrap64 (x1_1 + 1))).bind fun bt277 => (some (bt277.1, bt277.2))) = some (r1, r2) := by rw [if_pos rfl] at H; exact H
                            clear H
                            have H := H1
                            clear H1
                            replace H := Option.bind_eq_some_iff.mp H
                            obtain ⟨⟨t277, t278⟩, A280, H⟩ := H
                            replace H : (some (t277, t278)) = some (r1, r2) := H
                            have A28 := Aside0.mk A280
                            clear A280
                            simp only [Option.some.injEq, Prod.mk.injEq] at H
                            obtain ⟨rfl, rfl⟩ := H
                            go_wp2_with (first | ((with_reducible refine gate_callee (f := 93) rfl ?_); refine goesL_ (some 61) rfl rfl Tryd.func93 (by kernel_rfl) rfl #[.slice (some ad270) l0.length c0, .int .i64 (wrap64 (x1_1 + 1))] rfl (by (try simp only [List.map_toArray, List.map_cons, List.map_nil]); first | done | rfl | (simp only [List.length_drop, List.length_take]; rfl)) ?_; (with_reducible refine (gjson_validnumber.calls _ _ l0 (wrap64 (x1_1 + 1)) t277 t278 _ ?side1 ?side2 A28.out).mono ?_); (case side1 => repeat (first | exact HR0.out | (with_reducible refine Kd.C_alloc ?_ _) | (with_reducible refine Kd.C_drewN ?_ _) | (with_reducible refine Kd.C_drew ?_))); (case side2 => exact HC0.out); rintro e w' ⟨rfl, ⟨nd, rfl⟩⟩; refine ⟨_, rfl, ?_⟩))
                            go_ret2
                            exact ⟨by first | rfl | (simp; done) | (simp [*]; done), by repeat (first | exact Drawn0.refl _ | apply Drawn0.step)⟩
                          · replace c27 := Bool.eq_false_iff.mpr c27
                            subst c27
                            have H1 : (if (rd l0 x1_1) = 116 then ((gjson_validtrue.f l0 (wrap64 (x1_1 + 1))).bind fun bt279 => (some (bt279.1, bt279.2))) else (if (rd l0 x1_1) = 102 then ((gjson_validfalse.f l0 (wrap64 (x1_1 + 1))).bind fun bt281 => (some (bt281.1, bt281.2))) else (if (rd l0 x1_1) = 110 then ((gjson_validnull.f l0 (wrap64 (x1_1 + 1))).bind fun bt283 => (some (bt283.1, bt283.2))) else (some (x1_1, false))))) = some (r1, r2) := by rw [if_neg (show ¬ (false = true) by decide)] at H; exact H
                            clear H
                            have H := H1
                            clear H1
                            by_cases c29 : (rd l0 x1_1) = 116
                            · rw [if_pos c29] at H
                              have c29b0 : ((rd l0 x1_1) == 116) = true := beq_iff_eq.mpr c29
                              have c29b1 : ((rd l0 x1_1) != 116) = false := bne_eq_false_iff_eq.mpr c29
                              clear c29
                              replace H := Option.bind_eq_some_iff.mp H
                              obtain ⟨⟨t279, t280⟩, A300, H⟩ := H
                              replace H : (some (t279, t280)) = some (r1, r2) := H
                              have A30 := Aside0.mk A300
                              clear A300
                              simp only [Option.some.injEq, Prod.mk.injEq] at H
                              obtain ⟨rfl, rfl⟩ := H
                              go_wp2_with (first | ((with_reducible refine gate_callee (f := 94) rfl ?_); refine goesL_ (some 69) rfl rfl Tryd.func94 (by kernel_rfl) rfl #[.slice (some ad270) l0.length c0, .int .i64 (wrap64 (x1_1 + 1))] rfl (by (try simp only [List.map_toArray, List.map_cons, List.map_nil]); first | done | rfl | (simp only [List.length_drop, List.length_take]; rfl)) ?_; (with_reducible refine (gjson_validtrue.calls _ _ l0 (wrap64 (x1_1 + 1)) t279 t280 _ ?side1 ?side2 A30.out).mono ?_); (case side1 => repeat (first | exact HR0.out | (with_reducible refine Kd.C_alloc ?_ _) | (with_reducible refine Kd.C_drewN ?_ _) | (with_reducible refine Kd.C_drew ?_))); (case side2 => exact HC0.out); rintro e w' ⟨rfl, ⟨nd, rfl⟩⟩; refine ⟨_, rfl, ?_⟩))
                              go_ret2
                              exact ⟨by first | rfl | (simp; done) | (simp [*]; done), by repeat (first | exact Drawn0.refl _ | apply Drawn0.step)⟩
                            · rw [if_neg c29] at H
                              have c29b0 : ((rd l0 x1_1) == 116) = false := beq_eq_false_iff_ne.mpr c29
                              have c29b1 : ((rd l0 x1_1) != 116) = true := bne_iff_ne.mpr c29
                              by_cases c31 : (rd l0 x1_1) = 102
                              · rw [if_pos c31] at H
                                have c31b0 : ((rd l0 x1_1) == 102) = true := beq_iff_eq.mpr c31
                                have c31b1 : ((rd l0 x1_1) != 102) = false := bne_eq_false_iff_eq.mpr c31
                                clear c31
                                replace H := Option.bind_eq_some_iff.mp H
                                obtain ⟨⟨t281, t282⟩, A320, H⟩ := H
                                replace H : (some (t281, t282)) = some (r1, r2) := H
                                have A32 := Aside0.mk A320
                                clear A320
                                simp only [Option.some.injEq, Prod.mk.injEq] at H
                                obtain ⟨rfl, rfl⟩ := H
                                go_wp2_with (first | ((with_reducible refine gate_callee (f := 95) rfl ?_); refine goesL_ (some 77) rfl rfl Tryd.func95 (by kernel_rfl) rfl #[.slice (some ad270) l0.length c0, .int .i64 (wrap64 (x1_1 + 1))] rfl (by (try simp only [List.map_toArray, List.map_cons, List.map_nil]); first | done | rfl | (simp only [List.length_drop, List.length_take]; rfl)) ?_; (with_reducible refine (gjson_validfalse.calls _ _ l0 (wrap64 (x1_1 + 1)) t281 t282 _ ?side1 ?side2 A32.out).mono ?_); (case side1 => repeat (first | exact HR0.out | (with_reducible refine Kd.C_alloc ?_ _) | (with_reducible refine Kd.C_drewN ?_ _) | (with_reducible refine Kd.C_drew ?_))); (case side2 => exact HC0.out); rintro e w' ⟨rfl, ⟨nd, rfl⟩⟩; refine ⟨_, rfl, ?_⟩))
                                go_ret2
                                exact ⟨by first | rfl | (simp; done) | (simp [*]; done), by repeat (first | exact Drawn0.refl _ | apply Drawn0.step)⟩
                              · rw [if_neg c31] at H
                                have c31b0 : ((rd l0 x1_1) == 102) = false := beq_eq_false_iff_ne.mpr c31
                                have c31b1 : ((rd l0 x1_1) != 102) = true := bne_iff_ne.mpr c31
                                by_cases c33 : (rd l0 x1_1) = 110
                                · rw [if_pos c33] at H
                                  have c33b0 : ((rd l0 x1_1) == 110) = true := beq_iff_eq.mpr c33
                                  have c33b1 : ((rd l0 x1_1) != 110) = false := bne_eq_false_iff_eq.mpr c33
                                  clear c33
                                  replace H := Option.bind_eq_some_iff.mp H
                                  obtain ⟨⟨t283, t284⟩, A340, H⟩ := H
                                  replace H : (some (t283, t284)) = some (r1, r2) := H
                                  have A34 := Aside0.mk A340
                                  clear A340
                                  simp only [Option.some.injEq, Prod.mk.injEq] at H
                                  obtain ⟨rfl, rfl⟩ := H
                                  go_wp2_with (first | ((with_reducible refine gate_callee (f := 96) rfl ?_); refine goesL_ (some 85) rfl rfl Tryd.func96 (by kernel_rfl) rfl #[.slice (some ad270) l0.length c0, .int .i64 (wrap64 (x1_1 + 1))] rfl (by (try simp only [List.map_toArray, List.map_cons, List.map_nil]); first | done | rfl | (simp only [List.length_drop, List.length_take]; rfl)) ?_; (with_reducible refine (gjson_validnull.calls _ _ l0 (wrap64 (x1_1 + 1)) t283 t284 _ ?side1 ?side2 A34.out).mono ?_); (case side1 => repeat (first | exact HR0.out | (with_reducible refine Kd.C_alloc ?_ _) | (with_reducible refine Kd.C_drewN ?_ _) | (with_reducible refine Kd.C_drew ?_))); (case side2 => exact HC0.out); rintro e w' ⟨rfl, ⟨nd, rfl⟩⟩; refine ⟨_, rfl, ?_⟩))
                                  go_ret2
                                  exact ⟨by first | rfl | (simp; done) | (simp [*]; done), by repeat (first | exact Drawn0.refl _ | apply Drawn0.step)⟩
                                · rw [if_neg c33] at H
                                  have c33b0 : ((rd l0 x1_1) == 110) = false := beq_eq_false_iff_ne.mpr c33
                                  have c33b1 : ((rd l0 x1_1) != 110) = true := bne_iff_ne.mpr c33
                                  simp only [Option.some.injEq, Prod.mk.injEq] at H
                                  obtain ⟨rfl, rfl⟩ := H
                                  go_wp2
                                  go_ret2
                                  exact ⟨by first | rfl | (simp; done) | (simp [*]; done), by repeat (first | exact Drawn0.refl _ | apply Drawn0.step)⟩
        · rw [if_neg c4] at H
          exact absurd H (by simp)
      · rw [if_neg c3] at H
        have c3b0 : decide (x1_1 < (l0.length : Int)) = false := decide_eq_false c3
        clear c3
        simp only [Option.some.injEq, Prod.mk.injEq] at H
        obtain ⟨rfl, rfl⟩ := H
        go_wp2
        go_ret2
        exact ⟨by first | rfl | (simp; done) | (simp [*]; done), by repeat (first | exact Drawn0.refl _ | apply Drawn0.step)⟩

end Go.Proofs.YtdllbnecbbggfaaDoor.XFnGjQuoteValid
