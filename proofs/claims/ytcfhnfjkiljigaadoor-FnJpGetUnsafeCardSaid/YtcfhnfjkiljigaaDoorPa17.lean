/- Proved here: parts of the law FnJpGetUnsafe (the texts XFnJpGetUnsafex11 XFnJpGetUnsafex12), no conditions of their own beyond what each theorem says. -/
import Derived.Test.YtcfhnfjkiljigaaDoorPa10
import Derived.Test.YtcfhnfjkiljigaaDoorPa16
section
-- Written by xprint.py of this session (a program that runs the kit's print and adds to it); Lean checks it.
namespace Go.Proofs.YtcfhnfjkiljigaaDoor.XFnJpGetUnsafe
open Go.RowKit Go.Proofs.YtcfhnfjkiljigaaDoorW.PrintWords Go.Proofs.YtcfhnfjkiljigaaDoorW.PrintLast Go.Proofs.YtcfhnfjkiljigaaDoorW.PrintMore
attribute [local go_sem] max2_int min2_int max_two min_two max_three min_three max_four min_four   -- for this text's walks alone
set_option linter.unusedVariables false
set_option linter.unusedSimpArgs false
/-! ### jsonparser_h2I: function 81 -/
mutual
def jsonparser_h2I.j0 : Nat → Int → Bool → Option (Int)
 | 0, _, _ => none
 | k + 1, x0, x8 => if x8 = true then (some ((x0 - 48) % 256)) else (if x0 ≥ 65 then (jsonparser_h2I.j1 k x0 (decide (x0 ≤ 70))) else (jsonparser_h2I.j1 k x0 false))
def jsonparser_h2I.j1 : Nat → Int → Bool → Option (Int)
 | 0, _, _ => none
 | k + 1, x0, x17 => if x17 = true then (some (((x0 - 65) % 256) + 10)) else (if x0 ≥ 97 then (if x0 ≤ 102 then (some (((x0 - 97) % 256) + 10)) else (some (-1))) else (some (-1)))
end
def jsonparser_h2I.f (k : Nat) (a0 : Int) : Option (Int) := if a0 ≥ 48 then (jsonparser_h2I.j0 k a0 (decide (a0 ≤ 57))) else (jsonparser_h2I.j0 k a0 false)
set_option maxHeartbeats 8000000 in
set_option maxRecDepth 100000 in
theorem jsonparser_h2I.calls (k : Nat) (a0 : Int) (r : Int) (w : World) (h : jsonparser_h2I.f k a0 = some r) :
  Calls Tryd.prog 81 #[.int .u8 a0] w fun e w' => e = .returned (.int .i64 r) ∧ Drawn0 w w' := by
 have H : (if a0 ≥ 48 then (jsonparser_h2I.j0 k a0 (decide (a0 ≤ 57))) else (jsonparser_h2I.j0 k a0 false)) = some r := h
 clear h
 have HC2 := aj H
 clear H
 go_enter Tryd.func81, Tryd.ntmps81
 go_upto_region 1 with (fail)
 go_cut [8] (fun v8 wc => ∃ (kq : Nat) (x8_1 : Bool), v8 = .bool x8_1 ∧ Aside0 (jsonparser_h2I.j0 kq a0 x8_1 = some r) ∧ Aside0 (kq ≤ k) ∧ Drawn0 w wc)
 case first =>
  have H := HC2.out
  clear HC2
  by_cases c3 : a0 ≥ 48
  ·rw [if_pos c3] at H
   have c3b0 : decide (48 ≤ a0) = true := decide_eq_true c3
   clear c3
   have H' := aj H
   clear H
   go_wp2
   go_meet
   case rel => exact ⟨_, (decide (a0 ≤ 57)), (by rfl), H', ⟨by omega⟩, by repeat (exact Drawn0.refl _)⟩
  ·rw [if_neg c3] at H
   have c3b0 : decide (48 ≤ a0) = false := decide_eq_false c3
   clear c3
   have H' := aj H
   clear H
   go_wp2
   go_meet
   case rel => exact ⟨_, (false), (by rfl), H', ⟨by omega⟩, by repeat (exact Drawn0.refl _)⟩
 case rest =>
  clear HC2
  obtain ⟨kq, x8_1, rfl, HA, HJ1, ⟨mc1, rfl⟩⟩ := hcut
  cases kq with
  | zero => exact absurd HA.out (by simp [jsonparser_h2I.j0])
  | succ kj1 =>
   have H := HA.out
   clear HA
   simp only [jsonparser_h2I.j0] at H
   by_cases c4 : x8_1 = true
   ·subst c4
    rw [if_pos rfl] at H
    obtain rfl := Option.some.inj H
    go_wp2
    go_ret
    exact ⟨by rfl, by repeat (first | exact Drawn0.refl _ | apply Drawn0.step)⟩
   ·replace c4 := Bool.eq_false_iff.mpr c4
    subst c4
    rw [if_neg (show ¬ (false = true) by decide)] at H
    have HC5 := aj H
    clear H
    go_upto_region 3 with (fail)
    go_cut [17] (fun v17 wc => ∃ (kq : Nat) (x17_4 : Bool), v17 = .bool x17_4 ∧ Aside0 (jsonparser_h2I.j1 kq a0 x17_4 = some r) ∧ Aside0 (kq ≤ kj1) ∧ Drawn0 w wc)
    case first =>
     have H := HC5.out
     clear HC5
     by_cases c6 : a0 ≥ 65
     ·rw [if_pos c6] at H
      have c6b0 : decide (65 ≤ a0) = true := decide_eq_true c6
      clear c6
      have H' := aj H
      clear H
      go_wp2
      go_meet
      case rel => exact ⟨_, (decide (a0 ≤ 70)), (by rfl), H', ⟨by have := HJ1.out; omega⟩, by repeat (first | exact Drawn0.refl _ | apply Drawn0.step)⟩
     ·rw [if_neg c6] at H
      have c6b0 : decide (65 ≤ a0) = false := decide_eq_false c6
      clear c6
      have H' := aj H
      clear H
      go_wp2
      go_meet
      case rel => exact ⟨_, (false), (by rfl), H', ⟨by have := HJ1.out; omega⟩, by repeat (first | exact Drawn0.refl _ | apply Drawn0.step)⟩
    case rest =>
     clear HC5
     obtain ⟨kq, x17_4, rfl, HA, HJ4, ⟨mc4, rfl⟩⟩ := hcut
     cases kq with
     | zero => exact absurd HA.out (by simp [jsonparser_h2I.j1])
     | succ kj4 =>
      have H := HA.out
      clear HA
      simp only [jsonparser_h2I.j1] at H
      by_cases c7 : x17_4 = true
      ·subst c7
       rw [if_pos rfl] at H
       obtain rfl := Option.some.inj H
       go_wp2
       go_ret
       exact ⟨by rfl, by repeat (first | exact Drawn0.refl _ | apply Drawn0.step)⟩
      ·replace c7 := Bool.eq_false_iff.mpr c7
       subst c7
       rw [if_neg (show ¬ (false = true) by decide)] at H
       by_cases c8 : a0 ≥ 97
       ·rw [if_pos c8] at H
        have c8b0 : decide (97 ≤ a0) = true := decide_eq_true c8
        clear c8
        by_cases c9 : a0 ≤ 102
        ·rw [if_pos c9] at H
         have c9b0 : decide (a0 ≤ 102) = true := decide_eq_true c9
         clear c9
         obtain rfl := Option.some.inj H
         go_wp2
         go_ret
         exact ⟨by rfl, by repeat (first | exact Drawn0.refl _ | apply Drawn0.step)⟩
        ·rw [if_neg c9] at H
         have c9b0 : decide (a0 ≤ 102) = false := decide_eq_false c9
         clear c9
         obtain rfl := Option.some.inj H
         go_wp2
         go_ret
         exact ⟨by rfl, by repeat (first | exact Drawn0.refl _ | apply Drawn0.step)⟩
       ·rw [if_neg c8] at H
        have c8b0 : decide (97 ≤ a0) = false := decide_eq_false c8
        clear c8
        obtain rfl := Option.some.inj H
        go_wp2
        go_ret
        exact ⟨by rfl, by repeat (first | exact Drawn0.refl _ | apply Drawn0.step)⟩
/-! ### jsonparser_decodeSingleUnicodeEscape: function 72 -/
def jsonparser_decodeSingleUnicodeEscape.f (k : Nat) (l0 : List Int) : Option (Int × Bool) := if (l0.length : Int) < 6 then (some (65533, false)) else (if 2 < (l0.length : Int) then ((jsonparser_h2I.f k (rd l0 2)).bind fun t395 => (if 3 < (l0.length : Int) then ((jsonparser_h2I.f k (rd l0 3)).bind fun t397 => (if 4 < (l0.length : Int) then ((jsonparser_h2I.f k (rd l0 4)).bind fun t399 => (if 5 < (l0.length : Int) then ((jsonparser_h2I.f k (rd l0 5)).bind fun t401 => (if t395 = (-1) then (some (65533, false)) else (if t397 = (-1) then (some (65533, false)) else (if t399 = (-1) then (some (65533, false)) else (if t401 = (-1) then (some (65533, false)) else (some (wrap32 (wrap64 ((wrap64 ((wrap64 ((wrap64 (t395 * 4096)) + (wrap64 (t397 * 256)))) + (wrap64 (t399 * 16)))) + t401)), true))))))) else (none))) else (none))) else (none))) else (none))
set_option maxHeartbeats 8000000 in
set_option maxRecDepth 100000 in
theorem jsonparser_decodeSingleUnicodeEscape.calls (k : Nat) (A0 : Option Addr) (c0 : Nat) (l0 : List Int) (r1 : Int) (r2 : Bool) (w : World) (hr0 : Kd.C (Kd.int .u8) w A0 l0.length l0) (hc0 : l0.length ≤ c0) (h : jsonparser_decodeSingleUnicodeEscape.f k l0 = some (r1, r2)) :
  Calls Tryd.prog 72 #[.slice A0 l0.length c0] w fun e w' => e = .returned (.tuple #[.int .i32 r1, .bool r2]) ∧ Drawn0 w w' := by
 have HR0 := aj hr0
 have HC0 := aj hc0
 clear hr0 hc0
 have H : (if (l0.length : Int) < 6 then (some (65533, false)) else (if 2 < (l0.length : Int) then ((jsonparser_h2I.f k (rd l0 2)).bind fun t395 => (if 3 < (l0.length : Int) then ((jsonparser_h2I.f k (rd l0 3)).bind fun t397 => (if 4 < (l0.length : Int) then ((jsonparser_h2I.f k (rd l0 4)).bind fun t399 => (if 5 < (l0.length : Int) then ((jsonparser_h2I.f k (rd l0 5)).bind fun t401 => (if t395 = (-1) then (some (65533, false)) else (if t397 = (-1) then (some (65533, false)) else (if t399 = (-1) then (some (65533, false)) else (if t401 = (-1) then (some (65533, false)) else (some (wrap32 (wrap64 ((wrap64 ((wrap64 ((wrap64 (t395 * 4096)) + (wrap64 (t397 * 256)))) + (wrap64 (t399 * 16)))) + t401)), true))))))) else (none))) else (none))) else (none))) else (none))) = some (r1, r2) := h
 clear h
 by_cases c2 : (l0.length : Int) < 6
 ·rw [if_pos c2] at H
  have c2b0 : decide ((l0.length : Int) < 6) = true := decide_eq_true c2
  have c2b1 : decide (l0.length < 6) = true := decide_eq_true (by omega)
  clear c2
  simp only [Option.some.injEq, Prod.mk.injEq] at H
  obtain ⟨rfl, rfl⟩ := H
  go_enter Tryd.func72, Tryd.ntmps72
  go_wp2
  repeat (go_quiet (fail); try go_wp2)
  go_ret2
  exact ⟨by rfl, by repeat (exact Drawn0.refl _)⟩
 ·rw [if_neg c2] at H
  have c2b0 : decide ((l0.length : Int) < 6) = false := decide_eq_false c2
  have c2b1 : decide (l0.length < 6) = false := decide_eq_false (by omega)
  clear c2
  by_cases c3 : 2 < (l0.length : Int)
  ·rw [if_pos c3] at H
   have c3b0 : decide (2 < (l0.length : Int)) = true := decide_eq_true c3
   have c3b1 : decide (2 < l0.length) = true := decide_eq_true (by omega)
   clear c3
   obtain ⟨t395, A40, H⟩ := Option.bind_eq_some_iff.mp H
   try dsimp only at H
   have A4 := aj A40
   clear A40
   by_cases c5 : 3 < (l0.length : Int)
   ·rw [if_pos c5] at H
    have c5b0 : decide (3 < (l0.length : Int)) = true := decide_eq_true c5
    have c5b1 : decide (3 < l0.length) = true := decide_eq_true (by omega)
    clear c5
    obtain ⟨t397, A60, H⟩ := Option.bind_eq_some_iff.mp H
    try dsimp only at H
    have A6 := aj A60
    clear A60
    by_cases c7 : 4 < (l0.length : Int)
    ·rw [if_pos c7] at H
     have c7b0 : decide (4 < (l0.length : Int)) = true := decide_eq_true c7
     have c7b1 : decide (4 < l0.length) = true := decide_eq_true (by omega)
     clear c7
     obtain ⟨t399, A80, H⟩ := Option.bind_eq_some_iff.mp H
     try dsimp only at H
     have A8 := aj A80
     clear A80
     by_cases c9 : 5 < (l0.length : Int)
     ·rw [if_pos c9] at H
      have c9b0 : decide (5 < (l0.length : Int)) = true := decide_eq_true c9
      have c9b1 : decide (5 < l0.length) = true := decide_eq_true (by omega)
      clear c9
      obtain ⟨t401, A100, H⟩ := Option.bind_eq_some_iff.mp H
      try dsimp only at H
      have A10 := aj A100
      clear A100
      by_cases c11 : t395 = (-1)
      ·rw [if_pos c11] at H
       have c11b0 : (t395 == (-1)) = true := beq_iff_eq.mpr c11
       have c11b1 : (t395 != (-1)) = false := bne_eq_false_iff_eq.mpr c11
       clear c11
       simp only [Option.some.injEq, Prod.mk.injEq] at H
       obtain ⟨rfl, rfl⟩ := H
       have p394 : 0 ≤ (2 : Int) := (by omega)
       have q394 : 2 < (l0.length : Int) := of_decide_eq_true (by (with_reducible assumption))
       obtain ⟨ad394, e394, hx394_0⟩ := Kd.at_int HR0.out 2 p394 q394
       cases e394
       (try simp only [show (2 : Int).toNat = 2 from rfl, Nat.reduceMul, Nat.reduceEqDiff, Go.Addr.add, ↓reduceIte] at hx394_0)
       have qi394 : (2 < l0.length) = True := eq_true (by omega)
       (try rw [show ((2 : Int)).toNat = 2 from rfl] at hx394_0)
       replace p394 := eq_true p394
       replace q394 := eq_true q394
       go_enter Tryd.func72, Tryd.ntmps72
       go_wp2_with (fail)
       repeat (go_quiet (first | (go_at_call 81; (with_reducible refine (jsonparser_h2I.calls k (rd l0 2) t395 _ A4.out).mono ?_); rintro e w' ⟨rfl, ⟨nd, rfl⟩⟩; (try exact ⟨rfl, _, World.drewN_drewN _ _ _⟩); have p396 : 0 ≤ (3 : Int) := (by omega); have q396 : 3 < (l0.length : Int) := of_decide_eq_true (by (with_reducible assumption)); obtain ⟨ad396, e396, hx396_0⟩ := Kd.at_int HR0.out 3 p396 q396; obtain rfl : ad394 = ad396 := (by injection e396); (try simp only [show (3 : Int).toNat = 3 from rfl, Nat.reduceMul, Nat.reduceEqDiff, Go.Addr.add, ↓reduceIte] at hx396_0); have qi396 : (3 < l0.length) = True := eq_true (by omega); (try rw [show ((3 : Int)).toNat = 3 from rfl] at hx396_0); replace p396 := eq_true p396; replace q396 := eq_true q396) | (go_at_call 81; (with_reducible refine (jsonparser_h2I.calls k (rd l0 3) t397 _ A6.out).mono ?_); rintro e w' ⟨rfl, ⟨nd, rfl⟩⟩; (try exact ⟨rfl, _, World.drewN_drewN _ _ _⟩); have p398 : 0 ≤ (4 : Int) := (by omega); have q398 : 4 < (l0.length : Int) := of_decide_eq_true (by (with_reducible assumption)); obtain ⟨ad398, e398, hx398_0⟩ := Kd.at_int HR0.out 4 p398 q398; obtain rfl : ad394 = ad398 := (by injection e398); (try simp only [show (4 : Int).toNat = 4 from rfl, Nat.reduceMul, Nat.reduceEqDiff, Go.Addr.add, ↓reduceIte] at hx398_0); have qi398 : (4 < l0.length) = True := eq_true (by omega); (try rw [show ((4 : Int)).toNat = 4 from rfl] at hx398_0); replace p398 := eq_true p398; replace q398 := eq_true q398) | (go_at_call 81; (with_reducible refine (jsonparser_h2I.calls k (rd l0 4) t399 _ A8.out).mono ?_); rintro e w' ⟨rfl, ⟨nd, rfl⟩⟩; (try exact ⟨rfl, _, World.drewN_drewN _ _ _⟩); have p400 : 0 ≤ (5 : Int) := (by omega); have q400 : 5 < (l0.length : Int) := of_decide_eq_true (by (with_reducible assumption)); obtain ⟨ad400, e400, hx400_0⟩ := Kd.at_int HR0.out 5 p400 q400; obtain rfl : ad394 = ad400 := (by injection e400); (try simp only [show (5 : Int).toNat = 5 from rfl, Nat.reduceMul, Nat.reduceEqDiff, Go.Addr.add, ↓reduceIte] at hx400_0); have qi400 : (5 < l0.length) = True := eq_true (by omega); (try rw [show ((5 : Int)).toNat = 5 from rfl] at hx400_0); replace p400 := eq_true p400; replace q400 := eq_true q400) | (go_at_call 81; (with_reducible refine (jsonparser_h2I.calls k (rd l0 5) t401 _ A10.out).mono ?_); rintro e w' ⟨rfl, ⟨nd, rfl⟩⟩; (try exact ⟨rfl, _, World.drewN_drewN _ _ _⟩))); try go_wp2_with (fail))
       go_ret2
       exact ⟨by rfl, by repeat (first | exact Drawn0.refl _ | apply Drawn0.step)⟩
      ·rw [if_neg c11] at H
       have c11b0 : (t395 == (-1)) = false := beq_eq_false_iff_ne.mpr c11
       have c11b1 : (t395 != (-1)) = true := bne_iff_ne.mpr c11
       by_cases c12 : t397 = (-1)
       ·rw [if_pos c12] at H
        have c12b0 : (t397 == (-1)) = true := beq_iff_eq.mpr c12
        have c12b1 : (t397 != (-1)) = false := bne_eq_false_iff_eq.mpr c12
        clear c12
        simp only [Option.some.injEq, Prod.mk.injEq] at H
        obtain ⟨rfl, rfl⟩ := H
        have p394 : 0 ≤ (2 : Int) := (by omega)
        have q394 : 2 < (l0.length : Int) := of_decide_eq_true (by (with_reducible assumption))
        obtain ⟨ad394, e394, hx394_0⟩ := Kd.at_int HR0.out 2 p394 q394
        cases e394
        (try simp only [show (2 : Int).toNat = 2 from rfl, Nat.reduceMul, Nat.reduceEqDiff, Go.Addr.add, ↓reduceIte] at hx394_0)
        have qi394 : (2 < l0.length) = True := eq_true (by omega)
        (try rw [show ((2 : Int)).toNat = 2 from rfl] at hx394_0)
        replace p394 := eq_true p394
        replace q394 := eq_true q394
        go_enter Tryd.func72, Tryd.ntmps72
        go_wp2_with (fail)
        repeat (go_quiet (first | (go_at_call 81; (with_reducible refine (jsonparser_h2I.calls k (rd l0 2) t395 _ A4.out).mono ?_); rintro e w' ⟨rfl, ⟨nd, rfl⟩⟩; (try exact ⟨rfl, _, World.drewN_drewN _ _ _⟩); have p396 : 0 ≤ (3 : Int) := (by omega); have q396 : 3 < (l0.length : Int) := of_decide_eq_true (by (with_reducible assumption)); obtain ⟨ad396, e396, hx396_0⟩ := Kd.at_int HR0.out 3 p396 q396; obtain rfl : ad394 = ad396 := (by injection e396); (try simp only [show (3 : Int).toNat = 3 from rfl, Nat.reduceMul, Nat.reduceEqDiff, Go.Addr.add, ↓reduceIte] at hx396_0); have qi396 : (3 < l0.length) = True := eq_true (by omega); (try rw [show ((3 : Int)).toNat = 3 from rfl] at hx396_0); replace p396 := eq_true p396; replace q396 := eq_true q396) | (go_at_call 81; (with_reducible refine (jsonparser_h2I.calls k (rd l0 3) t397 _ A6.out).mono ?_); rintro e w' ⟨rfl, ⟨nd, rfl⟩⟩; (try exact ⟨rfl, _, World.drewN_drewN _ _ _⟩); have p398 : 0 ≤ (4 : Int) := (by omega); have q398 : 4 < (l0.length : Int) := of_decide_eq_true (by (with_reducible assumption)); obtain ⟨ad398, e398, hx398_0⟩ := Kd.at_int HR0.out 4 p398 q398; obtain rfl : ad394 = ad398 := (by injection e398); (try simp only [show (4 : Int).toNat = 4 from rfl, Nat.reduceMul, Nat.reduceEqDiff, Go.Addr.add, ↓reduceIte] at hx398_0); have qi398 : (4 < l0.length) = True := eq_true (by omega); (try rw [show ((4 : Int)).toNat = 4 from rfl] at hx398_0); replace p398 := eq_true p398; replace q398 := eq_true q398) | (go_at_call 81; (with_reducible refine (jsonparser_h2I.calls k (rd l0 4) t399 _ A8.out).mono ?_); rintro e w' ⟨rfl, ⟨nd, rfl⟩⟩; (try exact ⟨rfl, _, World.drewN_drewN _ _ _⟩); have p400 : 0 ≤ (5 : Int) := (by omega); have q400 : 5 < (l0.length : Int) := of_decide_eq_true (by (with_reducible assumption)); obtain ⟨ad400, e400, hx400_0⟩ := Kd.at_int HR0.out 5 p400 q400; obtain rfl : ad394 = ad400 := (by injection e400); (try simp only [show (5 : Int).toNat = 5 from rfl, Nat.reduceMul, Nat.reduceEqDiff, Go.Addr.add, ↓reduceIte] at hx400_0); have qi400 : (5 < l0.length) = True := eq_true (by omega); (try rw [show ((5 : Int)).toNat = 5 from rfl] at hx400_0); replace p400 := eq_true p400; replace q400 := eq_true q400) | (go_at_call 81; (with_reducible refine (jsonparser_h2I.calls k (rd l0 5) t401 _ A10.out).mono ?_); rintro e w' ⟨rfl, ⟨nd, rfl⟩⟩; (try exact ⟨rfl, _, World.drewN_drewN _ _ _⟩))); try go_wp2_with (fail))
        go_ret2
        exact ⟨by rfl, by repeat (first | exact Drawn0.refl _ | apply Drawn0.step)⟩
       ·rw [if_neg c12] at H
        have c12b0 : (t397 == (-1)) = false := beq_eq_false_iff_ne.mpr c12
        have c12b1 : (t397 != (-1)) = true := bne_iff_ne.mpr c12
        by_cases c13 : t399 = (-1)
        ·rw [if_pos c13] at H
         have c13b0 : (t399 == (-1)) = true := beq_iff_eq.mpr c13
         have c13b1 : (t399 != (-1)) = false := bne_eq_false_iff_eq.mpr c13
         clear c13
         simp only [Option.some.injEq, Prod.mk.injEq] at H
         obtain ⟨rfl, rfl⟩ := H
         have p394 : 0 ≤ (2 : Int) := (by omega)
         have q394 : 2 < (l0.length : Int) := of_decide_eq_true (by (with_reducible assumption))
         obtain ⟨ad394, e394, hx394_0⟩ := Kd.at_int HR0.out 2 p394 q394
         cases e394
         (try simp only [show (2 : Int).toNat = 2 from rfl, Nat.reduceMul, Nat.reduceEqDiff, Go.Addr.add, ↓reduceIte] at hx394_0)
         have qi394 : (2 < l0.length) = True := eq_true (by omega)
         (try rw [show ((2 : Int)).toNat = 2 from rfl] at hx394_0)
         replace p394 := eq_true p394
         replace q394 := eq_true q394
         go_enter Tryd.func72, Tryd.ntmps72
         go_wp2_with (fail)
         repeat (go_quiet (first | (go_at_call 81; (with_reducible refine (jsonparser_h2I.calls k (rd l0 2) t395 _ A4.out).mono ?_); rintro e w' ⟨rfl, ⟨nd, rfl⟩⟩; (try exact ⟨rfl, _, World.drewN_drewN _ _ _⟩); have p396 : 0 ≤ (3 : Int) := (by omega); have q396 : 3 < (l0.length : Int) := of_decide_eq_true (by (with_reducible assumption)); obtain ⟨ad396, e396, hx396_0⟩ := Kd.at_int HR0.out 3 p396 q396; obtain rfl : ad394 = ad396 := (by injection e396); (try simp only [show (3 : Int).toNat = 3 from rfl, Nat.reduceMul, Nat.reduceEqDiff, Go.Addr.add, ↓reduceIte] at hx396_0); have qi396 : (3 < l0.length) = True := eq_true (by omega); (try rw [show ((3 : Int)).toNat = 3 from rfl] at hx396_0); replace p396 := eq_true p396; replace q396 := eq_true q396) | (go_at_call 81; (with_reducible refine (jsonparser_h2I.calls k (rd l0 3) t397 _ A6.out).mono ?_); rintro e w' ⟨rfl, ⟨nd, rfl⟩⟩; (try exact ⟨rfl, _, World.drewN_drewN _ _ _⟩); have p398 : 0 ≤ (4 : Int) := (by omega); have q398 : 4 < (l0.length : Int) := of_decide_eq_true (by (with_reducible assumption)); obtain ⟨ad398, e398, hx398_0⟩ := Kd.at_int HR0.out 4 p398 q398; obtain rfl : ad394 = ad398 := (by injection e398); (try simp only [show (4 : Int).toNat = 4 from rfl, Nat.reduceMul, Nat.reduceEqDiff, Go.Addr.add, ↓reduceIte] at hx398_0); have qi398 : (4 < l0.length) = True := eq_true (by omega); (try rw [show ((4 : Int)).toNat = 4 from rfl] at hx398_0); replace p398 := eq_true p398; replace q398 := eq_true q398) | (go_at_call 81; (with_reducible refine (jsonparser_h2I.calls k (rd l0 4) t399 _ A8.out).mono ?_); rintro e w' ⟨rfl, ⟨nd, rfl⟩⟩; (try exact ⟨rfl, _, World.drewN_drewN _ _ _⟩); have p400 : 0 ≤ (5 : Int) := (by omega); have q400 : 5 < (l0.length : Int) := of_decide_eq_true (by (with_reducible assumption)); obtain ⟨ad400, e400, hx400_0⟩ := Kd.at_int HR0.out 5 p400 q400; obtain rfl : ad394 = ad400 := (by injection e400); (try simp only [show (5 : Int).toNat = 5 from rfl, Nat.reduceMul, Nat.reduceEqDiff, Go.Addr.add, ↓reduceIte] at hx400_0); have qi400 : (5 < l0.length) = True := eq_true (by omega); (try rw [show ((5 : Int)).toNat = 5 from rfl] at hx400_0); replace p400 := eq_true p400; replace q400 := eq_true q400) | (go_at_call 81; (with_reducible refine (jsonparser_h2I.calls k (rd l0 5) t401 _ A10.out).mono ?_); rintro e w' ⟨rfl, ⟨nd, rfl⟩⟩; (try exact ⟨rfl, _, World.drewN_drewN _ _ _⟩))); try go_wp2_with (fail))
         go_ret2
         exact ⟨by rfl, by repeat (first | exact Drawn0.refl _ | apply Drawn0.step)⟩
        ·rw [if_neg c13] at H
         have c13b0 : (t399 == (-1)) = false := beq_eq_false_iff_ne.mpr c13
         have c13b1 : (t399 != (-1)) = true := bne_iff_ne.mpr c13
         by_cases c14 : t401 = (-1)
         ·rw [if_pos c14] at H
          have c14b0 : (t401 == (-1)) = true := beq_iff_eq.mpr c14
          have c14b1 : (t401 != (-1)) = false := bne_eq_false_iff_eq.mpr c14
          clear c14
          simp only [Option.some.injEq, Prod.mk.injEq] at H
          obtain ⟨rfl, rfl⟩ := H
          have p394 : 0 ≤ (2 : Int) := (by omega)
          have q394 : 2 < (l0.length : Int) := of_decide_eq_true (by (with_reducible assumption))
          obtain ⟨ad394, e394, hx394_0⟩ := Kd.at_int HR0.out 2 p394 q394
          cases e394
          (try simp only [show (2 : Int).toNat = 2 from rfl, Nat.reduceMul, Nat.reduceEqDiff, Go.Addr.add, ↓reduceIte] at hx394_0)
          have qi394 : (2 < l0.length) = True := eq_true (by omega)
          (try rw [show ((2 : Int)).toNat = 2 from rfl] at hx394_0)
          replace p394 := eq_true p394
          replace q394 := eq_true q394
          go_enter Tryd.func72, Tryd.ntmps72
          go_wp2_with (fail)
          repeat (go_quiet (first | (go_at_call 81; (with_reducible refine (jsonparser_h2I.calls k (rd l0 2) t395 _ A4.out).mono ?_); rintro e w' ⟨rfl, ⟨nd, rfl⟩⟩; (try exact ⟨rfl, _, World.drewN_drewN _ _ _⟩); have p396 : 0 ≤ (3 : Int) := (by omega); have q396 : 3 < (l0.length : Int) := of_decide_eq_true (by (with_reducible assumption)); obtain ⟨ad396, e396, hx396_0⟩ := Kd.at_int HR0.out 3 p396 q396; obtain rfl : ad394 = ad396 := (by injection e396); (try simp only [show (3 : Int).toNat = 3 from rfl, Nat.reduceMul, Nat.reduceEqDiff, Go.Addr.add, ↓reduceIte] at hx396_0); have qi396 : (3 < l0.length) = True := eq_true (by omega); (try rw [show ((3 : Int)).toNat = 3 from rfl] at hx396_0); replace p396 := eq_true p396; replace q396 := eq_true q396) | (go_at_call 81; (with_reducible refine (jsonparser_h2I.calls k (rd l0 3) t397 _ A6.out).mono ?_); rintro e w' ⟨rfl, ⟨nd, rfl⟩⟩; (try exact ⟨rfl, _, World.drewN_drewN _ _ _⟩); have p398 : 0 ≤ (4 : Int) := (by omega); have q398 : 4 < (l0.length : Int) := of_decide_eq_true (by (with_reducible assumption)); obtain ⟨ad398, e398, hx398_0⟩ := Kd.at_int HR0.out 4 p398 q398; obtain rfl : ad394 = ad398 := (by injection e398); (try simp only [show (4 : Int).toNat = 4 from rfl, Nat.reduceMul, Nat.reduceEqDiff, Go.Addr.add, ↓reduceIte] at hx398_0); have qi398 : (4 < l0.length) = True := eq_true (by omega); (try rw [show ((4 : Int)).toNat = 4 from rfl] at hx398_0); replace p398 := eq_true p398; replace q398 := eq_true q398) | (go_at_call 81; (with_reducible refine (jsonparser_h2I.calls k (rd l0 4) t399 _ A8.out).mono ?_); rintro e w' ⟨rfl, ⟨nd, rfl⟩⟩; (try exact ⟨rfl, _, World.drewN_drewN _ _ _⟩); have p400 : 0 ≤ (5 : Int) := (by omega); have q400 : 5 < (l0.length : Int) := of_decide_eq_true (by (with_reducible assumption)); obtain ⟨ad400, e400, hx400_0⟩ := Kd.at_int HR0.out 5 p400 q400; obtain rfl : ad394 = ad400 := (by injection e400); (try simp only [show (5 : Int).toNat = 5 from rfl, Nat.reduceMul, Nat.reduceEqDiff, Go.Addr.add, ↓reduceIte] at hx400_0); have qi400 : (5 < l0.length) = True := eq_true (by omega); (try rw [show ((5 : Int)).toNat = 5 from rfl] at hx400_0); replace p400 := eq_true p400; replace q400 := eq_true q400) | (go_at_call 81; (with_reducible refine (jsonparser_h2I.calls k (rd l0 5) t401 _ A10.out).mono ?_); rintro e w' ⟨rfl, ⟨nd, rfl⟩⟩; (try exact ⟨rfl, _, World.drewN_drewN _ _ _⟩))); try go_wp2_with (fail))
          go_ret2
          exact ⟨by rfl, by repeat (first | exact Drawn0.refl _ | apply Drawn0.step)⟩
         ·rw [if_neg c14] at H
          have c14b0 : (t401 == (-1)) = false := beq_eq_false_iff_ne.mpr c14
          have c14b1 : (t401 != (-1)) = true := bne_iff_ne.mpr c14
          simp only [Option.some.injEq, Prod.mk.injEq] at H
          obtain ⟨rfl, rfl⟩ := H
          have p394 : 0 ≤ (2 : Int) := (by omega)
          have q394 : 2 < (l0.length : Int) := of_decide_eq_true (by (with_reducible assumption))
          obtain ⟨ad394, e394, hx394_0⟩ := Kd.at_int HR0.out 2 p394 q394
          cases e394
          (try simp only [show (2 : Int).toNat = 2 from rfl, Nat.reduceMul, Nat.reduceEqDiff, Go.Addr.add, ↓reduceIte] at hx394_0)
          have qi394 : (2 < l0.length) = True := eq_true (by omega)
          (try rw [show ((2 : Int)).toNat = 2 from rfl] at hx394_0)
          replace p394 := eq_true p394
          replace q394 := eq_true q394
          go_enter Tryd.func72, Tryd.ntmps72
          go_wp2_with (fail)
          repeat (go_quiet (first | (go_at_call 81; (with_reducible refine (jsonparser_h2I.calls k (rd l0 2) t395 _ A4.out).mono ?_); rintro e w' ⟨rfl, ⟨nd, rfl⟩⟩; (try exact ⟨rfl, _, World.drewN_drewN _ _ _⟩); have p396 : 0 ≤ (3 : Int) := (by omega); have q396 : 3 < (l0.length : Int) := of_decide_eq_true (by (with_reducible assumption)); obtain ⟨ad396, e396, hx396_0⟩ := Kd.at_int HR0.out 3 p396 q396; obtain rfl : ad394 = ad396 := (by injection e396); (try simp only [show (3 : Int).toNat = 3 from rfl, Nat.reduceMul, Nat.reduceEqDiff, Go.Addr.add, ↓reduceIte] at hx396_0); have qi396 : (3 < l0.length) = True := eq_true (by omega); (try rw [show ((3 : Int)).toNat = 3 from rfl] at hx396_0); replace p396 := eq_true p396; replace q396 := eq_true q396) | (go_at_call 81; (with_reducible refine (jsonparser_h2I.calls k (rd l0 3) t397 _ A6.out).mono ?_); rintro e w' ⟨rfl, ⟨nd, rfl⟩⟩; (try exact ⟨rfl, _, World.drewN_drewN _ _ _⟩); have p398 : 0 ≤ (4 : Int) := (by omega); have q398 : 4 < (l0.length : Int) := of_decide_eq_true (by (with_reducible assumption)); obtain ⟨ad398, e398, hx398_0⟩ := Kd.at_int HR0.out 4 p398 q398; obtain rfl : ad394 = ad398 := (by injection e398); (try simp only [show (4 : Int).toNat = 4 from rfl, Nat.reduceMul, Nat.reduceEqDiff, Go.Addr.add, ↓reduceIte] at hx398_0); have qi398 : (4 < l0.length) = True := eq_true (by omega); (try rw [show ((4 : Int)).toNat = 4 from rfl] at hx398_0); replace p398 := eq_true p398; replace q398 := eq_true q398) | (go_at_call 81; (with_reducible refine (jsonparser_h2I.calls k (rd l0 4) t399 _ A8.out).mono ?_); rintro e w' ⟨rfl, ⟨nd, rfl⟩⟩; (try exact ⟨rfl, _, World.drewN_drewN _ _ _⟩); have p400 : 0 ≤ (5 : Int) := (by omega); have q400 : 5 < (l0.length : Int) := of_decide_eq_true (by (with_reducible assumption)); obtain ⟨ad400, e400, hx400_0⟩ := Kd.at_int HR0.out 5 p400 q400; obtain rfl : ad394 = ad400 := (by injection e400); (try simp only [show (5 : Int).toNat = 5 from rfl, Nat.reduceMul, Nat.reduceEqDiff, Go.Addr.add, ↓reduceIte] at hx400_0); have qi400 : (5 < l0.length) = True := eq_true (by omega); (try rw [show ((5 : Int)).toNat = 5 from rfl] at hx400_0); replace p400 := eq_true p400; replace q400 := eq_true q400) | (go_at_call 81; (with_reducible refine (jsonparser_h2I.calls k (rd l0 5) t401 _ A10.out).mono ?_); rintro e w' ⟨rfl, ⟨nd, rfl⟩⟩; (try exact ⟨rfl, _, World.drewN_drewN _ _ _⟩))); try go_wp2_with (fail))
          go_ret2
          exact ⟨by rfl, by repeat (first | exact Drawn0.refl _ | apply Drawn0.step)⟩
     ·rw [if_neg c9] at H
      exact absurd H (by simp)
    ·rw [if_neg c7] at H
     exact absurd H (by simp)
   ·rw [if_neg c5] at H
    exact absurd H (by simp)
  ·rw [if_neg c3] at H
   exact absurd H (by simp)
/-! ### jsonparser_isUTF16EncodedRune: function 73 -/
def jsonparser_isUTF16EncodedRune.f (a0 : Int) : Option (Bool) := if 55296 ≤ a0 then (some (decide (a0 ≤ 57343))) else (some false)
set_option maxHeartbeats 8000000 in
set_option maxRecDepth 100000 in
theorem jsonparser_isUTF16EncodedRune.calls (a0 : Int) (r : Bool) (w : World) (h : jsonparser_isUTF16EncodedRune.f a0 = some r) :
  Calls Tryd.prog 73 #[.int .i32 a0] w fun e w' => e = .returned (.bool r) ∧ Drawn0 w w' := by
 have H : (if 55296 ≤ a0 then (some (decide (a0 ≤ 57343))) else (some false)) = some r := h
 clear h
 by_cases c2 : 55296 ≤ a0
 ·rw [if_pos c2] at H
  have c2b0 : decide (55296 ≤ a0) = true := decide_eq_true c2
  clear c2
  obtain rfl := Option.some.inj H
  go_enter Tryd.func73, Tryd.ntmps73
  go_wp2
  go_ret
  exact ⟨by rfl, by repeat (exact Drawn0.refl _)⟩
 ·rw [if_neg c2] at H
  have c2b0 : decide (55296 ≤ a0) = false := decide_eq_false c2
  clear c2
  obtain rfl := Option.some.inj H
  go_enter Tryd.func73, Tryd.ntmps73
  go_wp2
  go_ret
  exact ⟨by rfl, by repeat (exact Drawn0.refl _)⟩
/-! ### jsonparser_combineUTF16Surrogates: function 74 -/
def jsonparser_combineUTF16Surrogates.f (a0 : Int) (a1 : Int) : Option (Int) := some (wrap32 ((wrap32 (65536 + (wrap32 ((wrap32 (a0 - 55296)) * 1024)))) + (wrap32 (a1 - 56320))))
set_option maxHeartbeats 8000000 in
set_option maxRecDepth 100000 in
theorem jsonparser_combineUTF16Surrogates.calls (a0 : Int) (a1 : Int) (r : Int) (w : World) (h : jsonparser_combineUTF16Surrogates.f a0 a1 = some r) :
  Calls Tryd.prog 74 #[.int .i32 a0, .int .i32 a1] w fun e w' => e = .returned (.int .i32 r) ∧ Drawn0 w w' := by
 have H : (some (wrap32 ((wrap32 (65536 + (wrap32 ((wrap32 (a0 - 55296)) * 1024)))) + (wrap32 (a1 - 56320))))) = some r := h
 clear h
 obtain rfl := Option.some.inj H
 go_enter Tryd.func74, Tryd.ntmps74
 go_wp2
 go_ret
 exact ⟨by rfl, by repeat (exact Drawn0.refl _)⟩
/-! ### jsonparser_decodeUnicodeEscape: function 63 -/
def jsonparser_decodeUnicodeEscape.j0 : Nat → List Int → Int → Bool → Option (Int × Int)
 | 0, _, _, _ => none
 | k + 1, x0, x4, x35 => if x35 = true then (some (65533, 6)) else (if 6 ≤ (x0.length : Int) then ((jsonparser_decodeSingleUnicodeEscape.f k (x0.drop 6)).bind fun bt408 => (if bt408.2 = true then (if bt408.1 < 56320 then (some (65533, 6)) else (if bt408.1 > 57343 then (some (65533, 6)) else ((jsonparser_combineUTF16Surrogates.f x4 bt408.1).bind fun t410 => (some (t410, 12))))) else (some (65533, (-1))))) else (none))
def jsonparser_decodeUnicodeEscape.f (k : Nat) (l0 : List Int) : Option (Int × Int) := (jsonparser_decodeSingleUnicodeEscape.f k l0).bind fun bt402 => (if bt402.2 = true then ((jsonparser_isUTF16EncodedRune.f bt402.1).bind fun t404 => (if t404 = true then (if bt402.1 ≥ 56320 then (some (65533, 6)) else (if (l0.length : Int) < 8 then (jsonparser_decodeUnicodeEscape.j0 k l0 bt402.1 true) else (if 6 < (l0.length : Int) then (if (rd l0 6) = 92 then (if 7 < (l0.length : Int) then (jsonparser_decodeUnicodeEscape.j0 k l0 bt402.1 ((rd l0 7) != 117)) else (none)) else (jsonparser_decodeUnicodeEscape.j0 k l0 bt402.1 true)) else (none)))) else (some (bt402.1, 6)))) else (some (65533, (-1))))
set_option maxHeartbeats 8000000 in
set_option maxRecDepth 100000 in
theorem jsonparser_decodeUnicodeEscape.calls (k : Nat) (A0 : Option Addr) (c0 : Nat) (l0 : List Int) (r1 : Int) (r2 : Int) (w : World) (hr0 : Kd.C (Kd.int .u8) w A0 l0.length l0) (hc0 : l0.length ≤ c0) (h : jsonparser_decodeUnicodeEscape.f k l0 = some (r1, r2)) :
  Calls Tryd.prog 63 #[.slice A0 l0.length c0] w fun e w' => e = .returned (.tuple #[.int .i32 r1, .int .i64 r2]) ∧ Drawn0 w w' := by
 have HR0 := aj hr0
 have HC0 := aj hc0
 clear hr0 hc0
 have H : ((jsonparser_decodeSingleUnicodeEscape.f k l0).bind fun bt402 => (if bt402.2 = true then ((jsonparser_isUTF16EncodedRune.f bt402.1).bind fun t404 => (if t404 = true then (if bt402.1 ≥ 56320 then (some (65533, 6)) else (if (l0.length : Int) < 8 then (jsonparser_decodeUnicodeEscape.j0 k l0 bt402.1 true) else (if 6 < (l0.length : Int) then (if (rd l0 6) = 92 then (if 7 < (l0.length : Int) then (jsonparser_decodeUnicodeEscape.j0 k l0 bt402.1 ((rd l0 7) != 117)) else (none)) else (jsonparser_decodeUnicodeEscape.j0 k l0 bt402.1 true)) else (none)))) else (some (bt402.1, 6)))) else (some (65533, (-1))))) = some (r1, r2) := h
 clear h
 obtain ⟨⟨t402, t403⟩, A20, H⟩ := Option.bind_eq_some_iff.mp H
 try dsimp only at H
 have A2 := aj A20
 clear A20
 by_cases c3 : t403 = true
 ·subst c3
  rw [if_pos rfl] at H
  obtain ⟨t404, A40, H⟩ := Option.bind_eq_some_iff.mp H
  try dsimp only at H
  have A4 := aj A40
  clear A40
  by_cases c5 : t404 = true
  ·subst c5
   rw [if_pos rfl] at H
   by_cases c6 : t402 ≥ 56320
   ·rw [if_pos c6] at H
    have c6b0 : decide (56320 ≤ t402) = true := decide_eq_true c6
    clear c6
    simp only [Option.some.injEq, Prod.mk.injEq] at H
    obtain ⟨rfl, rfl⟩ := H
    go_enter Tryd.func63, Tryd.ntmps63
    go_wp2_with (first | ((with_reducible refine gate_callee (f := 72) rfl ?_); refine goesL_ (some 10) rfl rfl Tryd.func72 (by kernel_rfl) rfl #[.slice A0 l0.length c0] rfl (by (try simp only [List.map_toArray, List.map_cons, List.map_nil]); rfl) ?_; (with_reducible refine (jsonparser_decodeSingleUnicodeEscape.calls k _ _ l0 t402 true _ ?side1 ?side2 A2.out).mono ?_); (case side1 => exact HR0.out); (case side2 => exact HC0.out); rintro e w' ⟨rfl, ⟨nd, rfl⟩⟩; refine ⟨_, rfl, ?_⟩) | ((with_reducible refine gate_callee (f := 73) rfl ?_); refine goesL_ (some 16) rfl rfl Tryd.func73 (by kernel_rfl) rfl #[.int .i32 t402] rfl (by (try simp only [List.map_toArray, List.map_cons, List.map_nil]); rfl) ?_; (with_reducible refine (jsonparser_isUTF16EncodedRune.calls t402 true _ A4.out).mono ?_); rintro e w' ⟨rfl, ⟨nd, rfl⟩⟩; refine ⟨_, rfl, ?_⟩))
    go_ret2
    exact ⟨by rfl, by repeat (first | exact Drawn0.refl _ | apply Drawn0.step)⟩
   ·rw [if_neg c6] at H
    have c6b0 : decide (56320 ≤ t402) = false := decide_eq_false c6
    clear c6
    have HC7 := aj H
    clear H
    go_enter Tryd.func63, Tryd.ntmps63
    go_upto_region 8 with (first | ((with_reducible refine gate_callee (f := 72) rfl ?_); refine goesL_ (some 10) rfl rfl Tryd.func72 (by kernel_rfl) rfl #[.slice A0 l0.length c0] rfl (by (try simp only [List.map_toArray, List.map_cons, List.map_nil]); rfl) ?_; (with_reducible refine (jsonparser_decodeSingleUnicodeEscape.calls k _ _ l0 t402 true _ ?side1 ?side2 A2.out).mono ?_); (case side1 => exact HR0.out); (case side2 => exact HC0.out); rintro e w' ⟨rfl, ⟨nd, rfl⟩⟩; refine ⟨_, rfl, ?_⟩) | ((with_reducible refine gate_callee (f := 73) rfl ?_); refine goesL_ (some 16) rfl rfl Tryd.func73 (by kernel_rfl) rfl #[.int .i32 t402] rfl (by (try simp only [List.map_toArray, List.map_cons, List.map_nil]); rfl) ?_; (with_reducible refine (jsonparser_isUTF16EncodedRune.calls t402 true _ A4.out).mono ?_); rintro e w' ⟨rfl, ⟨nd, rfl⟩⟩; refine ⟨_, rfl, ?_⟩))
    (try simp only [Act.put, List.setIfInBounds_toArray, List.set_cons_zero, List.set_cons_succ])
    go_cut [35] (fun v35 wc => ∃ (kq : Nat) (x35_6 : Bool), v35 = .bool x35_6 ∧ Aside0 (jsonparser_decodeUnicodeEscape.j0 kq l0 t402 x35_6 = some (r1, r2)) ∧ Aside0 (kq ≤ k) ∧ Drawn0 w wc)
    case first =>
     have H := HC7.out
     clear HC7
     by_cases c8 : (l0.length : Int) < 8
     ·rw [if_pos c8] at H
      have c8b0 : decide ((l0.length : Int) < 8) = true := decide_eq_true c8
      have c8b1 : decide (l0.length < 8) = true := decide_eq_true (by omega)
      clear c8
      have H' := aj H
      clear H
      go_wp2
      go_meet
      case rel => exact ⟨_, (true), (by rfl), H', ⟨by omega⟩, by repeat (first | exact Drawn0.refl _ | apply Drawn0.step)⟩
     ·rw [if_neg c8] at H
      have c8b0 : decide ((l0.length : Int) < 8) = false := decide_eq_false c8
      have c8b1 : decide (l0.length < 8) = false := decide_eq_false (by omega)
      clear c8
      by_cases c9 : 6 < (l0.length : Int)
      ·rw [if_pos c9] at H
       have c9b0 : decide (6 < (l0.length : Int)) = true := decide_eq_true c9
       have c9b1 : decide (6 < l0.length) = true := decide_eq_true (by omega)
       clear c9
       by_cases c10 : (rd l0 6) = 92
       ·rw [if_pos c10] at H
        have c10b0 : ((rd l0 6) == 92) = true := beq_iff_eq.mpr c10
        have c10b1 : ((rd l0 6) != 92) = false := bne_eq_false_iff_eq.mpr c10
        clear c10
        by_cases c11 : 7 < (l0.length : Int)
        ·rw [if_pos c11] at H
         have c11b0 : decide (7 < (l0.length : Int)) = true := decide_eq_true c11
         have c11b1 : decide (7 < l0.length) = true := decide_eq_true (by omega)
         clear c11
         have H' := aj H
         clear H
         have p405 : 0 ≤ (6 : Int) := (by omega)
         have q405 : 6 < (l0.length : Int) := of_decide_eq_true (by (with_reducible assumption))
         obtain ⟨ad405, e405, hx405_0⟩ := Kd.at_int HR0.out 6 p405 q405
         cases e405
         (try simp only [show (6 : Int).toNat = 6 from rfl, Nat.reduceMul, Nat.reduceEqDiff, Go.Addr.add, ↓reduceIte] at hx405_0)
         have qi405 : (6 < l0.length) = True := eq_true (by omega)
         (try rw [show ((6 : Int)).toNat = 6 from rfl] at hx405_0)
         replace p405 := eq_true p405
         replace q405 := eq_true q405
         have p406 : 0 ≤ (7 : Int) := (by omega)
         have q406 : 7 < (l0.length : Int) := of_decide_eq_true (by (with_reducible assumption))
         obtain ⟨ad406, e406, hx406_0⟩ := Kd.at_int HR0.out 7 p406 q406
         obtain rfl : ad405 = ad406 := (by injection e406)
         (try simp only [show (7 : Int).toNat = 7 from rfl, Nat.reduceMul, Nat.reduceEqDiff, Go.Addr.add, ↓reduceIte] at hx406_0)
         have qi406 : (7 < l0.length) = True := eq_true (by omega)
         (try rw [show ((7 : Int)).toNat = 7 from rfl] at hx406_0)
         replace p406 := eq_true p406
         replace q406 := eq_true q406
         go_wp2
         go_meet
         case rel => exact ⟨_, (((rd l0 7) != 117)), (by rfl), H', ⟨by omega⟩, by repeat (first | exact Drawn0.refl _ | apply Drawn0.step)⟩
        ·rw [if_neg c11] at H
         exact absurd H (by simp)
       ·rw [if_neg c10] at H
        have c10b0 : ((rd l0 6) == 92) = false := beq_eq_false_iff_ne.mpr c10
        have c10b1 : ((rd l0 6) != 92) = true := bne_iff_ne.mpr c10
        have H' := aj H
        clear H
        have p405 : 0 ≤ (6 : Int) := (by omega)
        have q405 : 6 < (l0.length : Int) := of_decide_eq_true (by (with_reducible assumption))
        obtain ⟨ad405, e405, hx405_0⟩ := Kd.at_int HR0.out 6 p405 q405
        cases e405
        (try simp only [show (6 : Int).toNat = 6 from rfl, Nat.reduceMul, Nat.reduceEqDiff, Go.Addr.add, ↓reduceIte] at hx405_0)
        have qi405 : (6 < l0.length) = True := eq_true (by omega)
        (try rw [show ((6 : Int)).toNat = 6 from rfl] at hx405_0)
        replace p405 := eq_true p405
        replace q405 := eq_true q405
        go_wp2
        go_meet
        case rel => exact ⟨_, (true), (by rfl), H', ⟨by omega⟩, by repeat (first | exact Drawn0.refl _ | apply Drawn0.step)⟩
      ·rw [if_neg c9] at H
       exact absurd H (by simp)
    case rest =>
     clear HC7 c6b0
     obtain ⟨kq, x35_6, rfl, HA, HJ6, ⟨mc6, rfl⟩⟩ := hcut
     cases kq with
     | zero => exact absurd HA.out (by simp [jsonparser_decodeUnicodeEscape.j0])
     | succ kj6 =>
      have H := HA.out
      clear HA
      simp only [jsonparser_decodeUnicodeEscape.j0] at H
      by_cases c12 : x35_6 = true
      ·subst c12
       rw [if_pos rfl] at H
       simp only [Option.some.injEq, Prod.mk.injEq] at H
       obtain ⟨rfl, rfl⟩ := H
       go_wp2
       go_ret2
       exact ⟨by rfl, by repeat (first | exact Drawn0.refl _ | apply Drawn0.step)⟩
      ·replace c12 := Bool.eq_false_iff.mpr c12
       subst c12
       rw [if_neg (show ¬ (false = true) by decide)] at H
       by_cases c13 : 6 ≤ (l0.length : Int)
       ·rw [if_pos c13] at H
        have c13b0 := eq_true c13
        have c13b1 : decide (6 ≤ (l0.length : Int)) = true := decide_eq_true c13
        clear c13
        obtain ⟨⟨t408, t409⟩, A140, H⟩ := Option.bind_eq_some_iff.mp H
        try dsimp only at H
        have A14 := aj A140
        clear A140
        by_cases c15 : t409 = true
        ·subst c15
         rw [if_pos rfl] at H
         by_cases c16 : t408 < 56320
         ·rw [if_pos c16] at H
          have c16b0 : decide (t408 < 56320) = true := decide_eq_true c16
          clear c16
          simp only [Option.some.injEq, Prod.mk.injEq] at H
          obtain ⟨rfl, rfl⟩ := H
          obtain ⟨i017, hi017, _, hsz17, _⟩ := info_parts info5
          obtain ⟨A17, hcut17, hA17, hC17⟩ := print_drop_of (P := Tryd.prog) (Value.int .u8) 0 53 5 .i64 Tryd.underlying53 hi017 hsz17 A0 c0 l0 6 (by omega) (of_decide_eq_true (by (with_reducible assumption))) HC0.out
          have HR407 := aj (Kd.C_of_reads (h1 := fun _ => rfl) (hA17 _ (Kd.reads_of_C HR0.out)))
          have HC407 := aj hC17
          clear hA17 hC17 hi017 hsz17
          go_wp2_with ((((with_reducible refine gate_callee (f := 72) rfl ?_); refine goesL_ (some 39) rfl rfl Tryd.func72 (by kernel_rfl) rfl #[.slice A17 (l0.drop 6).length (c0 - 6)] rfl (by (try simp only [List.map_toArray, List.map_cons, List.map_nil]); ((rw [show (l0.drop 6).length = (l0.length - 6) from List.length_drop] <;> rfl))) ?_; (with_reducible refine (jsonparser_decodeSingleUnicodeEscape.calls kj6 _ _ (l0.drop 6) t408 true _ ?side1 ?side2 A14.out).mono ?_); (case side1 => exact HR407.out); (case side2 => exact HC407.out); rintro e w' ⟨rfl, ⟨nd, rfl⟩⟩; refine ⟨_, rfl, ?_⟩)))
          go_ret2
          exact ⟨by rfl, by repeat (first | exact Drawn0.refl _ | apply Drawn0.step)⟩
         ·rw [if_neg c16] at H
          have c16b0 : decide (t408 < 56320) = false := decide_eq_false c16
          clear c16
          by_cases c18 : t408 > 57343
          ·rw [if_pos c18] at H
           have c18b0 : decide (57343 < t408) = true := decide_eq_true c18
           clear c18
           simp only [Option.some.injEq, Prod.mk.injEq] at H
           obtain ⟨rfl, rfl⟩ := H
           obtain ⟨i019, hi019, _, hsz19, _⟩ := info_parts info5
           obtain ⟨A19, hcut19, hA19, hC19⟩ := print_drop_of (P := Tryd.prog) (Value.int .u8) 0 53 5 .i64 Tryd.underlying53 hi019 hsz19 A0 c0 l0 6 (by omega) (of_decide_eq_true (by (with_reducible assumption))) HC0.out
           have HR407 := aj (Kd.C_of_reads (h1 := fun _ => rfl) (hA19 _ (Kd.reads_of_C HR0.out)))
           have HC407 := aj hC19
           clear hA19 hC19 hi019 hsz19
           go_wp2_with ((((with_reducible refine gate_callee (f := 72) rfl ?_); refine goesL_ (some 39) rfl rfl Tryd.func72 (by kernel_rfl) rfl #[.slice A19 (l0.drop 6).length (c0 - 6)] rfl (by (try simp only [List.map_toArray, List.map_cons, List.map_nil]); ((rw [show (l0.drop 6).length = (l0.length - 6) from List.length_drop] <;> rfl))) ?_; (with_reducible refine (jsonparser_decodeSingleUnicodeEscape.calls kj6 _ _ (l0.drop 6) t408 true _ ?side1 ?side2 A14.out).mono ?_); (case side1 => exact HR407.out); (case side2 => exact HC407.out); rintro e w' ⟨rfl, ⟨nd, rfl⟩⟩; refine ⟨_, rfl, ?_⟩)))
           go_ret2
           exact ⟨by rfl, by repeat (first | exact Drawn0.refl _ | apply Drawn0.step)⟩
          ·rw [if_neg c18] at H
           have c18b0 : decide (57343 < t408) = false := decide_eq_false c18
           clear c18
           obtain ⟨t410, A200, H⟩ := Option.bind_eq_some_iff.mp H
           try dsimp only at H
           have A20 := aj A200
           clear A200
           simp only [Option.some.injEq, Prod.mk.injEq] at H
           obtain ⟨rfl, rfl⟩ := H
           obtain ⟨i021, hi021, _, hsz21, _⟩ := info_parts info5
           obtain ⟨A21, hcut21, hA21, hC21⟩ := print_drop_of (P := Tryd.prog) (Value.int .u8) 0 53 5 .i64 Tryd.underlying53 hi021 hsz21 A0 c0 l0 6 (by omega) (of_decide_eq_true (by (with_reducible assumption))) HC0.out
           have HR407 := aj (Kd.C_of_reads (h1 := fun _ => rfl) (hA21 _ (Kd.reads_of_C HR0.out)))
           have HC407 := aj hC21
           clear hA21 hC21 hi021 hsz21
           go_wp2_with (first | ((with_reducible refine gate_callee (f := 72) rfl ?_); refine goesL_ (some 39) rfl rfl Tryd.func72 (by kernel_rfl) rfl #[.slice A21 (l0.drop 6).length (c0 - 6)] rfl (by (try simp only [List.map_toArray, List.map_cons, List.map_nil]); ((rw [show (l0.drop 6).length = (l0.length - 6) from List.length_drop] <;> rfl))) ?_; (with_reducible refine (jsonparser_decodeSingleUnicodeEscape.calls kj6 _ _ (l0.drop 6) t408 true _ ?side1 ?side2 A14.out).mono ?_); (case side1 => exact HR407.out); (case side2 => exact HC407.out); rintro e w' ⟨rfl, ⟨nd, rfl⟩⟩; refine ⟨_, rfl, ?_⟩) | ((with_reducible refine gate_callee (f := 74) rfl ?_); refine goesL_ (some 52) rfl rfl Tryd.func74 (by kernel_rfl) rfl #[.int .i32 t402, .int .i32 t408] rfl (by (try simp only [List.map_toArray, List.map_cons, List.map_nil]); rfl) ?_; (with_reducible refine (jsonparser_combineUTF16Surrogates.calls t402 t408 t410 _ A20.out).mono ?_); rintro e w' ⟨rfl, ⟨nd, rfl⟩⟩; refine ⟨_, rfl, ?_⟩))
           go_ret2
           exact ⟨by rfl, by repeat (first | exact Drawn0.refl _ | apply Drawn0.step)⟩
        ·replace c15 := Bool.eq_false_iff.mpr c15
         subst c15
         rw [if_neg (show ¬ (false = true) by decide)] at H
         simp only [Option.some.injEq, Prod.mk.injEq] at H
         obtain ⟨rfl, rfl⟩ := H
         obtain ⟨i022, hi022, _, hsz22, _⟩ := info_parts info5
         obtain ⟨A22, hcut22, hA22, hC22⟩ := print_drop_of (P := Tryd.prog) (Value.int .u8) 0 53 5 .i64 Tryd.underlying53 hi022 hsz22 A0 c0 l0 6 (by omega) (of_decide_eq_true (by (with_reducible assumption))) HC0.out
         have HR407 := aj (Kd.C_of_reads (h1 := fun _ => rfl) (hA22 _ (Kd.reads_of_C HR0.out)))
         have HC407 := aj hC22
         clear hA22 hC22 hi022 hsz22
         go_wp2_with ((((with_reducible refine gate_callee (f := 72) rfl ?_); refine goesL_ (some 39) rfl rfl Tryd.func72 (by kernel_rfl) rfl #[.slice A22 (l0.drop 6).length (c0 - 6)] rfl (by (try simp only [List.map_toArray, List.map_cons, List.map_nil]); ((rw [show (l0.drop 6).length = (l0.length - 6) from List.length_drop] <;> rfl))) ?_; (with_reducible refine (jsonparser_decodeSingleUnicodeEscape.calls kj6 _ _ (l0.drop 6) t408 false _ ?side1 ?side2 A14.out).mono ?_); (case side1 => exact HR407.out); (case side2 => exact HC407.out); rintro e w' ⟨rfl, ⟨nd, rfl⟩⟩; refine ⟨_, rfl, ?_⟩)))
         go_ret2
         exact ⟨by rfl, by repeat (first | exact Drawn0.refl _ | apply Drawn0.step)⟩
       ·rw [if_neg c13] at H
        exact absurd H (by simp)
  ·replace c5 := Bool.eq_false_iff.mpr c5
   subst c5
   rw [if_neg (show ¬ (false = true) by decide)] at H
   simp only [Option.some.injEq, Prod.mk.injEq] at H
   obtain ⟨rfl, rfl⟩ := H
   go_enter Tryd.func63, Tryd.ntmps63
   go_wp2_with (first | ((with_reducible refine gate_callee (f := 72) rfl ?_); refine goesL_ (some 10) rfl rfl Tryd.func72 (by kernel_rfl) rfl #[.slice A0 l0.length c0] rfl (by (try simp only [List.map_toArray, List.map_cons, List.map_nil]); rfl) ?_; (with_reducible refine (jsonparser_decodeSingleUnicodeEscape.calls k _ _ l0 t402 true _ ?side1 ?side2 A2.out).mono ?_); (case side1 => exact HR0.out); (case side2 => exact HC0.out); rintro e w' ⟨rfl, ⟨nd, rfl⟩⟩; refine ⟨_, rfl, ?_⟩) | ((with_reducible refine gate_callee (f := 73) rfl ?_); refine goesL_ (some 16) rfl rfl Tryd.func73 (by kernel_rfl) rfl #[.int .i32 t402] rfl (by (try simp only [List.map_toArray, List.map_cons, List.map_nil]); rfl) ?_; (with_reducible refine (jsonparser_isUTF16EncodedRune.calls t402 false _ A4.out).mono ?_); rintro e w' ⟨rfl, ⟨nd, rfl⟩⟩; refine ⟨_, rfl, ?_⟩))
   go_ret2
   exact ⟨by rfl, by repeat (first | exact Drawn0.refl _ | apply Drawn0.step)⟩
 ·replace c3 := Bool.eq_false_iff.mpr c3
  subst c3
  rw [if_neg (show ¬ (false = true) by decide)] at H
  simp only [Option.some.injEq, Prod.mk.injEq] at H
  obtain ⟨rfl, rfl⟩ := H
  go_enter Tryd.func63, Tryd.ntmps63
  go_wp2_with ((((with_reducible refine gate_callee (f := 72) rfl ?_); refine goesL_ (some 10) rfl rfl Tryd.func72 (by kernel_rfl) rfl #[.slice A0 l0.length c0] rfl (by (try simp only [List.map_toArray, List.map_cons, List.map_nil]); rfl) ?_; (with_reducible refine (jsonparser_decodeSingleUnicodeEscape.calls k _ _ l0 t402 false _ ?side1 ?side2 A2.out).mono ?_); (case side1 => exact HR0.out); (case side2 => exact HC0.out); rintro e w' ⟨rfl, ⟨nd, rfl⟩⟩; refine ⟨_, rfl, ?_⟩)))
  go_ret2
  exact ⟨by rfl, by repeat (first | exact Drawn0.refl _ | apply Drawn0.step)⟩
end Go.Proofs.YtcfhnfjkiljigaaDoor.XFnJpGetUnsafe
end
section
-- Written by xprint.py of this session (a program that runs the kit's print and adds to it); Lean checks it.
namespace Go.Proofs.YtcfhnfjkiljigaaDoor.XFnJpGetUnsafe
open Go.RowKit Go.Proofs.YtcfhnfjkiljigaaDoorW.PrintWords Go.Proofs.YtcfhnfjkiljigaaDoorW.PrintLast Go.Proofs.YtcfhnfjkiljigaaDoorW.PrintMore
attribute [local go_sem] max2_int min2_int max_two min_two max_three min_three max_four min_four   -- for this text's walks alone
set_option linter.unusedVariables false
set_option linter.unusedSimpArgs false
--EXT
/-! ### impl_JpGetUnsafeString: function 11 (by hand) -/
def impl_JpGetUnsafeString.tab (e : Int) : Option Int := if e = 34 then some 34 else if e = 92 then some 92 else if e = 47 then some 47 else if e = 98 then some 8 else if e = 102 then some 12 else if e = 110 then some 10 else if e = 114 then some 13 else if e = 116 then some 9 else none
theorem impl_JpGetUnsafeString.tab_some {e c : Int} (h : impl_JpGetUnsafeString.tab e = some c) :
  (e = 34 ∧ c = 34) ∨ (e = 92 ∧ c = 92) ∨ (e = 47 ∧ c = 47) ∨ (e = 98 ∧ c = 8) ∨ (e = 102 ∧ c = 12) ∨ (e = 110 ∧ c = 10) ∨ (e = 114 ∧ c = 13) ∨ (e = 116 ∧ c = 9) := by
 unfold impl_JpGetUnsafeString.tab at h
 repeat' split at h
 all_goals first
  | (cases h; done)
  | (obtain rfl := Option.some.inj h; omega)
/-- What the reader of one escape says of a text that begins with a right one: the bytes read, and the bytes that they stand for. -/
def impl_JpGetUnsafeString.esc (k : Nat) (l : List Int) : Option (Int × List Int) :=
 if (l.length : Int) < 2 then none else if ¬ rd l 0 = 92 then none else
 match impl_JpGetUnsafeString.tab (rd l 1) with
 | some c => some (2, [c])
 | none => if rd l 1 = 117 then ((jsonparser_decodeUnicodeEscape.f k l).bind fun t => if t.2 = -1 then none else if -2147483648 ≤ t.1 ∧ t.1 ≤ 2147483647 then some (t.2, Lib.encodeRuneZ t.1) else none) else none
theorem impl_JpGetUnsafeString.heap_alloc_lt (w : World) (x : Obj) {g : Nat} (h : g < w.heap.size) : (w.alloc x).heap[g]? = w.heap[g]? := by
 show (w.heap.push x)[g]? = _
 rw [Array.getElem?_push, if_neg (by omega)]
theorem impl_JpGetUnsafeString.setCell_else {w : World} {g o : Nat} (v : Value) (b : Nat) (h : b ≠ g) : (w.setCell ⟨g, o, none⟩ v).heap[b]? = w.heap[b]? := by
 simp [World.setCell, Array.getElem?_modify, Ne.symm h]
theorem impl_JpGetUnsafeString.setCells_else {g : Nat} (b : Nat) : ∀ (vs : List Value) (w : World) (o : Nat), b ≠ g → (w.setCells g o vs).heap[b]? = w.heap[b]?
 | [], _, _, _ => rfl
 | v :: r, w, o, h => (impl_JpGetUnsafeString.setCells_else b r (w.setCell ⟨g, o, none⟩ v) (o + 1) h).trans (impl_JpGetUnsafeString.setCell_else v b h)
theorem impl_JpGetUnsafeString.splice_one (cur : List Value) (o : Nat) (v : Value) (h : o < cur.length) : Go.splice cur o [v] = cur.set o v := by
 unfold Go.splice
 rw [List.set_eq_take_append_cons_drop, if_pos h]
 simp
set_option maxHeartbeats 4000000 in
set_option maxRecDepth 100000 in
theorem impl_JpGetUnsafeString.config_calls (k : Nat) (ad : Addr) (c0 : Nat) (l0 : List Int) (g o m C B : Nat) (cur : List Value) (ty : TypeId) (n : Int) (xs : List Int) (w : World) (hr0 : Kd.C (Kd.int .u8) w (some ad) l0.length l0) (hc0 : l0.length ≤ c0)
  (hg : w.heap[g]? = some (.cells cur.toArray ty (0, 0))) (hBg : B ≤ g) (hBw : B ≤ w.heap.size) (hroom : xs.length ≤ m) (hm : o + m ≤ cur.length) (hG : Glob w) (h : impl_JpGetUnsafeString.esc k l0 = some (n, xs)) :
  Calls Tryd.prog 48 #[.agg #[.bool false, .bool false, .int .i64 0], .slice (some ad) l0.length c0, .slice (some ⟨g, o, none⟩) m C] w fun e w' => e = .returned (.tuple #[.int .i64 n, .int .i64 (xs.length : Int)]) ∧ Below B w w' ∧ w'.heap[g]? = some (.cells (Go.splice cur o (nums .u8 xs)).toArray ty (0, 0)) ∧ ∀ b, b < w.heap.size → b ≠ g → w'.heap[b]? = w.heap[b]? := by
 unfold impl_JpGetUnsafeString.esc at h
 have HR := aj hr0
 have HG := aj hG
 have HBG := aj hBg
 have HBW := aj hBw
 have HGG := aj hg
 have HRM := aj hroom
 have HMM := aj hm
 have hgw : g < w.heap.size := by
  refine Nat.lt_of_not_le fun hle => ?_
  rw [Array.getElem?_eq_none hle] at hg
  cases hg
 have HGW := aj hgw
 clear hr0 hG hBg hBw hg hroom hm hgw
 by_cases c1 : (l0.length : Int) < 2
 ·rw [if_pos c1] at h
  cases h
 ·rw [if_neg c1] at h
  have HL := aj c1
  have hlb : decide ((l0.length : Int) < 2) = false := decide_eq_false c1
  have hln : decide (l0.length < 2) = false := decide_eq_false (by omega)
  obtain ⟨ad1, e1, hx0⟩ := Kd.at_int HR.out 0 (by omega) (by omega)
  obtain ⟨ad2, e2, hx1⟩ := Kd.at_int HR.out 1 (by omega) (by omega)
  obtain rfl : ad = ad1 := (by injection e1)
  obtain rfl : ad = ad2 := (by injection e2)
  clear e1 e2
  have p0 : ((0 : Int) < (l0.length : Int)) = True := eq_true (by omega)
  have p1 : ((1 : Int) < (l0.length : Int)) = True := eq_true (by omega)
  have p0n : (0 < l0.length) = True := eq_true (by omega)
  have p1n : (1 < l0.length) = True := eq_true (by omega)
  by_cases c2 : rd l0 0 = 92
  ·rw [if_neg (by simpa using c2)] at h
   rw [c2] at hx0
   have Q0 : (w.alloc (.cells #[.bool false, .bool false, .int .i64 0] 61)).cell? ad = some (.int .u8 92) := pw_cell_below (XWords.below_alloc0 (Nat.le_refl _) (Below.refl _ _) _) hx0
   have Q1 : (w.alloc (.cells #[.bool false, .bool false, .int .i64 0] 61)).cell? ⟨ad.block, ad.off + 1, none⟩ = some (.int .u8 (rd l0 1)) := pw_cell_below (XWords.below_alloc0 (Nat.le_refl _) (Below.refl _ _) _) hx1
   have HG1 : Aside0 ((w.alloc (.cells #[.bool false, .bool false, .int .i64 0] 61)).heap[g]? = some (.cells cur.toArray ty (0, 0))) := ⟨(impl_JpGetUnsafeString.heap_alloc_lt w _ HGW.out).trans HGG.out⟩
   cases htab : impl_JpGetUnsafeString.tab (rd l0 1) with
   | some c =>
    rw [htab] at h
    simp only [Option.some.injEq, Prod.mk.injEq] at h
    obtain ⟨rfl, rfl⟩ := h
    have hm1 : 0 < m := by have := HRM.out; simp only [List.length_cons, List.length_nil] at this; omega
    have hoc : o < cur.length := by have := HMM.out; omega
    obtain ⟨v0, S0⟩ : ∃ v0, (w.alloc (.cells #[.bool false, .bool false, .int .i64 0] 61)).cell? ⟨g, o, none⟩ = some v0 := ⟨cur[o]'hoc, by
     unfold World.cell?
     rw [HG1.out]
     simp [hoc]⟩
    have F0 : (w.alloc (.cells #[.bool false, .bool false, .int .i64 0] 61)).frozen? ⟨g, o, none⟩ = false := by
     unfold World.frozen?
     rw [HG1.out]
     simp
    have hmi : ((0 : Int) < (m : Int)) = True := eq_true (by omega)
    have hmn : (0 < m) = True := eq_true hm1
    have HOC := aj hoc
    have QT := fun p hp => pw_cell_below (XWords.below_alloc0 (Nat.le_refl _) (Below.refl _ _) (.cells #[.bool false, .bool false, .int .i64 0] 61)) (HG.out.tab p hp)
    rcases impl_JpGetUnsafeString.tab_some htab with ⟨e, rfl⟩ | ⟨e, rfl⟩ | ⟨e, rfl⟩ | ⟨e, rfl⟩ | ⟨e, rfl⟩ | ⟨e, rfl⟩ | ⟨e, rfl⟩ | ⟨e, rfl⟩
    ·rw [e] at Q1
     have QT := QT (34, 34) (by simp [escPairs])
     simp only at QT
     clear hoc
     go_enter Tryd.func48, Tryd.ntmps48
     go_wp2
     go_ret2
     exact ⟨rfl, (XWords.below_alloc0 HBW.out (Below.refl _ _) _).setCell HBG.out _, by rw [OwnRow.heap_setCell HG1.out, show nums .u8 [(34 : Int)] = [.int .u8 34] from rfl, impl_JpGetUnsafeString.splice_one _ _ _ HOC.out]; simp, fun b h1 h2 => by rw [impl_JpGetUnsafeString.setCell_else _ _ h2, impl_JpGetUnsafeString.heap_alloc_lt _ _ h1]⟩
    ·rw [e] at Q1
     have QT := QT (92, 92) (by simp [escPairs])
     simp only at QT
     clear hoc
     go_enter Tryd.func48, Tryd.ntmps48
     go_wp2
     go_ret2
     exact ⟨rfl, (XWords.below_alloc0 HBW.out (Below.refl _ _) _).setCell HBG.out _, by rw [OwnRow.heap_setCell HG1.out, show nums .u8 [(92 : Int)] = [.int .u8 92] from rfl, impl_JpGetUnsafeString.splice_one _ _ _ HOC.out]; simp, fun b h1 h2 => by rw [impl_JpGetUnsafeString.setCell_else _ _ h2, impl_JpGetUnsafeString.heap_alloc_lt _ _ h1]⟩
    ·rw [e] at Q1
     have QT := QT (47, 47) (by simp [escPairs])
     simp only at QT
     clear hoc
     go_enter Tryd.func48, Tryd.ntmps48
     go_wp2
     go_ret2
     exact ⟨rfl, (XWords.below_alloc0 HBW.out (Below.refl _ _) _).setCell HBG.out _, by rw [OwnRow.heap_setCell HG1.out, show nums .u8 [(47 : Int)] = [.int .u8 47] from rfl, impl_JpGetUnsafeString.splice_one _ _ _ HOC.out]; simp, fun b h1 h2 => by rw [impl_JpGetUnsafeString.setCell_else _ _ h2, impl_JpGetUnsafeString.heap_alloc_lt _ _ h1]⟩
    ·rw [e] at Q1
     have QT := QT (98, 8) (by simp [escPairs])
     simp only at QT
     clear hoc
     go_enter Tryd.func48, Tryd.ntmps48
     go_wp2
     go_ret2
     exact ⟨rfl, (XWords.below_alloc0 HBW.out (Below.refl _ _) _).setCell HBG.out _, by rw [OwnRow.heap_setCell HG1.out, show nums .u8 [(8 : Int)] = [.int .u8 8] from rfl, impl_JpGetUnsafeString.splice_one _ _ _ HOC.out]; simp, fun b h1 h2 => by rw [impl_JpGetUnsafeString.setCell_else _ _ h2, impl_JpGetUnsafeString.heap_alloc_lt _ _ h1]⟩
    ·rw [e] at Q1
     have QT := QT (102, 12) (by simp [escPairs])
     simp only at QT
     clear hoc
     go_enter Tryd.func48, Tryd.ntmps48
     go_wp2
     go_ret2
     exact ⟨rfl, (XWords.below_alloc0 HBW.out (Below.refl _ _) _).setCell HBG.out _, by rw [OwnRow.heap_setCell HG1.out, show nums .u8 [(12 : Int)] = [.int .u8 12] from rfl, impl_JpGetUnsafeString.splice_one _ _ _ HOC.out]; simp, fun b h1 h2 => by rw [impl_JpGetUnsafeString.setCell_else _ _ h2, impl_JpGetUnsafeString.heap_alloc_lt _ _ h1]⟩
    ·rw [e] at Q1
     have QT := QT (110, 10) (by simp [escPairs])
     simp only at QT
     clear hoc
     go_enter Tryd.func48, Tryd.ntmps48
     go_wp2
     go_ret2
     exact ⟨rfl, (XWords.below_alloc0 HBW.out (Below.refl _ _) _).setCell HBG.out _, by rw [OwnRow.heap_setCell HG1.out, show nums .u8 [(10 : Int)] = [.int .u8 10] from rfl, impl_JpGetUnsafeString.splice_one _ _ _ HOC.out]; simp, fun b h1 h2 => by rw [impl_JpGetUnsafeString.setCell_else _ _ h2, impl_JpGetUnsafeString.heap_alloc_lt _ _ h1]⟩
    ·rw [e] at Q1
     have QT := QT (114, 13) (by simp [escPairs])
     simp only at QT
     clear hoc
     go_enter Tryd.func48, Tryd.ntmps48
     go_wp2
     go_ret2
     exact ⟨rfl, (XWords.below_alloc0 HBW.out (Below.refl _ _) _).setCell HBG.out _, by rw [OwnRow.heap_setCell HG1.out, show nums .u8 [(13 : Int)] = [.int .u8 13] from rfl, impl_JpGetUnsafeString.splice_one _ _ _ HOC.out]; simp, fun b h1 h2 => by rw [impl_JpGetUnsafeString.setCell_else _ _ h2, impl_JpGetUnsafeString.heap_alloc_lt _ _ h1]⟩
    ·rw [e] at Q1
     have QT := QT (116, 9) (by simp [escPairs])
     simp only at QT
     clear hoc
     go_enter Tryd.func48, Tryd.ntmps48
     go_wp2
     go_ret2
     exact ⟨rfl, (XWords.below_alloc0 HBW.out (Below.refl _ _) _).setCell HBG.out _, by rw [OwnRow.heap_setCell HG1.out, show nums .u8 [(9 : Int)] = [.int .u8 9] from rfl, impl_JpGetUnsafeString.splice_one _ _ _ HOC.out]; simp, fun b h1 h2 => by rw [impl_JpGetUnsafeString.setCell_else _ _ h2, impl_JpGetUnsafeString.heap_alloc_lt _ _ h1]⟩
   | none =>
    rw [htab] at h
    have QC0 : (w.alloc (.cells #[.bool false, .bool false, .int .i64 0] 61)).cell? ⟨w.heap.size, 0, none⟩ = some (.bool false) := World.cell?_alloc_new w _ _ 0
    have QC1 : (w.alloc (.cells #[.bool false, .bool false, .int .i64 0] 61)).cell? ⟨w.heap.size, 1, none⟩ = some (.bool false) := World.cell?_alloc_new w _ _ 1
    by_cases e117 : rd l0 1 = 117
    ·rw [e117] at h Q1
     rw [if_pos rfl] at h
     obtain ⟨⟨r, n'⟩, hd, h⟩ := Option.bind_eq_some_iff.mp h
     have HCa : Kd.C (Kd.int .u8) (w.alloc (.cells #[.bool false, .bool false, .int .i64 0] 61)) (some ad) l0.length l0 := Kd.C_below (d := Kd.int .u8) HR.out (XWords.below_alloc0 (Nat.le_refl _) (Below.refl _ _) _)
     have hcall := jsonparser_decodeUnicodeEscape.calls k (some ad) c0 l0 r n' _ HCa hc0 hd
     have HCALL := aj hcall
     clear hcall HCa
     by_cases em : n' = -1
     ·subst em
      rw [if_pos rfl] at h
      cases h
     ·rw [if_neg em] at h
      have emb : (n' == -1) = false := beq_eq_false_iff_ne.mpr em
      by_cases hr : -2147483648 ≤ r ∧ r ≤ 2147483647
      ·rw [if_pos hr] at h
       simp only [Option.some.injEq, Prod.mk.injEq] at h
       obtain ⟨rfl, rfl⟩ := h
       have hrl : (Lib.runeCells r).length = (Lib.encodeRuneZ r).length := List.length_map _
       have hcells : ∀ j, j < (Lib.runeCells r).length → o + j < cur.length := fun j hj => by
        have := HRM.out
        have := HMM.out
        omega
       have HENC0 : ∀ nd, Calls Tryd.prog 64 #[.slice (some ⟨g, o, none⟩) m C, .int .i32 r] ((w.alloc (.cells #[.bool false, .bool false, .int .i64 0] 61)).drewN nd) _ := fun nd =>
        encodeRune_calls g o m C r hr.1 hr.2 ((w.alloc (.cells #[.bool false, .bool false, .int .i64 0] 61)).drewN nd) (by rw [hrl]; exact HRM.out)
         (fun j hj => by
          have hx := hcells j hj
          show ((w.alloc (.cells #[.bool false, .bool false, .int .i64 0] 61)).cell? ⟨g, o + j, none⟩).isSome = true
          unfold World.cell?
          rw [HG1.out]
          simp [hx])
         (fun j hj => by
          show (w.alloc (.cells #[.bool false, .bool false, .int .i64 0] 61)).frozen? ⟨g, o + j, none⟩ = false
          unfold World.frozen?
          rw [HG1.out]
          simp)
       have HENC := aj HENC0
       have HCL := aj hcells
       have HRL := aj hrl
       clear HENC0 hcells hrl
       go_enter Tryd.func48, Tryd.ntmps48
       go_wp2_with (first | ((with_reducible refine gate_callee (f := 63) rfl ?_); refine goesL_ _ rfl rfl Tryd.func63 (by kernel_rfl) rfl #[.slice (some ad) l0.length c0] rfl (by (try simp only [List.map_toArray, List.map_cons, List.map_nil]); rfl) ?_; (with_reducible refine HCALL.out.mono ?_); rintro e w' ⟨rfl, ⟨nd, rfl⟩⟩; refine ⟨_, rfl, ?_⟩) | ((with_reducible refine gate_callee (f := 64) rfl ?_); refine goesL_ _ rfl rfl Tryd.func64 (by kernel_rfl) rfl #[.slice (some ⟨g, o, none⟩) m C, .int .i32 r] rfl (by (try simp only [List.map_toArray, List.map_cons, List.map_nil]); rfl) ?_; (with_reducible refine (HENC.out nd).mono ?_); rintro e w' ⟨rfl, rfl⟩; refine ⟨_, rfl, ?_⟩))
       go_ret2
       refine ⟨?_, ?_, ?_, fun b h1 h2 => by rw [impl_JpGetUnsafeString.setCells_else _ _ _ _ h2]; exact impl_JpGetUnsafeString.heap_alloc_lt _ _ h1⟩
       ·refine congrArg Ending.returned ?_
        show Value.tuple #[.int .i64 n', .int .i64 (Lib.runeCells r).length] = _
        rw [HRL.out]
       ·exact OwnRow.below_setCells HBG.out _ _ _ ((pw_below_drewN (XWords.below_alloc0 HBW.out (Below.refl _ _) _) _))
       ·have hgd : ((w.alloc (.cells #[.bool false, .bool false, .int .i64 0] 61)).drewN nd).heap[g]? = some (.cells cur.toArray ty (0, 0)) := HG1.out
        obtain ⟨cur', k1, k2, k3⟩ := OwnRow.heap_setCells (Lib.runeCells r) o ((w.alloc (.cells #[.bool false, .bool false, .int .i64 0] 61)).drewN nd) cur.toArray hgd (by rw [HRL.out]; have := HRM.out; have := HMM.out; simp; omega)
        rw [k1]
        congr 2
        apply Array.ext'
        rw [k3]
        unfold Go.splice nums Lib.runeCells
        simp
      ·rw [if_neg hr] at h
       cases h
    ·rw [if_neg e117] at h
     cases h
  ·rw [if_pos c2] at h
   cases h
/-! ### unescapeConfig -/
def impl_JpGetUnsafeString.bsl : List Int → Int
 | [] => -1
 | x :: r => if x = 92 then 0 else if impl_JpGetUnsafeString.bsl r = -1 then -1 else impl_JpGetUnsafeString.bsl r + 1
theorem impl_JpGetUnsafeString.bsl_range : ∀ l : List Int, -1 ≤ impl_JpGetUnsafeString.bsl l ∧ impl_JpGetUnsafeString.bsl l < l.length
 | [] => by simp [impl_JpGetUnsafeString.bsl]
 | x :: r => by
  have := impl_JpGetUnsafeString.bsl_range r
  rw [impl_JpGetUnsafeString.bsl]
  simp only [List.length_cons]
  split
  ·omega
  ·split <;> omega
theorem impl_JpGetUnsafeString.bsl_eq : ∀ l : List Int, (∀ x ∈ l, 0 ≤ x ∧ x ≤ 255) → Lib.indexByte (Lib.bytesOf l) (92 : Int).toNat.toUInt8 = impl_JpGetUnsafeString.bsl l
 | [], _ => rfl
 | x :: r, h => by
  have ih := impl_JpGetUnsafeString.bsl_eq r (fun y hy => h y (by simp [hy]))
  have hx := h x (by simp)
  unfold Lib.bytesOf at ih ⊢
  rw [List.map_cons, Lib.indexByte, impl_JpGetUnsafeString.bsl, ih]
  have e : (UInt8.ofNat x.toNat == (92 : Int).toNat.toUInt8) = decide (x = 92) := by
   rw [Bool.eq_iff_iff, beq_iff_eq, decide_eq_true_eq]
   constructor
   ·intro h
    have := congrArg UInt8.toNat h
    rw [UInt8.toNat_ofNat'] at this
    have e2 : ((92 : Int).toNat.toUInt8).toNat = 92 := rfl
    omega
   ·rintro rfl; rfl
  rw [e]
  by_cases c : x = 92
  ·simp [c]
  ·simp [c]
/-- Unescaping, from a backslash on. -/
def impl_JpGetUnsafeString.un : Nat → List Int → Option (List Int)
 | 0, _ => none
 | k + 1, l => (impl_JpGetUnsafeString.esc (k + 1) l).bind fun t => if 0 ≤ t.1 ∧ t.1 ≤ l.length ∧ (t.2.length : Int) ≤ t.1 then
   (if impl_JpGetUnsafeString.bsl (l.drop t.1.toNat) = -1 then some (t.2 ++ l.drop t.1.toNat) else (impl_JpGetUnsafeString.un k ((l.drop t.1.toNat).drop (impl_JpGetUnsafeString.bsl (l.drop t.1.toNat)).toNat)).bind fun q => some (t.2 ++ ((l.drop t.1.toNat).take (impl_JpGetUnsafeString.bsl (l.drop t.1.toNat)).toNat ++ q)))
  else none
def impl_JpGetUnsafeString.full (k : Nat) (l : List Int) : Option (List Int) := if impl_JpGetUnsafeString.bsl l = -1 then some l else (impl_JpGetUnsafeString.un k (l.drop (impl_JpGetUnsafeString.bsl l).toNat)).bind fun q => some (l.take (impl_JpGetUnsafeString.bsl l).toNat ++ q)
/-- The cells from ad on hold the bytes of l. -/
def impl_JpGetUnsafeString.Cel (w : World) (ad : Addr) (l : List Int) : Prop := ∀ j, j < l.length → w.cell? (ad.add j) = some (.int .u8 (l.getD j 0))
theorem impl_JpGetUnsafeString.Cel.below {w w' : World} {ad : Addr} {l : List Int} (h : impl_JpGetUnsafeString.Cel w ad l) (hb : Below w.heap.size w w') : impl_JpGetUnsafeString.Cel w' ad l := fun j hj => pw_cell_below hb (h j hj)
theorem impl_JpGetUnsafeString.Cel.kd {w : World} {ad : Addr} {l : List Int} (h : impl_JpGetUnsafeString.Cel w ad l) (hl : l.length ≤ 9223372036854775807) : Kd.C (Kd.int .u8) w (some ad) l.length l :=
 Kd.C_of_reads (d := (0 : Int)) (h1 := fun _ => rfl) ⟨rfl, hl, fun _ => ⟨ad, rfl, h⟩⟩
theorem impl_JpGetUnsafeString.Cel.drop {w : World} {ad : Addr} {l : List Int} (h : impl_JpGetUnsafeString.Cel w ad l) (n : Nat) : impl_JpGetUnsafeString.Cel w (ad.add n) (l.drop n) := by
 intro j hj
 rw [List.length_drop] at hj
 have := h (n + j) (by omega)
 have ha : (ad.add n).add j = ad.add (n + j) := by
  unfold Addr.add
  by_cases h1 : n = 0 <;> by_cases h2 : j = 0 <;> simp [h1, h2, Nat.add_assoc]
 rw [ha, this]
 simp [List.getD_eq_getElem?_getD, List.getElem?_drop]
/-- What unescapeConfig hands back. -/
structure impl_JpGetUnsafeString.Kp (g0 : Nat) (ty : TypeId) (g : Nat) (w wr : World) : Prop where
 oth : ∀ b, b < w.heap.size → b ≠ g0 → wr.heap[b]? = w.heap[b]?
 gg : g = g0 ∨ w.heap.size ≤ g
 st : ∃ cur : List Value, wr.heap[g0]? = some (.cells cur.toArray ty (0, 0)) ∧ cur.length = 64
theorem impl_JpGetUnsafeString.Kp.step {g0 g : Nat} {ty ty' : TypeId} {w wr wr' : World} {cur new : List Value} (h : impl_JpGetUnsafeString.Kp g0 ty g w wr) (hs : w.heap.size ≤ wr.heap.size) (hg0 : g0 < w.heap.size) (ho : ∀ b, b < wr.heap.size → b ≠ g → wr'.heap[b]? = wr.heap[b]?) (hc : wr.heap[g]? = some (.cells cur.toArray ty' (0, 0))) (hn : wr'.heap[g]? = some (.cells new.toArray ty' (0, 0))) (hl : new.length = cur.length) : impl_JpGetUnsafeString.Kp g0 ty g w wr' := by
 refine ⟨fun b hb hne => (ho b (by omega) (by rcases h.gg with h | h <;> omega)).trans (h.oth b hb hne), h.gg, ?_⟩
 obtain ⟨c0, h1, h2⟩ := h.st
 by_cases e : g = g0
 ·subst e
  rw [h1] at hc
  have h3 := Option.some.inj hc
  injection h3 with a1 a2
  have h4 : c0 = cur := by
   have := congrArg Array.toList a1
   simpa using this
  subst h4 a2
  exact ⟨new, hn, hl.trans h2⟩
 ·exact ⟨c0, (ho g0 (by omega) (Ne.symm e)).trans h1, h2⟩
def impl_JpGetUnsafeString.Post (B g0 : Nat) (ty : TypeId) (l : List Int) (w : World) (out : List Int) (e : Ending) (w' : World) : Prop :=
 ∃ b o n c', e = .returned (.tuple #[.slice (some ⟨b, o, none⟩) n c', .nilIface]) ∧ n = out.length ∧ (∀ j, j < n → w'.cell? ⟨b, o + j, none⟩ = some (.int .u8 (out.getD j 0))) ∧ Below B w w' ∧ (impl_JpGetUnsafeString.bsl l = -1 ∨ impl_JpGetUnsafeString.Kp g0 ty b w w')
theorem impl_JpGetUnsafeString.add_block (ad : Addr) (n : Nat) : (ad.add n).block = ad.block := by
 unfold Addr.add
 split <;> rfl
theorem impl_JpGetUnsafeString.Cel.belowB {B : Nat} {w w' : World} {ad : Addr} {l : List Int} (h : impl_JpGetUnsafeString.Cel w ad l) (hb : Below B w w') (hab : ad.block < B) : impl_JpGetUnsafeString.Cel w' ad l :=
 fun j hj => (hb.cell (p := ad.add j) (by rw [impl_JpGetUnsafeString.add_block]; exact hab)).trans (h j hj)
/-- 'xs[m:]', and where it begins. -/
theorem impl_JpGetUnsafeString.cut_from {P : Program} (t e : TypeId) {i : TypeInfo} (ht : P.underlying t = some (.slice e)) (hi : P.info? e = some i) (hsz : i.size = 1) (ad : Addr) (n c m : Nat) (hm : m ≤ n) :
  ∃ A' : Addr, (∀ W : World, (Instr.slice t (.slice (some ad) n c) (some (.int .i64 (m : Int))) none none).run P W = .ok (.slice (some A') (n - m) (c - m)) W) ∧ (m < c → A' = ad.add m) ∧ A'.block = ad.block := by
 refine ⟨if c = m then ad else ad.add m, fun W => ?_, fun h => if_neg (by omega), by split; rfl; exact impl_JpGetUnsafeString.add_block _ _⟩
 have hel : P.elem t = e := by simp [Program.elem, ht]
 have hu : P.underlying t = some (.slice (P.elem t)) := by rw [hel]; exact ht
 rw [run_slice_l W t (some ad) n c hu .i64 (m : Int) (Int.natCast_nonneg _) (by omega), hel]
 by_cases hcm : c = m <;> simp [sizeOf, typeInfo, hi, hsz, sliced, Result.andThen, hcm]
theorem impl_JpGetUnsafeString.copy_keep {P : Program} {w : World} {ops : Array Oper} {rest : List Oper} {o : Oper} {a : Act} {Q : Exit → Act → World → Prop} (hgd : o.guard = none) (d s : Operand) (dT sT : TypeId)
  (ho : o.op = .call { callee := .builtin .copy, args := #[d, s], argTypes := #[dT, sT] }) (elem : TypeId) (hu : P.underlying dT = some (.slice elem)) (hsz : (P.info? elem).map (·.size) = some 1)
  (da sa : Addr) (dLen dCap sLen sCap : Nat) (hd : a.eval d = .slice (some da) dLen dCap) (hs : a.eval s = .slice (some sa) sLen sCap)
  (g off : Nat) (cur : List Value) (t : TypeId) (hg : w.heap[g]? = some (.cells cur.toArray t (0, 0))) (xs : List Int) (hn : xs.length = sLen) (hle : sLen ≤ dLen)
  (hda : 0 < xs.length → da = ⟨g, off, none⟩) (hsrc : impl_JpGetUnsafeString.Cel w sa xs) (hfit : off + xs.length ≤ cur.length)
  (h : ∀ w' : World, w'.heap[g]? = some (.cells (Go.splice cur off (nums .u8 xs)).toArray t (0, 0)) → (∀ b, b ≠ g → w'.heap[b]? = w.heap[b]?) → (∀ B w0, Below B w0 w → B ≤ g → Below B w0 w') → wpList P ops Q rest (a.put o.dst (goInt xs.length)) w') :
  wpList P ops Q (o :: rest) a w := by
 have hnl : (nums .u8 xs).length = xs.length := nums_length _ _
 by_cases h0 : xs.length = 0
 ·obtain rfl : xs = [] := List.eq_nil_of_length_eq_zero h0
  refine wpList_copy_nothing hgd d s dT sT ho elem hu hsz _ _ dLen dCap sLen sCap hd hs (by rw [← hn]; exact Nat.zero_min _) ?_
  refine h w ?_ (fun b _ => rfl) (fun B w0 hb _ => hb)
  rw [hg]
  simp [Go.splice, nums]
 ·obtain rfl := hda (by omega)
  have := wpList_copy_own (rest := rest) (Q := Q) (ops := ops) hgd d s dT sT ho elem hu hsz g off dLen dCap sa sLen sCap hd hs cur.toArray t hg (nums .u8 xs) (by rw [hnl, hn]; exact (Nat.min_eq_left hle).symm)
   (fun j v hv => by
    have hj : j < xs.length := by rw [← hnl]; exact (List.getElem?_eq_some_iff.mp hv).1
    rw [hsrc j hj]
    simp only [nums, List.getElem?_map, List.getElem?_eq_getElem hj, Option.map_some, Option.some.injEq] at hv
    rw [← hv, List.getD_eq_getElem?_getD, List.getElem?_eq_getElem hj]
    rfl) (by rw [hnl]; simpa using hfit) (by
    intro v hv
    obtain ⟨x, _, rfl⟩ := List.mem_map.1 hv
    rfl)
  refine this ?_
  rw [hnl]
  exact h _ (by rw [setRow_heap w g _ _ t _ hg]; simp [Go.splice, hnl]) (fun b hb => setRow_other w g b _ hb) (fun B w0 hb hBg => below_setRow hb hBg _)
/-- What holds of the world in unescapeConfig: the row g bears 'acc' at its begin; the configuration lies in bx. -/
structure impl_JpGetUnsafeString.Inv (B g0 : Nat) (ty0 : TypeId) (w wr : World) (g N bx : Nat) (ty : TypeId) (acc : List Int) : Prop where
 below : Below B w wr
 row : ∃ cur : List Value, wr.heap[g]? = some (.cells cur.toArray ty (0, 0)) ∧ N ≤ cur.length ∧ cur.take acc.length = nums .u8 acc
 box : wr.heap[bx]? = some (.cells #[.bool false, .bool false, .int .i64 0] 61 (0, 0))
 ne : bx ≠ g
 kp : impl_JpGetUnsafeString.Kp g0 ty0 g w wr
theorem impl_JpGetUnsafeString.splice_take (cur : List Value) (acc xs : List Int) (h : cur.take acc.length = nums .u8 acc) (hf : acc.length + xs.length ≤ cur.length) : (Go.splice cur acc.length (nums .u8 xs)).take (acc ++ xs).length = nums .u8 (acc ++ xs) := by
 have h1 : (nums .u8 acc).length = acc.length := nums_length _ _
 have h2 : (nums .u8 xs).length = xs.length := nums_length _ _
 unfold Go.splice
 rw [h, List.length_append, ← List.append_assoc, List.take_append_of_le_length (by rw [List.length_append]; omega), List.take_of_length_le (by rw [List.length_append]; omega)]
 simp [nums]
theorem impl_JpGetUnsafeString.Inv.box0 {B g0 : Nat} {ty0 : TypeId} {w wr : World} {g N bx : Nat} {ty : TypeId} {acc : List Int} (h : impl_JpGetUnsafeString.Inv B g0 ty0 w wr g N bx ty acc) : wr.cell? ⟨bx, 0, none⟩ = some (.bool false) ∧ wr.cell? ⟨bx, 1, none⟩ = some (.bool false) ∧ wr.cell? ⟨bx, 2, none⟩ = some (.int .i64 0) := by
 refine ⟨?_, ?_, ?_⟩ <;> (unfold World.cell?; rw [h.box]; rfl)
theorem impl_JpGetUnsafeString.Cel.take {w : World} {ad : Addr} {l : List Int} (h : impl_JpGetUnsafeString.Cel w ad l) (n : Nat) : impl_JpGetUnsafeString.Cel w ad (l.take n) := by
 intro j hj
 rw [List.length_take] at hj
 rw [h j (by omega)]
 simp only [List.getD_eq_getElem?_getD]
 rw [List.getElem?_take_of_lt (by omega)]
theorem impl_JpGetUnsafeString.esc_len {k : Nat} {l : List Int} {n : Int} {xs : List Int} (h : impl_JpGetUnsafeString.esc k l = some (n, xs)) : 2 ≤ l.length := by
 unfold impl_JpGetUnsafeString.esc at h
 split at h
 ·cases h
 ·omega
theorem impl_JpGetUnsafeString.row_cell {w : World} {g : Nat} {ty : TypeId} {cur : List Value} {acc : List Int} (h1 : w.heap[g]? = some (.cells cur.toArray ty (0, 0))) (h3 : cur.take acc.length = nums .u8 acc) (j : Nat) (hj : j < acc.length) : w.cell? ⟨g, 0 + j, none⟩ = some (.int .u8 (acc.getD j 0)) := by
 rw [Nat.zero_add]
 have hg : (nums .u8 acc)[j]? = some (.int .u8 (acc.getD j 0)) := by simp [nums, List.getElem?_eq_getElem hj, List.getD_eq_getElem?_getD]
 rw [← h3, List.getElem?_take_of_lt hj] at hg
 unfold World.cell?
 rw [h1]
 simp [hg]
set_option maxHeartbeats 8000000 in
set_option maxRecDepth 100000 in
theorem impl_JpGetUnsafeString.uc_calls (k : Nat) (ad : Addr) (had : ad.spot = none) (c : Nat) (l out : List Int) (g0 B : Nat) (cur0 : List Value) (ty : TypeId) (w : World) (hl : l.length ≤ 1000000) (hc : l.length ≤ c) (hcel : impl_JpGetUnsafeString.Cel w ad l) (hab : ad.block < B) (hB : B ≤ g0) (hBw : B ≤ w.heap.size)
  (hg : w.heap[g0]? = some (.cells cur0.toArray ty (0, 0))) (h64 : cur0.length = 64) (hGB : ∀ w', Below B w w' → Glob w') (hby : ∀ x ∈ l, 0 ≤ x ∧ x ≤ 255) (h : impl_JpGetUnsafeString.full k l = some out) :
  Calls Tryd.prog 35 #[.agg #[.bool false, .bool false, .int .i64 0], .slice (some ad) l.length c, .slice (some ⟨g0, 0, none⟩) 64 64] w (impl_JpGetUnsafeString.Post B g0 ty l w out) := by
 unfold impl_JpGetUnsafeString.full at h
 have hr := impl_JpGetUnsafeString.bsl_range l
 have HGB := aj hGB
 have HC := aj hcel
 have HBB := aj hB
 have HBW := aj hBw
 have HGG := aj hg
 have HBY := aj hby
 have H64 := aj h64
 have HAB := aj hab
 have HGL0 : Aside0 (g0 < w.heap.size) := ⟨by
  refine Nat.lt_of_not_le fun hle => ?_
  rw [Array.getElem?_eq_none hle] at hg
  cases hg⟩
 have HB1 := aj (XWords.below_alloc0 (Nat.le_refl _) (Below.refl w.heap.size w) (.cells #[.bool false, .bool false, .int .i64 0] 61))
 have HC1 := aj (HC.out.below HB1.out)
 have HE := aj (impl_JpGetUnsafeString.bsl_eq l hby)
 have HR := aj hr
 clear hGB hcel hB hBw hg hby h64 hr hab
 by_cases c1 : impl_JpGetUnsafeString.bsl l = -1
 ·rw [if_pos c1] at h
  obtain rfl := Option.some.inj h
  have e1 : (impl_JpGetUnsafeString.bsl l == -1) = true := beq_iff_eq.mpr c1
  clear c1 h
  go_enter Tryd.func35, Tryd.ntmps35
  go_wp2_with fail
  refine (Tryd.bytes_IndexByte_at ad l.length c l 92 _ rfl HC1.out).mono ?_
  rintro e w' ⟨rfl, rfl⟩
  rw [HE.out]
  go_wp2
  go_ret2
  refine ⟨ad.block, ad.off, l.length, c, ?_, rfl, ?_, (XWords.below_alloc0 HBW.out (Below.refl _ _) _), Or.inl (beq_iff_eq.mp e1)⟩
  ·have e0 : ad = ⟨ad.block, ad.off, none⟩ := by cases ad; simp only [] at had; rw [had]
   exact congrArg (fun x => Ending.returned (.tuple #[.slice (some x) l.length c, .nilIface])) e0
  ·intro j hj
   have h0 := HC1.out j hj
   have e0 : ad = ⟨ad.block, ad.off, none⟩ := by cases ad; simp only [] at had; rw [had]
   have ea : ad.add j = ⟨ad.block, ad.off + j, none⟩ := by
    rw [e0]
    unfold Addr.add
    split
    ·rename_i hz; simp [hz]
    ·rfl
   rw [ea] at h0
   exact h0
 ·rw [if_neg c1] at h
  obtain ⟨q, hq, h⟩ := Option.bind_eq_some_iff.mp h
  obtain rfl := Option.some.inj h
  have e1 : (impl_JpGetUnsafeString.bsl l == -1) = false := beq_eq_false_iff_ne.mpr c1
  obtain ⟨i, hi⟩ : ∃ i : Nat, impl_JpGetUnsafeString.bsl l = (i : Int) := ⟨(impl_JpGetUnsafeString.bsl l).toNat, by have := HR.out; omega⟩
  have hil : i < l.length := by have := HR.out; omega
  rw [hi] at e1 hq
  rw [Int.toNat_natCast] at hq
  have HI := aj hi
  have HIL := aj hil
  have HQ := aj hq
  have HL := aj hl
  have HCC := aj hc
  have HEI : Aside0 (Lib.indexByte (Lib.bytesOf l) (92 : Int).toNat.toUInt8 = (i : Int)) := ⟨HE.out.trans hi⟩
  clear c1 h hq hi
  rw [HI.out, Int.toNat_natCast]
  obtain ⟨ti, htI, hts⟩ : ∃ ti, Tryd.prog.info? 5 = some ti ∧ ti.size = 1 := by
   have h0 : (Tryd.prog.info? 5).map (·.size) = some 1 := by kernel_rfl
   obtain ⟨a, b, c⟩ := Option.map_eq_some_iff.mp h0
   exact ⟨a, b, c⟩
  obtain ⟨adI, hcI, haI, hbI⟩ := impl_JpGetUnsafeString.cut_from (P := Tryd.prog) 53 5 Tryd.underlying53 htI hts ad l.length c i (by omega)
  have HCI := aj hcI
  have HAI := aj haI
  have HBI := aj hbI
  have HTI := aj htI
  have HTS := aj hts
  clear hcI haI hbI htI hts
  go_enter Tryd.func35, Tryd.ntmps35
  go_wp2_with fail
  refine (Tryd.bytes_IndexByte_at ad l.length c l 92 _ rfl HC1.out).mono ?_
  rintro e w' ⟨rfl, rfl⟩
  rw [HEI.out]
  go_upto_if 22 with (fail)
  go_cut [2] (fun v2 wc => ∃ (g C : Nat) (ty' : TypeId), v2 = .slice (some ⟨g, 0, none⟩) l.length C ∧ Aside0 (l.length ≤ C) ∧ Aside0 (B ≤ g) ∧ Aside0 (impl_JpGetUnsafeString.Inv B g0 ty w wc g l.length w.heap.size ty' []))
  case first =>
   have hgl : g0 < w.heap.size := by
    refine Nat.lt_of_not_le fun hle => ?_
    have := HGG.out
    rw [Array.getElem?_eq_none hle] at this
    cases this
   have HGL := aj hgl
   clear hgl
   by_cases c2 : (64 : Int) < (l.length : Int)
   ·have e2 : decide ((64 : Int) < (l.length : Int)) = true := decide_eq_true c2
    have e3 : decide (64 < l.length) = true := decide_eq_true (by omega)
    (rw [e2])
    have hmk := fun W => print_make (P := Tryd.prog) 53 5 .u8 1 Tryd.underlying53 info5 (by omega) l.length (by omega) W
    go_wp2
    go_meet
    case rel => exact ⟨_, l.length, 5, rfl, ⟨Nat.le_refl _⟩, ⟨by have := HBW.out; omega⟩, ⟨⟨XWords.below_alloc0 (by rw [World.size_alloc]; have := HBW.out; omega) (XWords.below_alloc0 HBW.out (Below.refl _ _) _) _, ⟨(madeCells #[.int .u8 0] l.length).toList, (by have h0 := heap_alloc_new (w.alloc (.cells #[.bool false, .bool false, .int .i64 0] 61)) (.cells (madeCells #[.int .u8 0] l.length) 5); rw [World.size_alloc] at h0; rw [h0]), by simp [madeCells], rfl⟩, by rw [impl_JpGetUnsafeString.heap_alloc_lt _ _ (by rw [World.size_alloc]; omega)]; exact heap_alloc_new _ _, by omega, ⟨fun b hb hne => (impl_JpGetUnsafeString.heap_alloc_lt _ _ (by rw [World.size_alloc]; omega)).trans (impl_JpGetUnsafeString.heap_alloc_lt _ _ hb), Or.inr (by omega), ⟨cur0, ((impl_JpGetUnsafeString.heap_alloc_lt _ _ (by rw [World.size_alloc]; have := HGL.out; omega)).trans (impl_JpGetUnsafeString.heap_alloc_lt _ _ HGL.out)).trans HGG.out, H64.out⟩⟩⟩⟩⟩
   ·have e2 : decide ((64 : Int) < (l.length : Int)) = false := decide_eq_false c2
    have e3 : decide (64 < l.length) = false := decide_eq_false (by omega)
    (rw [e2])
    go_wp2
    go_meet
    case rel => exact ⟨g0, 64, ty, rfl, ⟨by omega⟩, HBB, ⟨⟨XWords.below_alloc0 HBW.out (Below.refl _ _) _, ⟨cur0, (impl_JpGetUnsafeString.heap_alloc_lt _ _ HGL.out).trans HGG.out, by have := H64.out; omega, rfl⟩, heap_alloc_new _ _, by have := HGL.out; omega, ⟨fun b hb hne => impl_JpGetUnsafeString.heap_alloc_lt _ _ hb, Or.inl rfl, ⟨cur0, (impl_JpGetUnsafeString.heap_alloc_lt _ _ HGL.out).trans HGG.out, H64.out⟩⟩⟩⟩⟩
  case rest =>
   obtain ⟨g, C, ty', rfl, HC2, HBg, HV⟩ := hcut
   obtain ⟨cur, hcu, hcl, _⟩ := HV.out.row
   have HCU := aj hcu
   have HCLN := aj hcl
   clear hcu hcl
   have HSZ : Aside0 ((Tryd.prog.info? 5).map (·.size) = some 1) := ⟨by kernel_rfl⟩
   have hic : (i : Int) ≤ (c : Int) := by have := HCC.out; omega
   have hile : i ≤ l.length := by omega
   have HILE := aj hile
   have HTK : Aside0 ((l.take i).length = i) := ⟨by rw [List.length_take]; omega⟩
   have HCELT : Aside0 (impl_JpGetUnsafeString.Cel wc ad (l.take i)) := ⟨(HC.out.belowB HV.out.below HAB.out).take i⟩
   have HFIT : Aside0 (0 + (l.take i).length ≤ cur.length) := ⟨by rw [HTK.out]; have := HCLN.out; omega⟩
   obtain ⟨adO, hcO, haO, _⟩ := impl_JpGetUnsafeString.cut_from (P := Tryd.prog) 53 5 Tryd.underlying53 HTI.out HTS.out ⟨g, 0, none⟩ l.length C i hile
   have hcI := HCI.out
   have HAO := aj haO
   clear haO
   go_wp2_with ((with_reducible refine impl_JpGetUnsafeString.copy_keep rfl (.tmp 30) (.tmp 33) 53 53 rfl 5 Tryd.underlying53 HSZ.out ⟨g, 0, none⟩ ad l.length C i c rfl rfl g 0 cur ty' HCU.out (l.take i) HTK.out HILE.out (fun _ => rfl) HCELT.out HFIT.out ?_); intro w3 hw3 hoth hbel; have HW3 := aj hw3; have HOTH := aj hoth; have HBEL := aj hbel; clear hw3 hoth hbel)
   clear hcI hcO
   have HV3 : Aside0 (impl_JpGetUnsafeString.Inv B g0 ty w w3 g l.length w.heap.size ty' (l.take i)) := ⟨⟨HBEL.out B w HV.out.below HBg.out, ⟨_, HW3.out, by
     rw [length_splice _ _ _ (by rw [show (nums .u8 (l.take i)).length = (l.take i).length from nums_length _ _]; exact HFIT.out)]
     exact HCLN.out, by
     have := impl_JpGetUnsafeString.splice_take cur [] (l.take i) rfl (by rw [List.length_nil]; exact HFIT.out)
     simpa using this⟩, (HOTH.out _ HV.out.ne).trans HV.out.box, HV.out.ne, HV.out.kp.step HV.out.below.size HGL0.out (fun b _ hb => HOTH.out b hb) HCU.out HW3.out (length_splice _ _ _ (by rw [show (nums .u8 (l.take i)).length = (l.take i).length from nums_length _ _]; exact HFIT.out))⟩⟩
   clear HV HCU HCLN HFIT HW3 HOTH HBEL HCELT
   try simp only [Act.put, List.setIfInBounds_toArray, List.set_cons_succ, List.set_cons_zero]
   go_loopg [1, 9] k (fun kq v1 v9 w' => ∃ (ad1 ad9 : Addr) (n1 c1 n9 c9 : Nat) (l1 acc rest : List Int), v1 = .slice (some ad1) n1 c1 ∧ v9 = .slice (some ad9) n9 c9 ∧ Aside0 (impl_JpGetUnsafeString.un kq l1 = some rest) ∧ Aside0 (n1 = l1.length) ∧ Aside0 (n1 ≤ c1) ∧ Aside0 (n9 + acc.length = l.length ∧ c9 + acc.length = C ∧ acc.length + n1 ≤ l.length) ∧ Aside0 (impl_JpGetUnsafeString.Cel w' ad1 l1 ∧ ad1.block < B) ∧ Aside0 (∀ x ∈ l1, 0 ≤ x ∧ x ≤ 255) ∧ Aside0 (acc ++ rest = l.take i ++ q) ∧ Aside0 (0 < c9 → ad9 = ⟨g, acc.length, none⟩) ∧ Aside0 (impl_JpGetUnsafeString.Inv B g0 ty w w' g l.length w.heap.size ty' acc) ∧ Aside0 (kq ≤ k))
   case atStart => exact ⟨adI, adO, l.length - i, c - i, l.length - i, C - i, l.drop i, l.take i, q, rfl, rfl, HQ, ⟨by rw [List.length_drop]⟩, ⟨by have := HCC.out; omega⟩, ⟨by rw [HTK.out]; have := HC2.out; omega⟩, ⟨by
     have hic2 : i < c := by have := HCC.out; have := HIL.out; omega
     rw [HAI.out hic2]
     exact ((HC.out.belowB HV3.out.below HAB.out).drop i), by rw [HBI.out]; exact HAB.out⟩, ⟨fun x hx => HBY.out x (List.mem_of_mem_drop hx)⟩, ⟨rfl⟩, ⟨fun h0 => by rw [HAO.out (by omega), add_plain, HTK.out]⟩, HV3, ⟨Nat.le_refl _⟩⟩
   case round =>
    clear HV3 HQ HAI HBI HAO HCI HIL HILE HTK HI HEI
    obtain ⟨ad1, ad9, n1, c1, n9, c9, l1, acc, rest, rfl, rfl, HU, HN1, HC1', HNN, HCE, HBY1, HACC, HA9, HV, HK⟩ := hrel
    cases gk with
    | zero => exact absurd HU.out (by simp [impl_JpGetUnsafeString.un])
    | succ k1 =>
     have h := HU.out
     clear HU
     rw [impl_JpGetUnsafeString.un] at h
     obtain ⟨⟨n, xs⟩, hesc, h⟩ := Option.bind_eq_some_iff.mp h
     simp only [] at h
     by_cases cc : 0 ≤ n ∧ n ≤ l1.length ∧ (xs.length : Int) ≤ n
     ·rw [if_pos cc] at h
      obtain ⟨m1, m2, m3⟩ := cc
      obtain ⟨nn, rfl⟩ : ∃ nn : Nat, n = (nn : Int) := ⟨n.toNat, by omega⟩
      rw [Int.toNat_natCast] at h
      obtain rfl : n1 = l1.length := HN1.out
      have hl2 : 2 ≤ l1.length := impl_JpGetUnsafeString.esc_len hesc
      obtain rfl : ad9 = ⟨g, acc.length, none⟩ := HA9.out (by have := HNN.out; have := HC2.out; omega)
      obtain ⟨cur9, hcu9, hcl9, htk9⟩ := HV.out.row
      have hx9 : xs.length ≤ n9 := by have := HNN.out; omega
      have hfit9 : acc.length + n9 ≤ cur9.length := by have := HNN.out; omega
      have hwr : B ≤ wr.heap.size := by
       have h1 := HV.out.below.size
       have := HBW.out
       omega
      have hcfg := impl_JpGetUnsafeString.config_calls (k1 + 1) ad1 c1 l1 g acc.length n9 c9 B cur9 ty' nn xs wr (HCE.out.1.kd (by have := HNN.out; have := HL.out; omega)) HC1'.out hcu9 HBg.out hwr hx9 hfit9 (HGB.out wr HV.out.below) hesc
      have HCONF := aj hcfg
      have HTK9 := aj htk9
      have HCU9 := aj hcu9
      have HCL9 := aj hcl9
      have HX9 := aj hx9
      have HMM1 := aj m1
      have HMM2 := aj m2
      have HMM3 := aj m3
      have HF9 := aj hfit9
      have HLL : Aside0 (l1.length ≤ 1000000) := ⟨by have := HNN.out; have := HL.out; omega⟩
      obtain ⟨hb0, hb1, hb2⟩ := HV.out.box0
      have hbx : w.heap.size < wr.heap.size := by
       refine Nat.lt_of_not_le fun hle => ?_
       have h0 := HV.out.box
       rw [Array.getElem?_eq_none hle] at h0
       cases h0
      have HBX := aj hbx
      have hnl : nn ≤ l1.length := by omega
      have hxn : xs.length ≤ nn := by omega
      have HNL := aj hnl
      have HXN := aj hxn
      have enn : ((nn : Int) == -1) = false := beq_eq_false_iff_ne.mpr (by omega)
      obtain ⟨ad2, hc2', ha2, hb2'⟩ := impl_JpGetUnsafeString.cut_from (P := Tryd.prog) 53 5 Tryd.underlying53 HTI.out HTS.out ad1 l1.length c1 nn hnl
      obtain ⟨ad3, hc3', ha3, _⟩ := impl_JpGetUnsafeString.cut_from (P := Tryd.prog) 53 5 Tryd.underlying53 HTI.out HTS.out ⟨g, acc.length, none⟩ n9 c9 xs.length hx9
      have HA2 := aj ha2
      have HA3 := aj ha3
      have HB2 := aj hb2'
      have H' := aj h
      clear h ha2 ha3 hb2' hcu9 hcl9 htk9 hx9 hfit9 hwr hcfg m1 m2 m3 hesc hnl hxn hbx HA9
      go_upto_if 49 with (go_at_call 48; (with_reducible refine HCONF.out.mono ?_); rintro e w4 ⟨rfl, hw4a, hw4b, hw4c⟩; have HW4A := aj hw4a; have HW4B := aj hw4b; have HW4C := aj hw4c; clear hw4a hw4b hw4c)
      clear hb0 hb1 hb2
      have HV4 : Aside0 (impl_JpGetUnsafeString.Inv B g0 ty w w4 g l.length w.heap.size ty' (acc ++ xs)) := ⟨⟨HV.out.below.trans HW4A.out, ⟨_, HW4B.out, by
        rw [length_splice _ _ _ (by rw [show (nums .u8 xs).length = xs.length from nums_length _ _]; have := HX9.out; have := HF9.out; omega)]
        exact HCL9.out, impl_JpGetUnsafeString.splice_take cur9 acc xs HTK9.out (by have := HX9.out; have := HF9.out; omega)⟩, (HW4C.out _ HBX.out HV.out.ne).trans HV.out.box, HV.out.ne, HV.out.kp.step HV.out.below.size HGL0.out (fun b hb hne => HW4C.out b hb hne) HCU9.out HW4B.out (length_splice _ _ _ (by rw [show (nums .u8 xs).length = xs.length from nums_length _ _]; have := HX9.out; have := HF9.out; omega))⟩⟩
      have HCE4 : Aside0 (impl_JpGetUnsafeString.Cel w4 ad2 (l1.drop nn)) := ⟨by
       by_cases hz : nn < c1
       ·rw [HA2.out hz]
        exact (HCE.out.1.belowB HW4A.out HCE.out.2).drop nn
       ·intro j hj
        rw [List.length_drop] at hj
        have := HC1'.out
        omega⟩
      have HAB2 : Aside0 (ad2.block < B) := ⟨by rw [HB2.out]; exact HCE.out.2⟩
      have HBY2 : Aside0 (∀ x ∈ l1.drop nn, 0 ≤ x ∧ x ≤ 255) := ⟨fun x hx => HBY1.out x (List.mem_of_mem_drop hx)⟩
      have HDL : Aside0 ((l1.drop nn).length = l1.length - nn) := ⟨List.length_drop⟩
      have HE2 := aj (impl_JpGetUnsafeString.bsl_eq (l1.drop nn) HBY2.out)
      have HR2 := aj (impl_JpGetUnsafeString.bsl_range (l1.drop nn))
      have h := H'.out
      clear H' HV HW4A HW4B HW4C HCONF HTK9 HCL9
      by_cases q1 : impl_JpGetUnsafeString.bsl (l1.drop nn) = -1
      ·rw [if_pos q1] at h
       obtain rfl := Option.some.inj h
       have HQ1 : Aside0 (Lib.indexByte (Lib.bytesOf (l1.drop nn)) (92 : Int).toNat.toUInt8 = -1) := ⟨HE2.out.trans q1⟩
       clear h q1
       have hle1 : l1.length - nn ≤ n9 - xs.length := by have := HNN.out; have := HXN.out; have := HNL.out; omega
       obtain ⟨ad4, hc4', _, _⟩ := impl_JpGetUnsafeString.cut_from (P := Tryd.prog) 53 5 Tryd.underlying53 HTI.out HTS.out ad3 (n9 - xs.length) (c9 - xs.length) (l1.length - nn) hle1
       obtain ⟨cur5, hcu5, hcl5, htk5⟩ := HV4.out.row
       have HCU5 := aj hcu5
       have HLE1 := aj hle1
       have HTK5 := aj htk5
       have HCL5 := aj hcl5
       have HDA : Aside0 (0 < (l1.drop nn).length → ad3 = ⟨g, (acc ++ xs).length, none⟩) := ⟨fun h0 => by
        rw [HDL.out] at h0
        rw [HA3.out (by have := HNN.out; have := HC2.out; have := HXN.out; omega), List.length_append]
        unfold Addr.add
        split
        ·rename_i hz; rw [hz, Nat.add_zero]
        ·rfl⟩
       have HFT : Aside0 ((acc ++ xs).length + (l1.drop nn).length ≤ cur5.length) := ⟨by
        rw [HDL.out, List.length_append]
        have := HNN.out; have := HCL5.out; have := HXN.out; have := HNL.out
        omega⟩
       obtain ⟨p, hp⟩ : ∃ p : Nat, p = acc.length + xs.length + (l1.length - nn) := ⟨_, rfl⟩
       have hwl : wrap64 ((l.length : Int) - ((n9 - xs.length - (l1.length - nn) : Nat) : Int)) = (p : Int) := by
        have := HNN.out; have := HXN.out; have := HNL.out; have := HL.out; have := HX9.out
        unfold wrap64
        omega
       have hpC : p ≤ C := by have := HNN.out; have := HXN.out; have := HNL.out; have := HC2.out; omega
       have HP := aj hp
       clear hcu5 hcl5 htk5 hle1 hp
       go_wp2_with fail
       refine (Tryd.bytes_IndexByte_at ad2 (l1.length - nn) (c1 - nn) (l1.drop nn) 92 _ HDL.out (by have h0 := HCE4.out; unfold impl_JpGetUnsafeString.Cel at h0; rw [HDL.out] at h0; exact h0)).mono ?_
       rintro e w5 ⟨rfl, rfl⟩
       rw [HQ1.out]
       go_wp2_with ((with_reducible refine impl_JpGetUnsafeString.copy_keep rfl (.tmp 61) (.tmp 62) 53 53 rfl 5 Tryd.underlying53 HSZ.out ad3 ad2 (n9 - xs.length) (c9 - xs.length) (l1.length - nn) (c1 - nn) rfl rfl g (acc ++ xs).length cur5 ty' HCU5.out (l1.drop nn) HDL.out HLE1.out HDA.out HCE4.out HFT.out ?_); intro w6 hw6 hoth6 hbel6; have HW6 := aj hw6; have HOTH6 := aj hoth6; have HBEL6 := aj hbel6; clear hw6 hoth6 hbel6)
       go_ret2
       have hpl : p = (acc ++ (xs ++ l1.drop nn)).length := by rw [HP.out, List.length_append, List.length_append, HDL.out]; omega
       refine ⟨g, 0, p, C, rfl, by rw [← HACC.out]; exact hpl, ?_, HBEL6.out B w HV4.out.below HBg.out, Or.inr (HV4.out.kp.step HV4.out.below.size HGL0.out (fun b _ hb => HOTH6.out b hb) HCU5.out HW6.out (length_splice _ _ _ (by rw [show (nums .u8 (l1.drop nn)).length = (l1.drop nn).length from nums_length _ _]; exact HFT.out)))⟩
       intro j hj
       have h0 := impl_JpGetUnsafeString.splice_take cur5 (acc ++ xs) (l1.drop nn) HTK5.out HFT.out
       rw [List.append_assoc] at h0
       rw [← HACC.out]
       exact impl_JpGetUnsafeString.row_cell HW6.out h0 j (by rw [← hpl]; exact hj)
      ·rw [if_neg q1] at h
       obtain ⟨q2, hq2, h⟩ := Option.bind_eq_some_iff.mp h
       obtain rfl := Option.some.inj h
       obtain ⟨jj, hjj⟩ : ∃ jj : Nat, impl_JpGetUnsafeString.bsl (l1.drop nn) = (jj : Int) := ⟨(impl_JpGetUnsafeString.bsl (l1.drop nn)).toNat, by have := HR2.out; omega⟩
       have hjl : jj < l1.length - nn := by have := HR2.out; have := HDL.out; omega
       have HQ1 : Aside0 (Lib.indexByte (Lib.bytesOf (l1.drop nn)) (92 : Int).toNat.toUInt8 = (jj : Int)) := ⟨HE2.out.trans hjj⟩
       have ejj : ((jj : Int) == -1) = false := beq_eq_false_iff_ne.mpr (by omega)
       rw [hjj, Int.toNat_natCast] at hq2
       have HACC2 : Aside0 (acc ++ (xs ++ ((l1.drop nn).take jj ++ q2)) = l.take i ++ q) := ⟨by
        have := HACC.out
        rw [hjj, Int.toNat_natCast] at this
        exact this⟩
       have HQ2 := aj hq2
       have hle1 : jj ≤ n9 - xs.length := by have := HNN.out; have := HXN.out; have := HNL.out; omega
       have hle2 : jj ≤ l1.length - nn := by omega
       obtain ⟨ad4, hc4', ha4, _⟩ := impl_JpGetUnsafeString.cut_from (P := Tryd.prog) 53 5 Tryd.underlying53 HTI.out HTS.out ad3 (n9 - xs.length) (c9 - xs.length) jj hle1
       obtain ⟨ad5, hc5', ha5, hb5'⟩ := impl_JpGetUnsafeString.cut_from (P := Tryd.prog) 53 5 Tryd.underlying53 HTI.out HTS.out ad2 (l1.length - nn) (c1 - nn) jj hle2
       obtain ⟨cur5, hcu5, hcl5, htk5⟩ := HV4.out.row
       have HCU5 := aj hcu5
       have HLE1 := aj hle1
       have HTK5 := aj htk5
       have HCL5 := aj hcl5
       have HA4 := aj ha4
       have HA5 := aj ha5
       have HB5 := aj hb5'
       have HJL := aj hjl
       have hjc : (jj : Int) ≤ ((c1 - nn : Nat) : Int) := by have := HC1'.out; omega
       have HTJ : Aside0 (((l1.drop nn).take jj).length = jj) := ⟨by rw [List.length_take, HDL.out]; omega⟩
       have HCEJ : Aside0 (impl_JpGetUnsafeString.Cel w4 ad2 ((l1.drop nn).take jj)) := ⟨HCE4.out.take jj⟩
       have HDA : Aside0 (0 < ((l1.drop nn).take jj).length → ad3 = ⟨g, (acc ++ xs).length, none⟩) := ⟨fun h0 => by
        rw [HA3.out (by have := HNN.out; have := HC2.out; have := HXN.out; have := HJL.out; omega), List.length_append]
        unfold Addr.add
        split
        ·rename_i hz; rw [hz, Nat.add_zero]
        ·rfl⟩
       have HFT : Aside0 ((acc ++ xs).length + ((l1.drop nn).take jj).length ≤ cur5.length) := ⟨by
        rw [HTJ.out, List.length_append]
        have := HNN.out; have := HCL5.out; have := HXN.out; have := HNL.out; have := HJL.out
        omega⟩
       clear hcu5 hcl5 htk5 hle1 hle2 ha4 ha5 hb5' hjl hq2 h hjj q1
       go_wp2_with fail
       refine (Tryd.bytes_IndexByte_at ad2 (l1.length - nn) (c1 - nn) (l1.drop nn) 92 _ HDL.out (by have h0 := HCE4.out; unfold impl_JpGetUnsafeString.Cel at h0; rw [HDL.out] at h0; exact h0)).mono ?_
       rintro e w5 ⟨rfl, rfl⟩
       rw [HQ1.out]
       go_wp2_with ((with_reducible refine impl_JpGetUnsafeString.copy_keep rfl (.tmp 68) (.tmp 71) 53 53 rfl 5 Tryd.underlying53 HSZ.out ad3 ad2 (n9 - xs.length) (c9 - xs.length) jj (c1 - nn) rfl rfl g (acc ++ xs).length cur5 ty' HCU5.out ((l1.drop nn).take jj) HTJ.out HLE1.out HDA.out HCEJ.out HFT.out ?_); intro w6 hw6 hoth6 hbel6; have HW6 := aj hw6; have HOTH6 := aj hoth6; have HBEL6 := aj hbel6; clear hw6 hoth6 hbel6)
       go_roundg k1
       case measure => omega
       case rel => exact ⟨ad5, ad4, l1.length - nn - jj, c1 - nn - jj, n9 - xs.length - jj, c9 - xs.length - jj, (l1.drop nn).drop jj, acc ++ (xs ++ (l1.drop nn).take jj), q2, rfl, rfl, HQ2, ⟨by rw [List.length_drop, HDL.out]⟩, ⟨by have := HC1'.out; omega⟩, ⟨by
        rw [List.length_append, List.length_append, HTJ.out]
        have := HNN.out; have := HXN.out; have := HNL.out; have := HJL.out; have := HC2.out; have := HX9.out
        omega⟩, ⟨by
        have hz : jj < c1 - nn := by have := HC1'.out; have := HJL.out; omega
        rw [HA5.out hz]
        exact ((HCE4.out.belowB (HBEL6.out B _ (Below.refl _ _) HBg.out) HAB2.out).drop jj), by rw [HB5.out]; exact HAB2.out⟩, ⟨fun x hx => HBY2.out x (List.mem_of_mem_drop hx)⟩, ⟨by rw [← HACC2.out, List.append_assoc, List.append_assoc]⟩, ⟨fun h0 => by
        rw [HA4.out (by omega), HA3.out (by omega), List.length_append, List.length_append, HTJ.out]
        unfold Addr.add
        by_cases z1 : xs.length = 0 <;> by_cases z2 : jj = 0 <;> simp [z1, z2, Nat.add_assoc]⟩, ⟨⟨HBEL6.out B w HV4.out.below HBg.out, ⟨_, HW6.out, by
         rw [length_splice _ _ _ (by rw [show (nums .u8 ((l1.drop nn).take jj)).length = ((l1.drop nn).take jj).length from nums_length _ _]; exact HFT.out)]
         exact HCL5.out, by
         have h0 := impl_JpGetUnsafeString.splice_take cur5 (acc ++ xs) ((l1.drop nn).take jj) HTK5.out HFT.out
         rw [List.append_assoc] at h0
         exact h0⟩, (HOTH6.out _ HV4.out.ne).trans HV4.out.box, HV4.out.ne, HV4.out.kp.step HV4.out.below.size HGL0.out (fun b _ hb => HOTH6.out b hb) HCU5.out HW6.out (length_splice _ _ _ (by rw [show (nums .u8 ((l1.drop nn).take jj)).length = ((l1.drop nn).take jj).length from nums_length _ _]; exact HFT.out))⟩⟩, ⟨by have := HK.out; omega⟩⟩
     ·rw [if_neg cc] at h
      cases h
/-! ### How names are read -/
theorem impl_JpGetUnsafeString.un_le : ∀ (k : Nat) (l out : List Int), impl_JpGetUnsafeString.un k l = some out → out.length ≤ l.length
 | 0, l, out, h => by rw [impl_JpGetUnsafeString.un] at h; cases h
 | k + 1, l, out, h => by
  rw [impl_JpGetUnsafeString.un] at h
  obtain ⟨⟨n, xs⟩, hesc, h⟩ := Option.bind_eq_some_iff.mp h
  simp only [] at h
  by_cases cc : 0 ≤ n ∧ n ≤ l.length ∧ (xs.length : Int) ≤ n
  ·rw [if_pos cc] at h
   by_cases q1 : impl_JpGetUnsafeString.bsl (l.drop n.toNat) = -1
   ·rw [if_pos q1] at h
    obtain rfl := Option.some.inj h
    rw [List.length_append, List.length_drop]
    omega
   ·rw [if_neg q1] at h
    obtain ⟨q, hq, h⟩ := Option.bind_eq_some_iff.mp h
    obtain rfl := Option.some.inj h
    have := impl_JpGetUnsafeString.un_le k _ _ hq
    rw [List.length_drop, List.length_drop] at this
    rw [List.length_append, List.length_append, List.length_take, List.length_drop]
    omega
  ·rw [if_neg cc] at h; cases h
theorem impl_JpGetUnsafeString.full_le (k : Nat) (l out : List Int) (h : impl_JpGetUnsafeString.full k l = some out) : out.length ≤ l.length := by
 unfold impl_JpGetUnsafeString.full at h
 by_cases c : impl_JpGetUnsafeString.bsl l = -1
 ·rw [if_pos c] at h
  obtain rfl := Option.some.inj h
  exact Nat.le_refl _
 ·rw [if_neg c] at h
  obtain ⟨q, hq, h⟩ := Option.bind_eq_some_iff.mp h
  obtain rfl := Option.some.inj h
  have := impl_JpGetUnsafeString.un_le k _ _ hq
  rw [List.length_drop] at this
  rw [List.length_append, List.length_take]
  omega
theorem impl_JpGetUnsafeString.bsl_neg : ∀ l : List Int, impl_JpGetUnsafeString.bsl l = -1 ↔ ∀ x ∈ l, x ≠ 92
 | [] => by simp [impl_JpGetUnsafeString.bsl]
 | x :: r => by
  have ih := impl_JpGetUnsafeString.bsl_neg r
  have hr := impl_JpGetUnsafeString.bsl_range r
  rw [impl_JpGetUnsafeString.bsl]
  by_cases c : x = 92
  ·rw [if_pos c]
   constructor
   ·intro h; cases h
   ·intro h; exact absurd c (h x (by simp))
  ·rw [if_neg c]
   by_cases c2 : impl_JpGetUnsafeString.bsl r = -1
   ·rw [if_pos c2]
    constructor
    ·intro _ y hy
     rcases List.mem_cons.mp hy with rfl | hy
     ·exact c
     ·exact ih.mp c2 y hy
    ·intro _; rfl
   ·rw [if_neg c2]
    constructor
    ·intro h; omega
    ·intro h; exact absurd (ih.mpr fun y hy => h y (by simp [hy])) c2
theorem impl_JpGetUnsafeString.rd_get (l : List Int) (j : Nat) : rd l (j : Int) = l.getD j 0 := rfl
theorem impl_JpGetUnsafeString.bsl_two (l : List Int) : StrEnd.bsl l l.length = false ↔ impl_JpGetUnsafeString.bsl l = -1 := by
 rw [impl_JpGetUnsafeString.bsl_neg]
 constructor
 ·intro h x hx
  obtain ⟨j, hj, rfl⟩ := List.getElem_of_mem hx
  have := StrEnd.bsl_free h j hj
  rw [impl_JpGetUnsafeString.rd_get, List.getD_eq_getElem?_getD, List.getElem?_eq_getElem hj] at this
  exact this
 ·intro h
  refine StrEnd.bsl_of_free l.length fun j hj => ?_
  rw [impl_JpGetUnsafeString.rd_get, List.getD_eq_getElem?_getD, List.getElem?_eq_getElem hj]
  exact h _ (List.getElem_mem hj)
/-- A name's bytes and what they stand for. -/
def impl_JpGetUnsafeString.UK : Jp.KeyRel := fun raw u => ∃ k, impl_JpGetUnsafeString.full k raw = some u
theorem impl_JpGetUnsafeString.uk_ok (w0 : World) (hG : Glob w0) : Jp.UKOk impl_JpGetUnsafeString.UK false 0 w0 := by
 refine ⟨fun raw u ⟨k, h⟩ => impl_JpGetUnsafeString.full_le k raw u h, fun raw u ⟨k, h⟩ hb => ?_, fun g o c raw u sb W hW hsb0 ⟨k, h⟩ hb hrow hby hl hc hg hsb hst => ?_⟩
 ·unfold impl_JpGetUnsafeString.full at h
  rw [if_pos ((impl_JpGetUnsafeString.bsl_two raw).mp hb)] at h
  exact (Option.some.inj h).symm
 ·obtain ⟨cur, h1, h2⟩ := hst
  have hcel : impl_JpGetUnsafeString.Cel W ⟨g, o, none⟩ raw := fun j hj => by
   have h0 := hrow j hj
   have ea : (⟨g, o, none⟩ : Addr).add j = ⟨g, o + j, none⟩ := by
    unfold Addr.add
    split
    ·rename_i hz; subst hz; rfl
    ·rfl
   rw [ea]
   exact h0
  have := impl_JpGetUnsafeString.uc_calls k ⟨g, o, none⟩ rfl c raw u sb sb cur 76 W hl hc hcel hg (Nat.le_refl _) (Nat.le_of_lt hsb) h1 h2 (fun w' hb' => hG.below (hW.trans (hb'.mono hsb0))) hby h
  refine this.mono ?_
  rintro e w' ⟨b, o', n, c', rfl, hn, hcells, hbel, hk⟩
  subst hn
  rcases hk with hk | hk
  ·have := (impl_JpGetUnsafeString.bsl_two raw).mpr hk
   rw [hb] at this; cases this
  ·exact ⟨b, o', c', rfl, fun j hj => hcells j hj, hk.gg, hbel, hk.oth, hk.st⟩
/-- The keys lead to this value, as the search finds it. -/
def impl_JpGetUnsafeString.Ok (a0 : ByteArray) (l0 : List ByteArray) (kind b e : Int) : Prop := a0.size ≤ 1000000 ∧ l0.length ≤ 1000000 ∧ Jp.Found impl_JpGetUnsafeString.UK (bytesOf a0) l0 b.toNat (e - b).toNat (Jp.kindOf kind)
def impl_JpGetUnsafeString.val (a0 : ByteArray) (kind b e : Int) : ByteArray := strOfNums (((bytesOf a0).drop (Jp.vb (Jp.kindOf kind) b.toNat)).take (Jp.vn (Jp.kindOf kind) (e - b).toNat))
open Classical in
/-- What GetUnsafeString answers where the reference finds a value (and the search does, too). -/
noncomputable def impl_JpGetUnsafeString.f (k : Nat) (a0 : ByteArray) (l0 : List ByteArray) : Option (ByteArray × Bool) :=
 (laws_jpFound.f k a0 l0).bind fun t => if impl_JpGetUnsafeString.Ok a0 l0 t.1 t.2.1 t.2.2.1 then some (impl_JpGetUnsafeString.val a0 t.1 t.2.1 t.2.2.1, true) else none
set_option maxHeartbeats 4000000 in
set_option maxRecDepth 100000 in
theorem impl_JpGetUnsafeString.calls (k : Nat) (a0 : ByteArray) (A1 : Option Addr) (c1 : Nat) (l1 : List ByteArray) (r1 : ByteArray) (r2 : Bool) (w : World) (hr1 : Kd.C Kd.string w A1 l1.length l1) (hc1 : l1.length ≤ c1) (hG : Glob w) (h : impl_JpGetUnsafeString.f k a0 l1 = some (r1, r2)) :
  Calls Tryd.prog 11 #[.string a0, .slice A1 l1.length c1] w fun e w' => e = .returned (.tuple #[.string r1, .bool r2]) ∧ Below w.heap.size w w' := by
 unfold impl_JpGetUnsafeString.f at h
 obtain ⟨⟨t0, t1, t2, t3, t4, t5⟩, -, h⟩ := Option.bind_eq_some_iff.mp h
 simp only [] at h
 by_cases ok : impl_JpGetUnsafeString.Ok a0 l1 t0 t1 t2
 ·rw [if_pos ok] at h
  simp only [Option.some.injEq, Prod.mk.injEq] at h
  obtain ⟨rfl, rfl⟩ := h
  obtain ⟨hs, hk, hf⟩ := ok
  have kb := fun W => print_bytes (P := Tryd.prog) 9 53 5 Tryd.underlying9 Tryd.underlying53 Tryd.underlying5 a0 W
  have hbb := bytes_below (Below.refl w.heap.size w) (Nat.le_refl _) 5 a0
  have hrow : Jp.Row (Lib.bytesWorld w 5 a0) w.heap.size 0 (bytesOf a0) := by
   have h0 := bytes_reads w 5 a0 (by omega)
   intro j hj
   rw [bytesOf_length] at hj
   obtain ⟨ad, e1, h1⟩ := h0.2.2 (by omega)
   obtain rfl := Option.some.inj e1
   have ea : (⟨w.heap.size, 0, none⟩ : Addr).add j = ⟨w.heap.size, 0 + j, none⟩ := by
    unfold Addr.add
    split
    ·rename_i hz; subst hz; rfl
    ·rfl
   have h2 := h1 j hj
   rw [ea] at h2
   exact h2
  have hby : ∀ x ∈ bytesOf a0, 0 ≤ x ∧ x ≤ 255 := fun x hx => by
   obtain ⟨i, hi, rfl⟩ := List.getElem_of_mem hx
   have := bt_range a0 i
   rw [← rd_bytesOf] at this
   unfold rd at this
   rw [Int.toNat_natCast, List.getD_eq_getElem?_getD, List.getElem?_eq_getElem hi] at this
   exact this
  have hG1 := hG.below hbb
  have hlt := hf.at_.lt
  have hka : ∃ gk ok, (l1 ≠ [] → A1 = some ⟨gk, ok, none⟩) ∧ Jp.Keys (Lib.bytesWorld w 5 a0) gk ok l1 := by
   by_cases hn : l1 = []
   ·subst hn
    exact ⟨0, 0, fun h => absurd rfl h, fun j hj => absurd hj (Nat.not_lt_zero _)⟩
   ·obtain ⟨gk, ok, e, hk⟩ := Jp.keys_of hr1 hn
    exact ⟨gk, ok, fun _ => e, hk.below hbb (World.block_lt_of_cell? w _ (hk 0 (List.length_pos_iff.mpr hn)))⟩
  obtain ⟨gk, ok, ha, hkeys⟩ := hka
  have hI := Jp.get_get _ _ _ _ _ _ _ _ _ (Jp.internal_get _ _ _ _ _ _ _ _ _ hG1 (Jp.inner_found impl_JpGetUnsafeString.UK false 0 w.heap.size 0 (grownCap w a0.size 0 5) (bytesOf a0) gk ok c1 A1 l1 t1.toNat (t2 - t1).toNat (Jp.kindOf t0) (Lib.bytesWorld w 5 a0) hrow hby (by rw [bytesOf_length]; exact hs) (by rw [bytesOf_length]; exact grownCap_ge _ _ _ _) ha hkeys hk hc1 (impl_JpGetUnsafeString.uk_ok _ hG1) hf))
  have hvb : Jp.vn (Jp.kindOf t0) (t2 - t1).toNat ≤ (bytesOf a0).length - Jp.vb (Jp.kindOf t0) t1.toNat := by
   unfold Jp.vn Jp.vb
   have h1 := hlt.2.1
   have h2 := hlt.2.2.1
   split
   ·rename_i h3; have := h2 h3; omega
   ·omega
  have hU := Jp.get_unsafe _ _ _ _ _ _ _ _ (((bytesOf a0).drop (Jp.vb (Jp.kindOf t0) t1.toNat)).take (Jp.vn (Jp.kindOf t0) (t2 - t1).toNat)) (by rw [List.length_take, List.length_drop]; omega) (by rw [List.length_take, List.length_drop, bytesOf_length]; omega) ((hrow.drop _).take _) hI
  rw [bytesOf_length] at hU
  have HU := aj hU
  have HBB := aj hbb
  clear hU hI hvb hkeys ha hlt hG1 hby hrow hbb hf hk hs hr1 hc1 hG
  go_enter Tryd.func11, Tryd.ntmps11
  go_wp2_with fail
  refine HU.out.mono ?_
  rintro e w' ⟨rfl, hb⟩
  have HB := aj (HBB.out.trans (hb.mono (by rw [Lib.bytesWorld_size]; omega)))
  clear hb
  go_wp2
  go_ret2
  exact ⟨rfl, HB.out⟩
 ·rw [if_neg ok] at h; cases h
end Go.Proofs.YtcfhnfjkiljigaaDoor.XFnJpGetUnsafe
end
