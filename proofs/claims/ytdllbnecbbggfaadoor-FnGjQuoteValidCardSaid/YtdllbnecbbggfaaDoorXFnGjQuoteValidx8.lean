-- Written by xprint.py of this session (a program that runs the kit's print and adds to it); Lean checks it.
import Derived.Test.YtdllbnecbbggfaaDoorXFnGjQuoteValidx0
import Derived.Test.YtdllbnecbbggfaaDoorXFnGjQuoteValidx7
namespace Go.Proofs.YtdllbnecbbggfaaDoor.XFnGjQuoteValid
open Go.RowKit Go.Proofs.YtdllbnecbbggfaaDoorW.PrintWords Go.Proofs.YtdllbnecbbggfaaDoorW.PrintLast Go.Proofs.YtdllbnecbbggfaaDoorW.PrintMore
attribute [local go_sem] max2_int min2_int max_two min_two max_three min_three max_four min_four   -- for this text's walks alone
set_option linter.unusedVariables false
set_option linter.unusedSimpArgs false

--EXT
/-! ### gjson_validstring: function 92 (by hand) -/
/-- Where a string that is well ends: only right strings are told. -/
def gjson_validstring.ltr (e : Int) : Bool := e == 34 || e == 92 || e == 47 || e == 98 || e == 102 || e == 110 || e == 114 || e == 116
def gjson_validstring.v : Nat → List Int → Int → Option Int
  | 0, _, _ => none
  | k + 1, l, i =>
    if ¬ i < l.length then none else if rd l i < 32 then none else
    if rd l i = 92 then
      if ¬ i + 1 < l.length then none else
      if gjson_validstring.ltr (rd l (i + 1)) = true then gjson_validstring.v k l (i + 2) else
      if rd l (i + 1) = 117 ∧ i + 5 < l.length ∧ gjson_ishex.f (rd l (i + 2)) = some true ∧ gjson_ishex.f (rd l (i + 3)) = some true ∧ gjson_ishex.f (rd l (i + 4)) = some true ∧ gjson_ishex.f (rd l (i + 5)) = some true then gjson_validstring.v k l (i + 6) else none
    else if rd l i = 34 then some (i + 1) else gjson_validstring.v k l (i + 1)
def gjson_validstring.f (k : Nat) (l0 : List Int) (a1 : Int) : Option (Int × Bool) := if 0 ≤ a1 ∧ a1 ≤ (l0.length : Int) ∧ (l0.length : Int) ≤ 140737488351232 then (gjson_validstring.v k l0 a1).map fun r => (r, true) else none
theorem gjson_validstring.v_mono : ∀ k l i, LeO (gjson_validstring.v k l i) (gjson_validstring.v (k + 1) l i)
  | 0, _, _ => fun _ h => by cases h
  | k + 1, l, i => by
    rw [gjson_validstring.v, gjson_validstring.v]
    exact LeO.ite (LeO.refl _) (LeO.ite (LeO.refl _) (LeO.ite (LeO.ite (LeO.refl _) (LeO.ite (gjson_validstring.v_mono k _ _) (LeO.ite (gjson_validstring.v_mono k _ _) (LeO.refl _)))) (LeO.ite (LeO.refl _) (gjson_validstring.v_mono k _ _))))
theorem gjson_validstring.mono : ∀ l0 a1 k, LeO (gjson_validstring.f k l0 a1) (gjson_validstring.f (k + 1) l0 a1) := by
  intro l0 a1 k
  unfold gjson_validstring.f
  refine LeO.ite (fun r h => ?_) (LeO.refl _)
  obtain ⟨x, hx, rfl⟩ := Option.map_eq_some_iff.mp h
  exact Option.map_eq_some_iff.mpr ⟨x, gjson_validstring.v_mono k _ _ _ hx, rfl⟩
set_option maxHeartbeats 8000000 in
set_option maxRecDepth 100000 in
theorem gjson_validstring.calls (k : Nat) (A0 : Option Addr) (c0 : Nat) (l0 : List Int) (a1 : Int) (r1 : Int) (r2 : Bool) (w : World) (hr0 : Kd.C (Kd.int .u8) w A0 l0.length l0) (hc0 : l0.length ≤ c0) (h : gjson_validstring.f k l0 a1 = some (r1, r2)) :
    Calls Tryd.prog 92 #[.slice A0 l0.length c0, .int .i64 a1] w fun e w' => e = .returned (.tuple #[.int .i64 r1, .bool r2]) ∧ Drawn0 w w' := by
  unfold gjson_validstring.f at h
  by_cases hs : 0 ≤ a1 ∧ a1 ≤ (l0.length : Int) ∧ (l0.length : Int) ≤ 140737488351232
  · rw [if_pos hs] at h
    obtain ⟨h0, h1, h2⟩ := hs
    obtain ⟨r, hv, he⟩ := Option.map_eq_some_iff.mp h
    simp only [Prod.mk.injEq] at he
    obtain ⟨rfl, rfl⟩ := he
    have HR := Aside0.mk hr0
    have HV := Aside0.mk hv
    have HC := Aside0.mk hc0
    clear hr0 h hv hc0
    go_enter Tryd.func92, Tryd.ntmps92
    go_wp2
    go_loopw [1] (fun i wr => ∃ (kk : Nat) (x : Int), 0 ≤ x ∧ x ≤ (l0.length : Int) ∧ i = .int .i64 x ∧ Aside0 (gjson_validstring.v kk l0 x = some r) ∧ Drawn0 w wr) (fun i _ => l0.length - (intOf i).toNat)
    case atStart => exact ⟨k, a1, by omega, by omega, rfl, HV, Drawn0.refl _⟩
    case round =>
      obtain ⟨kk, x, hx0, hk, rfl, hg, nd, rfl⟩ := hrel
      cases kk with
      | zero => have := hg.out; rw [gjson_validstring.v] at this; cases this
      | succ kk =>
      have hg1 := hg.out
      rw [gjson_validstring.v] at hg1
      clear hg HV
      by_cases hlt : x < (l0.length : Int)
      · rw [if_neg (by simpa using hlt)] at hg1
        obtain ⟨ad, e1, hx⟩ := Kd.at_int HR.out x hx0 hlt
        subst e1
        have p1 : (0 ≤ x) = True := eq_true (by omega)
        have q1 : (x < (l0.length : Int)) = True := eq_true (by omega)
        have q1n : (x.toNat < l0.length) = True := eq_true (by omega)
        by_cases h32 : rd l0 x < 32
        · rw [if_pos h32] at hg1
          cases hg1
        rw [if_neg h32] at hg1
        have b1 : decide (rd l0 x < 32) = false := decide_eq_false h32
        by_cases h92 : rd l0 x = 92
        · rw [if_pos h92] at hg1
          rw [h92] at hx
          by_cases hl1 : x + 1 < (l0.length : Int)
          · rw [if_neg (by simpa using hl1)] at hg1
            obtain ⟨ad2, e2, hx1⟩ := Kd.at_int HR.out (x + 1) (by omega) hl1
            obtain rfl : ad = ad2 := (by injection e2)
            have p2 : (0 ≤ x + 1) = True := eq_true (by omega)
            have q2 : (x + 1 < (l0.length : Int)) = True := eq_true (by omega)
            have q2n : ((x + 1).toNat < l0.length) = True := eq_true (by omega)
            have q3 : (x + 1 == (l0.length : Int)) = false := beq_eq_false_iff_ne.mpr (by omega)
            by_cases hL : gjson_validstring.ltr (rd l0 (x + 1)) = true
            · rw [if_pos hL] at hg1
              have HG1 := Aside0.mk hg1
              clear hg1 h32 h92 b1
              unfold gjson_validstring.ltr at hL
              simp only [Bool.or_eq_true, beq_iff_eq] at hL
              rcases hL with ((((((e | e) | e) | e) | e) | e) | e) | e
              all_goals
                rw [e] at hx1
                go_wp2
                go_roundw
                case rel => exact ⟨kk, x + 2, by omega, by omega, (by congr 1; omega), HG1, ⟨_, rfl⟩⟩
                case measure => simp [intOf]; omega
            · rw [if_neg hL] at hg1
              by_cases hU : rd l0 (x + 1) = 117 ∧ x + 5 < l0.length ∧ gjson_ishex.f (rd l0 (x + 2)) = some true ∧ gjson_ishex.f (rd l0 (x + 3)) = some true ∧ gjson_ishex.f (rd l0 (x + 4)) = some true ∧ gjson_ishex.f (rd l0 (x + 5)) = some true
              · rw [if_pos hU] at hg1
                have HG1 := Aside0.mk hg1
                obtain ⟨hu, h5, k2, k3, k4, k5⟩ := hU
                rw [hu] at hx1
                clear hg1 h32 h92 b1 hL hu
                have HK : Aside0 (∀ j : Int, 0 ≤ j → j < 4 → gjson_ishex.f (rd l0 (x + 2 + j)) = some true) := ⟨by
                  intro j j0 j4
                  have : j = 0 ∨ j = 1 ∨ j = 2 ∨ j = 3 := by omega
                  rcases this with rfl | rfl | rfl | rfl
                  · simpa using k2
                  · rw [show x + 2 + 1 = x + 3 by omega]; exact k3
                  · rw [show x + 2 + 2 = x + 4 by omega]; exact k4
                  · rw [show x + 2 + 3 = x + 5 by omega]; exact k5⟩
                clear k2 k3 k4 k5
                go_wp2
                clear hx hx1 p2 q2 q2n q3
                go_loopw [46, 1] (fun jv iv wr => ∃ j : Int, 0 ≤ j ∧ j ≤ 4 ∧ jv = .int .i64 j ∧ iv = .int .i64 (x + 1 + j) ∧ Drawn0 w wr) (fun jv _ _ => 4 - (intOf jv).toNat)
                case atStart => exact ⟨0, by omega, by omega, rfl, (by congr 1; omega), ⟨_, rfl⟩⟩
                case round =>
                  obtain ⟨j, j0, j4, rfl, rfl, nd2, rfl⟩ := hrel
                  by_cases hj : j < 4
                  · obtain ⟨ad3, e3, hx3⟩ := Kd.at_int HR.out (x + 2 + j) (by omega) (by omega)
                    obtain rfl : ad = ad3 := (by injection e3)
                    clear e3
                    have hih := Aside0.mk (HK.out j j0 hj)
                    rw [show x + 2 + j = x + 1 + j + 1 by omega] at hx3 hih
                    have hj4 : (j < 4) = True := eq_true hj
                    have p5 : (0 ≤ x + 1 + j + 1) = True := eq_true (by omega)
                    have q5 : (x + 1 + j + 1 < (l0.length : Int)) = True := eq_true (by omega)
                    have q5n : ((x + 1 + j + 1).toNat < l0.length) = True := eq_true (by omega)
                    have q6 : ((l0.length : Int) ≤ x + 1 + j + 1) = False := eq_false (by omega)
                    have q7 : decide (x + 1 + j + 1 ≥ (l0.length : Int)) = false := decide_eq_false (by omega)
                    go_wp2_with (first | (go_at_call 106; refine (gjson_ishex.calls _ true _ hih.out).mono ?_; rintro e w' ⟨rfl, ⟨nd3, rfl⟩⟩) | ((with_reducible refine gate_callee (f := 106) rfl ?_); refine goesL_ _ rfl rfl Tryd.func106 (by kernel_rfl) rfl #[.int .u8 (rd l0 (x + 1 + j + 1))] rfl (by (try simp only [List.map_toArray, List.map_cons, List.map_nil]); first | done | rfl) ?_; (with_reducible refine (gjson_ishex.calls _ true _ hih.out).mono ?_); rintro e w' ⟨rfl, ⟨nd3, rfl⟩⟩; refine ⟨_, rfl, ?_⟩))
                    go_roundw
                    case rel => exact ⟨j + 1, by omega, by omega, rfl, (by congr 1; omega), ⟨_, rfl⟩⟩
                    case measure => simp [intOf]; omega
                  · obtain rfl : j = 4 := by omega
                    go_wp2
                    go_roundw
                    case rel => exact ⟨kk, x + 6, by omega, by omega, (by congr 1; omega), HG1, ⟨_, rfl⟩⟩
                    case measure => simp [intOf]; omega
              · rw [if_neg hU] at hg1
                cases hg1
          · rw [if_pos (by simpa using hl1)] at hg1
            cases hg1
        · rw [if_neg h92] at hg1
          have b2 : (rd l0 x == 92) = false := beq_eq_false_iff_ne.mpr h92
          by_cases h34 : rd l0 x = 34
          · rw [if_pos h34] at hg1
            obtain rfl := Option.some.inj hg1
            rw [h34] at hx
            go_wp2
            go_ret2
            exact ⟨rfl, ⟨_, rfl⟩⟩
          · rw [if_neg h34] at hg1
            have b3 : (rd l0 x == 34) = false := beq_eq_false_iff_ne.mpr h34
            have HG1 := Aside0.mk hg1
            clear hg1
            go_wp2
            go_roundw
            case rel => exact ⟨kk, x + 1, by omega, by omega, rfl, HG1, ⟨_, rfl⟩⟩
            case measure => simp [intOf]; omega
      · rw [if_pos (by simpa using hlt)] at hg1
        cases hg1
  · rw [if_neg hs] at h
    cases h


end Go.Proofs.YtdllbnecbbggfaaDoor.XFnGjQuoteValid
