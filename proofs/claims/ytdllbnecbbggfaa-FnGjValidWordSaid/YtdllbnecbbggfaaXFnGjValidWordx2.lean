-- Written by xprint.py of this session (a program that runs the kit's print and adds to it); Lean checks it.
import Derived.Test.YtdllbnecbbggfaaXFnGjValidWordx0
namespace Go.Proofs.Ytdllbnecbbggfaa.XFnGjValidWord
open Go.RowKit Go.Proofs.YtdllbnecbbggfaaW.PrintWords Go.Proofs.YtdllbnecbbggfaaW.PrintLast Go.Proofs.YtdllbnecbbggfaaW.PrintMore
attribute [local go_sem] max2_int min2_int max_two min_two max_three min_three max_four min_four   -- for this text's walks alone
set_option linter.unusedVariables false
set_option linter.unusedSimpArgs false

--EXT
/-! ### gjson_validnumber: function 46 (by hand) -/
/-- Only a lone digit '1' with a comma behind it. -/
def gjson_validnumber.f (l0 : List Int) (a1 : Int) : Option (Int × Bool) := if 1 ≤ a1 ∧ a1 < (l0.length : Int) ∧ (l0.length : Int) ≤ 140737488351232 ∧ rd l0 (a1 - 1) = 49 ∧ rd l0 a1 = 44 then (some (a1, true)) else (none)
set_option maxHeartbeats 1000000 in
set_option maxRecDepth 100000 in
theorem gjson_validnumber.calls (A0 : Option Addr) (c0 : Nat) (l0 : List Int) (a1 : Int) (r1 : Int) (r2 : Bool) (w : World) (hr0 : Kd.C (Kd.int .u8) w A0 l0.length l0) (hc0 : l0.length ≤ c0) (h : gjson_validnumber.f l0 a1 = some (r1, r2)) :
    Calls Try.prog 46 #[.slice A0 l0.length c0, .int .i64 a1] w fun e w' => e = .returned (.tuple #[.int .i64 r1, .bool r2]) ∧ Drawn0 w w' := by
  unfold gjson_validnumber.f at h
  by_cases hs : 1 ≤ a1 ∧ a1 < (l0.length : Int) ∧ (l0.length : Int) ≤ 140737488351232 ∧ rd l0 (a1 - 1) = 49 ∧ rd l0 a1 = 44
  · rw [if_pos hs] at h
    obtain ⟨h1, h2, h3, h4, h5⟩ := hs
    simp only [Option.some.injEq, Prod.mk.injEq] at h
    obtain ⟨rfl, rfl⟩ := h
    obtain ⟨ad, e1, hx1⟩ := Kd.at_int hr0 (a1 - 1) (by omega) (by omega)
    obtain ⟨ad2, e2, hx2⟩ := Kd.at_int hr0 a1 (by omega) (by omega)
    subst e1
    obtain rfl : ad = ad2 := (by injection e2)
    clear e2 hr0
    rw [h4] at hx1
    rw [h5] at hx2
    clear h4 h5
    obtain ⟨i, hi⟩ : ∃ i : Nat, a1 - 1 = (i : Int) := ⟨(a1 - 1).toNat, by omega⟩
    obtain ⟨n, rfl⟩ : ∃ n : Nat, a1 = (n : Int) := ⟨a1.toNat, by omega⟩
    rw [hi] at hx1
    rw [Int.toNat_natCast] at hx1 hx2
    have g1 : i < n := by omega
    have g2 : n ≤ i + 1 := by omega
    have HI := Aside0.mk hi
    clear hi
    have hne : ((i : Int) == (l0.length : Int)) = false := beq_eq_false_iff_ne.mpr (by omega)
    have hne2 : ((n : Int) == (l0.length : Int)) = false := beq_eq_false_iff_ne.mpr (by omega)
    have hw : (n : Int) - 1 = (i : Int) := HI.out
    go_enter Try.func46, Try.ntmps46
    go_wp2
    clear hw
    go_loop [1] (fun v => v = .int .i64 (i : Int) ∨ v = .int .i64 (n : Int)) (fun v => (i + 2) - (intOf v).toNat)
    case atStart => exact .inl rfl
    case round =>
      rcases hrel with rfl | rfl
      · go_wp2
        go_round
        case rel => exact .inr (congrArg (Value.int .i64) (by omega))
        case measure => simp [intOf]
      · go_wp2
        go_ret2
        exact ⟨rfl, Drawn0.refl _⟩
  · rw [if_neg hs] at h
    exact absurd h (by simp)


end Go.Proofs.Ytdllbnecbbggfaa.XFnGjValidWord
