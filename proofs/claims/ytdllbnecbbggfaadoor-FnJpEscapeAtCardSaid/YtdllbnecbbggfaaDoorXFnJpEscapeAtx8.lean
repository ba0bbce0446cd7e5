-- Written by xprint.py of this session (a program that runs the kit's print and adds to it); Lean checks it.
import Derived.Test.YtdllbnecbbggfaaDoorXFnJpEscapeAtx0
import Derived.Test.YtdllbnecbbggfaaDoorXFnJpEscapeAtx3
import Derived.Test.YtdllbnecbbggfaaDoorXFnJpEscapeAtx6
import Derived.Test.YtdllbnecbbggfaaDoorXFnJpEscapeAtx7
namespace Go.Proofs.YtdllbnecbbggfaaDoor.XFnJpEscapeAt
open Go.RowKit Go.Proofs.YtdllbnecbbggfaaDoorW.PrintWords Go.Proofs.YtdllbnecbbggfaaDoorW.PrintLast Go.Proofs.YtdllbnecbbggfaaDoorW.PrintMore
attribute [local go_sem] max2_int min2_int max_two min_two max_three min_three max_four min_four   -- for this text's walks alone
set_option linter.unusedVariables false
set_option linter.unusedSimpArgs false

/-! ### laws_FnJpEscapeAt: function 3 -/
mutual
def laws_FnJpEscapeAt.j0 : Nat → ByteArray → Bool → Option (Bool)
  | 0, _, _ => none
  | k + 1, x0, x21 => if x21 = true then (some true) else (if (x0.size : Int) > 7 then (if 1 < (x0.size : Int) then (if (bt x0 1) = 117 then (if 2 < (x0.size : Int) then (if (Go.bits .or .u8 (bt x0 2) 32) = 100 then (if 3 < (x0.size : Int) then (if (Go.bits .or .u8 (bt x0 3) 32) ≥ 99 then (if (Go.bits .or .u8 (bt x0 3) 32) ≤ 102 then (if 6 ≤ (x0.size : Int) then ((laws_jpTorn.f k (x0.extract 6 x0.size)).bind fun t208 => (laws_FnJpEscapeAt.j1 k x0 t208)) else (none)) else (laws_FnJpEscapeAt.j1 k x0 false)) else (laws_FnJpEscapeAt.j1 k x0 false)) else (none)) else (laws_FnJpEscapeAt.j1 k x0 false)) else (none)) else (laws_FnJpEscapeAt.j1 k x0 false)) else (none)) else (laws_FnJpEscapeAt.j1 k x0 false))
def laws_FnJpEscapeAt.j1 : Nat → ByteArray → Bool → Option (Bool)
  | 0, _, _ => none
  | k + 1, x0, x52 => if x52 = true then (some true) else ((impl_JpEscapeAt.f k x0).bind fun bt209 => ((laws_jpEscape.f k x0).bind fun bt211 => (if bt209.1 = bt211.1 then (if bt211.1 < 0 then (some true) else (some (bt209.2.toList == bt211.2.toList))) else (some false))))
end
def laws_FnJpEscapeAt.f (k : Nat) (a0 : ByteArray) : Option (Bool) := if (a0.size : Int) > 2147483647 then (some true) else (if a0.toList = ([] : List UInt8) then (laws_FnJpEscapeAt.j0 k a0 true) else (if 0 < (a0.size : Int) then (if (bt a0 0) = 92 then (laws_FnJpEscapeAt.j0 k a0 (decide ((a0.size : Int) > 65536))) else (laws_FnJpEscapeAt.j0 k a0 true)) else (none)))
theorem laws_FnJpEscapeAt.mono_l : ∀ k, (∀ y0 y1, LeO (laws_FnJpEscapeAt.j0 k y0 y1) (laws_FnJpEscapeAt.j0 (k + 1) y0 y1)) ∧ (∀ y0 y1, LeO (laws_FnJpEscapeAt.j1 k y0 y1) (laws_FnJpEscapeAt.j1 (k + 1) y0 y1))
  | 0 => ⟨fun _ _ r h => by simp [laws_FnJpEscapeAt.j0] at h, fun _ _ r h => by simp [laws_FnJpEscapeAt.j1] at h⟩
  | k + 1 => by
    obtain ⟨ih0, ih1⟩ := laws_FnJpEscapeAt.mono_l k
    refine ⟨?_, ?_⟩
    · intro y0 y1
      unfold laws_FnJpEscapeAt.j0
      repeat' first
      | (with_reducible exact ih0 _ _)
      | (with_reducible exact ih1 _ _)
      | (with_reducible exact impl_JpEscapeAt.mono _ _)
      | (with_reducible exact laws_jpEscape.mono _ _)
      | (with_reducible exact laws_jpTorn.mono _ _)
      | (with_reducible exact LeO.refl _)
      | (with_reducible exact LeO.none _)
      | (with_reducible refine LeO.ite ?_ ?_)
      | (with_reducible refine LeO.bind ?_ (fun _ => ?_))
      | exact ih0 _ _
      | exact ih1 _ _
      | exact impl_JpEscapeAt.mono _ _
      | exact laws_jpEscape.mono _ _
      | exact laws_jpTorn.mono _ _
      | exact LeO.none _
      | refine LeO.ite ?_ ?_
      | refine LeO.bind ?_ (fun _ => ?_)
    · intro y0 y1
      unfold laws_FnJpEscapeAt.j1
      repeat' first
      | (with_reducible exact ih0 _ _)
      | (with_reducible exact ih1 _ _)
      | (with_reducible exact impl_JpEscapeAt.mono _ _)
      | (with_reducible exact laws_jpEscape.mono _ _)
      | (with_reducible exact laws_jpTorn.mono _ _)
      | (with_reducible exact LeO.refl _)
      | (with_reducible exact LeO.none _)
      | (with_reducible refine LeO.ite ?_ ?_)
      | (with_reducible refine LeO.bind ?_ (fun _ => ?_))
      | exact ih0 _ _
      | exact ih1 _ _
      | exact impl_JpEscapeAt.mono _ _
      | exact laws_jpEscape.mono _ _
      | exact laws_jpTorn.mono _ _
      | exact LeO.none _
      | refine LeO.ite ?_ ?_
      | refine LeO.bind ?_ (fun _ => ?_)
theorem laws_FnJpEscapeAt.mono : ∀ a0 k, LeO (laws_FnJpEscapeAt.f k a0) (laws_FnJpEscapeAt.f (k + 1) a0) := by
  intro a0 k
  obtain ⟨ih0, ih1⟩ := laws_FnJpEscapeAt.mono_l k
  unfold laws_FnJpEscapeAt.f
  repeat' first
      | (with_reducible exact ih0 _ _)
      | (with_reducible exact ih1 _ _)
      | (with_reducible exact impl_JpEscapeAt.mono _ _)
      | (with_reducible exact laws_jpEscape.mono _ _)
      | (with_reducible exact laws_jpTorn.mono _ _)
      | (with_reducible exact LeO.refl _)
      | (with_reducible exact LeO.none _)
      | (with_reducible refine LeO.ite ?_ ?_)
      | (with_reducible refine LeO.bind ?_ (fun _ => ?_))
      | exact ih0 _ _
      | exact ih1 _ _
      | exact impl_JpEscapeAt.mono _ _
      | exact laws_jpEscape.mono _ _
      | exact laws_jpTorn.mono _ _
      | exact LeO.none _
      | refine LeO.ite ?_ ?_
      | refine LeO.bind ?_ (fun _ => ?_)
set_option maxHeartbeats 8000000 in
set_option maxRecDepth 100000 in
theorem laws_FnJpEscapeAt.calls (k : Nat) (a0 : ByteArray) (r : Bool) (w : World) (hG : Glob w) (h : laws_FnJpEscapeAt.f k a0 = some r) :
    Calls Tryd.prog 3 #[.string a0] w fun e w' => e = .returned (.bool r) ∧ Below w.heap.size w w' := by
  have HG := Aside0.mk hG
  clear hG
  have HB := Aside0.mk (Below.refl w.heap.size w)
  have H : (if (a0.size : Int) > 2147483647 then (some true) else (if a0.toList = ([] : List UInt8) then (laws_FnJpEscapeAt.j0 k a0 true) else (if 0 < (a0.size : Int) then (if (bt a0 0) = 92 then (laws_FnJpEscapeAt.j0 k a0 (decide ((a0.size : Int) > 65536))) else (laws_FnJpEscapeAt.j0 k a0 true)) else (none)))) = some r := h
  clear h
  by_cases c2 : (a0.size : Int) > 2147483647
  · rw [if_pos c2] at H
    have c2b0 : decide (2147483647 < (a0.size : Int)) = true := decide_eq_true c2
    have c2b1 : decide (2147483647 < a0.size) = true := decide_eq_true (by omega)
    clear c2
    obtain rfl := Option.some.inj H
    go_enter Tryd.func3, Tryd.ntmps3
    go_wp2
    go_ret
    exact ⟨by first | rfl | (simp [errW_none, errW_some] <;> rfl) | (simp [*, errW_none, errW_some] <;> rfl), by repeat (first | (with_reducible first | exact HB.out | apply below_alloc | apply pw_below_drewN | apply below_drew1) | exact HB.out)⟩
  · rw [if_neg c2] at H
    have c2b0 : decide (2147483647 < (a0.size : Int)) = false := decide_eq_false c2
    have c2b1 : decide (2147483647 < a0.size) = false := decide_eq_false (by omega)
    clear c2
    have HC3 := Aside0.mk H
    clear H
    go_enter Tryd.func3, Tryd.ntmps3
    go_upto_region 3 with (fail)
    go_cut [21] (fun v21 wc => ∃ (kq : Nat) (x21_2 : Bool), v21 = .bool x21_2 ∧ Aside0 (laws_FnJpEscapeAt.j0 kq a0 x21_2 = some r) ∧ Aside0 (kq ≤ k) ∧ Aside0 (Below w.heap.size w wc))
    case first =>
      have H := HC3.out
      clear HC3
      by_cases c4 : a0.toList = ([] : List UInt8)
      · rw [if_pos c4] at H
        have c4b0 : (a0.toList == ([] : List UInt8)) = true := beq_iff_eq.mpr c4
        have c4b1 : (a0.toList != ([] : List UInt8)) = false := bne_eq_false_iff_eq.mpr c4
        clear c4
        (first | rw [c4b0] | (simp only [i64_w, i32_w]; rw [c4b0]) | skip)
        have H' := Aside0.mk H
        clear H
        go_wp2
        go_meet
        case rel => exact ⟨_, (true), (by first | rfl | (simp; done) | (simp [*]; done)), H', ⟨by first | omega | exact Nat.le_refl _⟩, ⟨by repeat (first | (with_reducible first | exact HB.out | apply below_alloc | apply pw_below_drewN | apply below_drew1) | exact HB.out)⟩⟩
      · rw [if_neg c4] at H
        have c4b0 : (a0.toList == ([] : List UInt8)) = false := beq_eq_false_iff_ne.mpr c4
        have c4b1 : (a0.toList != ([] : List UInt8)) = true := bne_iff_ne.mpr c4
        (first | rw [c4b0] | (simp only [i64_w, i32_w]; rw [c4b0]) | skip)
        by_cases c5 : 0 < (a0.size : Int)
        · rw [if_pos c5] at H
          have c5b0 : decide (0 < (a0.size : Int)) = true := decide_eq_true c5
          have c5b1 : decide (0 < a0.size) = true := decide_eq_true (by omega)
          clear c5
          by_cases c7 : (bt a0 0) = 92
          · rw [if_pos c7] at H
            have c7b0 : ((bt a0 0) == 92) = true := beq_iff_eq.mpr c7
            have c7b1 : ((bt a0 0) != 92) = false := bne_eq_false_iff_eq.mpr c7
            clear c7
            have H' := Aside0.mk H
            clear H
            have p6 : 0 ≤ (0 : Int) := (by omega)
            have q6 : 0 < a0.size := (by have : (0 : Int) < (a0.size : Int) := of_decide_eq_true (by first | (with_reducible assumption) | assumption); omega)
            have hx6 : ∀ h : 0 < a0.size, ((a0[0]'h).toNat : Int) = bt a0 0 := bt_at a0 0
            clear p6
            have qi6 : (0 < (a0.size : Int)) = True := eq_true (of_decide_eq_true (by first | (with_reducible assumption) | assumption))
            replace q6 := eq_true q6
            go_wp2
            go_meet
            case rel => exact ⟨_, (decide ((a0.size : Int) > 65536)), (by first | rfl | (simp; done) | (simp [*]; done)), H', ⟨by first | omega | exact Nat.le_refl _⟩, ⟨by repeat (first | (with_reducible first | exact HB.out | apply below_alloc | apply pw_below_drewN | apply below_drew1) | exact HB.out)⟩⟩
          · rw [if_neg c7] at H
            have c7b0 : ((bt a0 0) == 92) = false := beq_eq_false_iff_ne.mpr c7
            have c7b1 : ((bt a0 0) != 92) = true := bne_iff_ne.mpr c7
            have H' := Aside0.mk H
            clear H
            have p6 : 0 ≤ (0 : Int) := (by omega)
            have q6 : 0 < a0.size := (by have : (0 : Int) < (a0.size : Int) := of_decide_eq_true (by first | (with_reducible assumption) | assumption); omega)
            have hx6 : ∀ h : 0 < a0.size, ((a0[0]'h).toNat : Int) = bt a0 0 := bt_at a0 0
            clear p6
            have qi6 : (0 < (a0.size : Int)) = True := eq_true (of_decide_eq_true (by first | (with_reducible assumption) | assumption))
            replace q6 := eq_true q6
            go_wp2
            go_meet
            case rel => exact ⟨_, (true), (by first | rfl | (simp; done) | (simp [*]; done)), H', ⟨by first | omega | exact Nat.le_refl _⟩, ⟨by repeat (first | (with_reducible first | exact HB.out | apply below_alloc | apply pw_below_drewN | apply below_drew1) | exact HB.out)⟩⟩
        · rw [if_neg c5] at H
          exact absurd H (by simp)
    case rest =>
      clear HC3
      try clear c2
      try clear c2b0
      try clear c2b1
      try clear p2
      try clear c3
      try clear c4
      try clear c4b0
      try clear c4b1
      try clear c5
      try clear c5b0
      try clear c5b1
      try clear p6
      try clear q6
      try clear hx6
      try clear qi6
      try clear c7
      try clear c7b0
      try clear c7b1
      try clear p6
      try clear q6
      obtain ⟨kq, x21_2, rfl, HA, HJ2, HB⟩ := hcut
      cases kq with
      | zero => exact absurd HA.out (by simp [laws_FnJpEscapeAt.j0])
      | succ kj2 =>
        have H := HA.out
        clear HA
        simp only [laws_FnJpEscapeAt.j0] at H
        by_cases c8 : x21_2 = true
        · subst c8
          have H1 : (some true) = some r := by rw [if_pos rfl] at H; exact H
          clear H
          have H := H1
          clear H1
          obtain rfl := Option.some.inj H
          go_wp2
          go_ret
          exact ⟨by first | rfl | (simp [errW_none, errW_some] <;> rfl) | (simp [*, errW_none, errW_some] <;> rfl), by repeat (first | (with_reducible first | exact HB.out | apply below_alloc | apply pw_below_drewN | apply below_drew1) | exact HB.out)⟩
        · replace c8 := Bool.eq_false_iff.mpr c8
          subst c8
          have H1 : (if (a0.size : Int) > 7 then (if 1 < (a0.size : Int) then (if (bt a0 1) = 117 then (if 2 < (a0.size : Int) then (if (Go.bits .or .u8 (bt a0 2) 32) = 100 then (if 3 < (a0.size : Int) then (if (Go.bits .or .u8 (bt a0 3) 32) ≥ 99 then (if (Go.bits .or .u8 (bt a0 3) 32) ≤ 102 then (if 6 ≤ (a0.size : Int) then ((laws_jpTorn.f kj2 (a0.extract 6 a0.size)).bind fun t208 => (laws_FnJpEscapeAt.j1 kj2 a0 t208)) else (none)) else (laws_FnJpEscapeAt.j1 kj2 a0 false)) else (laws_FnJpEscapeAt.j1 kj2 a0 false)) else (none)) else (laws_FnJpEscapeAt.j1 kj2 a0 false)) else (none)) else (laws_FnJpEscapeAt.j1 kj2 a0 false)) else (none)) else (laws_FnJpEscapeAt.j1 kj2 a0 false)) = some r := by rw [if_neg (show ¬ (false = true) by decide)] at H; exact H
          clear H
          have H := H1
          clear H1
          have HC9 := Aside0.mk H
          clear H
          go_upto_region 5 with (fail)
          go_cut [52] (fun v52 wc => ∃ (kq : Nat) (x52_8 : Bool), v52 = .bool x52_8 ∧ Aside0 (laws_FnJpEscapeAt.j1 kq a0 x52_8 = some r) ∧ Aside0 (kq ≤ kj2) ∧ Aside0 (Below w.heap.size w wc))
          case first =>
            have H := HC9.out
            clear HC9
            by_cases c10 : (a0.size : Int) > 7
            · rw [if_pos c10] at H
              have c10b0 : decide (7 < (a0.size : Int)) = true := decide_eq_true c10
              have c10b1 : decide (7 < a0.size) = true := decide_eq_true (by omega)
              clear c10
              (first | rw [c10b0] | (simp only [i64_w, i32_w]; rw [c10b0]) | skip)
              by_cases c11 : 1 < (a0.size : Int)
              · rw [if_pos c11] at H
                have c11b0 : decide (1 < (a0.size : Int)) = true := decide_eq_true c11
                have c11b1 : decide (1 < a0.size) = true := decide_eq_true (by omega)
                clear c11
                by_cases c13 : (bt a0 1) = 117
                · rw [if_pos c13] at H
                  have c13b0 : ((bt a0 1) == 117) = true := beq_iff_eq.mpr c13
                  have c13b1 : ((bt a0 1) != 117) = false := bne_eq_false_iff_eq.mpr c13
                  clear c13
                  by_cases c14 : 2 < (a0.size : Int)
                  · rw [if_pos c14] at H
                    have c14b0 : decide (2 < (a0.size : Int)) = true := decide_eq_true c14
                    have c14b1 : decide (2 < a0.size) = true := decide_eq_true (by omega)
                    clear c14
                    by_cases c16 : (Go.bits .or .u8 (bt a0 2) 32) = 100
                    · rw [if_pos c16] at H
                      have c16b0 : ((Go.bits .or .u8 (bt a0 2) 32) == 100) = true := beq_iff_eq.mpr c16
                      have c16b1 : ((Go.bits .or .u8 (bt a0 2) 32) != 100) = false := bne_eq_false_iff_eq.mpr c16
                      clear c16
                      by_cases c17 : 3 < (a0.size : Int)
                      · rw [if_pos c17] at H
                        have c17b0 : decide (3 < (a0.size : Int)) = true := decide_eq_true c17
                        have c17b1 : decide (3 < a0.size) = true := decide_eq_true (by omega)
                        clear c17
                        by_cases c19 : (Go.bits .or .u8 (bt a0 3) 32) ≥ 99
                        · rw [if_pos c19] at H
                          have c19b0 : decide (99 ≤ (Go.bits .or .u8 (bt a0 3) 32)) = true := decide_eq_true c19
                          clear c19
                          by_cases c21 : (Go.bits .or .u8 (bt a0 3) 32) ≤ 102
                          · rw [if_pos c21] at H
                            have c21b0 : decide ((Go.bits .or .u8 (bt a0 3) 32) ≤ 102) = true := decide_eq_true c21
                            clear c21
                            by_cases c22 : 6 ≤ (a0.size : Int)
                            · rw [if_pos c22] at H
                              have c22b0 := eq_true c22
                              have c22b1 : decide (6 ≤ (a0.size : Int)) = true := decide_eq_true c22
                              clear c22
                              replace H := Option.bind_eq_some_iff.mp H
                              obtain ⟨t208, A230, H⟩ := H
                              replace H : (laws_FnJpEscapeAt.j1 kj2 a0 t208) = some r := H
                              have A23 := Aside0.mk A230
                              clear A230
                              have H' := Aside0.mk H
                              clear H
                              have p12 : 0 ≤ (1 : Int) := (by omega)
                              have q12 : 1 < a0.size := (by have : (1 : Int) < (a0.size : Int) := of_decide_eq_true (by first | (with_reducible assumption) | assumption); omega)
                              have hx12 : ∀ h : 1 < a0.size, ((a0[1]'h).toNat : Int) = bt a0 1 := bt_at a0 1
                              clear p12
                              have qi12 : (1 < (a0.size : Int)) = True := eq_true (of_decide_eq_true (by first | (with_reducible assumption) | assumption))
                              replace q12 := eq_true q12
                              have p15 : 0 ≤ (2 : Int) := (by omega)
                              have q15 : 2 < a0.size := (by have : (2 : Int) < (a0.size : Int) := of_decide_eq_true (by first | (with_reducible assumption) | assumption); omega)
                              have hx15 : ∀ h : 2 < a0.size, ((a0[2]'h).toNat : Int) = bt a0 2 := bt_at a0 2
                              clear p15
                              have qi15 : (2 < (a0.size : Int)) = True := eq_true (of_decide_eq_true (by first | (with_reducible assumption) | assumption))
                              replace q15 := eq_true q15
                              have p18 : 0 ≤ (3 : Int) := (by omega)
                              have q18 : 3 < a0.size := (by have : (3 : Int) < (a0.size : Int) := of_decide_eq_true (by first | (with_reducible assumption) | assumption); omega)
                              have hx18 : ∀ h : 3 < a0.size, ((a0[3]'h).toNat : Int) = bt a0 3 := bt_at a0 3
                              clear p18
                              have qi18 : (3 < (a0.size : Int)) = True := eq_true (of_decide_eq_true (by first | (with_reducible assumption) | assumption))
                              replace q18 := eq_true q18
                              have p20 : 0 ≤ (3 : Int) := (by omega)
                              have q20 : 3 < a0.size := (by have : (3 : Int) < (a0.size : Int) := of_decide_eq_true (by first | (with_reducible assumption) | assumption); omega)
                              have hx20 : ∀ h : 3 < a0.size, ((a0[3]'h).toNat : Int) = bt a0 3 := bt_at a0 3
                              clear p20
                              have qi20 : (3 < (a0.size : Int)) = True := eq_true (of_decide_eq_true (by first | (with_reducible assumption) | assumption))
                              replace q20 := eq_true q20
                              go_wp2_with (first | (go_at_call 11; (with_reducible refine (laws_jpTorn.calls kj2 (a0.extract 6 a0.size) t208 _ A23.out).mono ?_); rintro e w24 ⟨rfl, hb⟩; have n0_ := Aside0.mk (below_step (by repeat (first | (with_reducible first | exact HB.out | apply below_alloc | apply pw_below_drewN | apply below_drew1) | exact HB.out)) hb); clear HB; have HB := n0_; clear n0_; (try clear hb); (try clear hb2); (try clear hk); (try clear hi)))
                              go_meet
                              case rel => exact ⟨_, (t208), (by first | rfl | (simp; done) | (simp [*]; done)), H', ⟨by have := HJ2.out; first | omega | exact Nat.le_refl _⟩, ⟨by repeat (first | (with_reducible first | exact HB.out | apply below_alloc | apply pw_below_drewN | apply below_drew1) | exact HB.out)⟩⟩
                            · rw [if_neg c22] at H
                              exact absurd H (by simp)
                          · rw [if_neg c21] at H
                            have c21b0 : decide ((Go.bits .or .u8 (bt a0 3) 32) ≤ 102) = false := decide_eq_false c21
                            clear c21
                            have H' := Aside0.mk H
                            clear H
                            have p12 : 0 ≤ (1 : Int) := (by omega)
                            have q12 : 1 < a0.size := (by have : (1 : Int) < (a0.size : Int) := of_decide_eq_true (by first | (with_reducible assumption) | assumption); omega)
                            have hx12 : ∀ h : 1 < a0.size, ((a0[1]'h).toNat : Int) = bt a0 1 := bt_at a0 1
                            clear p12
                            have qi12 : (1 < (a0.size : Int)) = True := eq_true (of_decide_eq_true (by first | (with_reducible assumption) | assumption))
                            replace q12 := eq_true q12
                            have p15 : 0 ≤ (2 : Int) := (by omega)
                            have q15 : 2 < a0.size := (by have : (2 : Int) < (a0.size : Int) := of_decide_eq_true (by first | (with_reducible assumption) | assumption); omega)
                            have hx15 : ∀ h : 2 < a0.size, ((a0[2]'h).toNat : Int) = bt a0 2 := bt_at a0 2
                            clear p15
                            have qi15 : (2 < (a0.size : Int)) = True := eq_true (of_decide_eq_true (by first | (with_reducible assumption) | assumption))
                            replace q15 := eq_true q15
                            have p18 : 0 ≤ (3 : Int) := (by omega)
                            have q18 : 3 < a0.size := (by have : (3 : Int) < (a0.size : Int) := of_decide_eq_true (by first | (with_reducible assumption) | assumption); omega)
                            have hx18 : ∀ h : 3 < a0.size, ((a0[3]'h).toNat : Int) = bt a0 3 := bt_at a0 3
                            clear p18
                            have qi18 : (3 < (a0.size : Int)) = True := eq_true (of_decide_eq_true (by first | (with_reducible assumption) | assumption))
                            replace q18 := eq_true q18
                            have p20 : 0 ≤ (3 : Int) := (by omega)
                            have q20 : 3 < a0.size := (by have : (3 : Int) < (a0.size : Int) := of_decide_eq_true (by first | (with_reducible assumption) | assumption); omega)
                            have hx20 : ∀ h : 3 < a0.size, ((a0[3]'h).toNat : Int) = bt a0 3 := bt_at a0 3
                            clear p20
                            have qi20 : (3 < (a0.size : Int)) = True := eq_true (of_decide_eq_true (by first | (with_reducible assumption) | assumption))
                            replace q20 := eq_true q20
                            go_wp2
                            go_meet
                            case rel => exact ⟨_, (false), (by first | rfl | (simp; done) | (simp [*]; done)), H', ⟨by have := HJ2.out; first | omega | exact Nat.le_refl _⟩, ⟨by repeat (first | (with_reducible first | exact HB.out | apply below_alloc | apply pw_below_drewN | apply below_drew1) | exact HB.out)⟩⟩
                        · rw [if_neg c19] at H
                          have c19b0 : decide (99 ≤ (Go.bits .or .u8 (bt a0 3) 32)) = false := decide_eq_false c19
                          clear c19
                          have H' := Aside0.mk H
                          clear H
                          have p12 : 0 ≤ (1 : Int) := (by omega)
                          have q12 : 1 < a0.size := (by have : (1 : Int) < (a0.size : Int) := of_decide_eq_true (by first | (with_reducible assumption) | assumption); omega)
                          have hx12 : ∀ h : 1 < a0.size, ((a0[1]'h).toNat : Int) = bt a0 1 := bt_at a0 1
                          clear p12
                          have qi12 : (1 < (a0.size : Int)) = True := eq_true (of_decide_eq_true (by first | (with_reducible assumption) | assumption))
                          replace q12 := eq_true q12
                          have p15 : 0 ≤ (2 : Int) := (by omega)
                          have q15 : 2 < a0.size := (by have : (2 : Int) < (a0.size : Int) := of_decide_eq_true (by first | (with_reducible assumption) | assumption); omega)
                          have hx15 : ∀ h : 2 < a0.size, ((a0[2]'h).toNat : Int) = bt a0 2 := bt_at a0 2
                          clear p15
                          have qi15 : (2 < (a0.size : Int)) = True := eq_true (of_decide_eq_true (by first | (with_reducible assumption) | assumption))
                          replace q15 := eq_true q15
                          have p18 : 0 ≤ (3 : Int) := (by omega)
                          have q18 : 3 < a0.size := (by have : (3 : Int) < (a0.size : Int) := of_decide_eq_true (by first | (with_reducible assumption) | assumption); omega)
                          have hx18 : ∀ h : 3 < a0.size, ((a0[3]'h).toNat : Int) = bt a0 3 := bt_at a0 3
                          clear p18
                          have qi18 : (3 < (a0.size : Int)) = True := eq_true (of_decide_eq_true (by first | (with_reducible assumption) | assumption))
                          replace q18 := eq_true q18
                          go_wp2
                          go_meet
                          case rel => exact ⟨_, (false), (by first | rfl | (simp; done) | (simp [*]; done)), H', ⟨by have := HJ2.out; first | omega | exact Nat.le_refl _⟩, ⟨by repeat (first | (with_reducible first | exact HB.out | apply below_alloc | apply pw_below_drewN | apply below_drew1) | exact HB.out)⟩⟩
                      · rw [if_neg c17] at H
                        exact absurd H (by simp)
                    · rw [if_neg c16] at H
                      have c16b0 : ((Go.bits .or .u8 (bt a0 2) 32) == 100) = false := beq_eq_false_iff_ne.mpr c16
                      have c16b1 : ((Go.bits .or .u8 (bt a0 2) 32) != 100) = true := bne_iff_ne.mpr c16
                      have H' := Aside0.mk H
                      clear H
                      have p12 : 0 ≤ (1 : Int) := (by omega)
                      have q12 : 1 < a0.size := (by have : (1 : Int) < (a0.size : Int) := of_decide_eq_true (by first | (with_reducible assumption) | assumption); omega)
                      have hx12 : ∀ h : 1 < a0.size, ((a0[1]'h).toNat : Int) = bt a0 1 := bt_at a0 1
                      clear p12
                      have qi12 : (1 < (a0.size : Int)) = True := eq_true (of_decide_eq_true (by first | (with_reducible assumption) | assumption))
                      replace q12 := eq_true q12
                      have p15 : 0 ≤ (2 : Int) := (by omega)
                      have q15 : 2 < a0.size := (by have : (2 : Int) < (a0.size : Int) := of_decide_eq_true (by first | (with_reducible assumption) | assumption); omega)
                      have hx15 : ∀ h : 2 < a0.size, ((a0[2]'h).toNat : Int) = bt a0 2 := bt_at a0 2
                      clear p15
                      have qi15 : (2 < (a0.size : Int)) = True := eq_true (of_decide_eq_true (by first | (with_reducible assumption) | assumption))
                      replace q15 := eq_true q15
                      go_wp2
                      go_meet
                      case rel => exact ⟨_, (false), (by first | rfl | (simp; done) | (simp [*]; done)), H', ⟨by have := HJ2.out; first | omega | exact Nat.le_refl _⟩, ⟨by repeat (first | (with_reducible first | exact HB.out | apply below_alloc | apply pw_below_drewN | apply below_drew1) | exact HB.out)⟩⟩
                  · rw [if_neg c14] at H
                    exact absurd H (by simp)
                · rw [if_neg c13] at H
                  have c13b0 : ((bt a0 1) == 117) = false := beq_eq_false_iff_ne.mpr c13
                  have c13b1 : ((bt a0 1) != 117) = true := bne_iff_ne.mpr c13
                  have H' := Aside0.mk H
                  clear H
                  have p12 : 0 ≤ (1 : Int) := (by omega)
                  have q12 : 1 < a0.size := (by have : (1 : Int) < (a0.size : Int) := of_decide_eq_true (by first | (with_reducible assumption) | assumption); omega)
                  have hx12 : ∀ h : 1 < a0.size, ((a0[1]'h).toNat : Int) = bt a0 1 := bt_at a0 1
                  clear p12
                  have qi12 : (1 < (a0.size : Int)) = True := eq_true (of_decide_eq_true (by first | (with_reducible assumption) | assumption))
                  replace q12 := eq_true q12
                  go_wp2
                  go_meet
                  case rel => exact ⟨_, (false), (by first | rfl | (simp; done) | (simp [*]; done)), H', ⟨by have := HJ2.out; first | omega | exact Nat.le_refl _⟩, ⟨by repeat (first | (with_reducible first | exact HB.out | apply below_alloc | apply pw_below_drewN | apply below_drew1) | exact HB.out)⟩⟩
              · rw [if_neg c11] at H
                exact absurd H (by simp)
            · rw [if_neg c10] at H
              have c10b0 : decide (7 < (a0.size : Int)) = false := decide_eq_false c10
              have c10b1 : decide (7 < a0.size) = false := decide_eq_false (by omega)
              clear c10
              (first | rw [c10b0] | (simp only [i64_w, i32_w]; rw [c10b0]) | skip)
              have H' := Aside0.mk H
              clear H
              go_wp2
              go_meet
              case rel => exact ⟨_, (false), (by first | rfl | (simp; done) | (simp [*]; done)), H', ⟨by have := HJ2.out; first | omega | exact Nat.le_refl _⟩, ⟨by repeat (first | (with_reducible first | exact HB.out | apply below_alloc | apply pw_below_drewN | apply below_drew1) | exact HB.out)⟩⟩
          case rest =>
            clear HC9
            try clear c1
            try clear p1
            try clear q1
            try clear hx1
            try clear qi1
            try clear c2
            try clear c2b0
            try clear c2b1
            try clear p2
            try clear q2
            try clear hx2
            try clear qi2
            try clear c3
            try clear c4
            try clear c4b0
            try clear c4b1
            try clear c5
            try clear c5b0
            try clear c5b1
            try clear p6
            try clear q6
            try clear hx6
            try clear qi6
            try clear c7
            try clear c7b0
            try clear c7b1
            try clear c8
            try clear c10
            try clear c10b0
            try clear c10b1
            try clear c11
            try clear c11b0
            try clear c11b1
            try clear p12
            try clear q12
            try clear hx12
            try clear qi12
            try clear c13
            try clear c13b0
            try clear c13b1
            try clear c14
            try clear c14b0
            try clear c14b1
            try clear p15
            try clear q15
            try clear hx15
            try clear qi15
            try clear c16
            try clear c16b0
            try clear c16b1
            try clear c17
            try clear c17b0
            try clear c17b1
            try clear p18
            try clear q18
            try clear hx18
            try clear qi18
            try clear c19
            try clear c19b0
            try clear p20
            try clear q20
            try clear hx20
            try clear qi20
            try clear c21
            try clear c21b0
            try clear c22
            try clear c22b0
            try clear c22b1
            try clear p12
            try clear p15
            try clear p18
            try clear p2
            try clear p20
            try clear p6
            try clear q12
            try clear q15
            try clear q18
            try clear q20
            try clear q6
            obtain ⟨kq, x52_8, rfl, HA, HJ8, HB⟩ := hcut
            cases kq with
            | zero => exact absurd HA.out (by simp [laws_FnJpEscapeAt.j1])
            | succ kj8 =>
              have H := HA.out
              clear HA
              simp only [laws_FnJpEscapeAt.j1] at H
              by_cases c25 : x52_8 = true
              · subst c25
                have H1 : (some true) = some r := by rw [if_pos rfl] at H; exact H
                clear H
                have H := H1
                clear H1
                obtain rfl := Option.some.inj H
                go_wp2
                go_ret
                exact ⟨by first | rfl | (simp [errW_none, errW_some] <;> rfl) | (simp [*, errW_none, errW_some] <;> rfl), by repeat (first | (with_reducible first | exact HB.out | apply below_alloc | apply pw_below_drewN | apply below_drew1) | exact HB.out)⟩
              · replace c25 := Bool.eq_false_iff.mpr c25
                subst c25
                have H1 : ((impl_JpEscapeAt.f kj8 a0).bind fun bt209 => ((laws_jpEscape.f kj8 a0).bind fun bt211 => (if bt209.1 = bt211.1 then (if bt211.1 < 0 then (some true) else (some (bt209.2.toList == bt211.2.toList))) else (some false)))) = some r := by rw [if_neg (show ¬ (false = true) by decide)] at H; exact H
                clear H
                have H := H1
                clear H1
                replace H := Option.bind_eq_some_iff.mp H
                obtain ⟨⟨t209, t210⟩, A260, H⟩ := H
                replace H : ((laws_jpEscape.f kj8 a0).bind fun bt211 => (if t209 = bt211.1 then (if bt211.1 < 0 then (some true) else (some (t210.toList == bt211.2.toList))) else (some false))) = some r := H
                have A26 := Aside0.mk A260
                clear A260
                replace H := Option.bind_eq_some_iff.mp H
                obtain ⟨⟨t211, t212⟩, A270, H⟩ := H
                replace H : (if t209 = t211 then (if t211 < 0 then (some true) else (some (t210.toList == t212.toList))) else (some false)) = some r := H
                have A27 := Aside0.mk A270
                clear A270
                by_cases c28 : t209 = t211
                · rw [if_pos c28] at H
                  have c28b0 : (t209 == t211) = true := beq_iff_eq.mpr c28
                  have c28b1 : (t209 != t211) = false := bne_eq_false_iff_eq.mpr c28
                  clear c28
                  by_cases c29 : t211 < 0
                  · rw [if_pos c29] at H
                    have c29b0 : decide (t211 < 0) = true := decide_eq_true c29
                    clear c29
                    obtain rfl := Option.some.inj H
                    go_wp2_with (first | ((with_reducible refine gate_callee (f := 12) rfl ?_); refine goesL_ (some 55) rfl rfl Tryd.func12 (by kernel_rfl) rfl #[.string a0] rfl (by (try simp only [List.map_toArray, List.map_cons, List.map_nil]); first | done | rfl | (simp only [List.length_drop, List.length_take]; rfl)) ?_; (with_reducible refine (impl_JpEscapeAt.calls kj8 a0 t209 t210 _ ?side1 A26.out).mono ?_); (case side1 => exact Glob.below HG.out (by repeat (first | (with_reducible first | exact HB.out | apply below_alloc | apply pw_below_drewN | apply below_drew1) | exact HB.out))); rintro e w30 ⟨rfl, hb⟩; refine ⟨_, rfl, ?_⟩; have n0_ := Aside0.mk (below_step (by repeat (first | (with_reducible first | exact HB.out | apply below_alloc | apply pw_below_drewN | apply below_drew1) | exact HB.out)) hb); clear HB; have HB := n0_; clear n0_; (try clear hb); (try clear hb2); (try clear hk); (try clear hi)) | ((with_reducible refine gate_callee (f := 13) rfl ?_); refine goesL_ (some 60) rfl rfl Tryd.func13 (by kernel_rfl) rfl #[.string a0] rfl (by (try simp only [List.map_toArray, List.map_cons, List.map_nil]); first | done | rfl | (simp only [List.length_drop, List.length_take]; rfl)) ?_; (with_reducible refine (laws_jpEscape.calls kj8 a0 t211 t212 _ A27.out).mono ?_); rintro e w31 ⟨rfl, hb⟩; refine ⟨_, rfl, ?_⟩; have n0_ := Aside0.mk (below_step (by repeat (first | (with_reducible first | exact HB.out | apply below_alloc | apply pw_below_drewN | apply below_drew1) | exact HB.out)) hb); clear HB; have HB := n0_; clear n0_; (try clear hb); (try clear hb2); (try clear hk); (try clear hi)))
                    go_ret
                    exact ⟨by first | rfl | (simp [errW_none, errW_some] <;> rfl) | (simp [*, errW_none, errW_some] <;> rfl), by repeat (first | (with_reducible first | exact HB.out | apply below_alloc | apply pw_below_drewN | apply below_drew1) | exact HB.out)⟩
                  · rw [if_neg c29] at H
                    have c29b0 : decide (t211 < 0) = false := decide_eq_false c29
                    clear c29
                    obtain rfl := Option.some.inj H
                    go_wp2_with (first | ((with_reducible refine gate_callee (f := 12) rfl ?_); refine goesL_ (some 55) rfl rfl Tryd.func12 (by kernel_rfl) rfl #[.string a0] rfl (by (try simp only [List.map_toArray, List.map_cons, List.map_nil]); first | done | rfl | (simp only [List.length_drop, List.length_take]; rfl)) ?_; (with_reducible refine (impl_JpEscapeAt.calls kj8 a0 t209 t210 _ ?side1 A26.out).mono ?_); (case side1 => exact Glob.below HG.out (by repeat (first | (with_reducible first | exact HB.out | apply below_alloc | apply pw_below_drewN | apply below_drew1) | exact HB.out))); rintro e w32 ⟨rfl, hb⟩; refine ⟨_, rfl, ?_⟩; have n0_ := Aside0.mk (below_step (by repeat (first | (with_reducible first | exact HB.out | apply below_alloc | apply pw_below_drewN | apply below_drew1) | exact HB.out)) hb); clear HB; have HB := n0_; clear n0_; (try clear hb); (try clear hb2); (try clear hk); (try clear hi)) | ((with_reducible refine gate_callee (f := 13) rfl ?_); refine goesL_ (some 60) rfl rfl Tryd.func13 (by kernel_rfl) rfl #[.string a0] rfl (by (try simp only [List.map_toArray, List.map_cons, List.map_nil]); first | done | rfl | (simp only [List.length_drop, List.length_take]; rfl)) ?_; (with_reducible refine (laws_jpEscape.calls kj8 a0 t211 t212 _ A27.out).mono ?_); rintro e w33 ⟨rfl, hb⟩; refine ⟨_, rfl, ?_⟩; have n0_ := Aside0.mk (below_step (by repeat (first | (with_reducible first | exact HB.out | apply below_alloc | apply pw_below_drewN | apply below_drew1) | exact HB.out)) hb); clear HB; have HB := n0_; clear n0_; (try clear hb); (try clear hb2); (try clear hk); (try clear hi)))
                    go_ret
                    exact ⟨by first | rfl | (simp [errW_none, errW_some] <;> rfl) | (simp [*, errW_none, errW_some] <;> rfl), by repeat (first | (with_reducible first | exact HB.out | apply below_alloc | apply pw_below_drewN | apply below_drew1) | exact HB.out)⟩
                · rw [if_neg c28] at H
                  have c28b0 : (t209 == t211) = false := beq_eq_false_iff_ne.mpr c28
                  have c28b1 : (t209 != t211) = true := bne_iff_ne.mpr c28
                  obtain rfl := Option.some.inj H
                  go_wp2_with (first | ((with_reducible refine gate_callee (f := 12) rfl ?_); refine goesL_ (some 55) rfl rfl Tryd.func12 (by kernel_rfl) rfl #[.string a0] rfl (by (try simp only [List.map_toArray, List.map_cons, List.map_nil]); first | done | rfl | (simp only [List.length_drop, List.length_take]; rfl)) ?_; (with_reducible refine (impl_JpEscapeAt.calls kj8 a0 t209 t210 _ ?side1 A26.out).mono ?_); (case side1 => exact Glob.below HG.out (by repeat (first | (with_reducible first | exact HB.out | apply below_alloc | apply pw_below_drewN | apply below_drew1) | exact HB.out))); rintro e w34 ⟨rfl, hb⟩; refine ⟨_, rfl, ?_⟩; have n0_ := Aside0.mk (below_step (by repeat (first | (with_reducible first | exact HB.out | apply below_alloc | apply pw_below_drewN | apply below_drew1) | exact HB.out)) hb); clear HB; have HB := n0_; clear n0_; (try clear hb); (try clear hb2); (try clear hk); (try clear hi)) | ((with_reducible refine gate_callee (f := 13) rfl ?_); refine goesL_ (some 60) rfl rfl Tryd.func13 (by kernel_rfl) rfl #[.string a0] rfl (by (try simp only [List.map_toArray, List.map_cons, List.map_nil]); first | done | rfl | (simp only [List.length_drop, List.length_take]; rfl)) ?_; (with_reducible refine (laws_jpEscape.calls kj8 a0 t211 t212 _ A27.out).mono ?_); rintro e w35 ⟨rfl, hb⟩; refine ⟨_, rfl, ?_⟩; have n0_ := Aside0.mk (below_step (by repeat (first | (with_reducible first | exact HB.out | apply below_alloc | apply pw_below_drewN | apply below_drew1) | exact HB.out)) hb); clear HB; have HB := n0_; clear n0_; (try clear hb); (try clear hb2); (try clear hk); (try clear hi)))
                  go_ret
                  exact ⟨by first | rfl | (simp [errW_none, errW_some] <;> rfl) | (simp [*, errW_none, errW_some] <;> rfl), by repeat (first | (with_reducible first | exact HB.out | apply below_alloc | apply pw_below_drewN | apply below_drew1) | exact HB.out)⟩

/-- THE ONE PURE STATEMENT of laws_FnJpEscapeAt: yours. -/
def laws_FnJpEscapeAt.Pure : Prop := ∀ (a0 : ByteArray), a0.size ≤ 140737488351232 → ∃ k, laws_FnJpEscapeAt.f k a0 = some true
theorem laws_FnJpEscapeAt.walk (P : laws_FnJpEscapeAt.Pure) (a0 : ByteArray) (w : World) (w0 : a0.size ≤ 140737488351232) (hG : Glob w) :
    Calls Tryd.prog 3 #[.string a0] w fun e w' => e = .returned (.bool true) ∧ Below w.heap.size w w' := by
  obtain ⟨k, h⟩ := P a0 w0
  refine (laws_FnJpEscapeAt.calls k a0 true w hG h).mono ?_
  rintro e w' ⟨rfl, hd⟩
  exact ⟨rfl, hd⟩

end Go.Proofs.YtdllbnecbbggfaaDoor.XFnJpEscapeAt
