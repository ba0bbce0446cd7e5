-- Written by xprint.py of this session (a program that runs the kit's print and adds to it); Lean checks it.
import Derived.Test.YtdllbnecbbggfaaDoorXFnJpEscapeAtx0
import Derived.Test.YtdllbnecbbggfaaDoorXFnJpEscapeAtx1
namespace Go.Proofs.YtdllbnecbbggfaaDoor.XFnJpEscapeAt
open Go.RowKit Go.Proofs.YtdllbnecbbggfaaDoorW.PrintWords Go.Proofs.YtdllbnecbbggfaaDoorW.PrintLast Go.Proofs.YtdllbnecbbggfaaDoorW.PrintMore
attribute [local go_sem] max2_int min2_int max_two min_two max_three min_three max_four min_four   -- for this text's walks alone
set_option linter.unusedVariables false
set_option linter.unusedSimpArgs false

/-! ### spec_Unquote: function 30 -/
def spec_Unquote.l0 : Nat → List Int → ByteArray → Int → Option (ByteArray)
  | 0, _, _, _ => none
  | k + 1, x3, x4, x5 => if x5 < (x4.size : Int) then (if 0 ≤ x5 then (if (bt x4 x5) = 92 then ((spec_unit.f k x4 x5).bind fun bt135 => (if bt135.2 = true then ((spec_unit.f k x4 (wrap64 (x5 + 6))).bind fun bt141 => (if bt141.2 = true then ((spec_high.f bt135.1).bind fun t143 => (if t143 = true then ((spec_low.f bt141.1).bind fun t144 => (if t144 = true then ((spec_appendUTF8.f k x3 (wrap64 ((wrap64 (65536 + (wrap64 ((wrap64 (bt135.1 - 55296)) * 1024)))) + (wrap64 (bt141.1 - 56320))))).bind fun t145 => (spec_Unquote.l0 k t145 x4 (wrap64 ((wrap64 (x5 + 6)) + 6)))) else ((spec_appendUTF8.f k x3 bt135.1).bind fun t148 => (spec_Unquote.l0 k t148 x4 (wrap64 (x5 + 6)))))) else ((spec_appendUTF8.f k x3 bt135.1).bind fun t151 => (spec_Unquote.l0 k t151 x4 (wrap64 (x5 + 6)))))) else ((spec_appendUTF8.f k x3 bt135.1).bind fun t154 => (spec_Unquote.l0 k t154 x4 (wrap64 (x5 + 6)))))) else (if 0 ≤ (wrap64 (x5 + 1)) then (if (wrap64 (x5 + 1)) < (x4.size : Int) then ((spec_short.f (bt x4 (wrap64 (x5 + 1)))).bind fun t137 => (if x3.length < 140737488355328 then (spec_Unquote.l0 k (x3 ++ [t137]) x4 (wrap64 (x5 + 2))) else (none))) else (none)) else (none)))) else (if x3.length < 140737488355328 then (spec_Unquote.l0 k (x3 ++ [bt x4 x5]) x4 (wrap64 (x5 + 1))) else (none))) else (none)) else (some (strOfNums x3))
def spec_Unquote.f (k : Nat) (a0 : ByteArray) : Option (ByteArray) := if 1 ≤ (wrap64 ((a0.size : Int) - 1)) then (if (wrap64 ((a0.size : Int) - 1)) ≤ (a0.size : Int) then (spec_Unquote.l0 k ([] : List Int) (a0.extract 1 ((wrap64 ((a0.size : Int) - 1)) : Int).toNat) 0) else (none)) else (none)
theorem spec_Unquote.mono_l : ∀ k, (∀ y0 y1 y2, LeO (spec_Unquote.l0 k y0 y1 y2) (spec_Unquote.l0 (k + 1) y0 y1 y2))
  | 0 => fun _ _ _ r h => by simp [spec_Unquote.l0] at h
  | k + 1 => by
    have ih0 := spec_Unquote.mono_l k
    · intro y0 y1 y2
      unfold spec_Unquote.l0
      repeat' first
      | (with_reducible exact ih0 _ _ _)
      | (with_reducible exact spec_appendUTF8.mono _ _ _)
      | (with_reducible exact spec_unit.mono _ _ _)
      | (with_reducible exact LeO.refl _)
      | (with_reducible exact LeO.none _)
      | (with_reducible refine LeO.ite ?_ ?_)
      | (with_reducible refine LeO.bind ?_ (fun _ => ?_))
      | exact ih0 _ _ _
      | exact spec_appendUTF8.mono _ _ _
      | exact spec_unit.mono _ _ _
      | exact LeO.none _
      | refine LeO.ite ?_ ?_
      | refine LeO.bind ?_ (fun _ => ?_)
theorem spec_Unquote.mono : ∀ a0 k, LeO (spec_Unquote.f k a0) (spec_Unquote.f (k + 1) a0) := by
  intro a0 k
  have ih0 := spec_Unquote.mono_l k
  unfold spec_Unquote.f
  repeat' first
      | (with_reducible exact ih0 _ _ _)
      | (with_reducible exact spec_appendUTF8.mono _ _ _)
      | (with_reducible exact spec_unit.mono _ _ _)
      | (with_reducible exact LeO.refl _)
      | (with_reducible exact LeO.none _)
      | (with_reducible refine LeO.ite ?_ ?_)
      | (with_reducible refine LeO.bind ?_ (fun _ => ?_))
      | exact ih0 _ _ _
      | exact spec_appendUTF8.mono _ _ _
      | exact spec_unit.mono _ _ _
      | exact LeO.none _
      | refine LeO.ite ?_ ?_
      | refine LeO.bind ?_ (fun _ => ?_)
set_option maxHeartbeats 8000000 in
set_option maxRecDepth 100000 in
theorem spec_Unquote.calls (k : Nat) (a0 : ByteArray) (r : ByteArray) (w : World) (h : spec_Unquote.f k a0 = some r) :
    Calls Tryd.prog 30 #[.string a0] w fun e w' => e = .returned (.string r) ∧ Below w.heap.size w w' := by
  have HB := Aside0.mk (Below.refl w.heap.size w)
  have H : (if 1 ≤ (wrap64 ((a0.size : Int) - 1)) then (if (wrap64 ((a0.size : Int) - 1)) ≤ (a0.size : Int) then (spec_Unquote.l0 k ([] : List Int) (a0.extract 1 ((wrap64 ((a0.size : Int) - 1)) : Int).toNat) 0) else (none)) else (none)) = some r := h
  clear h
  by_cases c2 : 1 ≤ (wrap64 ((a0.size : Int) - 1))
  · rw [if_pos c2] at H
    have c2b0 := eq_true c2
    have c2b1 : decide (1 ≤ (wrap64 ((a0.size : Int) - 1))) = true := decide_eq_true c2
    clear c2
    by_cases c3 : (wrap64 ((a0.size : Int) - 1)) ≤ (a0.size : Int)
    · rw [if_pos c3] at H
      have c3b0 := eq_true c3
      have c3b1 : decide ((wrap64 ((a0.size : Int) - 1)) ≤ (a0.size : Int)) = true := decide_eq_true c3
      clear c3
      have H' := Aside0.mk H
      clear H
      go_enter Tryd.func30, Tryd.ntmps30
      go_wp2
      try simp only [Act.put, List.setIfInBounds_toArray, List.set_cons_succ, List.set_cons_zero]
      generalize (a0.extract 1 ((wrap64 ((a0.size : Int) - 1)) : Int).toNat) = sx1 at *
      go_loopg [3, 5] k (fun kq v3 v5 w' => ∃ (x3_1 : List Int) (x5_1 : Int), v5 = .int .i64 x5_1 ∧ Aside0 (spec_Unquote.l0 kq x3_1 sx1 x5_1 = some r) ∧ Aside0 (kq ≤ k) ∧ Aside0 (Kd.R (Kd.int .u8) 5 w' w.heap.size (fun _ => True) v3 x3_1) ∧ Aside0 (Below w.heap.size w w'))
      case atStart => exact ⟨(([] : List Int)), (0), (by first | rfl | (simp; done) | (simp [*]; done)), H', ⟨Nat.le_refl _⟩, ⟨by first | exact Kd.R_nil _ _ _ _ _ | exact Kd.N_nil _ _ _ _ _ | exact Kd.V_nil _ _ _ _ _ | exact Kd.Q_nil _ _ _ _ _ | exact Kd.S_nil _ _ _ _ _⟩, ⟨by repeat (first | (with_reducible first | exact HB.out | apply below_alloc | apply pw_below_drewN | apply below_drew1) | exact HB.out)⟩⟩
      case round =>
        clear H'
        try clear c2
        try clear c2b0
        try clear c2b1
        try clear p2
        try clear c3
        try clear c3b0
        try clear c3b1
        obtain ⟨x3_1, x5_1, rfl, HA, HK1, HO_3, HB⟩ := hrel
        cases gk with
        | zero => exact absurd HA.out (by simp [spec_Unquote.l0])
        | succ k1 =>
          have H := HA.out
          clear HA
          simp only [spec_Unquote.l0] at H
          by_cases c4 : x5_1 < (sx1.size : Int)
          · rw [if_pos c4] at H
            have c4b0 : decide (x5_1 < (sx1.size : Int)) = true := decide_eq_true c4
            clear c4
            by_cases c5 : 0 ≤ x5_1
            · rw [if_pos c5] at H
              have c5b0 : decide (0 ≤ x5_1) = true := decide_eq_true c5
              clear c5
              by_cases c7 : (bt sx1 x5_1) = 92
              · rw [if_pos c7] at H
                have c7b0 : ((bt sx1 x5_1) == 92) = true := beq_iff_eq.mpr c7
                have c7b1 : ((bt sx1 x5_1) != 92) = false := bne_eq_false_iff_eq.mpr c7
                clear c7
                replace H := Option.bind_eq_some_iff.mp H
                obtain ⟨⟨t135, t136⟩, A80, H⟩ := H
                replace H : (if t136 = true then ((spec_unit.f k1 sx1 (wrap64 (x5_1 + 6))).bind fun bt141 => (if bt141.2 = true then ((spec_high.f t135).bind fun t143 => (if t143 = true then ((spec_low.f bt141.1).bind fun t144 => (if t144 = true then ((spec_appendUTF8.f k1 x3_1 (wrap64 ((wrap64 (65536 + (wrap64 ((wrap64 (t135 - 55296)) * 1024)))) + (wrap64 (bt141.1 - 56320))))).bind fun t145 => (spec_Unquote.l0 k1 t145 sx1 (wrap64 ((wrap64 (x5_1 + 6)) + 6)))) else ((spec_appendUTF8.f k1 x3_1 t135).bind fun t148 => (spec_Unquote.l0 k1 t148 sx1 (wrap64 (x5_1 + 6)))))) else ((spec_appendUTF8.f k1 x3_1 t135).bind fun t151 => (spec_Unquote.l0 k1 t151 sx1 (wrap64 (x5_1 + 6)))))) else ((spec_appendUTF8.f k1 x3_1 t135).bind fun t154 => (spec_Unquote.l0 k1 t154 sx1 (wrap64 (x5_1 + 6)))))) else (if 0 ≤ (wrap64 (x5_1 + 1)) then (if (wrap64 (x5_1 + 1)) < (sx1.size : Int) then ((spec_short.f (bt sx1 (wrap64 (x5_1 + 1)))).bind fun t137 => (if x3_1.length < 140737488355328 then (spec_Unquote.l0 k1 (x3_1 ++ [t137]) sx1 (wrap64 (x5_1 + 2))) else (none))) else (none)) else (none))) = some r := H
                have A8 := Aside0.mk A80
                clear A80
                by_cases c9 : t136 = true
                · subst c9
                  have H1 : ((spec_unit.f k1 sx1 (wrap64 (x5_1 + 6))).bind fun bt141 => (if bt141.2 = true then ((spec_high.f t135).bind fun t143 => (if t143 = true then ((spec_low.f bt141.1).bind fun t144 => (if t144 = true then ((spec_appendUTF8.f k1 x3_1 (wrap64 ((wrap64 (65536 + (wrap64 ((wrap64 (t135 - 55296)) * 1024)))) + (wrap64 (bt141.1 - 56320))))).bind fun t145 => (spec_Unquote.l0 k1 t145 sx1 (wrap64 ((wrap64 (x5_1 + 6)) + 6)))) else ((spec_appendUTF8.f k1 x3_1 t135).bind fun t148 => (spec_Unquote.l0 k1 t148 sx1 (wrap64 (x5_1 + 6)))))) else ((spec_appendUTF8.f k1 x3_1 t135).bind fun t151 => (spec_Unquote.l0 k1 t151 sx1 (wrap64 (x5_1 + 6)))))) else ((spec_appendUTF8.f k1 x3_1 t135).bind fun t154 => (spec_Unquote.l0 k1 t154 sx1 (wrap64 (x5_1 + 6)))))) = some r := by rw [if_pos rfl] at H; exact H
                  clear H
                  have H := H1
                  clear H1
                  replace H := Option.bind_eq_some_iff.mp H
                  obtain ⟨⟨t141, t142⟩, A100, H⟩ := H
                  replace H : (if t142 = true then ((spec_high.f t135).bind fun t143 => (if t143 = true then ((spec_low.f t141).bind fun t144 => (if t144 = true then ((spec_appendUTF8.f k1 x3_1 (wrap64 ((wrap64 (65536 + (wrap64 ((wrap64 (t135 - 55296)) * 1024)))) + (wrap64 (t141 - 56320))))).bind fun t145 => (spec_Unquote.l0 k1 t145 sx1 (wrap64 ((wrap64 (x5_1 + 6)) + 6)))) else ((spec_appendUTF8.f k1 x3_1 t135).bind fun t148 => (spec_Unquote.l0 k1 t148 sx1 (wrap64 (x5_1 + 6)))))) else ((spec_appendUTF8.f k1 x3_1 t135).bind fun t151 => (spec_Unquote.l0 k1 t151 sx1 (wrap64 (x5_1 + 6)))))) else ((spec_appendUTF8.f k1 x3_1 t135).bind fun t154 => (spec_Unquote.l0 k1 t154 sx1 (wrap64 (x5_1 + 6))))) = some r := H
                  have A10 := Aside0.mk A100
                  clear A100
                  by_cases c11 : t142 = true
                  · subst c11
                    have H1 : ((spec_high.f t135).bind fun t143 => (if t143 = true then ((spec_low.f t141).bind fun t144 => (if t144 = true then ((spec_appendUTF8.f k1 x3_1 (wrap64 ((wrap64 (65536 + (wrap64 ((wrap64 (t135 - 55296)) * 1024)))) + (wrap64 (t141 - 56320))))).bind fun t145 => (spec_Unquote.l0 k1 t145 sx1 (wrap64 ((wrap64 (x5_1 + 6)) + 6)))) else ((spec_appendUTF8.f k1 x3_1 t135).bind fun t148 => (spec_Unquote.l0 k1 t148 sx1 (wrap64 (x5_1 + 6)))))) else ((spec_appendUTF8.f k1 x3_1 t135).bind fun t151 => (spec_Unquote.l0 k1 t151 sx1 (wrap64 (x5_1 + 6)))))) = some r := by rw [if_pos rfl] at H; exact H
                    clear H
                    have H := H1
                    clear H1
                    replace H := Option.bind_eq_some_iff.mp H
                    obtain ⟨t143, A120, H⟩ := H
                    replace H : (if t143 = true then ((spec_low.f t141).bind fun t144 => (if t144 = true then ((spec_appendUTF8.f k1 x3_1 (wrap64 ((wrap64 (65536 + (wrap64 ((wrap64 (t135 - 55296)) * 1024)))) + (wrap64 (t141 - 56320))))).bind fun t145 => (spec_Unquote.l0 k1 t145 sx1 (wrap64 ((wrap64 (x5_1 + 6)) + 6)))) else ((spec_appendUTF8.f k1 x3_1 t135).bind fun t148 => (spec_Unquote.l0 k1 t148 sx1 (wrap64 (x5_1 + 6)))))) else ((spec_appendUTF8.f k1 x3_1 t135).bind fun t151 => (spec_Unquote.l0 k1 t151 sx1 (wrap64 (x5_1 + 6))))) = some r := H
                    have A12 := Aside0.mk A120
                    clear A120
                    by_cases c13 : t143 = true
                    · subst c13
                      have H1 : ((spec_low.f t141).bind fun t144 => (if t144 = true then ((spec_appendUTF8.f k1 x3_1 (wrap64 ((wrap64 (65536 + (wrap64 ((wrap64 (t135 - 55296)) * 1024)))) + (wrap64 (t141 - 56320))))).bind fun t145 => (spec_Unquote.l0 k1 t145 sx1 (wrap64 ((wrap64 (x5_1 + 6)) + 6)))) else ((spec_appendUTF8.f k1 x3_1 t135).bind fun t148 => (spec_Unquote.l0 k1 t148 sx1 (wrap64 (x5_1 + 6)))))) = some r := by rw [if_pos rfl] at H; exact H
                      clear H
                      have H := H1
                      clear H1
                      replace H := Option.bind_eq_some_iff.mp H
                      obtain ⟨t144, A140, H⟩ := H
                      replace H : (if t144 = true then ((spec_appendUTF8.f k1 x3_1 (wrap64 ((wrap64 (65536 + (wrap64 ((wrap64 (t135 - 55296)) * 1024)))) + (wrap64 (t141 - 56320))))).bind fun t145 => (spec_Unquote.l0 k1 t145 sx1 (wrap64 ((wrap64 (x5_1 + 6)) + 6)))) else ((spec_appendUTF8.f k1 x3_1 t135).bind fun t148 => (spec_Unquote.l0 k1 t148 sx1 (wrap64 (x5_1 + 6))))) = some r := H
                      have A14 := Aside0.mk A140
                      clear A140
                      by_cases c15 : t144 = true
                      · subst c15
                        have H1 : ((spec_appendUTF8.f k1 x3_1 (wrap64 ((wrap64 (65536 + (wrap64 ((wrap64 (t135 - 55296)) * 1024)))) + (wrap64 (t141 - 56320))))).bind fun t145 => (spec_Unquote.l0 k1 t145 sx1 (wrap64 ((wrap64 (x5_1 + 6)) + 6)))) = some r := by rw [if_pos rfl] at H; exact H
                        clear H
                        have H := H1
                        clear H1
                        replace H := Option.bind_eq_some_iff.mp H
                        obtain ⟨t145, A160, H⟩ := H
                        replace H : (spec_Unquote.l0 k1 t145 sx1 (wrap64 ((wrap64 (x5_1 + 6)) + 6))) = some r := H
                        have A16 := Aside0.mk A160
                        clear A160
                        have H' := Aside0.mk H
                        clear H
                        have p6 : 0 ≤ (x5_1 : Int) := of_decide_eq_true (by first | (with_reducible assumption) | assumption)
                        have q6 : x5_1 < (sx1.size : Int) := of_decide_eq_true (by first | (with_reducible assumption) | assumption)
                        have hx6 := bt_at sx1 x5_1
                        replace p6 := eq_true p6
                        replace q6 := eq_true q6
                        go_wp2_with (first | ((with_reducible refine gate_callee (f := 46) rfl ?_); refine goesL_ (some 34) rfl rfl Tryd.func46 (by kernel_rfl) rfl #[.string sx1, .int .i64 x5_1] rfl (by (try simp only [List.map_toArray, List.map_cons, List.map_nil]); first | done | rfl | (simp only [List.length_drop, List.length_take]; rfl)) ?_; (with_reducible refine (spec_unit.calls k1 sx1 x5_1 t135 true _ A8.out).mono ?_); rintro e w' ⟨rfl, ⟨nd, rfl⟩⟩; refine ⟨_, rfl, ?_⟩) | ((with_reducible refine gate_callee (f := 46) rfl ?_); refine goesL_ (some 54) rfl rfl Tryd.func46 (by kernel_rfl) rfl #[.string sx1, .int .i64 (wrap64 (x5_1 + 6))] rfl (by (try simp only [List.map_toArray, List.map_cons, List.map_nil]); first | done | rfl | (simp only [List.length_drop, List.length_take]; rfl)) ?_; (with_reducible refine (spec_unit.calls k1 sx1 (wrap64 (x5_1 + 6)) t141 true _ A10.out).mono ?_); rintro e w' ⟨rfl, ⟨nd, rfl⟩⟩; refine ⟨_, rfl, ?_⟩) | (go_at_call 47; (with_reducible refine (spec_high.calls t135 true _ A12.out).mono ?_); rintro e w' ⟨rfl, ⟨nd, rfl⟩⟩) | (go_at_call 48; (with_reducible refine (spec_low.calls t141 true _ A14.out).mono ?_); rintro e w' ⟨rfl, ⟨nd, rfl⟩⟩; obtain ⟨Ao17, co17, eo17⟩ := Kd.R_slice HO_3.out; subst eo17) | ((with_reducible refine gate_callee (f := 51) rfl ?_); refine goesL_ (some 77) rfl rfl Tryd.func51 (by kernel_rfl) rfl #[.slice Ao17 x3_1.length co17, .int .i64 (wrap64 ((wrap64 (65536 + (wrap64 ((wrap64 (t135 - 55296)) * 1024)))) + (wrap64 (t141 - 56320))))] rfl (by (try simp only [List.map_toArray, List.map_cons, List.map_nil]); first | done | rfl | (simp only [List.length_drop, List.length_take]; rfl)) ?_; (with_reducible refine (spec_appendUTF8.calls k1 (fun k_ => some k_ = (.slice Ao17 x3_1.length co17 : Value).ownBlock) (.slice Ao17 x3_1.length co17) x3_1 (wrap64 ((wrap64 (65536 + (wrap64 ((wrap64 (t135 - 55296)) * 1024)))) + (wrap64 (t141 - 56320)))) t145 w _ ?side1 ?side2 A16.out).mono ?_); (case side1 => repeat (first | (with_reducible first | exact HB.out | apply below_alloc | apply pw_below_drewN | apply below_drew1) | exact HB.out)); (case side2 => exact Kd.R_tight rfl HO_3.out); rintro e w18 ⟨v146, rfl, ho0, hb, hkp⟩; refine ⟨_, rfl, ?_⟩; have n0_ := Aside0.mk (Kd.R_mono (ok' := fun k_ => True) ho0 (fun k_ hk_ => trivial)); have n1_ := Aside0.mk (hb); clear HB; clear HO_3; have HO147 := n0_; have HB := n1_; clear n0_ n1_; (try clear hb); (try clear hkp); (try clear ho0)))
                        go_roundg k1
                        case measure => have := HK1.out; omega
                        case rel => exact ⟨(t145), (wrap64 ((wrap64 (x5_1 + 6)) + 6)), (by first | rfl | (simp; done) | (simp [*]; done)), H', ⟨by have := HK1.out; omega⟩, ⟨by (with_reducible repeat (first | apply Kd.R_alloc | apply Kd.R_drewN | apply Kd.R_drew)); exact HO147.out⟩, ⟨by repeat (first | (with_reducible first | exact HB.out | apply below_alloc | apply pw_below_drewN | apply below_drew1) | exact HB.out)⟩⟩
                      · replace c15 := Bool.eq_false_iff.mpr c15
                        subst c15
                        have H1 : ((spec_appendUTF8.f k1 x3_1 t135).bind fun t148 => (spec_Unquote.l0 k1 t148 sx1 (wrap64 (x5_1 + 6)))) = some r := by rw [if_neg (show ¬ (false = true) by decide)] at H; exact H
                        clear H
                        have H := H1
                        clear H1
                        replace H := Option.bind_eq_some_iff.mp H
                        obtain ⟨t148, A190, H⟩ := H
                        replace H : (spec_Unquote.l0 k1 t148 sx1 (wrap64 (x5_1 + 6))) = some r := H
                        have A19 := Aside0.mk A190
                        clear A190
                        have H' := Aside0.mk H
                        clear H
                        have p6 : 0 ≤ (x5_1 : Int) := of_decide_eq_true (by first | (with_reducible assumption) | assumption)
                        have q6 : x5_1 < (sx1.size : Int) := of_decide_eq_true (by first | (with_reducible assumption) | assumption)
                        have hx6 := bt_at sx1 x5_1
                        replace p6 := eq_true p6
                        replace q6 := eq_true q6
                        go_wp2_with (first | ((with_reducible refine gate_callee (f := 46) rfl ?_); refine goesL_ (some 34) rfl rfl Tryd.func46 (by kernel_rfl) rfl #[.string sx1, .int .i64 x5_1] rfl (by (try simp only [List.map_toArray, List.map_cons, List.map_nil]); first | done | rfl | (simp only [List.length_drop, List.length_take]; rfl)) ?_; (with_reducible refine (spec_unit.calls k1 sx1 x5_1 t135 true _ A8.out).mono ?_); rintro e w' ⟨rfl, ⟨nd, rfl⟩⟩; refine ⟨_, rfl, ?_⟩) | ((with_reducible refine gate_callee (f := 46) rfl ?_); refine goesL_ (some 54) rfl rfl Tryd.func46 (by kernel_rfl) rfl #[.string sx1, .int .i64 (wrap64 (x5_1 + 6))] rfl (by (try simp only [List.map_toArray, List.map_cons, List.map_nil]); first | done | rfl | (simp only [List.length_drop, List.length_take]; rfl)) ?_; (with_reducible refine (spec_unit.calls k1 sx1 (wrap64 (x5_1 + 6)) t141 true _ A10.out).mono ?_); rintro e w' ⟨rfl, ⟨nd, rfl⟩⟩; refine ⟨_, rfl, ?_⟩) | (go_at_call 47; (with_reducible refine (spec_high.calls t135 true _ A12.out).mono ?_); rintro e w' ⟨rfl, ⟨nd, rfl⟩⟩) | (go_at_call 48; (with_reducible refine (spec_low.calls t141 false _ A14.out).mono ?_); rintro e w' ⟨rfl, ⟨nd, rfl⟩⟩; obtain ⟨Ao20, co20, eo20⟩ := Kd.R_slice HO_3.out; subst eo20) | ((with_reducible refine gate_callee (f := 51) rfl ?_); refine goesL_ (some 77) rfl rfl Tryd.func51 (by kernel_rfl) rfl #[.slice Ao20 x3_1.length co20, .int .i64 t135] rfl (by (try simp only [List.map_toArray, List.map_cons, List.map_nil]); first | done | rfl | (simp only [List.length_drop, List.length_take]; rfl)) ?_; (with_reducible refine (spec_appendUTF8.calls k1 (fun k_ => some k_ = (.slice Ao20 x3_1.length co20 : Value).ownBlock) (.slice Ao20 x3_1.length co20) x3_1 t135 t148 w _ ?side1 ?side2 A19.out).mono ?_); (case side1 => repeat (first | (with_reducible first | exact HB.out | apply below_alloc | apply pw_below_drewN | apply below_drew1) | exact HB.out)); (case side2 => exact Kd.R_tight rfl HO_3.out); rintro e w21 ⟨v149, rfl, ho0, hb, hkp⟩; refine ⟨_, rfl, ?_⟩; have n0_ := Aside0.mk (Kd.R_mono (ok' := fun k_ => True) ho0 (fun k_ hk_ => trivial)); have n1_ := Aside0.mk (hb); clear HB; clear HO_3; have HO150 := n0_; have HB := n1_; clear n0_ n1_; (try clear hb); (try clear hkp); (try clear ho0)))
                        go_roundg k1
                        case measure => have := HK1.out; omega
                        case rel => exact ⟨(t148), (wrap64 (x5_1 + 6)), (by first | rfl | (simp; done) | (simp [*]; done)), H', ⟨by have := HK1.out; omega⟩, ⟨by (with_reducible repeat (first | apply Kd.R_alloc | apply Kd.R_drewN | apply Kd.R_drew)); exact HO150.out⟩, ⟨by repeat (first | (with_reducible first | exact HB.out | apply below_alloc | apply pw_below_drewN | apply below_drew1) | exact HB.out)⟩⟩
                    · replace c13 := Bool.eq_false_iff.mpr c13
                      subst c13
                      have H1 : ((spec_appendUTF8.f k1 x3_1 t135).bind fun t151 => (spec_Unquote.l0 k1 t151 sx1 (wrap64 (x5_1 + 6)))) = some r := by rw [if_neg (show ¬ (false = true) by decide)] at H; exact H
                      clear H
                      have H := H1
                      clear H1
                      replace H := Option.bind_eq_some_iff.mp H
                      obtain ⟨t151, A220, H⟩ := H
                      replace H : (spec_Unquote.l0 k1 t151 sx1 (wrap64 (x5_1 + 6))) = some r := H
                      have A22 := Aside0.mk A220
                      clear A220
                      have H' := Aside0.mk H
                      clear H
                      have p6 : 0 ≤ (x5_1 : Int) := of_decide_eq_true (by first | (with_reducible assumption) | assumption)
                      have q6 : x5_1 < (sx1.size : Int) := of_decide_eq_true (by first | (with_reducible assumption) | assumption)
                      have hx6 := bt_at sx1 x5_1
                      replace p6 := eq_true p6
                      replace q6 := eq_true q6
                      go_wp2_with (first | ((with_reducible refine gate_callee (f := 46) rfl ?_); refine goesL_ (some 34) rfl rfl Tryd.func46 (by kernel_rfl) rfl #[.string sx1, .int .i64 x5_1] rfl (by (try simp only [List.map_toArray, List.map_cons, List.map_nil]); first | done | rfl | (simp only [List.length_drop, List.length_take]; rfl)) ?_; (with_reducible refine (spec_unit.calls k1 sx1 x5_1 t135 true _ A8.out).mono ?_); rintro e w' ⟨rfl, ⟨nd, rfl⟩⟩; refine ⟨_, rfl, ?_⟩) | ((with_reducible refine gate_callee (f := 46) rfl ?_); refine goesL_ (some 54) rfl rfl Tryd.func46 (by kernel_rfl) rfl #[.string sx1, .int .i64 (wrap64 (x5_1 + 6))] rfl (by (try simp only [List.map_toArray, List.map_cons, List.map_nil]); first | done | rfl | (simp only [List.length_drop, List.length_take]; rfl)) ?_; (with_reducible refine (spec_unit.calls k1 sx1 (wrap64 (x5_1 + 6)) t141 true _ A10.out).mono ?_); rintro e w' ⟨rfl, ⟨nd, rfl⟩⟩; refine ⟨_, rfl, ?_⟩) | (go_at_call 47; (with_reducible refine (spec_high.calls t135 false _ A12.out).mono ?_); rintro e w' ⟨rfl, ⟨nd, rfl⟩⟩; obtain ⟨Ao23, co23, eo23⟩ := Kd.R_slice HO_3.out; subst eo23) | ((with_reducible refine gate_callee (f := 51) rfl ?_); refine goesL_ (some 77) rfl rfl Tryd.func51 (by kernel_rfl) rfl #[.slice Ao23 x3_1.length co23, .int .i64 t135] rfl (by (try simp only [List.map_toArray, List.map_cons, List.map_nil]); first | done | rfl | (simp only [List.length_drop, List.length_take]; rfl)) ?_; (with_reducible refine (spec_appendUTF8.calls k1 (fun k_ => some k_ = (.slice Ao23 x3_1.length co23 : Value).ownBlock) (.slice Ao23 x3_1.length co23) x3_1 t135 t151 w _ ?side1 ?side2 A22.out).mono ?_); (case side1 => repeat (first | (with_reducible first | exact HB.out | apply below_alloc | apply pw_below_drewN | apply below_drew1) | exact HB.out)); (case side2 => exact Kd.R_tight rfl HO_3.out); rintro e w24 ⟨v152, rfl, ho0, hb, hkp⟩; refine ⟨_, rfl, ?_⟩; have n0_ := Aside0.mk (Kd.R_mono (ok' := fun k_ => True) ho0 (fun k_ hk_ => trivial)); have n1_ := Aside0.mk (hb); clear HB; clear HO_3; have HO153 := n0_; have HB := n1_; clear n0_ n1_; (try clear hb); (try clear hkp); (try clear ho0)))
                      go_roundg k1
                      case measure => have := HK1.out; omega
                      case rel => exact ⟨(t151), (wrap64 (x5_1 + 6)), (by first | rfl | (simp; done) | (simp [*]; done)), H', ⟨by have := HK1.out; omega⟩, ⟨by (with_reducible repeat (first | apply Kd.R_alloc | apply Kd.R_drewN | apply Kd.R_drew)); exact HO153.out⟩, ⟨by repeat (first | (with_reducible first | exact HB.out | apply below_alloc | apply pw_below_drewN | apply below_drew1) | exact HB.out)⟩⟩
                  · replace c11 := Bool.eq_false_iff.mpr c11
                    subst c11
                    have H1 : ((spec_appendUTF8.f k1 x3_1 t135).bind fun t154 => (spec_Unquote.l0 k1 t154 sx1 (wrap64 (x5_1 + 6)))) = some r := by rw [if_neg (show ¬ (false = true) by decide)] at H; exact H
                    clear H
                    have H := H1
                    clear H1
                    replace H := Option.bind_eq_some_iff.mp H
                    obtain ⟨t154, A250, H⟩ := H
                    replace H : (spec_Unquote.l0 k1 t154 sx1 (wrap64 (x5_1 + 6))) = some r := H
                    have A25 := Aside0.mk A250
                    clear A250
                    have H' := Aside0.mk H
                    clear H
                    have p6 : 0 ≤ (x5_1 : Int) := of_decide_eq_true (by first | (with_reducible assumption) | assumption)
                    have q6 : x5_1 < (sx1.size : Int) := of_decide_eq_true (by first | (with_reducible assumption) | assumption)
                    have hx6 := bt_at sx1 x5_1
                    replace p6 := eq_true p6
                    replace q6 := eq_true q6
                    go_wp2_with (first | ((with_reducible refine gate_callee (f := 46) rfl ?_); refine goesL_ (some 34) rfl rfl Tryd.func46 (by kernel_rfl) rfl #[.string sx1, .int .i64 x5_1] rfl (by (try simp only [List.map_toArray, List.map_cons, List.map_nil]); first | done | rfl | (simp only [List.length_drop, List.length_take]; rfl)) ?_; (with_reducible refine (spec_unit.calls k1 sx1 x5_1 t135 true _ A8.out).mono ?_); rintro e w' ⟨rfl, ⟨nd, rfl⟩⟩; refine ⟨_, rfl, ?_⟩) | ((with_reducible refine gate_callee (f := 46) rfl ?_); refine goesL_ (some 54) rfl rfl Tryd.func46 (by kernel_rfl) rfl #[.string sx1, .int .i64 (wrap64 (x5_1 + 6))] rfl (by (try simp only [List.map_toArray, List.map_cons, List.map_nil]); first | done | rfl | (simp only [List.length_drop, List.length_take]; rfl)) ?_; (with_reducible refine (spec_unit.calls k1 sx1 (wrap64 (x5_1 + 6)) t141 false _ A10.out).mono ?_); rintro e w' ⟨rfl, ⟨nd, rfl⟩⟩; refine ⟨_, rfl, ?_⟩; obtain ⟨Ao26, co26, eo26⟩ := Kd.R_slice HO_3.out; subst eo26) | ((with_reducible refine gate_callee (f := 51) rfl ?_); refine goesL_ (some 77) rfl rfl Tryd.func51 (by kernel_rfl) rfl #[.slice Ao26 x3_1.length co26, .int .i64 t135] rfl (by (try simp only [List.map_toArray, List.map_cons, List.map_nil]); first | done | rfl | (simp only [List.length_drop, List.length_take]; rfl)) ?_; (with_reducible refine (spec_appendUTF8.calls k1 (fun k_ => some k_ = (.slice Ao26 x3_1.length co26 : Value).ownBlock) (.slice Ao26 x3_1.length co26) x3_1 t135 t154 w _ ?side1 ?side2 A25.out).mono ?_); (case side1 => repeat (first | (with_reducible first | exact HB.out | apply below_alloc | apply pw_below_drewN | apply below_drew1) | exact HB.out)); (case side2 => exact Kd.R_tight rfl HO_3.out); rintro e w27 ⟨v155, rfl, ho0, hb, hkp⟩; refine ⟨_, rfl, ?_⟩; have n0_ := Aside0.mk (Kd.R_mono (ok' := fun k_ => True) ho0 (fun k_ hk_ => trivial)); have n1_ := Aside0.mk (hb); clear HB; clear HO_3; have HO156 := n0_; have HB := n1_; clear n0_ n1_; (try clear hb); (try clear hkp); (try clear ho0)))
                    go_roundg k1
                    case measure => have := HK1.out; omega
                    case rel => exact ⟨(t154), (wrap64 (x5_1 + 6)), (by first | rfl | (simp; done) | (simp [*]; done)), H', ⟨by have := HK1.out; omega⟩, ⟨by (with_reducible repeat (first | apply Kd.R_alloc | apply Kd.R_drewN | apply Kd.R_drew)); exact HO156.out⟩, ⟨by repeat (first | (with_reducible first | exact HB.out | apply below_alloc | apply pw_below_drewN | apply below_drew1) | exact HB.out)⟩⟩
                · replace c9 := Bool.eq_false_iff.mpr c9
                  subst c9
                  have H1 : (if 0 ≤ (wrap64 (x5_1 + 1)) then (if (wrap64 (x5_1 + 1)) < (sx1.size : Int) then ((spec_short.f (bt sx1 (wrap64 (x5_1 + 1)))).bind fun t137 => (if x3_1.length < 140737488355328 then (spec_Unquote.l0 k1 (x3_1 ++ [t137]) sx1 (wrap64 (x5_1 + 2))) else (none))) else (none)) else (none)) = some r := by rw [if_neg (show ¬ (false = true) by decide)] at H; exact H
                  clear H
                  have H := H1
                  clear H1
                  obtain ⟨ji28, hji28⟩ : ∃ j_ : Int, (wrap64 (x5_1 + 1)) = j_ := ⟨_, rfl⟩
                  replace H : (if 0 ≤ (ji28) then (if (ji28) < (sx1.size : Int) then ((spec_short.f (bt sx1 (ji28))).bind fun t137 => (if x3_1.length < 140737488355328 then (spec_Unquote.l0 k1 (x3_1 ++ [t137]) sx1 (wrap64 (x5_1 + 2))) else (none))) else (none)) else (none)) = some r := by first | (rw [hji28] at H; exact H) | (simp only [hji28] at H ⊢; exact H)
                  (try rw [hji28] at A8)
                  have hji28w : (IntKind.i64.wrap (x5_1 + 1)) = ji28 := (i64_w _).trans hji28
                  by_cases c29 : 0 ≤ (ji28)
                  · rw [if_pos c29] at H
                    have c29b0 : decide (0 ≤ (ji28)) = true := decide_eq_true c29
                    clear c29
                    by_cases c30 : (ji28) < (sx1.size : Int)
                    · rw [if_pos c30] at H
                      have c30b0 : decide ((ji28) < (sx1.size : Int)) = true := decide_eq_true c30
                      clear c30
                      replace H := Option.bind_eq_some_iff.mp H
                      obtain ⟨t137, A320, H⟩ := H
                      replace H : (if x3_1.length < 140737488355328 then (spec_Unquote.l0 k1 (x3_1 ++ [t137]) sx1 (wrap64 (x5_1 + 2))) else (none)) = some r := H
                      have A32 := Aside0.mk A320
                      clear A320
                      by_cases c33 : x3_1.length < 140737488355328
                      · rw [if_pos c33] at H
                        have LMc33 := Aside0.mk c33
                        clear c33
                        obtain ⟨y138, hy138⟩ : ∃ y_ : List Int, y_ = (x3_1 ++ [t137]) := ⟨_, rfl⟩
                        replace H : (spec_Unquote.l0 k1 y138 sx1 (wrap64 (x5_1 + 2))) = some r := by first | (rw [hy138]; with_reducible exact H) | (have H2_ := (Option.bind_some _ _).symm.trans H; rw [hy138]; with_reducible exact H2_) | (have H2_ := (Option.bind_some _ _).symm.trans H; with_reducible exact H2_) | with_reducible exact H | (rw [hy138]; exact H) | exact H
                        have Ny138 := Aside0.mk hy138
                        clear hy138
                        have H' := Aside0.mk H
                        clear H
                        have p6 : 0 ≤ (x5_1 : Int) := of_decide_eq_true (by first | (with_reducible assumption) | assumption)
                        have q6 : x5_1 < (sx1.size : Int) := of_decide_eq_true (by first | (with_reducible assumption) | assumption)
                        have hx6 := bt_at sx1 x5_1
                        replace p6 := eq_true p6
                        replace q6 := eq_true q6
                        go_wp2_with (first | ((with_reducible refine gate_callee (f := 46) rfl ?_); refine goesL_ (some 34) rfl rfl Tryd.func46 (by kernel_rfl) rfl #[.string sx1, .int .i64 x5_1] rfl (by (try simp only [List.map_toArray, List.map_cons, List.map_nil]); first | done | rfl | (simp only [List.length_drop, List.length_take]; rfl)) ?_; (with_reducible refine (spec_unit.calls k1 sx1 x5_1 t135 false _ A8.out).mono ?_); rintro e w' ⟨rfl, ⟨nd, rfl⟩⟩; refine ⟨_, rfl, ?_⟩; have p31 : 0 ≤ ((ji28) : Int) := of_decide_eq_true (by first | (with_reducible assumption) | assumption); have q31 : (ji28) < (sx1.size : Int) := of_decide_eq_true (by first | (with_reducible assumption) | assumption); have hx31 := bt_at sx1 (ji28); replace p31 := eq_true p31; replace q31 := eq_true q31) | ((with_reducible refine gate_callee (f := 50) rfl ?_); refine goesL_ (some 44) rfl rfl Tryd.func50 (by kernel_rfl) rfl #[.int .u8 (bt sx1 (ji28))] rfl (by (try simp only [List.map_toArray, List.map_cons, List.map_nil]); first | done | (simp only [hji28]; rfl) | rfl | (simp only [List.length_drop, List.length_take]; rfl)) ?_; (with_reducible refine (spec_short.calls (bt sx1 (ji28)) t137 _ A32.out).mono ?_); rintro e w' ⟨rfl, ⟨nd, rfl⟩⟩; refine ⟨_, rfl, ?_⟩) | ((with_reducible refine gate_builtin (b := .append) (xs := #[.tmp 39, .tmp 45]) rfl ?_); at_builtin; refine Kd.R_append (Kd.int .u8) (w0 := w) w.heap.size rfl (.tmp 39) (.tmp 45) 42 5 (.int .u8 0) 1 rfl Tryd.underlying42 info5 rfl (by decide) (by omega) u3 x3_1 t137 [.int .u8 t137] (fun _ => True) (fun _ => False) rfl rfl ?aP (fun _ hk => hk.elim) ?aF ?aO ?aB ?aS ?aL ?_; (case aP => exact rfl); (case aB => exact (by repeat (first | (with_reducible first | exact HB.out | apply below_alloc | apply pw_below_drewN | apply below_drew1) | exact HB.out))); (case aF => exact (fun _ _ => trivial)); (case aO => exact (by (with_reducible repeat (first | apply Kd.R_alloc | apply Kd.R_drewN | apply Kd.R_drew)); exact HO_3.out)); (case aS => exact (below_size (by repeat (first | (with_reducible first | exact HB.out | apply below_alloc | apply pw_below_drewN | apply below_drew1) | exact HB.out)))); (case aL => have := LMc33.out; omega); intro v139 w34 ho hb hg hat; rw [← Ny138.out] at ho; have n0_ := Aside0.mk (hb); have n1_ := Aside0.mk (ho); clear HB; clear HO_3; have HB := n0_; have HO140 := n1_; clear n0_ n1_; clear ho hb hg hat))
                        go_roundg k1
                        case measure => have := HK1.out; omega
                        case rel => exact ⟨(y138), (wrap64 (x5_1 + 2)), (by first | rfl | (simp; done) | (simp [*]; done)), H', ⟨by have := HK1.out; omega⟩, ⟨by (with_reducible repeat (first | apply Kd.R_alloc | apply Kd.R_drewN | apply Kd.R_drew)); exact HO140.out⟩, ⟨by repeat (first | (with_reducible first | exact HB.out | apply below_alloc | apply pw_below_drewN | apply below_drew1) | exact HB.out)⟩⟩
                      · rw [if_neg c33] at H
                        exact absurd H (by simp)
                    · rw [if_neg c30] at H
                      exact absurd H (by simp)
                  · rw [if_neg c29] at H
                    exact absurd H (by simp)
              · rw [if_neg c7] at H
                have c7b0 : ((bt sx1 x5_1) == 92) = false := beq_eq_false_iff_ne.mpr c7
                have c7b1 : ((bt sx1 x5_1) != 92) = true := bne_iff_ne.mpr c7
                by_cases c36 : x3_1.length < 140737488355328
                · rw [if_pos c36] at H
                  have LMc36 := Aside0.mk c36
                  clear c36
                  obtain ⟨y132, hy132⟩ : ∃ y_ : List Int, y_ = (x3_1 ++ [bt sx1 x5_1]) := ⟨_, rfl⟩
                  replace H : (spec_Unquote.l0 k1 y132 sx1 (wrap64 (x5_1 + 1))) = some r := by first | (rw [hy132]; with_reducible exact H) | (have H2_ := (Option.bind_some _ _).symm.trans H; rw [hy132]; with_reducible exact H2_) | (have H2_ := (Option.bind_some _ _).symm.trans H; with_reducible exact H2_) | with_reducible exact H | (rw [hy132]; exact H) | exact H
                  have Ny132 := Aside0.mk hy132
                  clear hy132
                  have H' := Aside0.mk H
                  clear H
                  have p6 : 0 ≤ (x5_1 : Int) := of_decide_eq_true (by first | (with_reducible assumption) | assumption)
                  have q6 : x5_1 < (sx1.size : Int) := of_decide_eq_true (by first | (with_reducible assumption) | assumption)
                  have hx6 := bt_at sx1 x5_1
                  replace p6 := eq_true p6
                  replace q6 := eq_true q6
                  have p35 : 0 ≤ (x5_1 : Int) := of_decide_eq_true (by first | (with_reducible assumption) | assumption)
                  have q35 : x5_1 < (sx1.size : Int) := of_decide_eq_true (by first | (with_reducible assumption) | assumption)
                  have hx35 := bt_at sx1 x5_1
                  replace p35 := eq_true p35
                  replace q35 := eq_true q35
                  go_wp2_with (first | ((with_reducible refine gate_builtin (b := .append) (xs := #[.tmp 23, .tmp 27]) rfl ?_); at_builtin; refine Kd.R_append (Kd.int .u8) (w0 := w) w.heap.size rfl (.tmp 23) (.tmp 27) 42 5 (.int .u8 0) 1 rfl Tryd.underlying42 info5 rfl (by decide) (by omega) u3 x3_1 (bt sx1 x5_1) [.int .u8 (bt sx1 x5_1)] (fun _ => True) (fun _ => False) rfl rfl ?aP (fun _ hk => hk.elim) ?aF ?aO ?aB ?aS ?aL ?_; (case aP => exact rfl); (case aB => exact (by repeat (first | (with_reducible first | exact HB.out | apply below_alloc | apply pw_below_drewN | apply below_drew1) | exact HB.out))); (case aF => exact (fun _ _ => trivial)); (case aO => exact (by (with_reducible repeat (first | apply Kd.R_alloc | apply Kd.R_drewN | apply Kd.R_drew)); exact HO_3.out)); (case aS => exact (below_size (by repeat (first | (with_reducible first | exact HB.out | apply below_alloc | apply pw_below_drewN | apply below_drew1) | exact HB.out)))); (case aL => have := LMc36.out; omega); intro v133 w37 ho hb hg hat; rw [← Ny132.out] at ho; have n0_ := Aside0.mk (hb); have n1_ := Aside0.mk (ho); clear HB; clear HO_3; have HB := n0_; have HO134 := n1_; clear n0_ n1_; clear ho hb hg hat))
                  go_roundg k1
                  case measure => have := HK1.out; omega
                  case rel => exact ⟨(y132), (wrap64 (x5_1 + 1)), (by first | rfl | (simp; done) | (simp [*]; done)), H', ⟨by have := HK1.out; omega⟩, ⟨by (with_reducible repeat (first | apply Kd.R_alloc | apply Kd.R_drewN | apply Kd.R_drew)); exact HO134.out⟩, ⟨by repeat (first | (with_reducible first | exact HB.out | apply below_alloc | apply pw_below_drewN | apply below_drew1) | exact HB.out)⟩⟩
                · rw [if_neg c36] at H
                  exact absurd H (by simp)
            · rw [if_neg c5] at H
              exact absurd H (by simp)
          · rw [if_neg c4] at H
            have c4b0 : decide (x5_1 < (sx1.size : Int)) = false := decide_eq_false c4
            clear c4
            obtain rfl := Option.some.inj H
            have hcv38 := own_string (P := Tryd.prog) Tryd.underlying42 Tryd.underlying5 Tryd.underlying9 (Kd.own_of_R HO_3.out)
            go_wp2
            go_ret
            exact ⟨by first | rfl | (simp [errW_none, errW_some] <;> rfl) | (simp [*, errW_none, errW_some] <;> rfl), by repeat (first | (with_reducible first | exact HB.out | apply below_alloc | apply pw_below_drewN | apply below_drew1) | exact HB.out)⟩
    · rw [if_neg c3] at H
      exact absurd H (by simp)
  · rw [if_neg c2] at H
    exact absurd H (by simp)

/-- A state of type 61 at block g of W; what its slices lead to came in by w0. -/
def IsS61 (w0 W : World) (g : Nat) (f0 : ByteArray) (f1 : Int) : Prop := W.heap[g]? = some (.cells #[.string f0, .int .i64 f1] 61 (0, 0)) ∧ w0.heap.size ≤ g
theorem IsS61.grown {w0 W : World} {g : Nat} {f0 : ByteArray} {f1 : Int} {W1 : World} {row : Option Nat} (h : IsS61 w0 W g f0 f1) (hw : W.grownBy W1 row) (hne : some g ≠ row) : IsS61 w0 W1 g f0 f1 := by
  obtain ⟨hb, hg⟩ := h
  exact ⟨blk_grown hb hw hne, hg⟩
theorem IsS61.own_neN {w0 W : World} {g : Nat} {f0 : ByteArray} {f1 : Int} {α : Type} {d : Kd α} {e : Nat} {base : Nat} {ok : Nat → Prop} {v : Value} {xs : List α} (h : IsS61 w0 W g f0 f1) (ho : Kd.N d e W base ok v xs) (ht : e ≠ 61) : some g ≠ v.ownBlock := by
  obtain ⟨hb, hg⟩ := h
  exact Kd.N_ne ho hb ht
theorem IsS61.fresh {w0 W : World} {g : Nat} {f0 : ByteArray} {f1 : Int} (h : IsS61 w0 W g f0 f1) : ∀ k, W.heap.size ≤ k → k ≠ g := by
  obtain ⟨hb, hg⟩ := h
  exact Kd.freshB hb
theorem IsS61.kept {w0 W : World} {g : Nat} {f0 : ByteArray} {f1 : Int} {W1 : World} {S : Nat → Prop} (h : IsS61 w0 W g f0 f1) (hk : Kept W W1 S) (hne : ¬ S g) : IsS61 w0 W1 g f0 f1 := by
  obtain ⟨hb, hg⟩ := h
  exact ⟨blk_kept hb hk hne, hg⟩
theorem IsS61.below {w0 W : World} {g : Nat} {f0 : ByteArray} {f1 : Int} {W1 : World} (h : IsS61 w0 W g f0 f1) (hw : Below W.heap.size W W1) : IsS61 w0 W1 g f0 f1 := h.grown (grown_of_below hw none) (by simp)
theorem IsS61.alloc {w0 W : World} {g : Nat} {f0 : ByteArray} {f1 : Int} (h : IsS61 w0 W g f0 f1) (o : Obj) : IsS61 w0 (W.alloc o) g f0 f1 := h.below (below_alloc (Below.refl _ _) o)
theorem IsS61.drewN {w0 W : World} {g : Nat} {f0 : ByteArray} {f1 : Int} (h : IsS61 w0 W g f0 f1) (m : Nat) : IsS61 w0 (W.drewN m) g f0 f1 := h
theorem IsS61.drew {w0 W : World} {g : Nat} {f0 : ByteArray} {f1 : Int} (h : IsS61 w0 W g f0 f1) : IsS61 w0 W.drew g f0 f1 := h
theorem IsS61.at_ {w0 W : World} {g : Nat} {f0 : ByteArray} {f1 : Int} {w' : World} {m : Nat} (hq : W.drewN m = w') (h : IsS61 w0 W g f0 f1) : IsS61 w0 w' g f0 f1 := by subst hq; exact IsS61.drewN h m
theorem IsS61.apart {w0 W : World} {g : Nat} {f0 : ByteArray} {f1 : Int} {α : Type} {d : Kd α} {e : Nat} {base : Nat} {ok : Nat → Prop} {v : Value} {xs : List α} (h : IsS61 w0 W g f0 f1) (ho : d.R e W base ok v xs) (ht : ∀ q, q ∈ e :: d.E → q ≠ 61) : d.R e W base (fun k => ok k ∧ k ≠ g) v xs := by
  obtain ⟨hb, hg⟩ := h
  exact Kd.R_types ho hb ht
theorem IsS61.own_ne {w0 W : World} {g : Nat} {f0 : ByteArray} {f1 : Int} {α : Type} {d : Kd α} {e : Nat} {base : Nat} {ok : Nat → Prop} {v : Value} {xs : List α} (h : IsS61 w0 W g f0 f1) (ho : d.R e W base ok v xs) (ht : e ≠ 61) : some g ≠ v.ownBlock := by
  obtain ⟨hb, hg⟩ := h
  exact Kd.R_ne ho hb ht
theorem IsS61.apartQ {w0 W : World} {g : Nat} {f0 : ByteArray} {f1 : Int} {α : Type} {d : Kd α} {e : Nat} {base : Nat} {ok : Nat → Prop} {v : Value} {xs : List α} (h : IsS61 w0 W g f0 f1) (ho : d.Q e W base ok v xs) (ht : ∀ q, q ∈ e :: d.E → q ≠ 61) : d.Q e W base (fun k => ok k ∧ k ≠ g) v xs := by
  obtain ⟨hb, hg⟩ := h
  exact Kd.Q_types ho hb ht
theorem IsS61.own_neQ {w0 W : World} {g : Nat} {f0 : ByteArray} {f1 : Int} {α : Type} {d : Kd α} {e : Nat} {base : Nat} {ok : Nat → Prop} {v : Value} {xs : List α} (h : IsS61 w0 W g f0 f1) (ho : d.Q e W base ok v xs) (ht : e ≠ 61) : some g ≠ v.ownBlock := by
  obtain ⟨hb, hg⟩ := h
  exact Kd.Q_ne ho hb ht
theorem IsS61.apartS {w0 W : World} {g : Nat} {f0 : ByteArray} {f1 : Int} {α : Type} {d : Kd α} {e : Nat} {base : Nat} {ok : Nat → Prop} {v : Value} {xs : List α} (h : IsS61 w0 W g f0 f1) (ho : d.S e W base ok v xs) (ht : ∀ q, q ∈ e :: d.E → q ≠ 61) : d.S e W base (fun k => ok k ∧ k ≠ g) v xs := by
  obtain ⟨hb, hg⟩ := h
  exact Kd.S_types ho hb ht
theorem IsS61.own_neS {w0 W : World} {g : Nat} {f0 : ByteArray} {f1 : Int} {α : Type} {d : Kd α} {e : Nat} {base : Nat} {ok : Nat → Prop} {v : Value} {xs : List α} (h : IsS61 w0 W g f0 f1) (ho : d.S e W base ok v xs) (ht : e ≠ 61) : some g ≠ v.ownBlock := by
  obtain ⟨hb, hg⟩ := h
  exact Kd.S_ne ho hb ht
theorem IsS61.lt {w0 W : World} {g : Nat} {f0 : ByteArray} {f1 : Int} (h : IsS61 w0 W g f0 f1) : g < W.heap.size := by
  obtain ⟨hb, hg⟩ := h
  exact blk_lt hb
theorem IsS61.ge {w0 W : World} {g : Nat} {f0 : ByteArray} {f1 : Int} (h : IsS61 w0 W g f0 f1) : w0.heap.size ≤ g := by
  obtain ⟨hb, hg⟩ := h
  exact hg
theorem IsS61.ne_blk {w0 W : World} {g : Nat} {f0 : ByteArray} {f1 : Int} {a : Nat} {cs : Array Value} {t : TypeId} {fr : Nat × Nat} (h : IsS61 w0 W g f0 f1) (hb2 : W.heap[a]? = some (.cells cs t fr)) (ht : t ≠ 61) : g ≠ a := by
  obtain ⟨hb, hg⟩ := h
  rintro rfl
  rw [hb] at hb2
  injection hb2 with hb2
  injection hb2 with _ ht2
  exact ht ht2.symm
theorem IsS61.far {w0 W : World} {g : Nat} {f0 : ByteArray} {f1 : Int} {p : Addr} (h : IsS61 w0 W g f0 f1) (hne : g ≠ p.block) (u : Value) : IsS61 w0 (W.setCell p u) g f0 f1 := by
  obtain ⟨hb, hg⟩ := h
  exact ⟨blk_far hb hne u, hg⟩
theorem cellS61_0 {W : World} {g : Nat} {f0 : ByteArray} {f1 : Int} (h : W.heap[g]? = some (.cells #[.string f0, .int .i64 f1] 61 (0, 0))) : W.cell? ⟨g, 0, none⟩ = some (.string f0) := (blk_cell h 0).trans rfl
theorem IsS61.set_0 {w0 W : World} {g : Nat} {f0 : ByteArray} {f1 : Int} (h : IsS61 w0 W g f0 f1) (x : ByteArray) : IsS61 w0 (W.setCell ⟨g, 0, none⟩ (.string x)) g x f1 := by
  obtain ⟨hb, hg⟩ := h
  exact ⟨by simpa using blk_set hb 0 (.string x), hg⟩
theorem cellS61_1 {W : World} {g : Nat} {f0 : ByteArray} {f1 : Int} (h : W.heap[g]? = some (.cells #[.string f0, .int .i64 f1] 61 (0, 0))) : W.cell? ⟨g, 1, none⟩ = some (.int .i64 f1) := (blk_cell h 1).trans rfl
theorem IsS61.set_1 {w0 W : World} {g : Nat} {f0 : ByteArray} {f1 : Int} (h : IsS61 w0 W g f0 f1) (x : Int) : IsS61 w0 (W.setCell ⟨g, 1, none⟩ (.int .i64 x)) g f0 x := by
  obtain ⟨hb, hg⟩ := h
  exact ⟨by simpa using blk_set hb 1 (.int .i64 x), hg⟩
theorem IsS61.new (w0 W : World) (f0 : ByteArray) (f1 : Int) (hB : Below w0.heap.size w0 W) : IsS61 w0 (W.alloc (.cells #[.string f0, .int .i64 f1] 61)) W.heap.size f0 f1 := ⟨by simpa using heap_alloc_new W _, hB.size⟩

/-! ### spec_reader_here: function 69 -/
def spec_reader_here.f (s0_0 : ByteArray) (s0_1 : Int) : Option (Int × ByteArray × Int) := if s0_1 < (s0_0.size : Int) then (if 0 ≤ s0_1 then (some (bt s0_0 s0_1, s0_0, s0_1)) else (none)) else (some (0, s0_0, s0_1))
set_option maxHeartbeats 8000000 in
set_option maxRecDepth 100000 in
theorem spec_reader_here.calls (g : Nat) (s0_0 : ByteArray) (s0_1 : Int) (r1 : Int) (r2 : ByteArray) (r3 : Int) (w0 w : World) (hI : IsS61 w0 w g s0_0 s0_1) (hB : Below w0.heap.size w0 w) (h : spec_reader_here.f s0_0 s0_1 = some (r1, r2, r3)) :
    Calls Tryd.prog 69 #[.pointer (some ⟨g, 0, none⟩)] w fun e w' => e = .returned (.int .u8 r1) ∧ IsS61 w0 w' g r2 r3 ∧ Below w0.heap.size w0 w' ∧ KeepBut w w' g none := by
  have HI0 := Aside0.mk hI
  have HK := Aside0.mk (KeepBut.refl w g none)
  have HL := Aside0.mk hB.size
  clear hI
  have HW0 := Aside0.mk hB.size
  have HB := Aside0.mk hB
  clear hB
  have H : (if s0_1 < (s0_0.size : Int) then (if 0 ≤ s0_1 then (some (bt s0_0 s0_1, s0_0, s0_1)) else (none)) else (some (0, s0_0, s0_1))) = some (r1, r2, r3) := h
  clear h
  by_cases c2 : s0_1 < (s0_0.size : Int)
  · rw [if_pos c2] at H
    have c2b0 : decide (s0_1 < (s0_0.size : Int)) = true := decide_eq_true c2
    clear c2
    by_cases c3 : 0 ≤ s0_1
    · rw [if_pos c3] at H
      have c3b0 : decide (0 ≤ s0_1) = true := decide_eq_true c3
      clear c3
      simp only [Option.some.injEq, Prod.mk.injEq] at H
      obtain ⟨rfl, rfl, rfl⟩ := H
      obtain ⟨HGz5, hgz5⟩ := HI0.out
      have hcz5_0 := cellS61_0 HGz5
      have hcz5_1 := cellS61_1 HGz5
      have hfz5_0 := blk_frozen HGz5 0
      have hfz5_1 := blk_frozen HGz5 1
      clear HGz5 hgz5
      have p4 : 0 ≤ (s0_1 : Int) := of_decide_eq_true (by first | (with_reducible assumption) | assumption)
      have q4 : s0_1 < (s0_0.size : Int) := of_decide_eq_true (by first | (with_reducible assumption) | assumption)
      have hx4 := bt_at s0_0 s0_1
      replace p4 := eq_true p4
      replace q4 := eq_true q4
      go_enter Tryd.func69, Tryd.ntmps69
      go_wp2
      repeat (go_quiet (fail); try go_wp2)
      go_ret
      exact ⟨by first | rfl | (simp [errW_none, errW_some] <;> rfl) | (simp [*, errW_none, errW_some] <;> rfl), by repeat (first | (with_reducible first | exact HI0.out | apply IsS61.alloc | apply IsS61.drewN | apply IsS61.drew | apply IsS61.set_0 | apply IsS61.set_1) | exact HI0.out), by repeat (first | (with_reducible first | exact HB.out | apply below_alloc | apply pw_below_drewN | apply below_drew1 | refine below_set ?_ (IsS61.ge HI0.out)) | exact HB.out), by repeat (first | (with_reducible first | exact HK.out | apply KeepBut.set_ | apply keep_drewN | apply keep_drew | apply keep_alloc) | exact HK.out)⟩
    · rw [if_neg c3] at H
      exact absurd H (by simp)
  · rw [if_neg c2] at H
    have c2b0 : decide (s0_1 < (s0_0.size : Int)) = false := decide_eq_false c2
    clear c2
    simp only [Option.some.injEq, Prod.mk.injEq] at H
    obtain ⟨rfl, rfl, rfl⟩ := H
    obtain ⟨HGz6, hgz6⟩ := HI0.out
    have hcz6_0 := cellS61_0 HGz6
    have hcz6_1 := cellS61_1 HGz6
    have hfz6_0 := blk_frozen HGz6 0
    have hfz6_1 := blk_frozen HGz6 1
    clear HGz6 hgz6
    go_enter Tryd.func69, Tryd.ntmps69
    go_wp2
    repeat (go_quiet (fail); try go_wp2)
    go_ret
    exact ⟨by first | rfl | (simp [errW_none, errW_some] <;> rfl) | (simp [*, errW_none, errW_some] <;> rfl), by repeat (first | (with_reducible first | exact HI0.out | apply IsS61.alloc | apply IsS61.drewN | apply IsS61.drew | apply IsS61.set_0 | apply IsS61.set_1) | exact HI0.out), by repeat (first | (with_reducible first | exact HB.out | apply below_alloc | apply pw_below_drewN | apply below_drew1 | refine below_set ?_ (IsS61.ge HI0.out)) | exact HB.out), by repeat (first | (with_reducible first | exact HK.out | apply KeepBut.set_ | apply keep_drewN | apply keep_drew | apply keep_alloc) | exact HK.out)⟩

/-! ### spec_reader_escape: function 52 -/
mutual
def spec_reader_escape.j0 : Nat → Int → Bool → ByteArray → Int → Option (Bool × ByteArray × Int)
  | 0, _, _, _, _ => none
  | k + 1, x7, x8, x1000, x1001 => if x8 = true then (some (true, x1000, wrap64 (x1001 + 1))) else (if x7 = 117 then (spec_reader_escape.l0 k 0 x1000 (wrap64 (x1001 + 1))) else (some (false, x1000, x1001)))
def spec_reader_escape.l0 : Nat → Int → ByteArray → Int → Option (Bool × ByteArray × Int)
  | 0, _, _, _ => none
  | k + 1, x3, x1000, x1001 => if x3 < 4 then ((spec_reader_here.f x1000 x1001).bind fun bt160 => ((spec_hexDigit.f k bt160.1).bind fun bt163 => (if bt163.2 = true then (spec_reader_escape.l0 k (wrap64 (x3 + 1)) bt160.2.1 (wrap64 (bt160.2.2 + 1))) else (some (false, bt160.2.1, bt160.2.2))))) else (some (true, x1000, x1001))
end
def spec_reader_escape.f (k : Nat) (s0_0 : ByteArray) (s0_1 : Int) : Option (Bool × ByteArray × Int) := (spec_reader_here.f s0_0 s0_1).bind fun bt157 => (if bt157.1 = 34 then (spec_reader_escape.j0 k bt157.1 (bt157.1 == 34) bt157.2.1 bt157.2.2) else (if bt157.1 = 92 then (spec_reader_escape.j0 k bt157.1 (bt157.1 == 92) bt157.2.1 bt157.2.2) else (if bt157.1 = 47 then (spec_reader_escape.j0 k bt157.1 (bt157.1 == 47) bt157.2.1 bt157.2.2) else (if bt157.1 = 98 then (spec_reader_escape.j0 k bt157.1 (bt157.1 == 98) bt157.2.1 bt157.2.2) else (if bt157.1 = 102 then (spec_reader_escape.j0 k bt157.1 (bt157.1 == 102) bt157.2.1 bt157.2.2) else (if bt157.1 = 110 then (spec_reader_escape.j0 k bt157.1 (bt157.1 == 110) bt157.2.1 bt157.2.2) else (if bt157.1 = 114 then (spec_reader_escape.j0 k bt157.1 (bt157.1 == 114) bt157.2.1 bt157.2.2) else (spec_reader_escape.j0 k bt157.1 (bt157.1 == 116) bt157.2.1 bt157.2.2))))))))
theorem spec_reader_escape.mono_l : ∀ k, (∀ y0 y1 y2 y3, LeO (spec_reader_escape.j0 k y0 y1 y2 y3) (spec_reader_escape.j0 (k + 1) y0 y1 y2 y3)) ∧ (∀ y0 y1 y2, LeO (spec_reader_escape.l0 k y0 y1 y2) (spec_reader_escape.l0 (k + 1) y0 y1 y2))
  | 0 => ⟨fun _ _ _ _ r h => by simp [spec_reader_escape.j0] at h, fun _ _ _ r h => by simp [spec_reader_escape.l0] at h⟩
  | k + 1 => by
    obtain ⟨ih0, ih1⟩ := spec_reader_escape.mono_l k
    refine ⟨?_, ?_⟩
    · intro y0 y1 y2 y3
      unfold spec_reader_escape.j0
      repeat' first
      | (with_reducible exact ih0 _ _ _ _)
      | (with_reducible exact ih1 _ _ _)
      | (with_reducible exact spec_hexDigit.mono _ _)
      | (with_reducible exact LeO.refl _)
      | (with_reducible exact LeO.none _)
      | (with_reducible refine LeO.ite ?_ ?_)
      | (with_reducible refine LeO.bind ?_ (fun _ => ?_))
      | exact ih0 _ _ _ _
      | exact ih1 _ _ _
      | exact spec_hexDigit.mono _ _
      | exact LeO.none _
      | refine LeO.ite ?_ ?_
      | refine LeO.bind ?_ (fun _ => ?_)
    · intro y0 y1 y2
      unfold spec_reader_escape.l0
      repeat' first
      | (with_reducible exact ih0 _ _ _ _)
      | (with_reducible exact ih1 _ _ _)
      | (with_reducible exact spec_hexDigit.mono _ _)
      | (with_reducible exact LeO.refl _)
      | (with_reducible exact LeO.none _)
      | (with_reducible refine LeO.ite ?_ ?_)
      | (with_reducible refine LeO.bind ?_ (fun _ => ?_))
      | exact ih0 _ _ _ _
      | exact ih1 _ _ _
      | exact spec_hexDigit.mono _ _
      | exact LeO.none _
      | refine LeO.ite ?_ ?_
      | refine LeO.bind ?_ (fun _ => ?_)
theorem spec_reader_escape.mono : ∀ a0 a1 k, LeO (spec_reader_escape.f k a0 a1) (spec_reader_escape.f (k + 1) a0 a1) := by
  intro a0 a1 k
  obtain ⟨ih0, ih1⟩ := spec_reader_escape.mono_l k
  unfold spec_reader_escape.f
  repeat' first
      | (with_reducible exact ih0 _ _ _ _)
      | (with_reducible exact ih1 _ _ _)
      | (with_reducible exact spec_hexDigit.mono _ _)
      | (with_reducible exact LeO.refl _)
      | (with_reducible exact LeO.none _)
      | (with_reducible refine LeO.ite ?_ ?_)
      | (with_reducible refine LeO.bind ?_ (fun _ => ?_))
      | exact ih0 _ _ _ _
      | exact ih1 _ _ _
      | exact spec_hexDigit.mono _ _
      | exact LeO.none _
      | refine LeO.ite ?_ ?_
      | refine LeO.bind ?_ (fun _ => ?_)
set_option maxHeartbeats 8000000 in
set_option maxRecDepth 100000 in
theorem spec_reader_escape.calls (k : Nat) (g : Nat) (s0_0 : ByteArray) (s0_1 : Int) (r1 : Bool) (r2 : ByteArray) (r3 : Int) (w0 w : World) (hI : IsS61 w0 w g s0_0 s0_1) (hB : Below w0.heap.size w0 w) (h : spec_reader_escape.f k s0_0 s0_1 = some (r1, r2, r3)) :
    Calls Tryd.prog 52 #[.pointer (some ⟨g, 0, none⟩)] w fun e w' => e = .returned (.bool r1) ∧ IsS61 w0 w' g r2 r3 ∧ Below w0.heap.size w0 w' ∧ KeepBut w w' g none := by
  have HI0 := Aside0.mk hI
  have HK := Aside0.mk (KeepBut.refl w g none)
  have HL := Aside0.mk hB.size
  clear hI
  have HW0 := Aside0.mk hB.size
  have HB := Aside0.mk hB
  clear hB
  have H : ((spec_reader_here.f s0_0 s0_1).bind fun bt157 => (if bt157.1 = 34 then (spec_reader_escape.j0 k bt157.1 (bt157.1 == 34) bt157.2.1 bt157.2.2) else (if bt157.1 = 92 then (spec_reader_escape.j0 k bt157.1 (bt157.1 == 92) bt157.2.1 bt157.2.2) else (if bt157.1 = 47 then (spec_reader_escape.j0 k bt157.1 (bt157.1 == 47) bt157.2.1 bt157.2.2) else (if bt157.1 = 98 then (spec_reader_escape.j0 k bt157.1 (bt157.1 == 98) bt157.2.1 bt157.2.2) else (if bt157.1 = 102 then (spec_reader_escape.j0 k bt157.1 (bt157.1 == 102) bt157.2.1 bt157.2.2) else (if bt157.1 = 110 then (spec_reader_escape.j0 k bt157.1 (bt157.1 == 110) bt157.2.1 bt157.2.2) else (if bt157.1 = 114 then (spec_reader_escape.j0 k bt157.1 (bt157.1 == 114) bt157.2.1 bt157.2.2) else (spec_reader_escape.j0 k bt157.1 (bt157.1 == 116) bt157.2.1 bt157.2.2))))))))) = some (r1, r2, r3) := h
  clear h
  replace H := Option.bind_eq_some_iff.mp H
  obtain ⟨⟨t157, t158, t159⟩, A20, H⟩ := H
  replace H : (if t157 = 34 then (spec_reader_escape.j0 k t157 (t157 == 34) t158 t159) else (if t157 = 92 then (spec_reader_escape.j0 k t157 (t157 == 92) t158 t159) else (if t157 = 47 then (spec_reader_escape.j0 k t157 (t157 == 47) t158 t159) else (if t157 = 98 then (spec_reader_escape.j0 k t157 (t157 == 98) t158 t159) else (if t157 = 102 then (spec_reader_escape.j0 k t157 (t157 == 102) t158 t159) else (if t157 = 110 then (spec_reader_escape.j0 k t157 (t157 == 110) t158 t159) else (if t157 = 114 then (spec_reader_escape.j0 k t157 (t157 == 114) t158 t159) else (spec_reader_escape.j0 k t157 (t157 == 116) t158 t159)))))))) = some (r1, r2, r3) := H
  have A2 := Aside0.mk A20
  clear A20
  have HC3 := Aside0.mk H
  clear H
  go_enter Tryd.func52, Tryd.ntmps52
  go_upto_if 8 with (first | ((with_reducible refine gate_callee (f := 69) rfl ?_); refine goesL_ (some 7) rfl rfl Tryd.func69 (by kernel_rfl) rfl #[.pointer (some ⟨g, 0, none⟩)] rfl (by (try simp only [List.map_toArray, List.map_cons, List.map_nil]); first | done | rfl | (simp only [List.length_drop, List.length_take]; rfl)) ?_; (with_reducible refine (spec_reader_here.calls g s0_0 s0_1 t157 t158 t159 w0 _ ?side1 ?side2 A2.out).mono ?_); (case side1 => repeat (first | (with_reducible first | exact HI0.out | apply IsS61.alloc | apply IsS61.drewN | apply IsS61.drew | apply IsS61.set_0 | apply IsS61.set_1) | exact HI0.out)); (case side2 => repeat (first | (with_reducible first | exact HB.out | apply below_alloc | apply pw_below_drewN | apply below_drew1 | refine below_set ?_ (IsS61.ge HI0.out)) | exact HB.out)); rintro e w4 ⟨rfl, hi, hb, hk⟩; refine ⟨_, rfl, ?_⟩; have n0_ := Aside0.mk (KeepBut.trans (by repeat (first | (with_reducible first | exact HK.out | apply KeepBut.set_ | apply keep_drewN | apply keep_drew | apply keep_alloc) | exact HK.out)) hk (.inl rfl)); have n1_ := Aside0.mk (hb); have n2_ := Aside0.mk (hi); clear HK; clear HB; clear HI0; have HK := n0_; have HB := n1_; have HI0 := n2_; clear n0_ n1_ n2_; (try clear hb); (try clear hb2); (try clear hk); (try clear hi)))
  (try simp only [Act.put, List.setIfInBounds_toArray, List.set_cons_zero, List.set_cons_succ])
  go_cut [8] (fun v8 wc => ∃ (kq : Nat) (x8_2 : Bool), v8 = .bool x8_2 ∧ Aside0 (spec_reader_escape.j0 kq t157 x8_2 t158 t159 = some (r1, r2, r3)) ∧ Aside0 (kq ≤ k) ∧ Aside0 (IsS61 w0 wc g t158 t159) ∧ Aside0 (KeepBut w wc g none) ∧ Aside0 (Below w0.heap.size w0 wc))
  case first =>
    have H := HC3.out
    clear HC3
    by_cases c5 : t157 = 34
    · rw [if_pos c5] at H
      have c5b0 : (t157 == 34) = true := beq_iff_eq.mpr c5
      have c5b1 : (t157 != 34) = false := bne_eq_false_iff_eq.mpr c5
      clear c5
      (first | rw [c5b0] | (simp only [i64_w, i32_w]; rw [c5b0]) | skip)
      have H' := Aside0.mk H
      clear H
      go_wp2
      go_meet
      case rel => exact ⟨_, ((t157 == 34)), (by first | rfl | (simp; done) | (simp [*]; done)), H', ⟨by first | omega | exact Nat.le_refl _⟩, ⟨by repeat (first | (with_reducible first | exact HI0.out | apply IsS61.alloc | apply IsS61.drewN | apply IsS61.drew | apply IsS61.set_0 | apply IsS61.set_1) | exact HI0.out)⟩, ⟨by repeat (first | (with_reducible first | exact HK.out | apply KeepBut.set_ | apply keep_drewN | apply keep_drew | apply keep_alloc) | exact HK.out)⟩, ⟨by repeat (first | (with_reducible first | exact HB.out | apply below_alloc | apply pw_below_drewN | apply below_drew1 | refine below_set ?_ (IsS61.ge HI0.out)) | exact HB.out)⟩⟩
    · rw [if_neg c5] at H
      have c5b0 : (t157 == 34) = false := beq_eq_false_iff_ne.mpr c5
      have c5b1 : (t157 != 34) = true := bne_iff_ne.mpr c5
      (first | rw [c5b0] | (simp only [i64_w, i32_w]; rw [c5b0]) | skip)
      by_cases c6 : t157 = 92
      · rw [if_pos c6] at H
        have c6b0 : (t157 == 92) = true := beq_iff_eq.mpr c6
        have c6b1 : (t157 != 92) = false := bne_eq_false_iff_eq.mpr c6
        clear c6
        have H' := Aside0.mk H
        clear H
        go_wp2
        go_meet
        case rel => exact ⟨_, ((t157 == 92)), (by first | rfl | (simp; done) | (simp [*]; done)), H', ⟨by first | omega | exact Nat.le_refl _⟩, ⟨by repeat (first | (with_reducible first | exact HI0.out | apply IsS61.alloc | apply IsS61.drewN | apply IsS61.drew | apply IsS61.set_0 | apply IsS61.set_1) | exact HI0.out)⟩, ⟨by repeat (first | (with_reducible first | exact HK.out | apply KeepBut.set_ | apply keep_drewN | apply keep_drew | apply keep_alloc) | exact HK.out)⟩, ⟨by repeat (first | (with_reducible first | exact HB.out | apply below_alloc | apply pw_below_drewN | apply below_drew1 | refine below_set ?_ (IsS61.ge HI0.out)) | exact HB.out)⟩⟩
      · rw [if_neg c6] at H
        have c6b0 : (t157 == 92) = false := beq_eq_false_iff_ne.mpr c6
        have c6b1 : (t157 != 92) = true := bne_iff_ne.mpr c6
        by_cases c7 : t157 = 47
        · rw [if_pos c7] at H
          have c7b0 : (t157 == 47) = true := beq_iff_eq.mpr c7
          have c7b1 : (t157 != 47) = false := bne_eq_false_iff_eq.mpr c7
          clear c7
          have H' := Aside0.mk H
          clear H
          go_wp2
          go_meet
          case rel => exact ⟨_, ((t157 == 47)), (by first | rfl | (simp; done) | (simp [*]; done)), H', ⟨by first | omega | exact Nat.le_refl _⟩, ⟨by repeat (first | (with_reducible first | exact HI0.out | apply IsS61.alloc | apply IsS61.drewN | apply IsS61.drew | apply IsS61.set_0 | apply IsS61.set_1) | exact HI0.out)⟩, ⟨by repeat (first | (with_reducible first | exact HK.out | apply KeepBut.set_ | apply keep_drewN | apply keep_drew | apply keep_alloc) | exact HK.out)⟩, ⟨by repeat (first | (with_reducible first | exact HB.out | apply below_alloc | apply pw_below_drewN | apply below_drew1 | refine below_set ?_ (IsS61.ge HI0.out)) | exact HB.out)⟩⟩
        · rw [if_neg c7] at H
          have c7b0 : (t157 == 47) = false := beq_eq_false_iff_ne.mpr c7
          have c7b1 : (t157 != 47) = true := bne_iff_ne.mpr c7
          by_cases c8 : t157 = 98
          · rw [if_pos c8] at H
            have c8b0 : (t157 == 98) = true := beq_iff_eq.mpr c8
            have c8b1 : (t157 != 98) = false := bne_eq_false_iff_eq.mpr c8
            clear c8
            have H' := Aside0.mk H
            clear H
            go_wp2
            go_meet
            case rel => exact ⟨_, ((t157 == 98)), (by first | rfl | (simp; done) | (simp [*]; done)), H', ⟨by first | omega | exact Nat.le_refl _⟩, ⟨by repeat (first | (with_reducible first | exact HI0.out | apply IsS61.alloc | apply IsS61.drewN | apply IsS61.drew | apply IsS61.set_0 | apply IsS61.set_1) | exact HI0.out)⟩, ⟨by repeat (first | (with_reducible first | exact HK.out | apply KeepBut.set_ | apply keep_drewN | apply keep_drew | apply keep_alloc) | exact HK.out)⟩, ⟨by repeat (first | (with_reducible first | exact HB.out | apply below_alloc | apply pw_below_drewN | apply below_drew1 | refine below_set ?_ (IsS61.ge HI0.out)) | exact HB.out)⟩⟩
          · rw [if_neg c8] at H
            have c8b0 : (t157 == 98) = false := beq_eq_false_iff_ne.mpr c8
            have c8b1 : (t157 != 98) = true := bne_iff_ne.mpr c8
            by_cases c9 : t157 = 102
            · rw [if_pos c9] at H
              have c9b0 : (t157 == 102) = true := beq_iff_eq.mpr c9
              have c9b1 : (t157 != 102) = false := bne_eq_false_iff_eq.mpr c9
              clear c9
              have H' := Aside0.mk H
              clear H
              go_wp2
              go_meet
              case rel => exact ⟨_, ((t157 == 102)), (by first | rfl | (simp; done) | (simp [*]; done)), H', ⟨by first | omega | exact Nat.le_refl _⟩, ⟨by repeat (first | (with_reducible first | exact HI0.out | apply IsS61.alloc | apply IsS61.drewN | apply IsS61.drew | apply IsS61.set_0 | apply IsS61.set_1) | exact HI0.out)⟩, ⟨by repeat (first | (with_reducible first | exact HK.out | apply KeepBut.set_ | apply keep_drewN | apply keep_drew | apply keep_alloc) | exact HK.out)⟩, ⟨by repeat (first | (with_reducible first | exact HB.out | apply below_alloc | apply pw_below_drewN | apply below_drew1 | refine below_set ?_ (IsS61.ge HI0.out)) | exact HB.out)⟩⟩
            · rw [if_neg c9] at H
              have c9b0 : (t157 == 102) = false := beq_eq_false_iff_ne.mpr c9
              have c9b1 : (t157 != 102) = true := bne_iff_ne.mpr c9
              by_cases c10 : t157 = 110
              · rw [if_pos c10] at H
                have c10b0 : (t157 == 110) = true := beq_iff_eq.mpr c10
                have c10b1 : (t157 != 110) = false := bne_eq_false_iff_eq.mpr c10
                clear c10
                have H' := Aside0.mk H
                clear H
                go_wp2
                go_meet
                case rel => exact ⟨_, ((t157 == 110)), (by first | rfl | (simp; done) | (simp [*]; done)), H', ⟨by first | omega | exact Nat.le_refl _⟩, ⟨by repeat (first | (with_reducible first | exact HI0.out | apply IsS61.alloc | apply IsS61.drewN | apply IsS61.drew | apply IsS61.set_0 | apply IsS61.set_1) | exact HI0.out)⟩, ⟨by repeat (first | (with_reducible first | exact HK.out | apply KeepBut.set_ | apply keep_drewN | apply keep_drew | apply keep_alloc) | exact HK.out)⟩, ⟨by repeat (first | (with_reducible first | exact HB.out | apply below_alloc | apply pw_below_drewN | apply below_drew1 | refine below_set ?_ (IsS61.ge HI0.out)) | exact HB.out)⟩⟩
              · rw [if_neg c10] at H
                have c10b0 : (t157 == 110) = false := beq_eq_false_iff_ne.mpr c10
                have c10b1 : (t157 != 110) = true := bne_iff_ne.mpr c10
                by_cases c11 : t157 = 114
                · rw [if_pos c11] at H
                  have c11b0 : (t157 == 114) = true := beq_iff_eq.mpr c11
                  have c11b1 : (t157 != 114) = false := bne_eq_false_iff_eq.mpr c11
                  clear c11
                  have H' := Aside0.mk H
                  clear H
                  go_wp2
                  go_meet
                  case rel => exact ⟨_, ((t157 == 114)), (by first | rfl | (simp; done) | (simp [*]; done)), H', ⟨by first | omega | exact Nat.le_refl _⟩, ⟨by repeat (first | (with_reducible first | exact HI0.out | apply IsS61.alloc | apply IsS61.drewN | apply IsS61.drew | apply IsS61.set_0 | apply IsS61.set_1) | exact HI0.out)⟩, ⟨by repeat (first | (with_reducible first | exact HK.out | apply KeepBut.set_ | apply keep_drewN | apply keep_drew | apply keep_alloc) | exact HK.out)⟩, ⟨by repeat (first | (with_reducible first | exact HB.out | apply below_alloc | apply pw_below_drewN | apply below_drew1 | refine below_set ?_ (IsS61.ge HI0.out)) | exact HB.out)⟩⟩
                · rw [if_neg c11] at H
                  have c11b0 : (t157 == 114) = false := beq_eq_false_iff_ne.mpr c11
                  have c11b1 : (t157 != 114) = true := bne_iff_ne.mpr c11
                  have H' := Aside0.mk H
                  clear H
                  go_wp2
                  go_meet
                  case rel => exact ⟨_, ((t157 == 116)), (by first | rfl | (simp; done) | (simp [*]; done)), H', ⟨by first | omega | exact Nat.le_refl _⟩, ⟨by repeat (first | (with_reducible first | exact HI0.out | apply IsS61.alloc | apply IsS61.drewN | apply IsS61.drew | apply IsS61.set_0 | apply IsS61.set_1) | exact HI0.out)⟩, ⟨by repeat (first | (with_reducible first | exact HK.out | apply KeepBut.set_ | apply keep_drewN | apply keep_drew | apply keep_alloc) | exact HK.out)⟩, ⟨by repeat (first | (with_reducible first | exact HB.out | apply below_alloc | apply pw_below_drewN | apply below_drew1 | refine below_set ?_ (IsS61.ge HI0.out)) | exact HB.out)⟩⟩
  case rest =>
    clear HC3
    try clear c1
    try clear p2
    try clear c5
    try clear c5b0
    try clear c5b1
    try clear c6
    try clear c6b0
    try clear c6b1
    try clear c7
    try clear c7b0
    try clear c7b1
    try clear c8
    try clear c8b0
    try clear c8b1
    try clear c9
    try clear c9b0
    try clear c9b1
    try clear c10
    try clear c10b0
    try clear c10b1
    try clear c11
    try clear c11b0
    try clear c11b1
    obtain ⟨kq, x8_2, rfl, HA, HJ2, HI0, HK, HB⟩ := hcut
    cases kq with
    | zero => exact absurd HA.out (by simp [spec_reader_escape.j0])
    | succ kj2 =>
      have H := HA.out
      clear HA
      simp only [spec_reader_escape.j0] at H
      by_cases c12 : x8_2 = true
      · subst c12
        have H1 : (some (true, t158, wrap64 (t159 + 1))) = some (r1, r2, r3) := by rw [if_pos rfl] at H; exact H
        clear H
        have H := H1
        clear H1
        simp only [Option.some.injEq, Prod.mk.injEq] at H
        obtain ⟨rfl, rfl, rfl⟩ := H
        obtain ⟨HGz13, hgz13⟩ := HI0.out
        have hcz13_0 := cellS61_0 HGz13
        have hcz13_1 := cellS61_1 HGz13
        have hfz13_0 := blk_frozen HGz13 0
        have hfz13_1 := blk_frozen HGz13 1
        clear HGz13 hgz13
        go_wp2
        go_ret
        exact ⟨by first | rfl | (simp [errW_none, errW_some] <;> rfl) | (simp [*, errW_none, errW_some] <;> rfl), by repeat (first | (with_reducible first | exact HI0.out | apply IsS61.alloc | apply IsS61.drewN | apply IsS61.drew | apply IsS61.set_0 | apply IsS61.set_1) | exact HI0.out), by repeat (first | (with_reducible first | exact HB.out | apply below_alloc | apply pw_below_drewN | apply below_drew1 | refine below_set ?_ (IsS61.ge HI0.out)) | exact HB.out), by repeat (first | (with_reducible first | exact HK.out | apply KeepBut.set_ | apply keep_drewN | apply keep_drew | apply keep_alloc) | exact HK.out)⟩
      · replace c12 := Bool.eq_false_iff.mpr c12
        subst c12
        have H1 : (if t157 = 117 then (spec_reader_escape.l0 kj2 0 t158 (wrap64 (t159 + 1))) else (some (false, t158, t159))) = some (r1, r2, r3) := by rw [if_neg (show ¬ (false = true) by decide)] at H; exact H
        clear H
        have H := H1
        clear H1
        by_cases c14 : t157 = 117
        · rw [if_pos c14] at H
          have c14b0 : (t157 == 117) = true := beq_iff_eq.mpr c14
          have c14b1 : (t157 != 117) = false := bne_eq_false_iff_eq.mpr c14
          clear c14
          have H' := Aside0.mk H
          clear H
          obtain ⟨HGz15, hgz15⟩ := HI0.out
          have hcz15_0 := cellS61_0 HGz15
          have hcz15_1 := cellS61_1 HGz15
          have hfz15_0 := blk_frozen HGz15 0
          have hfz15_1 := blk_frozen HGz15 1
          clear HGz15 hgz15
          go_wp2
          try simp only [Act.put, List.setIfInBounds_toArray, List.set_cons_succ, List.set_cons_zero]
          go_loopg [3] kj2 (fun kq v3 w' => ∃ (x3_2 : Int) (x1000_2 : ByteArray) (x1001_2 : Int), v3 = .int .i64 x3_2 ∧ Aside0 (spec_reader_escape.l0 kq x3_2 x1000_2 x1001_2 = some (r1, r2, r3)) ∧ Aside0 (kq ≤ kj2) ∧ Aside0 (IsS61 w0 w' g x1000_2 x1001_2) ∧ Aside0 (KeepBut w w' g none) ∧ Aside0 (Below w0.heap.size w0 w'))
          case atStart => exact ⟨(0), (t158), (wrap64 (t159 + 1)), (by first | rfl | (simp; done) | (simp [*]; done)), H', ⟨Nat.le_refl _⟩, ⟨by repeat (first | (with_reducible first | exact HI0.out | apply IsS61.alloc | apply IsS61.drewN | apply IsS61.drew | apply IsS61.set_0 | apply IsS61.set_1) | exact HI0.out)⟩, ⟨by repeat (first | (with_reducible first | exact HK.out | apply KeepBut.set_ | apply keep_drewN | apply keep_drew | apply keep_alloc) | exact HK.out)⟩, ⟨by repeat (first | (with_reducible first | exact HB.out | apply below_alloc | apply pw_below_drewN | apply below_drew1 | refine below_set ?_ (IsS61.ge HI0.out)) | exact HB.out)⟩⟩
          case round =>
            clear H'
            try clear c1
            try clear p2
            try clear c5
            try clear c5b0
            try clear c5b1
            try clear c6
            try clear c6b0
            try clear c6b1
            try clear p6
            try clear c7
            try clear c7b0
            try clear c7b1
            try clear c8
            try clear c8b0
            try clear c8b1
            try clear c9
            try clear c9b0
            try clear c9b1
            try clear c10
            try clear c10b0
            try clear c10b1
            try clear c11
            try clear c11b0
            try clear c11b1
            try clear c12
            try clear c14
            try clear c14b0
            try clear c14b1
            try clear hcz13_0
            try clear hcz13_1
            try clear hcz15_0
            try clear hcz15_1
            try clear hfz13_0
            try clear hfz13_1
            try clear hfz15_0
            try clear hfz15_1
            try clear p2
            obtain ⟨x3_2, x1000_2, x1001_2, rfl, HA, HK2, HI0, HK, HB⟩ := hrel
            cases gk with
            | zero => exact absurd HA.out (by simp [spec_reader_escape.l0])
            | succ k2 =>
              have H := HA.out
              clear HA
              simp only [spec_reader_escape.l0] at H
              by_cases c16 : x3_2 < 4
              · rw [if_pos c16] at H
                have c16b0 : decide (x3_2 < 4) = true := decide_eq_true c16
                clear c16
                replace H := Option.bind_eq_some_iff.mp H
                obtain ⟨⟨t160, t161, t162⟩, A170, H⟩ := H
                replace H : ((spec_hexDigit.f k2 t160).bind fun bt163 => (if bt163.2 = true then (spec_reader_escape.l0 k2 (wrap64 (x3_2 + 1)) t161 (wrap64 (t162 + 1))) else (some (false, t161, t162)))) = some (r1, r2, r3) := H
                have A17 := Aside0.mk A170
                clear A170
                replace H := Option.bind_eq_some_iff.mp H
                obtain ⟨⟨t163, t164⟩, A180, H⟩ := H
                replace H : (if t164 = true then (spec_reader_escape.l0 k2 (wrap64 (x3_2 + 1)) t161 (wrap64 (t162 + 1))) else (some (false, t161, t162))) = some (r1, r2, r3) := H
                have A18 := Aside0.mk A180
                clear A180
                by_cases c19 : t164 = true
                · subst c19
                  have H1 : (spec_reader_escape.l0 k2 (wrap64 (x3_2 + 1)) t161 (wrap64 (t162 + 1))) = some (r1, r2, r3) := by rw [if_pos rfl] at H; exact H
                  clear H
                  have H := H1
                  clear H1
                  have H' := Aside0.mk H
                  clear H
                  go_wp2_with (first | ((with_reducible refine gate_callee (f := 69) rfl ?_); refine goesL_ (some 39) rfl rfl Tryd.func69 (by kernel_rfl) rfl #[.pointer (some ⟨g, 0, none⟩)] rfl (by (try simp only [List.map_toArray, List.map_cons, List.map_nil]); first | done | rfl | (simp only [List.length_drop, List.length_take]; rfl)) ?_; (with_reducible refine (spec_reader_here.calls g x1000_2 x1001_2 t160 t161 t162 w0 _ ?side1 ?side2 A17.out).mono ?_); (case side1 => repeat (first | (with_reducible first | exact HI0.out | apply IsS61.alloc | apply IsS61.drewN | apply IsS61.drew | apply IsS61.set_0 | apply IsS61.set_1) | exact HI0.out)); (case side2 => repeat (first | (with_reducible first | exact HB.out | apply below_alloc | apply pw_below_drewN | apply below_drew1 | refine below_set ?_ (IsS61.ge HI0.out)) | exact HB.out)); rintro e w20 ⟨rfl, hi, hb, hk⟩; refine ⟨_, rfl, ?_⟩; have n0_ := Aside0.mk (KeepBut.trans (by repeat (first | (with_reducible first | exact HK.out | apply KeepBut.set_ | apply keep_drewN | apply keep_drew | apply keep_alloc) | exact HK.out)) hk (.inl rfl)); have n1_ := Aside0.mk (hb); have n2_ := Aside0.mk (hi); clear HK; clear HB; clear HI0; have HK := n0_; have HB := n1_; have HI0 := n2_; clear n0_ n1_ n2_; (try clear hb); (try clear hb2); (try clear hk); (try clear hi)) | ((with_reducible refine gate_callee (f := 67) rfl ?_); refine goesL_ (some 40) rfl rfl Tryd.func67 (by kernel_rfl) rfl #[.int .u8 t160] rfl (by (try simp only [List.map_toArray, List.map_cons, List.map_nil]); first | done | rfl | (simp only [List.length_drop, List.length_take]; rfl)) ?_; (with_reducible refine (spec_hexDigit.calls k2 t160 t163 true _ A18.out).mono ?_); rintro e w' ⟨rfl, ⟨nd, rfl⟩⟩; refine ⟨_, rfl, ?_⟩; (try (rw [drewN_self w20]; generalize hq_ : World.drewN w20 _ = w20; have n0_ : Aside0 (IsS61 w0 w20 g t161 t162) := ⟨by rw [← hq_]; exact (by repeat (first | (with_reducible first | exact HI0.out | apply IsS61.alloc | apply IsS61.drewN | apply IsS61.drew | apply IsS61.set_0 | apply IsS61.set_1) | exact HI0.out))⟩; have n1_ : Aside0 (KeepBut w w20 g none) := ⟨by rw [← hq_]; exact (by repeat (first | (with_reducible first | exact HK.out | apply KeepBut.set_ | apply keep_drewN | apply keep_drew | apply keep_alloc) | exact HK.out))⟩; have n2_ : Aside0 (Below w0.heap.size w0 w20) := ⟨by rw [← hq_]; exact (by repeat (first | (with_reducible first | exact HB.out | apply below_alloc | apply pw_below_drewN | apply below_drew1 | refine below_set ?_ (IsS61.ge HI0.out)) | exact HB.out))⟩; clear HI0 HK HB hq_; have HI0 := n0_; have HK := n1_; have HB := n2_; clear n0_ n1_ n2_)); obtain ⟨HGz21, hgz21⟩ := HI0.out; have hcz21_0 := cellS61_0 HGz21; have hcz21_1 := cellS61_1 HGz21; have hfz21_0 := blk_frozen HGz21 0; have hfz21_1 := blk_frozen HGz21 1; clear HGz21 hgz21))
                  go_roundg k2
                  case measure => have := HJ2.out; have := HK2.out; omega
                  case rel => exact ⟨(wrap64 (x3_2 + 1)), (t161), (wrap64 (t162 + 1)), (by first | rfl | (simp; done) | (simp [*]; done)), H', ⟨by have := HJ2.out; have := HK2.out; omega⟩, ⟨by repeat (first | (with_reducible first | exact HI0.out | apply IsS61.alloc | apply IsS61.drewN | apply IsS61.drew | apply IsS61.set_0 | apply IsS61.set_1) | exact HI0.out)⟩, ⟨by repeat (first | (with_reducible first | exact HK.out | apply KeepBut.set_ | apply keep_drewN | apply keep_drew | apply keep_alloc) | exact HK.out)⟩, ⟨by repeat (first | (with_reducible first | exact HB.out | apply below_alloc | apply pw_below_drewN | apply below_drew1 | refine below_set ?_ (IsS61.ge HI0.out)) | exact HB.out)⟩⟩
                · replace c19 := Bool.eq_false_iff.mpr c19
                  subst c19
                  have H1 : (some (false, t161, t162)) = some (r1, r2, r3) := by rw [if_neg (show ¬ (false = true) by decide)] at H; exact H
                  clear H
                  have H := H1
                  clear H1
                  simp only [Option.some.injEq, Prod.mk.injEq] at H
                  obtain ⟨rfl, rfl, rfl⟩ := H
                  go_wp2_with (first | ((with_reducible refine gate_callee (f := 69) rfl ?_); refine goesL_ (some 39) rfl rfl Tryd.func69 (by kernel_rfl) rfl #[.pointer (some ⟨g, 0, none⟩)] rfl (by (try simp only [List.map_toArray, List.map_cons, List.map_nil]); first | done | rfl | (simp only [List.length_drop, List.length_take]; rfl)) ?_; (with_reducible refine (spec_reader_here.calls g x1000_2 x1001_2 t160 t161 t162 w0 _ ?side1 ?side2 A17.out).mono ?_); (case side1 => repeat (first | (with_reducible first | exact HI0.out | apply IsS61.alloc | apply IsS61.drewN | apply IsS61.drew | apply IsS61.set_0 | apply IsS61.set_1) | exact HI0.out)); (case side2 => repeat (first | (with_reducible first | exact HB.out | apply below_alloc | apply pw_below_drewN | apply below_drew1 | refine below_set ?_ (IsS61.ge HI0.out)) | exact HB.out)); rintro e w22 ⟨rfl, hi, hb, hk⟩; refine ⟨_, rfl, ?_⟩; have n0_ := Aside0.mk (KeepBut.trans (by repeat (first | (with_reducible first | exact HK.out | apply KeepBut.set_ | apply keep_drewN | apply keep_drew | apply keep_alloc) | exact HK.out)) hk (.inl rfl)); have n1_ := Aside0.mk (hb); have n2_ := Aside0.mk (hi); clear HK; clear HB; clear HI0; have HK := n0_; have HB := n1_; have HI0 := n2_; clear n0_ n1_ n2_; (try clear hb); (try clear hb2); (try clear hk); (try clear hi)) | ((with_reducible refine gate_callee (f := 67) rfl ?_); refine goesL_ (some 40) rfl rfl Tryd.func67 (by kernel_rfl) rfl #[.int .u8 t160] rfl (by (try simp only [List.map_toArray, List.map_cons, List.map_nil]); first | done | rfl | (simp only [List.length_drop, List.length_take]; rfl)) ?_; (with_reducible refine (spec_hexDigit.calls k2 t160 t163 false _ A18.out).mono ?_); rintro e w' ⟨rfl, ⟨nd, rfl⟩⟩; refine ⟨_, rfl, ?_⟩))
                  go_ret
                  exact ⟨by first | rfl | (simp [errW_none, errW_some] <;> rfl) | (simp [*, errW_none, errW_some] <;> rfl), by repeat (first | (with_reducible first | exact HI0.out | apply IsS61.alloc | apply IsS61.drewN | apply IsS61.drew | apply IsS61.set_0 | apply IsS61.set_1) | exact HI0.out), by repeat (first | (with_reducible first | exact HB.out | apply below_alloc | apply pw_below_drewN | apply below_drew1 | refine below_set ?_ (IsS61.ge HI0.out)) | exact HB.out), by repeat (first | (with_reducible first | exact HK.out | apply KeepBut.set_ | apply keep_drewN | apply keep_drew | apply keep_alloc) | exact HK.out)⟩
              · rw [if_neg c16] at H
                have c16b0 : decide (x3_2 < 4) = false := decide_eq_false c16
                clear c16
                simp only [Option.some.injEq, Prod.mk.injEq] at H
                obtain ⟨rfl, rfl, rfl⟩ := H
                go_wp2
                go_ret
                exact ⟨by first | rfl | (simp [errW_none, errW_some] <;> rfl) | (simp [*, errW_none, errW_some] <;> rfl), by repeat (first | (with_reducible first | exact HI0.out | apply IsS61.alloc | apply IsS61.drewN | apply IsS61.drew | apply IsS61.set_0 | apply IsS61.set_1) | exact HI0.out), by repeat (first | (with_reducible first | exact HB.out | apply below_alloc | apply pw_below_drewN | apply below_drew1 | refine below_set ?_ (IsS61.ge HI0.out)) | exact HB.out), by repeat (first | (with_reducible first | exact HK.out | apply KeepBut.set_ | apply keep_drewN | apply keep_drew | apply keep_alloc) | exact HK.out)⟩
        · rw [if_neg c14] at H
          have c14b0 : (t157 == 117) = false := beq_eq_false_iff_ne.mpr c14
          have c14b1 : (t157 != 117) = true := bne_iff_ne.mpr c14
          simp only [Option.some.injEq, Prod.mk.injEq] at H
          obtain ⟨rfl, rfl, rfl⟩ := H
          go_wp2
          go_ret
          exact ⟨by first | rfl | (simp [errW_none, errW_some] <;> rfl) | (simp [*, errW_none, errW_some] <;> rfl), by repeat (first | (with_reducible first | exact HI0.out | apply IsS61.alloc | apply IsS61.drewN | apply IsS61.drew | apply IsS61.set_0 | apply IsS61.set_1) | exact HI0.out), by repeat (first | (with_reducible first | exact HB.out | apply below_alloc | apply pw_below_drewN | apply below_drew1 | refine below_set ?_ (IsS61.ge HI0.out)) | exact HB.out), by repeat (first | (with_reducible first | exact HK.out | apply KeepBut.set_ | apply keep_drewN | apply keep_drew | apply keep_alloc) | exact HK.out)⟩

end Go.Proofs.YtdllbnecbbggfaaDoor.XFnJpEscapeAt
