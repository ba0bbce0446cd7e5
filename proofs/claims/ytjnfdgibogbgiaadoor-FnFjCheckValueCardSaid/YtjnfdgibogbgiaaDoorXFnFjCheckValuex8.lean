-- Written by xprint.py of this session (a program that runs the kit's print and adds to it); Lean checks it.
import Derived.Test.YtjnfdgibogbgiaaDoorXFnFjCheckValuex0
import Derived.Test.YtjnfdgibogbgiaaDoorXFnFjCheckValuex1
import Derived.Test.YtjnfdgibogbgiaaDoorXFnFjCheckValuex6
import Derived.Test.YtjnfdgibogbgiaaDoorXFnFjCheckValuex7
namespace Go.Proofs.YtjnfdgibogbgiaaDoor.XFnFjCheckValue
open Go.RowKit Go.Proofs.YtjnfdgibogbgiaaDoorW.PrintWords Go.Proofs.YtjnfdgibogbgiaaDoorW.PrintLast Go.Proofs.YtjnfdgibogbgiaaDoorW.PrintMore
attribute [local go_sem] max2_int min2_int max_two min_two max_three min_three max_four min_four   -- for this text's walks alone
set_option linter.unusedVariables false
set_option linter.unusedSimpArgs false

/-! ### laws_FnFjCheckValue: function 3 -/
def laws_FnFjCheckValue.j0 : Nat → ByteArray → Bool → Option (Bool)
  | 0, _, _ => none
  | k + 1, x0, x19 => if x19 = true then (some true) else ((laws_behind.f k x0).bind fun bt266 => ((impl_FjCheckValue.f x0).bind fun bt268 => ((impl_FjCheckValue.f (⟨#[49]⟩ : ByteArray)).bind fun bt270 => (if bt270.2 = true then (if (bt268.2 == bt266.2) = true then (if bt266.2 = true then (some (bt268.1.toList == bt266.1.toList)) else (some true)) else (some false)) else (some false)))))
def laws_FnFjCheckValue.f (k : Nat) (a0 : ByteArray) : Option (Bool) := if (a0.size : Int) > 2147483647 then (some true) else (if (a0.size : Int) > 4000 then (laws_FnFjCheckValue.j0 k a0 true) else ((laws_fjSteady.f k a0).bind fun t265 => (laws_FnFjCheckValue.j0 k a0 (!t265))))
theorem laws_FnFjCheckValue.mono_l : ∀ k, (∀ y0 y1, LeO (laws_FnFjCheckValue.j0 k y0 y1) (laws_FnFjCheckValue.j0 (k + 1) y0 y1))
  | 0 => fun _ _ r h => by simp [laws_FnFjCheckValue.j0] at h
  | k + 1 => by
    have ih0 := laws_FnFjCheckValue.mono_l k
    · intro y0 y1
      unfold laws_FnFjCheckValue.j0
      repeat' first
      | (with_reducible exact ih0 _ _)
      | (with_reducible exact laws_behind.mono _ _)
      | (with_reducible exact laws_fjSteady.mono _ _)
      | (with_reducible exact LeO.refl _)
      | (with_reducible exact LeO.none _)
      | (with_reducible refine LeO.ite ?_ ?_)
      | (with_reducible refine LeO.bind ?_ (fun _ => ?_))
      | exact ih0 _ _
      | exact laws_behind.mono _ _
      | exact laws_fjSteady.mono _ _
      | exact LeO.none _
      | refine LeO.ite ?_ ?_
      | refine LeO.bind ?_ (fun _ => ?_)
theorem laws_FnFjCheckValue.mono : ∀ a0 k, LeO (laws_FnFjCheckValue.f k a0) (laws_FnFjCheckValue.f (k + 1) a0) := by
  intro a0 k
  have ih0 := laws_FnFjCheckValue.mono_l k
  unfold laws_FnFjCheckValue.f
  repeat' first
      | (with_reducible exact ih0 _ _)
      | (with_reducible exact laws_behind.mono _ _)
      | (with_reducible exact laws_fjSteady.mono _ _)
      | (with_reducible exact LeO.refl _)
      | (with_reducible exact LeO.none _)
      | (with_reducible refine LeO.ite ?_ ?_)
      | (with_reducible refine LeO.bind ?_ (fun _ => ?_))
      | exact ih0 _ _
      | exact laws_behind.mono _ _
      | exact laws_fjSteady.mono _ _
      | exact LeO.none _
      | refine LeO.ite ?_ ?_
      | refine LeO.bind ?_ (fun _ => ?_)
set_option maxHeartbeats 8000000 in
set_option maxRecDepth 100000 in
theorem laws_FnFjCheckValue.calls (k : Nat) (a0 : ByteArray) (r : Bool) (w : World) (hG : Glob w) (h : laws_FnFjCheckValue.f k a0 = some r) :
    Calls Tryd.prog 3 #[.string a0] w fun e w' => e = .returned (.bool r) ∧ Below w.heap.size w w' := by
  have HG := am hG
  clear hG
  have HB := am (Below.refl w.heap.size w)
  have H : (if (a0.size : Int) > 2147483647 then (some true) else (if (a0.size : Int) > 4000 then (laws_FnFjCheckValue.j0 k a0 true) else ((laws_fjSteady.f k a0).bind fun t265 => (laws_FnFjCheckValue.j0 k a0 (!t265))))) = some r := h
  clear h
  by_cases c2 : (a0.size : Int) > 2147483647
  · rw [if_pos c2] at H
    have c2b0 : decide (2147483647 < (a0.size : Int)) = true := decide_eq_true c2
    have c2b1 : decide (2147483647 < a0.size) = true := decide_eq_true (by omega)
    clear c2
    obtain rfl := Option.some.inj H
    go_enter Tryd.func3, Tryd.ntmps3
    go_wp2
    go_ret
    exact ⟨by first | rfl | (simp [errW_none, errW_some] <;> rfl) | (simp [*, errW_none, errW_some] <;> rfl), by repeat (first | (with_reducible first | exact HB.out | apply ba | apply bn | apply bw) | exact HB.out)⟩
  · rw [if_neg c2] at H
    have c2b0 : decide (2147483647 < (a0.size : Int)) = false := decide_eq_false c2
    have c2b1 : decide (2147483647 < a0.size) = false := decide_eq_false (by omega)
    clear c2
    have HC3 := am H
    clear H
    go_enter Tryd.func3, Tryd.ntmps3
    go_upto_region 3 with (fail)
    go_cut [19] (fun v19 wc => ∃ (kq : Nat) (x19_2 : Bool), v19 = .bool x19_2 ∧ Aside0 (laws_FnFjCheckValue.j0 kq a0 x19_2 = some r) ∧ Aside0 (kq ≤ k) ∧ Aside0 (Below w.heap.size w wc))
    case first =>
      have H := HC3.out
      clear HC3
      by_cases c4 : (a0.size : Int) > 4000
      · rw [if_pos c4] at H
        have c4b0 : decide (4000 < (a0.size : Int)) = true := decide_eq_true c4
        have c4b1 : decide (4000 < a0.size) = true := decide_eq_true (by omega)
        clear c4
        (first | rw [c4b0] | (simp only [i64_w, i32_w]; rw [c4b0]) | skip)
        have H' := am H
        clear H
        go_wp2
        go_meet
        case rel => exact ⟨_, (true), (by first | rfl | (simp; done) | (simp [*]; done)), H', ⟨by first | omega | exact Nat.le_refl _⟩, ⟨by repeat (first | (with_reducible first | exact HB.out | apply ba | apply bn | apply bw) | exact HB.out)⟩⟩
      · rw [if_neg c4] at H
        have c4b0 : decide (4000 < (a0.size : Int)) = false := decide_eq_false c4
        have c4b1 : decide (4000 < a0.size) = false := decide_eq_false (by omega)
        clear c4
        (first | rw [c4b0] | (simp only [i64_w, i32_w]; rw [c4b0]) | skip)
        replace H := Option.bind_eq_some_iff.mp H
        obtain ⟨t265, A50, H⟩ := H
        replace H : (laws_FnFjCheckValue.j0 k a0 (!t265)) = some r := H
        have A5 := am A50
        clear A50
        have H' := am H
        clear H
        go_wp2_with (first | (go_at_call 4; (with_reducible refine (laws_fjSteady.calls k a0 t265 _ A5.out).mono ?_); rintro e w' ⟨rfl, ⟨nd, rfl⟩⟩))
        go_meet
        case rel => exact ⟨_, (!t265), (by first | rfl | (simp; done) | (simp [*]; done)), H', ⟨by first | omega | exact Nat.le_refl _⟩, ⟨by repeat (first | (with_reducible first | exact HB.out | apply ba | apply bn | apply bw) | exact HB.out)⟩⟩
    case rest =>
      clear HC3
      try clear c2
      try clear c2b0
      try clear c2b1
      try clear p2
      try clear c3
      try clear c4
      try clear c4b0
      try clear c4b1
      obtain ⟨kq, x19_2, rfl, HA, HJ2, HB⟩ := hcut
      cases kq with
      | zero => exact absurd HA.out (by simp [laws_FnFjCheckValue.j0])
      | succ kj2 =>
        have H := HA.out
        clear HA
        simp only [laws_FnFjCheckValue.j0] at H
        by_cases c6 : x19_2 = true
        · subst c6
          have H1 : (some true) = some r := by rw [if_pos rfl] at H; exact H
          clear H
          have H := H1
          clear H1
          obtain rfl := Option.some.inj H
          go_wp2
          go_ret
          exact ⟨by first | rfl | (simp [errW_none, errW_some] <;> rfl) | (simp [*, errW_none, errW_some] <;> rfl), by repeat (first | (with_reducible first | exact HB.out | apply ba | apply bn | apply bw) | exact HB.out)⟩
        · replace c6 := Bool.eq_false_iff.mpr c6
          subst c6
          have H1 : ((laws_behind.f kj2 a0).bind fun bt266 => ((impl_FjCheckValue.f a0).bind fun bt268 => ((impl_FjCheckValue.f (⟨#[49]⟩ : ByteArray)).bind fun bt270 => (if bt270.2 = true then (if (bt268.2 == bt266.2) = true then (if bt266.2 = true then (some (bt268.1.toList == bt266.1.toList)) else (some true)) else (some false)) else (some false))))) = some r := by rw [if_neg (show ¬ (false = true) by decide)] at H; exact H
          clear H
          have H := H1
          clear H1
          replace H := Option.bind_eq_some_iff.mp H
          obtain ⟨⟨t266, t267⟩, A70, H⟩ := H
          replace H : ((impl_FjCheckValue.f a0).bind fun bt268 => ((impl_FjCheckValue.f (⟨#[49]⟩ : ByteArray)).bind fun bt270 => (if bt270.2 = true then (if (bt268.2 == t267) = true then (if t267 = true then (some (bt268.1.toList == t266.toList)) else (some true)) else (some false)) else (some false)))) = some r := H
          have A7 := am A70
          clear A70
          replace H := Option.bind_eq_some_iff.mp H
          obtain ⟨⟨t268, t269⟩, A80, H⟩ := H
          replace H : ((impl_FjCheckValue.f (⟨#[49]⟩ : ByteArray)).bind fun bt270 => (if bt270.2 = true then (if (t269 == t267) = true then (if t267 = true then (some (t268.toList == t266.toList)) else (some true)) else (some false)) else (some false))) = some r := H
          have A8 := am A80
          clear A80
          replace H := Option.bind_eq_some_iff.mp H
          obtain ⟨⟨t270, t271⟩, A90, H⟩ := H
          replace H : (if t271 = true then (if (t269 == t267) = true then (if t267 = true then (some (t268.toList == t266.toList)) else (some true)) else (some false)) else (some false)) = some r := H
          have A9 := am A90
          clear A90
          by_cases c10 : t271 = true
          · subst c10
            have H1 : (if (t269 == t267) = true then (if t267 = true then (some (t268.toList == t266.toList)) else (some true)) else (some false)) = some r := by rw [if_pos rfl] at H; exact H
            clear H
            have H := H1
            clear H1
            by_cases c11 : (t269 == t267) = true
            · rw [if_pos c11] at H
              have c11b0 : (t269 == t267) = true := c11
              (try (have c11b1 : decide (t269 = t267) = true := by simpa using c11))
              (try (have c11b2 : (t269 == t267) = true := by simpa using c11))
              clear c11
              by_cases c12 : t267 = true
              · subst c12
                have H1 : (some (t268.toList == t266.toList)) = some r := by rw [if_pos rfl] at H; exact H
                clear H
                have H := H1
                clear H1
                obtain rfl := Option.some.inj H
                go_wp2_with (first | ((with_reducible refine gate_callee (f := 5) rfl ?_); refine goesL_ (some 22) rfl rfl Tryd.func5 (by kernel_rfl) rfl #[.string a0] rfl (by (try simp only [List.map_toArray, List.map_cons, List.map_nil]); first | done | rfl | (simp only [List.length_drop, List.length_take]; rfl)) ?_; (with_reducible refine (laws_behind.calls kj2 a0 t266 true _ A7.out).mono ?_); rintro e w13 ⟨rfl, hb⟩; refine ⟨_, rfl, ?_⟩; have n0_ := am (below_step (by repeat (first | (with_reducible first | exact HB.out | apply ba | apply bn | apply bw) | exact HB.out)) hb); clear HB; have HB := n0_; clear n0_; (try clear hb); (try clear hb2); (try clear hk); (try clear hi)) | ((with_reducible refine gate_callee (f := 6) rfl ?_); refine goesL_ (some 27) rfl rfl Tryd.func6 (by kernel_rfl) rfl #[.string a0] rfl (by (try simp only [List.map_toArray, List.map_cons, List.map_nil]); first | done | rfl | (simp only [List.length_drop, List.length_take]; rfl)) ?_; (with_reducible refine (impl_FjCheckValue.calls a0 t268 t269 _ ?side1 A8.out).mono ?_); (case side1 => exact Glob.below HG.out (by repeat (first | (with_reducible first | exact HB.out | apply ba | apply bn | apply bw) | exact HB.out))); rintro e w14 ⟨rfl, hb⟩; refine ⟨_, rfl, ?_⟩; have n0_ := am (below_step (by repeat (first | (with_reducible first | exact HB.out | apply ba | apply bn | apply bw) | exact HB.out)) hb); clear HB; have HB := n0_; clear n0_; (try clear hb); (try clear hb2); (try clear hk); (try clear hi)) | ((with_reducible refine gate_callee (f := 6) rfl ?_); refine goesL_ (some 31) rfl rfl Tryd.func6 (by kernel_rfl) rfl #[.string (⟨#[49]⟩ : ByteArray)] rfl (by (try simp only [List.map_toArray, List.map_cons, List.map_nil]); first | done | rfl | (simp only [List.length_drop, List.length_take]; rfl)) ?_; (with_reducible refine (impl_FjCheckValue.calls (⟨#[49]⟩ : ByteArray) t270 true _ ?side1 A9.out).mono ?_); (case side1 => exact Glob.below HG.out (by repeat (first | (with_reducible first | exact HB.out | apply ba | apply bn | apply bw) | exact HB.out))); rintro e w15 ⟨rfl, hb⟩; refine ⟨_, rfl, ?_⟩; have n0_ := am (below_step (by repeat (first | (with_reducible first | exact HB.out | apply ba | apply bn | apply bw) | exact HB.out)) hb); clear HB; have HB := n0_; clear n0_; (try clear hb); (try clear hb2); (try clear hk); (try clear hi)))
                go_ret
                exact ⟨by first | rfl | (simp [errW_none, errW_some] <;> rfl) | (simp [*, errW_none, errW_some] <;> rfl), by repeat (first | (with_reducible first | exact HB.out | apply ba | apply bn | apply bw) | exact HB.out)⟩
              · replace c12 := Bool.eq_false_iff.mpr c12
                subst c12
                have H1 : (some true) = some r := by rw [if_neg (show ¬ (false = true) by decide)] at H; exact H
                clear H
                have H := H1
                clear H1
                obtain rfl := Option.some.inj H
                go_wp2_with (first | ((with_reducible refine gate_callee (f := 5) rfl ?_); refine goesL_ (some 22) rfl rfl Tryd.func5 (by kernel_rfl) rfl #[.string a0] rfl (by (try simp only [List.map_toArray, List.map_cons, List.map_nil]); first | done | rfl | (simp only [List.length_drop, List.length_take]; rfl)) ?_; (with_reducible refine (laws_behind.calls kj2 a0 t266 false _ A7.out).mono ?_); rintro e w16 ⟨rfl, hb⟩; refine ⟨_, rfl, ?_⟩; have n0_ := am (below_step (by repeat (first | (with_reducible first | exact HB.out | apply ba | apply bn | apply bw) | exact HB.out)) hb); clear HB; have HB := n0_; clear n0_; (try clear hb); (try clear hb2); (try clear hk); (try clear hi)) | ((with_reducible refine gate_callee (f := 6) rfl ?_); refine goesL_ (some 27) rfl rfl Tryd.func6 (by kernel_rfl) rfl #[.string a0] rfl (by (try simp only [List.map_toArray, List.map_cons, List.map_nil]); first | done | rfl | (simp only [List.length_drop, List.length_take]; rfl)) ?_; (with_reducible refine (impl_FjCheckValue.calls a0 t268 t269 _ ?side1 A8.out).mono ?_); (case side1 => exact Glob.below HG.out (by repeat (first | (with_reducible first | exact HB.out | apply ba | apply bn | apply bw) | exact HB.out))); rintro e w17 ⟨rfl, hb⟩; refine ⟨_, rfl, ?_⟩; have n0_ := am (below_step (by repeat (first | (with_reducible first | exact HB.out | apply ba | apply bn | apply bw) | exact HB.out)) hb); clear HB; have HB := n0_; clear n0_; (try clear hb); (try clear hb2); (try clear hk); (try clear hi)) | ((with_reducible refine gate_callee (f := 6) rfl ?_); refine goesL_ (some 31) rfl rfl Tryd.func6 (by kernel_rfl) rfl #[.string (⟨#[49]⟩ : ByteArray)] rfl (by (try simp only [List.map_toArray, List.map_cons, List.map_nil]); first | done | rfl | (simp only [List.length_drop, List.length_take]; rfl)) ?_; (with_reducible refine (impl_FjCheckValue.calls (⟨#[49]⟩ : ByteArray) t270 true _ ?side1 A9.out).mono ?_); (case side1 => exact Glob.below HG.out (by repeat (first | (with_reducible first | exact HB.out | apply ba | apply bn | apply bw) | exact HB.out))); rintro e w18 ⟨rfl, hb⟩; refine ⟨_, rfl, ?_⟩; have n0_ := am (below_step (by repeat (first | (with_reducible first | exact HB.out | apply ba | apply bn | apply bw) | exact HB.out)) hb); clear HB; have HB := n0_; clear n0_; (try clear hb); (try clear hb2); (try clear hk); (try clear hi)))
                go_ret
                exact ⟨by first | rfl | (simp [errW_none, errW_some] <;> rfl) | (simp [*, errW_none, errW_some] <;> rfl), by repeat (first | (with_reducible first | exact HB.out | apply ba | apply bn | apply bw) | exact HB.out)⟩
            · rw [if_neg c11] at H
              have c11b0 : (t269 == t267) = false := by simpa using c11
              (try (have c11b1 : decide (t269 = t267) = false := by simpa using c11))
              (try (have c11b2 : (t269 == t267) = false := by simpa using c11))
              (try (have c11b3 : ¬ (t269 = t267) := by simpa using c11))
              clear c11
              obtain rfl := Option.some.inj H
              go_wp2_with (first | ((with_reducible refine gate_callee (f := 5) rfl ?_); refine goesL_ (some 22) rfl rfl Tryd.func5 (by kernel_rfl) rfl #[.string a0] rfl (by (try simp only [List.map_toArray, List.map_cons, List.map_nil]); first | done | rfl | (simp only [List.length_drop, List.length_take]; rfl)) ?_; (with_reducible refine (laws_behind.calls kj2 a0 t266 t267 _ A7.out).mono ?_); rintro e w19 ⟨rfl, hb⟩; refine ⟨_, rfl, ?_⟩; have n0_ := am (below_step (by repeat (first | (with_reducible first | exact HB.out | apply ba | apply bn | apply bw) | exact HB.out)) hb); clear HB; have HB := n0_; clear n0_; (try clear hb); (try clear hb2); (try clear hk); (try clear hi)) | ((with_reducible refine gate_callee (f := 6) rfl ?_); refine goesL_ (some 27) rfl rfl Tryd.func6 (by kernel_rfl) rfl #[.string a0] rfl (by (try simp only [List.map_toArray, List.map_cons, List.map_nil]); first | done | rfl | (simp only [List.length_drop, List.length_take]; rfl)) ?_; (with_reducible refine (impl_FjCheckValue.calls a0 t268 t269 _ ?side1 A8.out).mono ?_); (case side1 => exact Glob.below HG.out (by repeat (first | (with_reducible first | exact HB.out | apply ba | apply bn | apply bw) | exact HB.out))); rintro e w20 ⟨rfl, hb⟩; refine ⟨_, rfl, ?_⟩; have n0_ := am (below_step (by repeat (first | (with_reducible first | exact HB.out | apply ba | apply bn | apply bw) | exact HB.out)) hb); clear HB; have HB := n0_; clear n0_; (try clear hb); (try clear hb2); (try clear hk); (try clear hi)) | ((with_reducible refine gate_callee (f := 6) rfl ?_); refine goesL_ (some 31) rfl rfl Tryd.func6 (by kernel_rfl) rfl #[.string (⟨#[49]⟩ : ByteArray)] rfl (by (try simp only [List.map_toArray, List.map_cons, List.map_nil]); first | done | rfl | (simp only [List.length_drop, List.length_take]; rfl)) ?_; (with_reducible refine (impl_FjCheckValue.calls (⟨#[49]⟩ : ByteArray) t270 true _ ?side1 A9.out).mono ?_); (case side1 => exact Glob.below HG.out (by repeat (first | (with_reducible first | exact HB.out | apply ba | apply bn | apply bw) | exact HB.out))); rintro e w21 ⟨rfl, hb⟩; refine ⟨_, rfl, ?_⟩; have n0_ := am (below_step (by repeat (first | (with_reducible first | exact HB.out | apply ba | apply bn | apply bw) | exact HB.out)) hb); clear HB; have HB := n0_; clear n0_; (try clear hb); (try clear hb2); (try clear hk); (try clear hi)))
              go_ret
              exact ⟨by first | rfl | (simp [errW_none, errW_some] <;> rfl) | (simp [*, errW_none, errW_some] <;> rfl), by repeat (first | (with_reducible first | exact HB.out | apply ba | apply bn | apply bw) | exact HB.out)⟩
          · replace c10 := Bool.eq_false_iff.mpr c10
            subst c10
            have H1 : (some false) = some r := by rw [if_neg (show ¬ (false = true) by decide)] at H; exact H
            clear H
            have H := H1
            clear H1
            obtain rfl := Option.some.inj H
            go_wp2_with (first | ((with_reducible refine gate_callee (f := 5) rfl ?_); refine goesL_ (some 22) rfl rfl Tryd.func5 (by kernel_rfl) rfl #[.string a0] rfl (by (try simp only [List.map_toArray, List.map_cons, List.map_nil]); first | done | rfl | (simp only [List.length_drop, List.length_take]; rfl)) ?_; (with_reducible refine (laws_behind.calls kj2 a0 t266 t267 _ A7.out).mono ?_); rintro e w22 ⟨rfl, hb⟩; refine ⟨_, rfl, ?_⟩; have n0_ := am (below_step (by repeat (first | (with_reducible first | exact HB.out | apply ba | apply bn | apply bw) | exact HB.out)) hb); clear HB; have HB := n0_; clear n0_; (try clear hb); (try clear hb2); (try clear hk); (try clear hi)) | ((with_reducible refine gate_callee (f := 6) rfl ?_); refine goesL_ (some 27) rfl rfl Tryd.func6 (by kernel_rfl) rfl #[.string a0] rfl (by (try simp only [List.map_toArray, List.map_cons, List.map_nil]); first | done | rfl | (simp only [List.length_drop, List.length_take]; rfl)) ?_; (with_reducible refine (impl_FjCheckValue.calls a0 t268 t269 _ ?side1 A8.out).mono ?_); (case side1 => exact Glob.below HG.out (by repeat (first | (with_reducible first | exact HB.out | apply ba | apply bn | apply bw) | exact HB.out))); rintro e w23 ⟨rfl, hb⟩; refine ⟨_, rfl, ?_⟩; have n0_ := am (below_step (by repeat (first | (with_reducible first | exact HB.out | apply ba | apply bn | apply bw) | exact HB.out)) hb); clear HB; have HB := n0_; clear n0_; (try clear hb); (try clear hb2); (try clear hk); (try clear hi)) | ((with_reducible refine gate_callee (f := 6) rfl ?_); refine goesL_ (some 31) rfl rfl Tryd.func6 (by kernel_rfl) rfl #[.string (⟨#[49]⟩ : ByteArray)] rfl (by (try simp only [List.map_toArray, List.map_cons, List.map_nil]); first | done | rfl | (simp only [List.length_drop, List.length_take]; rfl)) ?_; (with_reducible refine (impl_FjCheckValue.calls (⟨#[49]⟩ : ByteArray) t270 false _ ?side1 A9.out).mono ?_); (case side1 => exact Glob.below HG.out (by repeat (first | (with_reducible first | exact HB.out | apply ba | apply bn | apply bw) | exact HB.out))); rintro e w24 ⟨rfl, hb⟩; refine ⟨_, rfl, ?_⟩; have n0_ := am (below_step (by repeat (first | (with_reducible first | exact HB.out | apply ba | apply bn | apply bw) | exact HB.out)) hb); clear HB; have HB := n0_; clear n0_; (try clear hb); (try clear hb2); (try clear hk); (try clear hi)))
            go_ret
            exact ⟨by first | rfl | (simp [errW_none, errW_some] <;> rfl) | (simp [*, errW_none, errW_some] <;> rfl), by repeat (first | (with_reducible first | exact HB.out | apply ba | apply bn | apply bw) | exact HB.out)⟩

/-- THE ONE PURE STATEMENT of laws_FnFjCheckValue: yours. -/
def laws_FnFjCheckValue.Pure : Prop := ∀ (a0 : ByteArray), a0.size ≤ 140737488351232 → ∃ k, laws_FnFjCheckValue.f k a0 = some true
theorem laws_FnFjCheckValue.walk (P : laws_FnFjCheckValue.Pure) (a0 : ByteArray) (w : World) (w0 : a0.size ≤ 140737488351232) (hG : Glob w) :
    Calls Tryd.prog 3 #[.string a0] w fun e w' => e = .returned (.bool true) ∧ Below w.heap.size w w' := by
  obtain ⟨k, h⟩ := P a0 w0
  refine (laws_FnFjCheckValue.calls k a0 true w hG h).mono ?_
  rintro e w' ⟨rfl, hd⟩
  exact ⟨rfl, hd⟩

end Go.Proofs.YtjnfdgibogbgiaaDoor.XFnFjCheckValue
