-- Written by xprint.py of this session (a program that runs the kit's print and adds to it); Lean checks it.
import Derived.Test.YtdllbnecbbggfaaDoorXFnGjUnescapex0
import Derived.Test.YtdllbnecbbggfaaDoorXFnGjUnescapex1
import Derived.Test.YtdllbnecbbggfaaDoorXFnGjUnescapex3
import Derived.Test.YtdllbnecbbggfaaDoorXFnGjUnescapex7
namespace Go.Proofs.YtdllbnecbbggfaaDoor.XFnGjUnescape
open Go.RowKit Go.Proofs.YtdllbnecbbggfaaDoorW.PrintWords Go.Proofs.YtdllbnecbbggfaaDoorW.PrintLast Go.Proofs.YtdllbnecbbggfaaDoorW.PrintMore
attribute [local go_sem] max2_int min2_int max_two min_two max_three min_three max_four min_four   -- for this text's walks alone
set_option linter.unusedVariables false
set_option linter.unusedSimpArgs false

/-! ### laws_FnGjUnescape: function 9 -/
def laws_FnGjUnescape.j0 : Nat → ByteArray → ByteArray → Bool → Option (Bool)
  | 0, _, _, _ => none
  | k + 1, x0, x3, x39 => if x39 = true then (some true) else ((impl_GjUnescape.f k x0).bind fun t190 => ((spec_Unquote.f k x3).bind fun t191 => (some (t190.toList == t191.toList))))
def laws_FnGjUnescape.f (k : Nat) (a0 : ByteArray) : Option (Bool) := if (a0.size : Int) > 2147483647 then (some true) else (if 1 + a0.size ≤ 9223372036854775807 then (if ((⟨#[34]⟩ : ByteArray) ++ a0).size + 1 ≤ 9223372036854775807 then ((spec_StringAt.f k (((⟨#[34]⟩ : ByteArray) ++ a0) ++ (⟨#[34]⟩ : ByteArray)) 1).bind fun bt186 => (if bt186.2 = true then (if bt186.1 = ((((⟨#[34]⟩ : ByteArray) ++ a0) ++ (⟨#[34]⟩ : ByteArray)).size : Int) then (if (a0.size : Int) > 4096 then (laws_FnGjUnescape.j0 k a0 (((⟨#[34]⟩ : ByteArray) ++ a0) ++ (⟨#[34]⟩ : ByteArray)) true) else ((spec_UTF8.f k a0).bind fun t188 => (if t188 = true then ((spec_Paired.f k a0).bind fun t189 => (laws_FnGjUnescape.j0 k a0 (((⟨#[34]⟩ : ByteArray) ++ a0) ++ (⟨#[34]⟩ : ByteArray)) (!t189))) else (laws_FnGjUnescape.j0 k a0 (((⟨#[34]⟩ : ByteArray) ++ a0) ++ (⟨#[34]⟩ : ByteArray)) true)))) else (laws_FnGjUnescape.j0 k a0 (((⟨#[34]⟩ : ByteArray) ++ a0) ++ (⟨#[34]⟩ : ByteArray)) true)) else (laws_FnGjUnescape.j0 k a0 (((⟨#[34]⟩ : ByteArray) ++ a0) ++ (⟨#[34]⟩ : ByteArray)) true))) else (none)) else (none))
theorem laws_FnGjUnescape.mono_l : ∀ k, (∀ y0 y1 y2, LeO (laws_FnGjUnescape.j0 k y0 y1 y2) (laws_FnGjUnescape.j0 (k + 1) y0 y1 y2))
  | 0 => fun _ _ _ r h => by simp [laws_FnGjUnescape.j0] at h
  | k + 1 => by
    have ih0 := laws_FnGjUnescape.mono_l k
    · intro y0 y1 y2
      unfold laws_FnGjUnescape.j0
      repeat' first
      | (with_reducible exact ih0 _ _ _)
      | (with_reducible exact impl_GjUnescape.mono _ _)
      | (with_reducible exact spec_Paired.mono _ _)
      | (with_reducible exact spec_StringAt.mono _ _ _)
      | (with_reducible exact spec_UTF8.mono _ _)
      | (with_reducible exact spec_Unquote.mono _ _)
      | (with_reducible exact LeO.refl _)
      | (with_reducible exact LeO.none _)
      | (with_reducible refine LeO.ite ?_ ?_)
      | (with_reducible refine LeO.bind ?_ (fun _ => ?_))
      | exact ih0 _ _ _
      | exact impl_GjUnescape.mono _ _
      | exact spec_Paired.mono _ _
      | exact spec_StringAt.mono _ _ _
      | exact spec_UTF8.mono _ _
      | exact spec_Unquote.mono _ _
      | exact LeO.none _
      | refine LeO.ite ?_ ?_
      | refine LeO.bind ?_ (fun _ => ?_)
theorem laws_FnGjUnescape.mono : ∀ a0 k, LeO (laws_FnGjUnescape.f k a0) (laws_FnGjUnescape.f (k + 1) a0) := by
  intro a0 k
  have ih0 := laws_FnGjUnescape.mono_l k
  unfold laws_FnGjUnescape.f
  repeat' first
      | (with_reducible exact ih0 _ _ _)
      | (with_reducible exact impl_GjUnescape.mono _ _)
      | (with_reducible exact spec_Paired.mono _ _)
      | (with_reducible exact spec_StringAt.mono _ _ _)
      | (with_reducible exact spec_UTF8.mono _ _)
      | (with_reducible exact spec_Unquote.mono _ _)
      | (with_reducible exact LeO.refl _)
      | (with_reducible exact LeO.none _)
      | (with_reducible refine LeO.ite ?_ ?_)
      | (with_reducible refine LeO.bind ?_ (fun _ => ?_))
      | exact ih0 _ _ _
      | exact impl_GjUnescape.mono _ _
      | exact spec_Paired.mono _ _
      | exact spec_StringAt.mono _ _ _
      | exact spec_UTF8.mono _ _
      | exact spec_Unquote.mono _ _
      | exact LeO.none _
      | refine LeO.ite ?_ ?_
      | refine LeO.bind ?_ (fun _ => ?_)
set_option maxHeartbeats 8000000 in
set_option maxRecDepth 100000 in
theorem laws_FnGjUnescape.calls (k : Nat) (a0 : ByteArray) (r : Bool) (w : World) (h : laws_FnGjUnescape.f k a0 = some r) :
    Calls Tryd.prog 9 #[.string a0] w fun e w' => e = .returned (.bool r) ∧ Below w.heap.size w w' := by
  have HB := Aside0.mk (Below.refl w.heap.size w)
  have H : (if (a0.size : Int) > 2147483647 then (some true) else (if 1 + a0.size ≤ 9223372036854775807 then (if ((⟨#[34]⟩ : ByteArray) ++ a0).size + 1 ≤ 9223372036854775807 then ((spec_StringAt.f k (((⟨#[34]⟩ : ByteArray) ++ a0) ++ (⟨#[34]⟩ : ByteArray)) 1).bind fun bt186 => (if bt186.2 = true then (if bt186.1 = ((((⟨#[34]⟩ : ByteArray) ++ a0) ++ (⟨#[34]⟩ : ByteArray)).size : Int) then (if (a0.size : Int) > 4096 then (laws_FnGjUnescape.j0 k a0 (((⟨#[34]⟩ : ByteArray) ++ a0) ++ (⟨#[34]⟩ : ByteArray)) true) else ((spec_UTF8.f k a0).bind fun t188 => (if t188 = true then ((spec_Paired.f k a0).bind fun t189 => (laws_FnGjUnescape.j0 k a0 (((⟨#[34]⟩ : ByteArray) ++ a0) ++ (⟨#[34]⟩ : ByteArray)) (!t189))) else (laws_FnGjUnescape.j0 k a0 (((⟨#[34]⟩ : ByteArray) ++ a0) ++ (⟨#[34]⟩ : ByteArray)) true)))) else (laws_FnGjUnescape.j0 k a0 (((⟨#[34]⟩ : ByteArray) ++ a0) ++ (⟨#[34]⟩ : ByteArray)) true)) else (laws_FnGjUnescape.j0 k a0 (((⟨#[34]⟩ : ByteArray) ++ a0) ++ (⟨#[34]⟩ : ByteArray)) true))) else (none)) else (none))) = some r := h
  clear h
  by_cases c2 : (a0.size : Int) > 2147483647
  · rw [if_pos c2] at H
    have c2b0 : decide (2147483647 < (a0.size : Int)) = true := decide_eq_true c2
    have c2b1 : decide (2147483647 < a0.size) = true := decide_eq_true (by omega)
    clear c2
    obtain rfl := Option.some.inj H
    go_enter Tryd.func9, Tryd.ntmps9
    go_wp2
    go_ret
    exact ⟨by first | rfl | (simp [errW_none, errW_some] <;> rfl) | (simp [*, errW_none, errW_some] <;> rfl), by repeat (first | (with_reducible first | exact HB.out | apply below_alloc | apply pw_below_drewN | apply below_drew1) | exact HB.out)⟩
  · rw [if_neg c2] at H
    have c2b0 : decide (2147483647 < (a0.size : Int)) = false := decide_eq_false c2
    have c2b1 : decide (2147483647 < a0.size) = false := decide_eq_false (by omega)
    clear c2
    by_cases c3 : 1 + a0.size ≤ 9223372036854775807
    · rw [if_pos c3] at H
      have c3b0 := eq_true c3
      have c3b1 : decide (1 + a0.size ≤ 9223372036854775807) = true := decide_eq_true c3
      try have c3b2 : (9223372036854775807 < 1 + a0.size) = False := eq_false (Nat.not_lt.2 c3)
      by_cases c4 : ((⟨#[34]⟩ : ByteArray) ++ a0).size + 1 ≤ 9223372036854775807
      · rw [if_pos c4] at H
        have c4b0 := eq_true c4
        try (have c4b7 : 1 + a0.size + 1 ≤ 9223372036854775807 := by (have h_ := c4; simp only [ByteArray.size_append] at h_; exact h_))
        have c4b1 : decide (((⟨#[34]⟩ : ByteArray) ++ a0).size + 1 ≤ 9223372036854775807) = true := decide_eq_true c4
        try have c4b2 : (9223372036854775807 < ((⟨#[34]⟩ : ByteArray) ++ a0).size + 1) = False := eq_false (Nat.not_lt.2 c4)
        replace H := Option.bind_eq_some_iff.mp H
        obtain ⟨⟨t186, t187⟩, A50, H⟩ := H
        replace H : (if t187 = true then (if t186 = ((((⟨#[34]⟩ : ByteArray) ++ a0) ++ (⟨#[34]⟩ : ByteArray)).size : Int) then (if (a0.size : Int) > 4096 then (laws_FnGjUnescape.j0 k a0 (((⟨#[34]⟩ : ByteArray) ++ a0) ++ (⟨#[34]⟩ : ByteArray)) true) else ((spec_UTF8.f k a0).bind fun t188 => (if t188 = true then ((spec_Paired.f k a0).bind fun t189 => (laws_FnGjUnescape.j0 k a0 (((⟨#[34]⟩ : ByteArray) ++ a0) ++ (⟨#[34]⟩ : ByteArray)) (!t189))) else (laws_FnGjUnescape.j0 k a0 (((⟨#[34]⟩ : ByteArray) ++ a0) ++ (⟨#[34]⟩ : ByteArray)) true)))) else (laws_FnGjUnescape.j0 k a0 (((⟨#[34]⟩ : ByteArray) ++ a0) ++ (⟨#[34]⟩ : ByteArray)) true)) else (laws_FnGjUnescape.j0 k a0 (((⟨#[34]⟩ : ByteArray) ++ a0) ++ (⟨#[34]⟩ : ByteArray)) true)) = some r := H
        have A5 := Aside0.mk A50
        clear A50
        have HC6 := Aside0.mk H
        clear H
        go_enter Tryd.func9, Tryd.ntmps9
        go_upto_region 5 with (first | ((with_reducible refine gate_callee (f := 27) rfl ?_); refine goesL_ (some 14) rfl rfl Tryd.func27 (by kernel_rfl) rfl #[.string (((⟨#[34]⟩ : ByteArray) ++ a0) ++ (⟨#[34]⟩ : ByteArray)), .int .i64 1] rfl (by (try simp only [List.map_toArray, List.map_cons, List.map_nil]); first | done | rfl | (simp only [List.length_drop, List.length_take]; rfl)) ?_; (with_reducible refine (spec_StringAt.calls k (((⟨#[34]⟩ : ByteArray) ++ a0) ++ (⟨#[34]⟩ : ByteArray)) 1 t186 t187 _ A5.out).mono ?_); rintro e w7 ⟨rfl, hb⟩; refine ⟨_, rfl, ?_⟩; have n0_ := Aside0.mk (below_step (by repeat (first | (with_reducible first | exact HB.out | apply below_alloc | apply pw_below_drewN | apply below_drew1) | exact HB.out)) hb); clear HB; have HB := n0_; clear n0_; (try clear hb); (try clear hb2); (try clear hk); (try clear hi)))
        (try simp only [Act.put, List.setIfInBounds_toArray, List.set_cons_zero, List.set_cons_succ])
        go_cut [39] (fun v39 wc => ∃ (kq : Nat) (x39_5 : Bool), v39 = .bool x39_5 ∧ Aside0 (laws_FnGjUnescape.j0 kq a0 (((⟨#[34]⟩ : ByteArray) ++ a0) ++ (⟨#[34]⟩ : ByteArray)) x39_5 = some r) ∧ Aside0 (kq ≤ k) ∧ Aside0 (Below w.heap.size w wc))
        case first =>
          have H := HC6.out
          clear HC6
          by_cases c8 : t187 = true
          · subst c8
            have H1 : (if t186 = ((((⟨#[34]⟩ : ByteArray) ++ a0) ++ (⟨#[34]⟩ : ByteArray)).size : Int) then (if (a0.size : Int) > 4096 then (laws_FnGjUnescape.j0 k a0 (((⟨#[34]⟩ : ByteArray) ++ a0) ++ (⟨#[34]⟩ : ByteArray)) true) else ((spec_UTF8.f k a0).bind fun t188 => (if t188 = true then ((spec_Paired.f k a0).bind fun t189 => (laws_FnGjUnescape.j0 k a0 (((⟨#[34]⟩ : ByteArray) ++ a0) ++ (⟨#[34]⟩ : ByteArray)) (!t189))) else (laws_FnGjUnescape.j0 k a0 (((⟨#[34]⟩ : ByteArray) ++ a0) ++ (⟨#[34]⟩ : ByteArray)) true)))) else (laws_FnGjUnescape.j0 k a0 (((⟨#[34]⟩ : ByteArray) ++ a0) ++ (⟨#[34]⟩ : ByteArray)) true)) = some r := by rw [if_pos rfl] at H; exact H
            clear H
            have H := H1
            clear H1
            by_cases c9 : t186 = ((((⟨#[34]⟩ : ByteArray) ++ a0) ++ (⟨#[34]⟩ : ByteArray)).size : Int)
            · rw [if_pos c9] at H
              have c9b0 : 1 + (a0.size : Int) + 1 = t186 := by rw [c9, ByteArray.size_append, ByteArray.size_append]; show 1 + (a0.size : Int) + 1 = ((1 + a0.size + 1 : Nat) : Int); omega
              clear c9
              (first | rw [c9b0] | (simp only [i64_w, i32_w]; rw [c9b0]) | skip)
              by_cases c10 : (a0.size : Int) > 4096
              · rw [if_pos c10] at H
                have c10b0 : decide (4096 < (a0.size : Int)) = true := decide_eq_true c10
                have c10b1 : decide (4096 < a0.size) = true := decide_eq_true (by omega)
                clear c10
                have H' := Aside0.mk H
                clear H
                go_wp2
                go_meet
                case rel => exact ⟨_, (true), (by first | rfl | (simp; done) | (simp [*]; done)), H', ⟨by first | omega | exact Nat.le_refl _⟩, ⟨by repeat (first | (with_reducible first | exact HB.out | apply below_alloc | apply pw_below_drewN | apply below_drew1) | exact HB.out)⟩⟩
              · rw [if_neg c10] at H
                have c10b0 : decide (4096 < (a0.size : Int)) = false := decide_eq_false c10
                have c10b1 : decide (4096 < a0.size) = false := decide_eq_false (by omega)
                clear c10
                replace H := Option.bind_eq_some_iff.mp H
                obtain ⟨t188, A110, H⟩ := H
                replace H : (if t188 = true then ((spec_Paired.f k a0).bind fun t189 => (laws_FnGjUnescape.j0 k a0 (((⟨#[34]⟩ : ByteArray) ++ a0) ++ (⟨#[34]⟩ : ByteArray)) (!t189))) else (laws_FnGjUnescape.j0 k a0 (((⟨#[34]⟩ : ByteArray) ++ a0) ++ (⟨#[34]⟩ : ByteArray)) true)) = some r := H
                have A11 := Aside0.mk A110
                clear A110
                by_cases c12 : t188 = true
                · subst c12
                  have H1 : ((spec_Paired.f k a0).bind fun t189 => (laws_FnGjUnescape.j0 k a0 (((⟨#[34]⟩ : ByteArray) ++ a0) ++ (⟨#[34]⟩ : ByteArray)) (!t189))) = some r := by rw [if_pos rfl] at H; exact H
                  clear H
                  have H := H1
                  clear H1
                  replace H := Option.bind_eq_some_iff.mp H
                  obtain ⟨t189, A130, H⟩ := H
                  replace H : (laws_FnGjUnescape.j0 k a0 (((⟨#[34]⟩ : ByteArray) ++ a0) ++ (⟨#[34]⟩ : ByteArray)) (!t189)) = some r := H
                  have A13 := Aside0.mk A130
                  clear A130
                  have H' := Aside0.mk H
                  clear H
                  go_wp2_with (first | (go_at_call 17; (with_reducible refine (spec_UTF8.calls k a0 true _ A11.out).mono ?_); rintro e w' ⟨rfl, ⟨nd, rfl⟩⟩) | (go_at_call 28; (with_reducible refine (spec_Paired.calls k a0 t189 _ A13.out).mono ?_); rintro e w' ⟨rfl, ⟨nd, rfl⟩⟩))
                  go_meet
                  case rel => exact ⟨_, (!t189), (by first | rfl | (simp; done) | (simp [*]; done)), H', ⟨by first | omega | exact Nat.le_refl _⟩, ⟨by repeat (first | (with_reducible first | exact HB.out | apply below_alloc | apply pw_below_drewN | apply below_drew1) | exact HB.out)⟩⟩
                · replace c12 := Bool.eq_false_iff.mpr c12
                  subst c12
                  have H1 : (laws_FnGjUnescape.j0 k a0 (((⟨#[34]⟩ : ByteArray) ++ a0) ++ (⟨#[34]⟩ : ByteArray)) true) = some r := by rw [if_neg (show ¬ (false = true) by decide)] at H; exact H
                  clear H
                  have H := H1
                  clear H1
                  have H' := Aside0.mk H
                  clear H
                  go_wp2_with (first | (go_at_call 17; (with_reducible refine (spec_UTF8.calls k a0 false _ A11.out).mono ?_); rintro e w' ⟨rfl, ⟨nd, rfl⟩⟩))
                  go_meet
                  case rel => exact ⟨_, (true), (by first | rfl | (simp; done) | (simp [*]; done)), H', ⟨by first | omega | exact Nat.le_refl _⟩, ⟨by repeat (first | (with_reducible first | exact HB.out | apply below_alloc | apply pw_below_drewN | apply below_drew1) | exact HB.out)⟩⟩
            · rw [if_neg c9] at H
              have c9b0 : (t186 == ((((⟨#[34]⟩ : ByteArray) ++ a0) ++ (⟨#[34]⟩ : ByteArray)).size : Int)) = false := beq_eq_false_iff_ne.mpr c9
              have c9b7 : (t186 == 1 + (a0.size : Int) + 1) = false := beq_eq_false_iff_ne.mpr (fun h_ => c9 (by rw [h_, ByteArray.size_append, ByteArray.size_append]; show 1 + (a0.size : Int) + 1 = ((1 + a0.size + 1 : Nat) : Int); omega))
              have c9b8 : (t186 != 1 + (a0.size : Int) + 1) = true := bne_iff_ne.mpr (fun h_ => c9 (by rw [h_, ByteArray.size_append, ByteArray.size_append]; show 1 + (a0.size : Int) + 1 = ((1 + a0.size + 1 : Nat) : Int); omega))
              have c9b9 : (t186 = 1 + (a0.size : Int) + 1) = False := eq_false (fun h_ => c9 (by rw [h_, ByteArray.size_append, ByteArray.size_append]; show 1 + (a0.size : Int) + 1 = ((1 + a0.size + 1 : Nat) : Int); omega))
              have c9b1 : (t186 != ((((⟨#[34]⟩ : ByteArray) ++ a0) ++ (⟨#[34]⟩ : ByteArray)).size : Int)) = true := bne_iff_ne.mpr c9
              (first | rw [c9b0] | (simp only [i64_w, i32_w]; rw [c9b0]) | skip)
              have H' := Aside0.mk H
              clear H
              go_wp2
              go_meet
              case rel => exact ⟨_, (true), (by first | rfl | (simp; done) | (simp [*]; done)), H', ⟨by first | omega | exact Nat.le_refl _⟩, ⟨by repeat (first | (with_reducible first | exact HB.out | apply below_alloc | apply pw_below_drewN | apply below_drew1) | exact HB.out)⟩⟩
          · replace c8 := Bool.eq_false_iff.mpr c8
            subst c8
            have H1 : (laws_FnGjUnescape.j0 k a0 (((⟨#[34]⟩ : ByteArray) ++ a0) ++ (⟨#[34]⟩ : ByteArray)) true) = some r := by rw [if_neg (show ¬ (false = true) by decide)] at H; exact H
            clear H
            have H := H1
            clear H1
            have H' := Aside0.mk H
            clear H
            go_wp2
            go_meet
            case rel => exact ⟨_, (true), (by first | rfl | (simp; done) | (simp [*]; done)), H', ⟨by first | omega | exact Nat.le_refl _⟩, ⟨by repeat (first | (with_reducible first | exact HB.out | apply below_alloc | apply pw_below_drewN | apply below_drew1) | exact HB.out)⟩⟩
        case rest =>
          clear HC6
          try clear c1
          try clear c2
          try clear c2b0
          try clear c2b1
          try clear p2
          try clear c3
          try clear c3b0
          try clear c3b1
          try clear c3b2
          try clear c4
          try clear c4b0
          try clear c4b1
          try clear c4b2
          try clear c8
          try clear c9
          try clear c9b0
          try clear c9b1
          try clear c10
          try clear c10b0
          try clear c10b1
          try clear c12
          obtain ⟨kq, x39_5, rfl, HA, HJ5, HB⟩ := hcut
          cases kq with
          | zero => exact absurd HA.out (by simp [laws_FnGjUnescape.j0])
          | succ kj5 =>
            have H := HA.out
            clear HA
            simp only [laws_FnGjUnescape.j0] at H
            by_cases c14 : x39_5 = true
            · subst c14
              have H1 : (some true) = some r := by rw [if_pos rfl] at H; exact H
              clear H
              have H := H1
              clear H1
              obtain rfl := Option.some.inj H
              go_wp2
              go_ret
              exact ⟨by first | rfl | (simp [errW_none, errW_some] <;> rfl) | (simp [*, errW_none, errW_some] <;> rfl), by repeat (first | (with_reducible first | exact HB.out | apply below_alloc | apply pw_below_drewN | apply below_drew1) | exact HB.out)⟩
            · replace c14 := Bool.eq_false_iff.mpr c14
              subst c14
              have H1 : ((impl_GjUnescape.f kj5 a0).bind fun t190 => ((spec_Unquote.f kj5 (((⟨#[34]⟩ : ByteArray) ++ a0) ++ (⟨#[34]⟩ : ByteArray))).bind fun t191 => (some (t190.toList == t191.toList)))) = some r := by rw [if_neg (show ¬ (false = true) by decide)] at H; exact H
              clear H
              have H := H1
              clear H1
              replace H := Option.bind_eq_some_iff.mp H
              obtain ⟨t190, A150, H⟩ := H
              replace H : ((spec_Unquote.f kj5 (((⟨#[34]⟩ : ByteArray) ++ a0) ++ (⟨#[34]⟩ : ByteArray))).bind fun t191 => (some (t190.toList == t191.toList))) = some r := H
              have A15 := Aside0.mk A150
              clear A150
              replace H := Option.bind_eq_some_iff.mp H
              obtain ⟨t191, A160, H⟩ := H
              replace H : (some (t190.toList == t191.toList)) = some r := H
              have A16 := Aside0.mk A160
              clear A160
              obtain rfl := Option.some.inj H
              go_wp2_with (first | ((with_reducible refine gate_callee (f := 29) rfl ?_); refine goesL_ (some 41) rfl rfl Tryd.func29 (by kernel_rfl) rfl #[.string a0] rfl (by (try simp only [List.map_toArray, List.map_cons, List.map_nil]); first | done | rfl | (simp only [List.length_drop, List.length_take]; rfl)) ?_; (with_reducible refine (impl_GjUnescape.calls kj5 a0 t190 _ A15.out).mono ?_); rintro e w17 ⟨rfl, hb⟩; refine ⟨_, rfl, ?_⟩; have n0_ := Aside0.mk (below_step (by repeat (first | (with_reducible first | exact HB.out | apply below_alloc | apply pw_below_drewN | apply below_drew1) | exact HB.out)) hb); clear HB; have HB := n0_; clear n0_; (try clear hb); (try clear hb2); (try clear hk); (try clear hi)) | ((with_reducible refine gate_callee (f := 30) rfl ?_); refine goesL_ (some 43) rfl rfl Tryd.func30 (by kernel_rfl) rfl #[.string (((⟨#[34]⟩ : ByteArray) ++ a0) ++ (⟨#[34]⟩ : ByteArray))] rfl (by (try simp only [List.map_toArray, List.map_cons, List.map_nil]); first | done | rfl | (simp only [List.length_drop, List.length_take]; rfl)) ?_; (with_reducible refine (spec_Unquote.calls kj5 (((⟨#[34]⟩ : ByteArray) ++ a0) ++ (⟨#[34]⟩ : ByteArray)) t191 _ A16.out).mono ?_); rintro e w18 ⟨rfl, hb⟩; refine ⟨_, rfl, ?_⟩; have n0_ := Aside0.mk (below_step (by repeat (first | (with_reducible first | exact HB.out | apply below_alloc | apply pw_below_drewN | apply below_drew1) | exact HB.out)) hb); clear HB; have HB := n0_; clear n0_; (try clear hb); (try clear hb2); (try clear hk); (try clear hi)))
              go_ret
              exact ⟨by first | rfl | (simp [errW_none, errW_some] <;> rfl) | (simp [*, errW_none, errW_some] <;> rfl), by repeat (first | (with_reducible first | exact HB.out | apply below_alloc | apply pw_below_drewN | apply below_drew1) | exact HB.out)⟩
      · rw [if_neg c4] at H
        exact absurd H (by simp)
    · rw [if_neg c3] at H
      exact absurd H (by simp)

/-- THE ONE PURE STATEMENT of laws_FnGjUnescape: yours. -/
def laws_FnGjUnescape.Pure : Prop := ∀ (a0 : ByteArray), a0.size ≤ 140737488351232 → ∃ k, laws_FnGjUnescape.f k a0 = some true
theorem laws_FnGjUnescape.walk (P : laws_FnGjUnescape.Pure) (a0 : ByteArray) (w : World) (w0 : a0.size ≤ 140737488351232) :
    Calls Tryd.prog 9 #[.string a0] w fun e w' => e = .returned (.bool true) ∧ Below w.heap.size w w' := by
  obtain ⟨k, h⟩ := P a0 w0
  refine (laws_FnGjUnescape.calls k a0 true w h).mono ?_
  rintro e w' ⟨rfl, hd⟩
  exact ⟨rfl, hd⟩

end Go.Proofs.YtdllbnecbbggfaaDoor.XFnGjUnescape
