-- Written by xprint.py of this session (a program that runs the kit's print and adds to it); Lean checks it.
import Derived.Test.YtdllbnecbbggfaaDoorXFnMtUnlimitedx0
import Derived.Test.YtdllbnecbbggfaaDoorXFnMtUnlimitedx4
import Derived.Test.YtdllbnecbbggfaaDoorXFnMtUnlimitedx7
namespace Go.Proofs.YtdllbnecbbggfaaDoor.XFnMtUnlimited
open Go.RowKit Go.Proofs.YtdllbnecbbggfaaDoorW.PrintWords Go.Proofs.YtdllbnecbbggfaaDoorW.PrintLast Go.Proofs.YtdllbnecbbggfaaDoorW.PrintMore
attribute [local go_sem] max2_int min2_int max_two min_two max_three min_three max_four min_four   -- for this text's walks alone
set_option linter.unusedVariables false
set_option linter.unusedSimpArgs false

/-! ### match_MatchLimit: function 40 -/
def match_MatchLimit.f (k : Nat) (a0 : ByteArray) (a1 : ByteArray) (a2 : Int) : Option (Bool × Bool) := (match_matchLimit0.f k a0 a1 a2 false).bind fun bt157 => (some (bt157.1, bt157.2))
theorem match_MatchLimit.mono : ∀ a0 a1 a2 k, LeO (match_MatchLimit.f k a0 a1 a2) (match_MatchLimit.f (k + 1) a0 a1 a2) := by
  intro a0 a1 a2 k
  unfold match_MatchLimit.f
  repeat' first
      | (with_reducible exact match_matchLimit0.mono _ _ _ _ _)
      | (with_reducible exact LeO.refl _)
      | (with_reducible exact LeO.none _)
      | (with_reducible refine LeO.ite ?_ ?_)
      | (with_reducible refine LeO.bind ?_ (fun _ => ?_))
      | exact match_matchLimit0.mono _ _ _ _ _
      | exact LeO.none _
      | refine LeO.ite ?_ ?_
      | refine LeO.bind ?_ (fun _ => ?_)
set_option maxHeartbeats 8000000 in
set_option maxRecDepth 100000 in
theorem match_MatchLimit.calls (k : Nat) (a0 : ByteArray) (a1 : ByteArray) (a2 : Int) (r1 : Bool) (r2 : Bool) (w : World) (hG : Glob w) (h : match_MatchLimit.f k a0 a1 a2 = some (r1, r2)) :
    Calls Tryd.prog 40 #[.string a0, .string a1, .int .i64 a2] w fun e w' => e = .returned (.tuple #[.bool r1, .bool r2]) ∧ Below w.heap.size w w' := by
  have HG := Aside0.mk hG
  clear hG
  have HB := Aside0.mk (Below.refl w.heap.size w)
  have H : ((match_matchLimit0.f k a0 a1 a2 false).bind fun bt157 => (some (bt157.1, bt157.2))) = some (r1, r2) := h
  clear h
  replace H := Option.bind_eq_some_iff.mp H
  obtain ⟨⟨t157, t158⟩, A40, H⟩ := H
  replace H : (some (t157, t158)) = some (r1, r2) := H
  have A4 := Aside0.mk A40
  clear A40
  simp only [Option.some.injEq, Prod.mk.injEq] at H
  obtain ⟨rfl, rfl⟩ := H
  go_enter Tryd.func40, Tryd.ntmps40
  go_wp2_with (first | ((with_reducible refine gate_callee (f := 59) rfl ?_); refine goesL_ (some 11) rfl rfl Tryd.func59 (by kernel_rfl) rfl #[.string a0, .string a1, .int .i64 a2, .bool false] rfl (by (try simp only [List.map_toArray, List.map_cons, List.map_nil]); first | done | rfl | (simp only [List.length_drop, List.length_take]; rfl)) ?_; (with_reducible refine (match_matchLimit0.calls k a0 a1 a2 false t157 t158 _ ?side1 A4.out).mono ?_); (case side1 => exact Glob.below HG.out (by repeat (first | (with_reducible first | exact HB.out | apply below_alloc | apply pw_below_drewN | apply below_drew1) | exact HB.out))); rintro e w5 ⟨rfl, hb⟩; refine ⟨_, rfl, ?_⟩; have n0_ := Aside0.mk (below_step (by repeat (first | (with_reducible first | exact HB.out | apply below_alloc | apply pw_below_drewN | apply below_drew1) | exact HB.out)) hb); clear HB; have HB := n0_; clear n0_; (try clear hb); (try clear hb2); (try clear hk); (try clear hi)))
  go_ret2
  exact ⟨by first | rfl | (simp [errW_none, errW_some] <;> rfl) | (simp [*, errW_none, errW_some] <;> rfl), by repeat (first | (with_reducible first | exact HB.out | apply below_alloc | apply pw_below_drewN | apply below_drew1) | exact HB.out)⟩

/-! ### impl_MtLimit: function 23 -/
def impl_MtLimit.f (k : Nat) (a0 : ByteArray) (a1 : ByteArray) (a2 : Int) : Option (Bool × Bool) := (match_MatchLimit.f k a0 a1 a2).bind fun bt159 => (some (bt159.1, bt159.2))
theorem impl_MtLimit.mono : ∀ a0 a1 a2 k, LeO (impl_MtLimit.f k a0 a1 a2) (impl_MtLimit.f (k + 1) a0 a1 a2) := by
  intro a0 a1 a2 k
  unfold impl_MtLimit.f
  repeat' first
      | (with_reducible exact match_MatchLimit.mono _ _ _ _)
      | (with_reducible exact LeO.refl _)
      | (with_reducible exact LeO.none _)
      | (with_reducible refine LeO.ite ?_ ?_)
      | (with_reducible refine LeO.bind ?_ (fun _ => ?_))
      | exact match_MatchLimit.mono _ _ _ _
      | exact LeO.none _
      | refine LeO.ite ?_ ?_
      | refine LeO.bind ?_ (fun _ => ?_)
set_option maxHeartbeats 8000000 in
set_option maxRecDepth 100000 in
theorem impl_MtLimit.calls (k : Nat) (a0 : ByteArray) (a1 : ByteArray) (a2 : Int) (r1 : Bool) (r2 : Bool) (w : World) (hG : Glob w) (h : impl_MtLimit.f k a0 a1 a2 = some (r1, r2)) :
    Calls Tryd.prog 23 #[.string a0, .string a1, .int .i64 a2] w fun e w' => e = .returned (.tuple #[.bool r1, .bool r2]) ∧ Below w.heap.size w w' := by
  have HG := Aside0.mk hG
  clear hG
  have HB := Aside0.mk (Below.refl w.heap.size w)
  have H : ((match_MatchLimit.f k a0 a1 a2).bind fun bt159 => (some (bt159.1, bt159.2))) = some (r1, r2) := h
  clear h
  replace H := Option.bind_eq_some_iff.mp H
  obtain ⟨⟨t159, t160⟩, A40, H⟩ := H
  replace H : (some (t159, t160)) = some (r1, r2) := H
  have A4 := Aside0.mk A40
  clear A40
  simp only [Option.some.injEq, Prod.mk.injEq] at H
  obtain ⟨rfl, rfl⟩ := H
  go_enter Tryd.func23, Tryd.ntmps23
  go_wp2_with (first | ((with_reducible refine gate_callee (f := 40) rfl ?_); refine goesL_ (some 11) rfl rfl Tryd.func40 (by kernel_rfl) rfl #[.string a0, .string a1, .int .i64 a2] rfl (by (try simp only [List.map_toArray, List.map_cons, List.map_nil]); first | done | rfl | (simp only [List.length_drop, List.length_take]; rfl)) ?_; (with_reducible refine (match_MatchLimit.calls k a0 a1 a2 t159 t160 _ ?side1 A4.out).mono ?_); (case side1 => exact Glob.below HG.out (by repeat (first | (with_reducible first | exact HB.out | apply below_alloc | apply pw_below_drewN | apply below_drew1) | exact HB.out))); rintro e w5 ⟨rfl, hb⟩; refine ⟨_, rfl, ?_⟩; have n0_ := Aside0.mk (below_step (by repeat (first | (with_reducible first | exact HB.out | apply below_alloc | apply pw_below_drewN | apply below_drew1) | exact HB.out)) hb); clear HB; have HB := n0_; clear n0_; (try clear hb); (try clear hb2); (try clear hk); (try clear hi)))
  go_ret2
  exact ⟨by first | rfl | (simp [errW_none, errW_some] <;> rfl) | (simp [*, errW_none, errW_some] <;> rfl), by repeat (first | (with_reducible first | exact HB.out | apply below_alloc | apply pw_below_drewN | apply below_drew1) | exact HB.out)⟩

/-! ### laws_FnMtUnlimited: function 7 -/
mutual
def laws_FnMtUnlimited.j0 : Nat → ByteArray → ByteArray → Int → Bool → Option (Bool)
  | 0, _, _, _, _ => none
  | k + 1, x0, x1, x2, x19 => if x19 = true then (some true) else ((laws_mtTold.f k x0 x1).bind fun bt161 => (laws_FnMtUnlimited.l0 k x0 x1 x2 bt161.1 bt161.2 0))
def laws_FnMtUnlimited.l0 : Nat → ByteArray → ByteArray → Int → Bool → Bool → Int → Option (Bool)
  | 0, _, _, _, _, _, _ => none
  | k + 1, x0, x1, x2, x7, x8, x9 => if x9 < (x1.size : Int) then (if x8 = true then (if 0 ≤ x9 then (laws_FnMtUnlimited.l0 k x0 x1 x2 x7 ((bt x1 x9) != 42) (wrap64 (x9 + 1))) else (none)) else (laws_FnMtUnlimited.l0 k x0 x1 x2 x7 false (wrap64 (x9 + 1)))) else (if x8 = true then (if x2 < 0 then (some true) else (if x2 > 1000000 then (some true) else ((impl_MtLimit.f k x0 x1 x2).bind fun bt163 => (if bt163.2 = true then (some false) else (some (bt163.1 == x7)))))) else (some true))
end
def laws_FnMtUnlimited.f (k : Nat) (a0 : ByteArray) (a1 : ByteArray) (a2 : Int) : Option (Bool) := if (a0.size : Int) > 2147483647 then (laws_FnMtUnlimited.j0 k a0 a1 a2 true) else (laws_FnMtUnlimited.j0 k a0 a1 a2 (decide ((a1.size : Int) > 2147483647)))
theorem laws_FnMtUnlimited.mono_l : ∀ k, (∀ y0 y1 y2 y3, LeO (laws_FnMtUnlimited.j0 k y0 y1 y2 y3) (laws_FnMtUnlimited.j0 (k + 1) y0 y1 y2 y3)) ∧ (∀ y0 y1 y2 y3 y4 y5, LeO (laws_FnMtUnlimited.l0 k y0 y1 y2 y3 y4 y5) (laws_FnMtUnlimited.l0 (k + 1) y0 y1 y2 y3 y4 y5))
  | 0 => ⟨fun _ _ _ _ r h => by simp [laws_FnMtUnlimited.j0] at h, fun _ _ _ _ _ _ r h => by simp [laws_FnMtUnlimited.l0] at h⟩
  | k + 1 => by
    obtain ⟨ih0, ih1⟩ := laws_FnMtUnlimited.mono_l k
    refine ⟨?_, ?_⟩
    · intro y0 y1 y2 y3
      unfold laws_FnMtUnlimited.j0
      repeat' first
      | (with_reducible exact ih0 _ _ _ _)
      | (with_reducible exact ih1 _ _ _ _ _ _)
      | (with_reducible exact impl_MtLimit.mono _ _ _ _)
      | (with_reducible exact laws_mtTold.mono _ _ _)
      | (with_reducible exact LeO.refl _)
      | (with_reducible exact LeO.none _)
      | (with_reducible refine LeO.ite ?_ ?_)
      | (with_reducible refine LeO.bind ?_ (fun _ => ?_))
      | exact ih0 _ _ _ _
      | exact ih1 _ _ _ _ _ _
      | exact impl_MtLimit.mono _ _ _ _
      | exact laws_mtTold.mono _ _ _
      | exact LeO.none _
      | refine LeO.ite ?_ ?_
      | refine LeO.bind ?_ (fun _ => ?_)
    · intro y0 y1 y2 y3 y4 y5
      unfold laws_FnMtUnlimited.l0
      repeat' first
      | (with_reducible exact ih0 _ _ _ _)
      | (with_reducible exact ih1 _ _ _ _ _ _)
      | (with_reducible exact impl_MtLimit.mono _ _ _ _)
      | (with_reducible exact laws_mtTold.mono _ _ _)
      | (with_reducible exact LeO.refl _)
      | (with_reducible exact LeO.none _)
      | (with_reducible refine LeO.ite ?_ ?_)
      | (with_reducible refine LeO.bind ?_ (fun _ => ?_))
      | exact ih0 _ _ _ _
      | exact ih1 _ _ _ _ _ _
      | exact impl_MtLimit.mono _ _ _ _
      | exact laws_mtTold.mono _ _ _
      | exact LeO.none _
      | refine LeO.ite ?_ ?_
      | refine LeO.bind ?_ (fun _ => ?_)
theorem laws_FnMtUnlimited.mono : ∀ a0 a1 a2 k, LeO (laws_FnMtUnlimited.f k a0 a1 a2) (laws_FnMtUnlimited.f (k + 1) a0 a1 a2) := by
  intro a0 a1 a2 k
  obtain ⟨ih0, ih1⟩ := laws_FnMtUnlimited.mono_l k
  unfold laws_FnMtUnlimited.f
  repeat' first
      | (with_reducible exact ih0 _ _ _ _)
      | (with_reducible exact ih1 _ _ _ _ _ _)
      | (with_reducible exact impl_MtLimit.mono _ _ _ _)
      | (with_reducible exact laws_mtTold.mono _ _ _)
      | (with_reducible exact LeO.refl _)
      | (with_reducible exact LeO.none _)
      | (with_reducible refine LeO.ite ?_ ?_)
      | (with_reducible refine LeO.bind ?_ (fun _ => ?_))
      | exact ih0 _ _ _ _
      | exact ih1 _ _ _ _ _ _
      | exact impl_MtLimit.mono _ _ _ _
      | exact laws_mtTold.mono _ _ _
      | exact LeO.none _
      | refine LeO.ite ?_ ?_
      | refine LeO.bind ?_ (fun _ => ?_)
set_option maxHeartbeats 8000000 in
set_option maxRecDepth 100000 in
theorem laws_FnMtUnlimited.calls (k : Nat) (a0 : ByteArray) (a1 : ByteArray) (a2 : Int) (r : Bool) (w : World) (hG : Glob w) (h : laws_FnMtUnlimited.f k a0 a1 a2 = some r) :
    Calls Tryd.prog 7 #[.string a0, .string a1, .int .i64 a2] w fun e w' => e = .returned (.bool r) ∧ Below w.heap.size w w' := by
  have HG := Aside0.mk hG
  clear hG
  have HB := Aside0.mk (Below.refl w.heap.size w)
  have H : (if (a0.size : Int) > 2147483647 then (laws_FnMtUnlimited.j0 k a0 a1 a2 true) else (laws_FnMtUnlimited.j0 k a0 a1 a2 (decide ((a1.size : Int) > 2147483647)))) = some r := h
  clear h
  have HC4 := Aside0.mk H
  clear H
  go_enter Tryd.func7, Tryd.ntmps7
  go_upto_region 1 with (fail)
  go_cut [19] (fun v19 wc => ∃ (kq : Nat) (x19_3 : Bool), v19 = .bool x19_3 ∧ Aside0 (laws_FnMtUnlimited.j0 kq a0 a1 a2 x19_3 = some r) ∧ Aside0 (kq ≤ k) ∧ Aside0 (Below w.heap.size w wc))
  case first =>
    have H := HC4.out
    clear HC4
    by_cases c5 : (a0.size : Int) > 2147483647
    · rw [if_pos c5] at H
      have c5b0 : decide (2147483647 < (a0.size : Int)) = true := decide_eq_true c5
      have c5b1 : decide (2147483647 < a0.size) = true := decide_eq_true (by omega)
      clear c5
      (first | rw [c5b0] | (simp only [i64_w, i32_w]; rw [c5b0]) | skip)
      have H' := Aside0.mk H
      clear H
      go_wp2
      go_meet
      case rel => exact ⟨_, (true), (by first | rfl | (simp; done) | (simp [*]; done)), H', ⟨by first | omega | exact Nat.le_refl _⟩, ⟨by repeat (first | (with_reducible first | exact HB.out | apply below_alloc | apply pw_below_drewN | apply below_drew1) | exact HB.out)⟩⟩
    · rw [if_neg c5] at H
      have c5b0 : decide (2147483647 < (a0.size : Int)) = false := decide_eq_false c5
      have c5b1 : decide (2147483647 < a0.size) = false := decide_eq_false (by omega)
      clear c5
      (first | rw [c5b0] | (simp only [i64_w, i32_w]; rw [c5b0]) | skip)
      have H' := Aside0.mk H
      clear H
      go_wp2
      go_meet
      case rel => exact ⟨_, (decide ((a1.size : Int) > 2147483647)), (by first | rfl | (simp; done) | (simp [*]; done)), H', ⟨by first | omega | exact Nat.le_refl _⟩, ⟨by repeat (first | (with_reducible first | exact HB.out | apply below_alloc | apply pw_below_drewN | apply below_drew1) | exact HB.out)⟩⟩
  case rest =>
    clear HC4
    try clear p2
    try clear c5
    try clear c5b0
    try clear c5b1
    obtain ⟨kq, x19_3, rfl, HA, HJ3, HB⟩ := hcut
    cases kq with
    | zero => exact absurd HA.out (by simp [laws_FnMtUnlimited.j0])
    | succ kj3 =>
      have H := HA.out
      clear HA
      simp only [laws_FnMtUnlimited.j0] at H
      by_cases c6 : x19_3 = true
      · subst c6
        have H1 : (some true) = some r := by rw [if_pos rfl] at H; exact H
        clear H
        have H := H1
        clear H1
        obtain rfl := Option.some.inj H
        go_wp2
        go_ret
        exact ⟨by first | rfl | (simp [errW_none, errW_some] <;> rfl) | (simp [*, errW_none, errW_some] <;> rfl), by repeat (first | (with_reducible first | exact HB.out | apply below_alloc | apply pw_below_drewN | apply below_drew1) | exact HB.out)⟩
      · replace c6 := Bool.eq_false_iff.mpr c6
        subst c6
        have H1 : ((laws_mtTold.f kj3 a0 a1).bind fun bt161 => (laws_FnMtUnlimited.l0 kj3 a0 a1 a2 bt161.1 bt161.2 0)) = some r := by rw [if_neg (show ¬ (false = true) by decide)] at H; exact H
        clear H
        have H := H1
        clear H1
        replace H := Option.bind_eq_some_iff.mp H
        obtain ⟨⟨t161, t162⟩, A70, H⟩ := H
        replace H : (laws_FnMtUnlimited.l0 kj3 a0 a1 a2 t161 t162 0) = some r := H
        have A7 := Aside0.mk A70
        clear A70
        have H' := Aside0.mk H
        clear H
        go_wp2_with (first | ((with_reducible refine gate_callee (f := 14) rfl ?_); refine goesL_ (some 23) rfl rfl Tryd.func14 (by kernel_rfl) rfl #[.string a0, .string a1] rfl (by (try simp only [List.map_toArray, List.map_cons, List.map_nil]); first | done | rfl | (simp only [List.length_drop, List.length_take]; rfl)) ?_; (with_reducible refine (laws_mtTold.calls kj3 a0 a1 t161 t162 _ A7.out).mono ?_); rintro e w8 ⟨rfl, hb⟩; refine ⟨_, rfl, ?_⟩; have n0_ := Aside0.mk (below_step (by repeat (first | (with_reducible first | exact HB.out | apply below_alloc | apply pw_below_drewN | apply below_drew1) | exact HB.out)) hb); clear HB; have HB := n0_; clear n0_; (try clear hb); (try clear hb2); (try clear hk); (try clear hi)))
        try simp only [Act.put, List.setIfInBounds_toArray, List.set_cons_succ, List.set_cons_zero]
        go_loopg [8, 9] kj3 (fun kq v8 v9 w' => ∃ (x8_2 : Bool) (x9_2 : Int), v8 = .bool x8_2 ∧ v9 = .int .i64 x9_2 ∧ Aside0 (laws_FnMtUnlimited.l0 kq a0 a1 a2 t161 x8_2 x9_2 = some r) ∧ Aside0 (kq ≤ kj3) ∧ Aside0 (Below w.heap.size w w'))
        case atStart => exact ⟨(t162), (0), (by first | rfl | (simp; done) | (simp [*]; done)), (by first | rfl | (simp; done) | (simp [*]; done)), H', ⟨Nat.le_refl _⟩, ⟨by repeat (first | (with_reducible first | exact HB.out | apply below_alloc | apply pw_below_drewN | apply below_drew1) | exact HB.out)⟩⟩
        case round =>
          clear H'
          try clear c1
          try clear p2
          try clear c5
          try clear c5b0
          try clear c5b1
          try clear c6
          try clear c7
          try clear p2
          obtain ⟨x8_2, x9_2, rfl, rfl, HA, HK2, HB⟩ := hrel
          cases gk with
          | zero => exact absurd HA.out (by simp [laws_FnMtUnlimited.l0])
          | succ k2 =>
            have H := HA.out
            clear HA
            simp only [laws_FnMtUnlimited.l0] at H
            by_cases c9 : x9_2 < (a1.size : Int)
            · rw [if_pos c9] at H
              have c9b0 : decide (x9_2 < (a1.size : Int)) = true := decide_eq_true c9
              clear c9
              by_cases c10 : x8_2 = true
              · subst c10
                have H1 : (if 0 ≤ x9_2 then (laws_FnMtUnlimited.l0 k2 a0 a1 a2 t161 ((bt a1 x9_2) != 42) (wrap64 (x9_2 + 1))) else (none)) = some r := by rw [if_pos rfl] at H; exact H
                clear H
                have H := H1
                clear H1
                by_cases c11 : 0 ≤ x9_2
                · rw [if_pos c11] at H
                  have c11b0 : decide (0 ≤ x9_2) = true := decide_eq_true c11
                  clear c11
                  have H' := Aside0.mk H
                  clear H
                  have p12 : 0 ≤ (x9_2 : Int) := of_decide_eq_true (by first | (with_reducible assumption) | assumption)
                  have q12 : x9_2 < (a1.size : Int) := of_decide_eq_true (by first | (with_reducible assumption) | assumption)
                  have hx12 := bt_at a1 x9_2
                  replace p12 := eq_true p12
                  replace q12 := eq_true q12
                  go_wp2
                  go_roundg k2
                  case measure => have := HJ3.out; have := HK2.out; omega
                  case rel => exact ⟨(((bt a1 x9_2) != 42)), (wrap64 (x9_2 + 1)), (by first | rfl | (simp; done) | (simp [*]; done)), (by first | rfl | (simp; done) | (simp [*]; done)), H', ⟨by have := HJ3.out; have := HK2.out; omega⟩, ⟨by repeat (first | (with_reducible first | exact HB.out | apply below_alloc | apply pw_below_drewN | apply below_drew1) | exact HB.out)⟩⟩
                · rw [if_neg c11] at H
                  exact absurd H (by simp)
              · replace c10 := Bool.eq_false_iff.mpr c10
                subst c10
                have H1 : (laws_FnMtUnlimited.l0 k2 a0 a1 a2 t161 false (wrap64 (x9_2 + 1))) = some r := by rw [if_neg (show ¬ (false = true) by decide)] at H; exact H
                clear H
                have H := H1
                clear H1
                have H' := Aside0.mk H
                clear H
                go_wp2
                go_roundg k2
                case measure => have := HJ3.out; have := HK2.out; omega
                case rel => exact ⟨(false), (wrap64 (x9_2 + 1)), (by first | rfl | (simp; done) | (simp [*]; done)), (by first | rfl | (simp; done) | (simp [*]; done)), H', ⟨by have := HJ3.out; have := HK2.out; omega⟩, ⟨by repeat (first | (with_reducible first | exact HB.out | apply below_alloc | apply pw_below_drewN | apply below_drew1) | exact HB.out)⟩⟩
            · rw [if_neg c9] at H
              have c9b0 : decide (x9_2 < (a1.size : Int)) = false := decide_eq_false c9
              clear c9
              by_cases c13 : x8_2 = true
              · subst c13
                have H1 : (if a2 < 0 then (some true) else (if a2 > 1000000 then (some true) else ((impl_MtLimit.f k2 a0 a1 a2).bind fun bt163 => (if bt163.2 = true then (some false) else (some (bt163.1 == t161)))))) = some r := by rw [if_pos rfl] at H; exact H
                clear H
                have H := H1
                clear H1
                by_cases c14 : a2 < 0
                · rw [if_pos c14] at H
                  have c14b0 : decide (a2 < 0) = true := decide_eq_true c14
                  clear c14
                  obtain rfl := Option.some.inj H
                  go_wp2
                  go_ret
                  exact ⟨by first | rfl | (simp [errW_none, errW_some] <;> rfl) | (simp [*, errW_none, errW_some] <;> rfl), by repeat (first | (with_reducible first | exact HB.out | apply below_alloc | apply pw_below_drewN | apply below_drew1) | exact HB.out)⟩
                · rw [if_neg c14] at H
                  have c14b0 : decide (a2 < 0) = false := decide_eq_false c14
                  clear c14
                  by_cases c15 : a2 > 1000000
                  · rw [if_pos c15] at H
                    have c15b0 : decide (1000000 < a2) = true := decide_eq_true c15
                    clear c15
                    obtain rfl := Option.some.inj H
                    go_wp2
                    go_ret
                    exact ⟨by first | rfl | (simp [errW_none, errW_some] <;> rfl) | (simp [*, errW_none, errW_some] <;> rfl), by repeat (first | (with_reducible first | exact HB.out | apply below_alloc | apply pw_below_drewN | apply below_drew1) | exact HB.out)⟩
                  · rw [if_neg c15] at H
                    have c15b0 : decide (1000000 < a2) = false := decide_eq_false c15
                    clear c15
                    replace H := Option.bind_eq_some_iff.mp H
                    obtain ⟨⟨t163, t164⟩, A160, H⟩ := H
                    replace H : (if t164 = true then (some false) else (some (t163 == t161))) = some r := H
                    have A16 := Aside0.mk A160
                    clear A160
                    by_cases c17 : t164 = true
                    · subst c17
                      have H1 : (some false) = some r := by rw [if_pos rfl] at H; exact H
                      clear H
                      have H := H1
                      clear H1
                      obtain rfl := Option.some.inj H
                      go_wp2_with (first | ((with_reducible refine gate_callee (f := 23) rfl ?_); refine goesL_ (some 53) rfl rfl Tryd.func23 (by kernel_rfl) rfl #[.string a0, .string a1, .int .i64 a2] rfl (by (try simp only [List.map_toArray, List.map_cons, List.map_nil]); first | done | rfl | (simp only [List.length_drop, List.length_take]; rfl)) ?_; (with_reducible refine (impl_MtLimit.calls k2 a0 a1 a2 t163 true _ ?side1 A16.out).mono ?_); (case side1 => exact Glob.below HG.out (by repeat (first | (with_reducible first | exact HB.out | apply below_alloc | apply pw_below_drewN | apply below_drew1) | exact HB.out))); rintro e w18 ⟨rfl, hb⟩; refine ⟨_, rfl, ?_⟩; have n0_ := Aside0.mk (below_step (by repeat (first | (with_reducible first | exact HB.out | apply below_alloc | apply pw_below_drewN | apply below_drew1) | exact HB.out)) hb); clear HB; have HB := n0_; clear n0_; (try clear hb); (try clear hb2); (try clear hk); (try clear hi)))
                      go_ret
                      exact ⟨by first | rfl | (simp [errW_none, errW_some] <;> rfl) | (simp [*, errW_none, errW_some] <;> rfl), by repeat (first | (with_reducible first | exact HB.out | apply below_alloc | apply pw_below_drewN | apply below_drew1) | exact HB.out)⟩
                    · replace c17 := Bool.eq_false_iff.mpr c17
                      subst c17
                      have H1 : (some (t163 == t161)) = some r := by rw [if_neg (show ¬ (false = true) by decide)] at H; exact H
                      clear H
                      have H := H1
                      clear H1
                      obtain rfl := Option.some.inj H
                      go_wp2_with (first | ((with_reducible refine gate_callee (f := 23) rfl ?_); refine goesL_ (some 53) rfl rfl Tryd.func23 (by kernel_rfl) rfl #[.string a0, .string a1, .int .i64 a2] rfl (by (try simp only [List.map_toArray, List.map_cons, List.map_nil]); first | done | rfl | (simp only [List.length_drop, List.length_take]; rfl)) ?_; (with_reducible refine (impl_MtLimit.calls k2 a0 a1 a2 t163 false _ ?side1 A16.out).mono ?_); (case side1 => exact Glob.below HG.out (by repeat (first | (with_reducible first | exact HB.out | apply below_alloc | apply pw_below_drewN | apply below_drew1) | exact HB.out))); rintro e w19 ⟨rfl, hb⟩; refine ⟨_, rfl, ?_⟩; have n0_ := Aside0.mk (below_step (by repeat (first | (with_reducible first | exact HB.out | apply below_alloc | apply pw_below_drewN | apply below_drew1) | exact HB.out)) hb); clear HB; have HB := n0_; clear n0_; (try clear hb); (try clear hb2); (try clear hk); (try clear hi)))
                      go_ret
                      exact ⟨by first | rfl | (simp [errW_none, errW_some] <;> rfl) | (simp [*, errW_none, errW_some] <;> rfl), by repeat (first | (with_reducible first | exact HB.out | apply below_alloc | apply pw_below_drewN | apply below_drew1) | exact HB.out)⟩
              · replace c13 := Bool.eq_false_iff.mpr c13
                subst c13
                have H1 : (some true) = some r := by rw [if_neg (show ¬ (false = true) by decide)] at H; exact H
                clear H
                have H := H1
                clear H1
                obtain rfl := Option.some.inj H
                go_wp2
                go_ret
                exact ⟨by first | rfl | (simp [errW_none, errW_some] <;> rfl) | (simp [*, errW_none, errW_some] <;> rfl), by repeat (first | (with_reducible first | exact HB.out | apply below_alloc | apply pw_below_drewN | apply below_drew1) | exact HB.out)⟩

/-- THE ONE PURE STATEMENT of laws_FnMtUnlimited: yours. -/
def laws_FnMtUnlimited.Pure : Prop := ∀ (a0 : ByteArray) (a1 : ByteArray) (a2 : Int), a0.size ≤ 140737488351232 → a1.size ≤ 140737488351232 → (Lit.int .i64 a2).wf = true → ∃ k, laws_FnMtUnlimited.f k a0 a1 a2 = some true
theorem laws_FnMtUnlimited.walk (P : laws_FnMtUnlimited.Pure) (a0 : ByteArray) (a1 : ByteArray) (a2 : Int) (w : World) (w0 : a0.size ≤ 140737488351232) (w1 : a1.size ≤ 140737488351232) (w2 : (Lit.int .i64 a2).wf = true) (hG : Glob w) :
    Calls Tryd.prog 7 #[.string a0, .string a1, .int .i64 a2] w fun e w' => e = .returned (.bool true) ∧ Below w.heap.size w w' := by
  obtain ⟨k, h⟩ := P a0 a1 a2 w0 w1 w2
  refine (laws_FnMtUnlimited.calls k a0 a1 a2 true w hG h).mono ?_
  rintro e w' ⟨rfl, hd⟩
  exact ⟨rfl, hd⟩

end Go.Proofs.YtdllbnecbbggfaaDoor.XFnMtUnlimited
