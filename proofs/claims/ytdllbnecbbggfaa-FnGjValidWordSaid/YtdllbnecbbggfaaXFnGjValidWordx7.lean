-- Written by xprint.py of this session (a program that runs the kit's print and adds to it); Lean checks it.
import Derived.Test.YtdllbnecbbggfaaXFnGjValidWordx0
import Derived.Test.YtdllbnecbbggfaaXFnGjValidWordx6
namespace Go.Proofs.Ytdllbnecbbggfaa.XFnGjValidWord
open Go.RowKit Go.Proofs.YtdllbnecbbggfaaW.PrintWords Go.Proofs.YtdllbnecbbggfaaW.PrintLast Go.Proofs.YtdllbnecbbggfaaW.PrintMore
attribute [local go_sem] max2_int min2_int max_two min_two max_three min_three max_four min_four   -- for this text's walks alone
set_option linter.unusedVariables false
set_option linter.unusedSimpArgs false

/-! ### impl_GjValid: function 13 -/
def impl_GjValid.f (k : Nat) (a0 : ByteArray) : Option (Bool) := (gjson_Valid.f k a0).bind fun t137 => (some t137)
theorem impl_GjValid.mono : ∀ a0 k, LeO (impl_GjValid.f k a0) (impl_GjValid.f (k + 1) a0) := by
  intro a0 k
  unfold impl_GjValid.f
  repeat' first
      | (with_reducible exact gjson_Valid.mono _ _)
      | (with_reducible exact LeO.refl _)
      | (with_reducible exact LeO.none _)
      | (with_reducible refine LeO.ite ?_ ?_)
      | (with_reducible refine LeO.bind ?_ (fun _ => ?_))
      | exact gjson_Valid.mono _ _
      | exact LeO.none _
      | refine LeO.ite ?_ ?_
      | refine LeO.bind ?_ (fun _ => ?_)
set_option maxHeartbeats 8000000 in
set_option maxRecDepth 100000 in
theorem impl_GjValid.calls (k : Nat) (a0 : ByteArray) (r : Bool) (w : World) (h : impl_GjValid.f k a0 = some r) :
    Calls Try.prog 13 #[.string a0] w fun e w' => e = .returned (.bool r) ∧ Below w.heap.size w w' := by
  have HB := Aside0.mk (Below.refl w.heap.size w)
  have H : ((gjson_Valid.f k a0).bind fun t137 => (some t137)) = some r := h
  clear h
  replace H := Option.bind_eq_some_iff.mp H
  obtain ⟨t137, A20, H⟩ := H
  replace H : (some t137) = some r := H
  have A2 := Aside0.mk A20
  clear A20
  obtain rfl := Option.some.inj H
  go_enter Try.func13, Try.ntmps13
  go_wp2_with (first | ((with_reducible refine gate_callee (f := 23) rfl ?_); refine goesL_ (some 4) rfl rfl Try.func23 (by kernel_rfl) rfl #[.string a0] rfl (by (try simp only [List.map_toArray, List.map_cons, List.map_nil]); first | done | rfl | (simp only [List.length_drop, List.length_take]; rfl)) ?_; (with_reducible refine (gjson_Valid.calls k a0 t137 _ A2.out).mono ?_); rintro e w3 ⟨rfl, hb⟩; refine ⟨_, rfl, ?_⟩; have n0_ := Aside0.mk (below_step (by repeat (first | (with_reducible first | exact HB.out | apply below_alloc | apply pw_below_drewN | apply below_drew1) | exact HB.out)) hb); clear HB; have HB := n0_; clear n0_; (try clear hb); (try clear hb2); (try clear hk); (try clear hi)))
  go_ret
  exact ⟨by first | rfl | (simp [errW_none, errW_some] <;> rfl) | (simp [*, errW_none, errW_some] <;> rfl), by repeat (first | (with_reducible first | exact HB.out | apply below_alloc | apply pw_below_drewN | apply below_drew1) | exact HB.out)⟩

/-! ### laws_FnGjValidWord: function 6 -/
def laws_FnGjValidWord.l0 : Nat → ByteArray → Int → Option (Bool)
  | 0, _, _ => none
  | k + 1, x0, x3 => if x3 < (x0.size : Int) then (if 0 ≤ x3 then (if (Go.bits .or .u8 (bt x0 x3) 32) < 97 then (some true) else (if (Go.bits .or .u8 (bt x0 x3) 32) > 122 then (some true) else (laws_FnGjValidWord.l0 k x0 (wrap64 (x3 + 1))))) else (none)) else (if x0.toList = ([116, 114, 117, 101] : List UInt8) then (if (x0.size : Int) > 4096 then (some true) else (if x0.toList = ([] : List UInt8) then (some true) else ((impl_GjValid.f k x0).bind fun t138 => (if (t138 == true) = true then (if 3 + x0.size ≤ 9223372036854775807 then (if ((⟨#[91, 49, 44]⟩ : ByteArray) ++ x0).size + 2 ≤ 9223372036854775807 then ((impl_GjValid.f k (((⟨#[91, 49, 44]⟩ : ByteArray) ++ x0) ++ (⟨#[32, 93]⟩ : ByteArray))).bind fun t139 => (some (t139 == true))) else (none)) else (none)) else (some false))))) else (if x0.toList = ([102, 97, 108, 115, 101] : List UInt8) then (if (x0.size : Int) > 4096 then (some true) else (if x0.toList = ([] : List UInt8) then (some true) else ((impl_GjValid.f k x0).bind fun t140 => (if (t140 == true) = true then (if 3 + x0.size ≤ 9223372036854775807 then (if ((⟨#[91, 49, 44]⟩ : ByteArray) ++ x0).size + 2 ≤ 9223372036854775807 then ((impl_GjValid.f k (((⟨#[91, 49, 44]⟩ : ByteArray) ++ x0) ++ (⟨#[32, 93]⟩ : ByteArray))).bind fun t141 => (some (t141 == true))) else (none)) else (none)) else (some false))))) else (if (x0.size : Int) > 4096 then (some true) else (if x0.toList = ([] : List UInt8) then (some true) else ((impl_GjValid.f k x0).bind fun t142 => (if (t142 == (x0.toList == ([110, 117, 108, 108] : List UInt8))) = true then (if 3 + x0.size ≤ 9223372036854775807 then (if ((⟨#[91, 49, 44]⟩ : ByteArray) ++ x0).size + 2 ≤ 9223372036854775807 then ((impl_GjValid.f k (((⟨#[91, 49, 44]⟩ : ByteArray) ++ x0) ++ (⟨#[32, 93]⟩ : ByteArray))).bind fun t143 => (some (t143 == (x0.toList == ([110, 117, 108, 108] : List UInt8))))) else (none)) else (none)) else (some false)))))))
def laws_FnGjValidWord.f (k : Nat) (a0 : ByteArray) : Option (Bool) := if (a0.size : Int) > 2147483647 then (some true) else (laws_FnGjValidWord.l0 k a0 0)
theorem laws_FnGjValidWord.mono_l : ∀ k, (∀ y0 y1, LeO (laws_FnGjValidWord.l0 k y0 y1) (laws_FnGjValidWord.l0 (k + 1) y0 y1))
  | 0 => fun _ _ r h => by simp [laws_FnGjValidWord.l0] at h
  | k + 1 => by
    have ih0 := laws_FnGjValidWord.mono_l k
    · intro y0 y1
      unfold laws_FnGjValidWord.l0
      repeat' first
      | (with_reducible exact ih0 _ _)
      | (with_reducible exact impl_GjValid.mono _ _)
      | (with_reducible exact LeO.refl _)
      | (with_reducible exact LeO.none _)
      | (with_reducible refine LeO.ite ?_ ?_)
      | (with_reducible refine LeO.bind ?_ (fun _ => ?_))
      | exact ih0 _ _
      | exact impl_GjValid.mono _ _
      | exact LeO.none _
      | refine LeO.ite ?_ ?_
      | refine LeO.bind ?_ (fun _ => ?_)
theorem laws_FnGjValidWord.mono : ∀ a0 k, LeO (laws_FnGjValidWord.f k a0) (laws_FnGjValidWord.f (k + 1) a0) := by
  intro a0 k
  have ih0 := laws_FnGjValidWord.mono_l k
  unfold laws_FnGjValidWord.f
  repeat' first
      | (with_reducible exact ih0 _ _)
      | (with_reducible exact impl_GjValid.mono _ _)
      | (with_reducible exact LeO.refl _)
      | (with_reducible exact LeO.none _)
      | (with_reducible refine LeO.ite ?_ ?_)
      | (with_reducible refine LeO.bind ?_ (fun _ => ?_))
      | exact ih0 _ _
      | exact impl_GjValid.mono _ _
      | exact LeO.none _
      | refine LeO.ite ?_ ?_
      | refine LeO.bind ?_ (fun _ => ?_)
set_option maxHeartbeats 8000000 in
set_option maxRecDepth 100000 in
theorem laws_FnGjValidWord.calls (k : Nat) (a0 : ByteArray) (r : Bool) (w : World) (h : laws_FnGjValidWord.f k a0 = some r) :
    Calls Try.prog 6 #[.string a0] w fun e w' => e = .returned (.bool r) ∧ Below w.heap.size w w' := by
  have HB := Aside0.mk (Below.refl w.heap.size w)
  have H : (if (a0.size : Int) > 2147483647 then (some true) else (laws_FnGjValidWord.l0 k a0 0)) = some r := h
  clear h
  by_cases c2 : (a0.size : Int) > 2147483647
  · rw [if_pos c2] at H
    have c2b0 : decide (2147483647 < (a0.size : Int)) = true := decide_eq_true c2
    have c2b1 : decide (2147483647 < a0.size) = true := decide_eq_true (by omega)
    clear c2
    obtain rfl := Option.some.inj H
    go_enter Try.func6, Try.ntmps6
    go_wp2
    go_ret
    exact ⟨by first | rfl | (simp [errW_none, errW_some] <;> rfl) | (simp [*, errW_none, errW_some] <;> rfl), by repeat (first | (with_reducible first | exact HB.out | apply below_alloc | apply pw_below_drewN | apply below_drew1) | exact HB.out)⟩
  · rw [if_neg c2] at H
    have c2b0 : decide (2147483647 < (a0.size : Int)) = false := decide_eq_false c2
    have c2b1 : decide (2147483647 < a0.size) = false := decide_eq_false (by omega)
    clear c2
    have H' := Aside0.mk H
    clear H
    go_enter Try.func6, Try.ntmps6
    go_wp2
    go_loopg [3] k (fun kq v3 w' => ∃ (x3_1 : Int), v3 = .int .i64 x3_1 ∧ Aside0 (laws_FnGjValidWord.l0 kq a0 x3_1 = some r) ∧ Aside0 (kq ≤ k) ∧ Aside0 (Below w.heap.size w w'))
    case atStart => exact ⟨(0), (by first | rfl | (simp; done) | (simp [*]; done)), H', ⟨Nat.le_refl _⟩, ⟨by repeat (first | (with_reducible first | exact HB.out | apply below_alloc | apply pw_below_drewN | apply below_drew1) | exact HB.out)⟩⟩
    case round =>
      clear H'
      try clear c2
      try clear c2b0
      try clear c2b1
      try clear p2
      obtain ⟨x3_1, rfl, HA, HK1, HB⟩ := hrel
      cases gk with
      | zero => exact absurd HA.out (by simp [laws_FnGjValidWord.l0])
      | succ k1 =>
        have H := HA.out
        clear HA
        simp only [laws_FnGjValidWord.l0] at H
        by_cases c3 : x3_1 < (a0.size : Int)
        · rw [if_pos c3] at H
          have c3b0 : decide (x3_1 < (a0.size : Int)) = true := decide_eq_true c3
          clear c3
          by_cases c4 : 0 ≤ x3_1
          · rw [if_pos c4] at H
            have c4b0 : decide (0 ≤ x3_1) = true := decide_eq_true c4
            clear c4
            by_cases c6 : (Go.bits .or .u8 (bt a0 x3_1) 32) < 97
            · rw [if_pos c6] at H
              have c6b0 : decide ((Go.bits .or .u8 (bt a0 x3_1) 32) < 97) = true := decide_eq_true c6
              clear c6
              obtain rfl := Option.some.inj H
              have p5 : 0 ≤ (x3_1 : Int) := of_decide_eq_true (by first | (with_reducible assumption) | assumption)
              have q5 : x3_1 < (a0.size : Int) := of_decide_eq_true (by first | (with_reducible assumption) | assumption)
              have hx5 := bt_at a0 x3_1
              replace p5 := eq_true p5
              replace q5 := eq_true q5
              go_wp2
              go_ret
              exact ⟨by first | rfl | (simp [errW_none, errW_some] <;> rfl) | (simp [*, errW_none, errW_some] <;> rfl), by repeat (first | (with_reducible first | exact HB.out | apply below_alloc | apply pw_below_drewN | apply below_drew1) | exact HB.out)⟩
            · rw [if_neg c6] at H
              have c6b0 : decide ((Go.bits .or .u8 (bt a0 x3_1) 32) < 97) = false := decide_eq_false c6
              clear c6
              by_cases c7 : (Go.bits .or .u8 (bt a0 x3_1) 32) > 122
              · rw [if_pos c7] at H
                have c7b0 : decide (122 < (Go.bits .or .u8 (bt a0 x3_1) 32)) = true := decide_eq_true c7
                clear c7
                obtain rfl := Option.some.inj H
                have p5 : 0 ≤ (x3_1 : Int) := of_decide_eq_true (by first | (with_reducible assumption) | assumption)
                have q5 : x3_1 < (a0.size : Int) := of_decide_eq_true (by first | (with_reducible assumption) | assumption)
                have hx5 := bt_at a0 x3_1
                replace p5 := eq_true p5
                replace q5 := eq_true q5
                go_wp2
                go_ret
                exact ⟨by first | rfl | (simp [errW_none, errW_some] <;> rfl) | (simp [*, errW_none, errW_some] <;> rfl), by repeat (first | (with_reducible first | exact HB.out | apply below_alloc | apply pw_below_drewN | apply below_drew1) | exact HB.out)⟩
              · rw [if_neg c7] at H
                have c7b0 : decide (122 < (Go.bits .or .u8 (bt a0 x3_1) 32)) = false := decide_eq_false c7
                clear c7
                have H' := Aside0.mk H
                clear H
                have p5 : 0 ≤ (x3_1 : Int) := of_decide_eq_true (by first | (with_reducible assumption) | assumption)
                have q5 : x3_1 < (a0.size : Int) := of_decide_eq_true (by first | (with_reducible assumption) | assumption)
                have hx5 := bt_at a0 x3_1
                replace p5 := eq_true p5
                replace q5 := eq_true q5
                go_wp2
                go_roundg k1
                case measure => have := HK1.out; omega
                case rel => exact ⟨(wrap64 (x3_1 + 1)), (by first | rfl | (simp; done) | (simp [*]; done)), H', ⟨by have := HK1.out; omega⟩, ⟨by repeat (first | (with_reducible first | exact HB.out | apply below_alloc | apply pw_below_drewN | apply below_drew1) | exact HB.out)⟩⟩
          · rw [if_neg c4] at H
            exact absurd H (by simp)
        · rw [if_neg c3] at H
          have c3b0 : decide (x3_1 < (a0.size : Int)) = false := decide_eq_false c3
          clear c3
          by_cases c8 : a0.toList = ([116, 114, 117, 101] : List UInt8)
          · rw [if_pos c8] at H
            have c8b0 : (a0.toList == ([116, 114, 117, 101] : List UInt8)) = true := beq_iff_eq.mpr c8
            have c8b1 : (a0.toList != ([116, 114, 117, 101] : List UInt8)) = false := bne_eq_false_iff_eq.mpr c8
            clear c8
            by_cases c9 : (a0.size : Int) > 4096
            · rw [if_pos c9] at H
              have c9b0 : decide (4096 < (a0.size : Int)) = true := decide_eq_true c9
              have c9b1 : decide (4096 < a0.size) = true := decide_eq_true (by omega)
              clear c9
              obtain rfl := Option.some.inj H
              go_wp2
              go_ret
              exact ⟨by first | rfl | (simp [errW_none, errW_some] <;> rfl) | (simp [*, errW_none, errW_some] <;> rfl), by repeat (first | (with_reducible first | exact HB.out | apply below_alloc | apply pw_below_drewN | apply below_drew1) | exact HB.out)⟩
            · rw [if_neg c9] at H
              have c9b0 : decide (4096 < (a0.size : Int)) = false := decide_eq_false c9
              have c9b1 : decide (4096 < a0.size) = false := decide_eq_false (by omega)
              clear c9
              by_cases c10 : a0.toList = ([] : List UInt8)
              · rw [if_pos c10] at H
                have c10b0 : (a0.toList == ([] : List UInt8)) = true := beq_iff_eq.mpr c10
                have c10b1 : (a0.toList != ([] : List UInt8)) = false := bne_eq_false_iff_eq.mpr c10
                clear c10
                obtain rfl := Option.some.inj H
                go_wp2
                go_ret
                exact ⟨by first | rfl | (simp [errW_none, errW_some] <;> rfl) | (simp [*, errW_none, errW_some] <;> rfl), by repeat (first | (with_reducible first | exact HB.out | apply below_alloc | apply pw_below_drewN | apply below_drew1) | exact HB.out)⟩
              · rw [if_neg c10] at H
                have c10b0 : (a0.toList == ([] : List UInt8)) = false := beq_eq_false_iff_ne.mpr c10
                have c10b1 : (a0.toList != ([] : List UInt8)) = true := bne_iff_ne.mpr c10
                replace H := Option.bind_eq_some_iff.mp H
                obtain ⟨t138, A110, H⟩ := H
                replace H : (if (t138 == true) = true then (if 3 + a0.size ≤ 9223372036854775807 then (if ((⟨#[91, 49, 44]⟩ : ByteArray) ++ a0).size + 2 ≤ 9223372036854775807 then ((impl_GjValid.f k1 (((⟨#[91, 49, 44]⟩ : ByteArray) ++ a0) ++ (⟨#[32, 93]⟩ : ByteArray))).bind fun t139 => (some (t139 == true))) else (none)) else (none)) else (some false)) = some r := H
                have A11 := Aside0.mk A110
                clear A110
                by_cases c12 : (t138 == true) = true
                · rw [if_pos c12] at H
                  have c12b0 : (t138 == true) = true := c12
                  (try (have c12b1 : decide (t138 = true) = true := by simpa using c12))
                  (try (have c12b2 : (t138 == true) = true := by simpa using c12))
                  clear c12
                  by_cases c13 : 3 + a0.size ≤ 9223372036854775807
                  · rw [if_pos c13] at H
                    have c13b0 := eq_true c13
                    have c13b1 : decide (3 + a0.size ≤ 9223372036854775807) = true := decide_eq_true c13
                    try have c13b2 : (9223372036854775807 < 3 + a0.size) = False := eq_false (Nat.not_lt.2 c13)
                    by_cases c14 : ((⟨#[91, 49, 44]⟩ : ByteArray) ++ a0).size + 2 ≤ 9223372036854775807
                    · rw [if_pos c14] at H
                      have c14b0 := eq_true c14
                      try (have c14b7 : 3 + a0.size + 2 ≤ 9223372036854775807 := by (have h_ := c14; simp only [ByteArray.size_append] at h_; exact h_))
                      have c14b1 : decide (((⟨#[91, 49, 44]⟩ : ByteArray) ++ a0).size + 2 ≤ 9223372036854775807) = true := decide_eq_true c14
                      try have c14b2 : (9223372036854775807 < ((⟨#[91, 49, 44]⟩ : ByteArray) ++ a0).size + 2) = False := eq_false (Nat.not_lt.2 c14)
                      replace H := Option.bind_eq_some_iff.mp H
                      obtain ⟨t139, A150, H⟩ := H
                      replace H : (some (t139 == true)) = some r := H
                      have A15 := Aside0.mk A150
                      clear A150
                      obtain rfl := Option.some.inj H
                      go_wp2_with (first | (go_at_call 13; (with_reducible refine (impl_GjValid.calls k1 a0 t138 _ A11.out).mono ?_); rintro e w16 ⟨rfl, hb⟩; have n0_ := Aside0.mk (below_step (by repeat (first | (with_reducible first | exact HB.out | apply below_alloc | apply pw_below_drewN | apply below_drew1) | exact HB.out)) hb); clear HB; have HB := n0_; clear n0_; (try clear hb); (try clear hb2); (try clear hk); (try clear hi)) | (go_at_call 13; (with_reducible refine (impl_GjValid.calls k1 (((⟨#[91, 49, 44]⟩ : ByteArray) ++ a0) ++ (⟨#[32, 93]⟩ : ByteArray)) t139 _ A15.out).mono ?_); rintro e w17 ⟨rfl, hb⟩; have n0_ := Aside0.mk (below_step (by repeat (first | (with_reducible first | exact HB.out | apply below_alloc | apply pw_below_drewN | apply below_drew1) | exact HB.out)) hb); clear HB; have HB := n0_; clear n0_; (try clear hb); (try clear hb2); (try clear hk); (try clear hi)))
                      go_ret
                      exact ⟨by first | rfl | (simp [errW_none, errW_some] <;> rfl) | (simp [*, errW_none, errW_some] <;> rfl), by repeat (first | (with_reducible first | exact HB.out | apply below_alloc | apply pw_below_drewN | apply below_drew1) | exact HB.out)⟩
                    · rw [if_neg c14] at H
                      exact absurd H (by simp)
                  · rw [if_neg c13] at H
                    exact absurd H (by simp)
                · rw [if_neg c12] at H
                  have c12b0 : (t138 == true) = false := by simpa using c12
                  (try (have c12b1 : decide (t138 = true) = false := by simpa using c12))
                  (try (have c12b2 : (t138 == true) = false := by simpa using c12))
                  (try (have c12b3 : ¬ (t138 = true) := by simpa using c12))
                  clear c12
                  obtain rfl := Option.some.inj H
                  go_wp2_with (first | (go_at_call 13; (with_reducible refine (impl_GjValid.calls k1 a0 t138 _ A11.out).mono ?_); rintro e w18 ⟨rfl, hb⟩; have n0_ := Aside0.mk (below_step (by repeat (first | (with_reducible first | exact HB.out | apply below_alloc | apply pw_below_drewN | apply below_drew1) | exact HB.out)) hb); clear HB; have HB := n0_; clear n0_; (try clear hb); (try clear hb2); (try clear hk); (try clear hi)))
                  go_ret
                  exact ⟨by first | rfl | (simp [errW_none, errW_some] <;> rfl) | (simp [*, errW_none, errW_some] <;> rfl), by repeat (first | (with_reducible first | exact HB.out | apply below_alloc | apply pw_below_drewN | apply below_drew1) | exact HB.out)⟩
          · rw [if_neg c8] at H
            have c8b0 : (a0.toList == ([116, 114, 117, 101] : List UInt8)) = false := beq_eq_false_iff_ne.mpr c8
            have c8b1 : (a0.toList != ([116, 114, 117, 101] : List UInt8)) = true := bne_iff_ne.mpr c8
            by_cases c19 : a0.toList = ([102, 97, 108, 115, 101] : List UInt8)
            · rw [if_pos c19] at H
              have c19b0 : (a0.toList == ([102, 97, 108, 115, 101] : List UInt8)) = true := beq_iff_eq.mpr c19
              have c19b1 : (a0.toList != ([102, 97, 108, 115, 101] : List UInt8)) = false := bne_eq_false_iff_eq.mpr c19
              clear c19
              by_cases c20 : (a0.size : Int) > 4096
              · rw [if_pos c20] at H
                have c20b0 : decide (4096 < (a0.size : Int)) = true := decide_eq_true c20
                have c20b1 : decide (4096 < a0.size) = true := decide_eq_true (by omega)
                clear c20
                obtain rfl := Option.some.inj H
                go_wp2
                go_ret
                exact ⟨by first | rfl | (simp [errW_none, errW_some] <;> rfl) | (simp [*, errW_none, errW_some] <;> rfl), by repeat (first | (with_reducible first | exact HB.out | apply below_alloc | apply pw_below_drewN | apply below_drew1) | exact HB.out)⟩
              · rw [if_neg c20] at H
                have c20b0 : decide (4096 < (a0.size : Int)) = false := decide_eq_false c20
                have c20b1 : decide (4096 < a0.size) = false := decide_eq_false (by omega)
                clear c20
                by_cases c21 : a0.toList = ([] : List UInt8)
                · rw [if_pos c21] at H
                  have c21b0 : (a0.toList == ([] : List UInt8)) = true := beq_iff_eq.mpr c21
                  have c21b1 : (a0.toList != ([] : List UInt8)) = false := bne_eq_false_iff_eq.mpr c21
                  clear c21
                  obtain rfl := Option.some.inj H
                  go_wp2
                  go_ret
                  exact ⟨by first | rfl | (simp [errW_none, errW_some] <;> rfl) | (simp [*, errW_none, errW_some] <;> rfl), by repeat (first | (with_reducible first | exact HB.out | apply below_alloc | apply pw_below_drewN | apply below_drew1) | exact HB.out)⟩
                · rw [if_neg c21] at H
                  have c21b0 : (a0.toList == ([] : List UInt8)) = false := beq_eq_false_iff_ne.mpr c21
                  have c21b1 : (a0.toList != ([] : List UInt8)) = true := bne_iff_ne.mpr c21
                  replace H := Option.bind_eq_some_iff.mp H
                  obtain ⟨t140, A220, H⟩ := H
                  replace H : (if (t140 == true) = true then (if 3 + a0.size ≤ 9223372036854775807 then (if ((⟨#[91, 49, 44]⟩ : ByteArray) ++ a0).size + 2 ≤ 9223372036854775807 then ((impl_GjValid.f k1 (((⟨#[91, 49, 44]⟩ : ByteArray) ++ a0) ++ (⟨#[32, 93]⟩ : ByteArray))).bind fun t141 => (some (t141 == true))) else (none)) else (none)) else (some false)) = some r := H
                  have A22 := Aside0.mk A220
                  clear A220
                  by_cases c23 : (t140 == true) = true
                  · rw [if_pos c23] at H
                    have c23b0 : (t140 == true) = true := c23
                    (try (have c23b1 : decide (t140 = true) = true := by simpa using c23))
                    (try (have c23b2 : (t140 == true) = true := by simpa using c23))
                    clear c23
                    by_cases c24 : 3 + a0.size ≤ 9223372036854775807
                    · rw [if_pos c24] at H
                      have c24b0 := eq_true c24
                      have c24b1 : decide (3 + a0.size ≤ 9223372036854775807) = true := decide_eq_true c24
                      try have c24b2 : (9223372036854775807 < 3 + a0.size) = False := eq_false (Nat.not_lt.2 c24)
                      by_cases c25 : ((⟨#[91, 49, 44]⟩ : ByteArray) ++ a0).size + 2 ≤ 9223372036854775807
                      · rw [if_pos c25] at H
                        have c25b0 := eq_true c25
                        try (have c25b7 : 3 + a0.size + 2 ≤ 9223372036854775807 := by (have h_ := c25; simp only [ByteArray.size_append] at h_; exact h_))
                        have c25b1 : decide (((⟨#[91, 49, 44]⟩ : ByteArray) ++ a0).size + 2 ≤ 9223372036854775807) = true := decide_eq_true c25
                        try have c25b2 : (9223372036854775807 < ((⟨#[91, 49, 44]⟩ : ByteArray) ++ a0).size + 2) = False := eq_false (Nat.not_lt.2 c25)
                        replace H := Option.bind_eq_some_iff.mp H
                        obtain ⟨t141, A260, H⟩ := H
                        replace H : (some (t141 == true)) = some r := H
                        have A26 := Aside0.mk A260
                        clear A260
                        obtain rfl := Option.some.inj H
                        go_wp2_with (first | (go_at_call 13; (with_reducible refine (impl_GjValid.calls k1 a0 t140 _ A22.out).mono ?_); rintro e w27 ⟨rfl, hb⟩; have n0_ := Aside0.mk (below_step (by repeat (first | (with_reducible first | exact HB.out | apply below_alloc | apply pw_below_drewN | apply below_drew1) | exact HB.out)) hb); clear HB; have HB := n0_; clear n0_; (try clear hb); (try clear hb2); (try clear hk); (try clear hi)) | (go_at_call 13; (with_reducible refine (impl_GjValid.calls k1 (((⟨#[91, 49, 44]⟩ : ByteArray) ++ a0) ++ (⟨#[32, 93]⟩ : ByteArray)) t141 _ A26.out).mono ?_); rintro e w28 ⟨rfl, hb⟩; have n0_ := Aside0.mk (below_step (by repeat (first | (with_reducible first | exact HB.out | apply below_alloc | apply pw_below_drewN | apply below_drew1) | exact HB.out)) hb); clear HB; have HB := n0_; clear n0_; (try clear hb); (try clear hb2); (try clear hk); (try clear hi)))
                        go_ret
                        exact ⟨by first | rfl | (simp [errW_none, errW_some] <;> rfl) | (simp [*, errW_none, errW_some] <;> rfl), by repeat (first | (with_reducible first | exact HB.out | apply below_alloc | apply pw_below_drewN | apply below_drew1) | exact HB.out)⟩
                      · rw [if_neg c25] at H
                        exact absurd H (by simp)
                    · rw [if_neg c24] at H
                      exact absurd H (by simp)
                  · rw [if_neg c23] at H
                    have c23b0 : (t140 == true) = false := by simpa using c23
                    (try (have c23b1 : decide (t140 = true) = false := by simpa using c23))
                    (try (have c23b2 : (t140 == true) = false := by simpa using c23))
                    (try (have c23b3 : ¬ (t140 = true) := by simpa using c23))
                    clear c23
                    obtain rfl := Option.some.inj H
                    go_wp2_with (first | (go_at_call 13; (with_reducible refine (impl_GjValid.calls k1 a0 t140 _ A22.out).mono ?_); rintro e w29 ⟨rfl, hb⟩; have n0_ := Aside0.mk (below_step (by repeat (first | (with_reducible first | exact HB.out | apply below_alloc | apply pw_below_drewN | apply below_drew1) | exact HB.out)) hb); clear HB; have HB := n0_; clear n0_; (try clear hb); (try clear hb2); (try clear hk); (try clear hi)))
                    go_ret
                    exact ⟨by first | rfl | (simp [errW_none, errW_some] <;> rfl) | (simp [*, errW_none, errW_some] <;> rfl), by repeat (first | (with_reducible first | exact HB.out | apply below_alloc | apply pw_below_drewN | apply below_drew1) | exact HB.out)⟩
            · rw [if_neg c19] at H
              have c19b0 : (a0.toList == ([102, 97, 108, 115, 101] : List UInt8)) = false := beq_eq_false_iff_ne.mpr c19
              have c19b1 : (a0.toList != ([102, 97, 108, 115, 101] : List UInt8)) = true := bne_iff_ne.mpr c19
              by_cases c30 : (a0.size : Int) > 4096
              · rw [if_pos c30] at H
                have c30b0 : decide (4096 < (a0.size : Int)) = true := decide_eq_true c30
                have c30b1 : decide (4096 < a0.size) = true := decide_eq_true (by omega)
                clear c30
                obtain rfl := Option.some.inj H
                go_wp2
                go_ret
                exact ⟨by first | rfl | (simp [errW_none, errW_some] <;> rfl) | (simp [*, errW_none, errW_some] <;> rfl), by repeat (first | (with_reducible first | exact HB.out | apply below_alloc | apply pw_below_drewN | apply below_drew1) | exact HB.out)⟩
              · rw [if_neg c30] at H
                have c30b0 : decide (4096 < (a0.size : Int)) = false := decide_eq_false c30
                have c30b1 : decide (4096 < a0.size) = false := decide_eq_false (by omega)
                clear c30
                by_cases c31 : a0.toList = ([] : List UInt8)
                · rw [if_pos c31] at H
                  have c31b0 : (a0.toList == ([] : List UInt8)) = true := beq_iff_eq.mpr c31
                  have c31b1 : (a0.toList != ([] : List UInt8)) = false := bne_eq_false_iff_eq.mpr c31
                  clear c31
                  obtain rfl := Option.some.inj H
                  go_wp2
                  go_ret
                  exact ⟨by first | rfl | (simp [errW_none, errW_some] <;> rfl) | (simp [*, errW_none, errW_some] <;> rfl), by repeat (first | (with_reducible first | exact HB.out | apply below_alloc | apply pw_below_drewN | apply below_drew1) | exact HB.out)⟩
                · rw [if_neg c31] at H
                  have c31b0 : (a0.toList == ([] : List UInt8)) = false := beq_eq_false_iff_ne.mpr c31
                  have c31b1 : (a0.toList != ([] : List UInt8)) = true := bne_iff_ne.mpr c31
                  replace H := Option.bind_eq_some_iff.mp H
                  obtain ⟨t142, A320, H⟩ := H
                  replace H : (if (t142 == (a0.toList == ([110, 117, 108, 108] : List UInt8))) = true then (if 3 + a0.size ≤ 9223372036854775807 then (if ((⟨#[91, 49, 44]⟩ : ByteArray) ++ a0).size + 2 ≤ 9223372036854775807 then ((impl_GjValid.f k1 (((⟨#[91, 49, 44]⟩ : ByteArray) ++ a0) ++ (⟨#[32, 93]⟩ : ByteArray))).bind fun t143 => (some (t143 == (a0.toList == ([110, 117, 108, 108] : List UInt8))))) else (none)) else (none)) else (some false)) = some r := H
                  have A32 := Aside0.mk A320
                  clear A320
                  by_cases c33 : (t142 == (a0.toList == ([110, 117, 108, 108] : List UInt8))) = true
                  · rw [if_pos c33] at H
                    have c33b0 : (t142 == (a0.toList == ([110, 117, 108, 108] : List UInt8))) = true := c33
                    (try (have c33b1 : decide (t142 = (a0.toList == ([110, 117, 108, 108] : List UInt8))) = true := by simpa using c33))
                    (try (have c33b2 : (t142 == (a0.toList == ([110, 117, 108, 108] : List UInt8))) = true := by simpa using c33))
                    clear c33
                    by_cases c34 : 3 + a0.size ≤ 9223372036854775807
                    · rw [if_pos c34] at H
                      have c34b0 := eq_true c34
                      have c34b1 : decide (3 + a0.size ≤ 9223372036854775807) = true := decide_eq_true c34
                      try have c34b2 : (9223372036854775807 < 3 + a0.size) = False := eq_false (Nat.not_lt.2 c34)
                      by_cases c35 : ((⟨#[91, 49, 44]⟩ : ByteArray) ++ a0).size + 2 ≤ 9223372036854775807
                      · rw [if_pos c35] at H
                        have c35b0 := eq_true c35
                        try (have c35b7 : 3 + a0.size + 2 ≤ 9223372036854775807 := by (have h_ := c35; simp only [ByteArray.size_append] at h_; exact h_))
                        have c35b1 : decide (((⟨#[91, 49, 44]⟩ : ByteArray) ++ a0).size + 2 ≤ 9223372036854775807) = true := decide_eq_true c35
                        try have c35b2 : (9223372036854775807 < ((⟨#[91, 49, 44]⟩ : ByteArray) ++ a0).size + 2) = False := eq_false (Nat.not_lt.2 c35)
                        replace H := Option.bind_eq_some_iff.mp H
                        obtain ⟨t143, A360, H⟩ := H
                        replace H : (some (t143 == (a0.toList == ([110, 117, 108, 108] : List UInt8)))) = some r := H
                        have A36 := Aside0.mk A360
                        clear A360
                        obtain rfl := Option.some.inj H
                        go_wp2_with (first | (go_at_call 13; (with_reducible refine (impl_GjValid.calls k1 a0 t142 _ A32.out).mono ?_); rintro e w37 ⟨rfl, hb⟩; have n0_ := Aside0.mk (below_step (by repeat (first | (with_reducible first | exact HB.out | apply below_alloc | apply pw_below_drewN | apply below_drew1) | exact HB.out)) hb); clear HB; have HB := n0_; clear n0_; (try clear hb); (try clear hb2); (try clear hk); (try clear hi)) | (go_at_call 13; (with_reducible refine (impl_GjValid.calls k1 (((⟨#[91, 49, 44]⟩ : ByteArray) ++ a0) ++ (⟨#[32, 93]⟩ : ByteArray)) t143 _ A36.out).mono ?_); rintro e w38 ⟨rfl, hb⟩; have n0_ := Aside0.mk (below_step (by repeat (first | (with_reducible first | exact HB.out | apply below_alloc | apply pw_below_drewN | apply below_drew1) | exact HB.out)) hb); clear HB; have HB := n0_; clear n0_; (try clear hb); (try clear hb2); (try clear hk); (try clear hi)))
                        go_ret
                        exact ⟨by first | rfl | (simp [errW_none, errW_some] <;> rfl) | (simp [*, errW_none, errW_some] <;> rfl), by repeat (first | (with_reducible first | exact HB.out | apply below_alloc | apply pw_below_drewN | apply below_drew1) | exact HB.out)⟩
                      · rw [if_neg c35] at H
                        exact absurd H (by simp)
                    · rw [if_neg c34] at H
                      exact absurd H (by simp)
                  · rw [if_neg c33] at H
                    have c33b0 : (t142 == (a0.toList == ([110, 117, 108, 108] : List UInt8))) = false := by simpa using c33
                    (try (have c33b1 : decide (t142 = (a0.toList == ([110, 117, 108, 108] : List UInt8))) = false := by simpa using c33))
                    (try (have c33b2 : (t142 == (a0.toList == ([110, 117, 108, 108] : List UInt8))) = false := by simpa using c33))
                    (try (have c33b3 : ¬ (t142 = (a0.toList == ([110, 117, 108, 108] : List UInt8))) := by simpa using c33))
                    clear c33
                    obtain rfl := Option.some.inj H
                    go_wp2_with (first | (go_at_call 13; (with_reducible refine (impl_GjValid.calls k1 a0 t142 _ A32.out).mono ?_); rintro e w39 ⟨rfl, hb⟩; have n0_ := Aside0.mk (below_step (by repeat (first | (with_reducible first | exact HB.out | apply below_alloc | apply pw_below_drewN | apply below_drew1) | exact HB.out)) hb); clear HB; have HB := n0_; clear n0_; (try clear hb); (try clear hb2); (try clear hk); (try clear hi)))
                    go_ret
                    exact ⟨by first | rfl | (simp [errW_none, errW_some] <;> rfl) | (simp [*, errW_none, errW_some] <;> rfl), by repeat (first | (with_reducible first | exact HB.out | apply below_alloc | apply pw_below_drewN | apply below_drew1) | exact HB.out)⟩

/-- THE ONE PURE STATEMENT of laws_FnGjValidWord: yours. -/
def laws_FnGjValidWord.Pure : Prop := ∀ (a0 : ByteArray), a0.size ≤ 140737488351232 → ∃ k, laws_FnGjValidWord.f k a0 = some true
theorem laws_FnGjValidWord.walk (P : laws_FnGjValidWord.Pure) (a0 : ByteArray) (w : World) (w0 : a0.size ≤ 140737488351232) :
    Calls Try.prog 6 #[.string a0] w fun e w' => e = .returned (.bool true) ∧ Below w.heap.size w w' := by
  obtain ⟨k, h⟩ := P a0 w0
  refine (laws_FnGjValidWord.calls k a0 true w h).mono ?_
  rintro e w' ⟨rfl, hd⟩
  exact ⟨rfl, hd⟩

end Go.Proofs.Ytdllbnecbbggfaa.XFnGjValidWord
