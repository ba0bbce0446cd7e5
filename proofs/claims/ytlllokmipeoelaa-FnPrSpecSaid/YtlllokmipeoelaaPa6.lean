/- Proved here: parts of the law FnPrSpec (the texts XFnPrSpecx10), no conditions of their own beyond what each theorem says. -/
import Derived.Test.YtlllokmipeoelaaPa1
import Derived.Test.YtlllokmipeoelaaPa4
import Derived.Test.YtlllokmipeoelaaPa5
section
-- Written by xprint.py of this session (a program that runs the kit's print and adds to it); Lean checks it.
namespace Go.Proofs.Ytlllokmipeoelaa.XFnPrSpec
open Go.RowKit Go.Proofs.YtlllokmipeoelaaW.PrintWords Go.Proofs.YtlllokmipeoelaaW.PrintLast Go.Proofs.YtlllokmipeoelaaW.PrintMore
attribute [local go_sem] max2_int min2_int max_two min_two max_three min_three max_four min_four   -- for this text's walks alone
set_option linter.unusedVariables false
set_option linter.unusedSimpArgs false
/-! ### laws_prSame: function 5 -/
def laws_prSame.l0 : Nat → ByteArray → ByteArray → Int → Option (Bool)
  | 0, _, _, _ => none
  | k + 1, x0, x1, x5 => if x5 < (x0.size : Int) then (if 0 ≤ x5 then (if x5 < (x1.size : Int) then (if (((bt x0 x5) == 10) != ((bt x1 x5) == 10)) = true then (some false) else (laws_prSame.l0 k x0 x1 (wrap64 (x5 + 1)))) else (none)) else (none)) else ((spec_Places.f k x0).bind fun bt291 => ((spec_Places.f k x1).bind fun bt302 => (if bt291.2.2.2.2.2 = true then (if bt302.2.2.2.2.2 = true then ((laws_prPlaced.f k bt291.1 bt291.2.1 bt291.2.2.1 bt291.2.2.2.1 bt291.2.2.2.2.1 bt302.1 bt302.2.1 bt302.2.2.1 bt302.2.2.2.1 bt302.2.2.2.2.1).bind fun t313 => (if t313 = true then ((spec_Bare.f k x0 bt291.1 bt291.2.1 bt291.2.2.1 bt291.2.2.2.1 bt291.2.2.2.2.1).bind fun t314 => ((spec_Bare.f k x1 bt302.1 bt302.2.1 bt302.2.2.1 bt302.2.2.2.1 bt302.2.2.2.2.1).bind fun t315 => (some (t314.toList == t315.toList)))) else (some false))) else (some false)) else (some false))))
def laws_prSame.f (k : Nat) (a0 : ByteArray) (a1 : ByteArray) : Option (Bool) := if (a0.size : Int) = (a1.size : Int) then (laws_prSame.l0 k a0 a1 0) else (some false)
def laws_prSame.T6 : Bool × List (List Nat × List Nat) := (true, [([], []), ([], []), ([0, 1], [0, 1]), ([2], [2]), ([], []), ([], []), ([4, 5], [4, 5]), ([6], [6]), ([3, 7], [3, 7])])
def laws_prSame.B6 : List Nat := [0, 0, 3, 7, 0, 0, 48, 112, 255]
theorem laws_prSame.tab6 : rtab .any (opsOf Try.f5 6) = laws_prSame.T6 := by kernel_rfl
theorem laws_prSame.bits6 : waitsOk laws_prSame.T6.2 laws_prSame.B6 = true := by kernel_rfl
def laws_prSame.T10 : Bool × List (List Nat × List Nat) := (true, [([], []), ([0], [0]), ([1], [1]), ([1, 2], [1, 2]), ([3, 1], [3]), ([4], [4]), ([4], [4]), ([5, 6, 4, 4], [4, 5, 6]), ([4, 7], [4, 7]), ([8, 7], [8]), ([9], [9]), ([9], [9]), ([10, 11, 9, 9], [9, 10, 11]), ([9], [9]), ([9], [9]), ([13, 14, 12, 9], [9, 13, 14]), ([12, 15, 9], [9, 12, 15]), ([9, 16], [9, 16]), ([17, 15, 0, 1, 2, 3, 4, 5, 6, 7, 8, 9, 10, 11, 12, 13, 14, 15, 16, 17], [17])])
def laws_prSame.B10 : List Nat := [0, 1, 3, 7, 15, 31, 31, 127, 255, 511, 1023, 1023, 4095, 1023, 1023, 32767, 65535, 131071, 262143]
theorem laws_prSame.tab10 : rtab .any (opsOf Try.f5 10) = laws_prSame.T10 := by kernel_rfl
theorem laws_prSame.bits10 : waitsOk laws_prSame.T10.2 laws_prSame.B10 = true := by kernel_rfl
set_option maxHeartbeats 8000000 in
set_option maxRecDepth 100000 in
theorem laws_prSame.calls (k : Nat) (a0 : ByteArray) (a1 : ByteArray) (r : Bool) (w : World) (h : laws_prSame.f k a0 a1 = some r) :
    Calls Try.prog 5 #[.string a0, .string a1] w fun e w' => e = .returned (.bool r) ∧ Below w.heap.size w w' := by
  have hu37 := Try.underlying37
  have HB := Aside0.mk (Below.refl w.heap.size w)
  have H : (if (a0.size : Int) = (a1.size : Int) then (laws_prSame.l0 k a0 a1 0) else (some false)) = some r := h
  clear h
  by_cases c3 : (a0.size : Int) = (a1.size : Int)
  · rw [if_pos c3] at H
    have c3b0 : ((a0.size : Int) == (a1.size : Int)) = true := beq_iff_eq.mpr c3
    have c3b1 : ((a0.size : Int) != (a1.size : Int)) = false := bne_eq_false_iff_eq.mpr c3
    have c3b2 : (a0.size == a1.size) = true := by first | simpa using c3 | (simp at c3 ⊢; omega)
    clear c3
    have H' := Aside0.mk H
    clear H
    go_enter Try.func5, Try.ntmps5
    go_wp2
    try simp only [Act.put, List.setIfInBounds_toArray, List.set_cons_succ, List.set_cons_zero]
    go_loopg [5] k (fun kq v5 w' => ∃ (x5_1 : Int), v5 = .int .i64 x5_1 ∧ Aside0 (laws_prSame.l0 kq a0 a1 x5_1 = some r) ∧ Aside0 (kq ≤ k) ∧ Aside0 (Below w.heap.size w w'))
    case atStart => exact ⟨(0), (by first | rfl | (simp; done) | (simp [*]; done)), H', ⟨Nat.le_refl _⟩, ⟨by repeat (first | (with_reducible first | exact HB.out | apply below_alloc | apply pw_below_drewN | apply below_drew1) | exact HB.out)⟩⟩
    case round =>
      clear H'
      try clear p2
      try clear c3
      try clear c3b0
      try clear c3b1
      try clear c3b2
      obtain ⟨x5_1, rfl, HA, HK1, HB⟩ := hrel
      cases gk with
      | zero => exact absurd HA.out (by simp [laws_prSame.l0])
      | succ k1 =>
        have H := HA.out
        clear HA
        simp only [laws_prSame.l0] at H
        by_cases c4 : x5_1 < (a0.size : Int)
        · rw [if_pos c4] at H
          have c4b0 : decide (x5_1 < (a0.size : Int)) = true := decide_eq_true c4
          clear c4
          by_cases c5 : 0 ≤ x5_1
          · rw [if_pos c5] at H
            have c5b0 : decide (0 ≤ x5_1) = true := decide_eq_true c5
            clear c5
            by_cases c7 : x5_1 < (a1.size : Int)
            · rw [if_pos c7] at H
              have c7b0 : decide (x5_1 < (a1.size : Int)) = true := decide_eq_true c7
              clear c7
              by_cases c9 : (((bt a0 x5_1) == 10) != ((bt a1 x5_1) == 10)) = true
              · rw [if_pos c9] at H
                have c9b0 : (((bt a0 x5_1) == 10) != ((bt a1 x5_1) == 10)) = true := c9
                (try (have c9b1 : decide (((bt a0 x5_1) == 10) = ((bt a1 x5_1) == 10)) = false := by simpa using c9))
                (try (have c9b2 : (((bt a0 x5_1) == 10) == ((bt a1 x5_1) == 10)) = false := by simpa using c9))
                (try (have c9b3 : ¬ (((bt a0 x5_1) == 10) = ((bt a1 x5_1) == 10)) := by simpa using c9))
                clear c9
                obtain rfl := Option.some.inj H
                try go_wp2
                have n0_ := Aside0.mk (below_drew1 HB.out)
                clear HB
                have HB := n0_
                clear n0_
                have p6 : 0 ≤ (x5_1 : Int) := of_decide_eq_true (by first | (with_reducible assumption) | assumption)
                have q6 : x5_1 < (a0.size : Int) := of_decide_eq_true (by first | (with_reducible assumption) | assumption)
                have hx6 := bt_at a0 x5_1
                replace p6 := eq_true p6
                replace q6 := eq_true q6
                have p8 : 0 ≤ (x5_1 : Int) := of_decide_eq_true (by first | (with_reducible assumption) | assumption)
                have q8 : x5_1 < (a1.size : Int) := of_decide_eq_true (by first | (with_reducible assumption) | assumption)
                have hx8 := bt_at a1 x5_1
                replace p8 := eq_true p8
                replace q8 := eq_true q8
                refine start_ (n := 9) (S := fun w' => True) (ds := []) #[false, false, false, false, false, false, false, false, false] (by kernel_rfl) rfl rfl trivial (fun hHeld => ?_); refine with_tabW laws_prSame.tab6 laws_prSame.bits6 (fun HT_ HW_ => ?_)
                generalize wr.drew = w10 at HB hHeld ⊢
                refine pure_ (i := 0) (N := some 21) (v := ?_) (a' := ?_) #[true, false, false, false, false, false, false, false, false] rfl rfl (any_of HT_.out (by kernel_rfl)) (fun _ _ _ h => h) (Or.inl ⟨by rfl, ?_⟩) ?_ ?_
                rotate_left
                · intro w'
                  go_simp
                  with_reducible rfl
                rotate_left
                · simp only [Act.put, List.setIfInBounds_toArray, List.set_cons_zero, List.set_cons_succ, i64_w, i32_w]
                  rfl
                refine pure_ (i := 1) (N := some 22) (v := ?_) (a' := ?_) #[true, true, false, false, false, false, false, false, false] rfl rfl (any_of HT_.out (by kernel_rfl)) (fun _ _ _ h => h) (Or.inl ⟨by rfl, ?_⟩) ?_ ?_
                rotate_left
                · intro w'
                  go_simp
                  with_reducible rfl
                rotate_left
                · simp only [Act.put, List.setIfInBounds_toArray, List.set_cons_zero, List.set_cons_succ, i64_w, i32_w]
                  rfl
                refine pure_ (i := 4) (N := some 25) (v := ?_) (a' := ?_) #[true, true, false, false, true, false, false, false, false] rfl rfl (any_of HT_.out (by kernel_rfl)) (fun _ _ _ h => h) (Or.inl ⟨by rfl, ?_⟩) ?_ ?_
                rotate_left
                · intro w'
                  go_simp
                  with_reducible rfl
                rotate_left
                · simp only [Act.put, List.setIfInBounds_toArray, List.set_cons_zero, List.set_cons_succ, i64_w, i32_w]
                  rfl
                refine pure_ (i := 5) (N := some 26) (v := ?_) (a' := ?_) #[true, true, false, false, true, true, false, false, false] rfl rfl (any_of HT_.out (by kernel_rfl)) (fun _ _ _ h => h) (Or.inl ⟨by rfl, ?_⟩) ?_ ?_
                rotate_left
                · intro w'
                  go_simp
                  with_reducible rfl
                rotate_left
                · simp only [Act.put, List.setIfInBounds_toArray, List.set_cons_zero, List.set_cons_succ, i64_w, i32_w]
                  rfl
                refine take_ (i := 2) (N := some 23) (v := ?_) (a' := ?_) #[true, true, true, false, true, true, false, false, false] rfl rfl (take_ofW HT_.out HW_.out (by kernel_rfl)) (fun _ _ _ h => h) (Or.inl ⟨by rfl, ?_⟩) hHeld ?_ ?_
                rotate_left
                · intro w' _
                  go_simp
                  with_reducible rfl
                rotate_left
                · simp only [Act.put, List.setIfInBounds_toArray, List.set_cons_zero, List.set_cons_succ, i64_w, i32_w]
                  rfl
                refine pure_ (i := 3) (N := some 24) (v := ?_) (a' := ?_) #[true, true, true, true, true, true, false, false, false] rfl rfl (any_of HT_.out (by kernel_rfl)) (fun _ _ _ h => h) (Or.inl ⟨by rfl, ?_⟩) ?_ ?_
                rotate_left
                · intro w'
                  go_simp
                  with_reducible rfl
                rotate_left
                · simp only [Act.put, List.setIfInBounds_toArray, List.set_cons_zero, List.set_cons_succ, i64_w, i32_w]
                  rfl
                refine take_ (i := 6) (N := some 27) (v := ?_) (a' := ?_) #[true, true, true, true, true, true, true, false, false] rfl rfl (take_ofW HT_.out HW_.out (by kernel_rfl)) (fun _ _ _ h => h) (Or.inl ⟨by rfl, ?_⟩) hHeld ?_ ?_
                rotate_left
                · intro w' _
                  go_simp
                  with_reducible rfl
                rotate_left
                · simp only [Act.put, List.setIfInBounds_toArray, List.set_cons_zero, List.set_cons_succ, i64_w, i32_w]
                  rfl
                refine pure_ (i := 7) (N := some 28) (v := ?_) (a' := ?_) #[true, true, true, true, true, true, true, true, false] rfl rfl (any_of HT_.out (by kernel_rfl)) (fun _ _ _ h => h) (Or.inl ⟨by rfl, ?_⟩) ?_ ?_
                rotate_left
                · intro w'
                  go_simp
                  with_reducible rfl
                rotate_left
                · simp only [Act.put, List.setIfInBounds_toArray, List.set_cons_zero, List.set_cons_succ, i64_w, i32_w]
                  rfl
                refine pure_ (i := 8) (N := some 29) (v := ?_) (a' := ?_) #[true, true, true, true, true, true, true, true, true] rfl rfl (any_of HT_.out (by kernel_rfl)) (fun _ _ _ h => h) (Or.inl ⟨by rfl, ?_⟩) ?_ ?_
                rotate_left
                · intro w'
                  go_simp
                  with_reducible rfl
                rotate_left
                · simp only [Act.put, List.setIfInBounds_toArray, List.set_cons_zero, List.set_cons_succ, i64_w, i32_w]
                  rfl
                refine done_ (done_of HT_.out (by kernel_rfl)) ?_
                try go_wp2
                go_ret
                exact ⟨by first | rfl | (simp [errW_none, errW_some] <;> rfl) | (simp [*, errW_none, errW_some] <;> rfl), by repeat (first | (with_reducible first | exact HB.out | apply below_alloc | apply pw_below_drewN | apply below_drew1) | exact HB.out)⟩
              · rw [if_neg c9] at H
                have c9b0 : (((bt a0 x5_1) == 10) != ((bt a1 x5_1) == 10)) = false := by simpa using c9
                (try (have c9b1 : decide (((bt a0 x5_1) == 10) = ((bt a1 x5_1) == 10)) = true := by simpa using c9))
                (try (have c9b2 : (((bt a0 x5_1) == 10) == ((bt a1 x5_1) == 10)) = true := by simpa using c9))
                clear c9
                have H' := Aside0.mk H
                clear H
                try go_wp2
                have n0_ := Aside0.mk (below_drew1 HB.out)
                clear HB
                have HB := n0_
                clear n0_
                have p6 : 0 ≤ (x5_1 : Int) := of_decide_eq_true (by first | (with_reducible assumption) | assumption)
                have q6 : x5_1 < (a0.size : Int) := of_decide_eq_true (by first | (with_reducible assumption) | assumption)
                have hx6 := bt_at a0 x5_1
                replace p6 := eq_true p6
                replace q6 := eq_true q6
                have p8 : 0 ≤ (x5_1 : Int) := of_decide_eq_true (by first | (with_reducible assumption) | assumption)
                have q8 : x5_1 < (a1.size : Int) := of_decide_eq_true (by first | (with_reducible assumption) | assumption)
                have hx8 := bt_at a1 x5_1
                replace p8 := eq_true p8
                replace q8 := eq_true q8
                refine start_ (n := 9) (S := fun w' => True) (ds := []) #[false, false, false, false, false, false, false, false, false] (by kernel_rfl) rfl rfl trivial (fun hHeld => ?_); refine with_tabW laws_prSame.tab6 laws_prSame.bits6 (fun HT_ HW_ => ?_)
                generalize wr.drew = w11 at HB hHeld ⊢
                refine pure_ (i := 0) (N := some 21) (v := ?_) (a' := ?_) #[true, false, false, false, false, false, false, false, false] rfl rfl (any_of HT_.out (by kernel_rfl)) (fun _ _ _ h => h) (Or.inl ⟨by rfl, ?_⟩) ?_ ?_
                rotate_left
                · intro w'
                  go_simp
                  with_reducible rfl
                rotate_left
                · simp only [Act.put, List.setIfInBounds_toArray, List.set_cons_zero, List.set_cons_succ, i64_w, i32_w]
                  rfl
                refine pure_ (i := 1) (N := some 22) (v := ?_) (a' := ?_) #[true, true, false, false, false, false, false, false, false] rfl rfl (any_of HT_.out (by kernel_rfl)) (fun _ _ _ h => h) (Or.inl ⟨by rfl, ?_⟩) ?_ ?_
                rotate_left
                · intro w'
                  go_simp
                  with_reducible rfl
                rotate_left
                · simp only [Act.put, List.setIfInBounds_toArray, List.set_cons_zero, List.set_cons_succ, i64_w, i32_w]
                  rfl
                refine pure_ (i := 4) (N := some 25) (v := ?_) (a' := ?_) #[true, true, false, false, true, false, false, false, false] rfl rfl (any_of HT_.out (by kernel_rfl)) (fun _ _ _ h => h) (Or.inl ⟨by rfl, ?_⟩) ?_ ?_
                rotate_left
                · intro w'
                  go_simp
                  with_reducible rfl
                rotate_left
                · simp only [Act.put, List.setIfInBounds_toArray, List.set_cons_zero, List.set_cons_succ, i64_w, i32_w]
                  rfl
                refine pure_ (i := 5) (N := some 26) (v := ?_) (a' := ?_) #[true, true, false, false, true, true, false, false, false] rfl rfl (any_of HT_.out (by kernel_rfl)) (fun _ _ _ h => h) (Or.inl ⟨by rfl, ?_⟩) ?_ ?_
                rotate_left
                · intro w'
                  go_simp
                  with_reducible rfl
                rotate_left
                · simp only [Act.put, List.setIfInBounds_toArray, List.set_cons_zero, List.set_cons_succ, i64_w, i32_w]
                  rfl
                refine take_ (i := 2) (N := some 23) (v := ?_) (a' := ?_) #[true, true, true, false, true, true, false, false, false] rfl rfl (take_ofW HT_.out HW_.out (by kernel_rfl)) (fun _ _ _ h => h) (Or.inl ⟨by rfl, ?_⟩) hHeld ?_ ?_
                rotate_left
                · intro w' _
                  go_simp
                  with_reducible rfl
                rotate_left
                · simp only [Act.put, List.setIfInBounds_toArray, List.set_cons_zero, List.set_cons_succ, i64_w, i32_w]
                  rfl
                refine pure_ (i := 3) (N := some 24) (v := ?_) (a' := ?_) #[true, true, true, true, true, true, false, false, false] rfl rfl (any_of HT_.out (by kernel_rfl)) (fun _ _ _ h => h) (Or.inl ⟨by rfl, ?_⟩) ?_ ?_
                rotate_left
                · intro w'
                  go_simp
                  with_reducible rfl
                rotate_left
                · simp only [Act.put, List.setIfInBounds_toArray, List.set_cons_zero, List.set_cons_succ, i64_w, i32_w]
                  rfl
                refine take_ (i := 6) (N := some 27) (v := ?_) (a' := ?_) #[true, true, true, true, true, true, true, false, false] rfl rfl (take_ofW HT_.out HW_.out (by kernel_rfl)) (fun _ _ _ h => h) (Or.inl ⟨by rfl, ?_⟩) hHeld ?_ ?_
                rotate_left
                · intro w' _
                  go_simp
                  with_reducible rfl
                rotate_left
                · simp only [Act.put, List.setIfInBounds_toArray, List.set_cons_zero, List.set_cons_succ, i64_w, i32_w]
                  rfl
                refine pure_ (i := 7) (N := some 28) (v := ?_) (a' := ?_) #[true, true, true, true, true, true, true, true, false] rfl rfl (any_of HT_.out (by kernel_rfl)) (fun _ _ _ h => h) (Or.inl ⟨by rfl, ?_⟩) ?_ ?_
                rotate_left
                · intro w'
                  go_simp
                  with_reducible rfl
                rotate_left
                · simp only [Act.put, List.setIfInBounds_toArray, List.set_cons_zero, List.set_cons_succ, i64_w, i32_w]
                  rfl
                refine pure_ (i := 8) (N := some 29) (v := ?_) (a' := ?_) #[true, true, true, true, true, true, true, true, true] rfl rfl (any_of HT_.out (by kernel_rfl)) (fun _ _ _ h => h) (Or.inl ⟨by rfl, ?_⟩) ?_ ?_
                rotate_left
                · intro w'
                  go_simp
                  with_reducible rfl
                rotate_left
                · simp only [Act.put, List.setIfInBounds_toArray, List.set_cons_zero, List.set_cons_succ, i64_w, i32_w]
                  rfl
                refine done_ (done_of HT_.out (by kernel_rfl)) ?_
                try go_wp2
                go_roundg k1
                case measure => have := HK1.out; omega
                case rel => exact ⟨(wrap64 (x5_1 + 1)), (by first | rfl | (simp; done) | (simp [*]; done)), H', ⟨by have := HK1.out; omega⟩, ⟨by repeat (first | (with_reducible first | exact HB.out | apply below_alloc | apply pw_below_drewN | apply below_drew1) | exact HB.out)⟩⟩
            · rw [if_neg c7] at H
              exact absurd H (by simp)
          · rw [if_neg c5] at H
            exact absurd H (by simp)
        · rw [if_neg c4] at H
          have c4b0 : decide (x5_1 < (a0.size : Int)) = false := decide_eq_false c4
          clear c4
          replace H := Option.bind_eq_some_iff.mp H
          obtain ⟨⟨t291, t292, t293, t294, t297, t300⟩, A120, H⟩ := H
          replace H : ((spec_Places.f k1 a1).bind fun bt302 => (if t300 = true then (if bt302.2.2.2.2.2 = true then ((laws_prPlaced.f k1 t291 t292 t293 t294 t297 bt302.1 bt302.2.1 bt302.2.2.1 bt302.2.2.2.1 bt302.2.2.2.2.1).bind fun t313 => (if t313 = true then ((spec_Bare.f k1 a0 t291 t292 t293 t294 t297).bind fun t314 => ((spec_Bare.f k1 a1 bt302.1 bt302.2.1 bt302.2.2.1 bt302.2.2.2.1 bt302.2.2.2.2.1).bind fun t315 => (some (t314.toList == t315.toList)))) else (some false))) else (some false)) else (some false))) = some r := H
          have A12 := Aside0.mk A120
          clear A120
          replace H := Option.bind_eq_some_iff.mp H
          obtain ⟨⟨t302, t303, t304, t305, t308, t311⟩, A130, H⟩ := H
          replace H : (if t300 = true then (if t311 = true then ((laws_prPlaced.f k1 t291 t292 t293 t294 t297 t302 t303 t304 t305 t308).bind fun t313 => (if t313 = true then ((spec_Bare.f k1 a0 t291 t292 t293 t294 t297).bind fun t314 => ((spec_Bare.f k1 a1 t302 t303 t304 t305 t308).bind fun t315 => (some (t314.toList == t315.toList)))) else (some false))) else (some false)) else (some false)) = some r := H
          have A13 := Aside0.mk A130
          clear A130
          by_cases c14 : t300 = true
          · subst c14
            have H1 : (if t311 = true then ((laws_prPlaced.f k1 t291 t292 t293 t294 t297 t302 t303 t304 t305 t308).bind fun t313 => (if t313 = true then ((spec_Bare.f k1 a0 t291 t292 t293 t294 t297).bind fun t314 => ((spec_Bare.f k1 a1 t302 t303 t304 t305 t308).bind fun t315 => (some (t314.toList == t315.toList)))) else (some false))) else (some false)) = some r := by rw [if_pos rfl] at H; exact H
            clear H
            have H := H1
            clear H1
            by_cases c15 : t311 = true
            · subst c15
              have H1 : ((laws_prPlaced.f k1 t291 t292 t293 t294 t297 t302 t303 t304 t305 t308).bind fun t313 => (if t313 = true then ((spec_Bare.f k1 a0 t291 t292 t293 t294 t297).bind fun t314 => ((spec_Bare.f k1 a1 t302 t303 t304 t305 t308).bind fun t315 => (some (t314.toList == t315.toList)))) else (some false))) = some r := by rw [if_pos rfl] at H; exact H
              clear H
              have H := H1
              clear H1
              replace H := Option.bind_eq_some_iff.mp H
              obtain ⟨t313, A160, H⟩ := H
              replace H : (if t313 = true then ((spec_Bare.f k1 a0 t291 t292 t293 t294 t297).bind fun t314 => ((spec_Bare.f k1 a1 t302 t303 t304 t305 t308).bind fun t315 => (some (t314.toList == t315.toList)))) else (some false)) = some r := H
              have A16 := Aside0.mk A160
              clear A160
              by_cases c17 : t313 = true
              · subst c17
                have H1 : ((spec_Bare.f k1 a0 t291 t292 t293 t294 t297).bind fun t314 => ((spec_Bare.f k1 a1 t302 t303 t304 t305 t308).bind fun t315 => (some (t314.toList == t315.toList)))) = some r := by rw [if_pos rfl] at H; exact H
                clear H
                have H := H1
                clear H1
                replace H := Option.bind_eq_some_iff.mp H
                obtain ⟨t314, A180, H⟩ := H
                replace H : ((spec_Bare.f k1 a1 t302 t303 t304 t305 t308).bind fun t315 => (some (t314.toList == t315.toList))) = some r := H
                have A18 := Aside0.mk A180
                clear A180
                replace H := Option.bind_eq_some_iff.mp H
                obtain ⟨t315, A190, H⟩ := H
                replace H : (some (t314.toList == t315.toList)) = some r := H
                have A19 := Aside0.mk A190
                clear A190
                obtain rfl := Option.some.inj H
                try go_wp2_with (first | ((with_reducible refine gate_callee (f := 10) rfl ?_); refine goesL_ (some 32) rfl rfl Try.func10 (by kernel_rfl) rfl #[.string a0] rfl (by (try simp only [List.map_toArray, List.map_cons, List.map_nil]); first | done | rfl | (simp only [List.length_drop, List.length_take]; rfl)) ?_; (with_reducible refine (spec_Places.calls k1 a0 t291 t292 t293 t294 t297 true _ A12.out).mono ?_); rintro e w20 ⟨v295, v298, rfl, ho0, ho1, hb⟩; refine ⟨_, rfl, ?_⟩; have n0_ := Aside0.mk (Kd.R_lower ho0 (below_size (by repeat (first | (with_reducible first | exact HB.out | apply below_alloc | apply pw_below_drewN | apply below_drew1) | exact HB.out)))); have n1_ := Aside0.mk (Kd.R_lower ho1 (below_size (by repeat (first | (with_reducible first | exact HB.out | apply below_alloc | apply pw_below_drewN | apply below_drew1) | exact HB.out)))); have n2_ := Aside0.mk (below_step (by repeat (first | (with_reducible first | exact HB.out | apply below_alloc | apply pw_below_drewN | apply below_drew1) | exact HB.out)) hb); clear HB; have HO296 := n0_; have HO299 := n1_; have HB := n2_; clear n0_ n1_ n2_; (try clear hb); (try clear hb2); (try clear hk); (try clear hi); (try clear ho0); (try clear ho1)) | ((with_reducible refine gate_dst (N := 6) rfl ?_); refine box_event ?hg (N := 6) ?hd (cs := #[.int .i64 0, .int .i64 0, .int .i64 0, .slice none 0 0, .slice none 0 0]) (t := 37) ?hr ?_; (case hd => rfl); (case hg => rfl); (case hr => first | (go_simp; done) | (go_simp; rfl)); intro gb301 hg w21 hbox hb; have n0_ := Aside0.mk (Kd.R_below (by (with_reducible repeat (first | apply Kd.R_alloc | apply Kd.R_drewN | apply Kd.R_drew)); exact HO296.out) hb); have n1_ := Aside0.mk (Kd.R_below (Kd.R_elderB (by (with_reducible repeat (first | apply Kd.R_alloc | apply Kd.R_drewN | apply Kd.R_drew)); exact HO299.out) gb301 (Nat.le_of_eq hg.symm)) hb); have n2_ := Aside0.mk (below_step (by repeat (first | (with_reducible first | exact HB.out | apply below_alloc | apply pw_below_drewN | apply below_drew1) | exact HB.out)) hb); have n3_ := Aside0.mk (hbox); have n4_ := Aside0.mk ((by rw [hg]; exact (below_size (by repeat (first | (with_reducible first | exact HB.out | apply below_alloc | apply pw_below_drewN | apply below_drew1) | exact HB.out))) : w.heap.size ≤ gb301)); have n5_ := Aside0.mk ((by rw [hg]; exact (below_size (by repeat (first | (with_reducible first | exact HB.out | apply below_alloc | apply pw_below_drewN | apply below_drew1) | exact HB.out))) : w.heap.size ≤ gb301)); clear HO296; clear HO299; clear HB; have HO296 := n0_; have HO299 := n1_; have HB := n2_; have BK301 := n3_; have GW301 := n4_; have GE301 := n5_; clear n0_ n1_ n2_ n3_ n4_ n5_; clear hb hbox hg; have hcz22_0 : w21.cell? ⟨gb301, 0, none⟩ = some (.int .i64 0) := (blk_cell BK301.out 0).trans rfl; have hcz22_1 : w21.cell? ⟨gb301, 1, none⟩ = some (.int .i64 0) := (blk_cell BK301.out 1).trans rfl; have hcz22_2 : w21.cell? ⟨gb301, 2, none⟩ = some (.int .i64 0) := (blk_cell BK301.out 2).trans rfl; have hcz22_3 : w21.cell? ⟨gb301, 3, none⟩ = some (.slice none 0 0) := (blk_cell BK301.out 3).trans rfl; have hcz22_4 : w21.cell? ⟨gb301, 4, none⟩ = some (.slice none 0 0) := (blk_cell BK301.out 4).trans rfl; have hfz22_0 := blk_frozen BK301.out 0; have hfz22_1 := blk_frozen BK301.out 1; have hfz22_2 := blk_frozen BK301.out 2; have hfz22_3 := blk_frozen BK301.out 3; have hfz22_4 := blk_frozen BK301.out 4; obtain ⟨Ao23, co23, eo23⟩ := Kd.R_slice HO296.out; subst eo23; obtain ⟨Ao24, co24, eo24⟩ := Kd.R_slice HO299.out; subst eo24) | ((with_reducible refine gate_callee (f := 10) rfl ?_); refine goesL_ (some 37) rfl rfl Try.func10 (by kernel_rfl) rfl #[.string a1] rfl (by (try simp only [List.map_toArray, List.map_cons, List.map_nil]); first | done | rfl | (simp only [List.length_drop, List.length_take]; rfl)) ?_; (with_reducible refine (spec_Places.calls k1 a1 t302 t303 t304 t305 t308 true _ A13.out).mono ?_); rintro e w25 ⟨v306, v309, rfl, ho0, ho1, hb⟩; refine ⟨_, rfl, ?_⟩; have n0_ := Aside0.mk (Kd.R_elder' (by (with_reducible repeat (first | apply Kd.R_alloc | apply Kd.R_drewN | apply Kd.R_drew)); exact (Kd.R_mono (Kd.R_far (p := ⟨gb301, 4, none⟩) (Kd.R_far (p := ⟨gb301, 3, none⟩) (Kd.R_far (p := ⟨gb301, 2, none⟩) (Kd.R_far (p := ⟨gb301, 1, none⟩) (Kd.R_far (p := ⟨gb301, 0, none⟩) (Kd.R_types HO296.out BK301.out (by decide)) (fun _ hk => hk.2) (.int .i64 t291)) (fun _ hk => hk.2) (.int .i64 t292)) (fun _ hk => hk.2) (.int .i64 t293)) (fun _ hk => hk.2) (.slice Ao23 t294.length co23)) (fun _ hk => hk.2) (.slice Ao24 t297.length co24)) (fun _ h_ => h_.1))) (Kd.R_base ho0) hb); have n1_ := Aside0.mk (Kd.R_mono (Kd.R_told (Kd.R_told (Kd.R_old (by (with_reducible repeat (first | apply Kd.R_alloc | apply Kd.R_drewN | apply Kd.R_drew)); exact (Kd.R_mono (Kd.R_far (p := ⟨gb301, 4, none⟩) (Kd.R_far (p := ⟨gb301, 3, none⟩) (Kd.R_far (p := ⟨gb301, 2, none⟩) (Kd.R_far (p := ⟨gb301, 1, none⟩) (Kd.R_far (p := ⟨gb301, 0, none⟩) (Kd.R_mono HO299.out (fun k_ hk => (⟨hk, hk.2⟩ : _ ∧ k_ ≠ gb301))) (fun _ hk => hk.2) (.int .i64 t291)) (fun _ hk => hk.2) (.int .i64 t292)) (fun _ hk => hk.2) (.int .i64 t293)) (fun _ hk => hk.2) (.slice Ao23 t294.length co23)) (fun _ hk => hk.2) (.slice Ao24 t297.length co24)) (fun _ h_ => h_.1))) hb) (Kd.R_base ho0)) (Kd.R_base ho1)) (fun _ h_ => h_.1)); have n2_ := Aside0.mk (Kd.R_lower (Kd.R_new' ho0 (Kd.R_lt (by (with_reducible repeat (first | apply Kd.R_alloc | apply Kd.R_drewN | apply Kd.R_drew)); exact (Kd.R_mono (Kd.R_far (p := ⟨gb301, 4, none⟩) (Kd.R_far (p := ⟨gb301, 3, none⟩) (Kd.R_far (p := ⟨gb301, 2, none⟩) (Kd.R_far (p := ⟨gb301, 1, none⟩) (Kd.R_far (p := ⟨gb301, 0, none⟩) (Kd.R_types HO296.out BK301.out (by decide)) (fun _ hk => hk.2) (.int .i64 t291)) (fun _ hk => hk.2) (.int .i64 t292)) (fun _ hk => hk.2) (.int .i64 t293)) (fun _ hk => hk.2) (.slice Ao23 t294.length co23)) (fun _ hk => hk.2) (.slice Ao24 t297.length co24)) (fun _ h_ => h_.1))))) (below_size (by repeat (first | (with_reducible first | exact HB.out | apply below_alloc | apply pw_below_drewN | apply below_drew1 | refine below_set ?_ GE301.out) | exact HB.out)))); have n3_ := Aside0.mk (Kd.R_lower (Kd.R_newB (Kd.R_new' (Kd.R_new' ho1 (Kd.R_lt (by (with_reducible repeat (first | apply Kd.R_alloc | apply Kd.R_drewN | apply Kd.R_drew)); exact (Kd.R_mono (Kd.R_far (p := ⟨gb301, 4, none⟩) (Kd.R_far (p := ⟨gb301, 3, none⟩) (Kd.R_far (p := ⟨gb301, 2, none⟩) (Kd.R_far (p := ⟨gb301, 1, none⟩) (Kd.R_far (p := ⟨gb301, 0, none⟩) (Kd.R_types HO296.out BK301.out (by decide)) (fun _ hk => hk.2) (.int .i64 t291)) (fun _ hk => hk.2) (.int .i64 t292)) (fun _ hk => hk.2) (.int .i64 t293)) (fun _ hk => hk.2) (.slice Ao23 t294.length co23)) (fun _ hk => hk.2) (.slice Ao24 t297.length co24)) (fun _ h_ => h_.1))))) (Kd.R_lt (by (with_reducible repeat (first | apply Kd.R_alloc | apply Kd.R_drewN | apply Kd.R_drew)); exact (Kd.R_mono (Kd.R_far (p := ⟨gb301, 4, none⟩) (Kd.R_far (p := ⟨gb301, 3, none⟩) (Kd.R_far (p := ⟨gb301, 2, none⟩) (Kd.R_far (p := ⟨gb301, 1, none⟩) (Kd.R_far (p := ⟨gb301, 0, none⟩) (Kd.R_mono HO299.out (fun k_ hk => (⟨hk, hk.2⟩ : _ ∧ k_ ≠ gb301))) (fun _ hk => hk.2) (.int .i64 t291)) (fun _ hk => hk.2) (.int .i64 t292)) (fun _ hk => hk.2) (.int .i64 t293)) (fun _ hk => hk.2) (.slice Ao23 t294.length co23)) (fun _ hk => hk.2) (.slice Ao24 t297.length co24)) (fun _ h_ => h_.1))))) (g := gb301) (o := .cells #[.int .i64 t291, .int .i64 t292, .int .i64 t293, .slice Ao23 t294.length co23, .slice Ao24 t297.length co24] 37 (0, 0)) (by (with_reducible repeat (first | refine blk_drewN ?_ _ | refine blk_drew ?_ | refine blk_alloc ?_ _)); refine blk_put (cs := #[.int .i64 t291, .int .i64 t292, .int .i64 t293, .slice Ao23 t294.length co23, .slice none 0 0]) ?_ 4 _ rfl; (with_reducible repeat (first | refine blk_drewN ?_ _ | refine blk_drew ?_ | refine blk_alloc ?_ _)); refine blk_put (cs := #[.int .i64 t291, .int .i64 t292, .int .i64 t293, .slice none 0 0, .slice none 0 0]) ?_ 3 _ rfl; (with_reducible repeat (first | refine blk_drewN ?_ _ | refine blk_drew ?_ | refine blk_alloc ?_ _)); refine blk_put (cs := #[.int .i64 t291, .int .i64 t292, .int .i64 0, .slice none 0 0, .slice none 0 0]) ?_ 2 _ rfl; (with_reducible repeat (first | refine blk_drewN ?_ _ | refine blk_drew ?_ | refine blk_alloc ?_ _)); refine blk_put (cs := #[.int .i64 t291, .int .i64 0, .int .i64 0, .slice none 0 0, .slice none 0 0]) ?_ 1 _ rfl; (with_reducible repeat (first | refine blk_drewN ?_ _ | refine blk_drew ?_ | refine blk_alloc ?_ _)); refine blk_put (cs := #[.int .i64 0, .int .i64 0, .int .i64 0, .slice none 0 0, .slice none 0 0]) ?_ 0 _ rfl; (with_reducible repeat (first | refine blk_drewN ?_ _ | refine blk_drew ?_ | refine blk_alloc ?_ _)); exact BK301.out)) (below_size (by repeat (first | (with_reducible first | exact HB.out | apply below_alloc | apply pw_below_drewN | apply below_drew1 | refine below_set ?_ GE301.out) | exact HB.out)))); have n4_ := Aside0.mk (blk_below (g := gb301) (o := .cells #[.int .i64 t291, .int .i64 t292, .int .i64 t293, .slice Ao23 t294.length co23, .slice Ao24 t297.length co24] 37 (0, 0)) (by (with_reducible repeat (first | refine blk_drewN ?_ _ | refine blk_drew ?_ | refine blk_alloc ?_ _)); refine blk_put (cs := #[.int .i64 t291, .int .i64 t292, .int .i64 t293, .slice Ao23 t294.length co23, .slice none 0 0]) ?_ 4 _ rfl; (with_reducible repeat (first | refine blk_drewN ?_ _ | refine blk_drew ?_ | refine blk_alloc ?_ _)); refine blk_put (cs := #[.int .i64 t291, .int .i64 t292, .int .i64 t293, .slice none 0 0, .slice none 0 0]) ?_ 3 _ rfl; (with_reducible repeat (first | refine blk_drewN ?_ _ | refine blk_drew ?_ | refine blk_alloc ?_ _)); refine blk_put (cs := #[.int .i64 t291, .int .i64 t292, .int .i64 0, .slice none 0 0, .slice none 0 0]) ?_ 2 _ rfl; (with_reducible repeat (first | refine blk_drewN ?_ _ | refine blk_drew ?_ | refine blk_alloc ?_ _)); refine blk_put (cs := #[.int .i64 t291, .int .i64 0, .int .i64 0, .slice none 0 0, .slice none 0 0]) ?_ 1 _ rfl; (with_reducible repeat (first | refine blk_drewN ?_ _ | refine blk_drew ?_ | refine blk_alloc ?_ _)); refine blk_put (cs := #[.int .i64 0, .int .i64 0, .int .i64 0, .slice none 0 0, .slice none 0 0]) ?_ 0 _ rfl; (with_reducible repeat (first | refine blk_drewN ?_ _ | refine blk_drew ?_ | refine blk_alloc ?_ _)); exact BK301.out) hb); have n5_ := Aside0.mk (below_step (by repeat (first | (with_reducible first | exact HB.out | apply below_alloc | apply pw_below_drewN | apply below_drew1 | refine below_set ?_ GE301.out) | exact HB.out)) hb); clear HO296; clear HO299; clear BK301; clear HB; have HO296 := n0_; have HO299 := n1_; have HO307 := n2_; have HO310 := n3_; have BK301 := n4_; have HB := n5_; clear n0_ n1_ n2_ n3_ n4_ n5_; (try clear hb); (try clear hb2); (try clear hk); (try clear hi); (try clear ho0); (try clear ho1)) | ((with_reducible refine gate_dst (N := 8) rfl ?_); refine box_event ?hg (N := 8) ?hd (cs := #[.int .i64 0, .int .i64 0, .int .i64 0, .slice none 0 0, .slice none 0 0]) (t := 37) ?hr ?_; (case hd => rfl); (case hg => rfl); (case hr => first | (go_simp; done) | (go_simp; rfl)); intro gb312 hg w26 hbox hb; have n0_ := Aside0.mk (Kd.R_below (by (with_reducible repeat (first | apply Kd.R_alloc | apply Kd.R_drewN | apply Kd.R_drew)); exact HO296.out) hb); have n1_ := Aside0.mk (Kd.R_below (Kd.R_elderB (by (with_reducible repeat (first | apply Kd.R_alloc | apply Kd.R_drewN | apply Kd.R_drew)); exact HO299.out) gb312 (Nat.le_of_eq hg.symm)) hb); have n2_ := Aside0.mk (Kd.R_below (by (with_reducible repeat (first | apply Kd.R_alloc | apply Kd.R_drewN | apply Kd.R_drew)); exact HO307.out) hb); have n3_ := Aside0.mk (Kd.R_below (Kd.R_elderB (by (with_reducible repeat (first | apply Kd.R_alloc | apply Kd.R_drewN | apply Kd.R_drew)); exact HO310.out) gb312 (Nat.le_of_eq hg.symm)) hb); have n4_ := Aside0.mk (blk_below (g := gb301) (o := .cells #[.int .i64 t291, .int .i64 t292, .int .i64 t293, .slice Ao23 t294.length co23, .slice Ao24 t297.length co24] 37 (0, 0)) (by (with_reducible repeat (first | refine blk_drewN ?_ _ | refine blk_drew ?_ | refine blk_alloc ?_ _)); exact BK301.out) hb); have n5_ := Aside0.mk (below_step (by repeat (first | (with_reducible first | exact HB.out | apply below_alloc | apply pw_below_drewN | apply below_drew1 | refine below_set ?_ GE301.out) | exact HB.out)) hb); have n6_ := Aside0.mk (hbox); have n7_ := Aside0.mk ((by rw [hg]; exact (below_size (by repeat (first | (with_reducible first | exact HB.out | apply below_alloc | apply pw_below_drewN | apply below_drew1 | refine below_set ?_ GE301.out) | exact HB.out))) : w.heap.size ≤ gb312)); have n8_ := Aside0.mk ((by rw [hg]; exact (below_size (by repeat (first | (with_reducible first | exact HB.out | apply below_alloc | apply pw_below_drewN | apply below_drew1 | refine below_set ?_ GE301.out) | exact HB.out))) : w.heap.size ≤ gb312)); have n9_ := Aside0.mk ((by rw [hg]; exact Nat.ne_of_lt (blk_lt (g := gb301) (o := .cells #[.int .i64 t291, .int .i64 t292, .int .i64 t293, .slice Ao23 t294.length co23, .slice Ao24 t297.length co24] 37 (0, 0)) (by (with_reducible repeat (first | refine blk_drewN ?_ _ | refine blk_drew ?_ | refine blk_alloc ?_ _)); exact BK301.out)) : gb301 ≠ gb312)); have n10_ := Aside0.mk ((by rw [hg]; exact Nat.ne_of_gt (blk_lt (g := gb301) (o := .cells #[.int .i64 t291, .int .i64 t292, .int .i64 t293, .slice Ao23 t294.length co23, .slice Ao24 t297.length co24] 37 (0, 0)) (by (with_reducible repeat (first | refine blk_drewN ?_ _ | refine blk_drew ?_ | refine blk_alloc ?_ _)); exact BK301.out)) : gb312 ≠ gb301)); clear HO296; clear HO299; clear HO307; clear HO310; clear BK301; clear HB; have HO296 := n0_; have HO299 := n1_; have HO307 := n2_; have HO310 := n3_; have BK301 := n4_; have HB := n5_; have BK312 := n6_; have GW312 := n7_; have GE312 := n8_; have NB301_312 := n9_; have NB312_301 := n10_; clear n0_ n1_ n2_ n3_ n4_ n5_ n6_ n7_ n8_ n9_ n10_; clear hb hbox hg; have hnb27 := NB312_301.out; have hnc27 := NB301_312.out; have hcz28_0 : w26.cell? ⟨gb312, 0, none⟩ = some (.int .i64 0) := (blk_cell BK312.out 0).trans rfl; have hcz28_1 : w26.cell? ⟨gb312, 1, none⟩ = some (.int .i64 0) := (blk_cell BK312.out 1).trans rfl; have hcz28_2 : w26.cell? ⟨gb312, 2, none⟩ = some (.int .i64 0) := (blk_cell BK312.out 2).trans rfl; have hcz28_3 : w26.cell? ⟨gb312, 3, none⟩ = some (.slice none 0 0) := (blk_cell BK312.out 3).trans rfl; have hcz28_4 : w26.cell? ⟨gb312, 4, none⟩ = some (.slice none 0 0) := (blk_cell BK312.out 4).trans rfl; have hfz28_0 := blk_frozen BK312.out 0; have hfz28_1 := blk_frozen BK312.out 1; have hfz28_2 := blk_frozen BK312.out 2; have hfz28_3 := blk_frozen BK312.out 3; have hfz28_4 := blk_frozen BK312.out 4; obtain ⟨Ao29, co29, eo29⟩ := Kd.R_slice HO307.out; subst eo29; obtain ⟨Ao30, co30, eo30⟩ := Kd.R_slice HO310.out; subst eo30))
                have n0_ : Aside0 (Kd.R k46 46 (((((w26.setCell ⟨gb312, 0, none⟩ (.int .i64 t302)).setCell ⟨gb312, 1, none⟩ (.int .i64 t303)).setCell ⟨gb312, 2, none⟩ (.int .i64 t304)).setCell ⟨gb312, 3, none⟩ (.slice Ao29 t305.length co29)).setCell ⟨gb312, 4, none⟩ (.slice Ao30 t308.length co30)) w.heap.size (fun k_ => some k_ ≠ (.slice Ao29 t305.length co29 : Value).ownBlock) (.slice Ao23 t294.length co23) t294) := ⟨by (with_reducible repeat (first | apply Kd.R_alloc | apply Kd.R_drewN | apply Kd.R_drew)); exact Kd.R_mono (Kd.R_far (p := ⟨gb312, 4, none⟩) (Kd.R_far (p := ⟨gb312, 3, none⟩) (Kd.R_far (p := ⟨gb312, 2, none⟩) (Kd.R_far (p := ⟨gb312, 1, none⟩) (Kd.R_far (p := ⟨gb312, 0, none⟩) (Kd.R_types HO296.out BK312.out (by decide)) (fun _ hk => hk.2) (.int .i64 t302)) (fun _ hk => hk.2) (.int .i64 t303)) (fun _ hk => hk.2) (.int .i64 t304)) (fun _ hk => hk.2) (.slice Ao29 t305.length co29)) (fun _ hk => hk.2) (.slice Ao30 t308.length co30)) (fun _ hk => hk.1.2)⟩
                have n1_ : Aside0 (Kd.R k37 37 (((((w26.setCell ⟨gb312, 0, none⟩ (.int .i64 t302)).setCell ⟨gb312, 1, none⟩ (.int .i64 t303)).setCell ⟨gb312, 2, none⟩ (.int .i64 t304)).setCell ⟨gb312, 3, none⟩ (.slice Ao29 t305.length co29)).setCell ⟨gb312, 4, none⟩ (.slice Ao30 t308.length co30)) w.heap.size (fun k_ => some k_ ≠ (.slice Ao23 t294.length co23 : Value).ownBlock ∧ some k_ ≠ (.slice Ao29 t305.length co29 : Value).ownBlock ∧ some k_ ≠ (.slice Ao30 t308.length co30 : Value).ownBlock ∧ k_ ≠ gb301 ∧ k_ ≠ gb312) (.slice Ao24 t297.length co24) t297) := ⟨by (with_reducible repeat (first | apply Kd.R_alloc | apply Kd.R_drewN | apply Kd.R_drew)); exact Kd.R_mono (Kd.R_far (p := ⟨gb312, 4, none⟩) (Kd.R_far (p := ⟨gb312, 3, none⟩) (Kd.R_far (p := ⟨gb312, 2, none⟩) (Kd.R_far (p := ⟨gb312, 1, none⟩) (Kd.R_far (p := ⟨gb312, 0, none⟩) (Kd.R_mono HO299.out (fun k_ hk => (⟨hk, hk.2⟩ : _ ∧ k_ ≠ gb312))) (fun _ hk => hk.2) (.int .i64 t302)) (fun _ hk => hk.2) (.int .i64 t303)) (fun _ hk => hk.2) (.int .i64 t304)) (fun _ hk => hk.2) (.slice Ao29 t305.length co29)) (fun _ hk => hk.2) (.slice Ao30 t308.length co30)) (fun _ hk => ⟨hk.1.1.1.1.1, ⟨hk.1.1.1.2, ⟨hk.1.1.2, ⟨hk.1.1.1.1.2, hk.1.2⟩⟩⟩⟩)⟩
                have n2_ : Aside0 (Kd.R k46 46 (((((w26.setCell ⟨gb312, 0, none⟩ (.int .i64 t302)).setCell ⟨gb312, 1, none⟩ (.int .i64 t303)).setCell ⟨gb312, 2, none⟩ (.int .i64 t304)).setCell ⟨gb312, 3, none⟩ (.slice Ao29 t305.length co29)).setCell ⟨gb312, 4, none⟩ (.slice Ao30 t308.length co30)) w.heap.size (fun k_ => some k_ ≠ (.slice Ao23 t294.length co23 : Value).ownBlock) (.slice Ao29 t305.length co29) t305) := ⟨by (with_reducible repeat (first | apply Kd.R_alloc | apply Kd.R_drewN | apply Kd.R_drew)); exact Kd.R_mono (Kd.R_far (p := ⟨gb312, 4, none⟩) (Kd.R_far (p := ⟨gb312, 3, none⟩) (Kd.R_far (p := ⟨gb312, 2, none⟩) (Kd.R_far (p := ⟨gb312, 1, none⟩) (Kd.R_far (p := ⟨gb312, 0, none⟩) (Kd.R_types HO307.out BK312.out (by decide)) (fun _ hk => hk.2) (.int .i64 t302)) (fun _ hk => hk.2) (.int .i64 t303)) (fun _ hk => hk.2) (.int .i64 t304)) (fun _ hk => hk.2) (.slice Ao29 t305.length co29)) (fun _ hk => hk.2) (.slice Ao30 t308.length co30)) (fun _ hk => hk.1.2)⟩
                have n3_ : Aside0 (Kd.R k37 37 (((((w26.setCell ⟨gb312, 0, none⟩ (.int .i64 t302)).setCell ⟨gb312, 1, none⟩ (.int .i64 t303)).setCell ⟨gb312, 2, none⟩ (.int .i64 t304)).setCell ⟨gb312, 3, none⟩ (.slice Ao29 t305.length co29)).setCell ⟨gb312, 4, none⟩ (.slice Ao30 t308.length co30)) w.heap.size (fun k_ => some k_ ≠ (.slice Ao23 t294.length co23 : Value).ownBlock ∧ some k_ ≠ (.slice Ao24 t297.length co24 : Value).ownBlock ∧ some k_ ≠ (.slice Ao29 t305.length co29 : Value).ownBlock ∧ k_ ≠ gb301 ∧ k_ ≠ gb312) (.slice Ao30 t308.length co30) t308) := ⟨by (with_reducible repeat (first | apply Kd.R_alloc | apply Kd.R_drewN | apply Kd.R_drew)); exact Kd.R_mono (Kd.R_far (p := ⟨gb312, 4, none⟩) (Kd.R_far (p := ⟨gb312, 3, none⟩) (Kd.R_far (p := ⟨gb312, 2, none⟩) (Kd.R_far (p := ⟨gb312, 1, none⟩) (Kd.R_far (p := ⟨gb312, 0, none⟩) (Kd.R_mono HO310.out (fun k_ hk => (⟨hk, hk.2⟩ : _ ∧ k_ ≠ gb312))) (fun _ hk => hk.2) (.int .i64 t302)) (fun _ hk => hk.2) (.int .i64 t303)) (fun _ hk => hk.2) (.int .i64 t304)) (fun _ hk => hk.2) (.slice Ao29 t305.length co29)) (fun _ hk => hk.2) (.slice Ao30 t308.length co30)) (fun _ hk => ⟨hk.1.1.1.1.2, ⟨hk.1.1.1.2, ⟨hk.1.1.1.1.1, ⟨hk.1.1.2, hk.1.2⟩⟩⟩⟩)⟩
                have n4_ : Aside0 ((((((w26.setCell ⟨gb312, 0, none⟩ (.int .i64 t302)).setCell ⟨gb312, 1, none⟩ (.int .i64 t303)).setCell ⟨gb312, 2, none⟩ (.int .i64 t304)).setCell ⟨gb312, 3, none⟩ (.slice Ao29 t305.length co29)).setCell ⟨gb312, 4, none⟩ (.slice Ao30 t308.length co30)).heap[gb301]? = some (.cells #[.int .i64 t291, .int .i64 t292, .int .i64 t293, .slice Ao23 t294.length co23, .slice Ao24 t297.length co24] 37 (0, 0))) := ⟨by (with_reducible repeat (first | refine blk_drewN ?_ _ | refine blk_drew ?_ | refine blk_alloc ?_ _)); refine blk_far ?_ NB301_312.out _; (with_reducible repeat (first | refine blk_drewN ?_ _ | refine blk_drew ?_ | refine blk_alloc ?_ _)); refine blk_far ?_ NB301_312.out _; (with_reducible repeat (first | refine blk_drewN ?_ _ | refine blk_drew ?_ | refine blk_alloc ?_ _)); refine blk_far ?_ NB301_312.out _; (with_reducible repeat (first | refine blk_drewN ?_ _ | refine blk_drew ?_ | refine blk_alloc ?_ _)); refine blk_far ?_ NB301_312.out _; (with_reducible repeat (first | refine blk_drewN ?_ _ | refine blk_drew ?_ | refine blk_alloc ?_ _)); refine blk_far ?_ NB301_312.out _; (with_reducible repeat (first | refine blk_drewN ?_ _ | refine blk_drew ?_ | refine blk_alloc ?_ _)); exact BK301.out⟩
                have n5_ : Aside0 ((((((w26.setCell ⟨gb312, 0, none⟩ (.int .i64 t302)).setCell ⟨gb312, 1, none⟩ (.int .i64 t303)).setCell ⟨gb312, 2, none⟩ (.int .i64 t304)).setCell ⟨gb312, 3, none⟩ (.slice Ao29 t305.length co29)).setCell ⟨gb312, 4, none⟩ (.slice Ao30 t308.length co30)).heap[gb312]? = some (.cells #[.int .i64 t302, .int .i64 t303, .int .i64 t304, .slice Ao29 t305.length co29, .slice Ao30 t308.length co30] 37 (0, 0))) := ⟨by (with_reducible repeat (first | refine blk_drewN ?_ _ | refine blk_drew ?_ | refine blk_alloc ?_ _)); refine blk_put (cs := #[.int .i64 t302, .int .i64 t303, .int .i64 t304, .slice Ao29 t305.length co29, .slice none 0 0]) ?_ 4 _ rfl; (with_reducible repeat (first | refine blk_drewN ?_ _ | refine blk_drew ?_ | refine blk_alloc ?_ _)); refine blk_put (cs := #[.int .i64 t302, .int .i64 t303, .int .i64 t304, .slice none 0 0, .slice none 0 0]) ?_ 3 _ rfl; (with_reducible repeat (first | refine blk_drewN ?_ _ | refine blk_drew ?_ | refine blk_alloc ?_ _)); refine blk_put (cs := #[.int .i64 t302, .int .i64 t303, .int .i64 0, .slice none 0 0, .slice none 0 0]) ?_ 2 _ rfl; (with_reducible repeat (first | refine blk_drewN ?_ _ | refine blk_drew ?_ | refine blk_alloc ?_ _)); refine blk_put (cs := #[.int .i64 t302, .int .i64 0, .int .i64 0, .slice none 0 0, .slice none 0 0]) ?_ 1 _ rfl; (with_reducible repeat (first | refine blk_drewN ?_ _ | refine blk_drew ?_ | refine blk_alloc ?_ _)); refine blk_put (cs := #[.int .i64 0, .int .i64 0, .int .i64 0, .slice none 0 0, .slice none 0 0]) ?_ 0 _ rfl; (with_reducible repeat (first | refine blk_drewN ?_ _ | refine blk_drew ?_ | refine blk_alloc ?_ _)); exact BK312.out⟩
                have n6_ : Aside0 (Below w.heap.size w (((((w26.setCell ⟨gb312, 0, none⟩ (.int .i64 t302)).setCell ⟨gb312, 1, none⟩ (.int .i64 t303)).setCell ⟨gb312, 2, none⟩ (.int .i64 t304)).setCell ⟨gb312, 3, none⟩ (.slice Ao29 t305.length co29)).setCell ⟨gb312, 4, none⟩ (.slice Ao30 t308.length co30))) := ⟨by repeat (first | (with_reducible first | exact HB.out | apply below_alloc | apply pw_below_drewN | apply below_drew1 | refine below_set ?_ GE301.out | refine below_set ?_ GE312.out) | exact HB.out)⟩
                (try clear HO296)
                (try clear HO299)
                (try clear HO307)
                (try clear HO310)
                (try clear BK301)
                (try clear BK312)
                (try clear HB)
                generalize (((((w26.setCell ⟨gb312, 0, none⟩ (.int .i64 t302)).setCell ⟨gb312, 1, none⟩ (.int .i64 t303)).setCell ⟨gb312, 2, none⟩ (.int .i64 t304)).setCell ⟨gb312, 3, none⟩ (.slice Ao29 t305.length co29)).setCell ⟨gb312, 4, none⟩ (.slice Ao30 t308.length co30)) = w31 at n0_ n1_ n2_ n3_ n4_ n5_ n6_ ⊢
                have HO296 := n0_
                have HO299 := n1_
                have HO307 := n2_
                have HO310 := n3_
                have BK301 := n4_
                have BK312 := n5_
                have HB := n6_
                clear n0_ n1_ n2_ n3_ n4_ n5_ n6_
                have n0_ := Aside0.mk (Kd.R_drew HO296.out)
                have n1_ := Aside0.mk (Kd.R_drew HO299.out)
                have n2_ := Aside0.mk (Kd.R_drew HO307.out)
                have n3_ := Aside0.mk (Kd.R_drew HO310.out)
                have n4_ := Aside0.mk (blk_drew BK301.out)
                have n5_ := Aside0.mk (blk_drew BK312.out)
                have n6_ := Aside0.mk (below_drew1 HB.out)
                clear HO296
                clear HO299
                clear HO307
                clear HO310
                clear BK301
                clear BK312
                clear HB
                have HO296 := n0_
                have HO299 := n1_
                have HO307 := n2_
                have HO310 := n3_
                have BK301 := n4_
                have BK312 := n5_
                have HB := n6_
                clear n0_ n1_ n2_ n3_ n4_ n5_ n6_
                refine start_ (n := 19) (S := fun w' => w'.cell? ⟨gb301, 0, none⟩ = some (.int .i64 t291) ∧ w'.cell? ⟨gb301, 1, none⟩ = some (.int .i64 t292) ∧ w'.cell? ⟨gb301, 2, none⟩ = some (.int .i64 t293) ∧ w'.cell? ⟨gb301, 3, none⟩ = some (.slice Ao23 t294.length co23) ∧ w'.cell? ⟨gb301, 4, none⟩ = some (.slice Ao24 t297.length co24) ∧ w'.cell? ⟨gb312, 0, none⟩ = some (.int .i64 t302) ∧ w'.cell? ⟨gb312, 1, none⟩ = some (.int .i64 t303) ∧ w'.cell? ⟨gb312, 2, none⟩ = some (.int .i64 t304) ∧ w'.cell? ⟨gb312, 3, none⟩ = some (.slice Ao29 t305.length co29) ∧ w'.cell? ⟨gb312, 4, none⟩ = some (.slice Ao30 t308.length co30)) (ds := []) #[false, false, false, false, false, false, false, false, false, false, false, false, false, false, false, false, false, false, false] (by kernel_rfl) rfl rfl ⟨(blk_cell BK301.out 0).trans rfl, (blk_cell BK301.out 1).trans rfl, (blk_cell BK301.out 2).trans rfl, (blk_cell BK301.out 3).trans rfl, (blk_cell BK301.out 4).trans rfl, (blk_cell BK312.out 0).trans rfl, (blk_cell BK312.out 1).trans rfl, (blk_cell BK312.out 2).trans rfl, (blk_cell BK312.out 3).trans rfl, (blk_cell BK312.out 4).trans rfl⟩ (fun hHeld => ?_); refine with_tabW laws_prSame.tab10 laws_prSame.bits10 (fun HT_ HW_ => ?_)
                generalize w31.drew = w32 at HO296 HO299 HO307 HO310 BK301 BK312 HB hHeld ⊢
                refine pure_ (i := 0) (N := some 40) (v := ?_) (a' := ?_) #[true, false, false, false, false, false, false, false, false, false, false, false, false, false, false, false, false, false, false] rfl rfl (any_of HT_.out (by kernel_rfl)) (fun _ _ _ h => h) (Or.inl ⟨by rfl, ?_⟩) ?_ ?_
                rotate_left
                · intro w'
                  go_simp
                  with_reducible rfl
                rotate_left
                · simp only [Act.put, List.setIfInBounds_toArray, List.set_cons_zero, List.set_cons_succ, i64_w, i32_w]
                  rfl
                refine pure_ (i := 1) (N := some 41) (v := ?_) (a' := ?_) #[true, true, false, false, false, false, false, false, false, false, false, false, false, false, false, false, false, false, false] rfl rfl (any_of HT_.out (by kernel_rfl)) (fun _ _ _ h => h) (Or.inl ⟨by rfl, ?_⟩) ?_ ?_
                rotate_left
                · intro w'
                  go_simp
                  with_reducible rfl
                rotate_left
                · simp only [Act.put, List.setIfInBounds_toArray, List.set_cons_zero, List.set_cons_succ, i64_w, i32_w]
                  rfl
                refine pure_ (i := 2) (N := some 42) (v := ?_) (a' := ?_) #[true, true, true, false, false, false, false, false, false, false, false, false, false, false, false, false, false, false, false] rfl rfl (any_of HT_.out (by kernel_rfl)) (fun _ _ _ h => h) (Or.inl ⟨by rfl, ?_⟩) ?_ ?_
                rotate_left
                · intro w'
                  go_simp
                  with_reducible rfl
                rotate_left
                · simp only [Act.put, List.setIfInBounds_toArray, List.set_cons_zero, List.set_cons_succ, i64_w, i32_w]
                  rfl
                refine pure_ (i := 3) (N := some 43) (v := ?_) (a' := ?_) #[true, true, true, true, false, false, false, false, false, false, false, false, false, false, false, false, false, false, false] rfl rfl (any_of HT_.out (by kernel_rfl)) (fun _ _ _ h => h) (Or.inl ⟨by rfl, ?_⟩) ?_ ?_
                rotate_left
                · intro w'
                  go_simp
                  with_reducible rfl
                rotate_left
                · simp only [Act.put, List.setIfInBounds_toArray, List.set_cons_zero, List.set_cons_succ, i64_w, i32_w]
                  rfl
                refine pure_ (i := 4) (N := some 44) (v := ?_) (a' := ?_) #[true, true, true, true, true, false, false, false, false, false, false, false, false, false, false, false, false, false, false] rfl rfl (any_of HT_.out (by kernel_rfl)) (fun _ _ _ h => h) (Or.inl ⟨by rfl, ?_⟩) ?_ ?_
                rotate_left
                · intro w'
                  go_simp
                  with_reducible rfl
                rotate_left
                · simp only [Act.put, List.setIfInBounds_toArray, List.set_cons_zero, List.set_cons_succ, i64_w, i32_w]
                  rfl
                refine take_ (i := 5) (N := some 45) (v := ?_) (a' := ?_) #[true, true, true, true, true, true, false, false, false, false, false, false, false, false, false, false, false, false, false] rfl rfl (take_ofW HT_.out HW_.out (by kernel_rfl)) (fun _ _ _ h => h) (Or.inl ⟨by rfl, ?_⟩) hHeld ?_ ?_
                rotate_left
                · rintro w' ⟨s0, s1, s2, s3, s4, s5, s6, s7, s8, s9⟩
                  go_simp
                  with_reducible rfl
                rotate_left
                · simp only [Act.put, List.setIfInBounds_toArray, List.set_cons_zero, List.set_cons_succ, i64_w, i32_w]
                  rfl
                refine take_ (i := 6) (N := some 46) (v := ?_) (a' := ?_) #[true, true, true, true, true, true, true, false, false, false, false, false, false, false, false, false, false, false, false] rfl rfl (take_ofW HT_.out HW_.out (by kernel_rfl)) (fun _ _ _ h => h) (Or.inl ⟨by rfl, ?_⟩) hHeld ?_ ?_
                rotate_left
                · rintro w' ⟨s0, s1, s2, s3, s4, s5, s6, s7, s8, s9⟩
                  go_simp
                  with_reducible rfl
                rotate_left
                · simp only [Act.put, List.setIfInBounds_toArray, List.set_cons_zero, List.set_cons_succ, i64_w, i32_w]
                  rfl
                refine one_ (i := 7) (N := some 47) #[true, true, true, true, true, true, true, true, false, false, false, false, false, false, false, false, false, false, false] rfl rfl (one_of HT_.out (by kernel_rfl)) (by decide) (fun K hK => ?_)
                refine goes_ Try.func11 (by kernel_rfl) rfl #[.agg #[.int .i64 t291, .int .i64 t292, .int .i64 t293, .slice Ao23 t294.length co23, .slice Ao24 t297.length co24], .agg #[.int .i64 t302, .int .i64 t303, .int .i64 t304, .slice Ao29 t305.length co29, .slice Ao30 t308.length co30]] (by rfl) rfl rfl (by (try simp only [List.map_toArray, List.map_cons, List.map_nil]); first | done | rfl | (simp only [List.length_drop, List.length_take]; rfl)) ?_
                with_reducible refine (laws_prPlaced.calls k1 t291 t292 t293 _ _ t294 _ _ t297 t302 t303 t304 _ _ t305 _ _ t308 true _ ?side1 ?side2 ?side3 ?side4 ?side5 ?side6 ?side7 ?side8 A16.out).mono ?_
                (case side1 => repeat (first | exact (Kd.R_reads' HO296.out).2.2 | (with_reducible refine Kd.C_alloc ?_ _) | (with_reducible refine Kd.C_drewN ?_ _) | (with_reducible refine Kd.C_drew ?_)))
                (case side2 => exact (Kd.R_reads' HO296.out).2.1)
                (case side3 => repeat (first | exact (Kd.R_reads' HO299.out).2.2 | (with_reducible refine Kd.C_alloc ?_ _) | (with_reducible refine Kd.C_drewN ?_ _) | (with_reducible refine Kd.C_drew ?_)))
                (case side4 => exact (Kd.R_reads' HO299.out).2.1)
                (case side5 => repeat (first | exact (Kd.R_reads' HO307.out).2.2 | (with_reducible refine Kd.C_alloc ?_ _) | (with_reducible refine Kd.C_drewN ?_ _) | (with_reducible refine Kd.C_drew ?_)))
                (case side6 => exact (Kd.R_reads' HO307.out).2.1)
                (case side7 => repeat (first | exact (Kd.R_reads' HO310.out).2.2 | (with_reducible refine Kd.C_alloc ?_ _) | (with_reducible refine Kd.C_drewN ?_ _) | (with_reducible refine Kd.C_drew ?_)))
                (case side8 => exact (Kd.R_reads' HO310.out).2.1)
                rintro e w33 ⟨rfl, hb⟩
                refine ⟨_, rfl, ?_⟩
                have n0_ := Aside0.mk (Kd.R_below (by (with_reducible repeat (first | apply Kd.R_alloc | apply Kd.R_drewN | apply Kd.R_drew)); exact HO296.out) hb)
                have n1_ := Aside0.mk (Kd.R_below (by (with_reducible repeat (first | apply Kd.R_alloc | apply Kd.R_drewN | apply Kd.R_drew)); exact HO299.out) hb)
                have n2_ := Aside0.mk (Kd.R_below (by (with_reducible repeat (first | apply Kd.R_alloc | apply Kd.R_drewN | apply Kd.R_drew)); exact HO307.out) hb)
                have n3_ := Aside0.mk (Kd.R_below (by (with_reducible repeat (first | apply Kd.R_alloc | apply Kd.R_drewN | apply Kd.R_drew)); exact HO310.out) hb)
                have n4_ := Aside0.mk (blk_below (g := gb301) (o := .cells #[.int .i64 t291, .int .i64 t292, .int .i64 t293, .slice Ao23 t294.length co23, .slice Ao24 t297.length co24] 37 (0, 0)) (by (with_reducible repeat (first | refine blk_drewN ?_ _ | refine blk_drew ?_ | refine blk_alloc ?_ _)); exact BK301.out) hb)
                have n5_ := Aside0.mk (blk_below (g := gb312) (o := .cells #[.int .i64 t302, .int .i64 t303, .int .i64 t304, .slice Ao29 t305.length co29, .slice Ao30 t308.length co30] 37 (0, 0)) (by (with_reducible repeat (first | refine blk_drewN ?_ _ | refine blk_drew ?_ | refine blk_alloc ?_ _)); exact BK312.out) hb)
                have n6_ := Aside0.mk (below_step (by repeat (first | (with_reducible first | exact HB.out | apply below_alloc | apply pw_below_drewN | apply below_drew1 | refine below_set ?_ GE301.out | refine below_set ?_ GE312.out) | exact HB.out)) hb)
                clear HO296
                clear HO299
                clear HO307
                clear HO310
                clear BK301
                clear BK312
                clear HB
                have HO296 := n0_
                have HO299 := n1_
                have HO307 := n2_
                have HO310 := n3_
                have BK301 := n4_
                have BK312 := n5_
                have HB := n6_
                clear n0_ n1_ n2_ n3_ n4_ n5_ n6_
                (try clear hb)
                (try clear hb2)
                (try clear hk)
                (try clear hi)
                refine hK.out _ _ ⟨(blk_cell BK301.out 0).trans rfl, (blk_cell BK301.out 1).trans rfl, (blk_cell BK301.out 2).trans rfl, (blk_cell BK301.out 3).trans rfl, (blk_cell BK301.out 4).trans rfl, (blk_cell BK312.out 0).trans rfl, (blk_cell BK312.out 1).trans rfl, (blk_cell BK312.out 2).trans rfl, (blk_cell BK312.out 3).trans rfl, (blk_cell BK312.out 4).trans rfl⟩ (fun hHeld => ?_)
                clear hK K
                refine norm_ (a' := ?_) ?_ ?_
                rotate_left
                · show Act.put _ (some 47) _ = _
                  simp only [Act.put, List.setIfInBounds_toArray, List.set_cons_zero, List.set_cons_succ, i64_w, i32_w]
                  rfl
                refine pure_ (i := 8) (N := some 48) (v := ?_) (a' := ?_) #[true, true, true, true, true, true, true, true, true, false, false, false, false, false, false, false, false, false, false] rfl rfl (any_of HT_.out (by kernel_rfl)) (fun _ _ _ h => h) (Or.inl ⟨by rfl, ?_⟩) ?_ ?_
                rotate_left
                · intro w'
                  go_simp
                  with_reducible rfl
                rotate_left
                · simp only [Act.put, List.setIfInBounds_toArray, List.set_cons_zero, List.set_cons_succ, i64_w, i32_w]
                  rfl
                refine pure_ (i := 9) (N := some 49) (v := ?_) (a' := ?_) #[true, true, true, true, true, true, true, true, true, true, false, false, false, false, false, false, false, false, false] rfl rfl (any_of HT_.out (by kernel_rfl)) (fun _ _ _ h => h) (Or.inl ⟨by rfl, ?_⟩) ?_ ?_
                rotate_left
                · intro w'
                  go_simp
                  with_reducible rfl
                rotate_left
                · simp only [Act.put, List.setIfInBounds_toArray, List.set_cons_zero, List.set_cons_succ, i64_w, i32_w]
                  rfl
                refine pure_ (i := 10) (N := some 50) (v := ?_) (a' := ?_) #[true, true, true, true, true, true, true, true, true, true, true, false, false, false, false, false, false, false, false] rfl rfl (any_of HT_.out (by kernel_rfl)) (fun _ _ _ h => h) (Or.inl ⟨by rfl, ?_⟩) ?_ ?_
                rotate_left
                · intro w'
                  go_simp
                  with_reducible rfl
                rotate_left
                · simp only [Act.put, List.setIfInBounds_toArray, List.set_cons_zero, List.set_cons_succ, i64_w, i32_w]
                  rfl
                refine pure_ (i := 13) (N := some 53) (v := ?_) (a' := ?_) #[true, true, true, true, true, true, true, true, true, true, true, false, false, true, false, false, false, false, false] rfl rfl (any_of HT_.out (by kernel_rfl)) (fun _ _ _ h => h) (Or.inl ⟨by rfl, ?_⟩) ?_ ?_
                rotate_left
                · intro w'
                  go_simp
                  with_reducible rfl
                rotate_left
                · simp only [Act.put, List.setIfInBounds_toArray, List.set_cons_zero, List.set_cons_succ, i64_w, i32_w]
                  rfl
                refine take_ (i := 11) (N := some 51) (v := ?_) (a' := ?_) #[true, true, true, true, true, true, true, true, true, true, true, true, false, true, false, false, false, false, false] rfl rfl (take_ofW HT_.out HW_.out (by kernel_rfl)) (fun _ _ _ h => h) (Or.inl ⟨by rfl, ?_⟩) hHeld ?_ ?_
                rotate_left
                · rintro w' ⟨s0, s1, s2, s3, s4, s5, s6, s7, s8, s9⟩
                  go_simp
                  with_reducible rfl
                rotate_left
                · simp only [Act.put, List.setIfInBounds_toArray, List.set_cons_zero, List.set_cons_succ, i64_w, i32_w]
                  rfl
                refine take_ (i := 14) (N := some 54) (v := ?_) (a' := ?_) #[true, true, true, true, true, true, true, true, true, true, true, true, false, true, true, false, false, false, false] rfl rfl (take_ofW HT_.out HW_.out (by kernel_rfl)) (fun _ _ _ h => h) (Or.inl ⟨by rfl, ?_⟩) hHeld ?_ ?_
                rotate_left
                · rintro w' ⟨s0, s1, s2, s3, s4, s5, s6, s7, s8, s9⟩
                  go_simp
                  with_reducible rfl
                rotate_left
                · simp only [Act.put, List.setIfInBounds_toArray, List.set_cons_zero, List.set_cons_succ, i64_w, i32_w]
                  rfl
                refine one_ (i := 12) (N := some 52) #[true, true, true, true, true, true, true, true, true, true, true, true, true, true, true, false, false, false, false] rfl rfl (one_of HT_.out (by kernel_rfl)) (by decide) (fun K hK => ?_)
                refine goes_ Try.func12 (by kernel_rfl) rfl #[.string a0, .agg #[.int .i64 t291, .int .i64 t292, .int .i64 t293, .slice Ao23 t294.length co23, .slice Ao24 t297.length co24]] (by rfl) rfl rfl (by (try simp only [List.map_toArray, List.map_cons, List.map_nil]); first | done | rfl | (simp only [List.length_drop, List.length_take]; rfl)) ?_
                with_reducible refine (spec_Bare.calls k1 a0 t291 t292 t293 _ _ t294 _ _ t297 t314 _ ?side1 ?side2 ?side3 ?side4 A18.out).mono ?_
                (case side1 => repeat (first | exact (Kd.R_reads' HO296.out).2.2 | (with_reducible refine Kd.C_alloc ?_ _) | (with_reducible refine Kd.C_drewN ?_ _) | (with_reducible refine Kd.C_drew ?_)))
                (case side2 => exact (Kd.R_reads' HO296.out).2.1)
                (case side3 => repeat (first | exact (Kd.R_reads' HO299.out).2.2 | (with_reducible refine Kd.C_alloc ?_ _) | (with_reducible refine Kd.C_drewN ?_ _) | (with_reducible refine Kd.C_drew ?_)))
                (case side4 => exact (Kd.R_reads' HO299.out).2.1)
                rintro e w34 ⟨rfl, hb⟩
                refine ⟨_, rfl, ?_⟩
                have n0_ := Aside0.mk (Kd.R_below (by (with_reducible repeat (first | apply Kd.R_alloc | apply Kd.R_drewN | apply Kd.R_drew)); exact HO296.out) hb)
                have n1_ := Aside0.mk (Kd.R_below (by (with_reducible repeat (first | apply Kd.R_alloc | apply Kd.R_drewN | apply Kd.R_drew)); exact HO299.out) hb)
                have n2_ := Aside0.mk (Kd.R_below (by (with_reducible repeat (first | apply Kd.R_alloc | apply Kd.R_drewN | apply Kd.R_drew)); exact HO307.out) hb)
                have n3_ := Aside0.mk (Kd.R_below (by (with_reducible repeat (first | apply Kd.R_alloc | apply Kd.R_drewN | apply Kd.R_drew)); exact HO310.out) hb)
                have n4_ := Aside0.mk (blk_below (g := gb301) (o := .cells #[.int .i64 t291, .int .i64 t292, .int .i64 t293, .slice Ao23 t294.length co23, .slice Ao24 t297.length co24] 37 (0, 0)) (by (with_reducible repeat (first | refine blk_drewN ?_ _ | refine blk_drew ?_ | refine blk_alloc ?_ _)); exact BK301.out) hb)
                have n5_ := Aside0.mk (blk_below (g := gb312) (o := .cells #[.int .i64 t302, .int .i64 t303, .int .i64 t304, .slice Ao29 t305.length co29, .slice Ao30 t308.length co30] 37 (0, 0)) (by (with_reducible repeat (first | refine blk_drewN ?_ _ | refine blk_drew ?_ | refine blk_alloc ?_ _)); exact BK312.out) hb)
                have n6_ := Aside0.mk (below_step (by repeat (first | (with_reducible first | exact HB.out | apply below_alloc | apply pw_below_drewN | apply below_drew1 | refine below_set ?_ GE301.out | refine below_set ?_ GE312.out) | exact HB.out)) hb)
                clear HO296
                clear HO299
                clear HO307
                clear HO310
                clear BK301
                clear BK312
                clear HB
                have HO296 := n0_
                have HO299 := n1_
                have HO307 := n2_
                have HO310 := n3_
                have BK301 := n4_
                have BK312 := n5_
                have HB := n6_
                clear n0_ n1_ n2_ n3_ n4_ n5_ n6_
                (try clear hb)
                (try clear hb2)
                (try clear hk)
                (try clear hi)
                refine hK.out _ _ ⟨(blk_cell BK301.out 0).trans rfl, (blk_cell BK301.out 1).trans rfl, (blk_cell BK301.out 2).trans rfl, (blk_cell BK301.out 3).trans rfl, (blk_cell BK301.out 4).trans rfl, (blk_cell BK312.out 0).trans rfl, (blk_cell BK312.out 1).trans rfl, (blk_cell BK312.out 2).trans rfl, (blk_cell BK312.out 3).trans rfl, (blk_cell BK312.out 4).trans rfl⟩ (fun hHeld => ?_)
                clear hK K
                refine norm_ (a' := ?_) ?_ ?_
                rotate_left
                · show Act.put _ (some 52) _ = _
                  simp only [Act.put, List.setIfInBounds_toArray, List.set_cons_zero, List.set_cons_succ, i64_w, i32_w]
                  rfl
                refine one_ (i := 15) (N := some 55) #[true, true, true, true, true, true, true, true, true, true, true, true, true, true, true, true, false, false, false] rfl rfl (one_of HT_.out (by kernel_rfl)) (by decide) (fun K hK => ?_)
                refine goes_ Try.func12 (by kernel_rfl) rfl #[.string a1, .agg #[.int .i64 t302, .int .i64 t303, .int .i64 t304, .slice Ao29 t305.length co29, .slice Ao30 t308.length co30]] (by rfl) rfl rfl (by (try simp only [List.map_toArray, List.map_cons, List.map_nil]); first | done | rfl | (simp only [List.length_drop, List.length_take]; rfl)) ?_
                with_reducible refine (spec_Bare.calls k1 a1 t302 t303 t304 _ _ t305 _ _ t308 t315 _ ?side1 ?side2 ?side3 ?side4 A19.out).mono ?_
                (case side1 => repeat (first | exact (Kd.R_reads' HO307.out).2.2 | (with_reducible refine Kd.C_alloc ?_ _) | (with_reducible refine Kd.C_drewN ?_ _) | (with_reducible refine Kd.C_drew ?_)))
                (case side2 => exact (Kd.R_reads' HO307.out).2.1)
                (case side3 => repeat (first | exact (Kd.R_reads' HO310.out).2.2 | (with_reducible refine Kd.C_alloc ?_ _) | (with_reducible refine Kd.C_drewN ?_ _) | (with_reducible refine Kd.C_drew ?_)))
                (case side4 => exact (Kd.R_reads' HO310.out).2.1)
                rintro e w35 ⟨rfl, hb⟩
                refine ⟨_, rfl, ?_⟩
                have n0_ := Aside0.mk (Kd.R_below (by (with_reducible repeat (first | apply Kd.R_alloc | apply Kd.R_drewN | apply Kd.R_drew)); exact HO296.out) hb)
                have n1_ := Aside0.mk (Kd.R_below (by (with_reducible repeat (first | apply Kd.R_alloc | apply Kd.R_drewN | apply Kd.R_drew)); exact HO299.out) hb)
                have n2_ := Aside0.mk (Kd.R_below (by (with_reducible repeat (first | apply Kd.R_alloc | apply Kd.R_drewN | apply Kd.R_drew)); exact HO307.out) hb)
                have n3_ := Aside0.mk (Kd.R_below (by (with_reducible repeat (first | apply Kd.R_alloc | apply Kd.R_drewN | apply Kd.R_drew)); exact HO310.out) hb)
                have n4_ := Aside0.mk (blk_below (g := gb301) (o := .cells #[.int .i64 t291, .int .i64 t292, .int .i64 t293, .slice Ao23 t294.length co23, .slice Ao24 t297.length co24] 37 (0, 0)) (by (with_reducible repeat (first | refine blk_drewN ?_ _ | refine blk_drew ?_ | refine blk_alloc ?_ _)); exact BK301.out) hb)
                have n5_ := Aside0.mk (blk_below (g := gb312) (o := .cells #[.int .i64 t302, .int .i64 t303, .int .i64 t304, .slice Ao29 t305.length co29, .slice Ao30 t308.length co30] 37 (0, 0)) (by (with_reducible repeat (first | refine blk_drewN ?_ _ | refine blk_drew ?_ | refine blk_alloc ?_ _)); exact BK312.out) hb)
                have n6_ := Aside0.mk (below_step (by repeat (first | (with_reducible first | exact HB.out | apply below_alloc | apply pw_below_drewN | apply below_drew1 | refine below_set ?_ GE301.out | refine below_set ?_ GE312.out) | exact HB.out)) hb)
                clear HO296
                clear HO299
                clear HO307
                clear HO310
                clear BK301
                clear BK312
                clear HB
                have HO296 := n0_
                have HO299 := n1_
                have HO307 := n2_
                have HO310 := n3_
                have BK301 := n4_
                have BK312 := n5_
                have HB := n6_
                clear n0_ n1_ n2_ n3_ n4_ n5_ n6_
                (try clear hb)
                (try clear hb2)
                (try clear hk)
                (try clear hi)
                refine hK.out _ _ ⟨(blk_cell BK301.out 0).trans rfl, (blk_cell BK301.out 1).trans rfl, (blk_cell BK301.out 2).trans rfl, (blk_cell BK301.out 3).trans rfl, (blk_cell BK301.out 4).trans rfl, (blk_cell BK312.out 0).trans rfl, (blk_cell BK312.out 1).trans rfl, (blk_cell BK312.out 2).trans rfl, (blk_cell BK312.out 3).trans rfl, (blk_cell BK312.out 4).trans rfl⟩ (fun hHeld => ?_)
                clear hK K
                refine norm_ (a' := ?_) ?_ ?_
                rotate_left
                · show Act.put _ (some 55) _ = _
                  simp only [Act.put, List.setIfInBounds_toArray, List.set_cons_zero, List.set_cons_succ, i64_w, i32_w]
                  rfl
                refine pure_ (i := 16) (N := some 56) (v := ?_) (a' := ?_) #[true, true, true, true, true, true, true, true, true, true, true, true, true, true, true, true, true, false, false] rfl rfl (any_of HT_.out (by kernel_rfl)) (fun _ _ _ h => h) (Or.inl ⟨by rfl, ?_⟩) ?_ ?_
                rotate_left
                · intro w'
                  go_simp
                  with_reducible rfl
                rotate_left
                · simp only [Act.put, List.setIfInBounds_toArray, List.set_cons_zero, List.set_cons_succ, i64_w, i32_w]
                  rfl
                refine pure_ (i := 17) (N := some 57) (v := ?_) (a' := ?_) #[true, true, true, true, true, true, true, true, true, true, true, true, true, true, true, true, true, true, false] rfl rfl (any_of HT_.out (by kernel_rfl)) (fun _ _ _ h => h) (Or.inl ⟨by rfl, ?_⟩) ?_ ?_
                rotate_left
                · intro w'
                  go_simp
                  with_reducible rfl
                rotate_left
                · simp only [Act.put, List.setIfInBounds_toArray, List.set_cons_zero, List.set_cons_succ, i64_w, i32_w]
                  rfl
                refine pure_ (i := 18) (N := some 4) (v := ?_) (a' := ?_) #[true, true, true, true, true, true, true, true, true, true, true, true, true, true, true, true, true, true, true] rfl rfl (any_of HT_.out (by kernel_rfl)) (fun _ _ _ h => h) (Or.inl ⟨by rfl, ?_⟩) ?_ ?_
                rotate_left
                · intro w'
                  go_simp
                  with_reducible rfl
                rotate_left
                · simp only [Act.put, List.setIfInBounds_toArray, List.set_cons_zero, List.set_cons_succ, i64_w, i32_w]
                  rfl
                refine done_ (done_of HT_.out (by kernel_rfl)) ?_
                try go_wp2
                go_ret
                exact ⟨by first | rfl | (simp [errW_none, errW_some] <;> rfl) | (simp [*, errW_none, errW_some] <;> rfl), by repeat (first | (with_reducible first | exact HB.out | apply below_alloc | apply pw_below_drewN | apply below_drew1 | refine below_set ?_ GE301.out | refine below_set ?_ GE312.out) | exact HB.out)⟩
              · replace c17 := Bool.eq_false_iff.mpr c17
                subst c17
                have H1 : (some false) = some r := by rw [if_neg (show ¬ (false = true) by decide)] at H; exact H
                clear H
                have H := H1
                clear H1
                obtain rfl := Option.some.inj H
                try go_wp2_with (first | ((with_reducible refine gate_callee (f := 10) rfl ?_); refine goesL_ (some 32) rfl rfl Try.func10 (by kernel_rfl) rfl #[.string a0] rfl (by (try simp only [List.map_toArray, List.map_cons, List.map_nil]); first | done | rfl | (simp only [List.length_drop, List.length_take]; rfl)) ?_; (with_reducible refine (spec_Places.calls k1 a0 t291 t292 t293 t294 t297 true _ A12.out).mono ?_); rintro e w36 ⟨v295, v298, rfl, ho0, ho1, hb⟩; refine ⟨_, rfl, ?_⟩; have n0_ := Aside0.mk (Kd.R_lower ho0 (below_size (by repeat (first | (with_reducible first | exact HB.out | apply below_alloc | apply pw_below_drewN | apply below_drew1) | exact HB.out)))); have n1_ := Aside0.mk (Kd.R_lower ho1 (below_size (by repeat (first | (with_reducible first | exact HB.out | apply below_alloc | apply pw_below_drewN | apply below_drew1) | exact HB.out)))); have n2_ := Aside0.mk (below_step (by repeat (first | (with_reducible first | exact HB.out | apply below_alloc | apply pw_below_drewN | apply below_drew1) | exact HB.out)) hb); clear HB; have HO296 := n0_; have HO299 := n1_; have HB := n2_; clear n0_ n1_ n2_; (try clear hb); (try clear hb2); (try clear hk); (try clear hi); (try clear ho0); (try clear ho1)) | ((with_reducible refine gate_dst (N := 6) rfl ?_); refine box_event ?hg (N := 6) ?hd (cs := #[.int .i64 0, .int .i64 0, .int .i64 0, .slice none 0 0, .slice none 0 0]) (t := 37) ?hr ?_; (case hd => rfl); (case hg => rfl); (case hr => first | (go_simp; done) | (go_simp; rfl)); intro gb301 hg w37 hbox hb; have n0_ := Aside0.mk (Kd.R_below (by (with_reducible repeat (first | apply Kd.R_alloc | apply Kd.R_drewN | apply Kd.R_drew)); exact HO296.out) hb); have n1_ := Aside0.mk (Kd.R_below (Kd.R_elderB (by (with_reducible repeat (first | apply Kd.R_alloc | apply Kd.R_drewN | apply Kd.R_drew)); exact HO299.out) gb301 (Nat.le_of_eq hg.symm)) hb); have n2_ := Aside0.mk (below_step (by repeat (first | (with_reducible first | exact HB.out | apply below_alloc | apply pw_below_drewN | apply below_drew1) | exact HB.out)) hb); have n3_ := Aside0.mk (hbox); have n4_ := Aside0.mk ((by rw [hg]; exact (below_size (by repeat (first | (with_reducible first | exact HB.out | apply below_alloc | apply pw_below_drewN | apply below_drew1) | exact HB.out))) : w.heap.size ≤ gb301)); have n5_ := Aside0.mk ((by rw [hg]; exact (below_size (by repeat (first | (with_reducible first | exact HB.out | apply below_alloc | apply pw_below_drewN | apply below_drew1) | exact HB.out))) : w.heap.size ≤ gb301)); clear HO296; clear HO299; clear HB; have HO296 := n0_; have HO299 := n1_; have HB := n2_; have BK301 := n3_; have GW301 := n4_; have GE301 := n5_; clear n0_ n1_ n2_ n3_ n4_ n5_; clear hb hbox hg; have hcz38_0 : w37.cell? ⟨gb301, 0, none⟩ = some (.int .i64 0) := (blk_cell BK301.out 0).trans rfl; have hcz38_1 : w37.cell? ⟨gb301, 1, none⟩ = some (.int .i64 0) := (blk_cell BK301.out 1).trans rfl; have hcz38_2 : w37.cell? ⟨gb301, 2, none⟩ = some (.int .i64 0) := (blk_cell BK301.out 2).trans rfl; have hcz38_3 : w37.cell? ⟨gb301, 3, none⟩ = some (.slice none 0 0) := (blk_cell BK301.out 3).trans rfl; have hcz38_4 : w37.cell? ⟨gb301, 4, none⟩ = some (.slice none 0 0) := (blk_cell BK301.out 4).trans rfl; have hfz38_0 := blk_frozen BK301.out 0; have hfz38_1 := blk_frozen BK301.out 1; have hfz38_2 := blk_frozen BK301.out 2; have hfz38_3 := blk_frozen BK301.out 3; have hfz38_4 := blk_frozen BK301.out 4; obtain ⟨Ao39, co39, eo39⟩ := Kd.R_slice HO296.out; subst eo39; obtain ⟨Ao40, co40, eo40⟩ := Kd.R_slice HO299.out; subst eo40) | ((with_reducible refine gate_callee (f := 10) rfl ?_); refine goesL_ (some 37) rfl rfl Try.func10 (by kernel_rfl) rfl #[.string a1] rfl (by (try simp only [List.map_toArray, List.map_cons, List.map_nil]); first | done | rfl | (simp only [List.length_drop, List.length_take]; rfl)) ?_; (with_reducible refine (spec_Places.calls k1 a1 t302 t303 t304 t305 t308 true _ A13.out).mono ?_); rintro e w41 ⟨v306, v309, rfl, ho0, ho1, hb⟩; refine ⟨_, rfl, ?_⟩; have n0_ := Aside0.mk (Kd.R_elder' (by (with_reducible repeat (first | apply Kd.R_alloc | apply Kd.R_drewN | apply Kd.R_drew)); exact (Kd.R_mono (Kd.R_far (p := ⟨gb301, 4, none⟩) (Kd.R_far (p := ⟨gb301, 3, none⟩) (Kd.R_far (p := ⟨gb301, 2, none⟩) (Kd.R_far (p := ⟨gb301, 1, none⟩) (Kd.R_far (p := ⟨gb301, 0, none⟩) (Kd.R_types HO296.out BK301.out (by decide)) (fun _ hk => hk.2) (.int .i64 t291)) (fun _ hk => hk.2) (.int .i64 t292)) (fun _ hk => hk.2) (.int .i64 t293)) (fun _ hk => hk.2) (.slice Ao39 t294.length co39)) (fun _ hk => hk.2) (.slice Ao40 t297.length co40)) (fun _ h_ => h_.1))) (Kd.R_base ho0) hb); have n1_ := Aside0.mk (Kd.R_mono (Kd.R_told (Kd.R_told (Kd.R_old (by (with_reducible repeat (first | apply Kd.R_alloc | apply Kd.R_drewN | apply Kd.R_drew)); exact (Kd.R_mono (Kd.R_far (p := ⟨gb301, 4, none⟩) (Kd.R_far (p := ⟨gb301, 3, none⟩) (Kd.R_far (p := ⟨gb301, 2, none⟩) (Kd.R_far (p := ⟨gb301, 1, none⟩) (Kd.R_far (p := ⟨gb301, 0, none⟩) (Kd.R_mono HO299.out (fun k_ hk => (⟨hk, hk.2⟩ : _ ∧ k_ ≠ gb301))) (fun _ hk => hk.2) (.int .i64 t291)) (fun _ hk => hk.2) (.int .i64 t292)) (fun _ hk => hk.2) (.int .i64 t293)) (fun _ hk => hk.2) (.slice Ao39 t294.length co39)) (fun _ hk => hk.2) (.slice Ao40 t297.length co40)) (fun _ h_ => h_.1))) hb) (Kd.R_base ho0)) (Kd.R_base ho1)) (fun _ h_ => h_.1)); have n2_ := Aside0.mk (Kd.R_lower (Kd.R_new' ho0 (Kd.R_lt (by (with_reducible repeat (first | apply Kd.R_alloc | apply Kd.R_drewN | apply Kd.R_drew)); exact (Kd.R_mono (Kd.R_far (p := ⟨gb301, 4, none⟩) (Kd.R_far (p := ⟨gb301, 3, none⟩) (Kd.R_far (p := ⟨gb301, 2, none⟩) (Kd.R_far (p := ⟨gb301, 1, none⟩) (Kd.R_far (p := ⟨gb301, 0, none⟩) (Kd.R_types HO296.out BK301.out (by decide)) (fun _ hk => hk.2) (.int .i64 t291)) (fun _ hk => hk.2) (.int .i64 t292)) (fun _ hk => hk.2) (.int .i64 t293)) (fun _ hk => hk.2) (.slice Ao39 t294.length co39)) (fun _ hk => hk.2) (.slice Ao40 t297.length co40)) (fun _ h_ => h_.1))))) (below_size (by repeat (first | (with_reducible first | exact HB.out | apply below_alloc | apply pw_below_drewN | apply below_drew1 | refine below_set ?_ GE301.out) | exact HB.out)))); have n3_ := Aside0.mk (Kd.R_lower (Kd.R_newB (Kd.R_new' (Kd.R_new' ho1 (Kd.R_lt (by (with_reducible repeat (first | apply Kd.R_alloc | apply Kd.R_drewN | apply Kd.R_drew)); exact (Kd.R_mono (Kd.R_far (p := ⟨gb301, 4, none⟩) (Kd.R_far (p := ⟨gb301, 3, none⟩) (Kd.R_far (p := ⟨gb301, 2, none⟩) (Kd.R_far (p := ⟨gb301, 1, none⟩) (Kd.R_far (p := ⟨gb301, 0, none⟩) (Kd.R_types HO296.out BK301.out (by decide)) (fun _ hk => hk.2) (.int .i64 t291)) (fun _ hk => hk.2) (.int .i64 t292)) (fun _ hk => hk.2) (.int .i64 t293)) (fun _ hk => hk.2) (.slice Ao39 t294.length co39)) (fun _ hk => hk.2) (.slice Ao40 t297.length co40)) (fun _ h_ => h_.1))))) (Kd.R_lt (by (with_reducible repeat (first | apply Kd.R_alloc | apply Kd.R_drewN | apply Kd.R_drew)); exact (Kd.R_mono (Kd.R_far (p := ⟨gb301, 4, none⟩) (Kd.R_far (p := ⟨gb301, 3, none⟩) (Kd.R_far (p := ⟨gb301, 2, none⟩) (Kd.R_far (p := ⟨gb301, 1, none⟩) (Kd.R_far (p := ⟨gb301, 0, none⟩) (Kd.R_mono HO299.out (fun k_ hk => (⟨hk, hk.2⟩ : _ ∧ k_ ≠ gb301))) (fun _ hk => hk.2) (.int .i64 t291)) (fun _ hk => hk.2) (.int .i64 t292)) (fun _ hk => hk.2) (.int .i64 t293)) (fun _ hk => hk.2) (.slice Ao39 t294.length co39)) (fun _ hk => hk.2) (.slice Ao40 t297.length co40)) (fun _ h_ => h_.1))))) (g := gb301) (o := .cells #[.int .i64 t291, .int .i64 t292, .int .i64 t293, .slice Ao39 t294.length co39, .slice Ao40 t297.length co40] 37 (0, 0)) (by (with_reducible repeat (first | refine blk_drewN ?_ _ | refine blk_drew ?_ | refine blk_alloc ?_ _)); refine blk_put (cs := #[.int .i64 t291, .int .i64 t292, .int .i64 t293, .slice Ao39 t294.length co39, .slice none 0 0]) ?_ 4 _ rfl; (with_reducible repeat (first | refine blk_drewN ?_ _ | refine blk_drew ?_ | refine blk_alloc ?_ _)); refine blk_put (cs := #[.int .i64 t291, .int .i64 t292, .int .i64 t293, .slice none 0 0, .slice none 0 0]) ?_ 3 _ rfl; (with_reducible repeat (first | refine blk_drewN ?_ _ | refine blk_drew ?_ | refine blk_alloc ?_ _)); refine blk_put (cs := #[.int .i64 t291, .int .i64 t292, .int .i64 0, .slice none 0 0, .slice none 0 0]) ?_ 2 _ rfl; (with_reducible repeat (first | refine blk_drewN ?_ _ | refine blk_drew ?_ | refine blk_alloc ?_ _)); refine blk_put (cs := #[.int .i64 t291, .int .i64 0, .int .i64 0, .slice none 0 0, .slice none 0 0]) ?_ 1 _ rfl; (with_reducible repeat (first | refine blk_drewN ?_ _ | refine blk_drew ?_ | refine blk_alloc ?_ _)); refine blk_put (cs := #[.int .i64 0, .int .i64 0, .int .i64 0, .slice none 0 0, .slice none 0 0]) ?_ 0 _ rfl; (with_reducible repeat (first | refine blk_drewN ?_ _ | refine blk_drew ?_ | refine blk_alloc ?_ _)); exact BK301.out)) (below_size (by repeat (first | (with_reducible first | exact HB.out | apply below_alloc | apply pw_below_drewN | apply below_drew1 | refine below_set ?_ GE301.out) | exact HB.out)))); have n4_ := Aside0.mk (blk_below (g := gb301) (o := .cells #[.int .i64 t291, .int .i64 t292, .int .i64 t293, .slice Ao39 t294.length co39, .slice Ao40 t297.length co40] 37 (0, 0)) (by (with_reducible repeat (first | refine blk_drewN ?_ _ | refine blk_drew ?_ | refine blk_alloc ?_ _)); refine blk_put (cs := #[.int .i64 t291, .int .i64 t292, .int .i64 t293, .slice Ao39 t294.length co39, .slice none 0 0]) ?_ 4 _ rfl; (with_reducible repeat (first | refine blk_drewN ?_ _ | refine blk_drew ?_ | refine blk_alloc ?_ _)); refine blk_put (cs := #[.int .i64 t291, .int .i64 t292, .int .i64 t293, .slice none 0 0, .slice none 0 0]) ?_ 3 _ rfl; (with_reducible repeat (first | refine blk_drewN ?_ _ | refine blk_drew ?_ | refine blk_alloc ?_ _)); refine blk_put (cs := #[.int .i64 t291, .int .i64 t292, .int .i64 0, .slice none 0 0, .slice none 0 0]) ?_ 2 _ rfl; (with_reducible repeat (first | refine blk_drewN ?_ _ | refine blk_drew ?_ | refine blk_alloc ?_ _)); refine blk_put (cs := #[.int .i64 t291, .int .i64 0, .int .i64 0, .slice none 0 0, .slice none 0 0]) ?_ 1 _ rfl; (with_reducible repeat (first | refine blk_drewN ?_ _ | refine blk_drew ?_ | refine blk_alloc ?_ _)); refine blk_put (cs := #[.int .i64 0, .int .i64 0, .int .i64 0, .slice none 0 0, .slice none 0 0]) ?_ 0 _ rfl; (with_reducible repeat (first | refine blk_drewN ?_ _ | refine blk_drew ?_ | refine blk_alloc ?_ _)); exact BK301.out) hb); have n5_ := Aside0.mk (below_step (by repeat (first | (with_reducible first | exact HB.out | apply below_alloc | apply pw_below_drewN | apply below_drew1 | refine below_set ?_ GE301.out) | exact HB.out)) hb); clear HO296; clear HO299; clear BK301; clear HB; have HO296 := n0_; have HO299 := n1_; have HO307 := n2_; have HO310 := n3_; have BK301 := n4_; have HB := n5_; clear n0_ n1_ n2_ n3_ n4_ n5_; (try clear hb); (try clear hb2); (try clear hk); (try clear hi); (try clear ho0); (try clear ho1)) | ((with_reducible refine gate_dst (N := 8) rfl ?_); refine box_event ?hg (N := 8) ?hd (cs := #[.int .i64 0, .int .i64 0, .int .i64 0, .slice none 0 0, .slice none 0 0]) (t := 37) ?hr ?_; (case hd => rfl); (case hg => rfl); (case hr => first | (go_simp; done) | (go_simp; rfl)); intro gb312 hg w42 hbox hb; have n0_ := Aside0.mk (Kd.R_below (by (with_reducible repeat (first | apply Kd.R_alloc | apply Kd.R_drewN | apply Kd.R_drew)); exact HO296.out) hb); have n1_ := Aside0.mk (Kd.R_below (Kd.R_elderB (by (with_reducible repeat (first | apply Kd.R_alloc | apply Kd.R_drewN | apply Kd.R_drew)); exact HO299.out) gb312 (Nat.le_of_eq hg.symm)) hb); have n2_ := Aside0.mk (Kd.R_below (by (with_reducible repeat (first | apply Kd.R_alloc | apply Kd.R_drewN | apply Kd.R_drew)); exact HO307.out) hb); have n3_ := Aside0.mk (Kd.R_below (Kd.R_elderB (by (with_reducible repeat (first | apply Kd.R_alloc | apply Kd.R_drewN | apply Kd.R_drew)); exact HO310.out) gb312 (Nat.le_of_eq hg.symm)) hb); have n4_ := Aside0.mk (blk_below (g := gb301) (o := .cells #[.int .i64 t291, .int .i64 t292, .int .i64 t293, .slice Ao39 t294.length co39, .slice Ao40 t297.length co40] 37 (0, 0)) (by (with_reducible repeat (first | refine blk_drewN ?_ _ | refine blk_drew ?_ | refine blk_alloc ?_ _)); exact BK301.out) hb); have n5_ := Aside0.mk (below_step (by repeat (first | (with_reducible first | exact HB.out | apply below_alloc | apply pw_below_drewN | apply below_drew1 | refine below_set ?_ GE301.out) | exact HB.out)) hb); have n6_ := Aside0.mk (hbox); have n7_ := Aside0.mk ((by rw [hg]; exact (below_size (by repeat (first | (with_reducible first | exact HB.out | apply below_alloc | apply pw_below_drewN | apply below_drew1 | refine below_set ?_ GE301.out) | exact HB.out))) : w.heap.size ≤ gb312)); have n8_ := Aside0.mk ((by rw [hg]; exact (below_size (by repeat (first | (with_reducible first | exact HB.out | apply below_alloc | apply pw_below_drewN | apply below_drew1 | refine below_set ?_ GE301.out) | exact HB.out))) : w.heap.size ≤ gb312)); have n9_ := Aside0.mk ((by rw [hg]; exact Nat.ne_of_lt (blk_lt (g := gb301) (o := .cells #[.int .i64 t291, .int .i64 t292, .int .i64 t293, .slice Ao39 t294.length co39, .slice Ao40 t297.length co40] 37 (0, 0)) (by (with_reducible repeat (first | refine blk_drewN ?_ _ | refine blk_drew ?_ | refine blk_alloc ?_ _)); exact BK301.out)) : gb301 ≠ gb312)); have n10_ := Aside0.mk ((by rw [hg]; exact Nat.ne_of_gt (blk_lt (g := gb301) (o := .cells #[.int .i64 t291, .int .i64 t292, .int .i64 t293, .slice Ao39 t294.length co39, .slice Ao40 t297.length co40] 37 (0, 0)) (by (with_reducible repeat (first | refine blk_drewN ?_ _ | refine blk_drew ?_ | refine blk_alloc ?_ _)); exact BK301.out)) : gb312 ≠ gb301)); clear HO296; clear HO299; clear HO307; clear HO310; clear BK301; clear HB; have HO296 := n0_; have HO299 := n1_; have HO307 := n2_; have HO310 := n3_; have BK301 := n4_; have HB := n5_; have BK312 := n6_; have GW312 := n7_; have GE312 := n8_; have NB301_312 := n9_; have NB312_301 := n10_; clear n0_ n1_ n2_ n3_ n4_ n5_ n6_ n7_ n8_ n9_ n10_; clear hb hbox hg; have hnb43 := NB312_301.out; have hnc43 := NB301_312.out; have hcz44_0 : w42.cell? ⟨gb312, 0, none⟩ = some (.int .i64 0) := (blk_cell BK312.out 0).trans rfl; have hcz44_1 : w42.cell? ⟨gb312, 1, none⟩ = some (.int .i64 0) := (blk_cell BK312.out 1).trans rfl; have hcz44_2 : w42.cell? ⟨gb312, 2, none⟩ = some (.int .i64 0) := (blk_cell BK312.out 2).trans rfl; have hcz44_3 : w42.cell? ⟨gb312, 3, none⟩ = some (.slice none 0 0) := (blk_cell BK312.out 3).trans rfl; have hcz44_4 : w42.cell? ⟨gb312, 4, none⟩ = some (.slice none 0 0) := (blk_cell BK312.out 4).trans rfl; have hfz44_0 := blk_frozen BK312.out 0; have hfz44_1 := blk_frozen BK312.out 1; have hfz44_2 := blk_frozen BK312.out 2; have hfz44_3 := blk_frozen BK312.out 3; have hfz44_4 := blk_frozen BK312.out 4; obtain ⟨Ao45, co45, eo45⟩ := Kd.R_slice HO307.out; subst eo45; obtain ⟨Ao46, co46, eo46⟩ := Kd.R_slice HO310.out; subst eo46))
                have n0_ : Aside0 (Kd.R k46 46 (((((w42.setCell ⟨gb312, 0, none⟩ (.int .i64 t302)).setCell ⟨gb312, 1, none⟩ (.int .i64 t303)).setCell ⟨gb312, 2, none⟩ (.int .i64 t304)).setCell ⟨gb312, 3, none⟩ (.slice Ao45 t305.length co45)).setCell ⟨gb312, 4, none⟩ (.slice Ao46 t308.length co46)) w.heap.size (fun k_ => some k_ ≠ (.slice Ao45 t305.length co45 : Value).ownBlock) (.slice Ao39 t294.length co39) t294) := ⟨by (with_reducible repeat (first | apply Kd.R_alloc | apply Kd.R_drewN | apply Kd.R_drew)); exact Kd.R_mono (Kd.R_far (p := ⟨gb312, 4, none⟩) (Kd.R_far (p := ⟨gb312, 3, none⟩) (Kd.R_far (p := ⟨gb312, 2, none⟩) (Kd.R_far (p := ⟨gb312, 1, none⟩) (Kd.R_far (p := ⟨gb312, 0, none⟩) (Kd.R_types HO296.out BK312.out (by decide)) (fun _ hk => hk.2) (.int .i64 t302)) (fun _ hk => hk.2) (.int .i64 t303)) (fun _ hk => hk.2) (.int .i64 t304)) (fun _ hk => hk.2) (.slice Ao45 t305.length co45)) (fun _ hk => hk.2) (.slice Ao46 t308.length co46)) (fun _ hk => hk.1.2)⟩
                have n1_ : Aside0 (Kd.R k37 37 (((((w42.setCell ⟨gb312, 0, none⟩ (.int .i64 t302)).setCell ⟨gb312, 1, none⟩ (.int .i64 t303)).setCell ⟨gb312, 2, none⟩ (.int .i64 t304)).setCell ⟨gb312, 3, none⟩ (.slice Ao45 t305.length co45)).setCell ⟨gb312, 4, none⟩ (.slice Ao46 t308.length co46)) w.heap.size (fun k_ => some k_ ≠ (.slice Ao39 t294.length co39 : Value).ownBlock ∧ some k_ ≠ (.slice Ao45 t305.length co45 : Value).ownBlock ∧ some k_ ≠ (.slice Ao46 t308.length co46 : Value).ownBlock ∧ k_ ≠ gb301 ∧ k_ ≠ gb312) (.slice Ao40 t297.length co40) t297) := ⟨by (with_reducible repeat (first | apply Kd.R_alloc | apply Kd.R_drewN | apply Kd.R_drew)); exact Kd.R_mono (Kd.R_far (p := ⟨gb312, 4, none⟩) (Kd.R_far (p := ⟨gb312, 3, none⟩) (Kd.R_far (p := ⟨gb312, 2, none⟩) (Kd.R_far (p := ⟨gb312, 1, none⟩) (Kd.R_far (p := ⟨gb312, 0, none⟩) (Kd.R_mono HO299.out (fun k_ hk => (⟨hk, hk.2⟩ : _ ∧ k_ ≠ gb312))) (fun _ hk => hk.2) (.int .i64 t302)) (fun _ hk => hk.2) (.int .i64 t303)) (fun _ hk => hk.2) (.int .i64 t304)) (fun _ hk => hk.2) (.slice Ao45 t305.length co45)) (fun _ hk => hk.2) (.slice Ao46 t308.length co46)) (fun _ hk => ⟨hk.1.1.1.1.1, ⟨hk.1.1.1.2, ⟨hk.1.1.2, ⟨hk.1.1.1.1.2, hk.1.2⟩⟩⟩⟩)⟩
                have n2_ : Aside0 (Kd.R k46 46 (((((w42.setCell ⟨gb312, 0, none⟩ (.int .i64 t302)).setCell ⟨gb312, 1, none⟩ (.int .i64 t303)).setCell ⟨gb312, 2, none⟩ (.int .i64 t304)).setCell ⟨gb312, 3, none⟩ (.slice Ao45 t305.length co45)).setCell ⟨gb312, 4, none⟩ (.slice Ao46 t308.length co46)) w.heap.size (fun k_ => some k_ ≠ (.slice Ao39 t294.length co39 : Value).ownBlock) (.slice Ao45 t305.length co45) t305) := ⟨by (with_reducible repeat (first | apply Kd.R_alloc | apply Kd.R_drewN | apply Kd.R_drew)); exact Kd.R_mono (Kd.R_far (p := ⟨gb312, 4, none⟩) (Kd.R_far (p := ⟨gb312, 3, none⟩) (Kd.R_far (p := ⟨gb312, 2, none⟩) (Kd.R_far (p := ⟨gb312, 1, none⟩) (Kd.R_far (p := ⟨gb312, 0, none⟩) (Kd.R_types HO307.out BK312.out (by decide)) (fun _ hk => hk.2) (.int .i64 t302)) (fun _ hk => hk.2) (.int .i64 t303)) (fun _ hk => hk.2) (.int .i64 t304)) (fun _ hk => hk.2) (.slice Ao45 t305.length co45)) (fun _ hk => hk.2) (.slice Ao46 t308.length co46)) (fun _ hk => hk.1.2)⟩
                have n3_ : Aside0 (Kd.R k37 37 (((((w42.setCell ⟨gb312, 0, none⟩ (.int .i64 t302)).setCell ⟨gb312, 1, none⟩ (.int .i64 t303)).setCell ⟨gb312, 2, none⟩ (.int .i64 t304)).setCell ⟨gb312, 3, none⟩ (.slice Ao45 t305.length co45)).setCell ⟨gb312, 4, none⟩ (.slice Ao46 t308.length co46)) w.heap.size (fun k_ => some k_ ≠ (.slice Ao39 t294.length co39 : Value).ownBlock ∧ some k_ ≠ (.slice Ao40 t297.length co40 : Value).ownBlock ∧ some k_ ≠ (.slice Ao45 t305.length co45 : Value).ownBlock ∧ k_ ≠ gb301 ∧ k_ ≠ gb312) (.slice Ao46 t308.length co46) t308) := ⟨by (with_reducible repeat (first | apply Kd.R_alloc | apply Kd.R_drewN | apply Kd.R_drew)); exact Kd.R_mono (Kd.R_far (p := ⟨gb312, 4, none⟩) (Kd.R_far (p := ⟨gb312, 3, none⟩) (Kd.R_far (p := ⟨gb312, 2, none⟩) (Kd.R_far (p := ⟨gb312, 1, none⟩) (Kd.R_far (p := ⟨gb312, 0, none⟩) (Kd.R_mono HO310.out (fun k_ hk => (⟨hk, hk.2⟩ : _ ∧ k_ ≠ gb312))) (fun _ hk => hk.2) (.int .i64 t302)) (fun _ hk => hk.2) (.int .i64 t303)) (fun _ hk => hk.2) (.int .i64 t304)) (fun _ hk => hk.2) (.slice Ao45 t305.length co45)) (fun _ hk => hk.2) (.slice Ao46 t308.length co46)) (fun _ hk => ⟨hk.1.1.1.1.2, ⟨hk.1.1.1.2, ⟨hk.1.1.1.1.1, ⟨hk.1.1.2, hk.1.2⟩⟩⟩⟩)⟩
                have n4_ : Aside0 ((((((w42.setCell ⟨gb312, 0, none⟩ (.int .i64 t302)).setCell ⟨gb312, 1, none⟩ (.int .i64 t303)).setCell ⟨gb312, 2, none⟩ (.int .i64 t304)).setCell ⟨gb312, 3, none⟩ (.slice Ao45 t305.length co45)).setCell ⟨gb312, 4, none⟩ (.slice Ao46 t308.length co46)).heap[gb301]? = some (.cells #[.int .i64 t291, .int .i64 t292, .int .i64 t293, .slice Ao39 t294.length co39, .slice Ao40 t297.length co40] 37 (0, 0))) := ⟨by (with_reducible repeat (first | refine blk_drewN ?_ _ | refine blk_drew ?_ | refine blk_alloc ?_ _)); refine blk_far ?_ NB301_312.out _; (with_reducible repeat (first | refine blk_drewN ?_ _ | refine blk_drew ?_ | refine blk_alloc ?_ _)); refine blk_far ?_ NB301_312.out _; (with_reducible repeat (first | refine blk_drewN ?_ _ | refine blk_drew ?_ | refine blk_alloc ?_ _)); refine blk_far ?_ NB301_312.out _; (with_reducible repeat (first | refine blk_drewN ?_ _ | refine blk_drew ?_ | refine blk_alloc ?_ _)); refine blk_far ?_ NB301_312.out _; (with_reducible repeat (first | refine blk_drewN ?_ _ | refine blk_drew ?_ | refine blk_alloc ?_ _)); refine blk_far ?_ NB301_312.out _; (with_reducible repeat (first | refine blk_drewN ?_ _ | refine blk_drew ?_ | refine blk_alloc ?_ _)); exact BK301.out⟩
                have n5_ : Aside0 ((((((w42.setCell ⟨gb312, 0, none⟩ (.int .i64 t302)).setCell ⟨gb312, 1, none⟩ (.int .i64 t303)).setCell ⟨gb312, 2, none⟩ (.int .i64 t304)).setCell ⟨gb312, 3, none⟩ (.slice Ao45 t305.length co45)).setCell ⟨gb312, 4, none⟩ (.slice Ao46 t308.length co46)).heap[gb312]? = some (.cells #[.int .i64 t302, .int .i64 t303, .int .i64 t304, .slice Ao45 t305.length co45, .slice Ao46 t308.length co46] 37 (0, 0))) := ⟨by (with_reducible repeat (first | refine blk_drewN ?_ _ | refine blk_drew ?_ | refine blk_alloc ?_ _)); refine blk_put (cs := #[.int .i64 t302, .int .i64 t303, .int .i64 t304, .slice Ao45 t305.length co45, .slice none 0 0]) ?_ 4 _ rfl; (with_reducible repeat (first | refine blk_drewN ?_ _ | refine blk_drew ?_ | refine blk_alloc ?_ _)); refine blk_put (cs := #[.int .i64 t302, .int .i64 t303, .int .i64 t304, .slice none 0 0, .slice none 0 0]) ?_ 3 _ rfl; (with_reducible repeat (first | refine blk_drewN ?_ _ | refine blk_drew ?_ | refine blk_alloc ?_ _)); refine blk_put (cs := #[.int .i64 t302, .int .i64 t303, .int .i64 0, .slice none 0 0, .slice none 0 0]) ?_ 2 _ rfl; (with_reducible repeat (first | refine blk_drewN ?_ _ | refine blk_drew ?_ | refine blk_alloc ?_ _)); refine blk_put (cs := #[.int .i64 t302, .int .i64 0, .int .i64 0, .slice none 0 0, .slice none 0 0]) ?_ 1 _ rfl; (with_reducible repeat (first | refine blk_drewN ?_ _ | refine blk_drew ?_ | refine blk_alloc ?_ _)); refine blk_put (cs := #[.int .i64 0, .int .i64 0, .int .i64 0, .slice none 0 0, .slice none 0 0]) ?_ 0 _ rfl; (with_reducible repeat (first | refine blk_drewN ?_ _ | refine blk_drew ?_ | refine blk_alloc ?_ _)); exact BK312.out⟩
                have n6_ : Aside0 (Below w.heap.size w (((((w42.setCell ⟨gb312, 0, none⟩ (.int .i64 t302)).setCell ⟨gb312, 1, none⟩ (.int .i64 t303)).setCell ⟨gb312, 2, none⟩ (.int .i64 t304)).setCell ⟨gb312, 3, none⟩ (.slice Ao45 t305.length co45)).setCell ⟨gb312, 4, none⟩ (.slice Ao46 t308.length co46))) := ⟨by repeat (first | (with_reducible first | exact HB.out | apply below_alloc | apply pw_below_drewN | apply below_drew1 | refine below_set ?_ GE301.out | refine below_set ?_ GE312.out) | exact HB.out)⟩
                (try clear HO296)
                (try clear HO299)
                (try clear HO307)
                (try clear HO310)
                (try clear BK301)
                (try clear BK312)
                (try clear HB)
                generalize (((((w42.setCell ⟨gb312, 0, none⟩ (.int .i64 t302)).setCell ⟨gb312, 1, none⟩ (.int .i64 t303)).setCell ⟨gb312, 2, none⟩ (.int .i64 t304)).setCell ⟨gb312, 3, none⟩ (.slice Ao45 t305.length co45)).setCell ⟨gb312, 4, none⟩ (.slice Ao46 t308.length co46)) = w47 at n0_ n1_ n2_ n3_ n4_ n5_ n6_ ⊢
                have HO296 := n0_
                have HO299 := n1_
                have HO307 := n2_
                have HO310 := n3_
                have BK301 := n4_
                have BK312 := n5_
                have HB := n6_
                clear n0_ n1_ n2_ n3_ n4_ n5_ n6_
                have n0_ := Aside0.mk (Kd.R_drew HO296.out)
                have n1_ := Aside0.mk (Kd.R_drew HO299.out)
                have n2_ := Aside0.mk (Kd.R_drew HO307.out)
                have n3_ := Aside0.mk (Kd.R_drew HO310.out)
                have n4_ := Aside0.mk (blk_drew BK301.out)
                have n5_ := Aside0.mk (blk_drew BK312.out)
                have n6_ := Aside0.mk (below_drew1 HB.out)
                clear HO296
                clear HO299
                clear HO307
                clear HO310
                clear BK301
                clear BK312
                clear HB
                have HO296 := n0_
                have HO299 := n1_
                have HO307 := n2_
                have HO310 := n3_
                have BK301 := n4_
                have BK312 := n5_
                have HB := n6_
                clear n0_ n1_ n2_ n3_ n4_ n5_ n6_
                refine start_ (n := 19) (S := fun w' => w'.cell? ⟨gb301, 0, none⟩ = some (.int .i64 t291) ∧ w'.cell? ⟨gb301, 1, none⟩ = some (.int .i64 t292) ∧ w'.cell? ⟨gb301, 2, none⟩ = some (.int .i64 t293) ∧ w'.cell? ⟨gb301, 3, none⟩ = some (.slice Ao39 t294.length co39) ∧ w'.cell? ⟨gb301, 4, none⟩ = some (.slice Ao40 t297.length co40) ∧ w'.cell? ⟨gb312, 0, none⟩ = some (.int .i64 t302) ∧ w'.cell? ⟨gb312, 1, none⟩ = some (.int .i64 t303) ∧ w'.cell? ⟨gb312, 2, none⟩ = some (.int .i64 t304) ∧ w'.cell? ⟨gb312, 3, none⟩ = some (.slice Ao45 t305.length co45) ∧ w'.cell? ⟨gb312, 4, none⟩ = some (.slice Ao46 t308.length co46)) (ds := []) #[false, false, false, false, false, false, false, false, false, false, false, false, false, false, false, false, false, false, false] (by kernel_rfl) rfl rfl ⟨(blk_cell BK301.out 0).trans rfl, (blk_cell BK301.out 1).trans rfl, (blk_cell BK301.out 2).trans rfl, (blk_cell BK301.out 3).trans rfl, (blk_cell BK301.out 4).trans rfl, (blk_cell BK312.out 0).trans rfl, (blk_cell BK312.out 1).trans rfl, (blk_cell BK312.out 2).trans rfl, (blk_cell BK312.out 3).trans rfl, (blk_cell BK312.out 4).trans rfl⟩ (fun hHeld => ?_); refine with_tabW laws_prSame.tab10 laws_prSame.bits10 (fun HT_ HW_ => ?_)
                generalize w47.drew = w48 at HO296 HO299 HO307 HO310 BK301 BK312 HB hHeld ⊢
                refine pure_ (i := 0) (N := some 40) (v := ?_) (a' := ?_) #[true, false, false, false, false, false, false, false, false, false, false, false, false, false, false, false, false, false, false] rfl rfl (any_of HT_.out (by kernel_rfl)) (fun _ _ _ h => h) (Or.inl ⟨by rfl, ?_⟩) ?_ ?_
                rotate_left
                · intro w'
                  go_simp
                  with_reducible rfl
                rotate_left
                · simp only [Act.put, List.setIfInBounds_toArray, List.set_cons_zero, List.set_cons_succ, i64_w, i32_w]
                  rfl
                refine pure_ (i := 1) (N := some 41) (v := ?_) (a' := ?_) #[true, true, false, false, false, false, false, false, false, false, false, false, false, false, false, false, false, false, false] rfl rfl (any_of HT_.out (by kernel_rfl)) (fun _ _ _ h => h) (Or.inl ⟨by rfl, ?_⟩) ?_ ?_
                rotate_left
                · intro w'
                  go_simp
                  with_reducible rfl
                rotate_left
                · simp only [Act.put, List.setIfInBounds_toArray, List.set_cons_zero, List.set_cons_succ, i64_w, i32_w]
                  rfl
                refine pure_ (i := 2) (N := some 42) (v := ?_) (a' := ?_) #[true, true, true, false, false, false, false, false, false, false, false, false, false, false, false, false, false, false, false] rfl rfl (any_of HT_.out (by kernel_rfl)) (fun _ _ _ h => h) (Or.inl ⟨by rfl, ?_⟩) ?_ ?_
                rotate_left
                · intro w'
                  go_simp
                  with_reducible rfl
                rotate_left
                · simp only [Act.put, List.setIfInBounds_toArray, List.set_cons_zero, List.set_cons_succ, i64_w, i32_w]
                  rfl
                refine pure_ (i := 3) (N := some 43) (v := ?_) (a' := ?_) #[true, true, true, true, false, false, false, false, false, false, false, false, false, false, false, false, false, false, false] rfl rfl (any_of HT_.out (by kernel_rfl)) (fun _ _ _ h => h) (Or.inl ⟨by rfl, ?_⟩) ?_ ?_
                rotate_left
                · intro w'
                  go_simp
                  with_reducible rfl
                rotate_left
                · simp only [Act.put, List.setIfInBounds_toArray, List.set_cons_zero, List.set_cons_succ, i64_w, i32_w]
                  rfl
                refine pure_ (i := 4) (N := some 44) (v := ?_) (a' := ?_) #[true, true, true, true, true, false, false, false, false, false, false, false, false, false, false, false, false, false, false] rfl rfl (any_of HT_.out (by kernel_rfl)) (fun _ _ _ h => h) (Or.inl ⟨by rfl, ?_⟩) ?_ ?_
                rotate_left
                · intro w'
                  go_simp
                  with_reducible rfl
                rotate_left
                · simp only [Act.put, List.setIfInBounds_toArray, List.set_cons_zero, List.set_cons_succ, i64_w, i32_w]
                  rfl
                refine take_ (i := 5) (N := some 45) (v := ?_) (a' := ?_) #[true, true, true, true, true, true, false, false, false, false, false, false, false, false, false, false, false, false, false] rfl rfl (take_ofW HT_.out HW_.out (by kernel_rfl)) (fun _ _ _ h => h) (Or.inl ⟨by rfl, ?_⟩) hHeld ?_ ?_
                rotate_left
                · rintro w' ⟨s0, s1, s2, s3, s4, s5, s6, s7, s8, s9⟩
                  go_simp
                  with_reducible rfl
                rotate_left
                · simp only [Act.put, List.setIfInBounds_toArray, List.set_cons_zero, List.set_cons_succ, i64_w, i32_w]
                  rfl
                refine take_ (i := 6) (N := some 46) (v := ?_) (a' := ?_) #[true, true, true, true, true, true, true, false, false, false, false, false, false, false, false, false, false, false, false] rfl rfl (take_ofW HT_.out HW_.out (by kernel_rfl)) (fun _ _ _ h => h) (Or.inl ⟨by rfl, ?_⟩) hHeld ?_ ?_
                rotate_left
                · rintro w' ⟨s0, s1, s2, s3, s4, s5, s6, s7, s8, s9⟩
                  go_simp
                  with_reducible rfl
                rotate_left
                · simp only [Act.put, List.setIfInBounds_toArray, List.set_cons_zero, List.set_cons_succ, i64_w, i32_w]
                  rfl
                refine one_ (i := 7) (N := some 47) #[true, true, true, true, true, true, true, true, false, false, false, false, false, false, false, false, false, false, false] rfl rfl (one_of HT_.out (by kernel_rfl)) (by decide) (fun K hK => ?_)
                refine goes_ Try.func11 (by kernel_rfl) rfl #[.agg #[.int .i64 t291, .int .i64 t292, .int .i64 t293, .slice Ao39 t294.length co39, .slice Ao40 t297.length co40], .agg #[.int .i64 t302, .int .i64 t303, .int .i64 t304, .slice Ao45 t305.length co45, .slice Ao46 t308.length co46]] (by rfl) rfl rfl (by (try simp only [List.map_toArray, List.map_cons, List.map_nil]); first | done | rfl | (simp only [List.length_drop, List.length_take]; rfl)) ?_
                with_reducible refine (laws_prPlaced.calls k1 t291 t292 t293 _ _ t294 _ _ t297 t302 t303 t304 _ _ t305 _ _ t308 false _ ?side1 ?side2 ?side3 ?side4 ?side5 ?side6 ?side7 ?side8 A16.out).mono ?_
                (case side1 => repeat (first | exact (Kd.R_reads' HO296.out).2.2 | (with_reducible refine Kd.C_alloc ?_ _) | (with_reducible refine Kd.C_drewN ?_ _) | (with_reducible refine Kd.C_drew ?_)))
                (case side2 => exact (Kd.R_reads' HO296.out).2.1)
                (case side3 => repeat (first | exact (Kd.R_reads' HO299.out).2.2 | (with_reducible refine Kd.C_alloc ?_ _) | (with_reducible refine Kd.C_drewN ?_ _) | (with_reducible refine Kd.C_drew ?_)))
                (case side4 => exact (Kd.R_reads' HO299.out).2.1)
                (case side5 => repeat (first | exact (Kd.R_reads' HO307.out).2.2 | (with_reducible refine Kd.C_alloc ?_ _) | (with_reducible refine Kd.C_drewN ?_ _) | (with_reducible refine Kd.C_drew ?_)))
                (case side6 => exact (Kd.R_reads' HO307.out).2.1)
                (case side7 => repeat (first | exact (Kd.R_reads' HO310.out).2.2 | (with_reducible refine Kd.C_alloc ?_ _) | (with_reducible refine Kd.C_drewN ?_ _) | (with_reducible refine Kd.C_drew ?_)))
                (case side8 => exact (Kd.R_reads' HO310.out).2.1)
                rintro e w49 ⟨rfl, hb⟩
                refine ⟨_, rfl, ?_⟩
                have n0_ := Aside0.mk (Kd.R_below (by (with_reducible repeat (first | apply Kd.R_alloc | apply Kd.R_drewN | apply Kd.R_drew)); exact HO296.out) hb)
                have n1_ := Aside0.mk (Kd.R_below (by (with_reducible repeat (first | apply Kd.R_alloc | apply Kd.R_drewN | apply Kd.R_drew)); exact HO299.out) hb)
                have n2_ := Aside0.mk (Kd.R_below (by (with_reducible repeat (first | apply Kd.R_alloc | apply Kd.R_drewN | apply Kd.R_drew)); exact HO307.out) hb)
                have n3_ := Aside0.mk (Kd.R_below (by (with_reducible repeat (first | apply Kd.R_alloc | apply Kd.R_drewN | apply Kd.R_drew)); exact HO310.out) hb)
                have n4_ := Aside0.mk (blk_below (g := gb301) (o := .cells #[.int .i64 t291, .int .i64 t292, .int .i64 t293, .slice Ao39 t294.length co39, .slice Ao40 t297.length co40] 37 (0, 0)) (by (with_reducible repeat (first | refine blk_drewN ?_ _ | refine blk_drew ?_ | refine blk_alloc ?_ _)); exact BK301.out) hb)
                have n5_ := Aside0.mk (blk_below (g := gb312) (o := .cells #[.int .i64 t302, .int .i64 t303, .int .i64 t304, .slice Ao45 t305.length co45, .slice Ao46 t308.length co46] 37 (0, 0)) (by (with_reducible repeat (first | refine blk_drewN ?_ _ | refine blk_drew ?_ | refine blk_alloc ?_ _)); exact BK312.out) hb)
                have n6_ := Aside0.mk (below_step (by repeat (first | (with_reducible first | exact HB.out | apply below_alloc | apply pw_below_drewN | apply below_drew1 | refine below_set ?_ GE301.out | refine below_set ?_ GE312.out) | exact HB.out)) hb)
                clear HO296
                clear HO299
                clear HO307
                clear HO310
                clear BK301
                clear BK312
                clear HB
                have HO296 := n0_
                have HO299 := n1_
                have HO307 := n2_
                have HO310 := n3_
                have BK301 := n4_
                have BK312 := n5_
                have HB := n6_
                clear n0_ n1_ n2_ n3_ n4_ n5_ n6_
                (try clear hb)
                (try clear hb2)
                (try clear hk)
                (try clear hi)
                refine hK.out _ _ ⟨(blk_cell BK301.out 0).trans rfl, (blk_cell BK301.out 1).trans rfl, (blk_cell BK301.out 2).trans rfl, (blk_cell BK301.out 3).trans rfl, (blk_cell BK301.out 4).trans rfl, (blk_cell BK312.out 0).trans rfl, (blk_cell BK312.out 1).trans rfl, (blk_cell BK312.out 2).trans rfl, (blk_cell BK312.out 3).trans rfl, (blk_cell BK312.out 4).trans rfl⟩ (fun hHeld => ?_)
                clear hK K
                refine norm_ (a' := ?_) ?_ ?_
                rotate_left
                · show Act.put _ (some 47) _ = _
                  simp only [Act.put, List.setIfInBounds_toArray, List.set_cons_zero, List.set_cons_succ, i64_w, i32_w]
                  rfl
                refine pure_ (i := 8) (N := some 48) (v := ?_) (a' := ?_) #[true, true, true, true, true, true, true, true, true, false, false, false, false, false, false, false, false, false, false] rfl rfl (any_of HT_.out (by kernel_rfl)) (fun _ _ _ h => h) (Or.inl ⟨by rfl, ?_⟩) ?_ ?_
                rotate_left
                · intro w'
                  go_simp
                  with_reducible rfl
                rotate_left
                · simp only [Act.put, List.setIfInBounds_toArray, List.set_cons_zero, List.set_cons_succ, i64_w, i32_w]
                  rfl
                refine pure_ (i := 9) (N := some 49) (v := ?_) (a' := ?_) #[true, true, true, true, true, true, true, true, true, true, false, false, false, false, false, false, false, false, false] rfl rfl (any_of HT_.out (by kernel_rfl)) (fun _ _ _ h => h) (Or.inl ⟨by rfl, ?_⟩) ?_ ?_
                rotate_left
                · intro w'
                  go_simp
                  with_reducible rfl
                rotate_left
                · simp only [Act.put, List.setIfInBounds_toArray, List.set_cons_zero, List.set_cons_succ, i64_w, i32_w]
                  rfl
                refine pure_ (i := 10) (N := some 50) (v := undef) (a' := ?_) #[true, true, true, true, true, true, true, true, true, true, true, false, false, false, false, false, false, false, false] rfl rfl (any_of HT_.out (by kernel_rfl)) (fun _ _ _ h => h) (Or.inr ⟨by rfl, rfl⟩) ?_ ?_
                rotate_left
                · simp only [Act.put, List.setIfInBounds_toArray, List.set_cons_zero, List.set_cons_succ, i64_w, i32_w]
                  rfl
                refine pure_ (i := 11) (N := some 51) (v := undef) (a' := ?_) #[true, true, true, true, true, true, true, true, true, true, true, true, false, false, false, false, false, false, false] rfl rfl (any_of HT_.out (by kernel_rfl)) (fun _ _ _ h => h) (Or.inr ⟨by rfl, rfl⟩) ?_ ?_
                rotate_left
                · simp only [Act.put, List.setIfInBounds_toArray, List.set_cons_zero, List.set_cons_succ, i64_w, i32_w]
                  rfl
                refine pure_ (i := 12) (N := some 52) (v := undef) (a' := ?_) #[true, true, true, true, true, true, true, true, true, true, true, true, true, false, false, false, false, false, false] rfl rfl (any_of HT_.out (by kernel_rfl)) (fun _ _ _ h => h) (Or.inr ⟨by rfl, rfl⟩) ?_ ?_
                rotate_left
                · simp only [Act.put, List.setIfInBounds_toArray, List.set_cons_zero, List.set_cons_succ, i64_w, i32_w]
                  rfl
                refine pure_ (i := 13) (N := some 53) (v := undef) (a' := ?_) #[true, true, true, true, true, true, true, true, true, true, true, true, true, true, false, false, false, false, false] rfl rfl (any_of HT_.out (by kernel_rfl)) (fun _ _ _ h => h) (Or.inr ⟨by rfl, rfl⟩) ?_ ?_
                rotate_left
                · simp only [Act.put, List.setIfInBounds_toArray, List.set_cons_zero, List.set_cons_succ, i64_w, i32_w]
                  rfl
                refine pure_ (i := 14) (N := some 54) (v := undef) (a' := ?_) #[true, true, true, true, true, true, true, true, true, true, true, true, true, true, true, false, false, false, false] rfl rfl (any_of HT_.out (by kernel_rfl)) (fun _ _ _ h => h) (Or.inr ⟨by rfl, rfl⟩) ?_ ?_
                rotate_left
                · simp only [Act.put, List.setIfInBounds_toArray, List.set_cons_zero, List.set_cons_succ, i64_w, i32_w]
                  rfl
                refine pure_ (i := 15) (N := some 55) (v := undef) (a' := ?_) #[true, true, true, true, true, true, true, true, true, true, true, true, true, true, true, true, false, false, false] rfl rfl (any_of HT_.out (by kernel_rfl)) (fun _ _ _ h => h) (Or.inr ⟨by rfl, rfl⟩) ?_ ?_
                rotate_left
                · simp only [Act.put, List.setIfInBounds_toArray, List.set_cons_zero, List.set_cons_succ, i64_w, i32_w]
                  rfl
                refine pure_ (i := 16) (N := some 56) (v := undef) (a' := ?_) #[true, true, true, true, true, true, true, true, true, true, true, true, true, true, true, true, true, false, false] rfl rfl (any_of HT_.out (by kernel_rfl)) (fun _ _ _ h => h) (Or.inr ⟨by rfl, rfl⟩) ?_ ?_
                rotate_left
                · simp only [Act.put, List.setIfInBounds_toArray, List.set_cons_zero, List.set_cons_succ, i64_w, i32_w]
                  rfl
                refine pure_ (i := 17) (N := some 57) (v := ?_) (a' := ?_) #[true, true, true, true, true, true, true, true, true, true, true, true, true, true, true, true, true, true, false] rfl rfl (any_of HT_.out (by kernel_rfl)) (fun _ _ _ h => h) (Or.inl ⟨by rfl, ?_⟩) ?_ ?_
                rotate_left
                · intro w'
                  go_simp
                  with_reducible rfl
                rotate_left
                · simp only [Act.put, List.setIfInBounds_toArray, List.set_cons_zero, List.set_cons_succ, i64_w, i32_w]
                  rfl
                refine pure_ (i := 18) (N := some 4) (v := ?_) (a' := ?_) #[true, true, true, true, true, true, true, true, true, true, true, true, true, true, true, true, true, true, true] rfl rfl (any_of HT_.out (by kernel_rfl)) (fun _ _ _ h => h) (Or.inl ⟨by rfl, ?_⟩) ?_ ?_
                rotate_left
                · intro w'
                  go_simp
                  with_reducible rfl
                rotate_left
                · simp only [Act.put, List.setIfInBounds_toArray, List.set_cons_zero, List.set_cons_succ, i64_w, i32_w]
                  rfl
                refine done_ (done_of HT_.out (by kernel_rfl)) ?_
                try go_wp2
                go_ret
                exact ⟨by first | rfl | (simp [errW_none, errW_some] <;> rfl) | (simp [*, errW_none, errW_some] <;> rfl), by repeat (first | (with_reducible first | exact HB.out | apply below_alloc | apply pw_below_drewN | apply below_drew1 | refine below_set ?_ GE301.out | refine below_set ?_ GE312.out) | exact HB.out)⟩
            · replace c15 := Bool.eq_false_iff.mpr c15
              subst c15
              have H1 : (some false) = some r := by rw [if_neg (show ¬ (false = true) by decide)] at H; exact H
              clear H
              have H := H1
              clear H1
              obtain rfl := Option.some.inj H
              try go_wp2_with (first | ((with_reducible refine gate_callee (f := 10) rfl ?_); refine goesL_ (some 32) rfl rfl Try.func10 (by kernel_rfl) rfl #[.string a0] rfl (by (try simp only [List.map_toArray, List.map_cons, List.map_nil]); first | done | rfl | (simp only [List.length_drop, List.length_take]; rfl)) ?_; (with_reducible refine (spec_Places.calls k1 a0 t291 t292 t293 t294 t297 true _ A12.out).mono ?_); rintro e w50 ⟨v295, v298, rfl, ho0, ho1, hb⟩; refine ⟨_, rfl, ?_⟩; have n0_ := Aside0.mk (Kd.R_lower ho0 (below_size (by repeat (first | (with_reducible first | exact HB.out | apply below_alloc | apply pw_below_drewN | apply below_drew1) | exact HB.out)))); have n1_ := Aside0.mk (Kd.R_lower ho1 (below_size (by repeat (first | (with_reducible first | exact HB.out | apply below_alloc | apply pw_below_drewN | apply below_drew1) | exact HB.out)))); have n2_ := Aside0.mk (below_step (by repeat (first | (with_reducible first | exact HB.out | apply below_alloc | apply pw_below_drewN | apply below_drew1) | exact HB.out)) hb); clear HB; have HO296 := n0_; have HO299 := n1_; have HB := n2_; clear n0_ n1_ n2_; (try clear hb); (try clear hb2); (try clear hk); (try clear hi); (try clear ho0); (try clear ho1)) | ((with_reducible refine gate_dst (N := 6) rfl ?_); refine box_event ?hg (N := 6) ?hd (cs := #[.int .i64 0, .int .i64 0, .int .i64 0, .slice none 0 0, .slice none 0 0]) (t := 37) ?hr ?_; (case hd => rfl); (case hg => rfl); (case hr => first | (go_simp; done) | (go_simp; rfl)); intro gb301 hg w51 hbox hb; have n0_ := Aside0.mk (Kd.R_below (by (with_reducible repeat (first | apply Kd.R_alloc | apply Kd.R_drewN | apply Kd.R_drew)); exact HO296.out) hb); have n1_ := Aside0.mk (Kd.R_below (Kd.R_elderB (by (with_reducible repeat (first | apply Kd.R_alloc | apply Kd.R_drewN | apply Kd.R_drew)); exact HO299.out) gb301 (Nat.le_of_eq hg.symm)) hb); have n2_ := Aside0.mk (below_step (by repeat (first | (with_reducible first | exact HB.out | apply below_alloc | apply pw_below_drewN | apply below_drew1) | exact HB.out)) hb); have n3_ := Aside0.mk (hbox); have n4_ := Aside0.mk ((by rw [hg]; exact (below_size (by repeat (first | (with_reducible first | exact HB.out | apply below_alloc | apply pw_below_drewN | apply below_drew1) | exact HB.out))) : w.heap.size ≤ gb301)); have n5_ := Aside0.mk ((by rw [hg]; exact (below_size (by repeat (first | (with_reducible first | exact HB.out | apply below_alloc | apply pw_below_drewN | apply below_drew1) | exact HB.out))) : w.heap.size ≤ gb301)); clear HO296; clear HO299; clear HB; have HO296 := n0_; have HO299 := n1_; have HB := n2_; have BK301 := n3_; have GW301 := n4_; have GE301 := n5_; clear n0_ n1_ n2_ n3_ n4_ n5_; clear hb hbox hg; have hcz52_0 : w51.cell? ⟨gb301, 0, none⟩ = some (.int .i64 0) := (blk_cell BK301.out 0).trans rfl; have hcz52_1 : w51.cell? ⟨gb301, 1, none⟩ = some (.int .i64 0) := (blk_cell BK301.out 1).trans rfl; have hcz52_2 : w51.cell? ⟨gb301, 2, none⟩ = some (.int .i64 0) := (blk_cell BK301.out 2).trans rfl; have hcz52_3 : w51.cell? ⟨gb301, 3, none⟩ = some (.slice none 0 0) := (blk_cell BK301.out 3).trans rfl; have hcz52_4 : w51.cell? ⟨gb301, 4, none⟩ = some (.slice none 0 0) := (blk_cell BK301.out 4).trans rfl; have hfz52_0 := blk_frozen BK301.out 0; have hfz52_1 := blk_frozen BK301.out 1; have hfz52_2 := blk_frozen BK301.out 2; have hfz52_3 := blk_frozen BK301.out 3; have hfz52_4 := blk_frozen BK301.out 4; obtain ⟨Ao53, co53, eo53⟩ := Kd.R_slice HO296.out; subst eo53; obtain ⟨Ao54, co54, eo54⟩ := Kd.R_slice HO299.out; subst eo54) | ((with_reducible refine gate_callee (f := 10) rfl ?_); refine goesL_ (some 37) rfl rfl Try.func10 (by kernel_rfl) rfl #[.string a1] rfl (by (try simp only [List.map_toArray, List.map_cons, List.map_nil]); first | done | rfl | (simp only [List.length_drop, List.length_take]; rfl)) ?_; (with_reducible refine (spec_Places.calls k1 a1 t302 t303 t304 t305 t308 false _ A13.out).mono ?_); rintro e w55 ⟨v306, v309, rfl, ho0, ho1, hb⟩; refine ⟨_, rfl, ?_⟩; have n0_ := Aside0.mk (Kd.R_elder' (by (with_reducible repeat (first | apply Kd.R_alloc | apply Kd.R_drewN | apply Kd.R_drew)); exact (Kd.R_mono (Kd.R_far (p := ⟨gb301, 4, none⟩) (Kd.R_far (p := ⟨gb301, 3, none⟩) (Kd.R_far (p := ⟨gb301, 2, none⟩) (Kd.R_far (p := ⟨gb301, 1, none⟩) (Kd.R_far (p := ⟨gb301, 0, none⟩) (Kd.R_types HO296.out BK301.out (by decide)) (fun _ hk => hk.2) (.int .i64 t291)) (fun _ hk => hk.2) (.int .i64 t292)) (fun _ hk => hk.2) (.int .i64 t293)) (fun _ hk => hk.2) (.slice Ao53 t294.length co53)) (fun _ hk => hk.2) (.slice Ao54 t297.length co54)) (fun _ h_ => h_.1))) (Kd.R_base ho0) hb); have n1_ := Aside0.mk (Kd.R_mono (Kd.R_told (Kd.R_told (Kd.R_old (by (with_reducible repeat (first | apply Kd.R_alloc | apply Kd.R_drewN | apply Kd.R_drew)); exact (Kd.R_mono (Kd.R_far (p := ⟨gb301, 4, none⟩) (Kd.R_far (p := ⟨gb301, 3, none⟩) (Kd.R_far (p := ⟨gb301, 2, none⟩) (Kd.R_far (p := ⟨gb301, 1, none⟩) (Kd.R_far (p := ⟨gb301, 0, none⟩) (Kd.R_mono HO299.out (fun k_ hk => (⟨hk, hk.2⟩ : _ ∧ k_ ≠ gb301))) (fun _ hk => hk.2) (.int .i64 t291)) (fun _ hk => hk.2) (.int .i64 t292)) (fun _ hk => hk.2) (.int .i64 t293)) (fun _ hk => hk.2) (.slice Ao53 t294.length co53)) (fun _ hk => hk.2) (.slice Ao54 t297.length co54)) (fun _ h_ => h_.1))) hb) (Kd.R_base ho0)) (Kd.R_base ho1)) (fun _ h_ => h_.1)); have n2_ := Aside0.mk (Kd.R_lower (Kd.R_new' ho0 (Kd.R_lt (by (with_reducible repeat (first | apply Kd.R_alloc | apply Kd.R_drewN | apply Kd.R_drew)); exact (Kd.R_mono (Kd.R_far (p := ⟨gb301, 4, none⟩) (Kd.R_far (p := ⟨gb301, 3, none⟩) (Kd.R_far (p := ⟨gb301, 2, none⟩) (Kd.R_far (p := ⟨gb301, 1, none⟩) (Kd.R_far (p := ⟨gb301, 0, none⟩) (Kd.R_types HO296.out BK301.out (by decide)) (fun _ hk => hk.2) (.int .i64 t291)) (fun _ hk => hk.2) (.int .i64 t292)) (fun _ hk => hk.2) (.int .i64 t293)) (fun _ hk => hk.2) (.slice Ao53 t294.length co53)) (fun _ hk => hk.2) (.slice Ao54 t297.length co54)) (fun _ h_ => h_.1))))) (below_size (by repeat (first | (with_reducible first | exact HB.out | apply below_alloc | apply pw_below_drewN | apply below_drew1 | refine below_set ?_ GE301.out) | exact HB.out)))); have n3_ := Aside0.mk (Kd.R_lower (Kd.R_newB (Kd.R_new' (Kd.R_new' ho1 (Kd.R_lt (by (with_reducible repeat (first | apply Kd.R_alloc | apply Kd.R_drewN | apply Kd.R_drew)); exact (Kd.R_mono (Kd.R_far (p := ⟨gb301, 4, none⟩) (Kd.R_far (p := ⟨gb301, 3, none⟩) (Kd.R_far (p := ⟨gb301, 2, none⟩) (Kd.R_far (p := ⟨gb301, 1, none⟩) (Kd.R_far (p := ⟨gb301, 0, none⟩) (Kd.R_types HO296.out BK301.out (by decide)) (fun _ hk => hk.2) (.int .i64 t291)) (fun _ hk => hk.2) (.int .i64 t292)) (fun _ hk => hk.2) (.int .i64 t293)) (fun _ hk => hk.2) (.slice Ao53 t294.length co53)) (fun _ hk => hk.2) (.slice Ao54 t297.length co54)) (fun _ h_ => h_.1))))) (Kd.R_lt (by (with_reducible repeat (first | apply Kd.R_alloc | apply Kd.R_drewN | apply Kd.R_drew)); exact (Kd.R_mono (Kd.R_far (p := ⟨gb301, 4, none⟩) (Kd.R_far (p := ⟨gb301, 3, none⟩) (Kd.R_far (p := ⟨gb301, 2, none⟩) (Kd.R_far (p := ⟨gb301, 1, none⟩) (Kd.R_far (p := ⟨gb301, 0, none⟩) (Kd.R_mono HO299.out (fun k_ hk => (⟨hk, hk.2⟩ : _ ∧ k_ ≠ gb301))) (fun _ hk => hk.2) (.int .i64 t291)) (fun _ hk => hk.2) (.int .i64 t292)) (fun _ hk => hk.2) (.int .i64 t293)) (fun _ hk => hk.2) (.slice Ao53 t294.length co53)) (fun _ hk => hk.2) (.slice Ao54 t297.length co54)) (fun _ h_ => h_.1))))) (g := gb301) (o := .cells #[.int .i64 t291, .int .i64 t292, .int .i64 t293, .slice Ao53 t294.length co53, .slice Ao54 t297.length co54] 37 (0, 0)) (by (with_reducible repeat (first | refine blk_drewN ?_ _ | refine blk_drew ?_ | refine blk_alloc ?_ _)); refine blk_put (cs := #[.int .i64 t291, .int .i64 t292, .int .i64 t293, .slice Ao53 t294.length co53, .slice none 0 0]) ?_ 4 _ rfl; (with_reducible repeat (first | refine blk_drewN ?_ _ | refine blk_drew ?_ | refine blk_alloc ?_ _)); refine blk_put (cs := #[.int .i64 t291, .int .i64 t292, .int .i64 t293, .slice none 0 0, .slice none 0 0]) ?_ 3 _ rfl; (with_reducible repeat (first | refine blk_drewN ?_ _ | refine blk_drew ?_ | refine blk_alloc ?_ _)); refine blk_put (cs := #[.int .i64 t291, .int .i64 t292, .int .i64 0, .slice none 0 0, .slice none 0 0]) ?_ 2 _ rfl; (with_reducible repeat (first | refine blk_drewN ?_ _ | refine blk_drew ?_ | refine blk_alloc ?_ _)); refine blk_put (cs := #[.int .i64 t291, .int .i64 0, .int .i64 0, .slice none 0 0, .slice none 0 0]) ?_ 1 _ rfl; (with_reducible repeat (first | refine blk_drewN ?_ _ | refine blk_drew ?_ | refine blk_alloc ?_ _)); refine blk_put (cs := #[.int .i64 0, .int .i64 0, .int .i64 0, .slice none 0 0, .slice none 0 0]) ?_ 0 _ rfl; (with_reducible repeat (first | refine blk_drewN ?_ _ | refine blk_drew ?_ | refine blk_alloc ?_ _)); exact BK301.out)) (below_size (by repeat (first | (with_reducible first | exact HB.out | apply below_alloc | apply pw_below_drewN | apply below_drew1 | refine below_set ?_ GE301.out) | exact HB.out)))); have n4_ := Aside0.mk (blk_below (g := gb301) (o := .cells #[.int .i64 t291, .int .i64 t292, .int .i64 t293, .slice Ao53 t294.length co53, .slice Ao54 t297.length co54] 37 (0, 0)) (by (with_reducible repeat (first | refine blk_drewN ?_ _ | refine blk_drew ?_ | refine blk_alloc ?_ _)); refine blk_put (cs := #[.int .i64 t291, .int .i64 t292, .int .i64 t293, .slice Ao53 t294.length co53, .slice none 0 0]) ?_ 4 _ rfl; (with_reducible repeat (first | refine blk_drewN ?_ _ | refine blk_drew ?_ | refine blk_alloc ?_ _)); refine blk_put (cs := #[.int .i64 t291, .int .i64 t292, .int .i64 t293, .slice none 0 0, .slice none 0 0]) ?_ 3 _ rfl; (with_reducible repeat (first | refine blk_drewN ?_ _ | refine blk_drew ?_ | refine blk_alloc ?_ _)); refine blk_put (cs := #[.int .i64 t291, .int .i64 t292, .int .i64 0, .slice none 0 0, .slice none 0 0]) ?_ 2 _ rfl; (with_reducible repeat (first | refine blk_drewN ?_ _ | refine blk_drew ?_ | refine blk_alloc ?_ _)); refine blk_put (cs := #[.int .i64 t291, .int .i64 0, .int .i64 0, .slice none 0 0, .slice none 0 0]) ?_ 1 _ rfl; (with_reducible repeat (first | refine blk_drewN ?_ _ | refine blk_drew ?_ | refine blk_alloc ?_ _)); refine blk_put (cs := #[.int .i64 0, .int .i64 0, .int .i64 0, .slice none 0 0, .slice none 0 0]) ?_ 0 _ rfl; (with_reducible repeat (first | refine blk_drewN ?_ _ | refine blk_drew ?_ | refine blk_alloc ?_ _)); exact BK301.out) hb); have n5_ := Aside0.mk (below_step (by repeat (first | (with_reducible first | exact HB.out | apply below_alloc | apply pw_below_drewN | apply below_drew1 | refine below_set ?_ GE301.out) | exact HB.out)) hb); clear HO296; clear HO299; clear BK301; clear HB; have HO296 := n0_; have HO299 := n1_; have HO307 := n2_; have HO310 := n3_; have BK301 := n4_; have HB := n5_; clear n0_ n1_ n2_ n3_ n4_ n5_; (try clear hb); (try clear hb2); (try clear hk); (try clear hi); (try clear ho0); (try clear ho1)) | ((with_reducible refine gate_dst (N := 8) rfl ?_); refine box_event ?hg (N := 8) ?hd (cs := #[.int .i64 0, .int .i64 0, .int .i64 0, .slice none 0 0, .slice none 0 0]) (t := 37) ?hr ?_; (case hd => rfl); (case hg => rfl); (case hr => first | (go_simp; done) | (go_simp; rfl)); intro gb312 hg w56 hbox hb; have n0_ := Aside0.mk (Kd.R_below (by (with_reducible repeat (first | apply Kd.R_alloc | apply Kd.R_drewN | apply Kd.R_drew)); exact HO296.out) hb); have n1_ := Aside0.mk (Kd.R_below (Kd.R_elderB (by (with_reducible repeat (first | apply Kd.R_alloc | apply Kd.R_drewN | apply Kd.R_drew)); exact HO299.out) gb312 (Nat.le_of_eq hg.symm)) hb); have n2_ := Aside0.mk (Kd.R_below (by (with_reducible repeat (first | apply Kd.R_alloc | apply Kd.R_drewN | apply Kd.R_drew)); exact HO307.out) hb); have n3_ := Aside0.mk (Kd.R_below (Kd.R_elderB (by (with_reducible repeat (first | apply Kd.R_alloc | apply Kd.R_drewN | apply Kd.R_drew)); exact HO310.out) gb312 (Nat.le_of_eq hg.symm)) hb); have n4_ := Aside0.mk (blk_below (g := gb301) (o := .cells #[.int .i64 t291, .int .i64 t292, .int .i64 t293, .slice Ao53 t294.length co53, .slice Ao54 t297.length co54] 37 (0, 0)) (by (with_reducible repeat (first | refine blk_drewN ?_ _ | refine blk_drew ?_ | refine blk_alloc ?_ _)); exact BK301.out) hb); have n5_ := Aside0.mk (below_step (by repeat (first | (with_reducible first | exact HB.out | apply below_alloc | apply pw_below_drewN | apply below_drew1 | refine below_set ?_ GE301.out) | exact HB.out)) hb); have n6_ := Aside0.mk (hbox); have n7_ := Aside0.mk ((by rw [hg]; exact (below_size (by repeat (first | (with_reducible first | exact HB.out | apply below_alloc | apply pw_below_drewN | apply below_drew1 | refine below_set ?_ GE301.out) | exact HB.out))) : w.heap.size ≤ gb312)); have n8_ := Aside0.mk ((by rw [hg]; exact (below_size (by repeat (first | (with_reducible first | exact HB.out | apply below_alloc | apply pw_below_drewN | apply below_drew1 | refine below_set ?_ GE301.out) | exact HB.out))) : w.heap.size ≤ gb312)); have n9_ := Aside0.mk ((by rw [hg]; exact Nat.ne_of_lt (blk_lt (g := gb301) (o := .cells #[.int .i64 t291, .int .i64 t292, .int .i64 t293, .slice Ao53 t294.length co53, .slice Ao54 t297.length co54] 37 (0, 0)) (by (with_reducible repeat (first | refine blk_drewN ?_ _ | refine blk_drew ?_ | refine blk_alloc ?_ _)); exact BK301.out)) : gb301 ≠ gb312)); have n10_ := Aside0.mk ((by rw [hg]; exact Nat.ne_of_gt (blk_lt (g := gb301) (o := .cells #[.int .i64 t291, .int .i64 t292, .int .i64 t293, .slice Ao53 t294.length co53, .slice Ao54 t297.length co54] 37 (0, 0)) (by (with_reducible repeat (first | refine blk_drewN ?_ _ | refine blk_drew ?_ | refine blk_alloc ?_ _)); exact BK301.out)) : gb312 ≠ gb301)); clear HO296; clear HO299; clear HO307; clear HO310; clear BK301; clear HB; have HO296 := n0_; have HO299 := n1_; have HO307 := n2_; have HO310 := n3_; have BK301 := n4_; have HB := n5_; have BK312 := n6_; have GW312 := n7_; have GE312 := n8_; have NB301_312 := n9_; have NB312_301 := n10_; clear n0_ n1_ n2_ n3_ n4_ n5_ n6_ n7_ n8_ n9_ n10_; clear hb hbox hg; have hnb57 := NB312_301.out; have hnc57 := NB301_312.out; have hcz58_0 : w56.cell? ⟨gb312, 0, none⟩ = some (.int .i64 0) := (blk_cell BK312.out 0).trans rfl; have hcz58_1 : w56.cell? ⟨gb312, 1, none⟩ = some (.int .i64 0) := (blk_cell BK312.out 1).trans rfl; have hcz58_2 : w56.cell? ⟨gb312, 2, none⟩ = some (.int .i64 0) := (blk_cell BK312.out 2).trans rfl; have hcz58_3 : w56.cell? ⟨gb312, 3, none⟩ = some (.slice none 0 0) := (blk_cell BK312.out 3).trans rfl; have hcz58_4 : w56.cell? ⟨gb312, 4, none⟩ = some (.slice none 0 0) := (blk_cell BK312.out 4).trans rfl; have hfz58_0 := blk_frozen BK312.out 0; have hfz58_1 := blk_frozen BK312.out 1; have hfz58_2 := blk_frozen BK312.out 2; have hfz58_3 := blk_frozen BK312.out 3; have hfz58_4 := blk_frozen BK312.out 4; obtain ⟨Ao59, co59, eo59⟩ := Kd.R_slice HO307.out; subst eo59; obtain ⟨Ao60, co60, eo60⟩ := Kd.R_slice HO310.out; subst eo60))
              have n0_ : Aside0 (Kd.R k46 46 (((((w56.setCell ⟨gb312, 0, none⟩ (.int .i64 t302)).setCell ⟨gb312, 1, none⟩ (.int .i64 t303)).setCell ⟨gb312, 2, none⟩ (.int .i64 t304)).setCell ⟨gb312, 3, none⟩ (.slice Ao59 t305.length co59)).setCell ⟨gb312, 4, none⟩ (.slice Ao60 t308.length co60)) w.heap.size (fun k_ => some k_ ≠ (.slice Ao59 t305.length co59 : Value).ownBlock) (.slice Ao53 t294.length co53) t294) := ⟨by (with_reducible repeat (first | apply Kd.R_alloc | apply Kd.R_drewN | apply Kd.R_drew)); exact Kd.R_mono (Kd.R_far (p := ⟨gb312, 4, none⟩) (Kd.R_far (p := ⟨gb312, 3, none⟩) (Kd.R_far (p := ⟨gb312, 2, none⟩) (Kd.R_far (p := ⟨gb312, 1, none⟩) (Kd.R_far (p := ⟨gb312, 0, none⟩) (Kd.R_types HO296.out BK312.out (by decide)) (fun _ hk => hk.2) (.int .i64 t302)) (fun _ hk => hk.2) (.int .i64 t303)) (fun _ hk => hk.2) (.int .i64 t304)) (fun _ hk => hk.2) (.slice Ao59 t305.length co59)) (fun _ hk => hk.2) (.slice Ao60 t308.length co60)) (fun _ hk => hk.1.2)⟩
              have n1_ : Aside0 (Kd.R k37 37 (((((w56.setCell ⟨gb312, 0, none⟩ (.int .i64 t302)).setCell ⟨gb312, 1, none⟩ (.int .i64 t303)).setCell ⟨gb312, 2, none⟩ (.int .i64 t304)).setCell ⟨gb312, 3, none⟩ (.slice Ao59 t305.length co59)).setCell ⟨gb312, 4, none⟩ (.slice Ao60 t308.length co60)) w.heap.size (fun k_ => some k_ ≠ (.slice Ao53 t294.length co53 : Value).ownBlock ∧ some k_ ≠ (.slice Ao59 t305.length co59 : Value).ownBlock ∧ some k_ ≠ (.slice Ao60 t308.length co60 : Value).ownBlock ∧ k_ ≠ gb301 ∧ k_ ≠ gb312) (.slice Ao54 t297.length co54) t297) := ⟨by (with_reducible repeat (first | apply Kd.R_alloc | apply Kd.R_drewN | apply Kd.R_drew)); exact Kd.R_mono (Kd.R_far (p := ⟨gb312, 4, none⟩) (Kd.R_far (p := ⟨gb312, 3, none⟩) (Kd.R_far (p := ⟨gb312, 2, none⟩) (Kd.R_far (p := ⟨gb312, 1, none⟩) (Kd.R_far (p := ⟨gb312, 0, none⟩) (Kd.R_mono HO299.out (fun k_ hk => (⟨hk, hk.2⟩ : _ ∧ k_ ≠ gb312))) (fun _ hk => hk.2) (.int .i64 t302)) (fun _ hk => hk.2) (.int .i64 t303)) (fun _ hk => hk.2) (.int .i64 t304)) (fun _ hk => hk.2) (.slice Ao59 t305.length co59)) (fun _ hk => hk.2) (.slice Ao60 t308.length co60)) (fun _ hk => ⟨hk.1.1.1.1.1, ⟨hk.1.1.1.2, ⟨hk.1.1.2, ⟨hk.1.1.1.1.2, hk.1.2⟩⟩⟩⟩)⟩
              have n2_ : Aside0 (Kd.R k46 46 (((((w56.setCell ⟨gb312, 0, none⟩ (.int .i64 t302)).setCell ⟨gb312, 1, none⟩ (.int .i64 t303)).setCell ⟨gb312, 2, none⟩ (.int .i64 t304)).setCell ⟨gb312, 3, none⟩ (.slice Ao59 t305.length co59)).setCell ⟨gb312, 4, none⟩ (.slice Ao60 t308.length co60)) w.heap.size (fun k_ => some k_ ≠ (.slice Ao53 t294.length co53 : Value).ownBlock) (.slice Ao59 t305.length co59) t305) := ⟨by (with_reducible repeat (first | apply Kd.R_alloc | apply Kd.R_drewN | apply Kd.R_drew)); exact Kd.R_mono (Kd.R_far (p := ⟨gb312, 4, none⟩) (Kd.R_far (p := ⟨gb312, 3, none⟩) (Kd.R_far (p := ⟨gb312, 2, none⟩) (Kd.R_far (p := ⟨gb312, 1, none⟩) (Kd.R_far (p := ⟨gb312, 0, none⟩) (Kd.R_types HO307.out BK312.out (by decide)) (fun _ hk => hk.2) (.int .i64 t302)) (fun _ hk => hk.2) (.int .i64 t303)) (fun _ hk => hk.2) (.int .i64 t304)) (fun _ hk => hk.2) (.slice Ao59 t305.length co59)) (fun _ hk => hk.2) (.slice Ao60 t308.length co60)) (fun _ hk => hk.1.2)⟩
              have n3_ : Aside0 (Kd.R k37 37 (((((w56.setCell ⟨gb312, 0, none⟩ (.int .i64 t302)).setCell ⟨gb312, 1, none⟩ (.int .i64 t303)).setCell ⟨gb312, 2, none⟩ (.int .i64 t304)).setCell ⟨gb312, 3, none⟩ (.slice Ao59 t305.length co59)).setCell ⟨gb312, 4, none⟩ (.slice Ao60 t308.length co60)) w.heap.size (fun k_ => some k_ ≠ (.slice Ao53 t294.length co53 : Value).ownBlock ∧ some k_ ≠ (.slice Ao54 t297.length co54 : Value).ownBlock ∧ some k_ ≠ (.slice Ao59 t305.length co59 : Value).ownBlock ∧ k_ ≠ gb301 ∧ k_ ≠ gb312) (.slice Ao60 t308.length co60) t308) := ⟨by (with_reducible repeat (first | apply Kd.R_alloc | apply Kd.R_drewN | apply Kd.R_drew)); exact Kd.R_mono (Kd.R_far (p := ⟨gb312, 4, none⟩) (Kd.R_far (p := ⟨gb312, 3, none⟩) (Kd.R_far (p := ⟨gb312, 2, none⟩) (Kd.R_far (p := ⟨gb312, 1, none⟩) (Kd.R_far (p := ⟨gb312, 0, none⟩) (Kd.R_mono HO310.out (fun k_ hk => (⟨hk, hk.2⟩ : _ ∧ k_ ≠ gb312))) (fun _ hk => hk.2) (.int .i64 t302)) (fun _ hk => hk.2) (.int .i64 t303)) (fun _ hk => hk.2) (.int .i64 t304)) (fun _ hk => hk.2) (.slice Ao59 t305.length co59)) (fun _ hk => hk.2) (.slice Ao60 t308.length co60)) (fun _ hk => ⟨hk.1.1.1.1.2, ⟨hk.1.1.1.2, ⟨hk.1.1.1.1.1, ⟨hk.1.1.2, hk.1.2⟩⟩⟩⟩)⟩
              have n4_ : Aside0 ((((((w56.setCell ⟨gb312, 0, none⟩ (.int .i64 t302)).setCell ⟨gb312, 1, none⟩ (.int .i64 t303)).setCell ⟨gb312, 2, none⟩ (.int .i64 t304)).setCell ⟨gb312, 3, none⟩ (.slice Ao59 t305.length co59)).setCell ⟨gb312, 4, none⟩ (.slice Ao60 t308.length co60)).heap[gb301]? = some (.cells #[.int .i64 t291, .int .i64 t292, .int .i64 t293, .slice Ao53 t294.length co53, .slice Ao54 t297.length co54] 37 (0, 0))) := ⟨by (with_reducible repeat (first | refine blk_drewN ?_ _ | refine blk_drew ?_ | refine blk_alloc ?_ _)); refine blk_far ?_ NB301_312.out _; (with_reducible repeat (first | refine blk_drewN ?_ _ | refine blk_drew ?_ | refine blk_alloc ?_ _)); refine blk_far ?_ NB301_312.out _; (with_reducible repeat (first | refine blk_drewN ?_ _ | refine blk_drew ?_ | refine blk_alloc ?_ _)); refine blk_far ?_ NB301_312.out _; (with_reducible repeat (first | refine blk_drewN ?_ _ | refine blk_drew ?_ | refine blk_alloc ?_ _)); refine blk_far ?_ NB301_312.out _; (with_reducible repeat (first | refine blk_drewN ?_ _ | refine blk_drew ?_ | refine blk_alloc ?_ _)); refine blk_far ?_ NB301_312.out _; (with_reducible repeat (first | refine blk_drewN ?_ _ | refine blk_drew ?_ | refine blk_alloc ?_ _)); exact BK301.out⟩
              have n5_ : Aside0 ((((((w56.setCell ⟨gb312, 0, none⟩ (.int .i64 t302)).setCell ⟨gb312, 1, none⟩ (.int .i64 t303)).setCell ⟨gb312, 2, none⟩ (.int .i64 t304)).setCell ⟨gb312, 3, none⟩ (.slice Ao59 t305.length co59)).setCell ⟨gb312, 4, none⟩ (.slice Ao60 t308.length co60)).heap[gb312]? = some (.cells #[.int .i64 t302, .int .i64 t303, .int .i64 t304, .slice Ao59 t305.length co59, .slice Ao60 t308.length co60] 37 (0, 0))) := ⟨by (with_reducible repeat (first | refine blk_drewN ?_ _ | refine blk_drew ?_ | refine blk_alloc ?_ _)); refine blk_put (cs := #[.int .i64 t302, .int .i64 t303, .int .i64 t304, .slice Ao59 t305.length co59, .slice none 0 0]) ?_ 4 _ rfl; (with_reducible repeat (first | refine blk_drewN ?_ _ | refine blk_drew ?_ | refine blk_alloc ?_ _)); refine blk_put (cs := #[.int .i64 t302, .int .i64 t303, .int .i64 t304, .slice none 0 0, .slice none 0 0]) ?_ 3 _ rfl; (with_reducible repeat (first | refine blk_drewN ?_ _ | refine blk_drew ?_ | refine blk_alloc ?_ _)); refine blk_put (cs := #[.int .i64 t302, .int .i64 t303, .int .i64 0, .slice none 0 0, .slice none 0 0]) ?_ 2 _ rfl; (with_reducible repeat (first | refine blk_drewN ?_ _ | refine blk_drew ?_ | refine blk_alloc ?_ _)); refine blk_put (cs := #[.int .i64 t302, .int .i64 0, .int .i64 0, .slice none 0 0, .slice none 0 0]) ?_ 1 _ rfl; (with_reducible repeat (first | refine blk_drewN ?_ _ | refine blk_drew ?_ | refine blk_alloc ?_ _)); refine blk_put (cs := #[.int .i64 0, .int .i64 0, .int .i64 0, .slice none 0 0, .slice none 0 0]) ?_ 0 _ rfl; (with_reducible repeat (first | refine blk_drewN ?_ _ | refine blk_drew ?_ | refine blk_alloc ?_ _)); exact BK312.out⟩
              have n6_ : Aside0 (Below w.heap.size w (((((w56.setCell ⟨gb312, 0, none⟩ (.int .i64 t302)).setCell ⟨gb312, 1, none⟩ (.int .i64 t303)).setCell ⟨gb312, 2, none⟩ (.int .i64 t304)).setCell ⟨gb312, 3, none⟩ (.slice Ao59 t305.length co59)).setCell ⟨gb312, 4, none⟩ (.slice Ao60 t308.length co60))) := ⟨by repeat (first | (with_reducible first | exact HB.out | apply below_alloc | apply pw_below_drewN | apply below_drew1 | refine below_set ?_ GE301.out | refine below_set ?_ GE312.out) | exact HB.out)⟩
              (try clear HO296)
              (try clear HO299)
              (try clear HO307)
              (try clear HO310)
              (try clear BK301)
              (try clear BK312)
              (try clear HB)
              generalize (((((w56.setCell ⟨gb312, 0, none⟩ (.int .i64 t302)).setCell ⟨gb312, 1, none⟩ (.int .i64 t303)).setCell ⟨gb312, 2, none⟩ (.int .i64 t304)).setCell ⟨gb312, 3, none⟩ (.slice Ao59 t305.length co59)).setCell ⟨gb312, 4, none⟩ (.slice Ao60 t308.length co60)) = w61 at n0_ n1_ n2_ n3_ n4_ n5_ n6_ ⊢
              have HO296 := n0_
              have HO299 := n1_
              have HO307 := n2_
              have HO310 := n3_
              have BK301 := n4_
              have BK312 := n5_
              have HB := n6_
              clear n0_ n1_ n2_ n3_ n4_ n5_ n6_
              have n0_ := Aside0.mk (Kd.R_drew HO296.out)
              have n1_ := Aside0.mk (Kd.R_drew HO299.out)
              have n2_ := Aside0.mk (Kd.R_drew HO307.out)
              have n3_ := Aside0.mk (Kd.R_drew HO310.out)
              have n4_ := Aside0.mk (blk_drew BK301.out)
              have n5_ := Aside0.mk (blk_drew BK312.out)
              have n6_ := Aside0.mk (below_drew1 HB.out)
              clear HO296
              clear HO299
              clear HO307
              clear HO310
              clear BK301
              clear BK312
              clear HB
              have HO296 := n0_
              have HO299 := n1_
              have HO307 := n2_
              have HO310 := n3_
              have BK301 := n4_
              have BK312 := n5_
              have HB := n6_
              clear n0_ n1_ n2_ n3_ n4_ n5_ n6_
              refine start_ (n := 19) (S := fun w' => True) (ds := []) #[false, false, false, false, false, false, false, false, false, false, false, false, false, false, false, false, false, false, false] (by kernel_rfl) rfl rfl trivial (fun hHeld => ?_); refine with_tabW laws_prSame.tab10 laws_prSame.bits10 (fun HT_ HW_ => ?_)
              generalize w61.drew = w62 at HO296 HO299 HO307 HO310 BK301 BK312 HB hHeld ⊢
              refine pure_ (i := 0) (N := some 40) (v := ?_) (a' := ?_) #[true, false, false, false, false, false, false, false, false, false, false, false, false, false, false, false, false, false, false] rfl rfl (any_of HT_.out (by kernel_rfl)) (fun _ _ _ h => h) (Or.inl ⟨by rfl, ?_⟩) ?_ ?_
              rotate_left
              · intro w'
                go_simp
                with_reducible rfl
              rotate_left
              · simp only [Act.put, List.setIfInBounds_toArray, List.set_cons_zero, List.set_cons_succ, i64_w, i32_w]
                rfl
              refine pure_ (i := 1) (N := some 41) (v := ?_) (a' := ?_) #[true, true, false, false, false, false, false, false, false, false, false, false, false, false, false, false, false, false, false] rfl rfl (any_of HT_.out (by kernel_rfl)) (fun _ _ _ h => h) (Or.inl ⟨by rfl, ?_⟩) ?_ ?_
              rotate_left
              · intro w'
                go_simp
                with_reducible rfl
              rotate_left
              · simp only [Act.put, List.setIfInBounds_toArray, List.set_cons_zero, List.set_cons_succ, i64_w, i32_w]
                rfl
              refine pure_ (i := 2) (N := some 42) (v := ?_) (a' := ?_) #[true, true, true, false, false, false, false, false, false, false, false, false, false, false, false, false, false, false, false] rfl rfl (any_of HT_.out (by kernel_rfl)) (fun _ _ _ h => h) (Or.inl ⟨by rfl, ?_⟩) ?_ ?_
              rotate_left
              · intro w'
                go_simp
                with_reducible rfl
              rotate_left
              · simp only [Act.put, List.setIfInBounds_toArray, List.set_cons_zero, List.set_cons_succ, i64_w, i32_w]
                rfl
              refine pure_ (i := 3) (N := some 43) (v := ?_) (a' := ?_) #[true, true, true, true, false, false, false, false, false, false, false, false, false, false, false, false, false, false, false] rfl rfl (any_of HT_.out (by kernel_rfl)) (fun _ _ _ h => h) (Or.inl ⟨by rfl, ?_⟩) ?_ ?_
              rotate_left
              · intro w'
                go_simp
                with_reducible rfl
              rotate_left
              · simp only [Act.put, List.setIfInBounds_toArray, List.set_cons_zero, List.set_cons_succ, i64_w, i32_w]
                rfl
              refine pure_ (i := 4) (N := some 44) (v := ?_) (a' := ?_) #[true, true, true, true, true, false, false, false, false, false, false, false, false, false, false, false, false, false, false] rfl rfl (any_of HT_.out (by kernel_rfl)) (fun _ _ _ h => h) (Or.inl ⟨by rfl, ?_⟩) ?_ ?_
              rotate_left
              · intro w'
                go_simp
                with_reducible rfl
              rotate_left
              · simp only [Act.put, List.setIfInBounds_toArray, List.set_cons_zero, List.set_cons_succ, i64_w, i32_w]
                rfl
              refine pure_ (i := 5) (N := some 45) (v := undef) (a' := ?_) #[true, true, true, true, true, true, false, false, false, false, false, false, false, false, false, false, false, false, false] rfl rfl (any_of HT_.out (by kernel_rfl)) (fun _ _ _ h => h) (Or.inr ⟨by rfl, rfl⟩) ?_ ?_
              rotate_left
              · simp only [Act.put, List.setIfInBounds_toArray, List.set_cons_zero, List.set_cons_succ, i64_w, i32_w]
                rfl
              refine pure_ (i := 6) (N := some 46) (v := undef) (a' := ?_) #[true, true, true, true, true, true, true, false, false, false, false, false, false, false, false, false, false, false, false] rfl rfl (any_of HT_.out (by kernel_rfl)) (fun _ _ _ h => h) (Or.inr ⟨by rfl, rfl⟩) ?_ ?_
              rotate_left
              · simp only [Act.put, List.setIfInBounds_toArray, List.set_cons_zero, List.set_cons_succ, i64_w, i32_w]
                rfl
              refine pure_ (i := 7) (N := some 47) (v := undef) (a' := ?_) #[true, true, true, true, true, true, true, true, false, false, false, false, false, false, false, false, false, false, false] rfl rfl (any_of HT_.out (by kernel_rfl)) (fun _ _ _ h => h) (Or.inr ⟨by rfl, rfl⟩) ?_ ?_
              rotate_left
              · simp only [Act.put, List.setIfInBounds_toArray, List.set_cons_zero, List.set_cons_succ, i64_w, i32_w]
                rfl
              refine pure_ (i := 8) (N := some 48) (v := ?_) (a' := ?_) #[true, true, true, true, true, true, true, true, true, false, false, false, false, false, false, false, false, false, false] rfl rfl (any_of HT_.out (by kernel_rfl)) (fun _ _ _ h => h) (Or.inl ⟨by rfl, ?_⟩) ?_ ?_
              rotate_left
              · intro w'
                go_simp
                with_reducible rfl
              rotate_left
              · simp only [Act.put, List.setIfInBounds_toArray, List.set_cons_zero, List.set_cons_succ, i64_w, i32_w]
                rfl
              refine pure_ (i := 9) (N := some 49) (v := ?_) (a' := ?_) #[true, true, true, true, true, true, true, true, true, true, false, false, false, false, false, false, false, false, false] rfl rfl (any_of HT_.out (by kernel_rfl)) (fun _ _ _ h => h) (Or.inl ⟨by rfl, ?_⟩) ?_ ?_
              rotate_left
              · intro w'
                go_simp
                with_reducible rfl
              rotate_left
              · simp only [Act.put, List.setIfInBounds_toArray, List.set_cons_zero, List.set_cons_succ, i64_w, i32_w]
                rfl
              refine pure_ (i := 10) (N := some 50) (v := undef) (a' := ?_) #[true, true, true, true, true, true, true, true, true, true, true, false, false, false, false, false, false, false, false] rfl rfl (any_of HT_.out (by kernel_rfl)) (fun _ _ _ h => h) (Or.inr ⟨by rfl, rfl⟩) ?_ ?_
              rotate_left
              · simp only [Act.put, List.setIfInBounds_toArray, List.set_cons_zero, List.set_cons_succ, i64_w, i32_w]
                rfl
              refine pure_ (i := 11) (N := some 51) (v := undef) (a' := ?_) #[true, true, true, true, true, true, true, true, true, true, true, true, false, false, false, false, false, false, false] rfl rfl (any_of HT_.out (by kernel_rfl)) (fun _ _ _ h => h) (Or.inr ⟨by rfl, rfl⟩) ?_ ?_
              rotate_left
              · simp only [Act.put, List.setIfInBounds_toArray, List.set_cons_zero, List.set_cons_succ, i64_w, i32_w]
                rfl
              refine pure_ (i := 12) (N := some 52) (v := undef) (a' := ?_) #[true, true, true, true, true, true, true, true, true, true, true, true, true, false, false, false, false, false, false] rfl rfl (any_of HT_.out (by kernel_rfl)) (fun _ _ _ h => h) (Or.inr ⟨by rfl, rfl⟩) ?_ ?_
              rotate_left
              · simp only [Act.put, List.setIfInBounds_toArray, List.set_cons_zero, List.set_cons_succ, i64_w, i32_w]
                rfl
              refine pure_ (i := 13) (N := some 53) (v := undef) (a' := ?_) #[true, true, true, true, true, true, true, true, true, true, true, true, true, true, false, false, false, false, false] rfl rfl (any_of HT_.out (by kernel_rfl)) (fun _ _ _ h => h) (Or.inr ⟨by rfl, rfl⟩) ?_ ?_
              rotate_left
              · simp only [Act.put, List.setIfInBounds_toArray, List.set_cons_zero, List.set_cons_succ, i64_w, i32_w]
                rfl
              refine pure_ (i := 14) (N := some 54) (v := undef) (a' := ?_) #[true, true, true, true, true, true, true, true, true, true, true, true, true, true, true, false, false, false, false] rfl rfl (any_of HT_.out (by kernel_rfl)) (fun _ _ _ h => h) (Or.inr ⟨by rfl, rfl⟩) ?_ ?_
              rotate_left
              · simp only [Act.put, List.setIfInBounds_toArray, List.set_cons_zero, List.set_cons_succ, i64_w, i32_w]
                rfl
              refine pure_ (i := 15) (N := some 55) (v := undef) (a' := ?_) #[true, true, true, true, true, true, true, true, true, true, true, true, true, true, true, true, false, false, false] rfl rfl (any_of HT_.out (by kernel_rfl)) (fun _ _ _ h => h) (Or.inr ⟨by rfl, rfl⟩) ?_ ?_
              rotate_left
              · simp only [Act.put, List.setIfInBounds_toArray, List.set_cons_zero, List.set_cons_succ, i64_w, i32_w]
                rfl
              refine pure_ (i := 16) (N := some 56) (v := undef) (a' := ?_) #[true, true, true, true, true, true, true, true, true, true, true, true, true, true, true, true, true, false, false] rfl rfl (any_of HT_.out (by kernel_rfl)) (fun _ _ _ h => h) (Or.inr ⟨by rfl, rfl⟩) ?_ ?_
              rotate_left
              · simp only [Act.put, List.setIfInBounds_toArray, List.set_cons_zero, List.set_cons_succ, i64_w, i32_w]
                rfl
              refine pure_ (i := 17) (N := some 57) (v := ?_) (a' := ?_) #[true, true, true, true, true, true, true, true, true, true, true, true, true, true, true, true, true, true, false] rfl rfl (any_of HT_.out (by kernel_rfl)) (fun _ _ _ h => h) (Or.inl ⟨by rfl, ?_⟩) ?_ ?_
              rotate_left
              · intro w'
                go_simp
                with_reducible rfl
              rotate_left
              · simp only [Act.put, List.setIfInBounds_toArray, List.set_cons_zero, List.set_cons_succ, i64_w, i32_w]
                rfl
              refine pure_ (i := 18) (N := some 4) (v := ?_) (a' := ?_) #[true, true, true, true, true, true, true, true, true, true, true, true, true, true, true, true, true, true, true] rfl rfl (any_of HT_.out (by kernel_rfl)) (fun _ _ _ h => h) (Or.inl ⟨by rfl, ?_⟩) ?_ ?_
              rotate_left
              · intro w'
                go_simp
                with_reducible rfl
              rotate_left
              · simp only [Act.put, List.setIfInBounds_toArray, List.set_cons_zero, List.set_cons_succ, i64_w, i32_w]
                rfl
              refine done_ (done_of HT_.out (by kernel_rfl)) ?_
              try go_wp2
              go_ret
              exact ⟨by first | rfl | (simp [errW_none, errW_some] <;> rfl) | (simp [*, errW_none, errW_some] <;> rfl), by repeat (first | (with_reducible first | exact HB.out | apply below_alloc | apply pw_below_drewN | apply below_drew1 | refine below_set ?_ GE301.out | refine below_set ?_ GE312.out) | exact HB.out)⟩
          · replace c14 := Bool.eq_false_iff.mpr c14
            subst c14
            have H1 : (some false) = some r := by rw [if_neg (show ¬ (false = true) by decide)] at H; exact H
            clear H
            have H := H1
            clear H1
            obtain rfl := Option.some.inj H
            try go_wp2_with (first | ((with_reducible refine gate_callee (f := 10) rfl ?_); refine goesL_ (some 32) rfl rfl Try.func10 (by kernel_rfl) rfl #[.string a0] rfl (by (try simp only [List.map_toArray, List.map_cons, List.map_nil]); first | done | rfl | (simp only [List.length_drop, List.length_take]; rfl)) ?_; (with_reducible refine (spec_Places.calls k1 a0 t291 t292 t293 t294 t297 false _ A12.out).mono ?_); rintro e w63 ⟨v295, v298, rfl, ho0, ho1, hb⟩; refine ⟨_, rfl, ?_⟩; have n0_ := Aside0.mk (Kd.R_lower ho0 (below_size (by repeat (first | (with_reducible first | exact HB.out | apply below_alloc | apply pw_below_drewN | apply below_drew1) | exact HB.out)))); have n1_ := Aside0.mk (Kd.R_lower ho1 (below_size (by repeat (first | (with_reducible first | exact HB.out | apply below_alloc | apply pw_below_drewN | apply below_drew1) | exact HB.out)))); have n2_ := Aside0.mk (below_step (by repeat (first | (with_reducible first | exact HB.out | apply below_alloc | apply pw_below_drewN | apply below_drew1) | exact HB.out)) hb); clear HB; have HO296 := n0_; have HO299 := n1_; have HB := n2_; clear n0_ n1_ n2_; (try clear hb); (try clear hb2); (try clear hk); (try clear hi); (try clear ho0); (try clear ho1)) | ((with_reducible refine gate_dst (N := 6) rfl ?_); refine box_event ?hg (N := 6) ?hd (cs := #[.int .i64 0, .int .i64 0, .int .i64 0, .slice none 0 0, .slice none 0 0]) (t := 37) ?hr ?_; (case hd => rfl); (case hg => rfl); (case hr => first | (go_simp; done) | (go_simp; rfl)); intro gb301 hg w64 hbox hb; have n0_ := Aside0.mk (Kd.R_below (by (with_reducible repeat (first | apply Kd.R_alloc | apply Kd.R_drewN | apply Kd.R_drew)); exact HO296.out) hb); have n1_ := Aside0.mk (Kd.R_below (Kd.R_elderB (by (with_reducible repeat (first | apply Kd.R_alloc | apply Kd.R_drewN | apply Kd.R_drew)); exact HO299.out) gb301 (Nat.le_of_eq hg.symm)) hb); have n2_ := Aside0.mk (below_step (by repeat (first | (with_reducible first | exact HB.out | apply below_alloc | apply pw_below_drewN | apply below_drew1) | exact HB.out)) hb); have n3_ := Aside0.mk (hbox); have n4_ := Aside0.mk ((by rw [hg]; exact (below_size (by repeat (first | (with_reducible first | exact HB.out | apply below_alloc | apply pw_below_drewN | apply below_drew1) | exact HB.out))) : w.heap.size ≤ gb301)); have n5_ := Aside0.mk ((by rw [hg]; exact (below_size (by repeat (first | (with_reducible first | exact HB.out | apply below_alloc | apply pw_below_drewN | apply below_drew1) | exact HB.out))) : w.heap.size ≤ gb301)); clear HO296; clear HO299; clear HB; have HO296 := n0_; have HO299 := n1_; have HB := n2_; have BK301 := n3_; have GW301 := n4_; have GE301 := n5_; clear n0_ n1_ n2_ n3_ n4_ n5_; clear hb hbox hg; have hcz65_0 : w64.cell? ⟨gb301, 0, none⟩ = some (.int .i64 0) := (blk_cell BK301.out 0).trans rfl; have hcz65_1 : w64.cell? ⟨gb301, 1, none⟩ = some (.int .i64 0) := (blk_cell BK301.out 1).trans rfl; have hcz65_2 : w64.cell? ⟨gb301, 2, none⟩ = some (.int .i64 0) := (blk_cell BK301.out 2).trans rfl; have hcz65_3 : w64.cell? ⟨gb301, 3, none⟩ = some (.slice none 0 0) := (blk_cell BK301.out 3).trans rfl; have hcz65_4 : w64.cell? ⟨gb301, 4, none⟩ = some (.slice none 0 0) := (blk_cell BK301.out 4).trans rfl; have hfz65_0 := blk_frozen BK301.out 0; have hfz65_1 := blk_frozen BK301.out 1; have hfz65_2 := blk_frozen BK301.out 2; have hfz65_3 := blk_frozen BK301.out 3; have hfz65_4 := blk_frozen BK301.out 4; obtain ⟨Ao66, co66, eo66⟩ := Kd.R_slice HO296.out; subst eo66; obtain ⟨Ao67, co67, eo67⟩ := Kd.R_slice HO299.out; subst eo67) | ((with_reducible refine gate_callee (f := 10) rfl ?_); refine goesL_ (some 37) rfl rfl Try.func10 (by kernel_rfl) rfl #[.string a1] rfl (by (try simp only [List.map_toArray, List.map_cons, List.map_nil]); first | done | rfl | (simp only [List.length_drop, List.length_take]; rfl)) ?_; (with_reducible refine (spec_Places.calls k1 a1 t302 t303 t304 t305 t308 t311 _ A13.out).mono ?_); rintro e w68 ⟨v306, v309, rfl, ho0, ho1, hb⟩; refine ⟨_, rfl, ?_⟩; have n0_ := Aside0.mk (Kd.R_elder' (by (with_reducible repeat (first | apply Kd.R_alloc | apply Kd.R_drewN | apply Kd.R_drew)); exact (Kd.R_mono (Kd.R_far (p := ⟨gb301, 4, none⟩) (Kd.R_far (p := ⟨gb301, 3, none⟩) (Kd.R_far (p := ⟨gb301, 2, none⟩) (Kd.R_far (p := ⟨gb301, 1, none⟩) (Kd.R_far (p := ⟨gb301, 0, none⟩) (Kd.R_types HO296.out BK301.out (by decide)) (fun _ hk => hk.2) (.int .i64 t291)) (fun _ hk => hk.2) (.int .i64 t292)) (fun _ hk => hk.2) (.int .i64 t293)) (fun _ hk => hk.2) (.slice Ao66 t294.length co66)) (fun _ hk => hk.2) (.slice Ao67 t297.length co67)) (fun _ h_ => h_.1))) (Kd.R_base ho0) hb); have n1_ := Aside0.mk (Kd.R_mono (Kd.R_told (Kd.R_told (Kd.R_old (by (with_reducible repeat (first | apply Kd.R_alloc | apply Kd.R_drewN | apply Kd.R_drew)); exact (Kd.R_mono (Kd.R_far (p := ⟨gb301, 4, none⟩) (Kd.R_far (p := ⟨gb301, 3, none⟩) (Kd.R_far (p := ⟨gb301, 2, none⟩) (Kd.R_far (p := ⟨gb301, 1, none⟩) (Kd.R_far (p := ⟨gb301, 0, none⟩) (Kd.R_mono HO299.out (fun k_ hk => (⟨hk, hk.2⟩ : _ ∧ k_ ≠ gb301))) (fun _ hk => hk.2) (.int .i64 t291)) (fun _ hk => hk.2) (.int .i64 t292)) (fun _ hk => hk.2) (.int .i64 t293)) (fun _ hk => hk.2) (.slice Ao66 t294.length co66)) (fun _ hk => hk.2) (.slice Ao67 t297.length co67)) (fun _ h_ => h_.1))) hb) (Kd.R_base ho0)) (Kd.R_base ho1)) (fun _ h_ => h_.1)); have n2_ := Aside0.mk (Kd.R_lower (Kd.R_new' ho0 (Kd.R_lt (by (with_reducible repeat (first | apply Kd.R_alloc | apply Kd.R_drewN | apply Kd.R_drew)); exact (Kd.R_mono (Kd.R_far (p := ⟨gb301, 4, none⟩) (Kd.R_far (p := ⟨gb301, 3, none⟩) (Kd.R_far (p := ⟨gb301, 2, none⟩) (Kd.R_far (p := ⟨gb301, 1, none⟩) (Kd.R_far (p := ⟨gb301, 0, none⟩) (Kd.R_types HO296.out BK301.out (by decide)) (fun _ hk => hk.2) (.int .i64 t291)) (fun _ hk => hk.2) (.int .i64 t292)) (fun _ hk => hk.2) (.int .i64 t293)) (fun _ hk => hk.2) (.slice Ao66 t294.length co66)) (fun _ hk => hk.2) (.slice Ao67 t297.length co67)) (fun _ h_ => h_.1))))) (below_size (by repeat (first | (with_reducible first | exact HB.out | apply below_alloc | apply pw_below_drewN | apply below_drew1 | refine below_set ?_ GE301.out) | exact HB.out)))); have n3_ := Aside0.mk (Kd.R_lower (Kd.R_newB (Kd.R_new' (Kd.R_new' ho1 (Kd.R_lt (by (with_reducible repeat (first | apply Kd.R_alloc | apply Kd.R_drewN | apply Kd.R_drew)); exact (Kd.R_mono (Kd.R_far (p := ⟨gb301, 4, none⟩) (Kd.R_far (p := ⟨gb301, 3, none⟩) (Kd.R_far (p := ⟨gb301, 2, none⟩) (Kd.R_far (p := ⟨gb301, 1, none⟩) (Kd.R_far (p := ⟨gb301, 0, none⟩) (Kd.R_types HO296.out BK301.out (by decide)) (fun _ hk => hk.2) (.int .i64 t291)) (fun _ hk => hk.2) (.int .i64 t292)) (fun _ hk => hk.2) (.int .i64 t293)) (fun _ hk => hk.2) (.slice Ao66 t294.length co66)) (fun _ hk => hk.2) (.slice Ao67 t297.length co67)) (fun _ h_ => h_.1))))) (Kd.R_lt (by (with_reducible repeat (first | apply Kd.R_alloc | apply Kd.R_drewN | apply Kd.R_drew)); exact (Kd.R_mono (Kd.R_far (p := ⟨gb301, 4, none⟩) (Kd.R_far (p := ⟨gb301, 3, none⟩) (Kd.R_far (p := ⟨gb301, 2, none⟩) (Kd.R_far (p := ⟨gb301, 1, none⟩) (Kd.R_far (p := ⟨gb301, 0, none⟩) (Kd.R_mono HO299.out (fun k_ hk => (⟨hk, hk.2⟩ : _ ∧ k_ ≠ gb301))) (fun _ hk => hk.2) (.int .i64 t291)) (fun _ hk => hk.2) (.int .i64 t292)) (fun _ hk => hk.2) (.int .i64 t293)) (fun _ hk => hk.2) (.slice Ao66 t294.length co66)) (fun _ hk => hk.2) (.slice Ao67 t297.length co67)) (fun _ h_ => h_.1))))) (g := gb301) (o := .cells #[.int .i64 t291, .int .i64 t292, .int .i64 t293, .slice Ao66 t294.length co66, .slice Ao67 t297.length co67] 37 (0, 0)) (by (with_reducible repeat (first | refine blk_drewN ?_ _ | refine blk_drew ?_ | refine blk_alloc ?_ _)); refine blk_put (cs := #[.int .i64 t291, .int .i64 t292, .int .i64 t293, .slice Ao66 t294.length co66, .slice none 0 0]) ?_ 4 _ rfl; (with_reducible repeat (first | refine blk_drewN ?_ _ | refine blk_drew ?_ | refine blk_alloc ?_ _)); refine blk_put (cs := #[.int .i64 t291, .int .i64 t292, .int .i64 t293, .slice none 0 0, .slice none 0 0]) ?_ 3 _ rfl; (with_reducible repeat (first | refine blk_drewN ?_ _ | refine blk_drew ?_ | refine blk_alloc ?_ _)); refine blk_put (cs := #[.int .i64 t291, .int .i64 t292, .int .i64 0, .slice none 0 0, .slice none 0 0]) ?_ 2 _ rfl; (with_reducible repeat (first | refine blk_drewN ?_ _ | refine blk_drew ?_ | refine blk_alloc ?_ _)); refine blk_put (cs := #[.int .i64 t291, .int .i64 0, .int .i64 0, .slice none 0 0, .slice none 0 0]) ?_ 1 _ rfl; (with_reducible repeat (first | refine blk_drewN ?_ _ | refine blk_drew ?_ | refine blk_alloc ?_ _)); refine blk_put (cs := #[.int .i64 0, .int .i64 0, .int .i64 0, .slice none 0 0, .slice none 0 0]) ?_ 0 _ rfl; (with_reducible repeat (first | refine blk_drewN ?_ _ | refine blk_drew ?_ | refine blk_alloc ?_ _)); exact BK301.out)) (below_size (by repeat (first | (with_reducible first | exact HB.out | apply below_alloc | apply pw_below_drewN | apply below_drew1 | refine below_set ?_ GE301.out) | exact HB.out)))); have n4_ := Aside0.mk (blk_below (g := gb301) (o := .cells #[.int .i64 t291, .int .i64 t292, .int .i64 t293, .slice Ao66 t294.length co66, .slice Ao67 t297.length co67] 37 (0, 0)) (by (with_reducible repeat (first | refine blk_drewN ?_ _ | refine blk_drew ?_ | refine blk_alloc ?_ _)); refine blk_put (cs := #[.int .i64 t291, .int .i64 t292, .int .i64 t293, .slice Ao66 t294.length co66, .slice none 0 0]) ?_ 4 _ rfl; (with_reducible repeat (first | refine blk_drewN ?_ _ | refine blk_drew ?_ | refine blk_alloc ?_ _)); refine blk_put (cs := #[.int .i64 t291, .int .i64 t292, .int .i64 t293, .slice none 0 0, .slice none 0 0]) ?_ 3 _ rfl; (with_reducible repeat (first | refine blk_drewN ?_ _ | refine blk_drew ?_ | refine blk_alloc ?_ _)); refine blk_put (cs := #[.int .i64 t291, .int .i64 t292, .int .i64 0, .slice none 0 0, .slice none 0 0]) ?_ 2 _ rfl; (with_reducible repeat (first | refine blk_drewN ?_ _ | refine blk_drew ?_ | refine blk_alloc ?_ _)); refine blk_put (cs := #[.int .i64 t291, .int .i64 0, .int .i64 0, .slice none 0 0, .slice none 0 0]) ?_ 1 _ rfl; (with_reducible repeat (first | refine blk_drewN ?_ _ | refine blk_drew ?_ | refine blk_alloc ?_ _)); refine blk_put (cs := #[.int .i64 0, .int .i64 0, .int .i64 0, .slice none 0 0, .slice none 0 0]) ?_ 0 _ rfl; (with_reducible repeat (first | refine blk_drewN ?_ _ | refine blk_drew ?_ | refine blk_alloc ?_ _)); exact BK301.out) hb); have n5_ := Aside0.mk (below_step (by repeat (first | (with_reducible first | exact HB.out | apply below_alloc | apply pw_below_drewN | apply below_drew1 | refine below_set ?_ GE301.out) | exact HB.out)) hb); clear HO296; clear HO299; clear BK301; clear HB; have HO296 := n0_; have HO299 := n1_; have HO307 := n2_; have HO310 := n3_; have BK301 := n4_; have HB := n5_; clear n0_ n1_ n2_ n3_ n4_ n5_; (try clear hb); (try clear hb2); (try clear hk); (try clear hi); (try clear ho0); (try clear ho1)) | ((with_reducible refine gate_dst (N := 8) rfl ?_); refine box_event ?hg (N := 8) ?hd (cs := #[.int .i64 0, .int .i64 0, .int .i64 0, .slice none 0 0, .slice none 0 0]) (t := 37) ?hr ?_; (case hd => rfl); (case hg => rfl); (case hr => first | (go_simp; done) | (go_simp; rfl)); intro gb312 hg w69 hbox hb; have n0_ := Aside0.mk (Kd.R_below (by (with_reducible repeat (first | apply Kd.R_alloc | apply Kd.R_drewN | apply Kd.R_drew)); exact HO296.out) hb); have n1_ := Aside0.mk (Kd.R_below (Kd.R_elderB (by (with_reducible repeat (first | apply Kd.R_alloc | apply Kd.R_drewN | apply Kd.R_drew)); exact HO299.out) gb312 (Nat.le_of_eq hg.symm)) hb); have n2_ := Aside0.mk (Kd.R_below (by (with_reducible repeat (first | apply Kd.R_alloc | apply Kd.R_drewN | apply Kd.R_drew)); exact HO307.out) hb); have n3_ := Aside0.mk (Kd.R_below (Kd.R_elderB (by (with_reducible repeat (first | apply Kd.R_alloc | apply Kd.R_drewN | apply Kd.R_drew)); exact HO310.out) gb312 (Nat.le_of_eq hg.symm)) hb); have n4_ := Aside0.mk (blk_below (g := gb301) (o := .cells #[.int .i64 t291, .int .i64 t292, .int .i64 t293, .slice Ao66 t294.length co66, .slice Ao67 t297.length co67] 37 (0, 0)) (by (with_reducible repeat (first | refine blk_drewN ?_ _ | refine blk_drew ?_ | refine blk_alloc ?_ _)); exact BK301.out) hb); have n5_ := Aside0.mk (below_step (by repeat (first | (with_reducible first | exact HB.out | apply below_alloc | apply pw_below_drewN | apply below_drew1 | refine below_set ?_ GE301.out) | exact HB.out)) hb); have n6_ := Aside0.mk (hbox); have n7_ := Aside0.mk ((by rw [hg]; exact (below_size (by repeat (first | (with_reducible first | exact HB.out | apply below_alloc | apply pw_below_drewN | apply below_drew1 | refine below_set ?_ GE301.out) | exact HB.out))) : w.heap.size ≤ gb312)); have n8_ := Aside0.mk ((by rw [hg]; exact (below_size (by repeat (first | (with_reducible first | exact HB.out | apply below_alloc | apply pw_below_drewN | apply below_drew1 | refine below_set ?_ GE301.out) | exact HB.out))) : w.heap.size ≤ gb312)); have n9_ := Aside0.mk ((by rw [hg]; exact Nat.ne_of_lt (blk_lt (g := gb301) (o := .cells #[.int .i64 t291, .int .i64 t292, .int .i64 t293, .slice Ao66 t294.length co66, .slice Ao67 t297.length co67] 37 (0, 0)) (by (with_reducible repeat (first | refine blk_drewN ?_ _ | refine blk_drew ?_ | refine blk_alloc ?_ _)); exact BK301.out)) : gb301 ≠ gb312)); have n10_ := Aside0.mk ((by rw [hg]; exact Nat.ne_of_gt (blk_lt (g := gb301) (o := .cells #[.int .i64 t291, .int .i64 t292, .int .i64 t293, .slice Ao66 t294.length co66, .slice Ao67 t297.length co67] 37 (0, 0)) (by (with_reducible repeat (first | refine blk_drewN ?_ _ | refine blk_drew ?_ | refine blk_alloc ?_ _)); exact BK301.out)) : gb312 ≠ gb301)); clear HO296; clear HO299; clear HO307; clear HO310; clear BK301; clear HB; have HO296 := n0_; have HO299 := n1_; have HO307 := n2_; have HO310 := n3_; have BK301 := n4_; have HB := n5_; have BK312 := n6_; have GW312 := n7_; have GE312 := n8_; have NB301_312 := n9_; have NB312_301 := n10_; clear n0_ n1_ n2_ n3_ n4_ n5_ n6_ n7_ n8_ n9_ n10_; clear hb hbox hg; have hnb70 := NB312_301.out; have hnc70 := NB301_312.out; have hcz71_0 : w69.cell? ⟨gb312, 0, none⟩ = some (.int .i64 0) := (blk_cell BK312.out 0).trans rfl; have hcz71_1 : w69.cell? ⟨gb312, 1, none⟩ = some (.int .i64 0) := (blk_cell BK312.out 1).trans rfl; have hcz71_2 : w69.cell? ⟨gb312, 2, none⟩ = some (.int .i64 0) := (blk_cell BK312.out 2).trans rfl; have hcz71_3 : w69.cell? ⟨gb312, 3, none⟩ = some (.slice none 0 0) := (blk_cell BK312.out 3).trans rfl; have hcz71_4 : w69.cell? ⟨gb312, 4, none⟩ = some (.slice none 0 0) := (blk_cell BK312.out 4).trans rfl; have hfz71_0 := blk_frozen BK312.out 0; have hfz71_1 := blk_frozen BK312.out 1; have hfz71_2 := blk_frozen BK312.out 2; have hfz71_3 := blk_frozen BK312.out 3; have hfz71_4 := blk_frozen BK312.out 4; obtain ⟨Ao72, co72, eo72⟩ := Kd.R_slice HO307.out; subst eo72; obtain ⟨Ao73, co73, eo73⟩ := Kd.R_slice HO310.out; subst eo73))
            have n0_ : Aside0 (Kd.R k46 46 (((((w69.setCell ⟨gb312, 0, none⟩ (.int .i64 t302)).setCell ⟨gb312, 1, none⟩ (.int .i64 t303)).setCell ⟨gb312, 2, none⟩ (.int .i64 t304)).setCell ⟨gb312, 3, none⟩ (.slice Ao72 t305.length co72)).setCell ⟨gb312, 4, none⟩ (.slice Ao73 t308.length co73)) w.heap.size (fun k_ => some k_ ≠ (.slice Ao72 t305.length co72 : Value).ownBlock) (.slice Ao66 t294.length co66) t294) := ⟨by (with_reducible repeat (first | apply Kd.R_alloc | apply Kd.R_drewN | apply Kd.R_drew)); exact Kd.R_mono (Kd.R_far (p := ⟨gb312, 4, none⟩) (Kd.R_far (p := ⟨gb312, 3, none⟩) (Kd.R_far (p := ⟨gb312, 2, none⟩) (Kd.R_far (p := ⟨gb312, 1, none⟩) (Kd.R_far (p := ⟨gb312, 0, none⟩) (Kd.R_types HO296.out BK312.out (by decide)) (fun _ hk => hk.2) (.int .i64 t302)) (fun _ hk => hk.2) (.int .i64 t303)) (fun _ hk => hk.2) (.int .i64 t304)) (fun _ hk => hk.2) (.slice Ao72 t305.length co72)) (fun _ hk => hk.2) (.slice Ao73 t308.length co73)) (fun _ hk => hk.1.2)⟩
            have n1_ : Aside0 (Kd.R k37 37 (((((w69.setCell ⟨gb312, 0, none⟩ (.int .i64 t302)).setCell ⟨gb312, 1, none⟩ (.int .i64 t303)).setCell ⟨gb312, 2, none⟩ (.int .i64 t304)).setCell ⟨gb312, 3, none⟩ (.slice Ao72 t305.length co72)).setCell ⟨gb312, 4, none⟩ (.slice Ao73 t308.length co73)) w.heap.size (fun k_ => some k_ ≠ (.slice Ao66 t294.length co66 : Value).ownBlock ∧ some k_ ≠ (.slice Ao72 t305.length co72 : Value).ownBlock ∧ some k_ ≠ (.slice Ao73 t308.length co73 : Value).ownBlock ∧ k_ ≠ gb301 ∧ k_ ≠ gb312) (.slice Ao67 t297.length co67) t297) := ⟨by (with_reducible repeat (first | apply Kd.R_alloc | apply Kd.R_drewN | apply Kd.R_drew)); exact Kd.R_mono (Kd.R_far (p := ⟨gb312, 4, none⟩) (Kd.R_far (p := ⟨gb312, 3, none⟩) (Kd.R_far (p := ⟨gb312, 2, none⟩) (Kd.R_far (p := ⟨gb312, 1, none⟩) (Kd.R_far (p := ⟨gb312, 0, none⟩) (Kd.R_mono HO299.out (fun k_ hk => (⟨hk, hk.2⟩ : _ ∧ k_ ≠ gb312))) (fun _ hk => hk.2) (.int .i64 t302)) (fun _ hk => hk.2) (.int .i64 t303)) (fun _ hk => hk.2) (.int .i64 t304)) (fun _ hk => hk.2) (.slice Ao72 t305.length co72)) (fun _ hk => hk.2) (.slice Ao73 t308.length co73)) (fun _ hk => ⟨hk.1.1.1.1.1, ⟨hk.1.1.1.2, ⟨hk.1.1.2, ⟨hk.1.1.1.1.2, hk.1.2⟩⟩⟩⟩)⟩
            have n2_ : Aside0 (Kd.R k46 46 (((((w69.setCell ⟨gb312, 0, none⟩ (.int .i64 t302)).setCell ⟨gb312, 1, none⟩ (.int .i64 t303)).setCell ⟨gb312, 2, none⟩ (.int .i64 t304)).setCell ⟨gb312, 3, none⟩ (.slice Ao72 t305.length co72)).setCell ⟨gb312, 4, none⟩ (.slice Ao73 t308.length co73)) w.heap.size (fun k_ => some k_ ≠ (.slice Ao66 t294.length co66 : Value).ownBlock) (.slice Ao72 t305.length co72) t305) := ⟨by (with_reducible repeat (first | apply Kd.R_alloc | apply Kd.R_drewN | apply Kd.R_drew)); exact Kd.R_mono (Kd.R_far (p := ⟨gb312, 4, none⟩) (Kd.R_far (p := ⟨gb312, 3, none⟩) (Kd.R_far (p := ⟨gb312, 2, none⟩) (Kd.R_far (p := ⟨gb312, 1, none⟩) (Kd.R_far (p := ⟨gb312, 0, none⟩) (Kd.R_types HO307.out BK312.out (by decide)) (fun _ hk => hk.2) (.int .i64 t302)) (fun _ hk => hk.2) (.int .i64 t303)) (fun _ hk => hk.2) (.int .i64 t304)) (fun _ hk => hk.2) (.slice Ao72 t305.length co72)) (fun _ hk => hk.2) (.slice Ao73 t308.length co73)) (fun _ hk => hk.1.2)⟩
            have n3_ : Aside0 (Kd.R k37 37 (((((w69.setCell ⟨gb312, 0, none⟩ (.int .i64 t302)).setCell ⟨gb312, 1, none⟩ (.int .i64 t303)).setCell ⟨gb312, 2, none⟩ (.int .i64 t304)).setCell ⟨gb312, 3, none⟩ (.slice Ao72 t305.length co72)).setCell ⟨gb312, 4, none⟩ (.slice Ao73 t308.length co73)) w.heap.size (fun k_ => some k_ ≠ (.slice Ao66 t294.length co66 : Value).ownBlock ∧ some k_ ≠ (.slice Ao67 t297.length co67 : Value).ownBlock ∧ some k_ ≠ (.slice Ao72 t305.length co72 : Value).ownBlock ∧ k_ ≠ gb301 ∧ k_ ≠ gb312) (.slice Ao73 t308.length co73) t308) := ⟨by (with_reducible repeat (first | apply Kd.R_alloc | apply Kd.R_drewN | apply Kd.R_drew)); exact Kd.R_mono (Kd.R_far (p := ⟨gb312, 4, none⟩) (Kd.R_far (p := ⟨gb312, 3, none⟩) (Kd.R_far (p := ⟨gb312, 2, none⟩) (Kd.R_far (p := ⟨gb312, 1, none⟩) (Kd.R_far (p := ⟨gb312, 0, none⟩) (Kd.R_mono HO310.out (fun k_ hk => (⟨hk, hk.2⟩ : _ ∧ k_ ≠ gb312))) (fun _ hk => hk.2) (.int .i64 t302)) (fun _ hk => hk.2) (.int .i64 t303)) (fun _ hk => hk.2) (.int .i64 t304)) (fun _ hk => hk.2) (.slice Ao72 t305.length co72)) (fun _ hk => hk.2) (.slice Ao73 t308.length co73)) (fun _ hk => ⟨hk.1.1.1.1.2, ⟨hk.1.1.1.2, ⟨hk.1.1.1.1.1, ⟨hk.1.1.2, hk.1.2⟩⟩⟩⟩)⟩
            have n4_ : Aside0 ((((((w69.setCell ⟨gb312, 0, none⟩ (.int .i64 t302)).setCell ⟨gb312, 1, none⟩ (.int .i64 t303)).setCell ⟨gb312, 2, none⟩ (.int .i64 t304)).setCell ⟨gb312, 3, none⟩ (.slice Ao72 t305.length co72)).setCell ⟨gb312, 4, none⟩ (.slice Ao73 t308.length co73)).heap[gb301]? = some (.cells #[.int .i64 t291, .int .i64 t292, .int .i64 t293, .slice Ao66 t294.length co66, .slice Ao67 t297.length co67] 37 (0, 0))) := ⟨by (with_reducible repeat (first | refine blk_drewN ?_ _ | refine blk_drew ?_ | refine blk_alloc ?_ _)); refine blk_far ?_ NB301_312.out _; (with_reducible repeat (first | refine blk_drewN ?_ _ | refine blk_drew ?_ | refine blk_alloc ?_ _)); refine blk_far ?_ NB301_312.out _; (with_reducible repeat (first | refine blk_drewN ?_ _ | refine blk_drew ?_ | refine blk_alloc ?_ _)); refine blk_far ?_ NB301_312.out _; (with_reducible repeat (first | refine blk_drewN ?_ _ | refine blk_drew ?_ | refine blk_alloc ?_ _)); refine blk_far ?_ NB301_312.out _; (with_reducible repeat (first | refine blk_drewN ?_ _ | refine blk_drew ?_ | refine blk_alloc ?_ _)); refine blk_far ?_ NB301_312.out _; (with_reducible repeat (first | refine blk_drewN ?_ _ | refine blk_drew ?_ | refine blk_alloc ?_ _)); exact BK301.out⟩
            have n5_ : Aside0 ((((((w69.setCell ⟨gb312, 0, none⟩ (.int .i64 t302)).setCell ⟨gb312, 1, none⟩ (.int .i64 t303)).setCell ⟨gb312, 2, none⟩ (.int .i64 t304)).setCell ⟨gb312, 3, none⟩ (.slice Ao72 t305.length co72)).setCell ⟨gb312, 4, none⟩ (.slice Ao73 t308.length co73)).heap[gb312]? = some (.cells #[.int .i64 t302, .int .i64 t303, .int .i64 t304, .slice Ao72 t305.length co72, .slice Ao73 t308.length co73] 37 (0, 0))) := ⟨by (with_reducible repeat (first | refine blk_drewN ?_ _ | refine blk_drew ?_ | refine blk_alloc ?_ _)); refine blk_put (cs := #[.int .i64 t302, .int .i64 t303, .int .i64 t304, .slice Ao72 t305.length co72, .slice none 0 0]) ?_ 4 _ rfl; (with_reducible repeat (first | refine blk_drewN ?_ _ | refine blk_drew ?_ | refine blk_alloc ?_ _)); refine blk_put (cs := #[.int .i64 t302, .int .i64 t303, .int .i64 t304, .slice none 0 0, .slice none 0 0]) ?_ 3 _ rfl; (with_reducible repeat (first | refine blk_drewN ?_ _ | refine blk_drew ?_ | refine blk_alloc ?_ _)); refine blk_put (cs := #[.int .i64 t302, .int .i64 t303, .int .i64 0, .slice none 0 0, .slice none 0 0]) ?_ 2 _ rfl; (with_reducible repeat (first | refine blk_drewN ?_ _ | refine blk_drew ?_ | refine blk_alloc ?_ _)); refine blk_put (cs := #[.int .i64 t302, .int .i64 0, .int .i64 0, .slice none 0 0, .slice none 0 0]) ?_ 1 _ rfl; (with_reducible repeat (first | refine blk_drewN ?_ _ | refine blk_drew ?_ | refine blk_alloc ?_ _)); refine blk_put (cs := #[.int .i64 0, .int .i64 0, .int .i64 0, .slice none 0 0, .slice none 0 0]) ?_ 0 _ rfl; (with_reducible repeat (first | refine blk_drewN ?_ _ | refine blk_drew ?_ | refine blk_alloc ?_ _)); exact BK312.out⟩
            have n6_ : Aside0 (Below w.heap.size w (((((w69.setCell ⟨gb312, 0, none⟩ (.int .i64 t302)).setCell ⟨gb312, 1, none⟩ (.int .i64 t303)).setCell ⟨gb312, 2, none⟩ (.int .i64 t304)).setCell ⟨gb312, 3, none⟩ (.slice Ao72 t305.length co72)).setCell ⟨gb312, 4, none⟩ (.slice Ao73 t308.length co73))) := ⟨by repeat (first | (with_reducible first | exact HB.out | apply below_alloc | apply pw_below_drewN | apply below_drew1 | refine below_set ?_ GE301.out | refine below_set ?_ GE312.out) | exact HB.out)⟩
            (try clear HO296)
            (try clear HO299)
            (try clear HO307)
            (try clear HO310)
            (try clear BK301)
            (try clear BK312)
            (try clear HB)
            generalize (((((w69.setCell ⟨gb312, 0, none⟩ (.int .i64 t302)).setCell ⟨gb312, 1, none⟩ (.int .i64 t303)).setCell ⟨gb312, 2, none⟩ (.int .i64 t304)).setCell ⟨gb312, 3, none⟩ (.slice Ao72 t305.length co72)).setCell ⟨gb312, 4, none⟩ (.slice Ao73 t308.length co73)) = w74 at n0_ n1_ n2_ n3_ n4_ n5_ n6_ ⊢
            have HO296 := n0_
            have HO299 := n1_
            have HO307 := n2_
            have HO310 := n3_
            have BK301 := n4_
            have BK312 := n5_
            have HB := n6_
            clear n0_ n1_ n2_ n3_ n4_ n5_ n6_
            have n0_ := Aside0.mk (Kd.R_drew HO296.out)
            have n1_ := Aside0.mk (Kd.R_drew HO299.out)
            have n2_ := Aside0.mk (Kd.R_drew HO307.out)
            have n3_ := Aside0.mk (Kd.R_drew HO310.out)
            have n4_ := Aside0.mk (blk_drew BK301.out)
            have n5_ := Aside0.mk (blk_drew BK312.out)
            have n6_ := Aside0.mk (below_drew1 HB.out)
            clear HO296
            clear HO299
            clear HO307
            clear HO310
            clear BK301
            clear BK312
            clear HB
            have HO296 := n0_
            have HO299 := n1_
            have HO307 := n2_
            have HO310 := n3_
            have BK301 := n4_
            have BK312 := n5_
            have HB := n6_
            clear n0_ n1_ n2_ n3_ n4_ n5_ n6_
            refine start_ (n := 19) (S := fun w' => True) (ds := []) #[false, false, false, false, false, false, false, false, false, false, false, false, false, false, false, false, false, false, false] (by kernel_rfl) rfl rfl trivial (fun hHeld => ?_); refine with_tabW laws_prSame.tab10 laws_prSame.bits10 (fun HT_ HW_ => ?_)
            generalize w74.drew = w75 at HO296 HO299 HO307 HO310 BK301 BK312 HB hHeld ⊢
            refine pure_ (i := 0) (N := some 40) (v := ?_) (a' := ?_) #[true, false, false, false, false, false, false, false, false, false, false, false, false, false, false, false, false, false, false] rfl rfl (any_of HT_.out (by kernel_rfl)) (fun _ _ _ h => h) (Or.inl ⟨by rfl, ?_⟩) ?_ ?_
            rotate_left
            · intro w'
              go_simp
              with_reducible rfl
            rotate_left
            · simp only [Act.put, List.setIfInBounds_toArray, List.set_cons_zero, List.set_cons_succ, i64_w, i32_w]
              rfl
            refine pure_ (i := 1) (N := some 41) (v := ?_) (a' := ?_) #[true, true, false, false, false, false, false, false, false, false, false, false, false, false, false, false, false, false, false] rfl rfl (any_of HT_.out (by kernel_rfl)) (fun _ _ _ h => h) (Or.inl ⟨by rfl, ?_⟩) ?_ ?_
            rotate_left
            · intro w'
              go_simp
              with_reducible rfl
            rotate_left
            · simp only [Act.put, List.setIfInBounds_toArray, List.set_cons_zero, List.set_cons_succ, i64_w, i32_w]
              rfl
            refine pure_ (i := 2) (N := some 42) (v := undef) (a' := ?_) #[true, true, true, false, false, false, false, false, false, false, false, false, false, false, false, false, false, false, false] rfl rfl (any_of HT_.out (by kernel_rfl)) (fun _ _ _ h => h) (Or.inr ⟨by rfl, rfl⟩) ?_ ?_
            rotate_left
            · simp only [Act.put, List.setIfInBounds_toArray, List.set_cons_zero, List.set_cons_succ, i64_w, i32_w]
              rfl
            refine pure_ (i := 3) (N := some 43) (v := ?_) (a' := ?_) #[true, true, true, true, false, false, false, false, false, false, false, false, false, false, false, false, false, false, false] rfl rfl (any_of HT_.out (by kernel_rfl)) (fun _ _ _ h => h) (Or.inl ⟨by rfl, ?_⟩) ?_ ?_
            rotate_left
            · intro w'
              go_simp
              with_reducible rfl
            rotate_left
            · simp only [Act.put, List.setIfInBounds_toArray, List.set_cons_zero, List.set_cons_succ, i64_w, i32_w]
              rfl
            refine pure_ (i := 4) (N := some 44) (v := ?_) (a' := ?_) #[true, true, true, true, true, false, false, false, false, false, false, false, false, false, false, false, false, false, false] rfl rfl (any_of HT_.out (by kernel_rfl)) (fun _ _ _ h => h) (Or.inl ⟨by rfl, ?_⟩) ?_ ?_
            rotate_left
            · intro w'
              go_simp
              with_reducible rfl
            rotate_left
            · simp only [Act.put, List.setIfInBounds_toArray, List.set_cons_zero, List.set_cons_succ, i64_w, i32_w]
              rfl
            refine pure_ (i := 5) (N := some 45) (v := undef) (a' := ?_) #[true, true, true, true, true, true, false, false, false, false, false, false, false, false, false, false, false, false, false] rfl rfl (any_of HT_.out (by kernel_rfl)) (fun _ _ _ h => h) (Or.inr ⟨by rfl, rfl⟩) ?_ ?_
            rotate_left
            · simp only [Act.put, List.setIfInBounds_toArray, List.set_cons_zero, List.set_cons_succ, i64_w, i32_w]
              rfl
            refine pure_ (i := 6) (N := some 46) (v := undef) (a' := ?_) #[true, true, true, true, true, true, true, false, false, false, false, false, false, false, false, false, false, false, false] rfl rfl (any_of HT_.out (by kernel_rfl)) (fun _ _ _ h => h) (Or.inr ⟨by rfl, rfl⟩) ?_ ?_
            rotate_left
            · simp only [Act.put, List.setIfInBounds_toArray, List.set_cons_zero, List.set_cons_succ, i64_w, i32_w]
              rfl
            refine pure_ (i := 7) (N := some 47) (v := undef) (a' := ?_) #[true, true, true, true, true, true, true, true, false, false, false, false, false, false, false, false, false, false, false] rfl rfl (any_of HT_.out (by kernel_rfl)) (fun _ _ _ h => h) (Or.inr ⟨by rfl, rfl⟩) ?_ ?_
            rotate_left
            · simp only [Act.put, List.setIfInBounds_toArray, List.set_cons_zero, List.set_cons_succ, i64_w, i32_w]
              rfl
            refine pure_ (i := 8) (N := some 48) (v := ?_) (a' := ?_) #[true, true, true, true, true, true, true, true, true, false, false, false, false, false, false, false, false, false, false] rfl rfl (any_of HT_.out (by kernel_rfl)) (fun _ _ _ h => h) (Or.inl ⟨by rfl, ?_⟩) ?_ ?_
            rotate_left
            · intro w'
              go_simp
              with_reducible rfl
            rotate_left
            · simp only [Act.put, List.setIfInBounds_toArray, List.set_cons_zero, List.set_cons_succ, i64_w, i32_w]
              rfl
            refine pure_ (i := 9) (N := some 49) (v := ?_) (a' := ?_) #[true, true, true, true, true, true, true, true, true, true, false, false, false, false, false, false, false, false, false] rfl rfl (any_of HT_.out (by kernel_rfl)) (fun _ _ _ h => h) (Or.inl ⟨by rfl, ?_⟩) ?_ ?_
            rotate_left
            · intro w'
              go_simp
              with_reducible rfl
            rotate_left
            · simp only [Act.put, List.setIfInBounds_toArray, List.set_cons_zero, List.set_cons_succ, i64_w, i32_w]
              rfl
            refine pure_ (i := 10) (N := some 50) (v := undef) (a' := ?_) #[true, true, true, true, true, true, true, true, true, true, true, false, false, false, false, false, false, false, false] rfl rfl (any_of HT_.out (by kernel_rfl)) (fun _ _ _ h => h) (Or.inr ⟨by rfl, rfl⟩) ?_ ?_
            rotate_left
            · simp only [Act.put, List.setIfInBounds_toArray, List.set_cons_zero, List.set_cons_succ, i64_w, i32_w]
              rfl
            refine pure_ (i := 11) (N := some 51) (v := undef) (a' := ?_) #[true, true, true, true, true, true, true, true, true, true, true, true, false, false, false, false, false, false, false] rfl rfl (any_of HT_.out (by kernel_rfl)) (fun _ _ _ h => h) (Or.inr ⟨by rfl, rfl⟩) ?_ ?_
            rotate_left
            · simp only [Act.put, List.setIfInBounds_toArray, List.set_cons_zero, List.set_cons_succ, i64_w, i32_w]
              rfl
            refine pure_ (i := 12) (N := some 52) (v := undef) (a' := ?_) #[true, true, true, true, true, true, true, true, true, true, true, true, true, false, false, false, false, false, false] rfl rfl (any_of HT_.out (by kernel_rfl)) (fun _ _ _ h => h) (Or.inr ⟨by rfl, rfl⟩) ?_ ?_
            rotate_left
            · simp only [Act.put, List.setIfInBounds_toArray, List.set_cons_zero, List.set_cons_succ, i64_w, i32_w]
              rfl
            refine pure_ (i := 13) (N := some 53) (v := undef) (a' := ?_) #[true, true, true, true, true, true, true, true, true, true, true, true, true, true, false, false, false, false, false] rfl rfl (any_of HT_.out (by kernel_rfl)) (fun _ _ _ h => h) (Or.inr ⟨by rfl, rfl⟩) ?_ ?_
            rotate_left
            · simp only [Act.put, List.setIfInBounds_toArray, List.set_cons_zero, List.set_cons_succ, i64_w, i32_w]
              rfl
            refine pure_ (i := 14) (N := some 54) (v := undef) (a' := ?_) #[true, true, true, true, true, true, true, true, true, true, true, true, true, true, true, false, false, false, false] rfl rfl (any_of HT_.out (by kernel_rfl)) (fun _ _ _ h => h) (Or.inr ⟨by rfl, rfl⟩) ?_ ?_
            rotate_left
            · simp only [Act.put, List.setIfInBounds_toArray, List.set_cons_zero, List.set_cons_succ, i64_w, i32_w]
              rfl
            refine pure_ (i := 15) (N := some 55) (v := undef) (a' := ?_) #[true, true, true, true, true, true, true, true, true, true, true, true, true, true, true, true, false, false, false] rfl rfl (any_of HT_.out (by kernel_rfl)) (fun _ _ _ h => h) (Or.inr ⟨by rfl, rfl⟩) ?_ ?_
            rotate_left
            · simp only [Act.put, List.setIfInBounds_toArray, List.set_cons_zero, List.set_cons_succ, i64_w, i32_w]
              rfl
            refine pure_ (i := 16) (N := some 56) (v := undef) (a' := ?_) #[true, true, true, true, true, true, true, true, true, true, true, true, true, true, true, true, true, false, false] rfl rfl (any_of HT_.out (by kernel_rfl)) (fun _ _ _ h => h) (Or.inr ⟨by rfl, rfl⟩) ?_ ?_
            rotate_left
            · simp only [Act.put, List.setIfInBounds_toArray, List.set_cons_zero, List.set_cons_succ, i64_w, i32_w]
              rfl
            refine pure_ (i := 17) (N := some 57) (v := ?_) (a' := ?_) #[true, true, true, true, true, true, true, true, true, true, true, true, true, true, true, true, true, true, false] rfl rfl (any_of HT_.out (by kernel_rfl)) (fun _ _ _ h => h) (Or.inl ⟨by rfl, ?_⟩) ?_ ?_
            rotate_left
            · intro w'
              go_simp
              with_reducible rfl
            rotate_left
            · simp only [Act.put, List.setIfInBounds_toArray, List.set_cons_zero, List.set_cons_succ, i64_w, i32_w]
              rfl
            refine pure_ (i := 18) (N := some 4) (v := ?_) (a' := ?_) #[true, true, true, true, true, true, true, true, true, true, true, true, true, true, true, true, true, true, true] rfl rfl (any_of HT_.out (by kernel_rfl)) (fun _ _ _ h => h) (Or.inl ⟨by rfl, ?_⟩) ?_ ?_
            rotate_left
            · intro w'
              go_simp
              with_reducible rfl
            rotate_left
            · simp only [Act.put, List.setIfInBounds_toArray, List.set_cons_zero, List.set_cons_succ, i64_w, i32_w]
              rfl
            refine done_ (done_of HT_.out (by kernel_rfl)) ?_
            try go_wp2
            go_ret
            exact ⟨by first | rfl | (simp [errW_none, errW_some] <;> rfl) | (simp [*, errW_none, errW_some] <;> rfl), by repeat (first | (with_reducible first | exact HB.out | apply below_alloc | apply pw_below_drewN | apply below_drew1 | refine below_set ?_ GE301.out | refine below_set ?_ GE312.out) | exact HB.out)⟩
  · rw [if_neg c3] at H
    have c3b0 : ((a0.size : Int) == (a1.size : Int)) = false := beq_eq_false_iff_ne.mpr c3
    have c3b1 : ((a0.size : Int) != (a1.size : Int)) = true := bne_iff_ne.mpr c3
    have c3b2 : (a0.size == a1.size) = false := by first | simpa using c3 | (simp at c3 ⊢; omega)
    obtain rfl := Option.some.inj H
    go_enter Try.func5, Try.ntmps5
    go_wp2
    go_ret
    exact ⟨by first | rfl | (simp [errW_none, errW_some] <;> rfl) | (simp [*, errW_none, errW_some] <;> rfl), by repeat (first | (with_reducible first | exact HB.out | apply below_alloc | apply pw_below_drewN | apply below_drew1) | exact HB.out)⟩
end Go.Proofs.Ytlllokmipeoelaa.XFnPrSpec
end
