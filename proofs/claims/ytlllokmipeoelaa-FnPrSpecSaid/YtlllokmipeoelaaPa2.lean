/- Proved here: parts of the law FnPrSpec (the texts XFnPrSpecx4), no conditions of their own beyond what each theorem says. -/
import Derived.Test.YtlllokmipeoelaaPa1
section
-- Written by xprint.py of this session (a program that runs the kit's print and adds to it); Lean checks it.
namespace Go.Proofs.Ytlllokmipeoelaa.XFnPrSpec
open Go.RowKit Go.Proofs.YtlllokmipeoelaaW.PrintWords Go.Proofs.YtlllokmipeoelaaW.PrintLast Go.Proofs.YtlllokmipeoelaaW.PrintMore
attribute [local go_sem] max2_int min2_int max_two min_two max_three min_three max_four min_four   -- for this text's walks alone
set_option linter.unusedVariables false
set_option linter.unusedSimpArgs false
/-! ### spec_reader_blanks: function 15 -/
def spec_reader_blanks.l0 : Nat → ByteArray → Int → Option (ByteArray × Int)
  | 0, _, _ => none
  | k + 1, x1000, x1001 => if x1001 < (x1000.size : Int) then (if 0 ≤ x1001 then ((spec_Blank.f (bt x1000 x1001)).bind fun t112 => (if t112 = true then (spec_reader_blanks.l0 k x1000 (wrap64 (x1001 + 1))) else (some (x1000, x1001)))) else (none)) else (some (x1000, x1001))
def spec_reader_blanks.f (k : Nat) (s0_0 : ByteArray) (s0_1 : Int) : Option (ByteArray × Int) := spec_reader_blanks.l0 k s0_0 s0_1
set_option maxHeartbeats 8000000 in
set_option maxRecDepth 100000 in
theorem spec_reader_blanks.calls (k : Nat) (g : Nat) (s0_0 : ByteArray) (s0_1 : Int) (r1 : ByteArray) (r2 : Int) (w0 w : World) (hI : IsS31 w0 w g s0_0 s0_1) (hB : Below w0.heap.size w0 w) (h : spec_reader_blanks.f k s0_0 s0_1 = some (r1, r2)) :
    Calls Try.prog 15 #[.pointer (some ⟨g, 0, none⟩)] w fun e w' => e = .returned (.tuple #[]) ∧ IsS31 w0 w' g r1 r2 ∧ Below w0.heap.size w0 w' ∧ KeepBut w w' g none := by
  have HI0 := Aside0.mk hI
  have HK := Aside0.mk (KeepBut.refl w g none)
  have HL := Aside0.mk hB.size
  clear hI
  have HW0 := Aside0.mk hB.size
  have HB := Aside0.mk hB
  clear hB
  have H : (spec_reader_blanks.l0 k s0_0 s0_1) = some (r1, r2) := h
  clear h
  have H' := Aside0.mk H
  clear H
  go_enter Try.func15, Try.ntmps15
  go_wp2
  repeat (go_quiet (fail); try go_wp2)
  try simp only [Act.put, List.setIfInBounds_toArray, List.set_cons_succ, List.set_cons_zero]
  go_loopg [] k (fun kq w' => ∃ (x1001_1 : Int), Aside0 (spec_reader_blanks.l0 kq s0_0 x1001_1 = some (r1, r2)) ∧ Aside0 (kq ≤ k) ∧ Aside0 (IsS31 w0 w' g s0_0 x1001_1) ∧ Aside0 (KeepBut w w' g none) ∧ Aside0 (Below w0.heap.size w0 w'))
  case atStart => exact ⟨(s0_1), H', ⟨Nat.le_refl _⟩, ⟨by repeat (first | (with_reducible first | exact HI0.out | apply IsS31.alloc | apply IsS31.drewN | apply IsS31.drew | apply IsS31.set_0 | apply IsS31.set_1) | exact HI0.out)⟩, ⟨by repeat (first | (with_reducible first | exact HK.out | apply KeepBut.set_ | apply keep_drewN | apply keep_drew | apply keep_alloc) | exact HK.out)⟩, ⟨by repeat (first | (with_reducible first | exact HB.out | apply below_alloc | apply pw_below_drewN | apply below_drew1 | refine below_set ?_ (IsS31.ge HI0.out)) | exact HB.out)⟩⟩
  case round =>
    clear H'
    try clear c1
    obtain ⟨x1001_1, HA, HK1, HI0, HK, HB⟩ := hrel
    cases gk with
    | zero => exact absurd HA.out (by simp [spec_reader_blanks.l0])
    | succ k1 =>
      have H := HA.out
      clear HA
      simp only [spec_reader_blanks.l0] at H
      by_cases c2 : x1001_1 < (s0_0.size : Int)
      · rw [if_pos c2] at H
        have c2b0 : decide (x1001_1 < (s0_0.size : Int)) = true := decide_eq_true c2
        clear c2
        by_cases c3 : 0 ≤ x1001_1
        · rw [if_pos c3] at H
          have c3b0 : decide (0 ≤ x1001_1) = true := decide_eq_true c3
          clear c3
          replace H := Option.bind_eq_some_iff.mp H
          obtain ⟨t112, A50, H⟩ := H
          replace H : (if t112 = true then (spec_reader_blanks.l0 k1 s0_0 (wrap64 (x1001_1 + 1))) else (some (s0_0, x1001_1))) = some (r1, r2) := H
          have A5 := Aside0.mk A50
          clear A50
          by_cases c6 : t112 = true
          · subst c6
            have H1 : (spec_reader_blanks.l0 k1 s0_0 (wrap64 (x1001_1 + 1))) = some (r1, r2) := by rw [if_pos rfl] at H; exact H
            clear H
            have H := H1
            clear H1
            have H' := Aside0.mk H
            clear H
            obtain ⟨HGz7, hgz7⟩ := HI0.out
            have hcz7_0 := cellS31_0 HGz7
            have hcz7_1 := cellS31_1 HGz7
            have hfz7_0 := blk_frozen HGz7 0
            have hfz7_1 := blk_frozen HGz7 1
            clear HGz7 hgz7
            have p4 : 0 ≤ (x1001_1 : Int) := of_decide_eq_true (by first | (with_reducible assumption) | assumption)
            have q4 : x1001_1 < (s0_0.size : Int) := of_decide_eq_true (by first | (with_reducible assumption) | assumption)
            have hx4 := bt_at s0_0 x1001_1
            replace p4 := eq_true p4
            replace q4 := eq_true q4
            go_wp2_with (first | (go_at_call 9; (with_reducible refine (spec_Blank.calls (bt s0_0 x1001_1) true _ A5.out).mono ?_); rintro e w' ⟨rfl, ⟨nd, rfl⟩⟩; (try first | exact ⟨rfl, _, World.drewN_drewN _ _ _⟩ | exact ⟨rfl, _, Eq.trans (World.drewN_drewN _ _ _) (congrArg (World.drewN _) (Nat.add_assoc _ _ _))⟩)))
            repeat (go_quiet (first | (go_at_call 9; (with_reducible refine (spec_Blank.calls (bt s0_0 x1001_1) true _ A5.out).mono ?_); rintro e w' ⟨rfl, ⟨nd, rfl⟩⟩; (try first | exact ⟨rfl, _, World.drewN_drewN _ _ _⟩ | exact ⟨rfl, _, Eq.trans (World.drewN_drewN _ _ _) (congrArg (World.drewN _) (Nat.add_assoc _ _ _))⟩))); try go_wp2_with (first | (go_at_call 9; (with_reducible refine (spec_Blank.calls (bt s0_0 x1001_1) true _ A5.out).mono ?_); rintro e w' ⟨rfl, ⟨nd, rfl⟩⟩; (try first | exact ⟨rfl, _, World.drewN_drewN _ _ _⟩ | exact ⟨rfl, _, Eq.trans (World.drewN_drewN _ _ _) (congrArg (World.drewN _) (Nat.add_assoc _ _ _))⟩))))
            go_roundg k1
            case measure => have := HK1.out; omega
            case rel => exact ⟨(wrap64 (x1001_1 + 1)), H', ⟨by have := HK1.out; omega⟩, ⟨by repeat (first | (with_reducible first | exact HI0.out | apply IsS31.alloc | apply IsS31.drewN | apply IsS31.drew | apply IsS31.set_0 | apply IsS31.set_1) | exact HI0.out)⟩, ⟨by repeat (first | (with_reducible first | exact HK.out | apply KeepBut.set_ | apply keep_drewN | apply keep_drew | apply keep_alloc) | exact HK.out)⟩, ⟨by repeat (first | (with_reducible first | exact HB.out | apply below_alloc | apply pw_below_drewN | apply below_drew1 | refine below_set ?_ (IsS31.ge HI0.out)) | exact HB.out)⟩⟩
          · replace c6 := Bool.eq_false_iff.mpr c6
            subst c6
            have H1 : (some (s0_0, x1001_1)) = some (r1, r2) := by rw [if_neg (show ¬ (false = true) by decide)] at H; exact H
            clear H
            have H := H1
            clear H1
            simp only [Option.some.injEq, Prod.mk.injEq] at H
            obtain ⟨rfl, rfl⟩ := H
            obtain ⟨HGz8, hgz8⟩ := HI0.out
            have hcz8_0 := cellS31_0 HGz8
            have hcz8_1 := cellS31_1 HGz8
            have hfz8_0 := blk_frozen HGz8 0
            have hfz8_1 := blk_frozen HGz8 1
            clear HGz8 hgz8
            have p4 : 0 ≤ (x1001_1 : Int) := of_decide_eq_true (by first | (with_reducible assumption) | assumption)
            have q4 : x1001_1 < (s0_0.size : Int) := of_decide_eq_true (by first | (with_reducible assumption) | assumption)
            have hx4 := bt_at s0_0 x1001_1
            replace p4 := eq_true p4
            replace q4 := eq_true q4
            go_wp2_with (first | (go_at_call 9; (with_reducible refine (spec_Blank.calls (bt s0_0 x1001_1) false _ A5.out).mono ?_); rintro e w' ⟨rfl, ⟨nd, rfl⟩⟩; (try first | exact ⟨rfl, _, World.drewN_drewN _ _ _⟩ | exact ⟨rfl, _, Eq.trans (World.drewN_drewN _ _ _) (congrArg (World.drewN _) (Nat.add_assoc _ _ _))⟩)))
            repeat (go_quiet (first | (go_at_call 9; (with_reducible refine (spec_Blank.calls (bt s0_0 x1001_1) false _ A5.out).mono ?_); rintro e w' ⟨rfl, ⟨nd, rfl⟩⟩; (try first | exact ⟨rfl, _, World.drewN_drewN _ _ _⟩ | exact ⟨rfl, _, Eq.trans (World.drewN_drewN _ _ _) (congrArg (World.drewN _) (Nat.add_assoc _ _ _))⟩))); try go_wp2_with (first | (go_at_call 9; (with_reducible refine (spec_Blank.calls (bt s0_0 x1001_1) false _ A5.out).mono ?_); rintro e w' ⟨rfl, ⟨nd, rfl⟩⟩; (try first | exact ⟨rfl, _, World.drewN_drewN _ _ _⟩ | exact ⟨rfl, _, Eq.trans (World.drewN_drewN _ _ _) (congrArg (World.drewN _) (Nat.add_assoc _ _ _))⟩))))
            first | go_end0 | ((try simp only [Exit.inBlock, Exit.then]); refine bodyPost_ret (results_none rfl _ _ _) rfl ?_)
            exact ⟨by first | rfl | (simp [errW_none, errW_some] <;> rfl) | (simp [*, errW_none, errW_some] <;> rfl), by repeat (first | (with_reducible first | exact HI0.out | apply IsS31.alloc | apply IsS31.drewN | apply IsS31.drew | apply IsS31.set_0 | apply IsS31.set_1) | exact HI0.out), by repeat (first | (with_reducible first | exact HB.out | apply below_alloc | apply pw_below_drewN | apply below_drew1 | refine below_set ?_ (IsS31.ge HI0.out)) | exact HB.out), by repeat (first | (with_reducible first | exact HK.out | apply KeepBut.set_ | apply keep_drewN | apply keep_drew | apply keep_alloc) | exact HK.out)⟩
        · rw [if_neg c3] at H
          exact absurd H (by simp)
      · rw [if_neg c2] at H
        have c2b0 : decide (x1001_1 < (s0_0.size : Int)) = false := decide_eq_false c2
        clear c2
        simp only [Option.some.injEq, Prod.mk.injEq] at H
        obtain ⟨rfl, rfl⟩ := H
        obtain ⟨HGz9, hgz9⟩ := HI0.out
        have hcz9_0 := cellS31_0 HGz9
        have hcz9_1 := cellS31_1 HGz9
        have hfz9_0 := blk_frozen HGz9 0
        have hfz9_1 := blk_frozen HGz9 1
        clear HGz9 hgz9
        go_wp2
        repeat (go_quiet (fail); try go_wp2)
        first | go_end0 | ((try simp only [Exit.inBlock, Exit.then]); refine bodyPost_ret (results_none rfl _ _ _) rfl ?_)
        exact ⟨by first | rfl | (simp [errW_none, errW_some] <;> rfl) | (simp [*, errW_none, errW_some] <;> rfl), by repeat (first | (with_reducible first | exact HI0.out | apply IsS31.alloc | apply IsS31.drewN | apply IsS31.drew | apply IsS31.set_0 | apply IsS31.set_1) | exact HI0.out), by repeat (first | (with_reducible first | exact HB.out | apply below_alloc | apply pw_below_drewN | apply below_drew1 | refine below_set ?_ (IsS31.ge HI0.out)) | exact HB.out), by repeat (first | (with_reducible first | exact HK.out | apply KeepBut.set_ | apply keep_drewN | apply keep_drew | apply keep_alloc) | exact HK.out)⟩
/-! ### spec_reader_take: function 25 -/
def spec_reader_take.f (s0_0 : ByteArray) (s0_1 : Int) (a1 : Int) : Option (Bool × ByteArray × Int) := if s0_1 < (s0_0.size : Int) then (if 0 ≤ s0_1 then (if (bt s0_0 s0_1) = a1 then (some (true, s0_0, wrap64 (s0_1 + 1))) else (some (false, s0_0, s0_1))) else (none)) else (some (false, s0_0, s0_1))
set_option maxHeartbeats 8000000 in
set_option maxRecDepth 100000 in
theorem spec_reader_take.calls (g : Nat) (s0_0 : ByteArray) (s0_1 : Int) (a1 : Int) (r1 : Bool) (r2 : ByteArray) (r3 : Int) (w0 w : World) (hI : IsS31 w0 w g s0_0 s0_1) (hB : Below w0.heap.size w0 w) (h : spec_reader_take.f s0_0 s0_1 a1 = some (r1, r2, r3)) :
    Calls Try.prog 25 #[.pointer (some ⟨g, 0, none⟩), .int .u8 a1] w fun e w' => e = .returned (.bool r1) ∧ IsS31 w0 w' g r2 r3 ∧ Below w0.heap.size w0 w' ∧ KeepBut w w' g none := by
  have HI0 := Aside0.mk hI
  have HK := Aside0.mk (KeepBut.refl w g none)
  have HL := Aside0.mk hB.size
  clear hI
  have HW0 := Aside0.mk hB.size
  have HB := Aside0.mk hB
  clear hB
  have H : (if s0_1 < (s0_0.size : Int) then (if 0 ≤ s0_1 then (if (bt s0_0 s0_1) = a1 then (some (true, s0_0, wrap64 (s0_1 + 1))) else (some (false, s0_0, s0_1))) else (none)) else (some (false, s0_0, s0_1))) = some (r1, r2, r3) := h
  clear h
  by_cases c3 : s0_1 < (s0_0.size : Int)
  · rw [if_pos c3] at H
    have c3b0 : decide (s0_1 < (s0_0.size : Int)) = true := decide_eq_true c3
    clear c3
    by_cases c4 : 0 ≤ s0_1
    · rw [if_pos c4] at H
      have c4b0 : decide (0 ≤ s0_1) = true := decide_eq_true c4
      clear c4
      by_cases c6 : (bt s0_0 s0_1) = a1
      · rw [if_pos c6] at H
        have c6b0 : ((bt s0_0 s0_1) == a1) = true := beq_iff_eq.mpr c6
        have c6b1 : ((bt s0_0 s0_1) != a1) = false := bne_eq_false_iff_eq.mpr c6
        clear c6
        simp only [Option.some.injEq, Prod.mk.injEq] at H
        obtain ⟨rfl, rfl, rfl⟩ := H
        obtain ⟨HGz7, hgz7⟩ := HI0.out
        have hcz7_0 := cellS31_0 HGz7
        have hcz7_1 := cellS31_1 HGz7
        have hfz7_0 := blk_frozen HGz7 0
        have hfz7_1 := blk_frozen HGz7 1
        clear HGz7 hgz7
        have p5 : 0 ≤ (s0_1 : Int) := of_decide_eq_true (by first | (with_reducible assumption) | assumption)
        have q5 : s0_1 < (s0_0.size : Int) := of_decide_eq_true (by first | (with_reducible assumption) | assumption)
        have hx5 := bt_at s0_0 s0_1
        replace p5 := eq_true p5
        replace q5 := eq_true q5
        go_enter Try.func25, Try.ntmps25
        go_wp2
        repeat (go_quiet (fail); try go_wp2)
        go_ret
        exact ⟨by first | rfl | (simp [errW_none, errW_some] <;> rfl) | (simp [*, errW_none, errW_some] <;> rfl), by repeat (first | (with_reducible first | exact HI0.out | apply IsS31.alloc | apply IsS31.drewN | apply IsS31.drew | apply IsS31.set_0 | apply IsS31.set_1) | exact HI0.out), by repeat (first | (with_reducible first | exact HB.out | apply below_alloc | apply pw_below_drewN | apply below_drew1 | refine below_set ?_ (IsS31.ge HI0.out)) | exact HB.out), by repeat (first | (with_reducible first | exact HK.out | apply KeepBut.set_ | apply keep_drewN | apply keep_drew | apply keep_alloc) | exact HK.out)⟩
      · rw [if_neg c6] at H
        have c6b0 : ((bt s0_0 s0_1) == a1) = false := beq_eq_false_iff_ne.mpr c6
        have c6b1 : ((bt s0_0 s0_1) != a1) = true := bne_iff_ne.mpr c6
        simp only [Option.some.injEq, Prod.mk.injEq] at H
        obtain ⟨rfl, rfl, rfl⟩ := H
        obtain ⟨HGz8, hgz8⟩ := HI0.out
        have hcz8_0 := cellS31_0 HGz8
        have hcz8_1 := cellS31_1 HGz8
        have hfz8_0 := blk_frozen HGz8 0
        have hfz8_1 := blk_frozen HGz8 1
        clear HGz8 hgz8
        have p5 : 0 ≤ (s0_1 : Int) := of_decide_eq_true (by first | (with_reducible assumption) | assumption)
        have q5 : s0_1 < (s0_0.size : Int) := of_decide_eq_true (by first | (with_reducible assumption) | assumption)
        have hx5 := bt_at s0_0 s0_1
        replace p5 := eq_true p5
        replace q5 := eq_true q5
        go_enter Try.func25, Try.ntmps25
        go_wp2
        repeat (go_quiet (fail); try go_wp2)
        go_ret
        exact ⟨by first | rfl | (simp [errW_none, errW_some] <;> rfl) | (simp [*, errW_none, errW_some] <;> rfl), by repeat (first | (with_reducible first | exact HI0.out | apply IsS31.alloc | apply IsS31.drewN | apply IsS31.drew | apply IsS31.set_0 | apply IsS31.set_1) | exact HI0.out), by repeat (first | (with_reducible first | exact HB.out | apply below_alloc | apply pw_below_drewN | apply below_drew1 | refine below_set ?_ (IsS31.ge HI0.out)) | exact HB.out), by repeat (first | (with_reducible first | exact HK.out | apply KeepBut.set_ | apply keep_drewN | apply keep_drew | apply keep_alloc) | exact HK.out)⟩
    · rw [if_neg c4] at H
      exact absurd H (by simp)
  · rw [if_neg c3] at H
    have c3b0 : decide (s0_1 < (s0_0.size : Int)) = false := decide_eq_false c3
    clear c3
    simp only [Option.some.injEq, Prod.mk.injEq] at H
    obtain ⟨rfl, rfl, rfl⟩ := H
    obtain ⟨HGz9, hgz9⟩ := HI0.out
    have hcz9_0 := cellS31_0 HGz9
    have hcz9_1 := cellS31_1 HGz9
    have hfz9_0 := blk_frozen HGz9 0
    have hfz9_1 := blk_frozen HGz9 1
    clear HGz9 hgz9
    go_enter Try.func25, Try.ntmps25
    go_wp2
    repeat (go_quiet (fail); try go_wp2)
    go_ret
    exact ⟨by first | rfl | (simp [errW_none, errW_some] <;> rfl) | (simp [*, errW_none, errW_some] <;> rfl), by repeat (first | (with_reducible first | exact HI0.out | apply IsS31.alloc | apply IsS31.drewN | apply IsS31.drew | apply IsS31.set_0 | apply IsS31.set_1) | exact HI0.out), by repeat (first | (with_reducible first | exact HB.out | apply below_alloc | apply pw_below_drewN | apply below_drew1 | refine below_set ?_ (IsS31.ge HI0.out)) | exact HB.out), by repeat (first | (with_reducible first | exact HK.out | apply KeepBut.set_ | apply keep_drewN | apply keep_drew | apply keep_alloc) | exact HK.out)⟩
/-! ### spec_reader_digits: function 26 -/
def spec_reader_digits.l0 : Nat → Int → Int → ByteArray → Int → Option (Bool × ByteArray × Int)
  | 0, _, _, _, _ => none
  | k + 1, x3, x4, x1000, x1001 => if 48 ≤ x4 then (if x4 ≤ 57 then ((spec_reader_here.f x1000 (wrap64 (x1001 + 1))).bind fun bt116 => (spec_reader_digits.l0 k x3 bt116.1 bt116.2.1 bt116.2.2)) else (some (decide (x1001 > x3), x1000, x1001))) else (some (decide (x1001 > x3), x1000, x1001))
def spec_reader_digits.f (k : Nat) (s0_0 : ByteArray) (s0_1 : Int) : Option (Bool × ByteArray × Int) := (spec_reader_here.f s0_0 s0_1).bind fun bt113 => (spec_reader_digits.l0 k s0_1 bt113.1 bt113.2.1 bt113.2.2)
set_option maxHeartbeats 8000000 in
set_option maxRecDepth 100000 in
theorem spec_reader_digits.calls (k : Nat) (g : Nat) (s0_0 : ByteArray) (s0_1 : Int) (r1 : Bool) (r2 : ByteArray) (r3 : Int) (w0 w : World) (hI : IsS31 w0 w g s0_0 s0_1) (hB : Below w0.heap.size w0 w) (h : spec_reader_digits.f k s0_0 s0_1 = some (r1, r2, r3)) :
    Calls Try.prog 26 #[.pointer (some ⟨g, 0, none⟩)] w fun e w' => e = .returned (.bool r1) ∧ IsS31 w0 w' g r2 r3 ∧ Below w0.heap.size w0 w' ∧ KeepBut w w' g none := by
  have HI0 := Aside0.mk hI
  have HK := Aside0.mk (KeepBut.refl w g none)
  have HL := Aside0.mk hB.size
  clear hI
  have HW0 := Aside0.mk hB.size
  have HB := Aside0.mk hB
  clear hB
  have H : ((spec_reader_here.f s0_0 s0_1).bind fun bt113 => (spec_reader_digits.l0 k s0_1 bt113.1 bt113.2.1 bt113.2.2)) = some (r1, r2, r3) := h
  clear h
  replace H := Option.bind_eq_some_iff.mp H
  obtain ⟨⟨t113, t114, t115⟩, A20, H⟩ := H
  replace H : (spec_reader_digits.l0 k s0_1 t113 t114 t115) = some (r1, r2, r3) := H
  have A2 := Aside0.mk A20
  clear A20
  have H' := Aside0.mk H
  clear H
  obtain ⟨HGz3, hgz3⟩ := HI0.out
  have hcz3_0 := cellS31_0 HGz3
  have hcz3_1 := cellS31_1 HGz3
  have hfz3_0 := blk_frozen HGz3 0
  have hfz3_1 := blk_frozen HGz3 1
  clear HGz3 hgz3
  go_enter Try.func26, Try.ntmps26
  go_wp2_with (first | ((with_reducible refine gate_callee (f := 19) rfl ?_); refine goesL_ (some 10) rfl rfl Try.func19 (by kernel_rfl) rfl #[.pointer (some ⟨g, 0, none⟩)] rfl (by (try simp only [List.map_toArray, List.map_cons, List.map_nil]); first | done | rfl | (simp only [List.length_drop, List.length_take]; rfl)) ?_; (with_reducible refine (spec_reader_here.calls g s0_0 s0_1 t113 t114 t115 w0 _ ?side1 ?side2 A2.out).mono ?_); (case side1 => repeat (first | (with_reducible first | exact HI0.out | apply IsS31.alloc | apply IsS31.drewN | apply IsS31.drew | apply IsS31.set_0 | apply IsS31.set_1) | exact HI0.out)); (case side2 => repeat (first | (with_reducible first | exact HB.out | apply below_alloc | apply pw_below_drewN | apply below_drew1 | refine below_set ?_ (IsS31.ge HI0.out)) | exact HB.out)); rintro e w4 ⟨rfl, hi, hb, hk⟩; refine ⟨_, rfl, ?_⟩; have n0_ := Aside0.mk (KeepBut.trans (by repeat (first | (with_reducible first | exact HK.out | apply KeepBut.set_ | apply keep_drewN | apply keep_drew | apply keep_alloc) | exact HK.out)) hk (.inl rfl)); have n1_ := Aside0.mk (hb); have n2_ := Aside0.mk (hi); clear HK; clear HB; clear HI0; have HK := n0_; have HB := n1_; have HI0 := n2_; clear n0_ n1_ n2_; (try clear hb); (try clear hb2); (try clear hk); (try clear hi)))
  try simp only [Act.put, List.setIfInBounds_toArray, List.set_cons_succ, List.set_cons_zero]
  go_loopg [4] k (fun kq v4 w' => ∃ (x4_1 : Int) (x1000_1 : ByteArray) (x1001_1 : Int), v4 = .int .u8 x4_1 ∧ Aside0 (spec_reader_digits.l0 kq s0_1 x4_1 x1000_1 x1001_1 = some (r1, r2, r3)) ∧ Aside0 (kq ≤ k) ∧ Aside0 (IsS31 w0 w' g x1000_1 x1001_1) ∧ Aside0 (KeepBut w w' g none) ∧ Aside0 (Below w0.heap.size w0 w'))
  case atStart => exact ⟨(t113), (t114), (t115), (by first | rfl | (simp; done) | (simp [*]; done)), H', ⟨Nat.le_refl _⟩, ⟨by repeat (first | (with_reducible first | exact HI0.out | apply IsS31.alloc | apply IsS31.drewN | apply IsS31.drew | apply IsS31.set_0 | apply IsS31.set_1) | exact HI0.out)⟩, ⟨by repeat (first | (with_reducible first | exact HK.out | apply KeepBut.set_ | apply keep_drewN | apply keep_drew | apply keep_alloc) | exact HK.out)⟩, ⟨by repeat (first | (with_reducible first | exact HB.out | apply below_alloc | apply pw_below_drewN | apply below_drew1 | refine below_set ?_ (IsS31.ge HI0.out)) | exact HB.out)⟩⟩
  case round =>
    clear H'
    try clear c1
    try clear c2
    try clear p2
    try clear hcz3_0
    try clear hcz3_1
    try clear hfz3_0
    try clear hfz3_1
    obtain ⟨x4_1, x1000_1, x1001_1, rfl, HA, HK1, HI0, HK, HB⟩ := hrel
    cases gk with
    | zero => exact absurd HA.out (by simp [spec_reader_digits.l0])
    | succ k1 =>
      have H := HA.out
      clear HA
      simp only [spec_reader_digits.l0] at H
      by_cases c5 : 48 ≤ x4_1
      · rw [if_pos c5] at H
        have c5b0 : decide (48 ≤ x4_1) = true := decide_eq_true c5
        clear c5
        by_cases c6 : x4_1 ≤ 57
        · rw [if_pos c6] at H
          have c6b0 : decide (x4_1 ≤ 57) = true := decide_eq_true c6
          clear c6
          replace H := Option.bind_eq_some_iff.mp H
          obtain ⟨⟨t116, t117, t118⟩, A70, H⟩ := H
          replace H : (spec_reader_digits.l0 k1 s0_1 t116 t117 t118) = some (r1, r2, r3) := H
          have A7 := Aside0.mk A70
          clear A70
          have H' := Aside0.mk H
          clear H
          obtain ⟨HGz8, hgz8⟩ := HI0.out
          have hcz8_0 := cellS31_0 HGz8
          have hcz8_1 := cellS31_1 HGz8
          have hfz8_0 := blk_frozen HGz8 0
          have hfz8_1 := blk_frozen HGz8 1
          clear HGz8 hgz8
          go_wp2_with (first | ((with_reducible refine gate_callee (f := 19) rfl ?_); refine goesL_ (some 18) rfl rfl Try.func19 (by kernel_rfl) rfl #[.pointer (some ⟨g, 0, none⟩)] rfl (by (try simp only [List.map_toArray, List.map_cons, List.map_nil]); first | done | rfl | (simp only [List.length_drop, List.length_take]; rfl)) ?_; (with_reducible refine (spec_reader_here.calls g x1000_1 (wrap64 (x1001_1 + 1)) t116 t117 t118 w0 _ ?side1 ?side2 A7.out).mono ?_); (case side1 => repeat (first | (with_reducible first | exact HI0.out | apply IsS31.alloc | apply IsS31.drewN | apply IsS31.drew | apply IsS31.set_0 | apply IsS31.set_1) | exact HI0.out)); (case side2 => repeat (first | (with_reducible first | exact HB.out | apply below_alloc | apply pw_below_drewN | apply below_drew1 | refine below_set ?_ (IsS31.ge HI0.out)) | exact HB.out)); rintro e w9 ⟨rfl, hi, hb, hk⟩; refine ⟨_, rfl, ?_⟩; have n0_ := Aside0.mk (KeepBut.trans (by repeat (first | (with_reducible first | exact HK.out | apply KeepBut.set_ | apply keep_drewN | apply keep_drew | apply keep_alloc) | exact HK.out)) hk (.inl rfl)); have n1_ := Aside0.mk (hb); have n2_ := Aside0.mk (hi); clear HK; clear HB; clear HI0; have HK := n0_; have HB := n1_; have HI0 := n2_; clear n0_ n1_ n2_; (try clear hb); (try clear hb2); (try clear hk); (try clear hi)))
          go_roundg k1
          case measure => have := HK1.out; omega
          case rel => exact ⟨(t116), (t117), (t118), (by first | rfl | (simp; done) | (simp [*]; done)), H', ⟨by have := HK1.out; omega⟩, ⟨by repeat (first | (with_reducible first | exact HI0.out | apply IsS31.alloc | apply IsS31.drewN | apply IsS31.drew | apply IsS31.set_0 | apply IsS31.set_1) | exact HI0.out)⟩, ⟨by repeat (first | (with_reducible first | exact HK.out | apply KeepBut.set_ | apply keep_drewN | apply keep_drew | apply keep_alloc) | exact HK.out)⟩, ⟨by repeat (first | (with_reducible first | exact HB.out | apply below_alloc | apply pw_below_drewN | apply below_drew1 | refine below_set ?_ (IsS31.ge HI0.out)) | exact HB.out)⟩⟩
        · rw [if_neg c6] at H
          have c6b0 : decide (x4_1 ≤ 57) = false := decide_eq_false c6
          clear c6
          simp only [Option.some.injEq, Prod.mk.injEq] at H
          obtain ⟨rfl, rfl, rfl⟩ := H
          obtain ⟨HGz10, hgz10⟩ := HI0.out
          have hcz10_0 := cellS31_0 HGz10
          have hcz10_1 := cellS31_1 HGz10
          have hfz10_0 := blk_frozen HGz10 0
          have hfz10_1 := blk_frozen HGz10 1
          clear HGz10 hgz10
          go_wp2
          go_ret
          exact ⟨by first | rfl | (simp [errW_none, errW_some] <;> rfl) | (simp [*, errW_none, errW_some] <;> rfl), by repeat (first | (with_reducible first | exact HI0.out | apply IsS31.alloc | apply IsS31.drewN | apply IsS31.drew | apply IsS31.set_0 | apply IsS31.set_1) | exact HI0.out), by repeat (first | (with_reducible first | exact HB.out | apply below_alloc | apply pw_below_drewN | apply below_drew1 | refine below_set ?_ (IsS31.ge HI0.out)) | exact HB.out), by repeat (first | (with_reducible first | exact HK.out | apply KeepBut.set_ | apply keep_drewN | apply keep_drew | apply keep_alloc) | exact HK.out)⟩
      · rw [if_neg c5] at H
        have c5b0 : decide (48 ≤ x4_1) = false := decide_eq_false c5
        clear c5
        simp only [Option.some.injEq, Prod.mk.injEq] at H
        obtain ⟨rfl, rfl, rfl⟩ := H
        obtain ⟨HGz11, hgz11⟩ := HI0.out
        have hcz11_0 := cellS31_0 HGz11
        have hcz11_1 := cellS31_1 HGz11
        have hfz11_0 := blk_frozen HGz11 0
        have hfz11_1 := blk_frozen HGz11 1
        clear HGz11 hgz11
        go_wp2
        go_ret
        exact ⟨by first | rfl | (simp [errW_none, errW_some] <;> rfl) | (simp [*, errW_none, errW_some] <;> rfl), by repeat (first | (with_reducible first | exact HI0.out | apply IsS31.alloc | apply IsS31.drewN | apply IsS31.drew | apply IsS31.set_0 | apply IsS31.set_1) | exact HI0.out), by repeat (first | (with_reducible first | exact HB.out | apply below_alloc | apply pw_below_drewN | apply below_drew1 | refine below_set ?_ (IsS31.ge HI0.out)) | exact HB.out), by repeat (first | (with_reducible first | exact HK.out | apply KeepBut.set_ | apply keep_drewN | apply keep_drew | apply keep_alloc) | exact HK.out)⟩
/-! ### spec_reader_number: function 23 -/
mutual
def spec_reader_number.j0 : Nat → Bool → ByteArray → Int → Option (Bool × ByteArray × Int)
  | 0, _, _, _ => none
  | k + 1, x12, x1000, x1001 => if x12 = true then (some (false, x1000, x1001)) else ((spec_reader_take.f x1000 x1001 46).bind fun bt128 => (if bt128.1 = true then ((spec_reader_digits.f k bt128.2.1 bt128.2.2).bind fun bt131 => (spec_reader_number.j1 k (!bt131.1) bt131.2.1 bt131.2.2)) else (spec_reader_number.j1 k false bt128.2.1 bt128.2.2)))
def spec_reader_number.j1 : Nat → Bool → ByteArray → Int → Option (Bool × ByteArray × Int)
  | 0, _, _, _ => none
  | k + 1, x19, x1000, x1001 => if x19 = true then (some (false, x1000, x1001)) else ((spec_reader_take.f x1000 x1001 101).bind fun bt134 => (if bt134.1 = true then (spec_reader_number.j2 k true bt134.2.1 bt134.2.2) else ((spec_reader_take.f bt134.2.1 bt134.2.2 69).bind fun bt137 => (spec_reader_number.j2 k bt137.1 bt137.2.1 bt137.2.2))))
def spec_reader_number.j2 : Nat → Bool → ByteArray → Int → Option (Bool × ByteArray × Int)
  | 0, _, _, _ => none
  | k + 1, x25, x1000, x1001 => if x25 = true then ((spec_reader_take.f x1000 x1001 43).bind fun bt140 => (if bt140.1 = true then ((spec_reader_digits.f k bt140.2.1 bt140.2.2).bind fun bt143 => (some (bt143.1, bt143.2.1, bt143.2.2))) else ((spec_reader_take.f bt140.2.1 bt140.2.2 45).bind fun bt146 => ((spec_reader_digits.f k bt146.2.1 bt146.2.2).bind fun bt149 => (some (bt149.1, bt149.2.1, bt149.2.2)))))) else (some (true, x1000, x1001))
end
def spec_reader_number.f (k : Nat) (s0_0 : ByteArray) (s0_1 : Int) : Option (Bool × ByteArray × Int) := (spec_reader_take.f s0_0 s0_1 45).bind fun bt119 => ((spec_reader_take.f bt119.2.1 bt119.2.2 48).bind fun bt122 => (if bt122.1 = true then (spec_reader_number.j0 k false bt122.2.1 bt122.2.2) else ((spec_reader_digits.f k bt122.2.1 bt122.2.2).bind fun bt125 => (spec_reader_number.j0 k (!bt125.1) bt125.2.1 bt125.2.2))))
set_option maxHeartbeats 8000000 in
set_option maxRecDepth 100000 in
theorem spec_reader_number.calls (k : Nat) (g : Nat) (s0_0 : ByteArray) (s0_1 : Int) (r1 : Bool) (r2 : ByteArray) (r3 : Int) (w0 w : World) (hI : IsS31 w0 w g s0_0 s0_1) (hB : Below w0.heap.size w0 w) (h : spec_reader_number.f k s0_0 s0_1 = some (r1, r2, r3)) :
    Calls Try.prog 23 #[.pointer (some ⟨g, 0, none⟩)] w fun e w' => e = .returned (.bool r1) ∧ IsS31 w0 w' g r2 r3 ∧ Below w0.heap.size w0 w' ∧ KeepBut w w' g none := by
  have HI0 := Aside0.mk hI
  have HK := Aside0.mk (KeepBut.refl w g none)
  have HL := Aside0.mk hB.size
  clear hI
  have HW0 := Aside0.mk hB.size
  have HB := Aside0.mk hB
  clear hB
  have H : ((spec_reader_take.f s0_0 s0_1 45).bind fun bt119 => ((spec_reader_take.f bt119.2.1 bt119.2.2 48).bind fun bt122 => (if bt122.1 = true then (spec_reader_number.j0 k false bt122.2.1 bt122.2.2) else ((spec_reader_digits.f k bt122.2.1 bt122.2.2).bind fun bt125 => (spec_reader_number.j0 k (!bt125.1) bt125.2.1 bt125.2.2))))) = some (r1, r2, r3) := h
  clear h
  replace H := Option.bind_eq_some_iff.mp H
  obtain ⟨⟨t119, t120, t121⟩, A20, H⟩ := H
  replace H : ((spec_reader_take.f t120 t121 48).bind fun bt122 => (if bt122.1 = true then (spec_reader_number.j0 k false bt122.2.1 bt122.2.2) else ((spec_reader_digits.f k bt122.2.1 bt122.2.2).bind fun bt125 => (spec_reader_number.j0 k (!bt125.1) bt125.2.1 bt125.2.2)))) = some (r1, r2, r3) := H
  have A2 := Aside0.mk A20
  clear A20
  have HC3 := Aside0.mk H
  clear H
  go_enter Try.func23, Try.ntmps23
  go_upto_region 2 with (first | ((with_reducible refine gate_callee (f := 25) rfl ?_); refine goesL_ (some 4) rfl rfl Try.func25 (by kernel_rfl) rfl #[.pointer (some ⟨g, 0, none⟩), .int .u8 45] rfl (by (try simp only [List.map_toArray, List.map_cons, List.map_nil]); first | done | rfl | (simp only [List.length_drop, List.length_take]; rfl)) ?_; (with_reducible refine (spec_reader_take.calls g s0_0 s0_1 45 t119 t120 t121 w0 _ ?side1 ?side2 A2.out).mono ?_); (case side1 => repeat (first | (with_reducible first | exact HI0.out | apply IsS31.alloc | apply IsS31.drewN | apply IsS31.drew | apply IsS31.set_0 | apply IsS31.set_1) | exact HI0.out)); (case side2 => repeat (first | (with_reducible first | exact HB.out | apply below_alloc | apply pw_below_drewN | apply below_drew1 | refine below_set ?_ (IsS31.ge HI0.out)) | exact HB.out)); rintro e w4 ⟨rfl, hi, hb, hk⟩; refine ⟨_, rfl, ?_⟩; have n0_ := Aside0.mk (KeepBut.trans (by repeat (first | (with_reducible first | exact HK.out | apply KeepBut.set_ | apply keep_drewN | apply keep_drew | apply keep_alloc) | exact HK.out)) hk (.inl rfl)); have n1_ := Aside0.mk (hb); have n2_ := Aside0.mk (hi); clear HK; clear HB; clear HI0; have HK := n0_; have HB := n1_; have HI0 := n2_; clear n0_ n1_ n2_; (try clear hb); (try clear hb2); (try clear hk); (try clear hi)))
  (try simp only [Act.put, List.setIfInBounds_toArray, List.set_cons_zero, List.set_cons_succ])
  go_cut [12] (fun v12 wc => ∃ (kq : Nat) (x12_2 : Bool) (x1000_2 : ByteArray) (x1001_2 : Int), v12 = .bool x12_2 ∧ Aside0 (spec_reader_number.j0 kq x12_2 x1000_2 x1001_2 = some (r1, r2, r3)) ∧ Aside0 (kq ≤ k) ∧ Aside0 (IsS31 w0 wc g x1000_2 x1001_2) ∧ Aside0 (KeepBut w wc g none) ∧ Aside0 (Below w0.heap.size w0 wc))
  case first =>
    have H := HC3.out
    clear HC3
    replace H := Option.bind_eq_some_iff.mp H
    obtain ⟨⟨t122, t123, t124⟩, A50, H⟩ := H
    replace H : (if t122 = true then (spec_reader_number.j0 k false t123 t124) else ((spec_reader_digits.f k t123 t124).bind fun bt125 => (spec_reader_number.j0 k (!bt125.1) bt125.2.1 bt125.2.2))) = some (r1, r2, r3) := H
    have A5 := Aside0.mk A50
    clear A50
    by_cases c6 : t122 = true
    · subst c6
      have H1 : (spec_reader_number.j0 k false t123 t124) = some (r1, r2, r3) := by rw [if_pos rfl] at H; exact H
      clear H
      have H := H1
      clear H1
      have H' := Aside0.mk H
      clear H
      go_wp2_with (first | ((with_reducible refine gate_callee (f := 25) rfl ?_); refine goesL_ (some 6) rfl rfl Try.func25 (by kernel_rfl) rfl #[.pointer (some ⟨g, 0, none⟩), .int .u8 48] rfl (by (try simp only [List.map_toArray, List.map_cons, List.map_nil]); first | done | rfl | (simp only [List.length_drop, List.length_take]; rfl)) ?_; (with_reducible refine (spec_reader_take.calls g t120 t121 48 true t123 t124 w0 _ ?side1 ?side2 A5.out).mono ?_); (case side1 => repeat (first | (with_reducible first | exact HI0.out | apply IsS31.alloc | apply IsS31.drewN | apply IsS31.drew | apply IsS31.set_0 | apply IsS31.set_1) | exact HI0.out)); (case side2 => repeat (first | (with_reducible first | exact HB.out | apply below_alloc | apply pw_below_drewN | apply below_drew1 | refine below_set ?_ (IsS31.ge HI0.out)) | exact HB.out)); rintro e w7 ⟨rfl, hi, hb, hk⟩; refine ⟨_, rfl, ?_⟩; have n0_ := Aside0.mk (KeepBut.trans (by repeat (first | (with_reducible first | exact HK.out | apply KeepBut.set_ | apply keep_drewN | apply keep_drew | apply keep_alloc) | exact HK.out)) hk (.inl rfl)); have n1_ := Aside0.mk (hb); have n2_ := Aside0.mk (hi); clear HK; clear HB; clear HI0; have HK := n0_; have HB := n1_; have HI0 := n2_; clear n0_ n1_ n2_; (try clear hb); (try clear hb2); (try clear hk); (try clear hi)))
      go_meet
      case rel => exact ⟨_, (false), (t123), (t124), (by first | rfl | (simp; done) | (simp [*]; done)), H', ⟨by first | omega | exact Nat.le_refl _⟩, ⟨by repeat (first | (with_reducible first | exact HI0.out | apply IsS31.alloc | apply IsS31.drewN | apply IsS31.drew | apply IsS31.set_0 | apply IsS31.set_1) | exact HI0.out)⟩, ⟨by repeat (first | (with_reducible first | exact HK.out | apply KeepBut.set_ | apply keep_drewN | apply keep_drew | apply keep_alloc) | exact HK.out)⟩, ⟨by repeat (first | (with_reducible first | exact HB.out | apply below_alloc | apply pw_below_drewN | apply below_drew1 | refine below_set ?_ (IsS31.ge HI0.out)) | exact HB.out)⟩⟩
    · replace c6 := Bool.eq_false_iff.mpr c6
      subst c6
      have H1 : ((spec_reader_digits.f k t123 t124).bind fun bt125 => (spec_reader_number.j0 k (!bt125.1) bt125.2.1 bt125.2.2)) = some (r1, r2, r3) := by rw [if_neg (show ¬ (false = true) by decide)] at H; exact H
      clear H
      have H := H1
      clear H1
      replace H := Option.bind_eq_some_iff.mp H
      obtain ⟨⟨t125, t126, t127⟩, A80, H⟩ := H
      replace H : (spec_reader_number.j0 k (!t125) t126 t127) = some (r1, r2, r3) := H
      have A8 := Aside0.mk A80
      clear A80
      have H' := Aside0.mk H
      clear H
      go_wp2_with (first | ((with_reducible refine gate_callee (f := 25) rfl ?_); refine goesL_ (some 6) rfl rfl Try.func25 (by kernel_rfl) rfl #[.pointer (some ⟨g, 0, none⟩), .int .u8 48] rfl (by (try simp only [List.map_toArray, List.map_cons, List.map_nil]); first | done | rfl | (simp only [List.length_drop, List.length_take]; rfl)) ?_; (with_reducible refine (spec_reader_take.calls g t120 t121 48 false t123 t124 w0 _ ?side1 ?side2 A5.out).mono ?_); (case side1 => repeat (first | (with_reducible first | exact HI0.out | apply IsS31.alloc | apply IsS31.drewN | apply IsS31.drew | apply IsS31.set_0 | apply IsS31.set_1) | exact HI0.out)); (case side2 => repeat (first | (with_reducible first | exact HB.out | apply below_alloc | apply pw_below_drewN | apply below_drew1 | refine below_set ?_ (IsS31.ge HI0.out)) | exact HB.out)); rintro e w9 ⟨rfl, hi, hb, hk⟩; refine ⟨_, rfl, ?_⟩; have n0_ := Aside0.mk (KeepBut.trans (by repeat (first | (with_reducible first | exact HK.out | apply KeepBut.set_ | apply keep_drewN | apply keep_drew | apply keep_alloc) | exact HK.out)) hk (.inl rfl)); have n1_ := Aside0.mk (hb); have n2_ := Aside0.mk (hi); clear HK; clear HB; clear HI0; have HK := n0_; have HB := n1_; have HI0 := n2_; clear n0_ n1_ n2_; (try clear hb); (try clear hb2); (try clear hk); (try clear hi)) | (go_at_call 26; (with_reducible refine (spec_reader_digits.calls k g t123 t124 t125 t126 t127 w0 _ ?side1 ?side2 A8.out).mono ?_); (case side1 => repeat (first | (with_reducible first | exact HI0.out | apply IsS31.alloc | apply IsS31.drewN | apply IsS31.drew | apply IsS31.set_0 | apply IsS31.set_1) | exact HI0.out)); (case side2 => repeat (first | (with_reducible first | exact HB.out | apply below_alloc | apply pw_below_drewN | apply below_drew1 | refine below_set ?_ (IsS31.ge HI0.out)) | exact HB.out)); rintro e w10 ⟨rfl, hi, hb, hk⟩; have n0_ := Aside0.mk (KeepBut.trans (by repeat (first | (with_reducible first | exact HK.out | apply KeepBut.set_ | apply keep_drewN | apply keep_drew | apply keep_alloc) | exact HK.out)) hk (.inl rfl)); have n1_ := Aside0.mk (hb); have n2_ := Aside0.mk (hi); clear HK; clear HB; clear HI0; have HK := n0_; have HB := n1_; have HI0 := n2_; clear n0_ n1_ n2_; (try clear hb); (try clear hb2); (try clear hk); (try clear hi)))
      go_meet
      case rel => exact ⟨_, (!t125), (t126), (t127), (by first | rfl | (simp; done) | (simp [*]; done)), H', ⟨by first | omega | exact Nat.le_refl _⟩, ⟨by repeat (first | (with_reducible first | exact HI0.out | apply IsS31.alloc | apply IsS31.drewN | apply IsS31.drew | apply IsS31.set_0 | apply IsS31.set_1) | exact HI0.out)⟩, ⟨by repeat (first | (with_reducible first | exact HK.out | apply KeepBut.set_ | apply keep_drewN | apply keep_drew | apply keep_alloc) | exact HK.out)⟩, ⟨by repeat (first | (with_reducible first | exact HB.out | apply below_alloc | apply pw_below_drewN | apply below_drew1 | refine below_set ?_ (IsS31.ge HI0.out)) | exact HB.out)⟩⟩
  case rest =>
    clear HC3
    try clear c2
    try clear p2
    try clear c6
    obtain ⟨kq, x12_2, x1000_2, x1001_2, rfl, HA, HJ2, HI0, HK, HB⟩ := hcut
    cases kq with
    | zero => exact absurd HA.out (by simp [spec_reader_number.j0])
    | succ kj2 =>
      have H := HA.out
      clear HA
      simp only [spec_reader_number.j0] at H
      by_cases c11 : x12_2 = true
      · subst c11
        have H1 : (some (false, x1000_2, x1001_2)) = some (r1, r2, r3) := by rw [if_pos rfl] at H; exact H
        clear H
        have H := H1
        clear H1
        simp only [Option.some.injEq, Prod.mk.injEq] at H
        obtain ⟨rfl, rfl, rfl⟩ := H
        go_wp2
        go_ret
        exact ⟨by first | rfl | (simp [errW_none, errW_some] <;> rfl) | (simp [*, errW_none, errW_some] <;> rfl), by repeat (first | (with_reducible first | exact HI0.out | apply IsS31.alloc | apply IsS31.drewN | apply IsS31.drew | apply IsS31.set_0 | apply IsS31.set_1) | exact HI0.out), by repeat (first | (with_reducible first | exact HB.out | apply below_alloc | apply pw_below_drewN | apply below_drew1 | refine below_set ?_ (IsS31.ge HI0.out)) | exact HB.out), by repeat (first | (with_reducible first | exact HK.out | apply KeepBut.set_ | apply keep_drewN | apply keep_drew | apply keep_alloc) | exact HK.out)⟩
      · replace c11 := Bool.eq_false_iff.mpr c11
        subst c11
        have H1 : ((spec_reader_take.f x1000_2 x1001_2 46).bind fun bt128 => (if bt128.1 = true then ((spec_reader_digits.f kj2 bt128.2.1 bt128.2.2).bind fun bt131 => (spec_reader_number.j1 kj2 (!bt131.1) bt131.2.1 bt131.2.2)) else (spec_reader_number.j1 kj2 false bt128.2.1 bt128.2.2))) = some (r1, r2, r3) := by rw [if_neg (show ¬ (false = true) by decide)] at H; exact H
        clear H
        have H := H1
        clear H1
        have HC12 := Aside0.mk H
        clear H
        go_upto_region 4 with (fail)
        go_cut [19] (fun v19 wc => ∃ (kq : Nat) (x19_11 : Bool) (x1000_11 : ByteArray) (x1001_11 : Int), v19 = .bool x19_11 ∧ Aside0 (spec_reader_number.j1 kq x19_11 x1000_11 x1001_11 = some (r1, r2, r3)) ∧ Aside0 (kq ≤ kj2) ∧ Aside0 (IsS31 w0 wc g x1000_11 x1001_11) ∧ Aside0 (KeepBut w wc g none) ∧ Aside0 (Below w0.heap.size w0 wc))
        case first =>
          have H := HC12.out
          clear HC12
          replace H := Option.bind_eq_some_iff.mp H
          obtain ⟨⟨t128, t129, t130⟩, A130, H⟩ := H
          replace H : (if t128 = true then ((spec_reader_digits.f kj2 t129 t130).bind fun bt131 => (spec_reader_number.j1 kj2 (!bt131.1) bt131.2.1 bt131.2.2)) else (spec_reader_number.j1 kj2 false t129 t130)) = some (r1, r2, r3) := H
          have A13 := Aside0.mk A130
          clear A130
          by_cases c14 : t128 = true
          · subst c14
            have H1 : ((spec_reader_digits.f kj2 t129 t130).bind fun bt131 => (spec_reader_number.j1 kj2 (!bt131.1) bt131.2.1 bt131.2.2)) = some (r1, r2, r3) := by rw [if_pos rfl] at H; exact H
            clear H
            have H := H1
            clear H1
            replace H := Option.bind_eq_some_iff.mp H
            obtain ⟨⟨t131, t132, t133⟩, A150, H⟩ := H
            replace H : (spec_reader_number.j1 kj2 (!t131) t132 t133) = some (r1, r2, r3) := H
            have A15 := Aside0.mk A150
            clear A150
            have H' := Aside0.mk H
            clear H
            go_wp2_with (first | ((with_reducible refine gate_callee (f := 25) rfl ?_); refine goesL_ (some 14) rfl rfl Try.func25 (by kernel_rfl) rfl #[.pointer (some ⟨g, 0, none⟩), .int .u8 46] rfl (by (try simp only [List.map_toArray, List.map_cons, List.map_nil]); first | done | rfl | (simp only [List.length_drop, List.length_take]; rfl)) ?_; (with_reducible refine (spec_reader_take.calls g x1000_2 x1001_2 46 true t129 t130 w0 _ ?side1 ?side2 A13.out).mono ?_); (case side1 => repeat (first | (with_reducible first | exact HI0.out | apply IsS31.alloc | apply IsS31.drewN | apply IsS31.drew | apply IsS31.set_0 | apply IsS31.set_1) | exact HI0.out)); (case side2 => repeat (first | (with_reducible first | exact HB.out | apply below_alloc | apply pw_below_drewN | apply below_drew1 | refine below_set ?_ (IsS31.ge HI0.out)) | exact HB.out)); rintro e w16 ⟨rfl, hi, hb, hk⟩; refine ⟨_, rfl, ?_⟩; have n0_ := Aside0.mk (KeepBut.trans (by repeat (first | (with_reducible first | exact HK.out | apply KeepBut.set_ | apply keep_drewN | apply keep_drew | apply keep_alloc) | exact HK.out)) hk (.inl rfl)); have n1_ := Aside0.mk (hb); have n2_ := Aside0.mk (hi); clear HK; clear HB; clear HI0; have HK := n0_; have HB := n1_; have HI0 := n2_; clear n0_ n1_ n2_; (try clear hb); (try clear hb2); (try clear hk); (try clear hi)) | (go_at_call 26; (with_reducible refine (spec_reader_digits.calls kj2 g t129 t130 t131 t132 t133 w0 _ ?side1 ?side2 A15.out).mono ?_); (case side1 => repeat (first | (with_reducible first | exact HI0.out | apply IsS31.alloc | apply IsS31.drewN | apply IsS31.drew | apply IsS31.set_0 | apply IsS31.set_1) | exact HI0.out)); (case side2 => repeat (first | (with_reducible first | exact HB.out | apply below_alloc | apply pw_below_drewN | apply below_drew1 | refine below_set ?_ (IsS31.ge HI0.out)) | exact HB.out)); rintro e w17 ⟨rfl, hi, hb, hk⟩; have n0_ := Aside0.mk (KeepBut.trans (by repeat (first | (with_reducible first | exact HK.out | apply KeepBut.set_ | apply keep_drewN | apply keep_drew | apply keep_alloc) | exact HK.out)) hk (.inl rfl)); have n1_ := Aside0.mk (hb); have n2_ := Aside0.mk (hi); clear HK; clear HB; clear HI0; have HK := n0_; have HB := n1_; have HI0 := n2_; clear n0_ n1_ n2_; (try clear hb); (try clear hb2); (try clear hk); (try clear hi)))
            go_meet
            case rel => exact ⟨_, (!t131), (t132), (t133), (by first | rfl | (simp; done) | (simp [*]; done)), H', ⟨by have := HJ2.out; first | omega | exact Nat.le_refl _⟩, ⟨by repeat (first | (with_reducible first | exact HI0.out | apply IsS31.alloc | apply IsS31.drewN | apply IsS31.drew | apply IsS31.set_0 | apply IsS31.set_1) | exact HI0.out)⟩, ⟨by repeat (first | (with_reducible first | exact HK.out | apply KeepBut.set_ | apply keep_drewN | apply keep_drew | apply keep_alloc) | exact HK.out)⟩, ⟨by repeat (first | (with_reducible first | exact HB.out | apply below_alloc | apply pw_below_drewN | apply below_drew1 | refine below_set ?_ (IsS31.ge HI0.out)) | exact HB.out)⟩⟩
          · replace c14 := Bool.eq_false_iff.mpr c14
            subst c14
            have H1 : (spec_reader_number.j1 kj2 false t129 t130) = some (r1, r2, r3) := by rw [if_neg (show ¬ (false = true) by decide)] at H; exact H
            clear H
            have H := H1
            clear H1
            have H' := Aside0.mk H
            clear H
            go_wp2_with (first | ((with_reducible refine gate_callee (f := 25) rfl ?_); refine goesL_ (some 14) rfl rfl Try.func25 (by kernel_rfl) rfl #[.pointer (some ⟨g, 0, none⟩), .int .u8 46] rfl (by (try simp only [List.map_toArray, List.map_cons, List.map_nil]); first | done | rfl | (simp only [List.length_drop, List.length_take]; rfl)) ?_; (with_reducible refine (spec_reader_take.calls g x1000_2 x1001_2 46 false t129 t130 w0 _ ?side1 ?side2 A13.out).mono ?_); (case side1 => repeat (first | (with_reducible first | exact HI0.out | apply IsS31.alloc | apply IsS31.drewN | apply IsS31.drew | apply IsS31.set_0 | apply IsS31.set_1) | exact HI0.out)); (case side2 => repeat (first | (with_reducible first | exact HB.out | apply below_alloc | apply pw_below_drewN | apply below_drew1 | refine below_set ?_ (IsS31.ge HI0.out)) | exact HB.out)); rintro e w18 ⟨rfl, hi, hb, hk⟩; refine ⟨_, rfl, ?_⟩; have n0_ := Aside0.mk (KeepBut.trans (by repeat (first | (with_reducible first | exact HK.out | apply KeepBut.set_ | apply keep_drewN | apply keep_drew | apply keep_alloc) | exact HK.out)) hk (.inl rfl)); have n1_ := Aside0.mk (hb); have n2_ := Aside0.mk (hi); clear HK; clear HB; clear HI0; have HK := n0_; have HB := n1_; have HI0 := n2_; clear n0_ n1_ n2_; (try clear hb); (try clear hb2); (try clear hk); (try clear hi)))
            go_meet
            case rel => exact ⟨_, (false), (t129), (t130), (by first | rfl | (simp; done) | (simp [*]; done)), H', ⟨by have := HJ2.out; first | omega | exact Nat.le_refl _⟩, ⟨by repeat (first | (with_reducible first | exact HI0.out | apply IsS31.alloc | apply IsS31.drewN | apply IsS31.drew | apply IsS31.set_0 | apply IsS31.set_1) | exact HI0.out)⟩, ⟨by repeat (first | (with_reducible first | exact HK.out | apply KeepBut.set_ | apply keep_drewN | apply keep_drew | apply keep_alloc) | exact HK.out)⟩, ⟨by repeat (first | (with_reducible first | exact HB.out | apply below_alloc | apply pw_below_drewN | apply below_drew1 | refine below_set ?_ (IsS31.ge HI0.out)) | exact HB.out)⟩⟩
        case rest =>
          clear HC12
          try clear c1
          try clear c2
          try clear p2
          try clear c6
          try clear c11
          try clear c14
          try clear p2
          obtain ⟨kq, x19_11, x1000_11, x1001_11, rfl, HA, HJ11, HI0, HK, HB⟩ := hcut
          cases kq with
          | zero => exact absurd HA.out (by simp [spec_reader_number.j1])
          | succ kj11 =>
            have H := HA.out
            clear HA
            simp only [spec_reader_number.j1] at H
            by_cases c19 : x19_11 = true
            · subst c19
              have H1 : (some (false, x1000_11, x1001_11)) = some (r1, r2, r3) := by rw [if_pos rfl] at H; exact H
              clear H
              have H := H1
              clear H1
              simp only [Option.some.injEq, Prod.mk.injEq] at H
              obtain ⟨rfl, rfl, rfl⟩ := H
              go_wp2
              go_ret
              exact ⟨by first | rfl | (simp [errW_none, errW_some] <;> rfl) | (simp [*, errW_none, errW_some] <;> rfl), by repeat (first | (with_reducible first | exact HI0.out | apply IsS31.alloc | apply IsS31.drewN | apply IsS31.drew | apply IsS31.set_0 | apply IsS31.set_1) | exact HI0.out), by repeat (first | (with_reducible first | exact HB.out | apply below_alloc | apply pw_below_drewN | apply below_drew1 | refine below_set ?_ (IsS31.ge HI0.out)) | exact HB.out), by repeat (first | (with_reducible first | exact HK.out | apply KeepBut.set_ | apply keep_drewN | apply keep_drew | apply keep_alloc) | exact HK.out)⟩
            · replace c19 := Bool.eq_false_iff.mpr c19
              subst c19
              have H1 : ((spec_reader_take.f x1000_11 x1001_11 101).bind fun bt134 => (if bt134.1 = true then (spec_reader_number.j2 kj11 true bt134.2.1 bt134.2.2) else ((spec_reader_take.f bt134.2.1 bt134.2.2 69).bind fun bt137 => (spec_reader_number.j2 kj11 bt137.1 bt137.2.1 bt137.2.2)))) = some (r1, r2, r3) := by rw [if_neg (show ¬ (false = true) by decide)] at H; exact H
              clear H
              have H := H1
              clear H1
              have HC20 := Aside0.mk H
              clear H
              go_upto_region 6 with (fail)
              go_cut [25] (fun v25 wc => ∃ (kq : Nat) (x25_19 : Bool) (x1000_19 : ByteArray) (x1001_19 : Int), v25 = .bool x25_19 ∧ Aside0 (spec_reader_number.j2 kq x25_19 x1000_19 x1001_19 = some (r1, r2, r3)) ∧ Aside0 (kq ≤ kj11) ∧ Aside0 (IsS31 w0 wc g x1000_19 x1001_19) ∧ Aside0 (KeepBut w wc g none) ∧ Aside0 (Below w0.heap.size w0 wc))
              case first =>
                have H := HC20.out
                clear HC20
                replace H := Option.bind_eq_some_iff.mp H
                obtain ⟨⟨t134, t135, t136⟩, A210, H⟩ := H
                replace H : (if t134 = true then (spec_reader_number.j2 kj11 true t135 t136) else ((spec_reader_take.f t135 t136 69).bind fun bt137 => (spec_reader_number.j2 kj11 bt137.1 bt137.2.1 bt137.2.2))) = some (r1, r2, r3) := H
                have A21 := Aside0.mk A210
                clear A210
                by_cases c22 : t134 = true
                · subst c22
                  have H1 : (spec_reader_number.j2 kj11 true t135 t136) = some (r1, r2, r3) := by rw [if_pos rfl] at H; exact H
                  clear H
                  have H := H1
                  clear H1
                  have H' := Aside0.mk H
                  clear H
                  go_wp2_with (first | ((with_reducible refine gate_callee (f := 25) rfl ?_); refine goesL_ (some 21) rfl rfl Try.func25 (by kernel_rfl) rfl #[.pointer (some ⟨g, 0, none⟩), .int .u8 101] rfl (by (try simp only [List.map_toArray, List.map_cons, List.map_nil]); first | done | rfl | (simp only [List.length_drop, List.length_take]; rfl)) ?_; (with_reducible refine (spec_reader_take.calls g x1000_11 x1001_11 101 true t135 t136 w0 _ ?side1 ?side2 A21.out).mono ?_); (case side1 => repeat (first | (with_reducible first | exact HI0.out | apply IsS31.alloc | apply IsS31.drewN | apply IsS31.drew | apply IsS31.set_0 | apply IsS31.set_1) | exact HI0.out)); (case side2 => repeat (first | (with_reducible first | exact HB.out | apply below_alloc | apply pw_below_drewN | apply below_drew1 | refine below_set ?_ (IsS31.ge HI0.out)) | exact HB.out)); rintro e w23 ⟨rfl, hi, hb, hk⟩; refine ⟨_, rfl, ?_⟩; have n0_ := Aside0.mk (KeepBut.trans (by repeat (first | (with_reducible first | exact HK.out | apply KeepBut.set_ | apply keep_drewN | apply keep_drew | apply keep_alloc) | exact HK.out)) hk (.inl rfl)); have n1_ := Aside0.mk (hb); have n2_ := Aside0.mk (hi); clear HK; clear HB; clear HI0; have HK := n0_; have HB := n1_; have HI0 := n2_; clear n0_ n1_ n2_; (try clear hb); (try clear hb2); (try clear hk); (try clear hi)))
                  go_meet
                  case rel => exact ⟨_, (true), (t135), (t136), (by first | rfl | (simp; done) | (simp [*]; done)), H', ⟨by have := HJ2.out; have := HJ11.out; first | omega | exact Nat.le_refl _⟩, ⟨by repeat (first | (with_reducible first | exact HI0.out | apply IsS31.alloc | apply IsS31.drewN | apply IsS31.drew | apply IsS31.set_0 | apply IsS31.set_1) | exact HI0.out)⟩, ⟨by repeat (first | (with_reducible first | exact HK.out | apply KeepBut.set_ | apply keep_drewN | apply keep_drew | apply keep_alloc) | exact HK.out)⟩, ⟨by repeat (first | (with_reducible first | exact HB.out | apply below_alloc | apply pw_below_drewN | apply below_drew1 | refine below_set ?_ (IsS31.ge HI0.out)) | exact HB.out)⟩⟩
                · replace c22 := Bool.eq_false_iff.mpr c22
                  subst c22
                  have H1 : ((spec_reader_take.f t135 t136 69).bind fun bt137 => (spec_reader_number.j2 kj11 bt137.1 bt137.2.1 bt137.2.2)) = some (r1, r2, r3) := by rw [if_neg (show ¬ (false = true) by decide)] at H; exact H
                  clear H
                  have H := H1
                  clear H1
                  replace H := Option.bind_eq_some_iff.mp H
                  obtain ⟨⟨t137, t138, t139⟩, A240, H⟩ := H
                  replace H : (spec_reader_number.j2 kj11 t137 t138 t139) = some (r1, r2, r3) := H
                  have A24 := Aside0.mk A240
                  clear A240
                  have H' := Aside0.mk H
                  clear H
                  go_wp2_with (first | ((with_reducible refine gate_callee (f := 25) rfl ?_); refine goesL_ (some 21) rfl rfl Try.func25 (by kernel_rfl) rfl #[.pointer (some ⟨g, 0, none⟩), .int .u8 101] rfl (by (try simp only [List.map_toArray, List.map_cons, List.map_nil]); first | done | rfl | (simp only [List.length_drop, List.length_take]; rfl)) ?_; (with_reducible refine (spec_reader_take.calls g x1000_11 x1001_11 101 false t135 t136 w0 _ ?side1 ?side2 A21.out).mono ?_); (case side1 => repeat (first | (with_reducible first | exact HI0.out | apply IsS31.alloc | apply IsS31.drewN | apply IsS31.drew | apply IsS31.set_0 | apply IsS31.set_1) | exact HI0.out)); (case side2 => repeat (first | (with_reducible first | exact HB.out | apply below_alloc | apply pw_below_drewN | apply below_drew1 | refine below_set ?_ (IsS31.ge HI0.out)) | exact HB.out)); rintro e w25 ⟨rfl, hi, hb, hk⟩; refine ⟨_, rfl, ?_⟩; have n0_ := Aside0.mk (KeepBut.trans (by repeat (first | (with_reducible first | exact HK.out | apply KeepBut.set_ | apply keep_drewN | apply keep_drew | apply keep_alloc) | exact HK.out)) hk (.inl rfl)); have n1_ := Aside0.mk (hb); have n2_ := Aside0.mk (hi); clear HK; clear HB; clear HI0; have HK := n0_; have HB := n1_; have HI0 := n2_; clear n0_ n1_ n2_; (try clear hb); (try clear hb2); (try clear hk); (try clear hi)) | (go_at_call 25; (with_reducible refine (spec_reader_take.calls g t135 t136 69 t137 t138 t139 w0 _ ?side1 ?side2 A24.out).mono ?_); (case side1 => repeat (first | (with_reducible first | exact HI0.out | apply IsS31.alloc | apply IsS31.drewN | apply IsS31.drew | apply IsS31.set_0 | apply IsS31.set_1) | exact HI0.out)); (case side2 => repeat (first | (with_reducible first | exact HB.out | apply below_alloc | apply pw_below_drewN | apply below_drew1 | refine below_set ?_ (IsS31.ge HI0.out)) | exact HB.out)); rintro e w26 ⟨rfl, hi, hb, hk⟩; have n0_ := Aside0.mk (KeepBut.trans (by repeat (first | (with_reducible first | exact HK.out | apply KeepBut.set_ | apply keep_drewN | apply keep_drew | apply keep_alloc) | exact HK.out)) hk (.inl rfl)); have n1_ := Aside0.mk (hb); have n2_ := Aside0.mk (hi); clear HK; clear HB; clear HI0; have HK := n0_; have HB := n1_; have HI0 := n2_; clear n0_ n1_ n2_; (try clear hb); (try clear hb2); (try clear hk); (try clear hi)))
                  go_meet
                  case rel => exact ⟨_, (t137), (t138), (t139), (by first | rfl | (simp; done) | (simp [*]; done)), H', ⟨by have := HJ2.out; have := HJ11.out; first | omega | exact Nat.le_refl _⟩, ⟨by repeat (first | (with_reducible first | exact HI0.out | apply IsS31.alloc | apply IsS31.drewN | apply IsS31.drew | apply IsS31.set_0 | apply IsS31.set_1) | exact HI0.out)⟩, ⟨by repeat (first | (with_reducible first | exact HK.out | apply KeepBut.set_ | apply keep_drewN | apply keep_drew | apply keep_alloc) | exact HK.out)⟩, ⟨by repeat (first | (with_reducible first | exact HB.out | apply below_alloc | apply pw_below_drewN | apply below_drew1 | refine below_set ?_ (IsS31.ge HI0.out)) | exact HB.out)⟩⟩
              case rest =>
                clear HC20
                try clear c1
                try clear c2
                try clear p2
                try clear c6
                try clear c11
                try clear c14
                try clear c19
                try clear c22
                try clear c23
                try clear c25
                try clear p2
                obtain ⟨kq, x25_19, x1000_19, x1001_19, rfl, HA, HJ19, HI0, HK, HB⟩ := hcut
                cases kq with
                | zero => exact absurd HA.out (by simp [spec_reader_number.j2])
                | succ kj19 =>
                  have H := HA.out
                  clear HA
                  simp only [spec_reader_number.j2] at H
                  by_cases c27 : x25_19 = true
                  · subst c27
                    have H1 : ((spec_reader_take.f x1000_19 x1001_19 43).bind fun bt140 => (if bt140.1 = true then ((spec_reader_digits.f kj19 bt140.2.1 bt140.2.2).bind fun bt143 => (some (bt143.1, bt143.2.1, bt143.2.2))) else ((spec_reader_take.f bt140.2.1 bt140.2.2 45).bind fun bt146 => ((spec_reader_digits.f kj19 bt146.2.1 bt146.2.2).bind fun bt149 => (some (bt149.1, bt149.2.1, bt149.2.2)))))) = some (r1, r2, r3) := by rw [if_pos rfl] at H; exact H
                    clear H
                    have H := H1
                    clear H1
                    replace H := Option.bind_eq_some_iff.mp H
                    obtain ⟨⟨t140, t141, t142⟩, A280, H⟩ := H
                    replace H : (if t140 = true then ((spec_reader_digits.f kj19 t141 t142).bind fun bt143 => (some (bt143.1, bt143.2.1, bt143.2.2))) else ((spec_reader_take.f t141 t142 45).bind fun bt146 => ((spec_reader_digits.f kj19 bt146.2.1 bt146.2.2).bind fun bt149 => (some (bt149.1, bt149.2.1, bt149.2.2))))) = some (r1, r2, r3) := H
                    have A28 := Aside0.mk A280
                    clear A280
                    by_cases c29 : t140 = true
                    · subst c29
                      have H1 : ((spec_reader_digits.f kj19 t141 t142).bind fun bt143 => (some (bt143.1, bt143.2.1, bt143.2.2))) = some (r1, r2, r3) := by rw [if_pos rfl] at H; exact H
                      clear H
                      have H := H1
                      clear H1
                      replace H := Option.bind_eq_some_iff.mp H
                      obtain ⟨⟨t143, t144, t145⟩, A300, H⟩ := H
                      replace H : (some (t143, t144, t145)) = some (r1, r2, r3) := H
                      have A30 := Aside0.mk A300
                      clear A300
                      simp only [Option.some.injEq, Prod.mk.injEq] at H
                      obtain ⟨rfl, rfl, rfl⟩ := H
                      go_wp2_with (first | ((with_reducible refine gate_callee (f := 25) rfl ?_); refine goesL_ (some 27) rfl rfl Try.func25 (by kernel_rfl) rfl #[.pointer (some ⟨g, 0, none⟩), .int .u8 43] rfl (by (try simp only [List.map_toArray, List.map_cons, List.map_nil]); first | done | rfl | (simp only [List.length_drop, List.length_take]; rfl)) ?_; (with_reducible refine (spec_reader_take.calls g x1000_19 x1001_19 43 true t141 t142 w0 _ ?side1 ?side2 A28.out).mono ?_); (case side1 => repeat (first | (with_reducible first | exact HI0.out | apply IsS31.alloc | apply IsS31.drewN | apply IsS31.drew | apply IsS31.set_0 | apply IsS31.set_1) | exact HI0.out)); (case side2 => repeat (first | (with_reducible first | exact HB.out | apply below_alloc | apply pw_below_drewN | apply below_drew1 | refine below_set ?_ (IsS31.ge HI0.out)) | exact HB.out)); rintro e w31 ⟨rfl, hi, hb, hk⟩; refine ⟨_, rfl, ?_⟩; have n0_ := Aside0.mk (KeepBut.trans (by repeat (first | (with_reducible first | exact HK.out | apply KeepBut.set_ | apply keep_drewN | apply keep_drew | apply keep_alloc) | exact HK.out)) hk (.inl rfl)); have n1_ := Aside0.mk (hb); have n2_ := Aside0.mk (hi); clear HK; clear HB; clear HI0; have HK := n0_; have HB := n1_; have HI0 := n2_; clear n0_ n1_ n2_; (try clear hb); (try clear hb2); (try clear hk); (try clear hi)) | ((with_reducible refine gate_callee (f := 26) rfl ?_); refine goesL_ (some 32) rfl rfl Try.func26 (by kernel_rfl) rfl #[.pointer (some ⟨g, 0, none⟩)] rfl (by (try simp only [List.map_toArray, List.map_cons, List.map_nil]); first | done | rfl | (simp only [List.length_drop, List.length_take]; rfl)) ?_; (with_reducible refine (spec_reader_digits.calls kj19 g t141 t142 t143 t144 t145 w0 _ ?side1 ?side2 A30.out).mono ?_); (case side1 => repeat (first | (with_reducible first | exact HI0.out | apply IsS31.alloc | apply IsS31.drewN | apply IsS31.drew | apply IsS31.set_0 | apply IsS31.set_1) | exact HI0.out)); (case side2 => repeat (first | (with_reducible first | exact HB.out | apply below_alloc | apply pw_below_drewN | apply below_drew1 | refine below_set ?_ (IsS31.ge HI0.out)) | exact HB.out)); rintro e w32 ⟨rfl, hi, hb, hk⟩; refine ⟨_, rfl, ?_⟩; have n0_ := Aside0.mk (KeepBut.trans (by repeat (first | (with_reducible first | exact HK.out | apply KeepBut.set_ | apply keep_drewN | apply keep_drew | apply keep_alloc) | exact HK.out)) hk (.inl rfl)); have n1_ := Aside0.mk (hb); have n2_ := Aside0.mk (hi); clear HK; clear HB; clear HI0; have HK := n0_; have HB := n1_; have HI0 := n2_; clear n0_ n1_ n2_; (try clear hb); (try clear hb2); (try clear hk); (try clear hi)))
                      go_ret
                      exact ⟨by first | rfl | (simp [errW_none, errW_some] <;> rfl) | (simp [*, errW_none, errW_some] <;> rfl), by repeat (first | (with_reducible first | exact HI0.out | apply IsS31.alloc | apply IsS31.drewN | apply IsS31.drew | apply IsS31.set_0 | apply IsS31.set_1) | exact HI0.out), by repeat (first | (with_reducible first | exact HB.out | apply below_alloc | apply pw_below_drewN | apply below_drew1 | refine below_set ?_ (IsS31.ge HI0.out)) | exact HB.out), by repeat (first | (with_reducible first | exact HK.out | apply KeepBut.set_ | apply keep_drewN | apply keep_drew | apply keep_alloc) | exact HK.out)⟩
                    · replace c29 := Bool.eq_false_iff.mpr c29
                      subst c29
                      have H1 : ((spec_reader_take.f t141 t142 45).bind fun bt146 => ((spec_reader_digits.f kj19 bt146.2.1 bt146.2.2).bind fun bt149 => (some (bt149.1, bt149.2.1, bt149.2.2)))) = some (r1, r2, r3) := by rw [if_neg (show ¬ (false = true) by decide)] at H; exact H
                      clear H
                      have H := H1
                      clear H1
                      replace H := Option.bind_eq_some_iff.mp H
                      obtain ⟨⟨t146, t147, t148⟩, A330, H⟩ := H
                      replace H : ((spec_reader_digits.f kj19 t147 t148).bind fun bt149 => (some (bt149.1, bt149.2.1, bt149.2.2))) = some (r1, r2, r3) := H
                      have A33 := Aside0.mk A330
                      clear A330
                      replace H := Option.bind_eq_some_iff.mp H
                      obtain ⟨⟨t149, t150, t151⟩, A340, H⟩ := H
                      replace H : (some (t149, t150, t151)) = some (r1, r2, r3) := H
                      have A34 := Aside0.mk A340
                      clear A340
                      simp only [Option.some.injEq, Prod.mk.injEq] at H
                      obtain ⟨rfl, rfl, rfl⟩ := H
                      go_wp2_with (first | ((with_reducible refine gate_callee (f := 25) rfl ?_); refine goesL_ (some 27) rfl rfl Try.func25 (by kernel_rfl) rfl #[.pointer (some ⟨g, 0, none⟩), .int .u8 43] rfl (by (try simp only [List.map_toArray, List.map_cons, List.map_nil]); first | done | rfl | (simp only [List.length_drop, List.length_take]; rfl)) ?_; (with_reducible refine (spec_reader_take.calls g x1000_19 x1001_19 43 false t141 t142 w0 _ ?side1 ?side2 A28.out).mono ?_); (case side1 => repeat (first | (with_reducible first | exact HI0.out | apply IsS31.alloc | apply IsS31.drewN | apply IsS31.drew | apply IsS31.set_0 | apply IsS31.set_1) | exact HI0.out)); (case side2 => repeat (first | (with_reducible first | exact HB.out | apply below_alloc | apply pw_below_drewN | apply below_drew1 | refine below_set ?_ (IsS31.ge HI0.out)) | exact HB.out)); rintro e w35 ⟨rfl, hi, hb, hk⟩; refine ⟨_, rfl, ?_⟩; have n0_ := Aside0.mk (KeepBut.trans (by repeat (first | (with_reducible first | exact HK.out | apply KeepBut.set_ | apply keep_drewN | apply keep_drew | apply keep_alloc) | exact HK.out)) hk (.inl rfl)); have n1_ := Aside0.mk (hb); have n2_ := Aside0.mk (hi); clear HK; clear HB; clear HI0; have HK := n0_; have HB := n1_; have HI0 := n2_; clear n0_ n1_ n2_; (try clear hb); (try clear hb2); (try clear hk); (try clear hi)) | ((with_reducible refine gate_callee (f := 25) rfl ?_); refine goesL_ (some 30) rfl rfl Try.func25 (by kernel_rfl) rfl #[.pointer (some ⟨g, 0, none⟩), .int .u8 45] rfl (by (try simp only [List.map_toArray, List.map_cons, List.map_nil]); first | done | rfl | (simp only [List.length_drop, List.length_take]; rfl)) ?_; (with_reducible refine (spec_reader_take.calls g t141 t142 45 t146 t147 t148 w0 _ ?side1 ?side2 A33.out).mono ?_); (case side1 => repeat (first | (with_reducible first | exact HI0.out | apply IsS31.alloc | apply IsS31.drewN | apply IsS31.drew | apply IsS31.set_0 | apply IsS31.set_1) | exact HI0.out)); (case side2 => repeat (first | (with_reducible first | exact HB.out | apply below_alloc | apply pw_below_drewN | apply below_drew1 | refine below_set ?_ (IsS31.ge HI0.out)) | exact HB.out)); rintro e w36 ⟨rfl, hi, hb, hk⟩; refine ⟨_, rfl, ?_⟩; have n0_ := Aside0.mk (KeepBut.trans (by repeat (first | (with_reducible first | exact HK.out | apply KeepBut.set_ | apply keep_drewN | apply keep_drew | apply keep_alloc) | exact HK.out)) hk (.inl rfl)); have n1_ := Aside0.mk (hb); have n2_ := Aside0.mk (hi); clear HK; clear HB; clear HI0; have HK := n0_; have HB := n1_; have HI0 := n2_; clear n0_ n1_ n2_; (try clear hb); (try clear hb2); (try clear hk); (try clear hi)) | ((with_reducible refine gate_callee (f := 26) rfl ?_); refine goesL_ (some 32) rfl rfl Try.func26 (by kernel_rfl) rfl #[.pointer (some ⟨g, 0, none⟩)] rfl (by (try simp only [List.map_toArray, List.map_cons, List.map_nil]); first | done | rfl | (simp only [List.length_drop, List.length_take]; rfl)) ?_; (with_reducible refine (spec_reader_digits.calls kj19 g t147 t148 t149 t150 t151 w0 _ ?side1 ?side2 A34.out).mono ?_); (case side1 => repeat (first | (with_reducible first | exact HI0.out | apply IsS31.alloc | apply IsS31.drewN | apply IsS31.drew | apply IsS31.set_0 | apply IsS31.set_1) | exact HI0.out)); (case side2 => repeat (first | (with_reducible first | exact HB.out | apply below_alloc | apply pw_below_drewN | apply below_drew1 | refine below_set ?_ (IsS31.ge HI0.out)) | exact HB.out)); rintro e w37 ⟨rfl, hi, hb, hk⟩; refine ⟨_, rfl, ?_⟩; have n0_ := Aside0.mk (KeepBut.trans (by repeat (first | (with_reducible first | exact HK.out | apply KeepBut.set_ | apply keep_drewN | apply keep_drew | apply keep_alloc) | exact HK.out)) hk (.inl rfl)); have n1_ := Aside0.mk (hb); have n2_ := Aside0.mk (hi); clear HK; clear HB; clear HI0; have HK := n0_; have HB := n1_; have HI0 := n2_; clear n0_ n1_ n2_; (try clear hb); (try clear hb2); (try clear hk); (try clear hi)))
                      go_ret
                      exact ⟨by first | rfl | (simp [errW_none, errW_some] <;> rfl) | (simp [*, errW_none, errW_some] <;> rfl), by repeat (first | (with_reducible first | exact HI0.out | apply IsS31.alloc | apply IsS31.drewN | apply IsS31.drew | apply IsS31.set_0 | apply IsS31.set_1) | exact HI0.out), by repeat (first | (with_reducible first | exact HB.out | apply below_alloc | apply pw_below_drewN | apply below_drew1 | refine below_set ?_ (IsS31.ge HI0.out)) | exact HB.out), by repeat (first | (with_reducible first | exact HK.out | apply KeepBut.set_ | apply keep_drewN | apply keep_drew | apply keep_alloc) | exact HK.out)⟩
                  · replace c27 := Bool.eq_false_iff.mpr c27
                    subst c27
                    have H1 : (some (true, x1000_19, x1001_19)) = some (r1, r2, r3) := by rw [if_neg (show ¬ (false = true) by decide)] at H; exact H
                    clear H
                    have H := H1
                    clear H1
                    simp only [Option.some.injEq, Prod.mk.injEq] at H
                    obtain ⟨rfl, rfl, rfl⟩ := H
                    go_wp2
                    go_ret
                    exact ⟨by first | rfl | (simp [errW_none, errW_some] <;> rfl) | (simp [*, errW_none, errW_some] <;> rfl), by repeat (first | (with_reducible first | exact HI0.out | apply IsS31.alloc | apply IsS31.drewN | apply IsS31.drew | apply IsS31.set_0 | apply IsS31.set_1) | exact HI0.out), by repeat (first | (with_reducible first | exact HB.out | apply below_alloc | apply pw_below_drewN | apply below_drew1 | refine below_set ?_ (IsS31.ge HI0.out)) | exact HB.out), by repeat (first | (with_reducible first | exact HK.out | apply KeepBut.set_ | apply keep_drewN | apply keep_drew | apply keep_alloc) | exact HK.out)⟩
/-! ### spec_reader_word: function 24 -/
def spec_reader_word.f (s0_0 : ByteArray) (s0_1 : Int) (a1 : ByteArray) : Option (Bool × ByteArray × Int) := if (wrap64 ((s0_0.size : Int) - s0_1)) < (a1.size : Int) then (some (false, s0_0, s0_1)) else (if 0 ≤ s0_1 then (if s0_1 ≤ (wrap64 (s0_1 + (a1.size : Int))) then (if (wrap64 (s0_1 + (a1.size : Int))) ≤ (s0_0.size : Int) then (if (s0_0.extract (s0_1 : Int).toNat ((wrap64 (s0_1 + (a1.size : Int))) : Int).toNat).toList = a1.toList then (some (true, s0_0, wrap64 (s0_1 + (a1.size : Int)))) else (some (false, s0_0, s0_1))) else (none)) else (none)) else (none))
set_option maxHeartbeats 8000000 in
set_option maxRecDepth 100000 in
theorem spec_reader_word.calls (g : Nat) (s0_0 : ByteArray) (s0_1 : Int) (a1 : ByteArray) (r1 : Bool) (r2 : ByteArray) (r3 : Int) (w0 w : World) (hI : IsS31 w0 w g s0_0 s0_1) (hB : Below w0.heap.size w0 w) (h : spec_reader_word.f s0_0 s0_1 a1 = some (r1, r2, r3)) :
    Calls Try.prog 24 #[.pointer (some ⟨g, 0, none⟩), .string a1] w fun e w' => e = .returned (.bool r1) ∧ IsS31 w0 w' g r2 r3 ∧ Below w0.heap.size w0 w' ∧ KeepBut w w' g none := by
  have HI0 := Aside0.mk hI
  have HK := Aside0.mk (KeepBut.refl w g none)
  have HL := Aside0.mk hB.size
  clear hI
  have HW0 := Aside0.mk hB.size
  have HB := Aside0.mk hB
  clear hB
  have H : (if (wrap64 ((s0_0.size : Int) - s0_1)) < (a1.size : Int) then (some (false, s0_0, s0_1)) else (if 0 ≤ s0_1 then (if s0_1 ≤ (wrap64 (s0_1 + (a1.size : Int))) then (if (wrap64 (s0_1 + (a1.size : Int))) ≤ (s0_0.size : Int) then (if (s0_0.extract (s0_1 : Int).toNat ((wrap64 (s0_1 + (a1.size : Int))) : Int).toNat).toList = a1.toList then (some (true, s0_0, wrap64 (s0_1 + (a1.size : Int)))) else (some (false, s0_0, s0_1))) else (none)) else (none)) else (none))) = some (r1, r2, r3) := h
  clear h
  by_cases c3 : (wrap64 ((s0_0.size : Int) - s0_1)) < (a1.size : Int)
  · rw [if_pos c3] at H
    have c3b0 : decide ((wrap64 ((s0_0.size : Int) - s0_1)) < (a1.size : Int)) = true := decide_eq_true c3
    clear c3
    simp only [Option.some.injEq, Prod.mk.injEq] at H
    obtain ⟨rfl, rfl, rfl⟩ := H
    obtain ⟨HGz4, hgz4⟩ := HI0.out
    have hcz4_0 := cellS31_0 HGz4
    have hcz4_1 := cellS31_1 HGz4
    have hfz4_0 := blk_frozen HGz4 0
    have hfz4_1 := blk_frozen HGz4 1
    clear HGz4 hgz4
    go_enter Try.func24, Try.ntmps24
    go_wp2
    repeat (go_quiet (fail); try go_wp2)
    go_ret
    exact ⟨by first | rfl | (simp [errW_none, errW_some] <;> rfl) | (simp [*, errW_none, errW_some] <;> rfl), by repeat (first | (with_reducible first | exact HI0.out | apply IsS31.alloc | apply IsS31.drewN | apply IsS31.drew | apply IsS31.set_0 | apply IsS31.set_1) | exact HI0.out), by repeat (first | (with_reducible first | exact HB.out | apply below_alloc | apply pw_below_drewN | apply below_drew1 | refine below_set ?_ (IsS31.ge HI0.out)) | exact HB.out), by repeat (first | (with_reducible first | exact HK.out | apply KeepBut.set_ | apply keep_drewN | apply keep_drew | apply keep_alloc) | exact HK.out)⟩
  · rw [if_neg c3] at H
    have c3b0 : decide ((wrap64 ((s0_0.size : Int) - s0_1)) < (a1.size : Int)) = false := decide_eq_false c3
    clear c3
    by_cases c5 : 0 ≤ s0_1
    · rw [if_pos c5] at H
      have c5b0 := eq_true c5
      have c5b1 : decide (0 ≤ s0_1) = true := decide_eq_true c5
      clear c5
      by_cases c6 : s0_1 ≤ (wrap64 (s0_1 + (a1.size : Int)))
      · rw [if_pos c6] at H
        have c6b0 := eq_true c6
        have c6b1 : decide (s0_1 ≤ (wrap64 (s0_1 + (a1.size : Int)))) = true := decide_eq_true c6
        by_cases c7 : (wrap64 (s0_1 + (a1.size : Int))) ≤ (s0_0.size : Int)
        · rw [if_pos c7] at H
          have c7b0 := eq_true c7
          have c7b1 : decide ((wrap64 (s0_1 + (a1.size : Int))) ≤ (s0_0.size : Int)) = true := decide_eq_true c7
          by_cases c8 : (s0_0.extract (s0_1 : Int).toNat ((wrap64 (s0_1 + (a1.size : Int))) : Int).toNat).toList = a1.toList
          · rw [if_pos c8] at H
            have c8b0 : ((s0_0.extract (s0_1 : Int).toNat ((wrap64 (s0_1 + (a1.size : Int))) : Int).toNat).toList == a1.toList) = true := beq_iff_eq.mpr c8
            have c8b1 : ((s0_0.extract (s0_1 : Int).toNat ((wrap64 (s0_1 + (a1.size : Int))) : Int).toNat).toList != a1.toList) = false := bne_eq_false_iff_eq.mpr c8
            clear c8
            simp only [Option.some.injEq, Prod.mk.injEq] at H
            obtain ⟨rfl, rfl, rfl⟩ := H
            obtain ⟨HGz9, hgz9⟩ := HI0.out
            have hcz9_0 := cellS31_0 HGz9
            have hcz9_1 := cellS31_1 HGz9
            have hfz9_0 := blk_frozen HGz9 0
            have hfz9_1 := blk_frozen HGz9 1
            clear HGz9 hgz9
            go_enter Try.func24, Try.ntmps24
            go_wp2
            repeat (go_quiet (fail); try go_wp2)
            go_ret
            exact ⟨by first | rfl | (simp [errW_none, errW_some] <;> rfl) | (simp [*, errW_none, errW_some] <;> rfl), by repeat (first | (with_reducible first | exact HI0.out | apply IsS31.alloc | apply IsS31.drewN | apply IsS31.drew | apply IsS31.set_0 | apply IsS31.set_1) | exact HI0.out), by repeat (first | (with_reducible first | exact HB.out | apply below_alloc | apply pw_below_drewN | apply below_drew1 | refine below_set ?_ (IsS31.ge HI0.out)) | exact HB.out), by repeat (first | (with_reducible first | exact HK.out | apply KeepBut.set_ | apply keep_drewN | apply keep_drew | apply keep_alloc) | exact HK.out)⟩
          · rw [if_neg c8] at H
            have c8b0 : ((s0_0.extract (s0_1 : Int).toNat ((wrap64 (s0_1 + (a1.size : Int))) : Int).toNat).toList == a1.toList) = false := beq_eq_false_iff_ne.mpr c8
            have c8b1 : ((s0_0.extract (s0_1 : Int).toNat ((wrap64 (s0_1 + (a1.size : Int))) : Int).toNat).toList != a1.toList) = true := bne_iff_ne.mpr c8
            simp only [Option.some.injEq, Prod.mk.injEq] at H
            obtain ⟨rfl, rfl, rfl⟩ := H
            obtain ⟨HGz10, hgz10⟩ := HI0.out
            have hcz10_0 := cellS31_0 HGz10
            have hcz10_1 := cellS31_1 HGz10
            have hfz10_0 := blk_frozen HGz10 0
            have hfz10_1 := blk_frozen HGz10 1
            clear HGz10 hgz10
            go_enter Try.func24, Try.ntmps24
            go_wp2
            repeat (go_quiet (fail); try go_wp2)
            go_ret
            exact ⟨by first | rfl | (simp [errW_none, errW_some] <;> rfl) | (simp [*, errW_none, errW_some] <;> rfl), by repeat (first | (with_reducible first | exact HI0.out | apply IsS31.alloc | apply IsS31.drewN | apply IsS31.drew | apply IsS31.set_0 | apply IsS31.set_1) | exact HI0.out), by repeat (first | (with_reducible first | exact HB.out | apply below_alloc | apply pw_below_drewN | apply below_drew1 | refine below_set ?_ (IsS31.ge HI0.out)) | exact HB.out), by repeat (first | (with_reducible first | exact HK.out | apply KeepBut.set_ | apply keep_drewN | apply keep_drew | apply keep_alloc) | exact HK.out)⟩
        · rw [if_neg c7] at H
          exact absurd H (by simp)
      · rw [if_neg c6] at H
        exact absurd H (by simp)
    · rw [if_neg c5] at H
      exact absurd H (by simp)
end Go.Proofs.Ytlllokmipeoelaa.XFnPrSpec
end
