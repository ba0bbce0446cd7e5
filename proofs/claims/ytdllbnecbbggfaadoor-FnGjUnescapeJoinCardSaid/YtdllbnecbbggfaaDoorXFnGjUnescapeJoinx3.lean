-- Written by xprint.py of this session (a program that runs the kit's print and adds to it); Lean checks it.
import Derived.Test.YtdllbnecbbggfaaDoorXFnGjUnescapeJoinx0
import Derived.Test.YtdllbnecbbggfaaDoorXFnGjUnescapeJoinx1
import Derived.Test.YtdllbnecbbggfaaDoorXFnGjUnescapeJoinx2
namespace Go.Proofs.YtdllbnecbbggfaaDoor.XFnGjUnescapeJoin
open Go.RowKit Go.Proofs.YtdllbnecbbggfaaDoorW.PrintWords Go.Proofs.YtdllbnecbbggfaaDoorW.PrintLast Go.Proofs.YtdllbnecbbggfaaDoorW.PrintMore
attribute [local go_sem] max2_int min2_int max_two min_two max_three min_three max_four min_four   -- for this text's walks alone
set_option linter.unusedVariables false
set_option linter.unusedSimpArgs false

/-! ### spec_reader_quoted: function 45 -/
def spec_reader_quoted.l0 : Nat → ByteArray → Int → Option (Bool × ByteArray × Int)
  | 0, _, _ => none
  | k + 1, x1000, x1001 => if x1001 < (x1000.size : Int) then (if 0 ≤ x1001 then (if (bt x1000 x1001) = 34 then (some (true, x1000, wrap64 (x1001 + 1))) else (if (bt x1000 x1001) < 32 then (some (false, x1000, wrap64 (x1001 + 1))) else (if (bt x1000 x1001) = 92 then ((spec_reader_escape.f k x1000 (wrap64 (x1001 + 1))).bind fun bt114 => (if bt114.1 = true then (spec_reader_quoted.l0 k bt114.2.1 bt114.2.2) else (some (false, bt114.2.1, bt114.2.2)))) else (spec_reader_quoted.l0 k x1000 (wrap64 (x1001 + 1)))))) else (none)) else (some (false, x1000, x1001))
def spec_reader_quoted.f (k : Nat) (s0_0 : ByteArray) (s0_1 : Int) : Option (Bool × ByteArray × Int) := spec_reader_quoted.l0 k s0_0 (wrap64 (s0_1 + 1))
theorem spec_reader_quoted.mono_l : ∀ k, (∀ y0 y1, LeO (spec_reader_quoted.l0 k y0 y1) (spec_reader_quoted.l0 (k + 1) y0 y1))
  | 0 => fun _ _ r h => by simp [spec_reader_quoted.l0] at h
  | k + 1 => by
    have ih0 := spec_reader_quoted.mono_l k
    · intro y0 y1
      unfold spec_reader_quoted.l0
      repeat' first
      | (with_reducible exact ih0 _ _)
      | (with_reducible exact spec_reader_escape.mono _ _ _)
      | (with_reducible exact LeO.refl _)
      | (with_reducible exact LeO.none _)
      | (with_reducible refine LeO.ite ?_ ?_)
      | (with_reducible refine LeO.bind ?_ (fun _ => ?_))
      | exact ih0 _ _
      | exact spec_reader_escape.mono _ _ _
      | exact LeO.none _
      | refine LeO.ite ?_ ?_
      | refine LeO.bind ?_ (fun _ => ?_)
theorem spec_reader_quoted.mono : ∀ a0 a1 k, LeO (spec_reader_quoted.f k a0 a1) (spec_reader_quoted.f (k + 1) a0 a1) := by
  intro a0 a1 k
  have ih0 := spec_reader_quoted.mono_l k
  unfold spec_reader_quoted.f
  repeat' first
      | (with_reducible exact ih0 _ _)
      | (with_reducible exact spec_reader_escape.mono _ _ _)
      | (with_reducible exact LeO.refl _)
      | (with_reducible exact LeO.none _)
      | (with_reducible refine LeO.ite ?_ ?_)
      | (with_reducible refine LeO.bind ?_ (fun _ => ?_))
      | exact ih0 _ _
      | exact spec_reader_escape.mono _ _ _
      | exact LeO.none _
      | refine LeO.ite ?_ ?_
      | refine LeO.bind ?_ (fun _ => ?_)
set_option maxHeartbeats 8000000 in
set_option maxRecDepth 100000 in
theorem spec_reader_quoted.calls (k : Nat) (g : Nat) (s0_0 : ByteArray) (s0_1 : Int) (r1 : Bool) (r2 : ByteArray) (r3 : Int) (w0 w : World) (hI : IsS61 w0 w g s0_0 s0_1) (hB : Below w0.heap.size w0 w) (h : spec_reader_quoted.f k s0_0 s0_1 = some (r1, r2, r3)) :
    Calls Tryd.prog 45 #[.pointer (some ⟨g, 0, none⟩)] w fun e w' => e = .returned (.bool r1) ∧ IsS61 w0 w' g r2 r3 ∧ Below w0.heap.size w0 w' ∧ KeepBut w w' g none := by
  have HI0 := Aside0.mk hI
  have HK := Aside0.mk (KeepBut.refl w g none)
  have HL := Aside0.mk hB.size
  clear hI
  have HW0 := Aside0.mk hB.size
  have HB := Aside0.mk hB
  clear hB
  have H : (spec_reader_quoted.l0 k s0_0 (wrap64 (s0_1 + 1))) = some (r1, r2, r3) := h
  clear h
  have H' := Aside0.mk H
  clear H
  obtain ⟨HGz2, hgz2⟩ := HI0.out
  have hcz2_0 := cellS61_0 HGz2
  have hcz2_1 := cellS61_1 HGz2
  have hfz2_0 := blk_frozen HGz2 0
  have hfz2_1 := blk_frozen HGz2 1
  clear HGz2 hgz2
  go_enter Tryd.func45, Tryd.ntmps45
  go_wp2
  repeat (go_quiet (fail); try go_wp2)
  try simp only [Act.put, List.setIfInBounds_toArray, List.set_cons_succ, List.set_cons_zero]
  go_loopg [] k (fun kq w' => ∃ (x1000_1 : ByteArray) (x1001_1 : Int), Aside0 (spec_reader_quoted.l0 kq x1000_1 x1001_1 = some (r1, r2, r3)) ∧ Aside0 (kq ≤ k) ∧ Aside0 (IsS61 w0 w' g x1000_1 x1001_1) ∧ Aside0 (KeepBut w w' g none) ∧ Aside0 (Below w0.heap.size w0 w'))
  case atStart => exact ⟨(s0_0), (wrap64 (s0_1 + 1)), H', ⟨Nat.le_refl _⟩, ⟨by repeat (first | (with_reducible first | exact HI0.out | apply IsS61.alloc | apply IsS61.drewN | apply IsS61.drew | apply IsS61.set_0 | apply IsS61.set_1) | exact HI0.out)⟩, ⟨by repeat (first | (with_reducible first | exact HK.out | apply KeepBut.set_ | apply keep_drewN | apply keep_drew | apply keep_alloc) | exact HK.out)⟩, ⟨by repeat (first | (with_reducible first | exact HB.out | apply below_alloc | apply pw_below_drewN | apply below_drew1 | refine below_set ?_ (IsS61.ge HI0.out)) | exact HB.out)⟩⟩
  case round =>
    clear H'
    try clear p2
    try clear hcz2_0
    try clear hcz2_1
    try clear hfz2_0
    try clear hfz2_1
    obtain ⟨x1000_1, x1001_1, HA, HK1, HI0, HK, HB⟩ := hrel
    cases gk with
    | zero => exact absurd HA.out (by simp [spec_reader_quoted.l0])
    | succ k1 =>
      have H := HA.out
      clear HA
      simp only [spec_reader_quoted.l0] at H
      by_cases c3 : x1001_1 < (x1000_1.size : Int)
      · rw [if_pos c3] at H
        have c3b0 : decide (x1001_1 < (x1000_1.size : Int)) = true := decide_eq_true c3
        clear c3
        by_cases c4 : 0 ≤ x1001_1
        · rw [if_pos c4] at H
          have c4b0 : decide (0 ≤ x1001_1) = true := decide_eq_true c4
          clear c4
          by_cases c6 : (bt x1000_1 x1001_1) = 34
          · rw [if_pos c6] at H
            have c6b0 : ((bt x1000_1 x1001_1) == 34) = true := beq_iff_eq.mpr c6
            have c6b1 : ((bt x1000_1 x1001_1) != 34) = false := bne_eq_false_iff_eq.mpr c6
            clear c6
            simp only [Option.some.injEq, Prod.mk.injEq] at H
            obtain ⟨rfl, rfl, rfl⟩ := H
            obtain ⟨HGz7, hgz7⟩ := HI0.out
            have hcz7_0 := cellS61_0 HGz7
            have hcz7_1 := cellS61_1 HGz7
            have hfz7_0 := blk_frozen HGz7 0
            have hfz7_1 := blk_frozen HGz7 1
            clear HGz7 hgz7
            have p5 : 0 ≤ (x1001_1 : Int) := of_decide_eq_true (by first | (with_reducible assumption) | assumption)
            have q5 : x1001_1 < (x1000_1.size : Int) := of_decide_eq_true (by first | (with_reducible assumption) | assumption)
            have hx5 := bt_at x1000_1 x1001_1
            replace p5 := eq_true p5
            replace q5 := eq_true q5
            go_wp2
            repeat (go_quiet (fail); try go_wp2)
            go_ret
            exact ⟨by first | rfl | (simp [errW_none, errW_some] <;> rfl) | (simp [*, errW_none, errW_some] <;> rfl), by repeat (first | (with_reducible first | exact HI0.out | apply IsS61.alloc | apply IsS61.drewN | apply IsS61.drew | apply IsS61.set_0 | apply IsS61.set_1) | exact HI0.out), by repeat (first | (with_reducible first | exact HB.out | apply below_alloc | apply pw_below_drewN | apply below_drew1 | refine below_set ?_ (IsS61.ge HI0.out)) | exact HB.out), by repeat (first | (with_reducible first | exact HK.out | apply KeepBut.set_ | apply keep_drewN | apply keep_drew | apply keep_alloc) | exact HK.out)⟩
          · rw [if_neg c6] at H
            have c6b0 : ((bt x1000_1 x1001_1) == 34) = false := beq_eq_false_iff_ne.mpr c6
            have c6b1 : ((bt x1000_1 x1001_1) != 34) = true := bne_iff_ne.mpr c6
            by_cases c8 : (bt x1000_1 x1001_1) < 32
            · rw [if_pos c8] at H
              have c8b0 : decide ((bt x1000_1 x1001_1) < 32) = true := decide_eq_true c8
              clear c8
              simp only [Option.some.injEq, Prod.mk.injEq] at H
              obtain ⟨rfl, rfl, rfl⟩ := H
              obtain ⟨HGz9, hgz9⟩ := HI0.out
              have hcz9_0 := cellS61_0 HGz9
              have hcz9_1 := cellS61_1 HGz9
              have hfz9_0 := blk_frozen HGz9 0
              have hfz9_1 := blk_frozen HGz9 1
              clear HGz9 hgz9
              have p5 : 0 ≤ (x1001_1 : Int) := of_decide_eq_true (by first | (with_reducible assumption) | assumption)
              have q5 : x1001_1 < (x1000_1.size : Int) := of_decide_eq_true (by first | (with_reducible assumption) | assumption)
              have hx5 := bt_at x1000_1 x1001_1
              replace p5 := eq_true p5
              replace q5 := eq_true q5
              go_wp2
              repeat (go_quiet (fail); try go_wp2)
              go_ret
              exact ⟨by first | rfl | (simp [errW_none, errW_some] <;> rfl) | (simp [*, errW_none, errW_some] <;> rfl), by repeat (first | (with_reducible first | exact HI0.out | apply IsS61.alloc | apply IsS61.drewN | apply IsS61.drew | apply IsS61.set_0 | apply IsS61.set_1) | exact HI0.out), by repeat (first | (with_reducible first | exact HB.out | apply below_alloc | apply pw_below_drewN | apply below_drew1 | refine below_set ?_ (IsS61.ge HI0.out)) | exact HB.out), by repeat (first | (with_reducible first | exact HK.out | apply KeepBut.set_ | apply keep_drewN | apply keep_drew | apply keep_alloc) | exact HK.out)⟩
            · rw [if_neg c8] at H
              have c8b0 : decide ((bt x1000_1 x1001_1) < 32) = false := decide_eq_false c8
              clear c8
              by_cases c10 : (bt x1000_1 x1001_1) = 92
              · rw [if_pos c10] at H
                have c10b0 : ((bt x1000_1 x1001_1) == 92) = true := beq_iff_eq.mpr c10
                have c10b1 : ((bt x1000_1 x1001_1) != 92) = false := bne_eq_false_iff_eq.mpr c10
                clear c10
                replace H := Option.bind_eq_some_iff.mp H
                obtain ⟨⟨t114, t115, t116⟩, A110, H⟩ := H
                replace H : (if t114 = true then (spec_reader_quoted.l0 k1 t115 t116) else (some (false, t115, t116))) = some (r1, r2, r3) := H
                have A11 := Aside0.mk A110
                clear A110
                by_cases c12 : t114 = true
                · subst c12
                  have H1 : (spec_reader_quoted.l0 k1 t115 t116) = some (r1, r2, r3) := by rw [if_pos rfl] at H; exact H
                  clear H
                  have H := H1
                  clear H1
                  have H' := Aside0.mk H
                  clear H
                  obtain ⟨HGz13, hgz13⟩ := HI0.out
                  have hcz13_0 := cellS61_0 HGz13
                  have hcz13_1 := cellS61_1 HGz13
                  have hfz13_0 := blk_frozen HGz13 0
                  have hfz13_1 := blk_frozen HGz13 1
                  clear HGz13 hgz13
                  have p5 : 0 ≤ (x1001_1 : Int) := of_decide_eq_true (by first | (with_reducible assumption) | assumption)
                  have q5 : x1001_1 < (x1000_1.size : Int) := of_decide_eq_true (by first | (with_reducible assumption) | assumption)
                  have hx5 := bt_at x1000_1 x1001_1
                  replace p5 := eq_true p5
                  replace q5 := eq_true q5
                  go_wp2_with (first | (go_at_call 52; (with_reducible refine (spec_reader_escape.calls k1 g x1000_1 (wrap64 (x1001_1 + 1)) true t115 t116 w0 _ ?side1 ?side2 A11.out).mono ?_); (case side1 => repeat (first | (with_reducible first | exact HI0.out | apply IsS61.alloc | apply IsS61.drewN | apply IsS61.drew | apply IsS61.set_0 | apply IsS61.set_1) | exact HI0.out)); (case side2 => repeat (first | (with_reducible first | exact HB.out | apply below_alloc | apply pw_below_drewN | apply below_drew1 | refine below_set ?_ (IsS61.ge HI0.out)) | exact HB.out)); rintro e w14 ⟨rfl, hi, hb, hk⟩; have n0_ := Aside0.mk (KeepBut.trans (by repeat (first | (with_reducible first | exact HK.out | apply KeepBut.set_ | apply keep_drewN | apply keep_drew | apply keep_alloc) | exact HK.out)) hk (.inl rfl)); have n1_ := Aside0.mk (hb); have n2_ := Aside0.mk (hi); clear HK; clear HB; clear HI0; have HK := n0_; have HB := n1_; have HI0 := n2_; clear n0_ n1_ n2_; (try clear hb); (try clear hb2); (try clear hk); (try clear hi)))
                  repeat (go_quiet (first | (go_at_call 52; (with_reducible refine (spec_reader_escape.calls k1 g x1000_1 (wrap64 (x1001_1 + 1)) true t115 t116 w0 _ ?side1 ?side2 A11.out).mono ?_); (case side1 => repeat (first | (with_reducible first | exact HI0.out | apply IsS61.alloc | apply IsS61.drewN | apply IsS61.drew | apply IsS61.set_0 | apply IsS61.set_1) | exact HI0.out)); (case side2 => repeat (first | (with_reducible first | exact HB.out | apply below_alloc | apply pw_below_drewN | apply below_drew1 | refine below_set ?_ (IsS61.ge HI0.out)) | exact HB.out)); rintro e w14 ⟨rfl, hi, hb, hk⟩; have n0_ := Aside0.mk (KeepBut.trans (by repeat (first | (with_reducible first | exact HK.out | apply KeepBut.set_ | apply keep_drewN | apply keep_drew | apply keep_alloc) | exact HK.out)) hk (.inl rfl)); have n1_ := Aside0.mk (hb); have n2_ := Aside0.mk (hi); clear HK; clear HB; clear HI0; have HK := n0_; have HB := n1_; have HI0 := n2_; clear n0_ n1_ n2_; (try clear hb); (try clear hb2); (try clear hk); (try clear hi))); try go_wp2_with (first | (go_at_call 52; (with_reducible refine (spec_reader_escape.calls k1 g x1000_1 (wrap64 (x1001_1 + 1)) true t115 t116 w0 _ ?side1 ?side2 A11.out).mono ?_); (case side1 => repeat (first | (with_reducible first | exact HI0.out | apply IsS61.alloc | apply IsS61.drewN | apply IsS61.drew | apply IsS61.set_0 | apply IsS61.set_1) | exact HI0.out)); (case side2 => repeat (first | (with_reducible first | exact HB.out | apply below_alloc | apply pw_below_drewN | apply below_drew1 | refine below_set ?_ (IsS61.ge HI0.out)) | exact HB.out)); rintro e w14 ⟨rfl, hi, hb, hk⟩; have n0_ := Aside0.mk (KeepBut.trans (by repeat (first | (with_reducible first | exact HK.out | apply KeepBut.set_ | apply keep_drewN | apply keep_drew | apply keep_alloc) | exact HK.out)) hk (.inl rfl)); have n1_ := Aside0.mk (hb); have n2_ := Aside0.mk (hi); clear HK; clear HB; clear HI0; have HK := n0_; have HB := n1_; have HI0 := n2_; clear n0_ n1_ n2_; (try clear hb); (try clear hb2); (try clear hk); (try clear hi))))
                  go_roundg k1
                  case measure => have := HK1.out; omega
                  case rel => exact ⟨(t115), (t116), H', ⟨by have := HK1.out; omega⟩, ⟨by repeat (first | (with_reducible first | exact HI0.out | apply IsS61.alloc | apply IsS61.drewN | apply IsS61.drew | apply IsS61.set_0 | apply IsS61.set_1) | exact HI0.out)⟩, ⟨by repeat (first | (with_reducible first | exact HK.out | apply KeepBut.set_ | apply keep_drewN | apply keep_drew | apply keep_alloc) | exact HK.out)⟩, ⟨by repeat (first | (with_reducible first | exact HB.out | apply below_alloc | apply pw_below_drewN | apply below_drew1 | refine below_set ?_ (IsS61.ge HI0.out)) | exact HB.out)⟩⟩
                · replace c12 := Bool.eq_false_iff.mpr c12
                  subst c12
                  have H1 : (some (false, t115, t116)) = some (r1, r2, r3) := by rw [if_neg (show ¬ (false = true) by decide)] at H; exact H
                  clear H
                  have H := H1
                  clear H1
                  simp only [Option.some.injEq, Prod.mk.injEq] at H
                  obtain ⟨rfl, rfl, rfl⟩ := H
                  obtain ⟨HGz15, hgz15⟩ := HI0.out
                  have hcz15_0 := cellS61_0 HGz15
                  have hcz15_1 := cellS61_1 HGz15
                  have hfz15_0 := blk_frozen HGz15 0
                  have hfz15_1 := blk_frozen HGz15 1
                  clear HGz15 hgz15
                  have p5 : 0 ≤ (x1001_1 : Int) := of_decide_eq_true (by first | (with_reducible assumption) | assumption)
                  have q5 : x1001_1 < (x1000_1.size : Int) := of_decide_eq_true (by first | (with_reducible assumption) | assumption)
                  have hx5 := bt_at x1000_1 x1001_1
                  replace p5 := eq_true p5
                  replace q5 := eq_true q5
                  go_wp2_with (first | (go_at_call 52; (with_reducible refine (spec_reader_escape.calls k1 g x1000_1 (wrap64 (x1001_1 + 1)) false t115 t116 w0 _ ?side1 ?side2 A11.out).mono ?_); (case side1 => repeat (first | (with_reducible first | exact HI0.out | apply IsS61.alloc | apply IsS61.drewN | apply IsS61.drew | apply IsS61.set_0 | apply IsS61.set_1) | exact HI0.out)); (case side2 => repeat (first | (with_reducible first | exact HB.out | apply below_alloc | apply pw_below_drewN | apply below_drew1 | refine below_set ?_ (IsS61.ge HI0.out)) | exact HB.out)); rintro e w16 ⟨rfl, hi, hb, hk⟩; have n0_ := Aside0.mk (KeepBut.trans (by repeat (first | (with_reducible first | exact HK.out | apply KeepBut.set_ | apply keep_drewN | apply keep_drew | apply keep_alloc) | exact HK.out)) hk (.inl rfl)); have n1_ := Aside0.mk (hb); have n2_ := Aside0.mk (hi); clear HK; clear HB; clear HI0; have HK := n0_; have HB := n1_; have HI0 := n2_; clear n0_ n1_ n2_; (try clear hb); (try clear hb2); (try clear hk); (try clear hi)))
                  repeat (go_quiet (first | (go_at_call 52; (with_reducible refine (spec_reader_escape.calls k1 g x1000_1 (wrap64 (x1001_1 + 1)) false t115 t116 w0 _ ?side1 ?side2 A11.out).mono ?_); (case side1 => repeat (first | (with_reducible first | exact HI0.out | apply IsS61.alloc | apply IsS61.drewN | apply IsS61.drew | apply IsS61.set_0 | apply IsS61.set_1) | exact HI0.out)); (case side2 => repeat (first | (with_reducible first | exact HB.out | apply below_alloc | apply pw_below_drewN | apply below_drew1 | refine below_set ?_ (IsS61.ge HI0.out)) | exact HB.out)); rintro e w16 ⟨rfl, hi, hb, hk⟩; have n0_ := Aside0.mk (KeepBut.trans (by repeat (first | (with_reducible first | exact HK.out | apply KeepBut.set_ | apply keep_drewN | apply keep_drew | apply keep_alloc) | exact HK.out)) hk (.inl rfl)); have n1_ := Aside0.mk (hb); have n2_ := Aside0.mk (hi); clear HK; clear HB; clear HI0; have HK := n0_; have HB := n1_; have HI0 := n2_; clear n0_ n1_ n2_; (try clear hb); (try clear hb2); (try clear hk); (try clear hi))); try go_wp2_with (first | (go_at_call 52; (with_reducible refine (spec_reader_escape.calls k1 g x1000_1 (wrap64 (x1001_1 + 1)) false t115 t116 w0 _ ?side1 ?side2 A11.out).mono ?_); (case side1 => repeat (first | (with_reducible first | exact HI0.out | apply IsS61.alloc | apply IsS61.drewN | apply IsS61.drew | apply IsS61.set_0 | apply IsS61.set_1) | exact HI0.out)); (case side2 => repeat (first | (with_reducible first | exact HB.out | apply below_alloc | apply pw_below_drewN | apply below_drew1 | refine below_set ?_ (IsS61.ge HI0.out)) | exact HB.out)); rintro e w16 ⟨rfl, hi, hb, hk⟩; have n0_ := Aside0.mk (KeepBut.trans (by repeat (first | (with_reducible first | exact HK.out | apply KeepBut.set_ | apply keep_drewN | apply keep_drew | apply keep_alloc) | exact HK.out)) hk (.inl rfl)); have n1_ := Aside0.mk (hb); have n2_ := Aside0.mk (hi); clear HK; clear HB; clear HI0; have HK := n0_; have HB := n1_; have HI0 := n2_; clear n0_ n1_ n2_; (try clear hb); (try clear hb2); (try clear hk); (try clear hi))))
                  go_ret
                  exact ⟨by first | rfl | (simp [errW_none, errW_some] <;> rfl) | (simp [*, errW_none, errW_some] <;> rfl), by repeat (first | (with_reducible first | exact HI0.out | apply IsS61.alloc | apply IsS61.drewN | apply IsS61.drew | apply IsS61.set_0 | apply IsS61.set_1) | exact HI0.out), by repeat (first | (with_reducible first | exact HB.out | apply below_alloc | apply pw_below_drewN | apply below_drew1 | refine below_set ?_ (IsS61.ge HI0.out)) | exact HB.out), by repeat (first | (with_reducible first | exact HK.out | apply KeepBut.set_ | apply keep_drewN | apply keep_drew | apply keep_alloc) | exact HK.out)⟩
              · rw [if_neg c10] at H
                have c10b0 : ((bt x1000_1 x1001_1) == 92) = false := beq_eq_false_iff_ne.mpr c10
                have c10b1 : ((bt x1000_1 x1001_1) != 92) = true := bne_iff_ne.mpr c10
                have H' := Aside0.mk H
                clear H
                obtain ⟨HGz17, hgz17⟩ := HI0.out
                have hcz17_0 := cellS61_0 HGz17
                have hcz17_1 := cellS61_1 HGz17
                have hfz17_0 := blk_frozen HGz17 0
                have hfz17_1 := blk_frozen HGz17 1
                clear HGz17 hgz17
                have p5 : 0 ≤ (x1001_1 : Int) := of_decide_eq_true (by first | (with_reducible assumption) | assumption)
                have q5 : x1001_1 < (x1000_1.size : Int) := of_decide_eq_true (by first | (with_reducible assumption) | assumption)
                have hx5 := bt_at x1000_1 x1001_1
                replace p5 := eq_true p5
                replace q5 := eq_true q5
                go_wp2
                repeat (go_quiet (fail); try go_wp2)
                go_roundg k1
                case measure => have := HK1.out; omega
                case rel => exact ⟨(x1000_1), (wrap64 (x1001_1 + 1)), H', ⟨by have := HK1.out; omega⟩, ⟨by repeat (first | (with_reducible first | exact HI0.out | apply IsS61.alloc | apply IsS61.drewN | apply IsS61.drew | apply IsS61.set_0 | apply IsS61.set_1) | exact HI0.out)⟩, ⟨by repeat (first | (with_reducible first | exact HK.out | apply KeepBut.set_ | apply keep_drewN | apply keep_drew | apply keep_alloc) | exact HK.out)⟩, ⟨by repeat (first | (with_reducible first | exact HB.out | apply below_alloc | apply pw_below_drewN | apply below_drew1 | refine below_set ?_ (IsS61.ge HI0.out)) | exact HB.out)⟩⟩
        · rw [if_neg c4] at H
          exact absurd H (by simp)
      · rw [if_neg c3] at H
        have c3b0 : decide (x1001_1 < (x1000_1.size : Int)) = false := decide_eq_false c3
        clear c3
        simp only [Option.some.injEq, Prod.mk.injEq] at H
        obtain ⟨rfl, rfl, rfl⟩ := H
        obtain ⟨HGz18, hgz18⟩ := HI0.out
        have hcz18_0 := cellS61_0 HGz18
        have hcz18_1 := cellS61_1 HGz18
        have hfz18_0 := blk_frozen HGz18 0
        have hfz18_1 := blk_frozen HGz18 1
        clear HGz18 hgz18
        go_wp2
        repeat (go_quiet (fail); try go_wp2)
        go_ret
        exact ⟨by first | rfl | (simp [errW_none, errW_some] <;> rfl) | (simp [*, errW_none, errW_some] <;> rfl), by repeat (first | (with_reducible first | exact HI0.out | apply IsS61.alloc | apply IsS61.drewN | apply IsS61.drew | apply IsS61.set_0 | apply IsS61.set_1) | exact HI0.out), by repeat (first | (with_reducible first | exact HB.out | apply below_alloc | apply pw_below_drewN | apply below_drew1 | refine below_set ?_ (IsS61.ge HI0.out)) | exact HB.out), by repeat (first | (with_reducible first | exact HK.out | apply KeepBut.set_ | apply keep_drewN | apply keep_drew | apply keep_alloc) | exact HK.out)⟩

/-! ### spec_StringAt: function 27 -/
def spec_StringAt.f (k : Nat) (a0 : ByteArray) (a1 : Int) : Option (Int × Bool) := (spec_reader_quoted.f k a0 (wrap64 (a1 - 1))).bind fun bt118 => (some (bt118.2.2, bt118.1))
theorem spec_StringAt.mono : ∀ a0 a1 k, LeO (spec_StringAt.f k a0 a1) (spec_StringAt.f (k + 1) a0 a1) := by
  intro a0 a1 k
  unfold spec_StringAt.f
  repeat' first
      | (with_reducible exact spec_reader_quoted.mono _ _ _)
      | (with_reducible exact LeO.refl _)
      | (with_reducible exact LeO.none _)
      | (with_reducible refine LeO.ite ?_ ?_)
      | (with_reducible refine LeO.bind ?_ (fun _ => ?_))
      | exact spec_reader_quoted.mono _ _ _
      | exact LeO.none _
      | refine LeO.ite ?_ ?_
      | refine LeO.bind ?_ (fun _ => ?_)
set_option maxHeartbeats 8000000 in
set_option maxRecDepth 100000 in
theorem spec_StringAt.calls (k : Nat) (a0 : ByteArray) (a1 : Int) (r1 : Int) (r2 : Bool) (w : World) (h : spec_StringAt.f k a0 a1 = some (r1, r2)) :
    Calls Tryd.prog 27 #[.string a0, .int .i64 a1] w fun e w' => e = .returned (.tuple #[.int .i64 r1, .bool r2]) ∧ Below w.heap.size w w' := by
  have hu61 := Tryd.underlying61
  have HB := Aside0.mk (Below.refl w.heap.size w)
  have H : ((spec_reader_quoted.f k a0 (wrap64 (a1 - 1))).bind fun bt118 => (some (bt118.2.2, bt118.1))) = some (r1, r2) := h
  clear h
  replace H := Option.bind_eq_some_iff.mp H
  obtain ⟨⟨t118, t119, t120⟩, A30, H⟩ := H
  replace H : (some (t120, t118)) = some (r1, r2) := H
  have A3 := Aside0.mk A30
  clear A30
  simp only [Option.some.injEq, Prod.mk.injEq] at H
  obtain ⟨rfl, rfl⟩ := H
  go_enter Tryd.func27, Tryd.ntmps27
  go_wp2_with (first | ((with_reducible refine gate_dst (N := 6) rfl ?_); refine box_event ?hg (N := 6) ?hd (cs := #[.string (⟨#[]⟩ : ByteArray), .int .i64 0]) (t := 61) ?hr ?_; (case hd => rfl); (case hg => rfl); (case hr => first | (go_simp; done) | (go_simp; rfl)); intro gb117 hg w4 hbox hb; have n0_ := Aside0.mk (below_step (by repeat (first | (with_reducible first | exact HB.out | apply below_alloc | apply pw_below_drewN | apply below_drew1) | exact HB.out)) hb); have n1_ := Aside0.mk ((by rw [hg]; exact (below_size (by repeat (first | (with_reducible first | exact HB.out | apply below_alloc | apply pw_below_drewN | apply below_drew1) | exact HB.out))) : w.heap.size ≤ gb117)); have n2_ := Aside0.mk ((by rw [hg]; exact (below_size (by repeat (first | (with_reducible first | exact HB.out | apply below_alloc | apply pw_below_drewN | apply below_drew1) | exact HB.out))) : w.heap.size ≤ gb117)); have n3_ := Aside0.mk ((show IsS61 w w4 gb117 (⟨#[]⟩ : ByteArray) 0 from ⟨hbox, (by rw [hg]; exact (below_size (by repeat (first | (with_reducible first | exact HB.out | apply below_alloc | apply pw_below_drewN | apply below_drew1) | exact HB.out))) : w.heap.size ≤ gb117)⟩)); clear HB; have HB := n0_; have GW117 := n1_; have GE117 := n2_; have HI117 := n3_; clear n0_ n1_ n2_ n3_; clear hb hbox hg; obtain ⟨HGz5, hgz5⟩ := HI117.out; have hcz5_0 := cellS61_0 HGz5; have hcz5_1 := cellS61_1 HGz5; have hfz5_0 := blk_frozen HGz5 0; have hfz5_1 := blk_frozen HGz5 1; clear HGz5 hgz5) | ((with_reducible refine gate_callee (f := 45) rfl ?_); refine goesL_ (some 12) rfl rfl Tryd.func45 (by kernel_rfl) rfl #[.pointer (some ⟨gb117, 0, none⟩)] rfl (by (try simp only [List.map_toArray, List.map_cons, List.map_nil]); first | done | rfl | (simp only [List.length_drop, List.length_take]; rfl)) ?_; (with_reducible refine (spec_reader_quoted.calls k gb117 a0 (wrap64 (a1 - 1)) t118 t119 t120 w _ ?side1 ?side2 A3.out).mono ?_); (case side1 => repeat (first | (with_reducible first | exact HI117.out | apply IsS61.alloc | apply IsS61.drewN | apply IsS61.drew | apply IsS61.set_0 | apply IsS61.set_1) | exact HI117.out)); (case side2 => repeat (first | (with_reducible first | exact HB.out | apply below_alloc | apply pw_below_drewN | apply below_drew1 | refine below_set ?_ (IsS61.ge HI117.out)) | exact HB.out)); rintro e w6 ⟨rfl, hi, hb, hk⟩; refine ⟨_, rfl, ?_⟩; have n0_ := Aside0.mk (hb); have n1_ := Aside0.mk (hi); clear HB; clear HI117; have HB := n0_; have HI117 := n1_; clear n0_ n1_; (try clear hb); (try clear hb2); (try clear hk); (try clear hi); obtain ⟨HGz7, hgz7⟩ := HI117.out; have hcz7_0 := cellS61_0 HGz7; have hcz7_1 := cellS61_1 HGz7; have hfz7_0 := blk_frozen HGz7 0; have hfz7_1 := blk_frozen HGz7 1; clear HGz7 hgz7))
  go_ret2
  exact ⟨by first | rfl | (simp [errW_none, errW_some] <;> rfl) | (simp [*, errW_none, errW_some] <;> rfl), by repeat (first | (with_reducible first | exact HB.out | apply below_alloc | apply pw_below_drewN | apply below_drew1 | refine below_set ?_ (IsS61.ge HI117.out)) | exact HB.out)⟩

/-! ### spec_unit: function 46 -/
mutual
def spec_unit.j0 : Nat → ByteArray → Int → Bool → Option (Int × Bool)
  | 0, _, _, _ => none
  | k + 1, x0, x1, x27 => if x27 = true then (some (0, false)) else (spec_unit.l0 k x0 x1 0 (wrap64 (x1 + 2)))
def spec_unit.l0 : Nat → ByteArray → Int → Int → Int → Option (Int × Bool)
  | 0, _, _, _, _ => none
  | k + 1, x0, x1, x6, x7 => if x7 < (wrap64 (x1 + 6)) then (if 0 ≤ x7 then (if x7 < (x0.size : Int) then ((spec_hexDigit.f k (bt x0 x7)).bind fun bt121 => (if bt121.2 = true then (spec_unit.l0 k x0 x1 (wrap64 ((wrap64 (x6 * 16)) + bt121.1)) (wrap64 (x7 + 1))) else (some (0, false)))) else (none)) else (none)) else (some (x6, true))
end
def spec_unit.f (k : Nat) (a0 : ByteArray) (a1 : Int) : Option (Int × Bool) := if (wrap64 ((a0.size : Int) - a1)) < 6 then (spec_unit.j0 k a0 a1 true) else (if 0 ≤ a1 then (if a1 < (a0.size : Int) then (if (bt a0 a1) = 92 then (if 0 ≤ (wrap64 (a1 + 1)) then (if (wrap64 (a1 + 1)) < (a0.size : Int) then (spec_unit.j0 k a0 a1 ((bt a0 (wrap64 (a1 + 1))) != 117)) else (none)) else (none)) else (spec_unit.j0 k a0 a1 true)) else (none)) else (none))
theorem spec_unit.mono_l : ∀ k, (∀ y0 y1 y2, LeO (spec_unit.j0 k y0 y1 y2) (spec_unit.j0 (k + 1) y0 y1 y2)) ∧ (∀ y0 y1 y2 y3, LeO (spec_unit.l0 k y0 y1 y2 y3) (spec_unit.l0 (k + 1) y0 y1 y2 y3))
  | 0 => ⟨fun _ _ _ r h => by simp [spec_unit.j0] at h, fun _ _ _ _ r h => by simp [spec_unit.l0] at h⟩
  | k + 1 => by
    obtain ⟨ih0, ih1⟩ := spec_unit.mono_l k
    refine ⟨?_, ?_⟩
    · intro y0 y1 y2
      unfold spec_unit.j0
      repeat' first
      | (with_reducible exact ih0 _ _ _)
      | (with_reducible exact ih1 _ _ _ _)
      | (with_reducible exact spec_hexDigit.mono _ _)
      | (with_reducible exact LeO.refl _)
      | (with_reducible exact LeO.none _)
      | (with_reducible refine LeO.ite ?_ ?_)
      | (with_reducible refine LeO.bind ?_ (fun _ => ?_))
      | exact ih0 _ _ _
      | exact ih1 _ _ _ _
      | exact spec_hexDigit.mono _ _
      | exact LeO.none _
      | refine LeO.ite ?_ ?_
      | refine LeO.bind ?_ (fun _ => ?_)
    · intro y0 y1 y2 y3
      unfold spec_unit.l0
      repeat' first
      | (with_reducible exact ih0 _ _ _)
      | (with_reducible exact ih1 _ _ _ _)
      | (with_reducible exact spec_hexDigit.mono _ _)
      | (with_reducible exact LeO.refl _)
      | (with_reducible exact LeO.none _)
      | (with_reducible refine LeO.ite ?_ ?_)
      | (with_reducible refine LeO.bind ?_ (fun _ => ?_))
      | exact ih0 _ _ _
      | exact ih1 _ _ _ _
      | exact spec_hexDigit.mono _ _
      | exact LeO.none _
      | refine LeO.ite ?_ ?_
      | refine LeO.bind ?_ (fun _ => ?_)
theorem spec_unit.mono : ∀ a0 a1 k, LeO (spec_unit.f k a0 a1) (spec_unit.f (k + 1) a0 a1) := by
  intro a0 a1 k
  obtain ⟨ih0, ih1⟩ := spec_unit.mono_l k
  unfold spec_unit.f
  repeat' first
      | (with_reducible exact ih0 _ _ _)
      | (with_reducible exact ih1 _ _ _ _)
      | (with_reducible exact spec_hexDigit.mono _ _)
      | (with_reducible exact LeO.refl _)
      | (with_reducible exact LeO.none _)
      | (with_reducible refine LeO.ite ?_ ?_)
      | (with_reducible refine LeO.bind ?_ (fun _ => ?_))
      | exact ih0 _ _ _
      | exact ih1 _ _ _ _
      | exact spec_hexDigit.mono _ _
      | exact LeO.none _
      | refine LeO.ite ?_ ?_
      | refine LeO.bind ?_ (fun _ => ?_)
set_option maxHeartbeats 8000000 in
set_option maxRecDepth 100000 in
theorem spec_unit.calls (k : Nat) (a0 : ByteArray) (a1 : Int) (r1 : Int) (r2 : Bool) (w : World) (h : spec_unit.f k a0 a1 = some (r1, r2)) :
    Calls Tryd.prog 46 #[.string a0, .int .i64 a1] w fun e w' => e = .returned (.tuple #[.int .i64 r1, .bool r2]) ∧ Drawn0 w w' := by
  have H : (if (wrap64 ((a0.size : Int) - a1)) < 6 then (spec_unit.j0 k a0 a1 true) else (if 0 ≤ a1 then (if a1 < (a0.size : Int) then (if (bt a0 a1) = 92 then (if 0 ≤ (wrap64 (a1 + 1)) then (if (wrap64 (a1 + 1)) < (a0.size : Int) then (spec_unit.j0 k a0 a1 ((bt a0 (wrap64 (a1 + 1))) != 117)) else (none)) else (none)) else (spec_unit.j0 k a0 a1 true)) else (none)) else (none))) = some (r1, r2) := h
  clear h
  have HC3 := Aside0.mk H
  clear H
  go_enter Tryd.func46, Tryd.ntmps46
  go_upto_region 1 with (fail)
  go_cut [27] (fun v27 wc => ∃ (kq : Nat) (x27_2 : Bool), v27 = .bool x27_2 ∧ Aside0 (spec_unit.j0 kq a0 a1 x27_2 = some (r1, r2)) ∧ Aside0 (kq ≤ k) ∧ Drawn0 w wc)
  case first =>
    have H := HC3.out
    clear HC3
    by_cases c4 : (wrap64 ((a0.size : Int) - a1)) < 6
    · rw [if_pos c4] at H
      have c4b0 : decide ((wrap64 ((a0.size : Int) - a1)) < 6) = true := decide_eq_true c4
      clear c4
      (first | rw [c4b0] | (simp only [i64_w, i32_w]; rw [c4b0]) | skip)
      have H' := Aside0.mk H
      clear H
      go_wp2
      go_meet
      case rel => exact ⟨_, (true), (by first | rfl | (simp; done) | (simp [*]; done)), H', ⟨by first | omega | exact Nat.le_refl _⟩, by repeat (first | exact Drawn0.refl _ | apply Drawn0.step)⟩
    · rw [if_neg c4] at H
      have c4b0 : decide ((wrap64 ((a0.size : Int) - a1)) < 6) = false := decide_eq_false c4
      clear c4
      (first | rw [c4b0] | (simp only [i64_w, i32_w]; rw [c4b0]) | skip)
      by_cases c5 : 0 ≤ a1
      · rw [if_pos c5] at H
        have c5b0 : decide (0 ≤ a1) = true := decide_eq_true c5
        clear c5
        by_cases c6 : a1 < (a0.size : Int)
        · rw [if_pos c6] at H
          have c6b0 : decide (a1 < (a0.size : Int)) = true := decide_eq_true c6
          clear c6
          by_cases c8 : (bt a0 a1) = 92
          · rw [if_pos c8] at H
            have c8b0 : ((bt a0 a1) == 92) = true := beq_iff_eq.mpr c8
            have c8b1 : ((bt a0 a1) != 92) = false := bne_eq_false_iff_eq.mpr c8
            clear c8
            obtain ⟨ji9, hji9⟩ : ∃ j_ : Int, (wrap64 (a1 + 1)) = j_ := ⟨_, rfl⟩
            replace H : (if 0 ≤ (ji9) then (if (ji9) < (a0.size : Int) then (spec_unit.j0 k a0 a1 ((bt a0 (ji9)) != 117)) else (none)) else (none)) = some (r1, r2) := by first | (rw [hji9] at H; exact H) | (simp only [hji9] at H ⊢; exact H)
            have hji9w : (IntKind.i64.wrap (a1 + 1)) = ji9 := (i64_w _).trans hji9
            by_cases c10 : 0 ≤ (ji9)
            · rw [if_pos c10] at H
              have c10b0 : decide (0 ≤ (ji9)) = true := decide_eq_true c10
              clear c10
              by_cases c11 : (ji9) < (a0.size : Int)
              · rw [if_pos c11] at H
                have c11b0 : decide ((ji9) < (a0.size : Int)) = true := decide_eq_true c11
                clear c11
                have H' := Aside0.mk H
                clear H
                have p7 : 0 ≤ (a1 : Int) := of_decide_eq_true (by first | (with_reducible assumption) | assumption)
                have q7 : a1 < (a0.size : Int) := of_decide_eq_true (by first | (with_reducible assumption) | assumption)
                have hx7 := bt_at a0 a1
                replace p7 := eq_true p7
                replace q7 := eq_true q7
                have p12 : 0 ≤ ((ji9) : Int) := of_decide_eq_true (by first | (with_reducible assumption) | assumption)
                have q12 : (ji9) < (a0.size : Int) := of_decide_eq_true (by first | (with_reducible assumption) | assumption)
                have hx12 := bt_at a0 (ji9)
                replace p12 := eq_true p12
                replace q12 := eq_true q12
                go_wp2
                go_meet
                case rel => exact ⟨_, (((bt a0 (ji9)) != 117)), (by first | rfl | (simp; done) | (simp only [← hji9] <;> (first | rfl | simp)) | (simp [*]; done)), H', ⟨by first | omega | exact Nat.le_refl _⟩, by repeat (first | exact Drawn0.refl _ | apply Drawn0.step)⟩
              · rw [if_neg c11] at H
                exact absurd H (by simp)
            · rw [if_neg c10] at H
              exact absurd H (by simp)
          · rw [if_neg c8] at H
            have c8b0 : ((bt a0 a1) == 92) = false := beq_eq_false_iff_ne.mpr c8
            have c8b1 : ((bt a0 a1) != 92) = true := bne_iff_ne.mpr c8
            have H' := Aside0.mk H
            clear H
            have p7 : 0 ≤ (a1 : Int) := of_decide_eq_true (by first | (with_reducible assumption) | assumption)
            have q7 : a1 < (a0.size : Int) := of_decide_eq_true (by first | (with_reducible assumption) | assumption)
            have hx7 := bt_at a0 a1
            replace p7 := eq_true p7
            replace q7 := eq_true q7
            go_wp2
            go_meet
            case rel => exact ⟨_, (true), (by first | rfl | (simp; done) | (simp [*]; done)), H', ⟨by first | omega | exact Nat.le_refl _⟩, by repeat (first | exact Drawn0.refl _ | apply Drawn0.step)⟩
        · rw [if_neg c6] at H
          exact absurd H (by simp)
      · rw [if_neg c5] at H
        exact absurd H (by simp)
  case rest =>
    clear HC3
    try clear c1
    try clear p1
    try clear q1
    try clear hx1
    try clear p2
    try clear c4
    try clear c4b0
    try clear c5
    try clear c5b0
    try clear c6
    try clear c6b0
    try clear p6
    try clear p7
    try clear q7
    try clear hx7
    try clear c8
    try clear c8b0
    try clear c8b1
    try clear c10
    try clear c10b0
    try clear c11
    try clear c11b0
    try clear p12
    try clear q12
    try clear hx12
    try clear p12
    try clear p7
    try clear q12
    try clear q7
    obtain ⟨kq, x27_2, rfl, HA, HJ2, ⟨mc2, rfl⟩⟩ := hcut
    cases kq with
    | zero => exact absurd HA.out (by simp [spec_unit.j0])
    | succ kj2 =>
      have H := HA.out
      clear HA
      simp only [spec_unit.j0] at H
      by_cases c13 : x27_2 = true
      · subst c13
        have H1 : (some (0, false)) = some (r1, r2) := by rw [if_pos rfl] at H; exact H
        clear H
        have H := H1
        clear H1
        simp only [Option.some.injEq, Prod.mk.injEq] at H
        obtain ⟨rfl, rfl⟩ := H
        go_wp2
        go_ret2
        exact ⟨by first | rfl | (simp; done) | (simp [*]; done), by repeat (first | exact Drawn0.refl _ | apply Drawn0.step)⟩
      · replace c13 := Bool.eq_false_iff.mpr c13
        subst c13
        have H1 : (spec_unit.l0 kj2 a0 a1 0 (wrap64 (a1 + 2))) = some (r1, r2) := by rw [if_neg (show ¬ (false = true) by decide)] at H; exact H
        clear H
        have H := H1
        clear H1
        have H' := Aside0.mk H
        clear H
        go_wp2
        try simp only [Act.put, List.setIfInBounds_toArray, List.set_cons_succ, List.set_cons_zero]
        go_loopg [6, 7] kj2 (fun kq v6 v7 w' => ∃ (x6_2 : Int) (x7_2 : Int), v6 = .int .i64 x6_2 ∧ v7 = .int .i64 x7_2 ∧ Aside0 (spec_unit.l0 kq a0 a1 x6_2 x7_2 = some (r1, r2)) ∧ Aside0 (kq ≤ kj2) ∧ Drawn0 w w')
        case atStart => exact ⟨(0), (wrap64 (a1 + 2)), (by first | rfl | (simp; done) | (simp [*]; done)), (by first | rfl | (simp; done) | (simp [*]; done)), H', ⟨Nat.le_refl _⟩, by repeat (first | exact Drawn0.refl _ | apply Drawn0.step)⟩
        case round =>
          clear H'
          try clear c1
          try clear p1
          try clear q1
          try clear hx1
          try clear c2
          try clear p2
          try clear c4
          try clear c4b0
          try clear c5
          try clear c5b0
          try clear c6
          try clear c6b0
          try clear p6
          try clear p7
          try clear q7
          try clear hx7
          try clear c8
          try clear c8b0
          try clear c8b1
          try clear c10
          try clear c10b0
          try clear c11
          try clear c11b0
          try clear p12
          try clear q12
          try clear hx12
          try clear c13
          try clear p1
          try clear p12
          try clear p2
          try clear p6
          try clear p7
          try clear q1
          try clear q12
          try clear q7
          obtain ⟨x6_2, x7_2, rfl, rfl, HA, HK2, ⟨m2, rfl⟩⟩ := hrel
          cases gk with
          | zero => exact absurd HA.out (by simp [spec_unit.l0])
          | succ k2 =>
            have H := HA.out
            clear HA
            simp only [spec_unit.l0] at H
            by_cases c14 : x7_2 < (wrap64 (a1 + 6))
            · rw [if_pos c14] at H
              have c14b0 : decide (x7_2 < (wrap64 (a1 + 6))) = true := decide_eq_true c14
              clear c14
              by_cases c15 : 0 ≤ x7_2
              · rw [if_pos c15] at H
                have c15b0 : decide (0 ≤ x7_2) = true := decide_eq_true c15
                clear c15
                by_cases c16 : x7_2 < (a0.size : Int)
                · rw [if_pos c16] at H
                  have c16b0 : decide (x7_2 < (a0.size : Int)) = true := decide_eq_true c16
                  clear c16
                  replace H := Option.bind_eq_some_iff.mp H
                  obtain ⟨⟨t121, t122⟩, A180, H⟩ := H
                  replace H : (if t122 = true then (spec_unit.l0 k2 a0 a1 (wrap64 ((wrap64 (x6_2 * 16)) + t121)) (wrap64 (x7_2 + 1))) else (some (0, false))) = some (r1, r2) := H
                  have A18 := Aside0.mk A180
                  clear A180
                  by_cases c19 : t122 = true
                  · subst c19
                    have H1 : (spec_unit.l0 k2 a0 a1 (wrap64 ((wrap64 (x6_2 * 16)) + t121)) (wrap64 (x7_2 + 1))) = some (r1, r2) := by rw [if_pos rfl] at H; exact H
                    clear H
                    have H := H1
                    clear H1
                    have H' := Aside0.mk H
                    clear H
                    have p17 : 0 ≤ (x7_2 : Int) := of_decide_eq_true (by first | (with_reducible assumption) | assumption)
                    have q17 : x7_2 < (a0.size : Int) := of_decide_eq_true (by first | (with_reducible assumption) | assumption)
                    have hx17 := bt_at a0 x7_2
                    replace p17 := eq_true p17
                    replace q17 := eq_true q17
                    go_wp2_with (first | ((with_reducible refine gate_callee (f := 67) rfl ?_); refine goesL_ (some 40) rfl rfl Tryd.func67 (by kernel_rfl) rfl #[.int .u8 (bt a0 x7_2)] rfl (by (try simp only [List.map_toArray, List.map_cons, List.map_nil]); first | done | rfl | (simp only [List.length_drop, List.length_take]; rfl)) ?_; (with_reducible refine (spec_hexDigit.calls k2 (bt a0 x7_2) t121 true _ A18.out).mono ?_); rintro e w' ⟨rfl, ⟨nd, rfl⟩⟩; refine ⟨_, rfl, ?_⟩))
                    go_roundg k2
                    case measure => have := HJ2.out; have := HK2.out; omega
                    case rel => exact ⟨(wrap64 ((wrap64 (x6_2 * 16)) + t121)), (wrap64 (x7_2 + 1)), (by first | rfl | (simp; done) | (simp [*]; done)), (by first | rfl | (simp; done) | (simp [*]; done)), H', ⟨by have := HJ2.out; have := HK2.out; omega⟩, by repeat (first | exact Drawn0.refl _ | apply Drawn0.step)⟩
                  · replace c19 := Bool.eq_false_iff.mpr c19
                    subst c19
                    have H1 : (some (0, false)) = some (r1, r2) := by rw [if_neg (show ¬ (false = true) by decide)] at H; exact H
                    clear H
                    have H := H1
                    clear H1
                    simp only [Option.some.injEq, Prod.mk.injEq] at H
                    obtain ⟨rfl, rfl⟩ := H
                    have p17 : 0 ≤ (x7_2 : Int) := of_decide_eq_true (by first | (with_reducible assumption) | assumption)
                    have q17 : x7_2 < (a0.size : Int) := of_decide_eq_true (by first | (with_reducible assumption) | assumption)
                    have hx17 := bt_at a0 x7_2
                    replace p17 := eq_true p17
                    replace q17 := eq_true q17
                    go_wp2_with (first | ((with_reducible refine gate_callee (f := 67) rfl ?_); refine goesL_ (some 40) rfl rfl Tryd.func67 (by kernel_rfl) rfl #[.int .u8 (bt a0 x7_2)] rfl (by (try simp only [List.map_toArray, List.map_cons, List.map_nil]); first | done | rfl | (simp only [List.length_drop, List.length_take]; rfl)) ?_; (with_reducible refine (spec_hexDigit.calls k2 (bt a0 x7_2) t121 false _ A18.out).mono ?_); rintro e w' ⟨rfl, ⟨nd, rfl⟩⟩; refine ⟨_, rfl, ?_⟩))
                    go_ret2
                    exact ⟨by first | rfl | (simp; done) | (simp [*]; done), by repeat (first | exact Drawn0.refl _ | apply Drawn0.step)⟩
                · rw [if_neg c16] at H
                  exact absurd H (by simp)
              · rw [if_neg c15] at H
                exact absurd H (by simp)
            · rw [if_neg c14] at H
              have c14b0 : decide (x7_2 < (wrap64 (a1 + 6))) = false := decide_eq_false c14
              clear c14
              simp only [Option.some.injEq, Prod.mk.injEq] at H
              obtain ⟨rfl, rfl⟩ := H
              go_wp2
              go_ret2
              exact ⟨by first | rfl | (simp; done) | (simp [*]; done), by repeat (first | exact Drawn0.refl _ | apply Drawn0.step)⟩

/-! ### spec_Paired: function 28 -/
def spec_Paired.l0 : Nat → ByteArray → Int → Option (Bool)
  | 0, _, _ => none
  | k + 1, x0, x3 => if x3 < (x0.size : Int) then (if 0 ≤ x3 then (if (bt x0 x3) = 92 then ((spec_unit.f k x0 x3).bind fun bt123 => (if bt123.2 = true then ((spec_high.f bt123.1).bind fun t125 => (if t125 = true then ((spec_unit.f k x0 (wrap64 (x3 + 6))).bind fun bt126 => (if bt126.2 = true then ((spec_low.f bt126.1).bind fun t128 => (if t128 = true then (spec_Paired.l0 k x0 (wrap64 (x3 + 12))) else (some false))) else (some false))) else ((spec_low.f bt123.1).bind fun t129 => (if t129 = true then (some false) else (spec_Paired.l0 k x0 (wrap64 (x3 + 6))))))) else (spec_Paired.l0 k x0 (wrap64 (x3 + 2))))) else (spec_Paired.l0 k x0 (wrap64 (x3 + 1)))) else (none)) else (some true)
def spec_Paired.f (k : Nat) (a0 : ByteArray) : Option (Bool) := spec_Paired.l0 k a0 0
theorem spec_Paired.mono_l : ∀ k, (∀ y0 y1, LeO (spec_Paired.l0 k y0 y1) (spec_Paired.l0 (k + 1) y0 y1))
  | 0 => fun _ _ r h => by simp [spec_Paired.l0] at h
  | k + 1 => by
    have ih0 := spec_Paired.mono_l k
    · intro y0 y1
      unfold spec_Paired.l0
      repeat' first
      | (with_reducible exact ih0 _ _)
      | (with_reducible exact spec_unit.mono _ _ _)
      | (with_reducible exact LeO.refl _)
      | (with_reducible exact LeO.none _)
      | (with_reducible refine LeO.ite ?_ ?_)
      | (with_reducible refine LeO.bind ?_ (fun _ => ?_))
      | exact ih0 _ _
      | exact spec_unit.mono _ _ _
      | exact LeO.none _
      | refine LeO.ite ?_ ?_
      | refine LeO.bind ?_ (fun _ => ?_)
theorem spec_Paired.mono : ∀ a0 k, LeO (spec_Paired.f k a0) (spec_Paired.f (k + 1) a0) := by
  intro a0 k
  have ih0 := spec_Paired.mono_l k
  unfold spec_Paired.f
  repeat' first
      | (with_reducible exact ih0 _ _)
      | (with_reducible exact spec_unit.mono _ _ _)
      | (with_reducible exact LeO.refl _)
      | (with_reducible exact LeO.none _)
      | (with_reducible refine LeO.ite ?_ ?_)
      | (with_reducible refine LeO.bind ?_ (fun _ => ?_))
      | exact ih0 _ _
      | exact spec_unit.mono _ _ _
      | exact LeO.none _
      | refine LeO.ite ?_ ?_
      | refine LeO.bind ?_ (fun _ => ?_)
set_option maxHeartbeats 8000000 in
set_option maxRecDepth 100000 in
theorem spec_Paired.calls (k : Nat) (a0 : ByteArray) (r : Bool) (w : World) (h : spec_Paired.f k a0 = some r) :
    Calls Tryd.prog 28 #[.string a0] w fun e w' => e = .returned (.bool r) ∧ Drawn0 w w' := by
  have H : (spec_Paired.l0 k a0 0) = some r := h
  clear h
  have H' := Aside0.mk H
  clear H
  go_enter Tryd.func28, Tryd.ntmps28
  go_wp2
  try simp only [Act.put, List.setIfInBounds_toArray, List.set_cons_succ, List.set_cons_zero]
  go_loopg [3] k (fun kq v3 w' => ∃ (x3_1 : Int), v3 = .int .i64 x3_1 ∧ Aside0 (spec_Paired.l0 kq a0 x3_1 = some r) ∧ Aside0 (kq ≤ k) ∧ Drawn0 w w')
  case atStart => exact ⟨(0), (by first | rfl | (simp; done) | (simp [*]; done)), H', ⟨Nat.le_refl _⟩, by repeat (first | exact Drawn0.refl _ | apply Drawn0.step)⟩
  case round =>
    clear H'
    obtain ⟨x3_1, rfl, HA, HK1, ⟨m1, rfl⟩⟩ := hrel
    cases gk with
    | zero => exact absurd HA.out (by simp [spec_Paired.l0])
    | succ k1 =>
      have H := HA.out
      clear HA
      simp only [spec_Paired.l0] at H
      by_cases c2 : x3_1 < (a0.size : Int)
      · rw [if_pos c2] at H
        have c2b0 : decide (x3_1 < (a0.size : Int)) = true := decide_eq_true c2
        clear c2
        by_cases c3 : 0 ≤ x3_1
        · rw [if_pos c3] at H
          have c3b0 : decide (0 ≤ x3_1) = true := decide_eq_true c3
          clear c3
          by_cases c5 : (bt a0 x3_1) = 92
          · rw [if_pos c5] at H
            have c5b0 : ((bt a0 x3_1) == 92) = true := beq_iff_eq.mpr c5
            have c5b1 : ((bt a0 x3_1) != 92) = false := bne_eq_false_iff_eq.mpr c5
            clear c5
            replace H := Option.bind_eq_some_iff.mp H
            obtain ⟨⟨t123, t124⟩, A60, H⟩ := H
            replace H : (if t124 = true then ((spec_high.f t123).bind fun t125 => (if t125 = true then ((spec_unit.f k1 a0 (wrap64 (x3_1 + 6))).bind fun bt126 => (if bt126.2 = true then ((spec_low.f bt126.1).bind fun t128 => (if t128 = true then (spec_Paired.l0 k1 a0 (wrap64 (x3_1 + 12))) else (some false))) else (some false))) else ((spec_low.f t123).bind fun t129 => (if t129 = true then (some false) else (spec_Paired.l0 k1 a0 (wrap64 (x3_1 + 6))))))) else (spec_Paired.l0 k1 a0 (wrap64 (x3_1 + 2)))) = some r := H
            have A6 := Aside0.mk A60
            clear A60
            by_cases c7 : t124 = true
            · subst c7
              have H1 : ((spec_high.f t123).bind fun t125 => (if t125 = true then ((spec_unit.f k1 a0 (wrap64 (x3_1 + 6))).bind fun bt126 => (if bt126.2 = true then ((spec_low.f bt126.1).bind fun t128 => (if t128 = true then (spec_Paired.l0 k1 a0 (wrap64 (x3_1 + 12))) else (some false))) else (some false))) else ((spec_low.f t123).bind fun t129 => (if t129 = true then (some false) else (spec_Paired.l0 k1 a0 (wrap64 (x3_1 + 6))))))) = some r := by rw [if_pos rfl] at H; exact H
              clear H
              have H := H1
              clear H1
              replace H := Option.bind_eq_some_iff.mp H
              obtain ⟨t125, A80, H⟩ := H
              replace H : (if t125 = true then ((spec_unit.f k1 a0 (wrap64 (x3_1 + 6))).bind fun bt126 => (if bt126.2 = true then ((spec_low.f bt126.1).bind fun t128 => (if t128 = true then (spec_Paired.l0 k1 a0 (wrap64 (x3_1 + 12))) else (some false))) else (some false))) else ((spec_low.f t123).bind fun t129 => (if t129 = true then (some false) else (spec_Paired.l0 k1 a0 (wrap64 (x3_1 + 6)))))) = some r := H
              have A8 := Aside0.mk A80
              clear A80
              by_cases c9 : t125 = true
              · subst c9
                have H1 : ((spec_unit.f k1 a0 (wrap64 (x3_1 + 6))).bind fun bt126 => (if bt126.2 = true then ((spec_low.f bt126.1).bind fun t128 => (if t128 = true then (spec_Paired.l0 k1 a0 (wrap64 (x3_1 + 12))) else (some false))) else (some false))) = some r := by rw [if_pos rfl] at H; exact H
                clear H
                have H := H1
                clear H1
                replace H := Option.bind_eq_some_iff.mp H
                obtain ⟨⟨t126, t127⟩, A100, H⟩ := H
                replace H : (if t127 = true then ((spec_low.f t126).bind fun t128 => (if t128 = true then (spec_Paired.l0 k1 a0 (wrap64 (x3_1 + 12))) else (some false))) else (some false)) = some r := H
                have A10 := Aside0.mk A100
                clear A100
                by_cases c11 : t127 = true
                · subst c11
                  have H1 : ((spec_low.f t126).bind fun t128 => (if t128 = true then (spec_Paired.l0 k1 a0 (wrap64 (x3_1 + 12))) else (some false))) = some r := by rw [if_pos rfl] at H; exact H
                  clear H
                  have H := H1
                  clear H1
                  replace H := Option.bind_eq_some_iff.mp H
                  obtain ⟨t128, A120, H⟩ := H
                  replace H : (if t128 = true then (spec_Paired.l0 k1 a0 (wrap64 (x3_1 + 12))) else (some false)) = some r := H
                  have A12 := Aside0.mk A120
                  clear A120
                  by_cases c13 : t128 = true
                  · subst c13
                    have H1 : (spec_Paired.l0 k1 a0 (wrap64 (x3_1 + 12))) = some r := by rw [if_pos rfl] at H; exact H
                    clear H
                    have H := H1
                    clear H1
                    have H' := Aside0.mk H
                    clear H
                    have p4 : 0 ≤ (x3_1 : Int) := of_decide_eq_true (by first | (with_reducible assumption) | assumption)
                    have q4 : x3_1 < (a0.size : Int) := of_decide_eq_true (by first | (with_reducible assumption) | assumption)
                    have hx4 := bt_at a0 x3_1
                    replace p4 := eq_true p4
                    replace q4 := eq_true q4
                    go_wp2_with (first | ((with_reducible refine gate_callee (f := 46) rfl ?_); refine goesL_ (some 21) rfl rfl Tryd.func46 (by kernel_rfl) rfl #[.string a0, .int .i64 x3_1] rfl (by (try simp only [List.map_toArray, List.map_cons, List.map_nil]); first | done | rfl | (simp only [List.length_drop, List.length_take]; rfl)) ?_; (with_reducible refine (spec_unit.calls k1 a0 x3_1 t123 true _ A6.out).mono ?_); rintro e w' ⟨rfl, ⟨nd, rfl⟩⟩; refine ⟨_, rfl, ?_⟩) | ((with_reducible refine gate_callee (f := 47) rfl ?_); refine goesL_ (some 33) rfl rfl Tryd.func47 (by kernel_rfl) rfl #[.int .i64 t123] rfl (by (try simp only [List.map_toArray, List.map_cons, List.map_nil]); first | done | rfl | (simp only [List.length_drop, List.length_take]; rfl)) ?_; (with_reducible refine (spec_high.calls t123 true _ A8.out).mono ?_); rintro e w' ⟨rfl, ⟨nd, rfl⟩⟩; refine ⟨_, rfl, ?_⟩) | ((with_reducible refine gate_callee (f := 46) rfl ?_); refine goesL_ (some 38) rfl rfl Tryd.func46 (by kernel_rfl) rfl #[.string a0, .int .i64 (wrap64 (x3_1 + 6))] rfl (by (try simp only [List.map_toArray, List.map_cons, List.map_nil]); first | done | rfl | (simp only [List.length_drop, List.length_take]; rfl)) ?_; (with_reducible refine (spec_unit.calls k1 a0 (wrap64 (x3_1 + 6)) t126 true _ A10.out).mono ?_); rintro e w' ⟨rfl, ⟨nd, rfl⟩⟩; refine ⟨_, rfl, ?_⟩) | (go_at_call 48; (with_reducible refine (spec_low.calls t126 true _ A12.out).mono ?_); rintro e w' ⟨rfl, ⟨nd, rfl⟩⟩))
                    go_roundg k1
                    case measure => have := HK1.out; omega
                    case rel => exact ⟨(wrap64 (x3_1 + 12)), (by first | rfl | (simp; done) | (simp [*]; done)), H', ⟨by have := HK1.out; omega⟩, by repeat (first | exact Drawn0.refl _ | apply Drawn0.step)⟩
                  · replace c13 := Bool.eq_false_iff.mpr c13
                    subst c13
                    have H1 : (some false) = some r := by rw [if_neg (show ¬ (false = true) by decide)] at H; exact H
                    clear H
                    have H := H1
                    clear H1
                    obtain rfl := Option.some.inj H
                    have p4 : 0 ≤ (x3_1 : Int) := of_decide_eq_true (by first | (with_reducible assumption) | assumption)
                    have q4 : x3_1 < (a0.size : Int) := of_decide_eq_true (by first | (with_reducible assumption) | assumption)
                    have hx4 := bt_at a0 x3_1
                    replace p4 := eq_true p4
                    replace q4 := eq_true q4
                    go_wp2_with (first | ((with_reducible refine gate_callee (f := 46) rfl ?_); refine goesL_ (some 21) rfl rfl Tryd.func46 (by kernel_rfl) rfl #[.string a0, .int .i64 x3_1] rfl (by (try simp only [List.map_toArray, List.map_cons, List.map_nil]); first | done | rfl | (simp only [List.length_drop, List.length_take]; rfl)) ?_; (with_reducible refine (spec_unit.calls k1 a0 x3_1 t123 true _ A6.out).mono ?_); rintro e w' ⟨rfl, ⟨nd, rfl⟩⟩; refine ⟨_, rfl, ?_⟩) | ((with_reducible refine gate_callee (f := 47) rfl ?_); refine goesL_ (some 33) rfl rfl Tryd.func47 (by kernel_rfl) rfl #[.int .i64 t123] rfl (by (try simp only [List.map_toArray, List.map_cons, List.map_nil]); first | done | rfl | (simp only [List.length_drop, List.length_take]; rfl)) ?_; (with_reducible refine (spec_high.calls t123 true _ A8.out).mono ?_); rintro e w' ⟨rfl, ⟨nd, rfl⟩⟩; refine ⟨_, rfl, ?_⟩) | ((with_reducible refine gate_callee (f := 46) rfl ?_); refine goesL_ (some 38) rfl rfl Tryd.func46 (by kernel_rfl) rfl #[.string a0, .int .i64 (wrap64 (x3_1 + 6))] rfl (by (try simp only [List.map_toArray, List.map_cons, List.map_nil]); first | done | rfl | (simp only [List.length_drop, List.length_take]; rfl)) ?_; (with_reducible refine (spec_unit.calls k1 a0 (wrap64 (x3_1 + 6)) t126 true _ A10.out).mono ?_); rintro e w' ⟨rfl, ⟨nd, rfl⟩⟩; refine ⟨_, rfl, ?_⟩) | (go_at_call 48; (with_reducible refine (spec_low.calls t126 false _ A12.out).mono ?_); rintro e w' ⟨rfl, ⟨nd, rfl⟩⟩))
                    go_ret
                    exact ⟨by first | rfl | (simp; done) | (simp [*]; done), by repeat (first | exact Drawn0.refl _ | apply Drawn0.step)⟩
                · replace c11 := Bool.eq_false_iff.mpr c11
                  subst c11
                  have H1 : (some false) = some r := by rw [if_neg (show ¬ (false = true) by decide)] at H; exact H
                  clear H
                  have H := H1
                  clear H1
                  obtain rfl := Option.some.inj H
                  have p4 : 0 ≤ (x3_1 : Int) := of_decide_eq_true (by first | (with_reducible assumption) | assumption)
                  have q4 : x3_1 < (a0.size : Int) := of_decide_eq_true (by first | (with_reducible assumption) | assumption)
                  have hx4 := bt_at a0 x3_1
                  replace p4 := eq_true p4
                  replace q4 := eq_true q4
                  go_wp2_with (first | ((with_reducible refine gate_callee (f := 46) rfl ?_); refine goesL_ (some 21) rfl rfl Tryd.func46 (by kernel_rfl) rfl #[.string a0, .int .i64 x3_1] rfl (by (try simp only [List.map_toArray, List.map_cons, List.map_nil]); first | done | rfl | (simp only [List.length_drop, List.length_take]; rfl)) ?_; (with_reducible refine (spec_unit.calls k1 a0 x3_1 t123 true _ A6.out).mono ?_); rintro e w' ⟨rfl, ⟨nd, rfl⟩⟩; refine ⟨_, rfl, ?_⟩) | ((with_reducible refine gate_callee (f := 47) rfl ?_); refine goesL_ (some 33) rfl rfl Tryd.func47 (by kernel_rfl) rfl #[.int .i64 t123] rfl (by (try simp only [List.map_toArray, List.map_cons, List.map_nil]); first | done | rfl | (simp only [List.length_drop, List.length_take]; rfl)) ?_; (with_reducible refine (spec_high.calls t123 true _ A8.out).mono ?_); rintro e w' ⟨rfl, ⟨nd, rfl⟩⟩; refine ⟨_, rfl, ?_⟩) | ((with_reducible refine gate_callee (f := 46) rfl ?_); refine goesL_ (some 38) rfl rfl Tryd.func46 (by kernel_rfl) rfl #[.string a0, .int .i64 (wrap64 (x3_1 + 6))] rfl (by (try simp only [List.map_toArray, List.map_cons, List.map_nil]); first | done | rfl | (simp only [List.length_drop, List.length_take]; rfl)) ?_; (with_reducible refine (spec_unit.calls k1 a0 (wrap64 (x3_1 + 6)) t126 false _ A10.out).mono ?_); rintro e w' ⟨rfl, ⟨nd, rfl⟩⟩; refine ⟨_, rfl, ?_⟩))
                  go_ret
                  exact ⟨by first | rfl | (simp; done) | (simp [*]; done), by repeat (first | exact Drawn0.refl _ | apply Drawn0.step)⟩
              · replace c9 := Bool.eq_false_iff.mpr c9
                subst c9
                have H1 : ((spec_low.f t123).bind fun t129 => (if t129 = true then (some false) else (spec_Paired.l0 k1 a0 (wrap64 (x3_1 + 6))))) = some r := by rw [if_neg (show ¬ (false = true) by decide)] at H; exact H
                clear H
                have H := H1
                clear H1
                replace H := Option.bind_eq_some_iff.mp H
                obtain ⟨t129, A140, H⟩ := H
                replace H : (if t129 = true then (some false) else (spec_Paired.l0 k1 a0 (wrap64 (x3_1 + 6)))) = some r := H
                have A14 := Aside0.mk A140
                clear A140
                by_cases c15 : t129 = true
                · subst c15
                  have H1 : (some false) = some r := by rw [if_pos rfl] at H; exact H
                  clear H
                  have H := H1
                  clear H1
                  obtain rfl := Option.some.inj H
                  have p4 : 0 ≤ (x3_1 : Int) := of_decide_eq_true (by first | (with_reducible assumption) | assumption)
                  have q4 : x3_1 < (a0.size : Int) := of_decide_eq_true (by first | (with_reducible assumption) | assumption)
                  have hx4 := bt_at a0 x3_1
                  replace p4 := eq_true p4
                  replace q4 := eq_true q4
                  go_wp2_with (first | ((with_reducible refine gate_callee (f := 46) rfl ?_); refine goesL_ (some 21) rfl rfl Tryd.func46 (by kernel_rfl) rfl #[.string a0, .int .i64 x3_1] rfl (by (try simp only [List.map_toArray, List.map_cons, List.map_nil]); first | done | rfl | (simp only [List.length_drop, List.length_take]; rfl)) ?_; (with_reducible refine (spec_unit.calls k1 a0 x3_1 t123 true _ A6.out).mono ?_); rintro e w' ⟨rfl, ⟨nd, rfl⟩⟩; refine ⟨_, rfl, ?_⟩) | ((with_reducible refine gate_callee (f := 47) rfl ?_); refine goesL_ (some 33) rfl rfl Tryd.func47 (by kernel_rfl) rfl #[.int .i64 t123] rfl (by (try simp only [List.map_toArray, List.map_cons, List.map_nil]); first | done | rfl | (simp only [List.length_drop, List.length_take]; rfl)) ?_; (with_reducible refine (spec_high.calls t123 false _ A8.out).mono ?_); rintro e w' ⟨rfl, ⟨nd, rfl⟩⟩; refine ⟨_, rfl, ?_⟩) | ((with_reducible refine gate_callee (f := 48) rfl ?_); refine goesL_ (some 52) rfl rfl Tryd.func48 (by kernel_rfl) rfl #[.int .i64 t123] rfl (by (try simp only [List.map_toArray, List.map_cons, List.map_nil]); first | done | rfl | (simp only [List.length_drop, List.length_take]; rfl)) ?_; (with_reducible refine (spec_low.calls t123 true _ A14.out).mono ?_); rintro e w' ⟨rfl, ⟨nd, rfl⟩⟩; refine ⟨_, rfl, ?_⟩))
                  go_ret
                  exact ⟨by first | rfl | (simp; done) | (simp [*]; done), by repeat (first | exact Drawn0.refl _ | apply Drawn0.step)⟩
                · replace c15 := Bool.eq_false_iff.mpr c15
                  subst c15
                  have H1 : (spec_Paired.l0 k1 a0 (wrap64 (x3_1 + 6))) = some r := by rw [if_neg (show ¬ (false = true) by decide)] at H; exact H
                  clear H
                  have H := H1
                  clear H1
                  have H' := Aside0.mk H
                  clear H
                  have p4 : 0 ≤ (x3_1 : Int) := of_decide_eq_true (by first | (with_reducible assumption) | assumption)
                  have q4 : x3_1 < (a0.size : Int) := of_decide_eq_true (by first | (with_reducible assumption) | assumption)
                  have hx4 := bt_at a0 x3_1
                  replace p4 := eq_true p4
                  replace q4 := eq_true q4
                  go_wp2_with (first | ((with_reducible refine gate_callee (f := 46) rfl ?_); refine goesL_ (some 21) rfl rfl Tryd.func46 (by kernel_rfl) rfl #[.string a0, .int .i64 x3_1] rfl (by (try simp only [List.map_toArray, List.map_cons, List.map_nil]); first | done | rfl | (simp only [List.length_drop, List.length_take]; rfl)) ?_; (with_reducible refine (spec_unit.calls k1 a0 x3_1 t123 true _ A6.out).mono ?_); rintro e w' ⟨rfl, ⟨nd, rfl⟩⟩; refine ⟨_, rfl, ?_⟩) | ((with_reducible refine gate_callee (f := 47) rfl ?_); refine goesL_ (some 33) rfl rfl Tryd.func47 (by kernel_rfl) rfl #[.int .i64 t123] rfl (by (try simp only [List.map_toArray, List.map_cons, List.map_nil]); first | done | rfl | (simp only [List.length_drop, List.length_take]; rfl)) ?_; (with_reducible refine (spec_high.calls t123 false _ A8.out).mono ?_); rintro e w' ⟨rfl, ⟨nd, rfl⟩⟩; refine ⟨_, rfl, ?_⟩) | ((with_reducible refine gate_callee (f := 48) rfl ?_); refine goesL_ (some 52) rfl rfl Tryd.func48 (by kernel_rfl) rfl #[.int .i64 t123] rfl (by (try simp only [List.map_toArray, List.map_cons, List.map_nil]); first | done | rfl | (simp only [List.length_drop, List.length_take]; rfl)) ?_; (with_reducible refine (spec_low.calls t123 false _ A14.out).mono ?_); rintro e w' ⟨rfl, ⟨nd, rfl⟩⟩; refine ⟨_, rfl, ?_⟩))
                  go_roundg k1
                  case measure => have := HK1.out; omega
                  case rel => exact ⟨(wrap64 (x3_1 + 6)), (by first | rfl | (simp; done) | (simp [*]; done)), H', ⟨by have := HK1.out; omega⟩, by repeat (first | exact Drawn0.refl _ | apply Drawn0.step)⟩
            · replace c7 := Bool.eq_false_iff.mpr c7
              subst c7
              have H1 : (spec_Paired.l0 k1 a0 (wrap64 (x3_1 + 2))) = some r := by rw [if_neg (show ¬ (false = true) by decide)] at H; exact H
              clear H
              have H := H1
              clear H1
              have H' := Aside0.mk H
              clear H
              have p4 : 0 ≤ (x3_1 : Int) := of_decide_eq_true (by first | (with_reducible assumption) | assumption)
              have q4 : x3_1 < (a0.size : Int) := of_decide_eq_true (by first | (with_reducible assumption) | assumption)
              have hx4 := bt_at a0 x3_1
              replace p4 := eq_true p4
              replace q4 := eq_true q4
              go_wp2_with (first | ((with_reducible refine gate_callee (f := 46) rfl ?_); refine goesL_ (some 21) rfl rfl Tryd.func46 (by kernel_rfl) rfl #[.string a0, .int .i64 x3_1] rfl (by (try simp only [List.map_toArray, List.map_cons, List.map_nil]); first | done | rfl | (simp only [List.length_drop, List.length_take]; rfl)) ?_; (with_reducible refine (spec_unit.calls k1 a0 x3_1 t123 false _ A6.out).mono ?_); rintro e w' ⟨rfl, ⟨nd, rfl⟩⟩; refine ⟨_, rfl, ?_⟩))
              go_roundg k1
              case measure => have := HK1.out; omega
              case rel => exact ⟨(wrap64 (x3_1 + 2)), (by first | rfl | (simp; done) | (simp [*]; done)), H', ⟨by have := HK1.out; omega⟩, by repeat (first | exact Drawn0.refl _ | apply Drawn0.step)⟩
          · rw [if_neg c5] at H
            have c5b0 : ((bt a0 x3_1) == 92) = false := beq_eq_false_iff_ne.mpr c5
            have c5b1 : ((bt a0 x3_1) != 92) = true := bne_iff_ne.mpr c5
            have H' := Aside0.mk H
            clear H
            have p4 : 0 ≤ (x3_1 : Int) := of_decide_eq_true (by first | (with_reducible assumption) | assumption)
            have q4 : x3_1 < (a0.size : Int) := of_decide_eq_true (by first | (with_reducible assumption) | assumption)
            have hx4 := bt_at a0 x3_1
            replace p4 := eq_true p4
            replace q4 := eq_true q4
            go_wp2
            go_roundg k1
            case measure => have := HK1.out; omega
            case rel => exact ⟨(wrap64 (x3_1 + 1)), (by first | rfl | (simp; done) | (simp [*]; done)), H', ⟨by have := HK1.out; omega⟩, by repeat (first | exact Drawn0.refl _ | apply Drawn0.step)⟩
        · rw [if_neg c3] at H
          exact absurd H (by simp)
      · rw [if_neg c2] at H
        have c2b0 : decide (x3_1 < (a0.size : Int)) = false := decide_eq_false c2
        clear c2
        obtain rfl := Option.some.inj H
        go_wp2
        go_ret
        exact ⟨by first | rfl | (simp; done) | (simp [*]; done), by repeat (first | exact Drawn0.refl _ | apply Drawn0.step)⟩

end Go.Proofs.YtdllbnecbbggfaaDoor.XFnGjUnescapeJoin
