-- Written by xprint.py of this session (a program that runs the kit's print and adds to it); Lean checks it.
import Derived.Test.YtjnfdgibogbgiaaDoorXFnFjCheckValuex0
import Derived.Test.YtjnfdgibogbgiaaDoorXFnFjCheckValuex1
namespace Go.Proofs.YtjnfdgibogbgiaaDoor.XFnFjCheckValue
open Go.RowKit Go.Proofs.YtjnfdgibogbgiaaDoorW.PrintWords Go.Proofs.YtjnfdgibogbgiaaDoorW.PrintLast Go.Proofs.YtjnfdgibogbgiaaDoorW.PrintMore
attribute [local go_sem] max2_int min2_int max_two min_two max_three min_three max_four min_four   -- for this text's walks alone
set_option linter.unusedVariables false
set_option linter.unusedSimpArgs false

/-! ### spec_reader_escape: function 24 -/
mutual
def spec_reader_escape.j0 : Nat → Int → Bool → ByteArray → Int → Option (Bool × ByteArray × Int)
  | 0, _, _, _, _ => none
  | k + 1, x7, x8, x1000, x1001 => if x8 = true then (some (true, x1000, wrap64 (x1001 + 1))) else (if x7 = 117 then (spec_reader_escape.l0 k 0 x1000 (wrap64 (x1001 + 1))) else (some (false, x1000, x1001)))
def spec_reader_escape.l0 : Nat → Int → ByteArray → Int → Option (Bool × ByteArray × Int)
  | 0, _, _, _ => none
  | k + 1, x3, x1000, x1001 => if x3 < 4 then ((spec_reader_here.f x1000 x1001).bind fun bt104 => ((spec_hexDigit.f k bt104.1).bind fun bt107 => (if bt107.2 = true then (spec_reader_escape.l0 k (wrap64 (x3 + 1)) bt104.2.1 (wrap64 (bt104.2.2 + 1))) else (some (false, bt104.2.1, bt104.2.2))))) else (some (true, x1000, x1001))
end
def spec_reader_escape.f (k : Nat) (s0_0 : ByteArray) (s0_1 : Int) : Option (Bool × ByteArray × Int) := (spec_reader_here.f s0_0 s0_1).bind fun bt101 => (if bt101.1 = 34 then (spec_reader_escape.j0 k bt101.1 (bt101.1 == 34) bt101.2.1 bt101.2.2) else (if bt101.1 = 92 then (spec_reader_escape.j0 k bt101.1 (bt101.1 == 92) bt101.2.1 bt101.2.2) else (if bt101.1 = 47 then (spec_reader_escape.j0 k bt101.1 (bt101.1 == 47) bt101.2.1 bt101.2.2) else (if bt101.1 = 98 then (spec_reader_escape.j0 k bt101.1 (bt101.1 == 98) bt101.2.1 bt101.2.2) else (if bt101.1 = 102 then (spec_reader_escape.j0 k bt101.1 (bt101.1 == 102) bt101.2.1 bt101.2.2) else (if bt101.1 = 110 then (spec_reader_escape.j0 k bt101.1 (bt101.1 == 110) bt101.2.1 bt101.2.2) else (if bt101.1 = 114 then (spec_reader_escape.j0 k bt101.1 (bt101.1 == 114) bt101.2.1 bt101.2.2) else (spec_reader_escape.j0 k bt101.1 (bt101.1 == 116) bt101.2.1 bt101.2.2))))))))
theorem spec_reader_escape.mono_l : ∀ k, (∀ y0 y1 y2 y3, LeO (spec_reader_escape.j0 k y0 y1 y2 y3) (spec_reader_escape.j0 (k + 1) y0 y1 y2 y3)) ∧ (∀ y0 y1 y2, LeO (spec_reader_escape.l0 k y0 y1 y2) (spec_reader_escape.l0 (k + 1) y0 y1 y2))
  | 0 => ⟨fun _ _ _ _ r h => by simp [spec_reader_escape.j0] at h, fun _ _ _ r h => by simp [spec_reader_escape.l0] at h⟩
  | k + 1 => by
    obtain ⟨ih0, ih1⟩ := spec_reader_escape.mono_l k
    refine ⟨?_, ?_⟩
    · intro y0 y1 y2 y3
      unfold spec_reader_escape.j0
      repeat' first
      | (with_reducible exact ih0 _ _ _ _)
      | (with_reducible exact ih1 _ _ _)
      | (with_reducible exact spec_hexDigit.mono _ _)
      | (with_reducible exact LeO.refl _)
      | (with_reducible exact LeO.none _)
      | (with_reducible refine LeO.ite ?_ ?_)
      | (with_reducible refine LeO.bind ?_ (fun _ => ?_))
      | exact ih0 _ _ _ _
      | exact ih1 _ _ _
      | exact spec_hexDigit.mono _ _
      | exact LeO.none _
      | refine LeO.ite ?_ ?_
      | refine LeO.bind ?_ (fun _ => ?_)
    · intro y0 y1 y2
      unfold spec_reader_escape.l0
      repeat' first
      | (with_reducible exact ih0 _ _ _ _)
      | (with_reducible exact ih1 _ _ _)
      | (with_reducible exact spec_hexDigit.mono _ _)
      | (with_reducible exact LeO.refl _)
      | (with_reducible exact LeO.none _)
      | (with_reducible refine LeO.ite ?_ ?_)
      | (with_reducible refine LeO.bind ?_ (fun _ => ?_))
      | exact ih0 _ _ _ _
      | exact ih1 _ _ _
      | exact spec_hexDigit.mono _ _
      | exact LeO.none _
      | refine LeO.ite ?_ ?_
      | refine LeO.bind ?_ (fun _ => ?_)
theorem spec_reader_escape.mono : ∀ a0 a1 k, LeO (spec_reader_escape.f k a0 a1) (spec_reader_escape.f (k + 1) a0 a1) := by
  intro a0 a1 k
  obtain ⟨ih0, ih1⟩ := spec_reader_escape.mono_l k
  unfold spec_reader_escape.f
  repeat' first
      | (with_reducible exact ih0 _ _ _ _)
      | (with_reducible exact ih1 _ _ _)
      | (with_reducible exact spec_hexDigit.mono _ _)
      | (with_reducible exact LeO.refl _)
      | (with_reducible exact LeO.none _)
      | (with_reducible refine LeO.ite ?_ ?_)
      | (with_reducible refine LeO.bind ?_ (fun _ => ?_))
      | exact ih0 _ _ _ _
      | exact ih1 _ _ _
      | exact spec_hexDigit.mono _ _
      | exact LeO.none _
      | refine LeO.ite ?_ ?_
      | refine LeO.bind ?_ (fun _ => ?_)
set_option maxHeartbeats 8000000 in
set_option maxRecDepth 100000 in
theorem spec_reader_escape.calls (k : Nat) (g : Nat) (s0_0 : ByteArray) (s0_1 : Int) (r1 : Bool) (r2 : ByteArray) (r3 : Int) (w0 w : World) (hI : I6 w0 w g s0_0 s0_1) (hB : Below w0.heap.size w0 w) (h : spec_reader_escape.f k s0_0 s0_1 = some (r1, r2, r3)) :
    Calls Tryd.prog 24 #[.pointer (some ⟨g, 0, none⟩)] w fun e w' => e = .returned (.bool r1) ∧ I6 w0 w' g r2 r3 ∧ Below w0.heap.size w0 w' ∧ KeepBut w w' g none := by
  have HI0 := am hI
  have HK := am (KeepBut.refl w g none)
  have HL := am hB.size
  clear hI
  have HW0 := am hB.size
  have HB := am hB
  clear hB
  have H : ((spec_reader_here.f s0_0 s0_1).bind fun bt101 => (if bt101.1 = 34 then (spec_reader_escape.j0 k bt101.1 (bt101.1 == 34) bt101.2.1 bt101.2.2) else (if bt101.1 = 92 then (spec_reader_escape.j0 k bt101.1 (bt101.1 == 92) bt101.2.1 bt101.2.2) else (if bt101.1 = 47 then (spec_reader_escape.j0 k bt101.1 (bt101.1 == 47) bt101.2.1 bt101.2.2) else (if bt101.1 = 98 then (spec_reader_escape.j0 k bt101.1 (bt101.1 == 98) bt101.2.1 bt101.2.2) else (if bt101.1 = 102 then (spec_reader_escape.j0 k bt101.1 (bt101.1 == 102) bt101.2.1 bt101.2.2) else (if bt101.1 = 110 then (spec_reader_escape.j0 k bt101.1 (bt101.1 == 110) bt101.2.1 bt101.2.2) else (if bt101.1 = 114 then (spec_reader_escape.j0 k bt101.1 (bt101.1 == 114) bt101.2.1 bt101.2.2) else (spec_reader_escape.j0 k bt101.1 (bt101.1 == 116) bt101.2.1 bt101.2.2))))))))) = some (r1, r2, r3) := h
  clear h
  replace H := Option.bind_eq_some_iff.mp H
  obtain ⟨⟨t101, t102, t103⟩, A20, H⟩ := H
  replace H : (if t101 = 34 then (spec_reader_escape.j0 k t101 (t101 == 34) t102 t103) else (if t101 = 92 then (spec_reader_escape.j0 k t101 (t101 == 92) t102 t103) else (if t101 = 47 then (spec_reader_escape.j0 k t101 (t101 == 47) t102 t103) else (if t101 = 98 then (spec_reader_escape.j0 k t101 (t101 == 98) t102 t103) else (if t101 = 102 then (spec_reader_escape.j0 k t101 (t101 == 102) t102 t103) else (if t101 = 110 then (spec_reader_escape.j0 k t101 (t101 == 110) t102 t103) else (if t101 = 114 then (spec_reader_escape.j0 k t101 (t101 == 114) t102 t103) else (spec_reader_escape.j0 k t101 (t101 == 116) t102 t103)))))))) = some (r1, r2, r3) := H
  have A2 := am A20
  clear A20
  have HC3 := am H
  clear H
  go_enter Tryd.func24, Tryd.ntmps24
  go_upto_if 8 with (first | ((with_reducible refine gate_callee (f := 11) rfl ?_); refine goesL_ (some 7) rfl rfl Tryd.func11 (by kernel_rfl) rfl #[.pointer (some ⟨g, 0, none⟩)] rfl (by (try simp only [List.map_toArray, List.map_cons, List.map_nil]); first | done | rfl | (simp only [List.length_drop, List.length_take]; rfl)) ?_; (with_reducible refine (spec_reader_here.calls g s0_0 s0_1 t101 t102 t103 w0 _ ?side1 ?side2 A2.out).mono ?_); (case side1 => repeat (first | (with_reducible first | exact HI0.out | apply I6.a | apply I6.n | apply I6.d | apply I6.x | apply I6.y) | exact HI0.out)); (case side2 => repeat (first | (with_reducible first | exact HB.out | apply ba | apply bn | apply bw | refine bs ?_ (I6.g HI0.out)) | exact HB.out)); rintro e w4 ⟨rfl, hi, hb, hk⟩; refine ⟨_, rfl, ?_⟩; have n0_ := am (KeepBut.trans (by repeat (first | (with_reducible first | exact HK.out | apply ks | apply kn | apply kd | apply ka) | exact HK.out)) hk (.inl rfl)); have n1_ := am (hb); have n2_ := am (hi); clear HK; clear HB; clear HI0; have HK := n0_; have HB := n1_; have HI0 := n2_; clear n0_ n1_ n2_; (try clear hb); (try clear hb2); (try clear hk); (try clear hi)))
  (try simp only [Act.put, List.setIfInBounds_toArray, List.set_cons_zero, List.set_cons_succ])
  go_cut [8] (fun v8 wc => ∃ (kq : Nat) (x8_2 : Bool), v8 = .bool x8_2 ∧ Aside0 (spec_reader_escape.j0 kq t101 x8_2 t102 t103 = some (r1, r2, r3)) ∧ Aside0 (kq ≤ k) ∧ Aside0 (I6 w0 wc g t102 t103) ∧ Aside0 (KeepBut w wc g none) ∧ Aside0 (Below w0.heap.size w0 wc))
  case first =>
    have H := HC3.out
    clear HC3
    by_cases c5 : t101 = 34
    · rw [if_pos c5] at H
      have c5b0 : (t101 == 34) = true := beq_iff_eq.mpr c5
      have c5b1 : (t101 != 34) = false := bne_eq_false_iff_eq.mpr c5
      clear c5
      (first | rw [c5b0] | (simp only [i64_w, i32_w]; rw [c5b0]) | skip)
      have H' := am H
      clear H
      go_wp2
      go_meet
      case rel => exact ⟨_, ((t101 == 34)), (by first | rfl | (simp; done) | (simp [*]; done)), H', ⟨by first | omega | exact Nat.le_refl _⟩, ⟨by repeat (first | (with_reducible first | exact HI0.out | apply I6.a | apply I6.n | apply I6.d | apply I6.x | apply I6.y) | exact HI0.out)⟩, ⟨by repeat (first | (with_reducible first | exact HK.out | apply ks | apply kn | apply kd | apply ka) | exact HK.out)⟩, ⟨by repeat (first | (with_reducible first | exact HB.out | apply ba | apply bn | apply bw | refine bs ?_ (I6.g HI0.out)) | exact HB.out)⟩⟩
    · rw [if_neg c5] at H
      have c5b0 : (t101 == 34) = false := beq_eq_false_iff_ne.mpr c5
      have c5b1 : (t101 != 34) = true := bne_iff_ne.mpr c5
      (first | rw [c5b0] | (simp only [i64_w, i32_w]; rw [c5b0]) | skip)
      by_cases c6 : t101 = 92
      · rw [if_pos c6] at H
        have c6b0 : (t101 == 92) = true := beq_iff_eq.mpr c6
        have c6b1 : (t101 != 92) = false := bne_eq_false_iff_eq.mpr c6
        clear c6
        have H' := am H
        clear H
        go_wp2
        go_meet
        case rel => exact ⟨_, ((t101 == 92)), (by first | rfl | (simp; done) | (simp [*]; done)), H', ⟨by first | omega | exact Nat.le_refl _⟩, ⟨by repeat (first | (with_reducible first | exact HI0.out | apply I6.a | apply I6.n | apply I6.d | apply I6.x | apply I6.y) | exact HI0.out)⟩, ⟨by repeat (first | (with_reducible first | exact HK.out | apply ks | apply kn | apply kd | apply ka) | exact HK.out)⟩, ⟨by repeat (first | (with_reducible first | exact HB.out | apply ba | apply bn | apply bw | refine bs ?_ (I6.g HI0.out)) | exact HB.out)⟩⟩
      · rw [if_neg c6] at H
        have c6b0 : (t101 == 92) = false := beq_eq_false_iff_ne.mpr c6
        have c6b1 : (t101 != 92) = true := bne_iff_ne.mpr c6
        by_cases c7 : t101 = 47
        · rw [if_pos c7] at H
          have c7b0 : (t101 == 47) = true := beq_iff_eq.mpr c7
          have c7b1 : (t101 != 47) = false := bne_eq_false_iff_eq.mpr c7
          clear c7
          have H' := am H
          clear H
          go_wp2
          go_meet
          case rel => exact ⟨_, ((t101 == 47)), (by first | rfl | (simp; done) | (simp [*]; done)), H', ⟨by first | omega | exact Nat.le_refl _⟩, ⟨by repeat (first | (with_reducible first | exact HI0.out | apply I6.a | apply I6.n | apply I6.d | apply I6.x | apply I6.y) | exact HI0.out)⟩, ⟨by repeat (first | (with_reducible first | exact HK.out | apply ks | apply kn | apply kd | apply ka) | exact HK.out)⟩, ⟨by repeat (first | (with_reducible first | exact HB.out | apply ba | apply bn | apply bw | refine bs ?_ (I6.g HI0.out)) | exact HB.out)⟩⟩
        · rw [if_neg c7] at H
          have c7b0 : (t101 == 47) = false := beq_eq_false_iff_ne.mpr c7
          have c7b1 : (t101 != 47) = true := bne_iff_ne.mpr c7
          by_cases c8 : t101 = 98
          · rw [if_pos c8] at H
            have c8b0 : (t101 == 98) = true := beq_iff_eq.mpr c8
            have c8b1 : (t101 != 98) = false := bne_eq_false_iff_eq.mpr c8
            clear c8
            have H' := am H
            clear H
            go_wp2
            go_meet
            case rel => exact ⟨_, ((t101 == 98)), (by first | rfl | (simp; done) | (simp [*]; done)), H', ⟨by first | omega | exact Nat.le_refl _⟩, ⟨by repeat (first | (with_reducible first | exact HI0.out | apply I6.a | apply I6.n | apply I6.d | apply I6.x | apply I6.y) | exact HI0.out)⟩, ⟨by repeat (first | (with_reducible first | exact HK.out | apply ks | apply kn | apply kd | apply ka) | exact HK.out)⟩, ⟨by repeat (first | (with_reducible first | exact HB.out | apply ba | apply bn | apply bw | refine bs ?_ (I6.g HI0.out)) | exact HB.out)⟩⟩
          · rw [if_neg c8] at H
            have c8b0 : (t101 == 98) = false := beq_eq_false_iff_ne.mpr c8
            have c8b1 : (t101 != 98) = true := bne_iff_ne.mpr c8
            by_cases c9 : t101 = 102
            · rw [if_pos c9] at H
              have c9b0 : (t101 == 102) = true := beq_iff_eq.mpr c9
              have c9b1 : (t101 != 102) = false := bne_eq_false_iff_eq.mpr c9
              clear c9
              have H' := am H
              clear H
              go_wp2
              go_meet
              case rel => exact ⟨_, ((t101 == 102)), (by first | rfl | (simp; done) | (simp [*]; done)), H', ⟨by first | omega | exact Nat.le_refl _⟩, ⟨by repeat (first | (with_reducible first | exact HI0.out | apply I6.a | apply I6.n | apply I6.d | apply I6.x | apply I6.y) | exact HI0.out)⟩, ⟨by repeat (first | (with_reducible first | exact HK.out | apply ks | apply kn | apply kd | apply ka) | exact HK.out)⟩, ⟨by repeat (first | (with_reducible first | exact HB.out | apply ba | apply bn | apply bw | refine bs ?_ (I6.g HI0.out)) | exact HB.out)⟩⟩
            · rw [if_neg c9] at H
              have c9b0 : (t101 == 102) = false := beq_eq_false_iff_ne.mpr c9
              have c9b1 : (t101 != 102) = true := bne_iff_ne.mpr c9
              by_cases c10 : t101 = 110
              · rw [if_pos c10] at H
                have c10b0 : (t101 == 110) = true := beq_iff_eq.mpr c10
                have c10b1 : (t101 != 110) = false := bne_eq_false_iff_eq.mpr c10
                clear c10
                have H' := am H
                clear H
                go_wp2
                go_meet
                case rel => exact ⟨_, ((t101 == 110)), (by first | rfl | (simp; done) | (simp [*]; done)), H', ⟨by first | omega | exact Nat.le_refl _⟩, ⟨by repeat (first | (with_reducible first | exact HI0.out | apply I6.a | apply I6.n | apply I6.d | apply I6.x | apply I6.y) | exact HI0.out)⟩, ⟨by repeat (first | (with_reducible first | exact HK.out | apply ks | apply kn | apply kd | apply ka) | exact HK.out)⟩, ⟨by repeat (first | (with_reducible first | exact HB.out | apply ba | apply bn | apply bw | refine bs ?_ (I6.g HI0.out)) | exact HB.out)⟩⟩
              · rw [if_neg c10] at H
                have c10b0 : (t101 == 110) = false := beq_eq_false_iff_ne.mpr c10
                have c10b1 : (t101 != 110) = true := bne_iff_ne.mpr c10
                by_cases c11 : t101 = 114
                · rw [if_pos c11] at H
                  have c11b0 : (t101 == 114) = true := beq_iff_eq.mpr c11
                  have c11b1 : (t101 != 114) = false := bne_eq_false_iff_eq.mpr c11
                  clear c11
                  have H' := am H
                  clear H
                  go_wp2
                  go_meet
                  case rel => exact ⟨_, ((t101 == 114)), (by first | rfl | (simp; done) | (simp [*]; done)), H', ⟨by first | omega | exact Nat.le_refl _⟩, ⟨by repeat (first | (with_reducible first | exact HI0.out | apply I6.a | apply I6.n | apply I6.d | apply I6.x | apply I6.y) | exact HI0.out)⟩, ⟨by repeat (first | (with_reducible first | exact HK.out | apply ks | apply kn | apply kd | apply ka) | exact HK.out)⟩, ⟨by repeat (first | (with_reducible first | exact HB.out | apply ba | apply bn | apply bw | refine bs ?_ (I6.g HI0.out)) | exact HB.out)⟩⟩
                · rw [if_neg c11] at H
                  have c11b0 : (t101 == 114) = false := beq_eq_false_iff_ne.mpr c11
                  have c11b1 : (t101 != 114) = true := bne_iff_ne.mpr c11
                  have H' := am H
                  clear H
                  go_wp2
                  go_meet
                  case rel => exact ⟨_, ((t101 == 116)), (by first | rfl | (simp; done) | (simp [*]; done)), H', ⟨by first | omega | exact Nat.le_refl _⟩, ⟨by repeat (first | (with_reducible first | exact HI0.out | apply I6.a | apply I6.n | apply I6.d | apply I6.x | apply I6.y) | exact HI0.out)⟩, ⟨by repeat (first | (with_reducible first | exact HK.out | apply ks | apply kn | apply kd | apply ka) | exact HK.out)⟩, ⟨by repeat (first | (with_reducible first | exact HB.out | apply ba | apply bn | apply bw | refine bs ?_ (I6.g HI0.out)) | exact HB.out)⟩⟩
  case rest =>
    clear HC3
    try clear c1
    try clear c2
    try clear p2
    try clear c5
    try clear c5b0
    try clear c5b1
    try clear c6
    try clear c6b0
    try clear c6b1
    try clear c7
    try clear c7b0
    try clear c7b1
    try clear c8
    try clear c8b0
    try clear c8b1
    try clear c9
    try clear c9b0
    try clear c9b1
    try clear c10
    try clear c10b0
    try clear c10b1
    try clear c11
    try clear c11b0
    try clear c11b1
    obtain ⟨kq, x8_2, rfl, HA, HJ2, HI0, HK, HB⟩ := hcut
    cases kq with
    | zero => exact absurd HA.out (by simp [spec_reader_escape.j0])
    | succ kj2 =>
      have H := HA.out
      clear HA
      simp only [spec_reader_escape.j0] at H
      by_cases c12 : x8_2 = true
      · subst c12
        have H1 : (some (true, t102, wrap64 (t103 + 1))) = some (r1, r2, r3) := by rw [if_pos rfl] at H; exact H
        clear H
        have H := H1
        clear H1
        simp only [Option.some.injEq, Prod.mk.injEq] at H
        obtain ⟨rfl, rfl, rfl⟩ := H
        obtain ⟨HGz13, hgz13⟩ := HI0.out
        have hcz13_0 := cellS36_0 HGz13
        have hcz13_1 := cellS36_1 HGz13
        have hfz13_0 := xf HGz13 0
        have hfz13_1 := xf HGz13 1
        clear HGz13 hgz13
        go_wp2
        go_ret
        exact ⟨by first | rfl | (simp [errW_none, errW_some] <;> rfl) | (simp [*, errW_none, errW_some] <;> rfl), by repeat (first | (with_reducible first | exact HI0.out | apply I6.a | apply I6.n | apply I6.d | apply I6.x | apply I6.y) | exact HI0.out), by repeat (first | (with_reducible first | exact HB.out | apply ba | apply bn | apply bw | refine bs ?_ (I6.g HI0.out)) | exact HB.out), by repeat (first | (with_reducible first | exact HK.out | apply ks | apply kn | apply kd | apply ka) | exact HK.out)⟩
      · replace c12 := Bool.eq_false_iff.mpr c12
        subst c12
        have H1 : (if t101 = 117 then (spec_reader_escape.l0 kj2 0 t102 (wrap64 (t103 + 1))) else (some (false, t102, t103))) = some (r1, r2, r3) := by rw [if_neg (show ¬ (false = true) by decide)] at H; exact H
        clear H
        have H := H1
        clear H1
        by_cases c14 : t101 = 117
        · rw [if_pos c14] at H
          have c14b0 : (t101 == 117) = true := beq_iff_eq.mpr c14
          have c14b1 : (t101 != 117) = false := bne_eq_false_iff_eq.mpr c14
          clear c14
          have H' := am H
          clear H
          obtain ⟨HGz15, hgz15⟩ := HI0.out
          have hcz15_0 := cellS36_0 HGz15
          have hcz15_1 := cellS36_1 HGz15
          have hfz15_0 := xf HGz15 0
          have hfz15_1 := xf HGz15 1
          clear HGz15 hgz15
          go_wp2
          try simp only [Act.put, List.setIfInBounds_toArray, List.set_cons_succ, List.set_cons_zero]
          go_loopg [3] kj2 (fun kq v3 w' => ∃ (x3_2 : Int) (x1000_2 : ByteArray) (x1001_2 : Int), v3 = .int .i64 x3_2 ∧ Aside0 (spec_reader_escape.l0 kq x3_2 x1000_2 x1001_2 = some (r1, r2, r3)) ∧ Aside0 (kq ≤ kj2) ∧ Aside0 (I6 w0 w' g x1000_2 x1001_2) ∧ Aside0 (KeepBut w w' g none) ∧ Aside0 (Below w0.heap.size w0 w'))
          case atStart => exact ⟨(0), (t102), (wrap64 (t103 + 1)), (by first | rfl | (simp; done) | (simp [*]; done)), H', ⟨Nat.le_refl _⟩, ⟨by repeat (first | (with_reducible first | exact HI0.out | apply I6.a | apply I6.n | apply I6.d | apply I6.x | apply I6.y) | exact HI0.out)⟩, ⟨by repeat (first | (with_reducible first | exact HK.out | apply ks | apply kn | apply kd | apply ka) | exact HK.out)⟩, ⟨by repeat (first | (with_reducible first | exact HB.out | apply ba | apply bn | apply bw | refine bs ?_ (I6.g HI0.out)) | exact HB.out)⟩⟩
          case round =>
            clear H'
            try clear c1
            try clear c2
            try clear p2
            try clear c5
            try clear c5b0
            try clear c5b1
            try clear c6
            try clear c6b0
            try clear c6b1
            try clear p6
            try clear c7
            try clear c7b0
            try clear c7b1
            try clear c8
            try clear c8b0
            try clear c8b1
            try clear c9
            try clear c9b0
            try clear c9b1
            try clear c10
            try clear c10b0
            try clear c10b1
            try clear c11
            try clear c11b0
            try clear c11b1
            try clear c12
            try clear c14
            try clear c14b0
            try clear c14b1
            try clear hcz13_0
            try clear hcz13_1
            try clear hcz15_0
            try clear hcz15_1
            try clear hfz13_0
            try clear hfz13_1
            try clear hfz15_0
            try clear hfz15_1
            try clear p2
            obtain ⟨x3_2, x1000_2, x1001_2, rfl, HA, HK2, HI0, HK, HB⟩ := hrel
            cases gk with
            | zero => exact absurd HA.out (by simp [spec_reader_escape.l0])
            | succ k2 =>
              have H := HA.out
              clear HA
              simp only [spec_reader_escape.l0] at H
              by_cases c16 : x3_2 < 4
              · rw [if_pos c16] at H
                have c16b0 : decide (x3_2 < 4) = true := decide_eq_true c16
                clear c16
                replace H := Option.bind_eq_some_iff.mp H
                obtain ⟨⟨t104, t105, t106⟩, A170, H⟩ := H
                replace H : ((spec_hexDigit.f k2 t104).bind fun bt107 => (if bt107.2 = true then (spec_reader_escape.l0 k2 (wrap64 (x3_2 + 1)) t105 (wrap64 (t106 + 1))) else (some (false, t105, t106)))) = some (r1, r2, r3) := H
                have A17 := am A170
                clear A170
                replace H := Option.bind_eq_some_iff.mp H
                obtain ⟨⟨t107, t108⟩, A180, H⟩ := H
                replace H : (if t108 = true then (spec_reader_escape.l0 k2 (wrap64 (x3_2 + 1)) t105 (wrap64 (t106 + 1))) else (some (false, t105, t106))) = some (r1, r2, r3) := H
                have A18 := am A180
                clear A180
                by_cases c19 : t108 = true
                · subst c19
                  have H1 : (spec_reader_escape.l0 k2 (wrap64 (x3_2 + 1)) t105 (wrap64 (t106 + 1))) = some (r1, r2, r3) := by rw [if_pos rfl] at H; exact H
                  clear H
                  have H := H1
                  clear H1
                  have H' := am H
                  clear H
                  go_wp2_with (first | ((with_reducible refine gate_callee (f := 11) rfl ?_); refine goesL_ (some 39) rfl rfl Tryd.func11 (by kernel_rfl) rfl #[.pointer (some ⟨g, 0, none⟩)] rfl (by (try simp only [List.map_toArray, List.map_cons, List.map_nil]); first | done | rfl | (simp only [List.length_drop, List.length_take]; rfl)) ?_; (with_reducible refine (spec_reader_here.calls g x1000_2 x1001_2 t104 t105 t106 w0 _ ?side1 ?side2 A17.out).mono ?_); (case side1 => repeat (first | (with_reducible first | exact HI0.out | apply I6.a | apply I6.n | apply I6.d | apply I6.x | apply I6.y) | exact HI0.out)); (case side2 => repeat (first | (with_reducible first | exact HB.out | apply ba | apply bn | apply bw | refine bs ?_ (I6.g HI0.out)) | exact HB.out)); rintro e w20 ⟨rfl, hi, hb, hk⟩; refine ⟨_, rfl, ?_⟩; have n0_ := am (KeepBut.trans (by repeat (first | (with_reducible first | exact HK.out | apply ks | apply kn | apply kd | apply ka) | exact HK.out)) hk (.inl rfl)); have n1_ := am (hb); have n2_ := am (hi); clear HK; clear HB; clear HI0; have HK := n0_; have HB := n1_; have HI0 := n2_; clear n0_ n1_ n2_; (try clear hb); (try clear hb2); (try clear hk); (try clear hi)) | ((with_reducible refine gate_callee (f := 32) rfl ?_); refine goesL_ (some 40) rfl rfl Tryd.func32 (by kernel_rfl) rfl #[.int .u8 t104] rfl (by (try simp only [List.map_toArray, List.map_cons, List.map_nil]); first | done | rfl | (simp only [List.length_drop, List.length_take]; rfl)) ?_; (with_reducible refine (spec_hexDigit.calls k2 t104 t107 true _ A18.out).mono ?_); rintro e w' ⟨rfl, ⟨nd, rfl⟩⟩; refine ⟨_, rfl, ?_⟩; (try (rw [drewN_self w20]; generalize hq_ : World.drewN w20 _ = w20; have n0_ : Aside0 (I6 w0 w20 g t105 t106) := ⟨by rw [← hq_]; exact (by repeat (first | (with_reducible first | exact HI0.out | apply I6.a | apply I6.n | apply I6.d | apply I6.x | apply I6.y) | exact HI0.out))⟩; have n1_ : Aside0 (KeepBut w w20 g none) := ⟨by rw [← hq_]; exact (by repeat (first | (with_reducible first | exact HK.out | apply ks | apply kn | apply kd | apply ka) | exact HK.out))⟩; have n2_ : Aside0 (Below w0.heap.size w0 w20) := ⟨by rw [← hq_]; exact (by repeat (first | (with_reducible first | exact HB.out | apply ba | apply bn | apply bw | refine bs ?_ (I6.g HI0.out)) | exact HB.out))⟩; clear HI0 HK HB hq_; have HI0 := n0_; have HK := n1_; have HB := n2_; clear n0_ n1_ n2_)); obtain ⟨HGz21, hgz21⟩ := HI0.out; have hcz21_0 := cellS36_0 HGz21; have hcz21_1 := cellS36_1 HGz21; have hfz21_0 := xf HGz21 0; have hfz21_1 := xf HGz21 1; clear HGz21 hgz21))
                  go_roundg k2
                  case measure => have := HJ2.out; have := HK2.out; omega
                  case rel => exact ⟨(wrap64 (x3_2 + 1)), (t105), (wrap64 (t106 + 1)), (by first | rfl | (simp; done) | (simp [*]; done)), H', ⟨by have := HJ2.out; have := HK2.out; omega⟩, ⟨by repeat (first | (with_reducible first | exact HI0.out | apply I6.a | apply I6.n | apply I6.d | apply I6.x | apply I6.y) | exact HI0.out)⟩, ⟨by repeat (first | (with_reducible first | exact HK.out | apply ks | apply kn | apply kd | apply ka) | exact HK.out)⟩, ⟨by repeat (first | (with_reducible first | exact HB.out | apply ba | apply bn | apply bw | refine bs ?_ (I6.g HI0.out)) | exact HB.out)⟩⟩
                · replace c19 := Bool.eq_false_iff.mpr c19
                  subst c19
                  have H1 : (some (false, t105, t106)) = some (r1, r2, r3) := by rw [if_neg (show ¬ (false = true) by decide)] at H; exact H
                  clear H
                  have H := H1
                  clear H1
                  simp only [Option.some.injEq, Prod.mk.injEq] at H
                  obtain ⟨rfl, rfl, rfl⟩ := H
                  go_wp2_with (first | ((with_reducible refine gate_callee (f := 11) rfl ?_); refine goesL_ (some 39) rfl rfl Tryd.func11 (by kernel_rfl) rfl #[.pointer (some ⟨g, 0, none⟩)] rfl (by (try simp only [List.map_toArray, List.map_cons, List.map_nil]); first | done | rfl | (simp only [List.length_drop, List.length_take]; rfl)) ?_; (with_reducible refine (spec_reader_here.calls g x1000_2 x1001_2 t104 t105 t106 w0 _ ?side1 ?side2 A17.out).mono ?_); (case side1 => repeat (first | (with_reducible first | exact HI0.out | apply I6.a | apply I6.n | apply I6.d | apply I6.x | apply I6.y) | exact HI0.out)); (case side2 => repeat (first | (with_reducible first | exact HB.out | apply ba | apply bn | apply bw | refine bs ?_ (I6.g HI0.out)) | exact HB.out)); rintro e w22 ⟨rfl, hi, hb, hk⟩; refine ⟨_, rfl, ?_⟩; have n0_ := am (KeepBut.trans (by repeat (first | (with_reducible first | exact HK.out | apply ks | apply kn | apply kd | apply ka) | exact HK.out)) hk (.inl rfl)); have n1_ := am (hb); have n2_ := am (hi); clear HK; clear HB; clear HI0; have HK := n0_; have HB := n1_; have HI0 := n2_; clear n0_ n1_ n2_; (try clear hb); (try clear hb2); (try clear hk); (try clear hi)) | ((with_reducible refine gate_callee (f := 32) rfl ?_); refine goesL_ (some 40) rfl rfl Tryd.func32 (by kernel_rfl) rfl #[.int .u8 t104] rfl (by (try simp only [List.map_toArray, List.map_cons, List.map_nil]); first | done | rfl | (simp only [List.length_drop, List.length_take]; rfl)) ?_; (with_reducible refine (spec_hexDigit.calls k2 t104 t107 false _ A18.out).mono ?_); rintro e w' ⟨rfl, ⟨nd, rfl⟩⟩; refine ⟨_, rfl, ?_⟩))
                  go_ret
                  exact ⟨by first | rfl | (simp [errW_none, errW_some] <;> rfl) | (simp [*, errW_none, errW_some] <;> rfl), by repeat (first | (with_reducible first | exact HI0.out | apply I6.a | apply I6.n | apply I6.d | apply I6.x | apply I6.y) | exact HI0.out), by repeat (first | (with_reducible first | exact HB.out | apply ba | apply bn | apply bw | refine bs ?_ (I6.g HI0.out)) | exact HB.out), by repeat (first | (with_reducible first | exact HK.out | apply ks | apply kn | apply kd | apply ka) | exact HK.out)⟩
              · rw [if_neg c16] at H
                have c16b0 : decide (x3_2 < 4) = false := decide_eq_false c16
                clear c16
                simp only [Option.some.injEq, Prod.mk.injEq] at H
                obtain ⟨rfl, rfl, rfl⟩ := H
                go_wp2
                go_ret
                exact ⟨by first | rfl | (simp [errW_none, errW_some] <;> rfl) | (simp [*, errW_none, errW_some] <;> rfl), by repeat (first | (with_reducible first | exact HI0.out | apply I6.a | apply I6.n | apply I6.d | apply I6.x | apply I6.y) | exact HI0.out), by repeat (first | (with_reducible first | exact HB.out | apply ba | apply bn | apply bw | refine bs ?_ (I6.g HI0.out)) | exact HB.out), by repeat (first | (with_reducible first | exact HK.out | apply ks | apply kn | apply kd | apply ka) | exact HK.out)⟩
        · rw [if_neg c14] at H
          have c14b0 : (t101 == 117) = false := beq_eq_false_iff_ne.mpr c14
          have c14b1 : (t101 != 117) = true := bne_iff_ne.mpr c14
          simp only [Option.some.injEq, Prod.mk.injEq] at H
          obtain ⟨rfl, rfl, rfl⟩ := H
          go_wp2
          go_ret
          exact ⟨by first | rfl | (simp [errW_none, errW_some] <;> rfl) | (simp [*, errW_none, errW_some] <;> rfl), by repeat (first | (with_reducible first | exact HI0.out | apply I6.a | apply I6.n | apply I6.d | apply I6.x | apply I6.y) | exact HI0.out), by repeat (first | (with_reducible first | exact HB.out | apply ba | apply bn | apply bw | refine bs ?_ (I6.g HI0.out)) | exact HB.out), by repeat (first | (with_reducible first | exact HK.out | apply ks | apply kn | apply kd | apply ka) | exact HK.out)⟩

/-! ### spec_reader_quoted: function 14 -/
def spec_reader_quoted.l0 : Nat → ByteArray → Int → Option (Bool × ByteArray × Int)
  | 0, _, _ => none
  | k + 1, x1000, x1001 => if x1001 < (x1000.size : Int) then (if 0 ≤ x1001 then (if (bt x1000 x1001) = 34 then (some (true, x1000, wrap64 (x1001 + 1))) else (if (bt x1000 x1001) < 32 then (some (false, x1000, wrap64 (x1001 + 1))) else (if (bt x1000 x1001) = 92 then ((spec_reader_escape.f k x1000 (wrap64 (x1001 + 1))).bind fun bt109 => (if bt109.1 = true then (spec_reader_quoted.l0 k bt109.2.1 bt109.2.2) else (some (false, bt109.2.1, bt109.2.2)))) else (spec_reader_quoted.l0 k x1000 (wrap64 (x1001 + 1)))))) else (none)) else (some (false, x1000, x1001))
def spec_reader_quoted.f (k : Nat) (s0_0 : ByteArray) (s0_1 : Int) : Option (Bool × ByteArray × Int) := spec_reader_quoted.l0 k s0_0 (wrap64 (s0_1 + 1))
theorem spec_reader_quoted.mono_l : ∀ k, (∀ y0 y1, LeO (spec_reader_quoted.l0 k y0 y1) (spec_reader_quoted.l0 (k + 1) y0 y1))
  | 0 => fun _ _ r h => by simp [spec_reader_quoted.l0] at h
  | k + 1 => by
    have ih0 := spec_reader_quoted.mono_l k
    · intro y0 y1
      unfold spec_reader_quoted.l0
      repeat' first
      | (with_reducible exact ih0 _ _)
      | (with_reducible exact spec_reader_escape.mono _ _ _)
      | (with_reducible exact LeO.refl _)
      | (with_reducible exact LeO.none _)
      | (with_reducible refine LeO.ite ?_ ?_)
      | (with_reducible refine LeO.bind ?_ (fun _ => ?_))
      | exact ih0 _ _
      | exact spec_reader_escape.mono _ _ _
      | exact LeO.none _
      | refine LeO.ite ?_ ?_
      | refine LeO.bind ?_ (fun _ => ?_)
theorem spec_reader_quoted.mono : ∀ a0 a1 k, LeO (spec_reader_quoted.f k a0 a1) (spec_reader_quoted.f (k + 1) a0 a1) := by
  intro a0 a1 k
  have ih0 := spec_reader_quoted.mono_l k
  unfold spec_reader_quoted.f
  repeat' first
      | (with_reducible exact ih0 _ _)
      | (with_reducible exact spec_reader_escape.mono _ _ _)
      | (with_reducible exact LeO.refl _)
      | (with_reducible exact LeO.none _)
      | (with_reducible refine LeO.ite ?_ ?_)
      | (with_reducible refine LeO.bind ?_ (fun _ => ?_))
      | exact ih0 _ _
      | exact spec_reader_escape.mono _ _ _
      | exact LeO.none _
      | refine LeO.ite ?_ ?_
      | refine LeO.bind ?_ (fun _ => ?_)
set_option maxHeartbeats 8000000 in
set_option maxRecDepth 100000 in
theorem spec_reader_quoted.calls (k : Nat) (g : Nat) (s0_0 : ByteArray) (s0_1 : Int) (r1 : Bool) (r2 : ByteArray) (r3 : Int) (w0 w : World) (hI : I6 w0 w g s0_0 s0_1) (hB : Below w0.heap.size w0 w) (h : spec_reader_quoted.f k s0_0 s0_1 = some (r1, r2, r3)) :
    Calls Tryd.prog 14 #[.pointer (some ⟨g, 0, none⟩)] w fun e w' => e = .returned (.bool r1) ∧ I6 w0 w' g r2 r3 ∧ Below w0.heap.size w0 w' ∧ KeepBut w w' g none := by
  have HI0 := am hI
  have HK := am (KeepBut.refl w g none)
  have HL := am hB.size
  clear hI
  have HW0 := am hB.size
  have HB := am hB
  clear hB
  have H : (spec_reader_quoted.l0 k s0_0 (wrap64 (s0_1 + 1))) = some (r1, r2, r3) := h
  clear h
  have H' := am H
  clear H
  obtain ⟨HGz2, hgz2⟩ := HI0.out
  have hcz2_0 := cellS36_0 HGz2
  have hcz2_1 := cellS36_1 HGz2
  have hfz2_0 := xf HGz2 0
  have hfz2_1 := xf HGz2 1
  clear HGz2 hgz2
  go_enter Tryd.func14, Tryd.ntmps14
  go_wp2
  repeat (go_quiet (fail); try go_wp2)
  try simp only [Act.put, List.setIfInBounds_toArray, List.set_cons_succ, List.set_cons_zero]
  go_loopg [] k (fun kq w' => ∃ (x1000_1 : ByteArray) (x1001_1 : Int), Aside0 (spec_reader_quoted.l0 kq x1000_1 x1001_1 = some (r1, r2, r3)) ∧ Aside0 (kq ≤ k) ∧ Aside0 (I6 w0 w' g x1000_1 x1001_1) ∧ Aside0 (KeepBut w w' g none) ∧ Aside0 (Below w0.heap.size w0 w'))
  case atStart => exact ⟨(s0_0), (wrap64 (s0_1 + 1)), H', ⟨Nat.le_refl _⟩, ⟨by repeat (first | (with_reducible first | exact HI0.out | apply I6.a | apply I6.n | apply I6.d | apply I6.x | apply I6.y) | exact HI0.out)⟩, ⟨by repeat (first | (with_reducible first | exact HK.out | apply ks | apply kn | apply kd | apply ka) | exact HK.out)⟩, ⟨by repeat (first | (with_reducible first | exact HB.out | apply ba | apply bn | apply bw | refine bs ?_ (I6.g HI0.out)) | exact HB.out)⟩⟩
  case round =>
    clear H'
    try clear c1
    try clear p2
    try clear hcz2_0
    try clear hcz2_1
    try clear hfz2_0
    try clear hfz2_1
    obtain ⟨x1000_1, x1001_1, HA, HK1, HI0, HK, HB⟩ := hrel
    cases gk with
    | zero => exact absurd HA.out (by simp [spec_reader_quoted.l0])
    | succ k1 =>
      have H := HA.out
      clear HA
      simp only [spec_reader_quoted.l0] at H
      by_cases c3 : x1001_1 < (x1000_1.size : Int)
      · rw [if_pos c3] at H
        have c3b0 : decide (x1001_1 < (x1000_1.size : Int)) = true := decide_eq_true c3
        clear c3
        by_cases c4 : 0 ≤ x1001_1
        · rw [if_pos c4] at H
          have c4b0 : decide (0 ≤ x1001_1) = true := decide_eq_true c4
          clear c4
          by_cases c6 : (bt x1000_1 x1001_1) = 34
          · rw [if_pos c6] at H
            have c6b0 : ((bt x1000_1 x1001_1) == 34) = true := beq_iff_eq.mpr c6
            have c6b1 : ((bt x1000_1 x1001_1) != 34) = false := bne_eq_false_iff_eq.mpr c6
            clear c6
            simp only [Option.some.injEq, Prod.mk.injEq] at H
            obtain ⟨rfl, rfl, rfl⟩ := H
            obtain ⟨HGz7, hgz7⟩ := HI0.out
            have hcz7_0 := cellS36_0 HGz7
            have hcz7_1 := cellS36_1 HGz7
            have hfz7_0 := xf HGz7 0
            have hfz7_1 := xf HGz7 1
            clear HGz7 hgz7
            have p5 : 0 ≤ (x1001_1 : Int) := of_decide_eq_true (by first | (with_reducible assumption) | assumption)
            have q5 : x1001_1 < (x1000_1.size : Int) := of_decide_eq_true (by first | (with_reducible assumption) | assumption)
            have hx5 := bt_at x1000_1 x1001_1
            replace p5 := eq_true p5
            replace q5 := eq_true q5
            go_wp2
            repeat (go_quiet (fail); try go_wp2)
            go_ret
            exact ⟨by first | rfl | (simp [errW_none, errW_some] <;> rfl) | (simp [*, errW_none, errW_some] <;> rfl), by repeat (first | (with_reducible first | exact HI0.out | apply I6.a | apply I6.n | apply I6.d | apply I6.x | apply I6.y) | exact HI0.out), by repeat (first | (with_reducible first | exact HB.out | apply ba | apply bn | apply bw | refine bs ?_ (I6.g HI0.out)) | exact HB.out), by repeat (first | (with_reducible first | exact HK.out | apply ks | apply kn | apply kd | apply ka) | exact HK.out)⟩
          · rw [if_neg c6] at H
            have c6b0 : ((bt x1000_1 x1001_1) == 34) = false := beq_eq_false_iff_ne.mpr c6
            have c6b1 : ((bt x1000_1 x1001_1) != 34) = true := bne_iff_ne.mpr c6
            by_cases c8 : (bt x1000_1 x1001_1) < 32
            · rw [if_pos c8] at H
              have c8b0 : decide ((bt x1000_1 x1001_1) < 32) = true := decide_eq_true c8
              clear c8
              simp only [Option.some.injEq, Prod.mk.injEq] at H
              obtain ⟨rfl, rfl, rfl⟩ := H
              obtain ⟨HGz9, hgz9⟩ := HI0.out
              have hcz9_0 := cellS36_0 HGz9
              have hcz9_1 := cellS36_1 HGz9
              have hfz9_0 := xf HGz9 0
              have hfz9_1 := xf HGz9 1
              clear HGz9 hgz9
              have p5 : 0 ≤ (x1001_1 : Int) := of_decide_eq_true (by first | (with_reducible assumption) | assumption)
              have q5 : x1001_1 < (x1000_1.size : Int) := of_decide_eq_true (by first | (with_reducible assumption) | assumption)
              have hx5 := bt_at x1000_1 x1001_1
              replace p5 := eq_true p5
              replace q5 := eq_true q5
              go_wp2
              repeat (go_quiet (fail); try go_wp2)
              go_ret
              exact ⟨by first | rfl | (simp [errW_none, errW_some] <;> rfl) | (simp [*, errW_none, errW_some] <;> rfl), by repeat (first | (with_reducible first | exact HI0.out | apply I6.a | apply I6.n | apply I6.d | apply I6.x | apply I6.y) | exact HI0.out), by repeat (first | (with_reducible first | exact HB.out | apply ba | apply bn | apply bw | refine bs ?_ (I6.g HI0.out)) | exact HB.out), by repeat (first | (with_reducible first | exact HK.out | apply ks | apply kn | apply kd | apply ka) | exact HK.out)⟩
            · rw [if_neg c8] at H
              have c8b0 : decide ((bt x1000_1 x1001_1) < 32) = false := decide_eq_false c8
              clear c8
              by_cases c10 : (bt x1000_1 x1001_1) = 92
              · rw [if_pos c10] at H
                have c10b0 : ((bt x1000_1 x1001_1) == 92) = true := beq_iff_eq.mpr c10
                have c10b1 : ((bt x1000_1 x1001_1) != 92) = false := bne_eq_false_iff_eq.mpr c10
                clear c10
                replace H := Option.bind_eq_some_iff.mp H
                obtain ⟨⟨t109, t110, t111⟩, A110, H⟩ := H
                replace H : (if t109 = true then (spec_reader_quoted.l0 k1 t110 t111) else (some (false, t110, t111))) = some (r1, r2, r3) := H
                have A11 := am A110
                clear A110
                by_cases c12 : t109 = true
                · subst c12
                  have H1 : (spec_reader_quoted.l0 k1 t110 t111) = some (r1, r2, r3) := by rw [if_pos rfl] at H; exact H
                  clear H
                  have H := H1
                  clear H1
                  have H' := am H
                  clear H
                  obtain ⟨HGz13, hgz13⟩ := HI0.out
                  have hcz13_0 := cellS36_0 HGz13
                  have hcz13_1 := cellS36_1 HGz13
                  have hfz13_0 := xf HGz13 0
                  have hfz13_1 := xf HGz13 1
                  clear HGz13 hgz13
                  have p5 : 0 ≤ (x1001_1 : Int) := of_decide_eq_true (by first | (with_reducible assumption) | assumption)
                  have q5 : x1001_1 < (x1000_1.size : Int) := of_decide_eq_true (by first | (with_reducible assumption) | assumption)
                  have hx5 := bt_at x1000_1 x1001_1
                  replace p5 := eq_true p5
                  replace q5 := eq_true q5
                  go_wp2_with (first | (go_at_call 24; (with_reducible refine (spec_reader_escape.calls k1 g x1000_1 (wrap64 (x1001_1 + 1)) true t110 t111 w0 _ ?side1 ?side2 A11.out).mono ?_); (case side1 => repeat (first | (with_reducible first | exact HI0.out | apply I6.a | apply I6.n | apply I6.d | apply I6.x | apply I6.y) | exact HI0.out)); (case side2 => repeat (first | (with_reducible first | exact HB.out | apply ba | apply bn | apply bw | refine bs ?_ (I6.g HI0.out)) | exact HB.out)); rintro e w14 ⟨rfl, hi, hb, hk⟩; have n0_ := am (KeepBut.trans (by repeat (first | (with_reducible first | exact HK.out | apply ks | apply kn | apply kd | apply ka) | exact HK.out)) hk (.inl rfl)); have n1_ := am (hb); have n2_ := am (hi); clear HK; clear HB; clear HI0; have HK := n0_; have HB := n1_; have HI0 := n2_; clear n0_ n1_ n2_; (try clear hb); (try clear hb2); (try clear hk); (try clear hi)))
                  repeat (go_quiet (first | (go_at_call 24; (with_reducible refine (spec_reader_escape.calls k1 g x1000_1 (wrap64 (x1001_1 + 1)) true t110 t111 w0 _ ?side1 ?side2 A11.out).mono ?_); (case side1 => repeat (first | (with_reducible first | exact HI0.out | apply I6.a | apply I6.n | apply I6.d | apply I6.x | apply I6.y) | exact HI0.out)); (case side2 => repeat (first | (with_reducible first | exact HB.out | apply ba | apply bn | apply bw | refine bs ?_ (I6.g HI0.out)) | exact HB.out)); rintro e w14 ⟨rfl, hi, hb, hk⟩; have n0_ := am (KeepBut.trans (by repeat (first | (with_reducible first | exact HK.out | apply ks | apply kn | apply kd | apply ka) | exact HK.out)) hk (.inl rfl)); have n1_ := am (hb); have n2_ := am (hi); clear HK; clear HB; clear HI0; have HK := n0_; have HB := n1_; have HI0 := n2_; clear n0_ n1_ n2_; (try clear hb); (try clear hb2); (try clear hk); (try clear hi))); try go_wp2_with (first | (go_at_call 24; (with_reducible refine (spec_reader_escape.calls k1 g x1000_1 (wrap64 (x1001_1 + 1)) true t110 t111 w0 _ ?side1 ?side2 A11.out).mono ?_); (case side1 => repeat (first | (with_reducible first | exact HI0.out | apply I6.a | apply I6.n | apply I6.d | apply I6.x | apply I6.y) | exact HI0.out)); (case side2 => repeat (first | (with_reducible first | exact HB.out | apply ba | apply bn | apply bw | refine bs ?_ (I6.g HI0.out)) | exact HB.out)); rintro e w14 ⟨rfl, hi, hb, hk⟩; have n0_ := am (KeepBut.trans (by repeat (first | (with_reducible first | exact HK.out | apply ks | apply kn | apply kd | apply ka) | exact HK.out)) hk (.inl rfl)); have n1_ := am (hb); have n2_ := am (hi); clear HK; clear HB; clear HI0; have HK := n0_; have HB := n1_; have HI0 := n2_; clear n0_ n1_ n2_; (try clear hb); (try clear hb2); (try clear hk); (try clear hi))))
                  go_roundg k1
                  case measure => have := HK1.out; omega
                  case rel => exact ⟨(t110), (t111), H', ⟨by have := HK1.out; omega⟩, ⟨by repeat (first | (with_reducible first | exact HI0.out | apply I6.a | apply I6.n | apply I6.d | apply I6.x | apply I6.y) | exact HI0.out)⟩, ⟨by repeat (first | (with_reducible first | exact HK.out | apply ks | apply kn | apply kd | apply ka) | exact HK.out)⟩, ⟨by repeat (first | (with_reducible first | exact HB.out | apply ba | apply bn | apply bw | refine bs ?_ (I6.g HI0.out)) | exact HB.out)⟩⟩
                · replace c12 := Bool.eq_false_iff.mpr c12
                  subst c12
                  have H1 : (some (false, t110, t111)) = some (r1, r2, r3) := by rw [if_neg (show ¬ (false = true) by decide)] at H; exact H
                  clear H
                  have H := H1
                  clear H1
                  simp only [Option.some.injEq, Prod.mk.injEq] at H
                  obtain ⟨rfl, rfl, rfl⟩ := H
                  obtain ⟨HGz15, hgz15⟩ := HI0.out
                  have hcz15_0 := cellS36_0 HGz15
                  have hcz15_1 := cellS36_1 HGz15
                  have hfz15_0 := xf HGz15 0
                  have hfz15_1 := xf HGz15 1
                  clear HGz15 hgz15
                  have p5 : 0 ≤ (x1001_1 : Int) := of_decide_eq_true (by first | (with_reducible assumption) | assumption)
                  have q5 : x1001_1 < (x1000_1.size : Int) := of_decide_eq_true (by first | (with_reducible assumption) | assumption)
                  have hx5 := bt_at x1000_1 x1001_1
                  replace p5 := eq_true p5
                  replace q5 := eq_true q5
                  go_wp2_with (first | (go_at_call 24; (with_reducible refine (spec_reader_escape.calls k1 g x1000_1 (wrap64 (x1001_1 + 1)) false t110 t111 w0 _ ?side1 ?side2 A11.out).mono ?_); (case side1 => repeat (first | (with_reducible first | exact HI0.out | apply I6.a | apply I6.n | apply I6.d | apply I6.x | apply I6.y) | exact HI0.out)); (case side2 => repeat (first | (with_reducible first | exact HB.out | apply ba | apply bn | apply bw | refine bs ?_ (I6.g HI0.out)) | exact HB.out)); rintro e w16 ⟨rfl, hi, hb, hk⟩; have n0_ := am (KeepBut.trans (by repeat (first | (with_reducible first | exact HK.out | apply ks | apply kn | apply kd | apply ka) | exact HK.out)) hk (.inl rfl)); have n1_ := am (hb); have n2_ := am (hi); clear HK; clear HB; clear HI0; have HK := n0_; have HB := n1_; have HI0 := n2_; clear n0_ n1_ n2_; (try clear hb); (try clear hb2); (try clear hk); (try clear hi)))
                  repeat (go_quiet (first | (go_at_call 24; (with_reducible refine (spec_reader_escape.calls k1 g x1000_1 (wrap64 (x1001_1 + 1)) false t110 t111 w0 _ ?side1 ?side2 A11.out).mono ?_); (case side1 => repeat (first | (with_reducible first | exact HI0.out | apply I6.a | apply I6.n | apply I6.d | apply I6.x | apply I6.y) | exact HI0.out)); (case side2 => repeat (first | (with_reducible first | exact HB.out | apply ba | apply bn | apply bw | refine bs ?_ (I6.g HI0.out)) | exact HB.out)); rintro e w16 ⟨rfl, hi, hb, hk⟩; have n0_ := am (KeepBut.trans (by repeat (first | (with_reducible first | exact HK.out | apply ks | apply kn | apply kd | apply ka) | exact HK.out)) hk (.inl rfl)); have n1_ := am (hb); have n2_ := am (hi); clear HK; clear HB; clear HI0; have HK := n0_; have HB := n1_; have HI0 := n2_; clear n0_ n1_ n2_; (try clear hb); (try clear hb2); (try clear hk); (try clear hi))); try go_wp2_with (first | (go_at_call 24; (with_reducible refine (spec_reader_escape.calls k1 g x1000_1 (wrap64 (x1001_1 + 1)) false t110 t111 w0 _ ?side1 ?side2 A11.out).mono ?_); (case side1 => repeat (first | (with_reducible first | exact HI0.out | apply I6.a | apply I6.n | apply I6.d | apply I6.x | apply I6.y) | exact HI0.out)); (case side2 => repeat (first | (with_reducible first | exact HB.out | apply ba | apply bn | apply bw | refine bs ?_ (I6.g HI0.out)) | exact HB.out)); rintro e w16 ⟨rfl, hi, hb, hk⟩; have n0_ := am (KeepBut.trans (by repeat (first | (with_reducible first | exact HK.out | apply ks | apply kn | apply kd | apply ka) | exact HK.out)) hk (.inl rfl)); have n1_ := am (hb); have n2_ := am (hi); clear HK; clear HB; clear HI0; have HK := n0_; have HB := n1_; have HI0 := n2_; clear n0_ n1_ n2_; (try clear hb); (try clear hb2); (try clear hk); (try clear hi))))
                  go_ret
                  exact ⟨by first | rfl | (simp [errW_none, errW_some] <;> rfl) | (simp [*, errW_none, errW_some] <;> rfl), by repeat (first | (with_reducible first | exact HI0.out | apply I6.a | apply I6.n | apply I6.d | apply I6.x | apply I6.y) | exact HI0.out), by repeat (first | (with_reducible first | exact HB.out | apply ba | apply bn | apply bw | refine bs ?_ (I6.g HI0.out)) | exact HB.out), by repeat (first | (with_reducible first | exact HK.out | apply ks | apply kn | apply kd | apply ka) | exact HK.out)⟩
              · rw [if_neg c10] at H
                have c10b0 : ((bt x1000_1 x1001_1) == 92) = false := beq_eq_false_iff_ne.mpr c10
                have c10b1 : ((bt x1000_1 x1001_1) != 92) = true := bne_iff_ne.mpr c10
                have H' := am H
                clear H
                obtain ⟨HGz17, hgz17⟩ := HI0.out
                have hcz17_0 := cellS36_0 HGz17
                have hcz17_1 := cellS36_1 HGz17
                have hfz17_0 := xf HGz17 0
                have hfz17_1 := xf HGz17 1
                clear HGz17 hgz17
                have p5 : 0 ≤ (x1001_1 : Int) := of_decide_eq_true (by first | (with_reducible assumption) | assumption)
                have q5 : x1001_1 < (x1000_1.size : Int) := of_decide_eq_true (by first | (with_reducible assumption) | assumption)
                have hx5 := bt_at x1000_1 x1001_1
                replace p5 := eq_true p5
                replace q5 := eq_true q5
                go_wp2
                repeat (go_quiet (fail); try go_wp2)
                go_roundg k1
                case measure => have := HK1.out; omega
                case rel => exact ⟨(x1000_1), (wrap64 (x1001_1 + 1)), H', ⟨by have := HK1.out; omega⟩, ⟨by repeat (first | (with_reducible first | exact HI0.out | apply I6.a | apply I6.n | apply I6.d | apply I6.x | apply I6.y) | exact HI0.out)⟩, ⟨by repeat (first | (with_reducible first | exact HK.out | apply ks | apply kn | apply kd | apply ka) | exact HK.out)⟩, ⟨by repeat (first | (with_reducible first | exact HB.out | apply ba | apply bn | apply bw | refine bs ?_ (I6.g HI0.out)) | exact HB.out)⟩⟩
        · rw [if_neg c4] at H
          exact absurd H (by simp)
      · rw [if_neg c3] at H
        have c3b0 : decide (x1001_1 < (x1000_1.size : Int)) = false := decide_eq_false c3
        clear c3
        simp only [Option.some.injEq, Prod.mk.injEq] at H
        obtain ⟨rfl, rfl, rfl⟩ := H
        obtain ⟨HGz18, hgz18⟩ := HI0.out
        have hcz18_0 := cellS36_0 HGz18
        have hcz18_1 := cellS36_1 HGz18
        have hfz18_0 := xf HGz18 0
        have hfz18_1 := xf HGz18 1
        clear HGz18 hgz18
        go_wp2
        repeat (go_quiet (fail); try go_wp2)
        go_ret
        exact ⟨by first | rfl | (simp [errW_none, errW_some] <;> rfl) | (simp [*, errW_none, errW_some] <;> rfl), by repeat (first | (with_reducible first | exact HI0.out | apply I6.a | apply I6.n | apply I6.d | apply I6.x | apply I6.y) | exact HI0.out), by repeat (first | (with_reducible first | exact HB.out | apply ba | apply bn | apply bw | refine bs ?_ (I6.g HI0.out)) | exact HB.out), by repeat (first | (with_reducible first | exact HK.out | apply ks | apply kn | apply kd | apply ka) | exact HK.out)⟩

/-! ### spec_Blank: function 31 -/
def spec_Blank.f (a0 : Int) : Option (Bool) := if a0 = 32 then (some true) else (if a0 = 9 then (some true) else (if a0 = 10 then (some true) else (some (a0 == 13))))
set_option maxHeartbeats 8000000 in
set_option maxRecDepth 100000 in
theorem spec_Blank.calls (a0 : Int) (r : Bool) (w : World) (h : spec_Blank.f a0 = some r) :
    Calls Tryd.prog 31 #[.int .u8 a0] w fun e w' => e = .returned (.bool r) ∧ Drawn0 w w' := by
  have H : (if a0 = 32 then (some true) else (if a0 = 9 then (some true) else (if a0 = 10 then (some true) else (some (a0 == 13))))) = some r := h
  clear h
  by_cases c2 : a0 = 32
  · rw [if_pos c2] at H
    have c2b0 : (a0 == 32) = true := beq_iff_eq.mpr c2
    have c2b1 : (a0 != 32) = false := bne_eq_false_iff_eq.mpr c2
    clear c2
    obtain rfl := Option.some.inj H
    go_enter Tryd.func31, Tryd.ntmps31
    go_wp2
    go_ret
    exact ⟨by first | rfl | (simp; done) | (simp [*]; done), by repeat (first | exact Drawn0.refl _ | apply Drawn0.step)⟩
  · rw [if_neg c2] at H
    have c2b0 : (a0 == 32) = false := beq_eq_false_iff_ne.mpr c2
    have c2b1 : (a0 != 32) = true := bne_iff_ne.mpr c2
    by_cases c3 : a0 = 9
    · rw [if_pos c3] at H
      have c3b0 : (a0 == 9) = true := beq_iff_eq.mpr c3
      have c3b1 : (a0 != 9) = false := bne_eq_false_iff_eq.mpr c3
      clear c3
      obtain rfl := Option.some.inj H
      go_enter Tryd.func31, Tryd.ntmps31
      go_wp2
      go_ret
      exact ⟨by first | rfl | (simp; done) | (simp [*]; done), by repeat (first | exact Drawn0.refl _ | apply Drawn0.step)⟩
    · rw [if_neg c3] at H
      have c3b0 : (a0 == 9) = false := beq_eq_false_iff_ne.mpr c3
      have c3b1 : (a0 != 9) = true := bne_iff_ne.mpr c3
      by_cases c4 : a0 = 10
      · rw [if_pos c4] at H
        have c4b0 : (a0 == 10) = true := beq_iff_eq.mpr c4
        have c4b1 : (a0 != 10) = false := bne_eq_false_iff_eq.mpr c4
        clear c4
        obtain rfl := Option.some.inj H
        go_enter Tryd.func31, Tryd.ntmps31
        go_wp2
        go_ret
        exact ⟨by first | rfl | (simp; done) | (simp [*]; done), by repeat (first | exact Drawn0.refl _ | apply Drawn0.step)⟩
      · rw [if_neg c4] at H
        have c4b0 : (a0 == 10) = false := beq_eq_false_iff_ne.mpr c4
        have c4b1 : (a0 != 10) = true := bne_iff_ne.mpr c4
        obtain rfl := Option.some.inj H
        go_enter Tryd.func31, Tryd.ntmps31
        go_wp2
        go_ret
        exact ⟨by first | rfl | (simp; done) | (simp [*]; done), by repeat (first | exact Drawn0.refl _ | apply Drawn0.step)⟩

/-! ### spec_reader_blanks: function 22 -/
def spec_reader_blanks.l0 : Nat → ByteArray → Int → Option (ByteArray × Int)
  | 0, _, _ => none
  | k + 1, x1000, x1001 => if x1001 < (x1000.size : Int) then (if 0 ≤ x1001 then ((spec_Blank.f (bt x1000 x1001)).bind fun t112 => (if t112 = true then (spec_reader_blanks.l0 k x1000 (wrap64 (x1001 + 1))) else (some (x1000, x1001)))) else (none)) else (some (x1000, x1001))
def spec_reader_blanks.f (k : Nat) (s0_0 : ByteArray) (s0_1 : Int) : Option (ByteArray × Int) := spec_reader_blanks.l0 k s0_0 s0_1
theorem spec_reader_blanks.mono_l : ∀ k, (∀ y0 y1, LeO (spec_reader_blanks.l0 k y0 y1) (spec_reader_blanks.l0 (k + 1) y0 y1))
  | 0 => fun _ _ r h => by simp [spec_reader_blanks.l0] at h
  | k + 1 => by
    have ih0 := spec_reader_blanks.mono_l k
    · intro y0 y1
      unfold spec_reader_blanks.l0
      repeat' first
      | (with_reducible exact ih0 _ _)
      | (with_reducible exact LeO.refl _)
      | (with_reducible exact LeO.none _)
      | (with_reducible refine LeO.ite ?_ ?_)
      | (with_reducible refine LeO.bind ?_ (fun _ => ?_))
      | exact ih0 _ _
      | exact LeO.none _
      | refine LeO.ite ?_ ?_
      | refine LeO.bind ?_ (fun _ => ?_)
theorem spec_reader_blanks.mono : ∀ a0 a1 k, LeO (spec_reader_blanks.f k a0 a1) (spec_reader_blanks.f (k + 1) a0 a1) := by
  intro a0 a1 k
  have ih0 := spec_reader_blanks.mono_l k
  unfold spec_reader_blanks.f
  repeat' first
      | (with_reducible exact ih0 _ _)
      | (with_reducible exact LeO.refl _)
      | (with_reducible exact LeO.none _)
      | (with_reducible refine LeO.ite ?_ ?_)
      | (with_reducible refine LeO.bind ?_ (fun _ => ?_))
      | exact ih0 _ _
      | exact LeO.none _
      | refine LeO.ite ?_ ?_
      | refine LeO.bind ?_ (fun _ => ?_)
set_option maxHeartbeats 8000000 in
set_option maxRecDepth 100000 in
theorem spec_reader_blanks.calls (k : Nat) (g : Nat) (s0_0 : ByteArray) (s0_1 : Int) (r1 : ByteArray) (r2 : Int) (w0 w : World) (hI : I6 w0 w g s0_0 s0_1) (hB : Below w0.heap.size w0 w) (h : spec_reader_blanks.f k s0_0 s0_1 = some (r1, r2)) :
    Calls Tryd.prog 22 #[.pointer (some ⟨g, 0, none⟩)] w fun e w' => e = .returned (.tuple #[]) ∧ I6 w0 w' g r1 r2 ∧ Below w0.heap.size w0 w' ∧ KeepBut w w' g none := by
  have HI0 := am hI
  have HK := am (KeepBut.refl w g none)
  have HL := am hB.size
  clear hI
  have HW0 := am hB.size
  have HB := am hB
  clear hB
  have H : (spec_reader_blanks.l0 k s0_0 s0_1) = some (r1, r2) := h
  clear h
  have H' := am H
  clear H
  go_enter Tryd.func22, Tryd.ntmps22
  go_wp2
  repeat (go_quiet (fail); try go_wp2)
  try simp only [Act.put, List.setIfInBounds_toArray, List.set_cons_succ, List.set_cons_zero]
  go_loopg [] k (fun kq w' => ∃ (x1001_1 : Int), Aside0 (spec_reader_blanks.l0 kq s0_0 x1001_1 = some (r1, r2)) ∧ Aside0 (kq ≤ k) ∧ Aside0 (I6 w0 w' g s0_0 x1001_1) ∧ Aside0 (KeepBut w w' g none) ∧ Aside0 (Below w0.heap.size w0 w'))
  case atStart => exact ⟨(s0_1), H', ⟨Nat.le_refl _⟩, ⟨by repeat (first | (with_reducible first | exact HI0.out | apply I6.a | apply I6.n | apply I6.d | apply I6.x | apply I6.y) | exact HI0.out)⟩, ⟨by repeat (first | (with_reducible first | exact HK.out | apply ks | apply kn | apply kd | apply ka) | exact HK.out)⟩, ⟨by repeat (first | (with_reducible first | exact HB.out | apply ba | apply bn | apply bw | refine bs ?_ (I6.g HI0.out)) | exact HB.out)⟩⟩
  case round =>
    clear H'
    obtain ⟨x1001_1, HA, HK1, HI0, HK, HB⟩ := hrel
    cases gk with
    | zero => exact absurd HA.out (by simp [spec_reader_blanks.l0])
    | succ k1 =>
      have H := HA.out
      clear HA
      simp only [spec_reader_blanks.l0] at H
      by_cases c2 : x1001_1 < (s0_0.size : Int)
      · rw [if_pos c2] at H
        have c2b0 : decide (x1001_1 < (s0_0.size : Int)) = true := decide_eq_true c2
        clear c2
        by_cases c3 : 0 ≤ x1001_1
        · rw [if_pos c3] at H
          have c3b0 : decide (0 ≤ x1001_1) = true := decide_eq_true c3
          clear c3
          replace H := Option.bind_eq_some_iff.mp H
          obtain ⟨t112, A50, H⟩ := H
          replace H : (if t112 = true then (spec_reader_blanks.l0 k1 s0_0 (wrap64 (x1001_1 + 1))) else (some (s0_0, x1001_1))) = some (r1, r2) := H
          have A5 := am A50
          clear A50
          by_cases c6 : t112 = true
          · subst c6
            have H1 : (spec_reader_blanks.l0 k1 s0_0 (wrap64 (x1001_1 + 1))) = some (r1, r2) := by rw [if_pos rfl] at H; exact H
            clear H
            have H := H1
            clear H1
            have H' := am H
            clear H
            obtain ⟨HGz7, hgz7⟩ := HI0.out
            have hcz7_0 := cellS36_0 HGz7
            have hcz7_1 := cellS36_1 HGz7
            have hfz7_0 := xf HGz7 0
            have hfz7_1 := xf HGz7 1
            clear HGz7 hgz7
            have p4 : 0 ≤ (x1001_1 : Int) := of_decide_eq_true (by first | (with_reducible assumption) | assumption)
            have q4 : x1001_1 < (s0_0.size : Int) := of_decide_eq_true (by first | (with_reducible assumption) | assumption)
            have hx4 := bt_at s0_0 x1001_1
            replace p4 := eq_true p4
            replace q4 := eq_true q4
            go_wp2_with (first | (go_at_call 31; (with_reducible refine (spec_Blank.calls (bt s0_0 x1001_1) true _ A5.out).mono ?_); rintro e w' ⟨rfl, ⟨nd, rfl⟩⟩; (try first | exact ⟨rfl, _, World.drewN_drewN _ _ _⟩ | exact ⟨rfl, _, Eq.trans (World.drewN_drewN _ _ _) (congrArg (World.drewN _) (Nat.add_assoc _ _ _))⟩)))
            repeat (go_quiet (first | (go_at_call 31; (with_reducible refine (spec_Blank.calls (bt s0_0 x1001_1) true _ A5.out).mono ?_); rintro e w' ⟨rfl, ⟨nd, rfl⟩⟩; (try first | exact ⟨rfl, _, World.drewN_drewN _ _ _⟩ | exact ⟨rfl, _, Eq.trans (World.drewN_drewN _ _ _) (congrArg (World.drewN _) (Nat.add_assoc _ _ _))⟩))); try go_wp2_with (first | (go_at_call 31; (with_reducible refine (spec_Blank.calls (bt s0_0 x1001_1) true _ A5.out).mono ?_); rintro e w' ⟨rfl, ⟨nd, rfl⟩⟩; (try first | exact ⟨rfl, _, World.drewN_drewN _ _ _⟩ | exact ⟨rfl, _, Eq.trans (World.drewN_drewN _ _ _) (congrArg (World.drewN _) (Nat.add_assoc _ _ _))⟩))))
            go_roundg k1
            case measure => have := HK1.out; omega
            case rel => exact ⟨(wrap64 (x1001_1 + 1)), H', ⟨by have := HK1.out; omega⟩, ⟨by repeat (first | (with_reducible first | exact HI0.out | apply I6.a | apply I6.n | apply I6.d | apply I6.x | apply I6.y) | exact HI0.out)⟩, ⟨by repeat (first | (with_reducible first | exact HK.out | apply ks | apply kn | apply kd | apply ka) | exact HK.out)⟩, ⟨by repeat (first | (with_reducible first | exact HB.out | apply ba | apply bn | apply bw | refine bs ?_ (I6.g HI0.out)) | exact HB.out)⟩⟩
          · replace c6 := Bool.eq_false_iff.mpr c6
            subst c6
            have H1 : (some (s0_0, x1001_1)) = some (r1, r2) := by rw [if_neg (show ¬ (false = true) by decide)] at H; exact H
            clear H
            have H := H1
            clear H1
            simp only [Option.some.injEq, Prod.mk.injEq] at H
            obtain ⟨rfl, rfl⟩ := H
            obtain ⟨HGz8, hgz8⟩ := HI0.out
            have hcz8_0 := cellS36_0 HGz8
            have hcz8_1 := cellS36_1 HGz8
            have hfz8_0 := xf HGz8 0
            have hfz8_1 := xf HGz8 1
            clear HGz8 hgz8
            have p4 : 0 ≤ (x1001_1 : Int) := of_decide_eq_true (by first | (with_reducible assumption) | assumption)
            have q4 : x1001_1 < (s0_0.size : Int) := of_decide_eq_true (by first | (with_reducible assumption) | assumption)
            have hx4 := bt_at s0_0 x1001_1
            replace p4 := eq_true p4
            replace q4 := eq_true q4
            go_wp2_with (first | (go_at_call 31; (with_reducible refine (spec_Blank.calls (bt s0_0 x1001_1) false _ A5.out).mono ?_); rintro e w' ⟨rfl, ⟨nd, rfl⟩⟩; (try first | exact ⟨rfl, _, World.drewN_drewN _ _ _⟩ | exact ⟨rfl, _, Eq.trans (World.drewN_drewN _ _ _) (congrArg (World.drewN _) (Nat.add_assoc _ _ _))⟩)))
            repeat (go_quiet (first | (go_at_call 31; (with_reducible refine (spec_Blank.calls (bt s0_0 x1001_1) false _ A5.out).mono ?_); rintro e w' ⟨rfl, ⟨nd, rfl⟩⟩; (try first | exact ⟨rfl, _, World.drewN_drewN _ _ _⟩ | exact ⟨rfl, _, Eq.trans (World.drewN_drewN _ _ _) (congrArg (World.drewN _) (Nat.add_assoc _ _ _))⟩))); try go_wp2_with (first | (go_at_call 31; (with_reducible refine (spec_Blank.calls (bt s0_0 x1001_1) false _ A5.out).mono ?_); rintro e w' ⟨rfl, ⟨nd, rfl⟩⟩; (try first | exact ⟨rfl, _, World.drewN_drewN _ _ _⟩ | exact ⟨rfl, _, Eq.trans (World.drewN_drewN _ _ _) (congrArg (World.drewN _) (Nat.add_assoc _ _ _))⟩))))
            first | go_end0 | ((try simp only [Exit.inBlock, Exit.then]); refine bodyPost_ret (results_none rfl _ _ _) rfl ?_)
            exact ⟨by first | rfl | (simp [errW_none, errW_some] <;> rfl) | (simp [*, errW_none, errW_some] <;> rfl), by repeat (first | (with_reducible first | exact HI0.out | apply I6.a | apply I6.n | apply I6.d | apply I6.x | apply I6.y) | exact HI0.out), by repeat (first | (with_reducible first | exact HB.out | apply ba | apply bn | apply bw | refine bs ?_ (I6.g HI0.out)) | exact HB.out), by repeat (first | (with_reducible first | exact HK.out | apply ks | apply kn | apply kd | apply ka) | exact HK.out)⟩
        · rw [if_neg c3] at H
          exact absurd H (by simp)
      · rw [if_neg c2] at H
        have c2b0 : decide (x1001_1 < (s0_0.size : Int)) = false := decide_eq_false c2
        clear c2
        simp only [Option.some.injEq, Prod.mk.injEq] at H
        obtain ⟨rfl, rfl⟩ := H
        obtain ⟨HGz9, hgz9⟩ := HI0.out
        have hcz9_0 := cellS36_0 HGz9
        have hcz9_1 := cellS36_1 HGz9
        have hfz9_0 := xf HGz9 0
        have hfz9_1 := xf HGz9 1
        clear HGz9 hgz9
        go_wp2
        repeat (go_quiet (fail); try go_wp2)
        first | go_end0 | ((try simp only [Exit.inBlock, Exit.then]); refine bodyPost_ret (results_none rfl _ _ _) rfl ?_)
        exact ⟨by first | rfl | (simp [errW_none, errW_some] <;> rfl) | (simp [*, errW_none, errW_some] <;> rfl), by repeat (first | (with_reducible first | exact HI0.out | apply I6.a | apply I6.n | apply I6.d | apply I6.x | apply I6.y) | exact HI0.out), by repeat (first | (with_reducible first | exact HB.out | apply ba | apply bn | apply bw | refine bs ?_ (I6.g HI0.out)) | exact HB.out), by repeat (first | (with_reducible first | exact HK.out | apply ks | apply kn | apply kd | apply ka) | exact HK.out)⟩

/-! ### spec_reader_take: function 23 -/
def spec_reader_take.f (s0_0 : ByteArray) (s0_1 : Int) (a1 : Int) : Option (Bool × ByteArray × Int) := if s0_1 < (s0_0.size : Int) then (if 0 ≤ s0_1 then (if (bt s0_0 s0_1) = a1 then (some (true, s0_0, wrap64 (s0_1 + 1))) else (some (false, s0_0, s0_1))) else (none)) else (some (false, s0_0, s0_1))
set_option maxHeartbeats 8000000 in
set_option maxRecDepth 100000 in
theorem spec_reader_take.calls (g : Nat) (s0_0 : ByteArray) (s0_1 : Int) (a1 : Int) (r1 : Bool) (r2 : ByteArray) (r3 : Int) (w0 w : World) (hI : I6 w0 w g s0_0 s0_1) (hB : Below w0.heap.size w0 w) (h : spec_reader_take.f s0_0 s0_1 a1 = some (r1, r2, r3)) :
    Calls Tryd.prog 23 #[.pointer (some ⟨g, 0, none⟩), .int .u8 a1] w fun e w' => e = .returned (.bool r1) ∧ I6 w0 w' g r2 r3 ∧ Below w0.heap.size w0 w' ∧ KeepBut w w' g none := by
  have HI0 := am hI
  have HK := am (KeepBut.refl w g none)
  have HL := am hB.size
  clear hI
  have HW0 := am hB.size
  have HB := am hB
  clear hB
  have H : (if s0_1 < (s0_0.size : Int) then (if 0 ≤ s0_1 then (if (bt s0_0 s0_1) = a1 then (some (true, s0_0, wrap64 (s0_1 + 1))) else (some (false, s0_0, s0_1))) else (none)) else (some (false, s0_0, s0_1))) = some (r1, r2, r3) := h
  clear h
  by_cases c3 : s0_1 < (s0_0.size : Int)
  · rw [if_pos c3] at H
    have c3b0 : decide (s0_1 < (s0_0.size : Int)) = true := decide_eq_true c3
    clear c3
    by_cases c4 : 0 ≤ s0_1
    · rw [if_pos c4] at H
      have c4b0 : decide (0 ≤ s0_1) = true := decide_eq_true c4
      clear c4
      by_cases c6 : (bt s0_0 s0_1) = a1
      · rw [if_pos c6] at H
        have c6b0 : ((bt s0_0 s0_1) == a1) = true := beq_iff_eq.mpr c6
        have c6b1 : ((bt s0_0 s0_1) != a1) = false := bne_eq_false_iff_eq.mpr c6
        clear c6
        simp only [Option.some.injEq, Prod.mk.injEq] at H
        obtain ⟨rfl, rfl, rfl⟩ := H
        obtain ⟨HGz7, hgz7⟩ := HI0.out
        have hcz7_0 := cellS36_0 HGz7
        have hcz7_1 := cellS36_1 HGz7
        have hfz7_0 := xf HGz7 0
        have hfz7_1 := xf HGz7 1
        clear HGz7 hgz7
        have p5 : 0 ≤ (s0_1 : Int) := of_decide_eq_true (by first | (with_reducible assumption) | assumption)
        have q5 : s0_1 < (s0_0.size : Int) := of_decide_eq_true (by first | (with_reducible assumption) | assumption)
        have hx5 := bt_at s0_0 s0_1
        replace p5 := eq_true p5
        replace q5 := eq_true q5
        go_enter Tryd.func23, Tryd.ntmps23
        go_wp2
        repeat (go_quiet (fail); try go_wp2)
        go_ret
        exact ⟨by first | rfl | (simp [errW_none, errW_some] <;> rfl) | (simp [*, errW_none, errW_some] <;> rfl), by repeat (first | (with_reducible first | exact HI0.out | apply I6.a | apply I6.n | apply I6.d | apply I6.x | apply I6.y) | exact HI0.out), by repeat (first | (with_reducible first | exact HB.out | apply ba | apply bn | apply bw | refine bs ?_ (I6.g HI0.out)) | exact HB.out), by repeat (first | (with_reducible first | exact HK.out | apply ks | apply kn | apply kd | apply ka) | exact HK.out)⟩
      · rw [if_neg c6] at H
        have c6b0 : ((bt s0_0 s0_1) == a1) = false := beq_eq_false_iff_ne.mpr c6
        have c6b1 : ((bt s0_0 s0_1) != a1) = true := bne_iff_ne.mpr c6
        simp only [Option.some.injEq, Prod.mk.injEq] at H
        obtain ⟨rfl, rfl, rfl⟩ := H
        obtain ⟨HGz8, hgz8⟩ := HI0.out
        have hcz8_0 := cellS36_0 HGz8
        have hcz8_1 := cellS36_1 HGz8
        have hfz8_0 := xf HGz8 0
        have hfz8_1 := xf HGz8 1
        clear HGz8 hgz8
        have p5 : 0 ≤ (s0_1 : Int) := of_decide_eq_true (by first | (with_reducible assumption) | assumption)
        have q5 : s0_1 < (s0_0.size : Int) := of_decide_eq_true (by first | (with_reducible assumption) | assumption)
        have hx5 := bt_at s0_0 s0_1
        replace p5 := eq_true p5
        replace q5 := eq_true q5
        go_enter Tryd.func23, Tryd.ntmps23
        go_wp2
        repeat (go_quiet (fail); try go_wp2)
        go_ret
        exact ⟨by first | rfl | (simp [errW_none, errW_some] <;> rfl) | (simp [*, errW_none, errW_some] <;> rfl), by repeat (first | (with_reducible first | exact HI0.out | apply I6.a | apply I6.n | apply I6.d | apply I6.x | apply I6.y) | exact HI0.out), by repeat (first | (with_reducible first | exact HB.out | apply ba | apply bn | apply bw | refine bs ?_ (I6.g HI0.out)) | exact HB.out), by repeat (first | (with_reducible first | exact HK.out | apply ks | apply kn | apply kd | apply ka) | exact HK.out)⟩
    · rw [if_neg c4] at H
      exact absurd H (by simp)
  · rw [if_neg c3] at H
    have c3b0 : decide (s0_1 < (s0_0.size : Int)) = false := decide_eq_false c3
    clear c3
    simp only [Option.some.injEq, Prod.mk.injEq] at H
    obtain ⟨rfl, rfl, rfl⟩ := H
    obtain ⟨HGz9, hgz9⟩ := HI0.out
    have hcz9_0 := cellS36_0 HGz9
    have hcz9_1 := cellS36_1 HGz9
    have hfz9_0 := xf HGz9 0
    have hfz9_1 := xf HGz9 1
    clear HGz9 hgz9
    go_enter Tryd.func23, Tryd.ntmps23
    go_wp2
    repeat (go_quiet (fail); try go_wp2)
    go_ret
    exact ⟨by first | rfl | (simp [errW_none, errW_some] <;> rfl) | (simp [*, errW_none, errW_some] <;> rfl), by repeat (first | (with_reducible first | exact HI0.out | apply I6.a | apply I6.n | apply I6.d | apply I6.x | apply I6.y) | exact HI0.out), by repeat (first | (with_reducible first | exact HB.out | apply ba | apply bn | apply bw | refine bs ?_ (I6.g HI0.out)) | exact HB.out), by repeat (first | (with_reducible first | exact HK.out | apply ks | apply kn | apply kd | apply ka) | exact HK.out)⟩

end Go.Proofs.YtjnfdgibogbgiaaDoor.XFnFjCheckValue
