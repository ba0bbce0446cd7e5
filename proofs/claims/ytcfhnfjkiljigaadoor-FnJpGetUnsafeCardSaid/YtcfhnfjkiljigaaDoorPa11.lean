/- Proved here: parts of the law FnJpGetUnsafe (the texts XFnJpGetUnsafex2 XFnJpGetUnsafex3), no conditions of their own beyond what each theorem says. -/
import Derived.Test.YtcfhnfjkiljigaaDoorPa10
section
-- Written by xprint.py of this session (a program that runs the kit's print and adds to it); Lean checks it.
namespace Go.Proofs.YtcfhnfjkiljigaaDoor.XFnJpGetUnsafe
open Go.RowKit Go.Proofs.YtcfhnfjkiljigaaDoorW.PrintWords Go.Proofs.YtcfhnfjkiljigaaDoorW.PrintLast Go.Proofs.YtcfhnfjkiljigaaDoorW.PrintMore
attribute [local go_sem] max2_int min2_int max_two min_two max_three min_three max_four min_four   -- for this text's walks alone
set_option linter.unusedVariables false
set_option linter.unusedSimpArgs false
/-! ### spec_reader_escape: function 66 -/
mutual
def spec_reader_escape.j0 : Nat → Int → Bool → ByteArray → Int → Option (Bool × ByteArray × Int)
 | 0, _, _, _, _ => none
 | k + 1, x7, x8, x1000, x1001 => if x8 = true then (some (true, x1000, wrap64 (x1001 + 1))) else (if x7 = 117 then (spec_reader_escape.l0 k 0 x1000 (wrap64 (x1001 + 1))) else (some (false, x1000, x1001)))
def spec_reader_escape.l0 : Nat → Int → ByteArray → Int → Option (Bool × ByteArray × Int)
 | 0, _, _, _ => none
 | k + 1, x3, x1000, x1001 => if x3 < 4 then ((spec_reader_here.f x1000 x1001).bind fun bt106 => ((spec_hexDigit.f k bt106.1).bind fun bt109 => (if bt109.2 = true then (spec_reader_escape.l0 k (wrap64 (x3 + 1)) bt106.2.1 (wrap64 (bt106.2.2 + 1))) else (some (false, bt106.2.1, bt106.2.2))))) else (some (true, x1000, x1001))
end
def spec_reader_escape.f (k : Nat) (s0_0 : ByteArray) (s0_1 : Int) : Option (Bool × ByteArray × Int) := (spec_reader_here.f s0_0 s0_1).bind fun bt103 => (if bt103.1 = 34 then (spec_reader_escape.j0 k bt103.1 (bt103.1 == 34) bt103.2.1 bt103.2.2) else (if bt103.1 = 92 then (spec_reader_escape.j0 k bt103.1 (bt103.1 == 92) bt103.2.1 bt103.2.2) else (if bt103.1 = 47 then (spec_reader_escape.j0 k bt103.1 (bt103.1 == 47) bt103.2.1 bt103.2.2) else (if bt103.1 = 98 then (spec_reader_escape.j0 k bt103.1 (bt103.1 == 98) bt103.2.1 bt103.2.2) else (if bt103.1 = 102 then (spec_reader_escape.j0 k bt103.1 (bt103.1 == 102) bt103.2.1 bt103.2.2) else (if bt103.1 = 110 then (spec_reader_escape.j0 k bt103.1 (bt103.1 == 110) bt103.2.1 bt103.2.2) else (if bt103.1 = 114 then (spec_reader_escape.j0 k bt103.1 (bt103.1 == 114) bt103.2.1 bt103.2.2) else (spec_reader_escape.j0 k bt103.1 (bt103.1 == 116) bt103.2.1 bt103.2.2))))))))
theorem spec_reader_escape.mono_l : ∀ k, (∀ y0 y1 y2 y3, LeO (spec_reader_escape.j0 k y0 y1 y2 y3) (spec_reader_escape.j0 (k + 1) y0 y1 y2 y3)) ∧ (∀ y0 y1 y2, LeO (spec_reader_escape.l0 k y0 y1 y2) (spec_reader_escape.l0 (k + 1) y0 y1 y2))
 | 0 => ⟨fun _ _ _ _ r h => by simp [spec_reader_escape.j0] at h, fun _ _ _ r h => by simp [spec_reader_escape.l0] at h⟩
 | k + 1 => by
  obtain ⟨ih0, ih1⟩ := spec_reader_escape.mono_l k
  refine ⟨?_, ?_⟩
  ·intro y0 y1 y2 y3
   unfold spec_reader_escape.j0
   repeat' first
   | (with_reducible exact ih0 _ _ _ _)
   | (with_reducible exact ih1 _ _ _)
   | (with_reducible exact spec_hexDigit.mono _ _)
   | (with_reducible exact LeO.refl _)
   | (with_reducible exact LeO.none _)
   | (with_reducible refine LeO.ite ?_ ?_)
   | (with_reducible refine LeO.bind ?_ (fun _ => ?_))
   | exact ih0 _ _ _ _
   | exact ih1 _ _ _
   | exact spec_hexDigit.mono _ _
   | exact LeO.none _
   | refine LeO.ite ?_ ?_
   | refine LeO.bind ?_ (fun _ => ?_)
  ·intro y0 y1 y2
   unfold spec_reader_escape.l0
   repeat' first
   | (with_reducible exact ih0 _ _ _ _)
   | (with_reducible exact ih1 _ _ _)
   | (with_reducible exact spec_hexDigit.mono _ _)
   | (with_reducible exact LeO.refl _)
   | (with_reducible exact LeO.none _)
   | (with_reducible refine LeO.ite ?_ ?_)
   | (with_reducible refine LeO.bind ?_ (fun _ => ?_))
   | exact ih0 _ _ _ _
   | exact ih1 _ _ _
   | exact spec_hexDigit.mono _ _
   | exact LeO.none _
   | refine LeO.ite ?_ ?_
   | refine LeO.bind ?_ (fun _ => ?_)
theorem spec_reader_escape.mono : ∀ a0 a1 k, LeO (spec_reader_escape.f k a0 a1) (spec_reader_escape.f (k + 1) a0 a1) := by
 intro a0 a1 k
 obtain ⟨ih0, ih1⟩ := spec_reader_escape.mono_l k
 unfold spec_reader_escape.f
 repeat' first
   | (with_reducible exact ih0 _ _ _ _)
   | (with_reducible exact ih1 _ _ _)
   | (with_reducible exact spec_hexDigit.mono _ _)
   | (with_reducible exact LeO.refl _)
   | (with_reducible exact LeO.none _)
   | (with_reducible refine LeO.ite ?_ ?_)
   | (with_reducible refine LeO.bind ?_ (fun _ => ?_))
   | exact ih0 _ _ _ _
   | exact ih1 _ _ _
   | exact spec_hexDigit.mono _ _
   | exact LeO.none _
   | refine LeO.ite ?_ ?_
   | refine LeO.bind ?_ (fun _ => ?_)
set_option maxHeartbeats 8000000 in
set_option maxRecDepth 100000 in
theorem spec_reader_escape.calls (k : Nat) (g : Nat) (s0_0 : ByteArray) (s0_1 : Int) (r1 : Bool) (r2 : ByteArray) (r3 : Int) (w0 w : World) (hI : IsS80 w0 w g s0_0 s0_1) (hB : Below w0.heap.size w0 w) (h : spec_reader_escape.f k s0_0 s0_1 = some (r1, r2, r3)) :
  Calls Tryd.prog 66 #[.pointer (some ⟨g, 0, none⟩)] w fun e w' => e = .returned (.bool r1) ∧ IsS80 w0 w' g r2 r3 ∧ Below w0.heap.size w0 w' ∧ KeepBut w w' g none := by
 have HI0 := aj hI
 have HK := aj (KeepBut.refl w g none)
 have HL := aj hB.size
 clear hI
 have HW0 := aj hB.size
 have HB := aj hB
 clear hB
 have H : ((spec_reader_here.f s0_0 s0_1).bind fun bt103 => (if bt103.1 = 34 then (spec_reader_escape.j0 k bt103.1 (bt103.1 == 34) bt103.2.1 bt103.2.2) else (if bt103.1 = 92 then (spec_reader_escape.j0 k bt103.1 (bt103.1 == 92) bt103.2.1 bt103.2.2) else (if bt103.1 = 47 then (spec_reader_escape.j0 k bt103.1 (bt103.1 == 47) bt103.2.1 bt103.2.2) else (if bt103.1 = 98 then (spec_reader_escape.j0 k bt103.1 (bt103.1 == 98) bt103.2.1 bt103.2.2) else (if bt103.1 = 102 then (spec_reader_escape.j0 k bt103.1 (bt103.1 == 102) bt103.2.1 bt103.2.2) else (if bt103.1 = 110 then (spec_reader_escape.j0 k bt103.1 (bt103.1 == 110) bt103.2.1 bt103.2.2) else (if bt103.1 = 114 then (spec_reader_escape.j0 k bt103.1 (bt103.1 == 114) bt103.2.1 bt103.2.2) else (spec_reader_escape.j0 k bt103.1 (bt103.1 == 116) bt103.2.1 bt103.2.2))))))))) = some (r1, r2, r3) := h
 clear h
 obtain ⟨⟨t103, t104, t105⟩, A20, H⟩ := Option.bind_eq_some_iff.mp H
 try dsimp only at H
 have A2 := aj A20
 clear A20
 have HC3 := aj H
 clear H
 go_enter Tryd.func66, Tryd.ntmps66
 go_upto_if 8 with ((((with_reducible refine gate_callee (f := 50) rfl ?_); refine goesL_ (some 7) rfl rfl Tryd.func50 (by kernel_rfl) rfl #[.pointer (some ⟨g, 0, none⟩)] rfl (by (try simp only [List.map_toArray, List.map_cons, List.map_nil]); rfl) ?_; (with_reducible refine (spec_reader_here.calls g s0_0 s0_1 t103 t104 t105 w0 _ ?side1 ?side2 A2.out).mono ?_); (case side1 => exact HI0.out); (case side2 => exact HB.out); rintro e w4 ⟨rfl, hi, hb, hk⟩; refine ⟨_, rfl, ?_⟩; replace HK := aj (KeepBut.trans HK.out hk (.inl rfl)); replace HB := aj (hb); replace HI0 := aj (hi); clear hb hk hi)))
 (try simp only [Act.put, List.setIfInBounds_toArray, List.set_cons_zero, List.set_cons_succ])
 go_cut [8] (fun v8 wc => ∃ (kq : Nat) (x8_2 : Bool), v8 = .bool x8_2 ∧ Aside0 (spec_reader_escape.j0 kq t103 x8_2 t104 t105 = some (r1, r2, r3)) ∧ Aside0 (kq ≤ k) ∧ Aside0 (IsS80 w0 wc g t104 t105) ∧ Aside0 (KeepBut w wc g none) ∧ Aside0 (Below w0.heap.size w0 wc))
 case first =>
  have H := HC3.out
  clear HC3
  by_cases c5 : t103 = 34
  ·rw [if_pos c5] at H
   have c5b0 : (t103 == 34) = true := beq_iff_eq.mpr c5
   have c5b1 : (t103 != 34) = false := bne_eq_false_iff_eq.mpr c5
   clear c5
   (rw [c5b0])
   have H' := aj H
   clear H
   go_wp2
   go_meet
   case rel => exact ⟨_, ((t103 == 34)), (by ((simp [*]; done))), H', ⟨by omega⟩, ⟨HI0.out⟩, ⟨HK.out⟩, ⟨HB.out⟩⟩
  ·rw [if_neg c5] at H
   have c5b0 : (t103 == 34) = false := beq_eq_false_iff_ne.mpr c5
   have c5b1 : (t103 != 34) = true := bne_iff_ne.mpr c5
   (rw [c5b0])
   by_cases c6 : t103 = 92
   ·rw [if_pos c6] at H
    have c6b0 : (t103 == 92) = true := beq_iff_eq.mpr c6
    have c6b1 : (t103 != 92) = false := bne_eq_false_iff_eq.mpr c6
    clear c6
    have H' := aj H
    clear H
    go_wp2
    go_meet
    case rel => exact ⟨_, ((t103 == 92)), (by ((simp [*]; done))), H', ⟨by omega⟩, ⟨HI0.out⟩, ⟨HK.out⟩, ⟨HB.out⟩⟩
   ·rw [if_neg c6] at H
    have c6b0 : (t103 == 92) = false := beq_eq_false_iff_ne.mpr c6
    have c6b1 : (t103 != 92) = true := bne_iff_ne.mpr c6
    by_cases c7 : t103 = 47
    ·rw [if_pos c7] at H
     have c7b0 : (t103 == 47) = true := beq_iff_eq.mpr c7
     have c7b1 : (t103 != 47) = false := bne_eq_false_iff_eq.mpr c7
     clear c7
     have H' := aj H
     clear H
     go_wp2
     go_meet
     case rel => exact ⟨_, ((t103 == 47)), (by ((simp [*]; done))), H', ⟨by omega⟩, ⟨HI0.out⟩, ⟨HK.out⟩, ⟨HB.out⟩⟩
    ·rw [if_neg c7] at H
     have c7b0 : (t103 == 47) = false := beq_eq_false_iff_ne.mpr c7
     have c7b1 : (t103 != 47) = true := bne_iff_ne.mpr c7
     by_cases c8 : t103 = 98
     ·rw [if_pos c8] at H
      have c8b0 : (t103 == 98) = true := beq_iff_eq.mpr c8
      have c8b1 : (t103 != 98) = false := bne_eq_false_iff_eq.mpr c8
      clear c8
      have H' := aj H
      clear H
      go_wp2
      go_meet
      case rel => exact ⟨_, ((t103 == 98)), (by ((simp [*]; done))), H', ⟨by omega⟩, ⟨HI0.out⟩, ⟨HK.out⟩, ⟨HB.out⟩⟩
     ·rw [if_neg c8] at H
      have c8b0 : (t103 == 98) = false := beq_eq_false_iff_ne.mpr c8
      have c8b1 : (t103 != 98) = true := bne_iff_ne.mpr c8
      by_cases c9 : t103 = 102
      ·rw [if_pos c9] at H
       have c9b0 : (t103 == 102) = true := beq_iff_eq.mpr c9
       have c9b1 : (t103 != 102) = false := bne_eq_false_iff_eq.mpr c9
       clear c9
       have H' := aj H
       clear H
       go_wp2
       go_meet
       case rel => exact ⟨_, ((t103 == 102)), (by ((simp [*]; done))), H', ⟨by omega⟩, ⟨HI0.out⟩, ⟨HK.out⟩, ⟨HB.out⟩⟩
      ·rw [if_neg c9] at H
       have c9b0 : (t103 == 102) = false := beq_eq_false_iff_ne.mpr c9
       have c9b1 : (t103 != 102) = true := bne_iff_ne.mpr c9
       by_cases c10 : t103 = 110
       ·rw [if_pos c10] at H
        have c10b0 : (t103 == 110) = true := beq_iff_eq.mpr c10
        have c10b1 : (t103 != 110) = false := bne_eq_false_iff_eq.mpr c10
        clear c10
        have H' := aj H
        clear H
        go_wp2
        go_meet
        case rel => exact ⟨_, ((t103 == 110)), (by ((simp [*]; done))), H', ⟨by omega⟩, ⟨HI0.out⟩, ⟨HK.out⟩, ⟨HB.out⟩⟩
       ·rw [if_neg c10] at H
        have c10b0 : (t103 == 110) = false := beq_eq_false_iff_ne.mpr c10
        have c10b1 : (t103 != 110) = true := bne_iff_ne.mpr c10
        by_cases c11 : t103 = 114
        ·rw [if_pos c11] at H
         have c11b0 : (t103 == 114) = true := beq_iff_eq.mpr c11
         have c11b1 : (t103 != 114) = false := bne_eq_false_iff_eq.mpr c11
         clear c11
         have H' := aj H
         clear H
         go_wp2
         go_meet
         case rel => exact ⟨_, ((t103 == 114)), (by ((simp [*]; done))), H', ⟨by omega⟩, ⟨HI0.out⟩, ⟨HK.out⟩, ⟨HB.out⟩⟩
        ·rw [if_neg c11] at H
         have c11b0 : (t103 == 114) = false := beq_eq_false_iff_ne.mpr c11
         have c11b1 : (t103 != 114) = true := bne_iff_ne.mpr c11
         have H' := aj H
         clear H
         go_wp2
         go_meet
         case rel => exact ⟨_, ((t103 == 116)), (by rfl), H', ⟨by omega⟩, ⟨HI0.out⟩, ⟨HK.out⟩, ⟨HB.out⟩⟩
 case rest =>
  clear HC3
  obtain ⟨kq, x8_2, rfl, HA, HJ2, HI0, HK, HB⟩ := hcut
  cases kq with
  | zero => exact absurd HA.out (by simp [spec_reader_escape.j0])
  | succ kj2 =>
   have H := HA.out
   clear HA
   simp only [spec_reader_escape.j0] at H
   by_cases c12 : x8_2 = true
   ·subst c12
    rw [if_pos rfl] at H
    simp only [Option.some.injEq, Prod.mk.injEq] at H
    obtain ⟨rfl, rfl, rfl⟩ := H
    obtain ⟨HGz13, hgz13⟩ := HI0.out
    have hcz13_0 := cellS80_0 HGz13
    have hcz13_1 := cellS80_1 HGz13
    have hfz13_0 := blk_frozen HGz13 0
    have hfz13_1 := blk_frozen HGz13 1
    clear HGz13 hgz13
    go_wp2
    go_ret
    exact ⟨by rfl, by repeat (with_reducible first | exact HI0.out | apply IsS80.set_1), by repeat (with_reducible first | exact HB.out | refine below_set ?_ (IsS80.ge HI0.out)), by repeat (with_reducible first | exact HK.out | apply KeepBut.set_)⟩
   ·replace c12 := Bool.eq_false_iff.mpr c12
    subst c12
    rw [if_neg (show ¬ (false = true) by decide)] at H
    by_cases c14 : t103 = 117
    ·rw [if_pos c14] at H
     have c14b0 : (t103 == 117) = true := beq_iff_eq.mpr c14
     have c14b1 : (t103 != 117) = false := bne_eq_false_iff_eq.mpr c14
     clear c14
     have H' := aj H
     clear H
     obtain ⟨HGz15, hgz15⟩ := HI0.out
     have hcz15_0 := cellS80_0 HGz15
     have hcz15_1 := cellS80_1 HGz15
     have hfz15_0 := blk_frozen HGz15 0
     have hfz15_1 := blk_frozen HGz15 1
     clear HGz15 hgz15
     go_wp2
     try simp only [Act.put, List.setIfInBounds_toArray, List.set_cons_succ, List.set_cons_zero]
     go_loopg [3] kj2 (fun kq v3 w' => ∃ (x3_2 : Int) (x1000_2 : ByteArray) (x1001_2 : Int), v3 = .int .i64 x3_2 ∧ Aside0 (spec_reader_escape.l0 kq x3_2 x1000_2 x1001_2 = some (r1, r2, r3)) ∧ Aside0 (kq ≤ kj2) ∧ Aside0 (IsS80 w0 w' g x1000_2 x1001_2) ∧ Aside0 (KeepBut w w' g none) ∧ Aside0 (Below w0.heap.size w0 w'))
     case atStart => exact ⟨(0), (t104), (wrap64 (t105 + 1)), (by rfl), H', ⟨Nat.le_refl _⟩, ⟨by repeat (with_reducible first | exact HI0.out | apply IsS80.set_1)⟩, ⟨by repeat (with_reducible first | exact HK.out | apply KeepBut.set_)⟩, ⟨by repeat (with_reducible first | exact HB.out | refine below_set ?_ (IsS80.ge HI0.out))⟩⟩
     case round =>
      clear H' c14b0 c14b1 hcz15_0 hcz15_1 hfz15_0 hfz15_1
      obtain ⟨x3_2, x1000_2, x1001_2, rfl, HA, HK2, HI0, HK, HB⟩ := hrel
      cases gk with
      | zero => exact absurd HA.out (by simp [spec_reader_escape.l0])
      | succ k2 =>
       have H := HA.out
       clear HA
       simp only [spec_reader_escape.l0] at H
       by_cases c16 : x3_2 < 4
       ·rw [if_pos c16] at H
        have c16b0 : decide (x3_2 < 4) = true := decide_eq_true c16
        clear c16
        obtain ⟨⟨t106, t107, t108⟩, A170, H⟩ := Option.bind_eq_some_iff.mp H
        try dsimp only at H
        have A17 := aj A170
        clear A170
        obtain ⟨⟨t109, t110⟩, A180, H⟩ := Option.bind_eq_some_iff.mp H
        try dsimp only at H
        have A18 := aj A180
        clear A180
        by_cases c19 : t110 = true
        ·subst c19
         rw [if_pos rfl] at H
         have H' := aj H
         clear H
         go_wp2_with (first | ((with_reducible refine gate_callee (f := 50) rfl ?_); refine goesL_ (some 39) rfl rfl Tryd.func50 (by kernel_rfl) rfl #[.pointer (some ⟨g, 0, none⟩)] rfl (by (try simp only [List.map_toArray, List.map_cons, List.map_nil]); rfl) ?_; (with_reducible refine (spec_reader_here.calls g x1000_2 x1001_2 t106 t107 t108 w0 _ ?side1 ?side2 A17.out).mono ?_); (case side1 => exact HI0.out); (case side2 => exact HB.out); rintro e w20 ⟨rfl, hi, hb, hk⟩; refine ⟨_, rfl, ?_⟩; replace HK := aj (KeepBut.trans HK.out hk (.inl rfl)); replace HB := aj (hb); replace HI0 := aj (hi); clear hb hk hi) | ((with_reducible refine gate_callee (f := 56) rfl ?_); refine goesL_ (some 40) rfl rfl Tryd.func56 (by kernel_rfl) rfl #[.int .u8 t106] rfl (by (try simp only [List.map_toArray, List.map_cons, List.map_nil]); rfl) ?_; (with_reducible refine (spec_hexDigit.calls k2 t106 t109 true _ A18.out).mono ?_); rintro e w' ⟨rfl, ⟨nd, rfl⟩⟩; refine ⟨_, rfl, ?_⟩; (try (rw [drewN_self w20]; generalize hq_ : World.drewN w20 _ = w20; have n0_ : Aside0 (IsS80 w0 w20 g t107 t108) := ⟨by rw [← hq_]; exact (by repeat (with_reducible first | exact HI0.out | apply IsS80.drewN))⟩; have n1_ : Aside0 (KeepBut w w20 g none) := ⟨by rw [← hq_]; exact (by repeat (with_reducible first | exact HK.out | apply keep_drewN))⟩; have n2_ : Aside0 (Below w0.heap.size w0 w20) := ⟨by rw [← hq_]; exact (by repeat (with_reducible first | exact HB.out | apply pw_below_drewN))⟩; clear HI0 HK HB hq_; have HI0 := n0_; have HK := n1_; have HB := n2_; clear n0_ n1_ n2_)); obtain ⟨HGz21, hgz21⟩ := HI0.out; have hcz21_0 := cellS80_0 HGz21; have hcz21_1 := cellS80_1 HGz21; have hfz21_0 := blk_frozen HGz21 0; have hfz21_1 := blk_frozen HGz21 1; clear HGz21 hgz21))
         go_roundg k2
         case measure => have := HJ2.out; have := HK2.out; omega
         case rel => exact ⟨(wrap64 (x3_2 + 1)), (t107), (wrap64 (t108 + 1)), (by rfl), H', ⟨by have := HJ2.out; have := HK2.out; omega⟩, ⟨by repeat (with_reducible first | exact HI0.out | apply IsS80.set_1)⟩, ⟨by repeat (with_reducible first | exact HK.out | apply KeepBut.set_)⟩, ⟨by repeat (with_reducible first | exact HB.out | refine below_set ?_ (IsS80.ge HI0.out))⟩⟩
        ·replace c19 := Bool.eq_false_iff.mpr c19
         subst c19
         rw [if_neg (show ¬ (false = true) by decide)] at H
         simp only [Option.some.injEq, Prod.mk.injEq] at H
         obtain ⟨rfl, rfl, rfl⟩ := H
         go_wp2_with (first | ((with_reducible refine gate_callee (f := 50) rfl ?_); refine goesL_ (some 39) rfl rfl Tryd.func50 (by kernel_rfl) rfl #[.pointer (some ⟨g, 0, none⟩)] rfl (by (try simp only [List.map_toArray, List.map_cons, List.map_nil]); rfl) ?_; (with_reducible refine (spec_reader_here.calls g x1000_2 x1001_2 t106 t107 t108 w0 _ ?side1 ?side2 A17.out).mono ?_); (case side1 => exact HI0.out); (case side2 => exact HB.out); rintro e w22 ⟨rfl, hi, hb, hk⟩; refine ⟨_, rfl, ?_⟩; replace HK := aj (KeepBut.trans HK.out hk (.inl rfl)); replace HB := aj (hb); replace HI0 := aj (hi); clear hb hk hi) | ((with_reducible refine gate_callee (f := 56) rfl ?_); refine goesL_ (some 40) rfl rfl Tryd.func56 (by kernel_rfl) rfl #[.int .u8 t106] rfl (by (try simp only [List.map_toArray, List.map_cons, List.map_nil]); rfl) ?_; (with_reducible refine (spec_hexDigit.calls k2 t106 t109 false _ A18.out).mono ?_); rintro e w' ⟨rfl, ⟨nd, rfl⟩⟩; refine ⟨_, rfl, ?_⟩))
         go_ret
         exact ⟨by rfl, by repeat (with_reducible first | exact HI0.out | apply IsS80.drewN), by repeat (with_reducible first | exact HB.out | apply pw_below_drewN), by repeat (with_reducible first | exact HK.out | apply keep_drewN)⟩
       ·rw [if_neg c16] at H
        have c16b0 : decide (x3_2 < 4) = false := decide_eq_false c16
        clear c16
        simp only [Option.some.injEq, Prod.mk.injEq] at H
        obtain ⟨rfl, rfl, rfl⟩ := H
        go_wp2
        go_ret
        exact ⟨by rfl, by exact HI0.out, by exact HB.out, by exact HK.out⟩
    ·rw [if_neg c14] at H
     have c14b0 : (t103 == 117) = false := beq_eq_false_iff_ne.mpr c14
     have c14b1 : (t103 != 117) = true := bne_iff_ne.mpr c14
     simp only [Option.some.injEq, Prod.mk.injEq] at H
     obtain ⟨rfl, rfl, rfl⟩ := H
     go_wp2
     go_ret
     exact ⟨by rfl, by exact HI0.out, by exact HB.out, by exact HK.out⟩
/-! ### spec_reader_quoted: function 53 -/
def spec_reader_quoted.l0 : Nat → ByteArray → Int → Option (Bool × ByteArray × Int)
 | 0, _, _ => none
 | k + 1, x1000, x1001 => if x1001 < (x1000.size : Int) then (if 0 ≤ x1001 then (if (bt x1000 x1001) = 34 then (some (true, x1000, wrap64 (x1001 + 1))) else (if (bt x1000 x1001) < 32 then (some (false, x1000, wrap64 (x1001 + 1))) else (if (bt x1000 x1001) = 92 then ((spec_reader_escape.f k x1000 (wrap64 (x1001 + 1))).bind fun bt111 => (if bt111.1 = true then (spec_reader_quoted.l0 k bt111.2.1 bt111.2.2) else (some (false, bt111.2.1, bt111.2.2)))) else (spec_reader_quoted.l0 k x1000 (wrap64 (x1001 + 1)))))) else (none)) else (some (false, x1000, x1001))
def spec_reader_quoted.f (k : Nat) (s0_0 : ByteArray) (s0_1 : Int) : Option (Bool × ByteArray × Int) := spec_reader_quoted.l0 k s0_0 (wrap64 (s0_1 + 1))
set_option maxHeartbeats 8000000 in
set_option maxRecDepth 100000 in
theorem spec_reader_quoted.calls (k : Nat) (g : Nat) (s0_0 : ByteArray) (s0_1 : Int) (r1 : Bool) (r2 : ByteArray) (r3 : Int) (w0 w : World) (hI : IsS80 w0 w g s0_0 s0_1) (hB : Below w0.heap.size w0 w) (h : spec_reader_quoted.f k s0_0 s0_1 = some (r1, r2, r3)) :
  Calls Tryd.prog 53 #[.pointer (some ⟨g, 0, none⟩)] w fun e w' => e = .returned (.bool r1) ∧ IsS80 w0 w' g r2 r3 ∧ Below w0.heap.size w0 w' ∧ KeepBut w w' g none := by
 have HI0 := aj hI
 have HK := aj (KeepBut.refl w g none)
 have HL := aj hB.size
 clear hI
 have HW0 := aj hB.size
 have HB := aj hB
 clear hB
 have H : (spec_reader_quoted.l0 k s0_0 (wrap64 (s0_1 + 1))) = some (r1, r2, r3) := h
 clear h
 have H' := aj H
 clear H
 obtain ⟨HGz2, hgz2⟩ := HI0.out
 have hcz2_0 := cellS80_0 HGz2
 have hcz2_1 := cellS80_1 HGz2
 have hfz2_0 := blk_frozen HGz2 0
 have hfz2_1 := blk_frozen HGz2 1
 clear HGz2 hgz2
 go_enter Tryd.func53, Tryd.ntmps53
 go_wp2
 repeat (go_quiet (fail); try go_wp2)
 try simp only [Act.put, List.setIfInBounds_toArray, List.set_cons_succ, List.set_cons_zero]
 go_loopg [] k (fun kq w' => ∃ (x1000_1 : ByteArray) (x1001_1 : Int), Aside0 (spec_reader_quoted.l0 kq x1000_1 x1001_1 = some (r1, r2, r3)) ∧ Aside0 (kq ≤ k) ∧ Aside0 (IsS80 w0 w' g x1000_1 x1001_1) ∧ Aside0 (KeepBut w w' g none) ∧ Aside0 (Below w0.heap.size w0 w'))
 case atStart => exact ⟨(s0_0), (wrap64 (s0_1 + 1)), H', ⟨Nat.le_refl _⟩, ⟨by repeat (with_reducible first | exact HI0.out | apply IsS80.set_1)⟩, ⟨by repeat (with_reducible first | exact HK.out | apply KeepBut.set_)⟩, ⟨by repeat (with_reducible first | exact HB.out | refine below_set ?_ (IsS80.ge HI0.out))⟩⟩
 case round =>
  clear H' hcz2_0 hcz2_1 hfz2_0 hfz2_1
  obtain ⟨x1000_1, x1001_1, HA, HK1, HI0, HK, HB⟩ := hrel
  cases gk with
  | zero => exact absurd HA.out (by simp [spec_reader_quoted.l0])
  | succ k1 =>
   have H := HA.out
   clear HA
   simp only [spec_reader_quoted.l0] at H
   by_cases c3 : x1001_1 < (x1000_1.size : Int)
   ·rw [if_pos c3] at H
    have c3b0 : decide (x1001_1 < (x1000_1.size : Int)) = true := decide_eq_true c3
    clear c3
    by_cases c4 : 0 ≤ x1001_1
    ·rw [if_pos c4] at H
     have c4b0 : decide (0 ≤ x1001_1) = true := decide_eq_true c4
     clear c4
     by_cases c6 : (bt x1000_1 x1001_1) = 34
     ·rw [if_pos c6] at H
      have c6b0 : ((bt x1000_1 x1001_1) == 34) = true := beq_iff_eq.mpr c6
      have c6b1 : ((bt x1000_1 x1001_1) != 34) = false := bne_eq_false_iff_eq.mpr c6
      clear c6
      simp only [Option.some.injEq, Prod.mk.injEq] at H
      obtain ⟨rfl, rfl, rfl⟩ := H
      obtain ⟨HGz7, hgz7⟩ := HI0.out
      have hcz7_0 := cellS80_0 HGz7
      have hcz7_1 := cellS80_1 HGz7
      have hfz7_0 := blk_frozen HGz7 0
      have hfz7_1 := blk_frozen HGz7 1
      clear HGz7 hgz7
      have p5 : 0 ≤ (x1001_1 : Int) := of_decide_eq_true (by (with_reducible assumption))
      have q5 : x1001_1 < (x1000_1.size : Int) := of_decide_eq_true (by (with_reducible assumption))
      have hx5 := bt_at x1000_1 x1001_1
      replace p5 := eq_true p5
      replace q5 := eq_true q5
      go_wp2
      repeat (go_quiet (fail); try go_wp2)
      go_ret
      exact ⟨by rfl, by repeat (with_reducible first | exact HI0.out | apply IsS80.drewN | apply IsS80.set_1), by repeat (with_reducible first | exact HB.out | apply pw_below_drewN | refine below_set ?_ (IsS80.ge HI0.out)), by repeat (with_reducible first | exact HK.out | apply KeepBut.set_ | apply keep_drewN)⟩
     ·rw [if_neg c6] at H
      have c6b0 : ((bt x1000_1 x1001_1) == 34) = false := beq_eq_false_iff_ne.mpr c6
      have c6b1 : ((bt x1000_1 x1001_1) != 34) = true := bne_iff_ne.mpr c6
      by_cases c8 : (bt x1000_1 x1001_1) < 32
      ·rw [if_pos c8] at H
       have c8b0 : decide ((bt x1000_1 x1001_1) < 32) = true := decide_eq_true c8
       clear c8
       simp only [Option.some.injEq, Prod.mk.injEq] at H
       obtain ⟨rfl, rfl, rfl⟩ := H
       obtain ⟨HGz9, hgz9⟩ := HI0.out
       have hcz9_0 := cellS80_0 HGz9
       have hcz9_1 := cellS80_1 HGz9
       have hfz9_0 := blk_frozen HGz9 0
       have hfz9_1 := blk_frozen HGz9 1
       clear HGz9 hgz9
       have p5 : 0 ≤ (x1001_1 : Int) := of_decide_eq_true (by (with_reducible assumption))
       have q5 : x1001_1 < (x1000_1.size : Int) := of_decide_eq_true (by (with_reducible assumption))
       have hx5 := bt_at x1000_1 x1001_1
       replace p5 := eq_true p5
       replace q5 := eq_true q5
       go_wp2
       repeat (go_quiet (fail); try go_wp2)
       go_ret
       exact ⟨by rfl, by repeat (with_reducible first | exact HI0.out | apply IsS80.drewN | apply IsS80.set_1), by repeat (with_reducible first | exact HB.out | apply pw_below_drewN | refine below_set ?_ (IsS80.ge HI0.out)), by repeat (with_reducible first | exact HK.out | apply KeepBut.set_ | apply keep_drewN)⟩
      ·rw [if_neg c8] at H
       have c8b0 : decide ((bt x1000_1 x1001_1) < 32) = false := decide_eq_false c8
       clear c8
       by_cases c10 : (bt x1000_1 x1001_1) = 92
       ·rw [if_pos c10] at H
        have c10b0 : ((bt x1000_1 x1001_1) == 92) = true := beq_iff_eq.mpr c10
        have c10b1 : ((bt x1000_1 x1001_1) != 92) = false := bne_eq_false_iff_eq.mpr c10
        clear c10
        obtain ⟨⟨t111, t112, t113⟩, A110, H⟩ := Option.bind_eq_some_iff.mp H
        try dsimp only at H
        have A11 := aj A110
        clear A110
        by_cases c12 : t111 = true
        ·subst c12
         rw [if_pos rfl] at H
         have H' := aj H
         clear H
         obtain ⟨HGz13, hgz13⟩ := HI0.out
         have hcz13_0 := cellS80_0 HGz13
         have hcz13_1 := cellS80_1 HGz13
         have hfz13_0 := blk_frozen HGz13 0
         have hfz13_1 := blk_frozen HGz13 1
         clear HGz13 hgz13
         have p5 : 0 ≤ (x1001_1 : Int) := of_decide_eq_true (by (with_reducible assumption))
         have q5 : x1001_1 < (x1000_1.size : Int) := of_decide_eq_true (by (with_reducible assumption))
         have hx5 := bt_at x1000_1 x1001_1
         replace p5 := eq_true p5
         replace q5 := eq_true q5
         go_wp2_with (fail)
         repeat (go_quiet (fail); try go_wp2_with (((go_at_call 66; (with_reducible refine (spec_reader_escape.calls k1 g x1000_1 (wrap64 (x1001_1 + 1)) true t112 t113 w0 _ ?side1 ?side2 A11.out).mono ?_); (case side1 => repeat (with_reducible first | exact HI0.out | apply IsS80.drewN | apply IsS80.set_1)); (case side2 => repeat (with_reducible first | exact HB.out | apply pw_below_drewN | refine below_set ?_ (IsS80.ge HI0.out))); rintro e w14 ⟨rfl, hi, hb, hk⟩; replace HK := aj (KeepBut.trans (by repeat (with_reducible first | exact HK.out | apply KeepBut.set_ | apply keep_drewN)) hk (.inl rfl)); replace HB := aj (hb); replace HI0 := aj (hi); clear hb hk hi))))
         go_roundg k1
         case measure => have := HK1.out; omega
         case rel => exact ⟨(t112), (t113), H', ⟨by have := HK1.out; omega⟩, ⟨HI0.out⟩, ⟨HK.out⟩, ⟨HB.out⟩⟩
        ·replace c12 := Bool.eq_false_iff.mpr c12
         subst c12
         rw [if_neg (show ¬ (false = true) by decide)] at H
         simp only [Option.some.injEq, Prod.mk.injEq] at H
         obtain ⟨rfl, rfl, rfl⟩ := H
         obtain ⟨HGz15, hgz15⟩ := HI0.out
         have hcz15_0 := cellS80_0 HGz15
         have hcz15_1 := cellS80_1 HGz15
         have hfz15_0 := blk_frozen HGz15 0
         have hfz15_1 := blk_frozen HGz15 1
         clear HGz15 hgz15
         have p5 : 0 ≤ (x1001_1 : Int) := of_decide_eq_true (by (with_reducible assumption))
         have q5 : x1001_1 < (x1000_1.size : Int) := of_decide_eq_true (by (with_reducible assumption))
         have hx5 := bt_at x1000_1 x1001_1
         replace p5 := eq_true p5
         replace q5 := eq_true q5
         go_wp2_with (fail)
         repeat (go_quiet (fail); try go_wp2_with (((go_at_call 66; (with_reducible refine (spec_reader_escape.calls k1 g x1000_1 (wrap64 (x1001_1 + 1)) false t112 t113 w0 _ ?side1 ?side2 A11.out).mono ?_); (case side1 => repeat (with_reducible first | exact HI0.out | apply IsS80.drewN | apply IsS80.set_1)); (case side2 => repeat (with_reducible first | exact HB.out | apply pw_below_drewN | refine below_set ?_ (IsS80.ge HI0.out))); rintro e w16 ⟨rfl, hi, hb, hk⟩; replace HK := aj (KeepBut.trans (by repeat (with_reducible first | exact HK.out | apply KeepBut.set_ | apply keep_drewN)) hk (.inl rfl)); replace HB := aj (hb); replace HI0 := aj (hi); clear hb hk hi))))
         go_ret
         exact ⟨by rfl, by exact HI0.out, by exact HB.out, by exact HK.out⟩
       ·rw [if_neg c10] at H
        have c10b0 : ((bt x1000_1 x1001_1) == 92) = false := beq_eq_false_iff_ne.mpr c10
        have c10b1 : ((bt x1000_1 x1001_1) != 92) = true := bne_iff_ne.mpr c10
        have H' := aj H
        clear H
        obtain ⟨HGz17, hgz17⟩ := HI0.out
        have hcz17_0 := cellS80_0 HGz17
        have hcz17_1 := cellS80_1 HGz17
        have hfz17_0 := blk_frozen HGz17 0
        have hfz17_1 := blk_frozen HGz17 1
        clear HGz17 hgz17
        have p5 : 0 ≤ (x1001_1 : Int) := of_decide_eq_true (by (with_reducible assumption))
        have q5 : x1001_1 < (x1000_1.size : Int) := of_decide_eq_true (by (with_reducible assumption))
        have hx5 := bt_at x1000_1 x1001_1
        replace p5 := eq_true p5
        replace q5 := eq_true q5
        go_wp2
        repeat (go_quiet (fail); try go_wp2)
        go_roundg k1
        case measure => have := HK1.out; omega
        case rel => exact ⟨(x1000_1), (wrap64 (x1001_1 + 1)), H', ⟨by have := HK1.out; omega⟩, ⟨by repeat (with_reducible first | exact HI0.out | apply IsS80.drewN | apply IsS80.set_1)⟩, ⟨by repeat (with_reducible first | exact HK.out | apply KeepBut.set_ | apply keep_drewN)⟩, ⟨by repeat (with_reducible first | exact HB.out | apply pw_below_drewN | refine below_set ?_ (IsS80.ge HI0.out))⟩⟩
    ·rw [if_neg c4] at H
     exact absurd H (by simp)
   ·rw [if_neg c3] at H
    have c3b0 : decide (x1001_1 < (x1000_1.size : Int)) = false := decide_eq_false c3
    clear c3
    simp only [Option.some.injEq, Prod.mk.injEq] at H
    obtain ⟨rfl, rfl, rfl⟩ := H
    obtain ⟨HGz18, hgz18⟩ := HI0.out
    have hcz18_0 := cellS80_0 HGz18
    have hcz18_1 := cellS80_1 HGz18
    have hfz18_0 := blk_frozen HGz18 0
    have hfz18_1 := blk_frozen HGz18 1
    clear HGz18 hgz18
    go_wp2
    repeat (go_quiet (fail); try go_wp2)
    go_ret
    exact ⟨by rfl, by repeat (with_reducible first | exact HI0.out | apply IsS80.drewN), by repeat (with_reducible first | exact HB.out | apply pw_below_drewN), by repeat (with_reducible first | exact HK.out | apply keep_drewN)⟩
/-! ### spec_reader_take: function 65 -/
def spec_reader_take.f (s0_0 : ByteArray) (s0_1 : Int) (a1 : Int) : Option (Bool × ByteArray × Int) := if s0_1 < (s0_0.size : Int) then (if 0 ≤ s0_1 then (if (bt s0_0 s0_1) = a1 then (some (true, s0_0, wrap64 (s0_1 + 1))) else (some (false, s0_0, s0_1))) else (none)) else (some (false, s0_0, s0_1))
set_option maxHeartbeats 8000000 in
set_option maxRecDepth 100000 in
theorem spec_reader_take.calls (g : Nat) (s0_0 : ByteArray) (s0_1 : Int) (a1 : Int) (r1 : Bool) (r2 : ByteArray) (r3 : Int) (w0 w : World) (hI : IsS80 w0 w g s0_0 s0_1) (hB : Below w0.heap.size w0 w) (h : spec_reader_take.f s0_0 s0_1 a1 = some (r1, r2, r3)) :
  Calls Tryd.prog 65 #[.pointer (some ⟨g, 0, none⟩), .int .u8 a1] w fun e w' => e = .returned (.bool r1) ∧ IsS80 w0 w' g r2 r3 ∧ Below w0.heap.size w0 w' ∧ KeepBut w w' g none := by
 have HI0 := aj hI
 have HK := aj (KeepBut.refl w g none)
 have HL := aj hB.size
 clear hI
 have HW0 := aj hB.size
 have HB := aj hB
 clear hB
 have H : (if s0_1 < (s0_0.size : Int) then (if 0 ≤ s0_1 then (if (bt s0_0 s0_1) = a1 then (some (true, s0_0, wrap64 (s0_1 + 1))) else (some (false, s0_0, s0_1))) else (none)) else (some (false, s0_0, s0_1))) = some (r1, r2, r3) := h
 clear h
 by_cases c3 : s0_1 < (s0_0.size : Int)
 ·rw [if_pos c3] at H
  have c3b0 : decide (s0_1 < (s0_0.size : Int)) = true := decide_eq_true c3
  clear c3
  by_cases c4 : 0 ≤ s0_1
  ·rw [if_pos c4] at H
   have c4b0 : decide (0 ≤ s0_1) = true := decide_eq_true c4
   clear c4
   by_cases c6 : (bt s0_0 s0_1) = a1
   ·rw [if_pos c6] at H
    have c6b0 : ((bt s0_0 s0_1) == a1) = true := beq_iff_eq.mpr c6
    have c6b1 : ((bt s0_0 s0_1) != a1) = false := bne_eq_false_iff_eq.mpr c6
    clear c6
    simp only [Option.some.injEq, Prod.mk.injEq] at H
    obtain ⟨rfl, rfl, rfl⟩ := H
    obtain ⟨HGz7, hgz7⟩ := HI0.out
    have hcz7_0 := cellS80_0 HGz7
    have hcz7_1 := cellS80_1 HGz7
    have hfz7_0 := blk_frozen HGz7 0
    have hfz7_1 := blk_frozen HGz7 1
    clear HGz7 hgz7
    have p5 : 0 ≤ (s0_1 : Int) := of_decide_eq_true (by (with_reducible assumption))
    have q5 : s0_1 < (s0_0.size : Int) := of_decide_eq_true (by (with_reducible assumption))
    have hx5 := bt_at s0_0 s0_1
    replace p5 := eq_true p5
    replace q5 := eq_true q5
    go_enter Tryd.func65, Tryd.ntmps65
    go_wp2
    repeat (go_quiet (fail); try go_wp2)
    go_ret
    exact ⟨by rfl, by repeat (with_reducible first | exact HI0.out | apply IsS80.drewN | apply IsS80.set_1), by repeat (with_reducible first | exact HB.out | apply pw_below_drewN | refine below_set ?_ (IsS80.ge HI0.out)), by repeat (with_reducible first | exact HK.out | apply KeepBut.set_ | apply keep_drewN)⟩
   ·rw [if_neg c6] at H
    have c6b0 : ((bt s0_0 s0_1) == a1) = false := beq_eq_false_iff_ne.mpr c6
    have c6b1 : ((bt s0_0 s0_1) != a1) = true := bne_iff_ne.mpr c6
    simp only [Option.some.injEq, Prod.mk.injEq] at H
    obtain ⟨rfl, rfl, rfl⟩ := H
    obtain ⟨HGz8, hgz8⟩ := HI0.out
    have hcz8_0 := cellS80_0 HGz8
    have hcz8_1 := cellS80_1 HGz8
    have hfz8_0 := blk_frozen HGz8 0
    have hfz8_1 := blk_frozen HGz8 1
    clear HGz8 hgz8
    have p5 : 0 ≤ (s0_1 : Int) := of_decide_eq_true (by (with_reducible assumption))
    have q5 : s0_1 < (s0_0.size : Int) := of_decide_eq_true (by (with_reducible assumption))
    have hx5 := bt_at s0_0 s0_1
    replace p5 := eq_true p5
    replace q5 := eq_true q5
    go_enter Tryd.func65, Tryd.ntmps65
    go_wp2
    repeat (go_quiet (fail); try go_wp2)
    go_ret
    exact ⟨by rfl, by repeat (with_reducible first | exact HI0.out | apply IsS80.drewN), by repeat (with_reducible first | exact HB.out | apply pw_below_drewN), by repeat (with_reducible first | exact HK.out | apply keep_drewN)⟩
  ·rw [if_neg c4] at H
   exact absurd H (by simp)
 ·rw [if_neg c3] at H
  have c3b0 : decide (s0_1 < (s0_0.size : Int)) = false := decide_eq_false c3
  clear c3
  simp only [Option.some.injEq, Prod.mk.injEq] at H
  obtain ⟨rfl, rfl, rfl⟩ := H
  obtain ⟨HGz9, hgz9⟩ := HI0.out
  have hcz9_0 := cellS80_0 HGz9
  have hcz9_1 := cellS80_1 HGz9
  have hfz9_0 := blk_frozen HGz9 0
  have hfz9_1 := blk_frozen HGz9 1
  clear HGz9 hgz9
  go_enter Tryd.func65, Tryd.ntmps65
  go_wp2
  repeat (go_quiet (fail); try go_wp2)
  go_ret
  exact ⟨by rfl, by repeat (with_reducible first | exact HI0.out | apply IsS80.drewN), by repeat (with_reducible first | exact HB.out | apply pw_below_drewN), by repeat (with_reducible first | exact HK.out | apply keep_drewN)⟩
/-! ### spec_reader_digits: function 67 -/
def spec_reader_digits.l0 : Nat → Int → Int → ByteArray → Int → Option (Bool × ByteArray × Int)
 | 0, _, _, _, _ => none
 | k + 1, x3, x4, x1000, x1001 => if 48 ≤ x4 then (if x4 ≤ 57 then ((spec_reader_here.f x1000 (wrap64 (x1001 + 1))).bind fun bt117 => (spec_reader_digits.l0 k x3 bt117.1 bt117.2.1 bt117.2.2)) else (some (decide (x1001 > x3), x1000, x1001))) else (some (decide (x1001 > x3), x1000, x1001))
def spec_reader_digits.f (k : Nat) (s0_0 : ByteArray) (s0_1 : Int) : Option (Bool × ByteArray × Int) := (spec_reader_here.f s0_0 s0_1).bind fun bt114 => (spec_reader_digits.l0 k s0_1 bt114.1 bt114.2.1 bt114.2.2)
set_option maxHeartbeats 8000000 in
set_option maxRecDepth 100000 in
theorem spec_reader_digits.calls (k : Nat) (g : Nat) (s0_0 : ByteArray) (s0_1 : Int) (r1 : Bool) (r2 : ByteArray) (r3 : Int) (w0 w : World) (hI : IsS80 w0 w g s0_0 s0_1) (hB : Below w0.heap.size w0 w) (h : spec_reader_digits.f k s0_0 s0_1 = some (r1, r2, r3)) :
  Calls Tryd.prog 67 #[.pointer (some ⟨g, 0, none⟩)] w fun e w' => e = .returned (.bool r1) ∧ IsS80 w0 w' g r2 r3 ∧ Below w0.heap.size w0 w' ∧ KeepBut w w' g none := by
 have HI0 := aj hI
 have HK := aj (KeepBut.refl w g none)
 have HL := aj hB.size
 clear hI
 have HW0 := aj hB.size
 have HB := aj hB
 clear hB
 have H : ((spec_reader_here.f s0_0 s0_1).bind fun bt114 => (spec_reader_digits.l0 k s0_1 bt114.1 bt114.2.1 bt114.2.2)) = some (r1, r2, r3) := h
 clear h
 obtain ⟨⟨t114, t115, t116⟩, A20, H⟩ := Option.bind_eq_some_iff.mp H
 try dsimp only at H
 have A2 := aj A20
 clear A20
 have H' := aj H
 clear H
 obtain ⟨HGz3, hgz3⟩ := HI0.out
 have hcz3_0 := cellS80_0 HGz3
 have hcz3_1 := cellS80_1 HGz3
 have hfz3_0 := blk_frozen HGz3 0
 have hfz3_1 := blk_frozen HGz3 1
 clear HGz3 hgz3
 go_enter Tryd.func67, Tryd.ntmps67
 go_wp2_with ((((with_reducible refine gate_callee (f := 50) rfl ?_); refine goesL_ (some 10) rfl rfl Tryd.func50 (by kernel_rfl) rfl #[.pointer (some ⟨g, 0, none⟩)] rfl (by (try simp only [List.map_toArray, List.map_cons, List.map_nil]); rfl) ?_; (with_reducible refine (spec_reader_here.calls g s0_0 s0_1 t114 t115 t116 w0 _ ?side1 ?side2 A2.out).mono ?_); (case side1 => exact HI0.out); (case side2 => exact HB.out); rintro e w4 ⟨rfl, hi, hb, hk⟩; refine ⟨_, rfl, ?_⟩; replace HK := aj (KeepBut.trans HK.out hk (.inl rfl)); replace HB := aj (hb); replace HI0 := aj (hi); clear hb hk hi)))
 try simp only [Act.put, List.setIfInBounds_toArray, List.set_cons_succ, List.set_cons_zero]
 go_loopg [4] k (fun kq v4 w' => ∃ (x4_1 : Int) (x1000_1 : ByteArray) (x1001_1 : Int), v4 = .int .u8 x4_1 ∧ Aside0 (spec_reader_digits.l0 kq s0_1 x4_1 x1000_1 x1001_1 = some (r1, r2, r3)) ∧ Aside0 (kq ≤ k) ∧ Aside0 (IsS80 w0 w' g x1000_1 x1001_1) ∧ Aside0 (KeepBut w w' g none) ∧ Aside0 (Below w0.heap.size w0 w'))
 case atStart => exact ⟨(t114), (t115), (t116), (by rfl), H', ⟨Nat.le_refl _⟩, ⟨HI0.out⟩, ⟨HK.out⟩, ⟨HB.out⟩⟩
 case round =>
  clear H' hcz3_0 hcz3_1 hfz3_0 hfz3_1
  obtain ⟨x4_1, x1000_1, x1001_1, rfl, HA, HK1, HI0, HK, HB⟩ := hrel
  cases gk with
  | zero => exact absurd HA.out (by simp [spec_reader_digits.l0])
  | succ k1 =>
   have H := HA.out
   clear HA
   simp only [spec_reader_digits.l0] at H
   by_cases c5 : 48 ≤ x4_1
   ·rw [if_pos c5] at H
    have c5b0 : decide (48 ≤ x4_1) = true := decide_eq_true c5
    clear c5
    by_cases c6 : x4_1 ≤ 57
    ·rw [if_pos c6] at H
     have c6b0 : decide (x4_1 ≤ 57) = true := decide_eq_true c6
     clear c6
     obtain ⟨⟨t117, t118, t119⟩, A70, H⟩ := Option.bind_eq_some_iff.mp H
     try dsimp only at H
     have A7 := aj A70
     clear A70
     have H' := aj H
     clear H
     obtain ⟨HGz8, hgz8⟩ := HI0.out
     have hcz8_0 := cellS80_0 HGz8
     have hcz8_1 := cellS80_1 HGz8
     have hfz8_0 := blk_frozen HGz8 0
     have hfz8_1 := blk_frozen HGz8 1
     clear HGz8 hgz8
     go_wp2_with ((((with_reducible refine gate_callee (f := 50) rfl ?_); refine goesL_ (some 18) rfl rfl Tryd.func50 (by kernel_rfl) rfl #[.pointer (some ⟨g, 0, none⟩)] rfl (by (try simp only [List.map_toArray, List.map_cons, List.map_nil]); rfl) ?_; (with_reducible refine (spec_reader_here.calls g x1000_1 (wrap64 (x1001_1 + 1)) t117 t118 t119 w0 _ ?side1 ?side2 A7.out).mono ?_); (case side1 => repeat (with_reducible first | exact HI0.out | apply IsS80.set_1)); (case side2 => repeat (with_reducible first | exact HB.out | refine below_set ?_ (IsS80.ge HI0.out))); rintro e w9 ⟨rfl, hi, hb, hk⟩; refine ⟨_, rfl, ?_⟩; replace HK := aj (KeepBut.trans (by repeat (with_reducible first | exact HK.out | apply KeepBut.set_)) hk (.inl rfl)); replace HB := aj (hb); replace HI0 := aj (hi); clear hb hk hi)))
     go_roundg k1
     case measure => have := HK1.out; omega
     case rel => exact ⟨(t117), (t118), (t119), (by rfl), H', ⟨by have := HK1.out; omega⟩, ⟨HI0.out⟩, ⟨HK.out⟩, ⟨HB.out⟩⟩
    ·rw [if_neg c6] at H
     have c6b0 : decide (x4_1 ≤ 57) = false := decide_eq_false c6
     clear c6
     simp only [Option.some.injEq, Prod.mk.injEq] at H
     obtain ⟨rfl, rfl, rfl⟩ := H
     obtain ⟨HGz10, hgz10⟩ := HI0.out
     have hcz10_0 := cellS80_0 HGz10
     have hcz10_1 := cellS80_1 HGz10
     have hfz10_0 := blk_frozen HGz10 0
     have hfz10_1 := blk_frozen HGz10 1
     clear HGz10 hgz10
     go_wp2
     go_ret
     exact ⟨by rfl, by exact HI0.out, by exact HB.out, by exact HK.out⟩
   ·rw [if_neg c5] at H
    have c5b0 : decide (48 ≤ x4_1) = false := decide_eq_false c5
    clear c5
    simp only [Option.some.injEq, Prod.mk.injEq] at H
    obtain ⟨rfl, rfl, rfl⟩ := H
    obtain ⟨HGz11, hgz11⟩ := HI0.out
    have hcz11_0 := cellS80_0 HGz11
    have hcz11_1 := cellS80_1 HGz11
    have hfz11_0 := blk_frozen HGz11 0
    have hfz11_1 := blk_frozen HGz11 1
    clear HGz11 hgz11
    go_wp2
    go_ret
    exact ⟨by rfl, by exact HI0.out, by exact HB.out, by exact HK.out⟩
end Go.Proofs.YtcfhnfjkiljigaaDoor.XFnJpGetUnsafe
end
section
-- Written by xprint.py of this session (a program that runs the kit's print and adds to it); Lean checks it.
namespace Go.Proofs.YtcfhnfjkiljigaaDoor.XFnJpGetUnsafe
open Go.RowKit Go.Proofs.YtcfhnfjkiljigaaDoorW.PrintWords Go.Proofs.YtcfhnfjkiljigaaDoorW.PrintLast Go.Proofs.YtcfhnfjkiljigaaDoorW.PrintMore
attribute [local go_sem] max2_int min2_int max_two min_two max_three min_three max_four min_four   -- for this text's walks alone
set_option linter.unusedVariables false
set_option linter.unusedSimpArgs false
/-! ### spec_reader_number: function 54 -/
mutual
def spec_reader_number.j0 : Nat → Bool → ByteArray → Int → Option (Bool × ByteArray × Int)
 | 0, _, _, _ => none
 | k + 1, x12, x1000, x1001 => if x12 = true then (some (false, x1000, x1001)) else ((spec_reader_take.f x1000 x1001 46).bind fun bt129 => (if bt129.1 = true then ((spec_reader_digits.f k bt129.2.1 bt129.2.2).bind fun bt132 => (spec_reader_number.j1 k (!bt132.1) bt132.2.1 bt132.2.2)) else (spec_reader_number.j1 k false bt129.2.1 bt129.2.2)))
def spec_reader_number.j1 : Nat → Bool → ByteArray → Int → Option (Bool × ByteArray × Int)
 | 0, _, _, _ => none
 | k + 1, x19, x1000, x1001 => if x19 = true then (some (false, x1000, x1001)) else ((spec_reader_take.f x1000 x1001 101).bind fun bt135 => (if bt135.1 = true then (spec_reader_number.j2 k true bt135.2.1 bt135.2.2) else ((spec_reader_take.f bt135.2.1 bt135.2.2 69).bind fun bt138 => (spec_reader_number.j2 k bt138.1 bt138.2.1 bt138.2.2))))
def spec_reader_number.j2 : Nat → Bool → ByteArray → Int → Option (Bool × ByteArray × Int)
 | 0, _, _, _ => none
 | k + 1, x25, x1000, x1001 => if x25 = true then ((spec_reader_take.f x1000 x1001 43).bind fun bt141 => (if bt141.1 = true then ((spec_reader_digits.f k bt141.2.1 bt141.2.2).bind fun bt144 => (some (bt144.1, bt144.2.1, bt144.2.2))) else ((spec_reader_take.f bt141.2.1 bt141.2.2 45).bind fun bt147 => ((spec_reader_digits.f k bt147.2.1 bt147.2.2).bind fun bt150 => (some (bt150.1, bt150.2.1, bt150.2.2)))))) else (some (true, x1000, x1001))
end
def spec_reader_number.f (k : Nat) (s0_0 : ByteArray) (s0_1 : Int) : Option (Bool × ByteArray × Int) := (spec_reader_take.f s0_0 s0_1 45).bind fun bt120 => ((spec_reader_take.f bt120.2.1 bt120.2.2 48).bind fun bt123 => (if bt123.1 = true then (spec_reader_number.j0 k false bt123.2.1 bt123.2.2) else ((spec_reader_digits.f k bt123.2.1 bt123.2.2).bind fun bt126 => (spec_reader_number.j0 k (!bt126.1) bt126.2.1 bt126.2.2))))
set_option maxHeartbeats 8000000 in
set_option maxRecDepth 100000 in
theorem spec_reader_number.calls (k : Nat) (g : Nat) (s0_0 : ByteArray) (s0_1 : Int) (r1 : Bool) (r2 : ByteArray) (r3 : Int) (w0 w : World) (hI : IsS80 w0 w g s0_0 s0_1) (hB : Below w0.heap.size w0 w) (h : spec_reader_number.f k s0_0 s0_1 = some (r1, r2, r3)) :
  Calls Tryd.prog 54 #[.pointer (some ⟨g, 0, none⟩)] w fun e w' => e = .returned (.bool r1) ∧ IsS80 w0 w' g r2 r3 ∧ Below w0.heap.size w0 w' ∧ KeepBut w w' g none := by
 have HI0 := aj hI
 have HK := aj (KeepBut.refl w g none)
 have HL := aj hB.size
 clear hI
 have HW0 := aj hB.size
 have HB := aj hB
 clear hB
 have H : ((spec_reader_take.f s0_0 s0_1 45).bind fun bt120 => ((spec_reader_take.f bt120.2.1 bt120.2.2 48).bind fun bt123 => (if bt123.1 = true then (spec_reader_number.j0 k false bt123.2.1 bt123.2.2) else ((spec_reader_digits.f k bt123.2.1 bt123.2.2).bind fun bt126 => (spec_reader_number.j0 k (!bt126.1) bt126.2.1 bt126.2.2))))) = some (r1, r2, r3) := h
 clear h
 obtain ⟨⟨t120, t121, t122⟩, A20, H⟩ := Option.bind_eq_some_iff.mp H
 try dsimp only at H
 have A2 := aj A20
 clear A20
 have HC3 := aj H
 clear H
 go_enter Tryd.func54, Tryd.ntmps54
 go_upto_region 2 with ((((with_reducible refine gate_callee (f := 65) rfl ?_); refine goesL_ (some 4) rfl rfl Tryd.func65 (by kernel_rfl) rfl #[.pointer (some ⟨g, 0, none⟩), .int .u8 45] rfl (by (try simp only [List.map_toArray, List.map_cons, List.map_nil]); rfl) ?_; (with_reducible refine (spec_reader_take.calls g s0_0 s0_1 45 t120 t121 t122 w0 _ ?side1 ?side2 A2.out).mono ?_); (case side1 => exact HI0.out); (case side2 => exact HB.out); rintro e w4 ⟨rfl, hi, hb, hk⟩; refine ⟨_, rfl, ?_⟩; replace HK := aj (KeepBut.trans HK.out hk (.inl rfl)); replace HB := aj (hb); replace HI0 := aj (hi); clear hb hk hi)))
 (try simp only [Act.put, List.setIfInBounds_toArray, List.set_cons_zero, List.set_cons_succ])
 go_cut [12] (fun v12 wc => ∃ (kq : Nat) (x12_2 : Bool) (x1000_2 : ByteArray) (x1001_2 : Int), v12 = .bool x12_2 ∧ Aside0 (spec_reader_number.j0 kq x12_2 x1000_2 x1001_2 = some (r1, r2, r3)) ∧ Aside0 (kq ≤ k) ∧ Aside0 (IsS80 w0 wc g x1000_2 x1001_2) ∧ Aside0 (KeepBut w wc g none) ∧ Aside0 (Below w0.heap.size w0 wc))
 case first =>
  have H := HC3.out
  clear HC3
  obtain ⟨⟨t123, t124, t125⟩, A50, H⟩ := Option.bind_eq_some_iff.mp H
  try dsimp only at H
  have A5 := aj A50
  clear A50
  by_cases c6 : t123 = true
  ·subst c6
   rw [if_pos rfl] at H
   have H' := aj H
   clear H
   go_wp2_with ((((with_reducible refine gate_callee (f := 65) rfl ?_); refine goesL_ (some 6) rfl rfl Tryd.func65 (by kernel_rfl) rfl #[.pointer (some ⟨g, 0, none⟩), .int .u8 48] rfl (by (try simp only [List.map_toArray, List.map_cons, List.map_nil]); rfl) ?_; (with_reducible refine (spec_reader_take.calls g t121 t122 48 true t124 t125 w0 _ ?side1 ?side2 A5.out).mono ?_); (case side1 => exact HI0.out); (case side2 => exact HB.out); rintro e w7 ⟨rfl, hi, hb, hk⟩; refine ⟨_, rfl, ?_⟩; replace HK := aj (KeepBut.trans HK.out hk (.inl rfl)); replace HB := aj (hb); replace HI0 := aj (hi); clear hb hk hi)))
   go_meet
   case rel => exact ⟨_, (false), (t124), (t125), (by rfl), H', ⟨by omega⟩, ⟨HI0.out⟩, ⟨HK.out⟩, ⟨HB.out⟩⟩
  ·replace c6 := Bool.eq_false_iff.mpr c6
   subst c6
   rw [if_neg (show ¬ (false = true) by decide)] at H
   obtain ⟨⟨t126, t127, t128⟩, A80, H⟩ := Option.bind_eq_some_iff.mp H
   try dsimp only at H
   have A8 := aj A80
   clear A80
   have H' := aj H
   clear H
   go_wp2_with (first | ((with_reducible refine gate_callee (f := 65) rfl ?_); refine goesL_ (some 6) rfl rfl Tryd.func65 (by kernel_rfl) rfl #[.pointer (some ⟨g, 0, none⟩), .int .u8 48] rfl (by (try simp only [List.map_toArray, List.map_cons, List.map_nil]); rfl) ?_; (with_reducible refine (spec_reader_take.calls g t121 t122 48 false t124 t125 w0 _ ?side1 ?side2 A5.out).mono ?_); (case side1 => exact HI0.out); (case side2 => exact HB.out); rintro e w9 ⟨rfl, hi, hb, hk⟩; refine ⟨_, rfl, ?_⟩; replace HK := aj (KeepBut.trans HK.out hk (.inl rfl)); replace HB := aj (hb); replace HI0 := aj (hi); clear hb hk hi) | (go_at_call 67; (with_reducible refine (spec_reader_digits.calls k g t124 t125 t126 t127 t128 w0 _ ?side1 ?side2 A8.out).mono ?_); (case side1 => exact HI0.out); (case side2 => exact HB.out); rintro e w10 ⟨rfl, hi, hb, hk⟩; replace HK := aj (KeepBut.trans HK.out hk (.inl rfl)); replace HB := aj (hb); replace HI0 := aj (hi); clear hb hk hi))
   go_meet
   case rel => exact ⟨_, (!t126), (t127), (t128), (by rfl), H', ⟨by omega⟩, ⟨HI0.out⟩, ⟨HK.out⟩, ⟨HB.out⟩⟩
 case rest =>
  clear HC3
  obtain ⟨kq, x12_2, x1000_2, x1001_2, rfl, HA, HJ2, HI0, HK, HB⟩ := hcut
  cases kq with
  | zero => exact absurd HA.out (by simp [spec_reader_number.j0])
  | succ kj2 =>
   have H := HA.out
   clear HA
   simp only [spec_reader_number.j0] at H
   by_cases c11 : x12_2 = true
   ·subst c11
    rw [if_pos rfl] at H
    simp only [Option.some.injEq, Prod.mk.injEq] at H
    obtain ⟨rfl, rfl, rfl⟩ := H
    go_wp2
    go_ret
    exact ⟨by rfl, by exact HI0.out, by exact HB.out, by exact HK.out⟩
   ·replace c11 := Bool.eq_false_iff.mpr c11
    subst c11
    rw [if_neg (show ¬ (false = true) by decide)] at H
    have HC12 := aj H
    clear H
    go_upto_region 4 with (fail)
    go_cut [19] (fun v19 wc => ∃ (kq : Nat) (x19_11 : Bool) (x1000_11 : ByteArray) (x1001_11 : Int), v19 = .bool x19_11 ∧ Aside0 (spec_reader_number.j1 kq x19_11 x1000_11 x1001_11 = some (r1, r2, r3)) ∧ Aside0 (kq ≤ kj2) ∧ Aside0 (IsS80 w0 wc g x1000_11 x1001_11) ∧ Aside0 (KeepBut w wc g none) ∧ Aside0 (Below w0.heap.size w0 wc))
    case first =>
     have H := HC12.out
     clear HC12
     obtain ⟨⟨t129, t130, t131⟩, A130, H⟩ := Option.bind_eq_some_iff.mp H
     try dsimp only at H
     have A13 := aj A130
     clear A130
     by_cases c14 : t129 = true
     ·subst c14
      rw [if_pos rfl] at H
      obtain ⟨⟨t132, t133, t134⟩, A150, H⟩ := Option.bind_eq_some_iff.mp H
      try dsimp only at H
      have A15 := aj A150
      clear A150
      have H' := aj H
      clear H
      go_wp2_with (first | ((with_reducible refine gate_callee (f := 65) rfl ?_); refine goesL_ (some 14) rfl rfl Tryd.func65 (by kernel_rfl) rfl #[.pointer (some ⟨g, 0, none⟩), .int .u8 46] rfl (by (try simp only [List.map_toArray, List.map_cons, List.map_nil]); rfl) ?_; (with_reducible refine (spec_reader_take.calls g x1000_2 x1001_2 46 true t130 t131 w0 _ ?side1 ?side2 A13.out).mono ?_); (case side1 => exact HI0.out); (case side2 => exact HB.out); rintro e w16 ⟨rfl, hi, hb, hk⟩; refine ⟨_, rfl, ?_⟩; replace HK := aj (KeepBut.trans HK.out hk (.inl rfl)); replace HB := aj (hb); replace HI0 := aj (hi); clear hb hk hi) | (go_at_call 67; (with_reducible refine (spec_reader_digits.calls kj2 g t130 t131 t132 t133 t134 w0 _ ?side1 ?side2 A15.out).mono ?_); (case side1 => exact HI0.out); (case side2 => exact HB.out); rintro e w17 ⟨rfl, hi, hb, hk⟩; replace HK := aj (KeepBut.trans HK.out hk (.inl rfl)); replace HB := aj (hb); replace HI0 := aj (hi); clear hb hk hi))
      go_meet
      case rel => exact ⟨_, (!t132), (t133), (t134), (by rfl), H', ⟨by have := HJ2.out; omega⟩, ⟨HI0.out⟩, ⟨HK.out⟩, ⟨HB.out⟩⟩
     ·replace c14 := Bool.eq_false_iff.mpr c14
      subst c14
      rw [if_neg (show ¬ (false = true) by decide)] at H
      have H' := aj H
      clear H
      go_wp2_with ((((with_reducible refine gate_callee (f := 65) rfl ?_); refine goesL_ (some 14) rfl rfl Tryd.func65 (by kernel_rfl) rfl #[.pointer (some ⟨g, 0, none⟩), .int .u8 46] rfl (by (try simp only [List.map_toArray, List.map_cons, List.map_nil]); rfl) ?_; (with_reducible refine (spec_reader_take.calls g x1000_2 x1001_2 46 false t130 t131 w0 _ ?side1 ?side2 A13.out).mono ?_); (case side1 => exact HI0.out); (case side2 => exact HB.out); rintro e w18 ⟨rfl, hi, hb, hk⟩; refine ⟨_, rfl, ?_⟩; replace HK := aj (KeepBut.trans HK.out hk (.inl rfl)); replace HB := aj (hb); replace HI0 := aj (hi); clear hb hk hi)))
      go_meet
      case rel => exact ⟨_, (false), (t130), (t131), (by rfl), H', ⟨by have := HJ2.out; omega⟩, ⟨HI0.out⟩, ⟨HK.out⟩, ⟨HB.out⟩⟩
    case rest =>
     clear HC12
     obtain ⟨kq, x19_11, x1000_11, x1001_11, rfl, HA, HJ11, HI0, HK, HB⟩ := hcut
     cases kq with
     | zero => exact absurd HA.out (by simp [spec_reader_number.j1])
     | succ kj11 =>
      have H := HA.out
      clear HA
      simp only [spec_reader_number.j1] at H
      by_cases c19 : x19_11 = true
      ·subst c19
       rw [if_pos rfl] at H
       simp only [Option.some.injEq, Prod.mk.injEq] at H
       obtain ⟨rfl, rfl, rfl⟩ := H
       go_wp2
       go_ret
       exact ⟨by rfl, by exact HI0.out, by exact HB.out, by exact HK.out⟩
      ·replace c19 := Bool.eq_false_iff.mpr c19
       subst c19
       rw [if_neg (show ¬ (false = true) by decide)] at H
       have HC20 := aj H
       clear H
       go_upto_region 6 with (fail)
       go_cut [25] (fun v25 wc => ∃ (kq : Nat) (x25_19 : Bool) (x1000_19 : ByteArray) (x1001_19 : Int), v25 = .bool x25_19 ∧ Aside0 (spec_reader_number.j2 kq x25_19 x1000_19 x1001_19 = some (r1, r2, r3)) ∧ Aside0 (kq ≤ kj11) ∧ Aside0 (IsS80 w0 wc g x1000_19 x1001_19) ∧ Aside0 (KeepBut w wc g none) ∧ Aside0 (Below w0.heap.size w0 wc))
       case first =>
        have H := HC20.out
        clear HC20
        obtain ⟨⟨t135, t136, t137⟩, A210, H⟩ := Option.bind_eq_some_iff.mp H
        try dsimp only at H
        have A21 := aj A210
        clear A210
        by_cases c22 : t135 = true
        ·subst c22
         rw [if_pos rfl] at H
         have H' := aj H
         clear H
         go_wp2_with ((((with_reducible refine gate_callee (f := 65) rfl ?_); refine goesL_ (some 21) rfl rfl Tryd.func65 (by kernel_rfl) rfl #[.pointer (some ⟨g, 0, none⟩), .int .u8 101] rfl (by (try simp only [List.map_toArray, List.map_cons, List.map_nil]); rfl) ?_; (with_reducible refine (spec_reader_take.calls g x1000_11 x1001_11 101 true t136 t137 w0 _ ?side1 ?side2 A21.out).mono ?_); (case side1 => exact HI0.out); (case side2 => exact HB.out); rintro e w23 ⟨rfl, hi, hb, hk⟩; refine ⟨_, rfl, ?_⟩; replace HK := aj (KeepBut.trans HK.out hk (.inl rfl)); replace HB := aj (hb); replace HI0 := aj (hi); clear hb hk hi)))
         go_meet
         case rel => exact ⟨_, (true), (t136), (t137), (by rfl), H', ⟨by have := HJ2.out; have := HJ11.out; omega⟩, ⟨HI0.out⟩, ⟨HK.out⟩, ⟨HB.out⟩⟩
        ·replace c22 := Bool.eq_false_iff.mpr c22
         subst c22
         rw [if_neg (show ¬ (false = true) by decide)] at H
         obtain ⟨⟨t138, t139, t140⟩, A240, H⟩ := Option.bind_eq_some_iff.mp H
         try dsimp only at H
         have A24 := aj A240
         clear A240
         have H' := aj H
         clear H
         go_wp2_with (first | ((with_reducible refine gate_callee (f := 65) rfl ?_); refine goesL_ (some 21) rfl rfl Tryd.func65 (by kernel_rfl) rfl #[.pointer (some ⟨g, 0, none⟩), .int .u8 101] rfl (by (try simp only [List.map_toArray, List.map_cons, List.map_nil]); rfl) ?_; (with_reducible refine (spec_reader_take.calls g x1000_11 x1001_11 101 false t136 t137 w0 _ ?side1 ?side2 A21.out).mono ?_); (case side1 => exact HI0.out); (case side2 => exact HB.out); rintro e w25 ⟨rfl, hi, hb, hk⟩; refine ⟨_, rfl, ?_⟩; replace HK := aj (KeepBut.trans HK.out hk (.inl rfl)); replace HB := aj (hb); replace HI0 := aj (hi); clear hb hk hi) | (go_at_call 65; (with_reducible refine (spec_reader_take.calls g t136 t137 69 t138 t139 t140 w0 _ ?side1 ?side2 A24.out).mono ?_); (case side1 => exact HI0.out); (case side2 => exact HB.out); rintro e w26 ⟨rfl, hi, hb, hk⟩; replace HK := aj (KeepBut.trans HK.out hk (.inl rfl)); replace HB := aj (hb); replace HI0 := aj (hi); clear hb hk hi))
         go_meet
         case rel => exact ⟨_, (t138), (t139), (t140), (by rfl), H', ⟨by have := HJ2.out; have := HJ11.out; omega⟩, ⟨HI0.out⟩, ⟨HK.out⟩, ⟨HB.out⟩⟩
       case rest =>
        clear HC20
        obtain ⟨kq, x25_19, x1000_19, x1001_19, rfl, HA, HJ19, HI0, HK, HB⟩ := hcut
        cases kq with
        | zero => exact absurd HA.out (by simp [spec_reader_number.j2])
        | succ kj19 =>
         have H := HA.out
         clear HA
         simp only [spec_reader_number.j2] at H
         by_cases c27 : x25_19 = true
         ·subst c27
          rw [if_pos rfl] at H
          obtain ⟨⟨t141, t142, t143⟩, A280, H⟩ := Option.bind_eq_some_iff.mp H
          try dsimp only at H
          have A28 := aj A280
          clear A280
          by_cases c29 : t141 = true
          ·subst c29
           rw [if_pos rfl] at H
           obtain ⟨⟨t144, t145, t146⟩, A300, H⟩ := Option.bind_eq_some_iff.mp H
           try dsimp only at H
           have A30 := aj A300
           clear A300
           simp only [Option.some.injEq, Prod.mk.injEq] at H
           obtain ⟨rfl, rfl, rfl⟩ := H
           go_wp2_with (first | ((with_reducible refine gate_callee (f := 65) rfl ?_); refine goesL_ (some 27) rfl rfl Tryd.func65 (by kernel_rfl) rfl #[.pointer (some ⟨g, 0, none⟩), .int .u8 43] rfl (by (try simp only [List.map_toArray, List.map_cons, List.map_nil]); rfl) ?_; (with_reducible refine (spec_reader_take.calls g x1000_19 x1001_19 43 true t142 t143 w0 _ ?side1 ?side2 A28.out).mono ?_); (case side1 => exact HI0.out); (case side2 => exact HB.out); rintro e w31 ⟨rfl, hi, hb, hk⟩; refine ⟨_, rfl, ?_⟩; replace HK := aj (KeepBut.trans HK.out hk (.inl rfl)); replace HB := aj (hb); replace HI0 := aj (hi); clear hb hk hi) | ((with_reducible refine gate_callee (f := 67) rfl ?_); refine goesL_ (some 32) rfl rfl Tryd.func67 (by kernel_rfl) rfl #[.pointer (some ⟨g, 0, none⟩)] rfl (by (try simp only [List.map_toArray, List.map_cons, List.map_nil]); rfl) ?_; (with_reducible refine (spec_reader_digits.calls kj19 g t142 t143 t144 t145 t146 w0 _ ?side1 ?side2 A30.out).mono ?_); (case side1 => exact HI0.out); (case side2 => exact HB.out); rintro e w32 ⟨rfl, hi, hb, hk⟩; refine ⟨_, rfl, ?_⟩; replace HK := aj (KeepBut.trans HK.out hk (.inl rfl)); replace HB := aj (hb); replace HI0 := aj (hi); clear hb hk hi))
           go_ret
           exact ⟨by rfl, by exact HI0.out, by exact HB.out, by exact HK.out⟩
          ·replace c29 := Bool.eq_false_iff.mpr c29
           subst c29
           rw [if_neg (show ¬ (false = true) by decide)] at H
           obtain ⟨⟨t147, t148, t149⟩, A330, H⟩ := Option.bind_eq_some_iff.mp H
           try dsimp only at H
           have A33 := aj A330
           clear A330
           obtain ⟨⟨t150, t151, t152⟩, A340, H⟩ := Option.bind_eq_some_iff.mp H
           try dsimp only at H
           have A34 := aj A340
           clear A340
           simp only [Option.some.injEq, Prod.mk.injEq] at H
           obtain ⟨rfl, rfl, rfl⟩ := H
           go_wp2_with (first | ((with_reducible refine gate_callee (f := 65) rfl ?_); refine goesL_ (some 27) rfl rfl Tryd.func65 (by kernel_rfl) rfl #[.pointer (some ⟨g, 0, none⟩), .int .u8 43] rfl (by (try simp only [List.map_toArray, List.map_cons, List.map_nil]); rfl) ?_; (with_reducible refine (spec_reader_take.calls g x1000_19 x1001_19 43 false t142 t143 w0 _ ?side1 ?side2 A28.out).mono ?_); (case side1 => exact HI0.out); (case side2 => exact HB.out); rintro e w35 ⟨rfl, hi, hb, hk⟩; refine ⟨_, rfl, ?_⟩; replace HK := aj (KeepBut.trans HK.out hk (.inl rfl)); replace HB := aj (hb); replace HI0 := aj (hi); clear hb hk hi) | ((with_reducible refine gate_callee (f := 65) rfl ?_); refine goesL_ (some 30) rfl rfl Tryd.func65 (by kernel_rfl) rfl #[.pointer (some ⟨g, 0, none⟩), .int .u8 45] rfl (by (try simp only [List.map_toArray, List.map_cons, List.map_nil]); rfl) ?_; (with_reducible refine (spec_reader_take.calls g t142 t143 45 t147 t148 t149 w0 _ ?side1 ?side2 A33.out).mono ?_); (case side1 => exact HI0.out); (case side2 => exact HB.out); rintro e w36 ⟨rfl, hi, hb, hk⟩; refine ⟨_, rfl, ?_⟩; replace HK := aj (KeepBut.trans HK.out hk (.inl rfl)); replace HB := aj (hb); replace HI0 := aj (hi); clear hb hk hi) | ((with_reducible refine gate_callee (f := 67) rfl ?_); refine goesL_ (some 32) rfl rfl Tryd.func67 (by kernel_rfl) rfl #[.pointer (some ⟨g, 0, none⟩)] rfl (by (try simp only [List.map_toArray, List.map_cons, List.map_nil]); rfl) ?_; (with_reducible refine (spec_reader_digits.calls kj19 g t148 t149 t150 t151 t152 w0 _ ?side1 ?side2 A34.out).mono ?_); (case side1 => exact HI0.out); (case side2 => exact HB.out); rintro e w37 ⟨rfl, hi, hb, hk⟩; refine ⟨_, rfl, ?_⟩; replace HK := aj (KeepBut.trans HK.out hk (.inl rfl)); replace HB := aj (hb); replace HI0 := aj (hi); clear hb hk hi))
           go_ret
           exact ⟨by rfl, by exact HI0.out, by exact HB.out, by exact HK.out⟩
         ·replace c27 := Bool.eq_false_iff.mpr c27
          subst c27
          rw [if_neg (show ¬ (false = true) by decide)] at H
          simp only [Option.some.injEq, Prod.mk.injEq] at H
          obtain ⟨rfl, rfl, rfl⟩ := H
          go_wp2
          go_ret
          exact ⟨by rfl, by exact HI0.out, by exact HB.out, by exact HK.out⟩
/-! ### spec_reader_word: function 55 -/
def spec_reader_word.f (s0_0 : ByteArray) (s0_1 : Int) (a1 : ByteArray) : Option (Bool × ByteArray × Int) := if (wrap64 ((s0_0.size : Int) - s0_1)) < (a1.size : Int) then (some (false, s0_0, s0_1)) else (if 0 ≤ s0_1 then (if s0_1 ≤ (wrap64 (s0_1 + (a1.size : Int))) then (if (wrap64 (s0_1 + (a1.size : Int))) ≤ (s0_0.size : Int) then (if (s0_0.extract (s0_1 : Int).toNat ((wrap64 (s0_1 + (a1.size : Int))) : Int).toNat).toList = a1.toList then (some (true, s0_0, wrap64 (s0_1 + (a1.size : Int)))) else (some (false, s0_0, s0_1))) else (none)) else (none)) else (none))
set_option maxHeartbeats 8000000 in
set_option maxRecDepth 100000 in
theorem spec_reader_word.calls (g : Nat) (s0_0 : ByteArray) (s0_1 : Int) (a1 : ByteArray) (r1 : Bool) (r2 : ByteArray) (r3 : Int) (w0 w : World) (hI : IsS80 w0 w g s0_0 s0_1) (hB : Below w0.heap.size w0 w) (h : spec_reader_word.f s0_0 s0_1 a1 = some (r1, r2, r3)) :
  Calls Tryd.prog 55 #[.pointer (some ⟨g, 0, none⟩), .string a1] w fun e w' => e = .returned (.bool r1) ∧ IsS80 w0 w' g r2 r3 ∧ Below w0.heap.size w0 w' ∧ KeepBut w w' g none := by
 have HI0 := aj hI
 have HK := aj (KeepBut.refl w g none)
 have HL := aj hB.size
 clear hI
 have HW0 := aj hB.size
 have HB := aj hB
 clear hB
 have H : (if (wrap64 ((s0_0.size : Int) - s0_1)) < (a1.size : Int) then (some (false, s0_0, s0_1)) else (if 0 ≤ s0_1 then (if s0_1 ≤ (wrap64 (s0_1 + (a1.size : Int))) then (if (wrap64 (s0_1 + (a1.size : Int))) ≤ (s0_0.size : Int) then (if (s0_0.extract (s0_1 : Int).toNat ((wrap64 (s0_1 + (a1.size : Int))) : Int).toNat).toList = a1.toList then (some (true, s0_0, wrap64 (s0_1 + (a1.size : Int)))) else (some (false, s0_0, s0_1))) else (none)) else (none)) else (none))) = some (r1, r2, r3) := h
 clear h
 by_cases c3 : (wrap64 ((s0_0.size : Int) - s0_1)) < (a1.size : Int)
 ·rw [if_pos c3] at H
  have c3b0 : decide ((wrap64 ((s0_0.size : Int) - s0_1)) < (a1.size : Int)) = true := decide_eq_true c3
  clear c3
  simp only [Option.some.injEq, Prod.mk.injEq] at H
  obtain ⟨rfl, rfl, rfl⟩ := H
  obtain ⟨HGz4, hgz4⟩ := HI0.out
  have hcz4_0 := cellS80_0 HGz4
  have hcz4_1 := cellS80_1 HGz4
  have hfz4_0 := blk_frozen HGz4 0
  have hfz4_1 := blk_frozen HGz4 1
  clear HGz4 hgz4
  go_enter Tryd.func55, Tryd.ntmps55
  go_wp2
  repeat (go_quiet (fail); try go_wp2)
  go_ret
  exact ⟨by rfl, by repeat (with_reducible first | exact HI0.out | apply IsS80.drewN), by repeat (with_reducible first | exact HB.out | apply pw_below_drewN), by repeat (with_reducible first | exact HK.out | apply keep_drewN)⟩
 ·rw [if_neg c3] at H
  have c3b0 : decide ((wrap64 ((s0_0.size : Int) - s0_1)) < (a1.size : Int)) = false := decide_eq_false c3
  clear c3
  by_cases c5 : 0 ≤ s0_1
  ·rw [if_pos c5] at H
   have c5b0 := eq_true c5
   have c5b1 : decide (0 ≤ s0_1) = true := decide_eq_true c5
   clear c5
   by_cases c6 : s0_1 ≤ (wrap64 (s0_1 + (a1.size : Int)))
   ·rw [if_pos c6] at H
    have c6b0 := eq_true c6
    have c6b1 : decide (s0_1 ≤ (wrap64 (s0_1 + (a1.size : Int)))) = true := decide_eq_true c6
    by_cases c7 : (wrap64 (s0_1 + (a1.size : Int))) ≤ (s0_0.size : Int)
    ·rw [if_pos c7] at H
     have c7b0 := eq_true c7
     have c7b1 : decide ((wrap64 (s0_1 + (a1.size : Int))) ≤ (s0_0.size : Int)) = true := decide_eq_true c7
     by_cases c8 : (s0_0.extract (s0_1 : Int).toNat ((wrap64 (s0_1 + (a1.size : Int))) : Int).toNat).toList = a1.toList
     ·rw [if_pos c8] at H
      have c8b0 : ((s0_0.extract (s0_1 : Int).toNat ((wrap64 (s0_1 + (a1.size : Int))) : Int).toNat).toList == a1.toList) = true := beq_iff_eq.mpr c8
      have c8b1 : ((s0_0.extract (s0_1 : Int).toNat ((wrap64 (s0_1 + (a1.size : Int))) : Int).toNat).toList != a1.toList) = false := bne_eq_false_iff_eq.mpr c8
      clear c8
      simp only [Option.some.injEq, Prod.mk.injEq] at H
      obtain ⟨rfl, rfl, rfl⟩ := H
      obtain ⟨HGz9, hgz9⟩ := HI0.out
      have hcz9_0 := cellS80_0 HGz9
      have hcz9_1 := cellS80_1 HGz9
      have hfz9_0 := blk_frozen HGz9 0
      have hfz9_1 := blk_frozen HGz9 1
      clear HGz9 hgz9
      go_enter Tryd.func55, Tryd.ntmps55
      go_wp2
      repeat (go_quiet (fail); try go_wp2)
      go_ret
      exact ⟨by rfl, by repeat (with_reducible first | exact HI0.out | apply IsS80.drewN | apply IsS80.set_1), by repeat (with_reducible first | exact HB.out | apply pw_below_drewN | refine below_set ?_ (IsS80.ge HI0.out)), by repeat (with_reducible first | exact HK.out | apply KeepBut.set_ | apply keep_drewN)⟩
     ·rw [if_neg c8] at H
      have c8b0 : ((s0_0.extract (s0_1 : Int).toNat ((wrap64 (s0_1 + (a1.size : Int))) : Int).toNat).toList == a1.toList) = false := beq_eq_false_iff_ne.mpr c8
      have c8b1 : ((s0_0.extract (s0_1 : Int).toNat ((wrap64 (s0_1 + (a1.size : Int))) : Int).toNat).toList != a1.toList) = true := bne_iff_ne.mpr c8
      simp only [Option.some.injEq, Prod.mk.injEq] at H
      obtain ⟨rfl, rfl, rfl⟩ := H
      obtain ⟨HGz10, hgz10⟩ := HI0.out
      have hcz10_0 := cellS80_0 HGz10
      have hcz10_1 := cellS80_1 HGz10
      have hfz10_0 := blk_frozen HGz10 0
      have hfz10_1 := blk_frozen HGz10 1
      clear HGz10 hgz10
      go_enter Tryd.func55, Tryd.ntmps55
      go_wp2
      repeat (go_quiet (fail); try go_wp2)
      go_ret
      exact ⟨by rfl, by repeat (with_reducible first | exact HI0.out | apply IsS80.drewN), by repeat (with_reducible first | exact HB.out | apply pw_below_drewN), by repeat (with_reducible first | exact HK.out | apply keep_drewN)⟩
    ·rw [if_neg c7] at H
     exact absurd H (by simp)
   ·rw [if_neg c6] at H
    exact absurd H (by simp)
  ·rw [if_neg c5] at H
   exact absurd H (by simp)
/-! ### spec_reader_members: function 51 -/
/-! ### spec_reader_elements: function 52 -/
/-! ### spec_reader_value: function 37 -/
mutual
def spec_reader_members.l0 : Nat → List (S65) → List (S27) → ByteArray → Int → Option ((List (S65)) × (List (S27)) × Bool × ByteArray × Int)
 | 0, _, _, _, _ => none
 | k + 1, x5, x6, x1000, x1001 => (spec_reader_here.f x1000 x1001).bind fun bt158 => (if bt158.1 = 34 then ((spec_reader_quoted.f k bt158.2.1 bt158.2.2).bind fun bt161 => (spec_reader_members.j1 k x5 x6 x1001 (!bt161.1) bt161.2.1 bt161.2.2)) else (spec_reader_members.j1 k x5 x6 x1001 true bt158.2.1 bt158.2.2))
def spec_reader_members.j1 : Nat → List (S65) → List (S27) → Int → Bool → ByteArray → Int → Option ((List (S65)) × (List (S27)) × Bool × ByteArray × Int)
 | 0, _, _, _, _, _, _ => none
 | k + 1, x5, x6, x7, x32, x1000, x1001 => if x32 = true then (some (([] : List (S65)), ([] : List (S27)), false, x1000, x1001)) else (if x5.length < 8796093022208 then ((some (x5 ++ [(⟨x7, x1001⟩ : S65)] : List (S65))).bind fun y164 => ((spec_reader_blanks.f k x1000 x1001).bind fun bt167 => ((spec_reader_take.f bt167.1 bt167.2 58).bind fun bt169 => (if bt169.1 = true then ((spec_reader_blanks.f k bt169.2.1 bt169.2.2).bind fun bt172 => ((spec_reader_value.f k bt172.1 bt172.2).bind fun bt174 => (if bt174.2.2.2.2.2.1 = true then (if x6.length < 1954687338268 then ((some (x6 ++ [(⟨bt174.1, bt174.2.1, bt174.2.2.1, bt174.2.2.2.1, bt174.2.2.2.2.1⟩ : S27)] : List (S27))).bind fun y187 => ((spec_reader_blanks.f k bt174.2.2.2.2.2.2.1 bt174.2.2.2.2.2.2.2).bind fun bt190 => ((spec_reader_take.f bt190.1 bt190.2 125).bind fun bt192 => (if bt192.1 = true then (some (y164, y187, true, bt192.2.1, bt192.2.2)) else ((spec_reader_take.f bt192.2.1 bt192.2.2 44).bind fun bt195 => (if bt195.1 = true then ((spec_reader_blanks.f k bt195.2.1 bt195.2.2).bind fun bt198 => (spec_reader_members.l0 k y164 y187 bt198.1 bt198.2)) else (some (([] : List (S65)), ([] : List (S27)), false, bt195.2.1, bt195.2.2)))))))) else (none)) else (some (([] : List (S65)), ([] : List (S27)), false, bt174.2.2.2.2.2.2.1, bt174.2.2.2.2.2.2.2))))) else (some (([] : List (S65)), ([] : List (S27)), false, bt169.2.1, bt169.2.2)))))) else (none))
def spec_reader_members.f : Nat → ByteArray → Int → Option ((List (S65)) × (List (S27)) × Bool × ByteArray × Int)
 | 0, _, _ => none
 | k + 1, s0_0, s0_1 => (spec_reader_blanks.f k s0_0 (wrap64 (s0_1 + 1))).bind fun bt153 => ((spec_reader_take.f bt153.1 bt153.2 125).bind fun bt155 => (if bt155.1 = true then (some (([] : List (S65)), ([] : List (S27)), true, bt155.2.1, bt155.2.2)) else (spec_reader_members.l0 k ([] : List (S65)) ([] : List (S27)) bt155.2.1 bt155.2.2)))
def spec_reader_elements.l0 : Nat → List (S27) → ByteArray → Int → Option ((List (S27)) × Bool × ByteArray × Int)
 | 0, _, _, _ => none
 | k + 1, x4, x1000, x1001 => (spec_reader_value.f k x1000 x1001).bind fun bt205 => (if bt205.2.2.2.2.2.1 = true then (if x4.length < 1954687338268 then ((some (x4 ++ [(⟨bt205.1, bt205.2.1, bt205.2.2.1, bt205.2.2.2.1, bt205.2.2.2.2.1⟩ : S27)] : List (S27))).bind fun y218 => ((spec_reader_blanks.f k bt205.2.2.2.2.2.2.1 bt205.2.2.2.2.2.2.2).bind fun bt221 => ((spec_reader_take.f bt221.1 bt221.2 93).bind fun bt223 => (if bt223.1 = true then (some (y218, true, bt223.2.1, bt223.2.2)) else ((spec_reader_take.f bt223.2.1 bt223.2.2 44).bind fun bt226 => (if bt226.1 = true then ((spec_reader_blanks.f k bt226.2.1 bt226.2.2).bind fun bt229 => (spec_reader_elements.l0 k y218 bt229.1 bt229.2)) else (some (([] : List (S27)), false, bt226.2.1, bt226.2.2)))))))) else (none)) else (some (([] : List (S27)), false, bt205.2.2.2.2.2.2.1, bt205.2.2.2.2.2.2.2)))
def spec_reader_elements.f : Nat → ByteArray → Int → Option ((List (S27)) × Bool × ByteArray × Int)
 | 0, _, _ => none
 | k + 1, s0_0, s0_1 => (spec_reader_blanks.f k s0_0 (wrap64 (s0_1 + 1))).bind fun bt200 => ((spec_reader_take.f bt200.1 bt200.2 93).bind fun bt202 => (if bt202.1 = true then (some (([] : List (S27)), true, bt202.2.1, bt202.2.2)) else (spec_reader_elements.l0 k ([] : List (S27)) bt202.2.1 bt202.2.2)))
def spec_reader_value.j0 : Nat → Bool → Bool → ByteArray → Int → Int → Int → Int → Option (Int × Int × Int × (List (S65)) × (List (S27)) × Bool × ByteArray × Int)
 | 0, _, _, _, _, _, _, _ => none
 | k + 1, x5, x42, x1000, x1001, x233000, x233001, x233002 => if x42 = true then ((spec_reader_number.f k x1000 x1001).bind fun bt254 => (some (3, x233001, bt254.2.2, ([] : List (S65)), ([] : List (S27)), bt254.1, bt254.2.1, bt254.2.2))) else ((spec_reader_word.f x1000 x1001 (⟨#[110, 117, 108, 108]⟩ : ByteArray)).bind fun bt257 => (if bt257.1 = true then (some (0, x233001, bt257.2.2, ([] : List (S65)), ([] : List (S27)), x5, bt257.2.1, bt257.2.2)) else ((spec_reader_word.f bt257.2.1 bt257.2.2 (⟨#[102, 97, 108, 115, 101]⟩ : ByteArray)).bind fun bt260 => (if bt260.1 = true then (some (1, x233001, bt260.2.2, ([] : List (S65)), ([] : List (S27)), x5, bt260.2.1, bt260.2.2)) else ((spec_reader_word.f bt260.2.1 bt260.2.2 (⟨#[116, 114, 117, 101]⟩ : ByteArray)).bind fun bt263 => (if bt263.1 = true then (some (2, x233001, bt263.2.2, ([] : List (S65)), ([] : List (S27)), x5, bt263.2.1, bt263.2.2)) else (some (x233000, x233001, bt263.2.2, ([] : List (S65)), ([] : List (S27)), false, bt263.2.1, bt263.2.2))))))))
def spec_reader_value.f : Nat → ByteArray → Int → Option (Int × Int × Int × (List (S65)) × (List (S27)) × Bool × ByteArray × Int)
 | 0, _, _ => none
 | k + 1, s0_0, s0_1 => (spec_reader_here.f s0_0 s0_1).bind fun bt233 => (if bt233.1 = 123 then ((spec_reader_members.f k bt233.2.1 bt233.2.2).bind fun bt236 => (some (6, s0_1, bt236.2.2.2.2, bt236.1, bt236.2.1, bt236.2.2.1, bt236.2.2.2.1, bt236.2.2.2.2))) else (if bt233.1 = 91 then ((spec_reader_elements.f k bt233.2.1 bt233.2.2).bind fun bt245 => (some (5, s0_1, bt245.2.2.2, ([] : List (S65)), bt245.1, bt245.2.1, bt245.2.2.1, bt245.2.2.2))) else (if bt233.1 = 34 then ((spec_reader_quoted.f k bt233.2.1 bt233.2.2).bind fun bt251 => (some (4, s0_1, bt251.2.2, ([] : List (S65)), ([] : List (S27)), bt251.1, bt251.2.1, bt251.2.2))) else (if bt233.1 = 45 then (spec_reader_value.j0 k true true bt233.2.1 bt233.2.2 0 s0_1 0) else (if 48 ≤ bt233.1 then (spec_reader_value.j0 k true (decide (bt233.1 ≤ 57)) bt233.2.1 bt233.2.2 0 s0_1 0) else (spec_reader_value.j0 k true false bt233.2.1 bt233.2.2 0 s0_1 0))))))
end
abbrev spec_reader_members.Spec (k : Nat) : Prop := ∀ (g : Nat) (s0_0 : ByteArray) (s0_1 : Int) (r1 : List (S65)) (r2 : List (S27)) (r3 : Bool) (r4 : ByteArray) (r5 : Int) (w0 w : World) (hI : IsS80 w0 w g s0_0 s0_1) (hB : Below w0.heap.size w0 w) (h : spec_reader_members.f k s0_0 s0_1 = some (r1, r2, r3, r4, r5)),
  Calls Tryd.prog 51 #[.pointer (some ⟨g, 0, none⟩)] w fun e w' => ∃ v0_ v1_ : Value, e = .returned (.tuple #[v0_, v1_, .bool r3]) ∧ Kd.R k65 65 w' w.heap.size (fun _ => True) v0_ r1 ∧ Kd.R k27 27 w' w.heap.size (fun k_ => some k_ ≠ (v0_ : Value).ownBlock) v1_ r2 ∧ IsS80 w0 w' g r4 r5 ∧ Below w0.heap.size w0 w' ∧ KeepBut w w' g none
abbrev spec_reader_elements.Spec (k : Nat) : Prop := ∀ (g : Nat) (s0_0 : ByteArray) (s0_1 : Int) (r1 : List (S27)) (r2 : Bool) (r3 : ByteArray) (r4 : Int) (w0 w : World) (hI : IsS80 w0 w g s0_0 s0_1) (hB : Below w0.heap.size w0 w) (h : spec_reader_elements.f k s0_0 s0_1 = some (r1, r2, r3, r4)),
  Calls Tryd.prog 52 #[.pointer (some ⟨g, 0, none⟩)] w fun e w' => ∃ v0_ : Value, e = .returned (.tuple #[v0_, .bool r2]) ∧ Kd.R k27 27 w' w.heap.size (fun _ => True) v0_ r1 ∧ IsS80 w0 w' g r3 r4 ∧ Below w0.heap.size w0 w' ∧ KeepBut w w' g none
abbrev spec_reader_value.Spec (k : Nat) : Prop := ∀ (g : Nat) (s0_0 : ByteArray) (s0_1 : Int) (r1 : Int) (r2 : Int) (r3 : Int) (r4 : List (S65)) (r5 : List (S27)) (r6 : Bool) (r7 : ByteArray) (r8 : Int) (w0 w : World) (hI : IsS80 w0 w g s0_0 s0_1) (hB : Below w0.heap.size w0 w) (h : spec_reader_value.f k s0_0 s0_1 = some (r1, r2, r3, r4, r5, r6, r7, r8)),
  Calls Tryd.prog 37 #[.pointer (some ⟨g, 0, none⟩)] w fun e w' => ∃ v3_ v4_ : Value, e = .returned (.tuple #[.agg #[.int .i64 r1, .int .i64 r2, .int .i64 r3, v3_, v4_], .bool r6]) ∧ Kd.R k65 65 w' w.heap.size (fun _ => True) v3_ r4 ∧ Kd.R k27 27 w' w.heap.size (fun k_ => some k_ ≠ (v3_ : Value).ownBlock) v4_ r5 ∧ IsS80 w0 w' g r7 r8 ∧ Below w0.heap.size w0 w' ∧ KeepBut w w' g none
end Go.Proofs.YtcfhnfjkiljigaaDoor.XFnJpGetUnsafe
end
