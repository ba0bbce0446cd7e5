/- Proved here: parts of the law FnJpGetUnsafe (the texts XFnJpGetUnsafex8), no conditions of their own beyond what each theorem says. -/
import Derived.Test.YtcfhnfjkiljigaaDoorPa10
import Derived.Test.YtcfhnfjkiljigaaDoorPa14
section
-- Written by xprint.py of this session (a program that runs the kit's print and adds to it); Lean checks it.
namespace Go.Proofs.YtcfhnfjkiljigaaDoor.XFnJpGetUnsafe
open Go.RowKit Go.Proofs.YtcfhnfjkiljigaaDoorW.PrintWords Go.Proofs.YtcfhnfjkiljigaaDoorW.PrintLast Go.Proofs.YtcfhnfjkiljigaaDoorW.PrintMore
attribute [local go_sem] max2_int min2_int max_two min_two max_three min_three max_four min_four   -- for this text's walks alone
set_option linter.unusedVariables false
set_option linter.unusedSimpArgs false
/-! ### spec_Bracket: function 28 -/
def spec_Bracket.f (k : Nat) (a0 : ByteArray) : Option (Int × Bool) := if (a0.size : Int) < 3 then (some (0, false)) else (if 0 < (a0.size : Int) then (if (bt a0 0) = 91 then (if 0 ≤ (wrap64 ((a0.size : Int) - 1)) then (if (wrap64 ((a0.size : Int) - 1)) < (a0.size : Int) then (if (bt a0 (wrap64 ((a0.size : Int) - 1))) = 93 then (if 1 ≤ (wrap64 ((a0.size : Int) - 1)) then (if (wrap64 ((a0.size : Int) - 1)) ≤ (a0.size : Int) then ((spec_Index.f k (a0.extract 1 ((wrap64 ((a0.size : Int) - 1)) : Int).toNat)).bind fun bt356 => (some (bt356.1, bt356.2))) else (none)) else (none)) else (some (0, false))) else (none)) else (none)) else (some (0, false))) else (none))
set_option maxHeartbeats 8000000 in
set_option maxRecDepth 100000 in
theorem spec_Bracket.calls (k : Nat) (a0 : ByteArray) (r1 : Int) (r2 : Bool) (w : World) (h : spec_Bracket.f k a0 = some (r1, r2)) :
  Calls Tryd.prog 28 #[.string a0] w fun e w' => e = .returned (.tuple #[.int .i64 r1, .bool r2]) ∧ Drawn0 w w' := by
 have H : (if (a0.size : Int) < 3 then (some (0, false)) else (if 0 < (a0.size : Int) then (if (bt a0 0) = 91 then (if 0 ≤ (wrap64 ((a0.size : Int) - 1)) then (if (wrap64 ((a0.size : Int) - 1)) < (a0.size : Int) then (if (bt a0 (wrap64 ((a0.size : Int) - 1))) = 93 then (if 1 ≤ (wrap64 ((a0.size : Int) - 1)) then (if (wrap64 ((a0.size : Int) - 1)) ≤ (a0.size : Int) then ((spec_Index.f k (a0.extract 1 ((wrap64 ((a0.size : Int) - 1)) : Int).toNat)).bind fun bt356 => (some (bt356.1, bt356.2))) else (none)) else (none)) else (some (0, false))) else (none)) else (none)) else (some (0, false))) else (none))) = some (r1, r2) := h
 clear h
 by_cases c2 : (a0.size : Int) < 3
 ·rw [if_pos c2] at H
  have c2b0 : decide ((a0.size : Int) < 3) = true := decide_eq_true c2
  have c2b1 : decide (a0.size < 3) = true := decide_eq_true (by omega)
  clear c2
  simp only [Option.some.injEq, Prod.mk.injEq] at H
  obtain ⟨rfl, rfl⟩ := H
  go_enter Tryd.func28, Tryd.ntmps28
  go_wp2
  go_ret2
  exact ⟨by rfl, by repeat (exact Drawn0.refl _)⟩
 ·rw [if_neg c2] at H
  have c2b0 : decide ((a0.size : Int) < 3) = false := decide_eq_false c2
  have c2b1 : decide (a0.size < 3) = false := decide_eq_false (by omega)
  clear c2
  by_cases c3 : 0 < (a0.size : Int)
  ·rw [if_pos c3] at H
   have c3b0 : decide (0 < (a0.size : Int)) = true := decide_eq_true c3
   have c3b1 : decide (0 < a0.size) = true := decide_eq_true (by omega)
   clear c3
   by_cases c5 : (bt a0 0) = 91
   ·rw [if_pos c5] at H
    have c5b0 : ((bt a0 0) == 91) = true := beq_iff_eq.mpr c5
    have c5b1 : ((bt a0 0) != 91) = false := bne_eq_false_iff_eq.mpr c5
    clear c5
    obtain ⟨ji6, hji6⟩ : ∃ j_ : Int, (wrap64 ((a0.size : Int) - 1)) = j_ := ⟨_, rfl⟩
    replace H : (if 0 ≤ (ji6) then (if (ji6) < (a0.size : Int) then (if (bt a0 (ji6)) = 93 then (if 1 ≤ (ji6) then (if (ji6) ≤ (a0.size : Int) then ((spec_Index.f k (a0.extract 1 ((ji6) : Int).toNat)).bind fun bt356 => (some (bt356.1, bt356.2))) else (none)) else (none)) else (some (0, false))) else (none)) else (none)) = some (r1, r2) := by ((rw [hji6] at H; exact H))
    have hji6w : (IntKind.i64.wrap ((a0.size : Int) - 1)) = ji6 := (i64_w _).trans hji6
    by_cases c7 : 0 ≤ (ji6)
    ·rw [if_pos c7] at H
     have c7b0 : decide (0 ≤ (ji6)) = true := decide_eq_true c7
     clear c7
     by_cases c8 : (ji6) < (a0.size : Int)
     ·rw [if_pos c8] at H
      have c8b0 : decide ((ji6) < (a0.size : Int)) = true := decide_eq_true c8
      clear c8
      by_cases c10 : (bt a0 (ji6)) = 93
      ·rw [if_pos c10] at H
       have c10b0 : ((bt a0 (ji6)) == 93) = true := beq_iff_eq.mpr c10
       have c10b1 : ((bt a0 (ji6)) != 93) = false := bne_eq_false_iff_eq.mpr c10
       clear c10
       by_cases c11 : 1 ≤ (ji6)
       ·rw [if_pos c11] at H
        have c11b0 := eq_true c11
        have c11b1 : decide (1 ≤ (ji6)) = true := decide_eq_true c11
        clear c11
        by_cases c12 : (ji6) ≤ (a0.size : Int)
        ·rw [if_pos c12] at H
         have c12b0 := eq_true c12
         have c12b1 : decide ((ji6) ≤ (a0.size : Int)) = true := decide_eq_true c12
         clear c12
         obtain ⟨⟨t356, t357⟩, A130, H⟩ := Option.bind_eq_some_iff.mp H
         try dsimp only at H
         have A13 := aj A130
         clear A130
         simp only [Option.some.injEq, Prod.mk.injEq] at H
         obtain ⟨rfl, rfl⟩ := H
         have p4 : 0 ≤ (0 : Int) := (by omega)
         have q4 : 0 < a0.size := (by have : (0 : Int) < (a0.size : Int) := of_decide_eq_true (by (with_reducible assumption)); omega)
         have hx4 : ∀ h : 0 < a0.size, ((a0[0]'h).toNat : Int) = bt a0 0 := bt_at a0 0
         clear p4
         have qi4 : (0 < (a0.size : Int)) = True := eq_true (of_decide_eq_true (by (with_reducible assumption)))
         replace q4 := eq_true q4
         have p9 : 0 ≤ ((ji6) : Int) := of_decide_eq_true (by (with_reducible assumption))
         have q9 : (ji6) < (a0.size : Int) := of_decide_eq_true (by (with_reducible assumption))
         have hx9 := bt_at a0 (ji6)
         replace p9 := eq_true p9
         replace q9 := eq_true q9
         go_enter Tryd.func28, Tryd.ntmps28
         go_wp2_with ((((with_reducible refine gate_callee (f := 43) rfl ?_); refine goesL_ (some 25) rfl rfl Tryd.func43 (by kernel_rfl) rfl #[.string (a0.extract 1 ((ji6) : Int).toNat)] rfl (by (try simp only [List.map_toArray, List.map_cons, List.map_nil]); rfl) ?_; (with_reducible refine (spec_Index.calls k (a0.extract 1 ((ji6) : Int).toNat) t356 t357 _ A13.out).mono ?_); rintro e w' ⟨rfl, ⟨nd, rfl⟩⟩; refine ⟨_, rfl, ?_⟩)))
         go_ret2
         exact ⟨by rfl, by repeat (first | exact Drawn0.refl _ | apply Drawn0.step)⟩
        ·rw [if_neg c12] at H
         exact absurd H (by simp)
       ·rw [if_neg c11] at H
        exact absurd H (by simp)
      ·rw [if_neg c10] at H
       have c10b0 : ((bt a0 (ji6)) == 93) = false := beq_eq_false_iff_ne.mpr c10
       have c10b1 : ((bt a0 (ji6)) != 93) = true := bne_iff_ne.mpr c10
       simp only [Option.some.injEq, Prod.mk.injEq] at H
       obtain ⟨rfl, rfl⟩ := H
       have p4 : 0 ≤ (0 : Int) := (by omega)
       have q4 : 0 < a0.size := (by have : (0 : Int) < (a0.size : Int) := of_decide_eq_true (by (with_reducible assumption)); omega)
       have hx4 : ∀ h : 0 < a0.size, ((a0[0]'h).toNat : Int) = bt a0 0 := bt_at a0 0
       clear p4
       have qi4 : (0 < (a0.size : Int)) = True := eq_true (of_decide_eq_true (by (with_reducible assumption)))
       replace q4 := eq_true q4
       have p9 : 0 ≤ ((ji6) : Int) := of_decide_eq_true (by (with_reducible assumption))
       have q9 : (ji6) < (a0.size : Int) := of_decide_eq_true (by (with_reducible assumption))
       have hx9 := bt_at a0 (ji6)
       replace p9 := eq_true p9
       replace q9 := eq_true q9
       go_enter Tryd.func28, Tryd.ntmps28
       go_wp2
       go_ret2
       exact ⟨by rfl, by repeat (exact Drawn0.refl _)⟩
     ·rw [if_neg c8] at H
      exact absurd H (by simp)
    ·rw [if_neg c7] at H
     exact absurd H (by simp)
   ·rw [if_neg c5] at H
    have c5b0 : ((bt a0 0) == 91) = false := beq_eq_false_iff_ne.mpr c5
    have c5b1 : ((bt a0 0) != 91) = true := bne_iff_ne.mpr c5
    simp only [Option.some.injEq, Prod.mk.injEq] at H
    obtain ⟨rfl, rfl⟩ := H
    have p4 : 0 ≤ (0 : Int) := (by omega)
    have q4 : 0 < a0.size := (by have : (0 : Int) < (a0.size : Int) := of_decide_eq_true (by (with_reducible assumption)); omega)
    have hx4 : ∀ h : 0 < a0.size, ((a0[0]'h).toNat : Int) = bt a0 0 := bt_at a0 0
    clear p4
    have qi4 : (0 < (a0.size : Int)) = True := eq_true (of_decide_eq_true (by (with_reducible assumption)))
    replace q4 := eq_true q4
    go_enter Tryd.func28, Tryd.ntmps28
    go_wp2
    go_ret2
    exact ⟨by rfl, by repeat (exact Drawn0.refl _)⟩
  ·rw [if_neg c3] at H
   exact absurd H (by simp)
/-! ### spec_Step: function 18 -/
def spec_Step.j0 : Nat → Int → Int → Bool → Int → Int → Int → List (S65) → List (S27) → Option (Int × Int × Int × (List (S65)) × (List (S27)) × Bool)
 | 0, _, _, _, _, _, _, _, _ => none
 | k + 1, x8, x9, x33, x359000, x359001, x359002, x359003, x359004 => if x33 = true then (if x9 < 0 then (some (0, 0, 0, ([] : List (S65)), ([] : List (S27)), false)) else (if 0 ≤ x9 then (if x9 < (x359004.length : Int) then (some ((rd_T27 x359004 x9).f0, (rd_T27 x359004 x9).f1, (rd_T27 x359004 x9).f2, (rd_T27 x359004 x9).f3, (rd_T27 x359004 x9).f4, true)) else (none)) else (none))) else (if x8 < 0 then (some (0, 0, 0, ([] : List (S65)), ([] : List (S27)), false)) else (if 0 ≤ x8 then (if x8 < (x359004.length : Int) then (some ((rd_T27 x359004 x8).f0, (rd_T27 x359004 x8).f1, (rd_T27 x359004 x8).f2, (rd_T27 x359004 x8).f3, (rd_T27 x359004 x8).f4, true)) else (none)) else (none)))
def spec_Step.f (k : Nat) (a0 : ByteArray) (a1_0 : Int) (a1_1 : Int) (a1_2 : Int) (l1_3 : List (S65)) (l1_4 : List (S27)) (a2 : ByteArray) : Option (Int × Int × Int × (List (S65)) × (List (S27)) × Bool) := if a1_0 = 6 then ((spec_Named.f k a0 a1_0 a1_1 a1_2 l1_3 l1_4 a2).bind fun t360 => (if t360 < 0 then (some (0, 0, 0, ([] : List (S65)), ([] : List (S27)), false)) else (if 0 ≤ t360 then (if t360 < (l1_4.length : Int) then (some ((rd_T27 l1_4 t360).f0, (rd_T27 l1_4 t360).f1, (rd_T27 l1_4 t360).f2, (rd_T27 l1_4 t360).f3, (rd_T27 l1_4 t360).f4, true)) else (none)) else (none)))) else (if a1_0 = 5 then ((spec_Bracket.f k a2).bind fun bt362 => (if bt362.2 = true then (spec_Step.j0 k (-1) bt362.1 (decide (bt362.1 < (l1_4.length : Int))) a1_0 a1_1 a1_2 l1_3 l1_4) else (spec_Step.j0 k (-1) bt362.1 false a1_0 a1_1 a1_2 l1_3 l1_4))) else (if (-1) < 0 then (some (0, 0, 0, ([] : List (S65)), ([] : List (S27)), false)) else (if 0 ≤ (-1) then (if (-1) < (l1_4.length : Int) then (some ((rd_T27 l1_4 (-1)).f0, (rd_T27 l1_4 (-1)).f1, (rd_T27 l1_4 (-1)).f2, (rd_T27 l1_4 (-1)).f3, (rd_T27 l1_4 (-1)).f4, true)) else (none)) else (none))))
set_option maxHeartbeats 8000000 in
set_option maxRecDepth 100000 in
theorem spec_Step.calls (k : Nat) (a0 : ByteArray) (a1_0 : Int) (a1_1 : Int) (a1_2 : Int) (A1_3 : Option Addr) (c1_3 : Nat) (l1_3 : List (S65)) (P1_4_ : Nat → Prop) (A1_4 : Option Addr) (c1_4 : Nat) (l1_4 : List (S27)) (a2 : ByteArray) (r1 : Int) (r2 : Int) (r3 : Int) (r4 : List (S65)) (r5 : List (S27)) (r6 : Bool) (w : World) (hr1_3 : Kd.C k65 w A1_3 l1_3.length l1_3) (hc1_3 : l1_3.length ≤ c1_3) (hs1_4 : Kd.V k27 27 w w.heap.size (fun k_ => P1_4_ k_) (.slice A1_4 l1_4.length c1_4) l1_4) (h : spec_Step.f k a0 a1_0 a1_1 a1_2 l1_3 l1_4 a2 = some (r1, r2, r3, r4, r5, r6)) :
  Calls Tryd.prog 18 #[.string a0, .agg #[.int .i64 a1_0, .int .i64 a1_1, .int .i64 a1_2, .slice A1_3 l1_3.length c1_3, .slice A1_4 l1_4.length c1_4], .string a2] w fun e w' => ∃ v3_ v4_ : Value, e = .returned (.tuple #[.agg #[.int .i64 r1, .int .i64 r2, .int .i64 r3, v3_, v4_], .bool r6]) ∧ Kd.V k65 65 w' w.heap.size (fun k_ => (P1_4_ k_ ∨ w.heap.size ≤ k_)) v3_ r4 ∧ Kd.V k27 27 w' w.heap.size (fun k_ => (P1_4_ k_ ∨ w.heap.size ≤ k_)) v4_ r5 ∧ Below w.heap.size w w' := by
 have hu27 := Tryd.underlying27
 have HR1_3 := aj hr1_3
 have HC1_3 := aj hc1_3
 clear hr1_3 hc1_3
 have HO1_4 := aj (show Kd.V k27 27 w w.heap.size (fun k_ => (P1_4_ k_ ∨ w.heap.size ≤ k_)) (.slice A1_4 l1_4.length c1_4) l1_4 from Kd.V_mono hs1_4 (fun k_ hk => .inl hk))
 have HB := aj (Below.refl w.heap.size w)
 have H : (if a1_0 = 6 then ((spec_Named.f k a0 a1_0 a1_1 a1_2 l1_3 l1_4 a2).bind fun t360 => (if t360 < 0 then (some (0, 0, 0, ([] : List (S65)), ([] : List (S27)), false)) else (if 0 ≤ t360 then (if t360 < (l1_4.length : Int) then (some ((rd_T27 l1_4 t360).f0, (rd_T27 l1_4 t360).f1, (rd_T27 l1_4 t360).f2, (rd_T27 l1_4 t360).f3, (rd_T27 l1_4 t360).f4, true)) else (none)) else (none)))) else (if a1_0 = 5 then ((spec_Bracket.f k a2).bind fun bt362 => (if bt362.2 = true then (spec_Step.j0 k (-1) bt362.1 (decide (bt362.1 < (l1_4.length : Int))) a1_0 a1_1 a1_2 l1_3 l1_4) else (spec_Step.j0 k (-1) bt362.1 false a1_0 a1_1 a1_2 l1_3 l1_4))) else (if (-1) < 0 then (some (0, 0, 0, ([] : List (S65)), ([] : List (S27)), false)) else (if 0 ≤ (-1) then (if (-1) < (l1_4.length : Int) then (some ((rd_T27 l1_4 (-1)).f0, (rd_T27 l1_4 (-1)).f1, (rd_T27 l1_4 (-1)).f2, (rd_T27 l1_4 (-1)).f3, (rd_T27 l1_4 (-1)).f4, true)) else (none)) else (none))))) = some (r1, r2, r3, r4, r5, r6) := h
 clear h
 by_cases c4 : a1_0 = 6
 ·rw [if_pos c4] at H
  have c4b0 : (a1_0 == 6) = true := beq_iff_eq.mpr c4
  have c4b1 : (a1_0 != 6) = false := bne_eq_false_iff_eq.mpr c4
  clear c4
  obtain ⟨t360, A50, H⟩ := Option.bind_eq_some_iff.mp H
  try dsimp only at H
  have A5 := aj A50
  clear A50
  by_cases c6 : t360 < 0
  ·rw [if_pos c6] at H
   have c6b0 : decide (t360 < 0) = true := decide_eq_true c6
   clear c6
   simp only [Option.some.injEq, Prod.mk.injEq] at H
   obtain ⟨rfl, rfl, rfl, rfl, rfl, rfl⟩ := H
   go_enter Tryd.func18, Tryd.ntmps18
   go_wp2_with (first | ((with_reducible refine gate_dst (N := 4) rfl ?_); (try (refine gate_guard (by rfl) ?_; dsimp only)); refine box_event ?hg (N := 4) ?hd (cs := #[.int .i64 a1_0, .int .i64 a1_1, .int .i64 a1_2, .slice A1_3 l1_3.length c1_3, .slice A1_4 l1_4.length c1_4]) (t := 27) ?hr ?_; (case hd => rfl); (case hg => rfl); (case hr => ((go_simp; done))); intro gb358 hg w7 hbox hb; replace HO1_4 := aj (Kd.V_below (Kd.V_elderB HO1_4.out gb358 (Nat.le_of_eq hg.symm)) hb); have BK358 := aj (hbox); have GW358 := aj ((by rw [hg]; exact (below_size HB.out) : w.heap.size ≤ gb358)); have GE358 := aj ((by rw [hg]; exact (below_size HB.out) : w.heap.size ≤ gb358)); replace HB := aj (below_step HB.out hb); clear hb hbox hg) | ((with_reducible refine gate_dst (N := 6) rfl ?_); (try (refine gate_guard (by rfl) ?_; dsimp only)); refine box_event ?hg (N := 6) ?hd (cs := #[.int .i64 0, .int .i64 0, .int .i64 0, .slice none 0 0, .slice none 0 0]) (t := 27) ?hr ?_; (case hd => rfl); (case hg => rfl); (case hr => ((go_simp; done))); intro gb359 hg w8 hbox hb; replace HO1_4 := aj (Kd.V_below (Kd.V_elderB HO1_4.out gb359 (Nat.le_of_eq hg.symm)) hb); have BK359 := aj (hbox); have GW359 := aj ((by rw [hg]; exact (below_size HB.out) : w.heap.size ≤ gb359)); have GE359 := aj ((by rw [hg]; exact (below_size HB.out) : w.heap.size ≤ gb359)); replace HB := aj (below_step HB.out hb); have NB358_359 := aj ((by rw [hg]; exact Nat.ne_of_lt (blk_lt BK358.out) : gb358 ≠ gb359)); have NB359_358 := aj ((by rw [hg]; exact Nat.ne_of_gt (blk_lt BK358.out) : gb359 ≠ gb358)); replace BK358 := aj (blk_below BK358.out hb); clear hb hbox hg; have hnb9 := NB358_359.out; have hnc9 := NB359_358.out; have hcz10_0 : w8.cell? ⟨gb358, 0, none⟩ = some (.int .i64 a1_0) := (blk_cell BK358.out 0).trans rfl; have hcz10_1 : w8.cell? ⟨gb358, 1, none⟩ = some (.int .i64 a1_1) := (blk_cell BK358.out 1).trans rfl; have hcz10_2 : w8.cell? ⟨gb358, 2, none⟩ = some (.int .i64 a1_2) := (blk_cell BK358.out 2).trans rfl; have hcz10_3 : w8.cell? ⟨gb358, 3, none⟩ = some (.slice A1_3 l1_3.length c1_3) := (blk_cell BK358.out 3).trans rfl; have hcz10_4 : w8.cell? ⟨gb358, 4, none⟩ = some (.slice A1_4 l1_4.length c1_4) := (blk_cell BK358.out 4).trans rfl; have hfz10_0 := blk_frozen BK358.out 0; have hfz10_1 := blk_frozen BK358.out 1; have hfz10_2 := blk_frozen BK358.out 2; have hfz10_3 := blk_frozen BK358.out 3; have hfz10_4 := blk_frozen BK358.out 4) | ((with_reducible refine gate_callee (f := 27) rfl ?_); refine goesL_ (some 18) rfl rfl Tryd.func27 (by kernel_rfl) rfl #[.string a0, .agg #[.int .i64 a1_0, .int .i64 a1_1, .int .i64 a1_2, .slice A1_3 l1_3.length c1_3, .slice A1_4 l1_4.length c1_4], .string a2] rfl (by (try simp only [List.map_toArray, List.map_cons, List.map_nil]); rfl) ?_; (with_reducible refine (spec_Named.calls k a0 a1_0 a1_1 a1_2 _ _ l1_3 _ _ l1_4 a2 t360 _ ?side1 ?side2 ?side3 ?side4 A5.out).mono ?_); (case side1 => repeat (exact (Kd.C_below HR1_3.out HB.out))); (case side2 => exact HC1_3.out); (case side3 => repeat (exact (Kd.V_reads' HO1_4.out).2.2)); (case side4 => exact (Kd.V_reads' HO1_4.out).2.1); rintro e w11 ⟨rfl, hb⟩; refine ⟨_, rfl, ?_⟩; replace HO1_4 := aj (Kd.V_below HO1_4.out hb); replace BK358 := aj (blk_below BK358.out hb); replace BK359 := aj (blk_below BK359.out hb); replace HB := aj (below_step HB.out hb); clear hb; have hcz12_0 : w11.cell? ⟨gb359, 0, none⟩ = some (.int .i64 0) := (blk_cell BK359.out 0).trans rfl; have hcz12_1 : w11.cell? ⟨gb359, 1, none⟩ = some (.int .i64 0) := (blk_cell BK359.out 1).trans rfl; have hcz12_2 : w11.cell? ⟨gb359, 2, none⟩ = some (.int .i64 0) := (blk_cell BK359.out 2).trans rfl; have hcz12_3 : w11.cell? ⟨gb359, 3, none⟩ = some (.slice none 0 0) := (blk_cell BK359.out 3).trans rfl; have hcz12_4 : w11.cell? ⟨gb359, 4, none⟩ = some (.slice none 0 0) := (blk_cell BK359.out 4).trans rfl; have hfz12_0 := blk_frozen BK359.out 0; have hfz12_1 := blk_frozen BK359.out 1; have hfz12_2 := blk_frozen BK359.out 2; have hfz12_3 := blk_frozen BK359.out 3; have hfz12_4 := blk_frozen BK359.out 4))
   refine bodyPost_ret (results_ct rfl _ _ gb359 27 #[.int .i64 0, .int .i64 0, .int .i64 0, .slice none 0 0, .slice none 0 0] (0, 0) _ rfl (by refine blk_put (cs := #[.int .i64 0, .int .i64 0, .int .i64 0, .slice none 0 0, .slice none 0 0]) ?_ 4 _ rfl; refine blk_put (cs := #[.int .i64 0, .int .i64 0, .int .i64 0, .slice none 0 0, .slice none 0 0]) ?_ 3 _ rfl; refine blk_put (cs := #[.int .i64 0, .int .i64 0, .int .i64 0, .slice none 0 0, .slice none 0 0]) ?_ 2 _ rfl; refine blk_put (cs := #[.int .i64 0, .int .i64 0, .int .i64 0, .slice none 0 0, .slice none 0 0]) ?_ 1 _ rfl; refine blk_put (cs := #[.int .i64 0, .int .i64 0, .int .i64 0, .slice none 0 0, .slice none 0 0]) ?_ 0 _ rfl; exact BK359.out) Tryd.underlying27 rfl (by kernel_rfl)) rfl ?_
   exact ⟨_, _, by rfl, Kd.V_mono (Kd.V_nil _ 0 _ 0 (fun _ => False)) (fun _ hk => hk.elim), Kd.V_mono (Kd.V_nil _ 0 _ 0 (fun _ => False)) (fun _ hk => hk.elim), by repeat (with_reducible first | exact HB.out | refine below_set ?_ GE359.out)⟩
  ·rw [if_neg c6] at H
   have c6b0 : decide (t360 < 0) = false := decide_eq_false c6
   clear c6
   by_cases c13 : 0 ≤ t360
   ·rw [if_pos c13] at H
    have c13b0 : decide (0 ≤ t360) = true := decide_eq_true c13
    clear c13
    by_cases c14 : t360 < (l1_4.length : Int)
    ·rw [if_pos c14] at H
     have c14b0 : decide (t360 < (l1_4.length : Int)) = true := decide_eq_true c14
     clear c14
     simp only [Option.some.injEq, Prod.mk.injEq] at H
     obtain ⟨rfl, rfl, rfl, rfl, rfl, rfl⟩ := H
     go_enter Tryd.func18, Tryd.ntmps18
     go_wp2_with (first | ((with_reducible refine gate_dst (N := 4) rfl ?_); (try (refine gate_guard (by rfl) ?_; dsimp only)); refine box_event ?hg (N := 4) ?hd (cs := #[.int .i64 a1_0, .int .i64 a1_1, .int .i64 a1_2, .slice A1_3 l1_3.length c1_3, .slice A1_4 l1_4.length c1_4]) (t := 27) ?hr ?_; (case hd => rfl); (case hg => rfl); (case hr => ((go_simp; done))); intro gb358 hg w15 hbox hb; replace HO1_4 := aj (Kd.V_below (Kd.V_elderB HO1_4.out gb358 (Nat.le_of_eq hg.symm)) hb); have BK358 := aj (hbox); have GW358 := aj ((by rw [hg]; exact (below_size HB.out) : w.heap.size ≤ gb358)); have GE358 := aj ((by rw [hg]; exact (below_size HB.out) : w.heap.size ≤ gb358)); replace HB := aj (below_step HB.out hb); clear hb hbox hg) | ((with_reducible refine gate_dst (N := 6) rfl ?_); (try (refine gate_guard (by rfl) ?_; dsimp only)); refine box_event ?hg (N := 6) ?hd (cs := #[.int .i64 0, .int .i64 0, .int .i64 0, .slice none 0 0, .slice none 0 0]) (t := 27) ?hr ?_; (case hd => rfl); (case hg => rfl); (case hr => ((go_simp; done))); intro gb359 hg w16 hbox hb; replace HO1_4 := aj (Kd.V_below (Kd.V_elderB HO1_4.out gb359 (Nat.le_of_eq hg.symm)) hb); have BK359 := aj (hbox); have GW359 := aj ((by rw [hg]; exact (below_size HB.out) : w.heap.size ≤ gb359)); have GE359 := aj ((by rw [hg]; exact (below_size HB.out) : w.heap.size ≤ gb359)); replace HB := aj (below_step HB.out hb); have NB358_359 := aj ((by rw [hg]; exact Nat.ne_of_lt (blk_lt BK358.out) : gb358 ≠ gb359)); have NB359_358 := aj ((by rw [hg]; exact Nat.ne_of_gt (blk_lt BK358.out) : gb359 ≠ gb358)); replace BK358 := aj (blk_below BK358.out hb); clear hb hbox hg; have hnb17 := NB358_359.out; have hnc17 := NB359_358.out; have hcz18_0 : w16.cell? ⟨gb358, 0, none⟩ = some (.int .i64 a1_0) := (blk_cell BK358.out 0).trans rfl; have hcz18_1 : w16.cell? ⟨gb358, 1, none⟩ = some (.int .i64 a1_1) := (blk_cell BK358.out 1).trans rfl; have hcz18_2 : w16.cell? ⟨gb358, 2, none⟩ = some (.int .i64 a1_2) := (blk_cell BK358.out 2).trans rfl; have hcz18_3 : w16.cell? ⟨gb358, 3, none⟩ = some (.slice A1_3 l1_3.length c1_3) := (blk_cell BK358.out 3).trans rfl; have hcz18_4 : w16.cell? ⟨gb358, 4, none⟩ = some (.slice A1_4 l1_4.length c1_4) := (blk_cell BK358.out 4).trans rfl; have hfz18_0 := blk_frozen BK358.out 0; have hfz18_1 := blk_frozen BK358.out 1; have hfz18_2 := blk_frozen BK358.out 2; have hfz18_3 := blk_frozen BK358.out 3; have hfz18_4 := blk_frozen BK358.out 4) | ((with_reducible refine gate_callee (f := 27) rfl ?_); refine goesL_ (some 18) rfl rfl Tryd.func27 (by kernel_rfl) rfl #[.string a0, .agg #[.int .i64 a1_0, .int .i64 a1_1, .int .i64 a1_2, .slice A1_3 l1_3.length c1_3, .slice A1_4 l1_4.length c1_4], .string a2] rfl (by (try simp only [List.map_toArray, List.map_cons, List.map_nil]); rfl) ?_; (with_reducible refine (spec_Named.calls k a0 a1_0 a1_1 a1_2 _ _ l1_3 _ _ l1_4 a2 t360 _ ?side1 ?side2 ?side3 ?side4 A5.out).mono ?_); (case side1 => repeat (exact (Kd.C_below HR1_3.out HB.out))); (case side2 => exact HC1_3.out); (case side3 => repeat (exact (Kd.V_reads' HO1_4.out).2.2)); (case side4 => exact (Kd.V_reads' HO1_4.out).2.1); rintro e w19 ⟨rfl, hb⟩; refine ⟨_, rfl, ?_⟩; replace HO1_4 := aj (Kd.V_below HO1_4.out hb); replace BK358 := aj (blk_below BK358.out hb); replace BK359 := aj (blk_below BK359.out hb); replace HB := aj (below_step HB.out hb); clear hb; have hcz20_0 : w19.cell? ⟨gb358, 0, none⟩ = some (.int .i64 a1_0) := (blk_cell BK358.out 0).trans rfl; have hcz20_1 : w19.cell? ⟨gb358, 1, none⟩ = some (.int .i64 a1_1) := (blk_cell BK358.out 1).trans rfl; have hcz20_2 : w19.cell? ⟨gb358, 2, none⟩ = some (.int .i64 a1_2) := (blk_cell BK358.out 2).trans rfl; have hcz20_3 : w19.cell? ⟨gb358, 3, none⟩ = some (.slice A1_3 l1_3.length c1_3) := (blk_cell BK358.out 3).trans rfl; have hcz20_4 : w19.cell? ⟨gb358, 4, none⟩ = some (.slice A1_4 l1_4.length c1_4) := (blk_cell BK358.out 4).trans rfl; have hfz20_0 := blk_frozen BK358.out 0; have hfz20_1 := blk_frozen BK358.out 1; have hfz20_2 := blk_frozen BK358.out 2; have hfz20_3 := blk_frozen BK358.out 3; have hfz20_4 := blk_frozen BK358.out 4; have p361 : 0 ≤ (t360 : Int) := of_decide_eq_true (by (with_reducible assumption)); have q361 : t360 < (l1_4.length : Int) := of_decide_eq_true (by (with_reducible assumption)); obtain ⟨ad361, A361_3, c361_3, A361_4, c361_4, e361, hx361_0, hx361_1, hx361_2, hx361_3, hx361_4, hl361_3, hi361_3, hl361_4, hi361_4⟩ := at_T27 (Kd.V_reads' HO1_4.out).2.2 t360 p361 q361; cases e361; obtain ⟨ce361, hce361, hMe361, hcc361⟩ := Kd.V_get HO1_4.out z27 t360 p361 (by exact q361); obtain ⟨ua361_3, uc361_3, ua361_4, uc361_4, rfl, ul361_3, ge361_3, ul361_4, ge361_4⟩ := k27_openF hMe361; have hv361_3 := hcc361 3 _ rfl; rw [add_field _ _ 3 (by omega)] at hv361_3; replace hv361_3 := Option.some.inj (hv361_3.symm.trans hx361_3); injection hv361_3 with hva_ hvn_ hvc_; rw [hva_] at ge361_3; rw [hvc_] at ul361_3; have HL361_3 := aj (show Kd.V k65 65 _ w.heap.size _ _ ((rd_T27 l1_4 t360).f3) from Kd.V_mk ul361_3 ge361_3); clear hva_ hvn_ hvc_ ge361_3 ul361_3; have hv361_4 := hcc361 4 _ rfl; rw [add_field _ _ 4 (by omega)] at hv361_4; replace hv361_4 := Option.some.inj (hv361_4.symm.trans hx361_4); injection hv361_4 with hva_ hvn_ hvc_; rw [hva_] at ge361_4; rw [hvc_] at ul361_4; have HL361_4 := aj (show Kd.V k27 27 _ w.heap.size _ _ ((rd_T27 l1_4 t360).f4) from Kd.V_mk ul361_4 ge361_4); clear hva_ hvn_ hvc_ ge361_4 ul361_4 hcc361 hce361; have HR361_3 := aj hi361_3; have HC361_3 := aj hl361_3; clear hi361_3 hl361_3; have HR361_4 := aj hi361_4; have HC361_4 := aj hl361_4; clear hi361_4 hl361_4; replace p361 := eq_true p361; replace q361 := eq_true q361; have hcz21_0 : w19.cell? ⟨gb359, 0, none⟩ = some (.int .i64 0) := (blk_cell BK359.out 0).trans rfl; have hcz21_1 : w19.cell? ⟨gb359, 1, none⟩ = some (.int .i64 0) := (blk_cell BK359.out 1).trans rfl; have hcz21_2 : w19.cell? ⟨gb359, 2, none⟩ = some (.int .i64 0) := (blk_cell BK359.out 2).trans rfl; have hcz21_3 : w19.cell? ⟨gb359, 3, none⟩ = some (.slice none 0 0) := (blk_cell BK359.out 3).trans rfl; have hcz21_4 : w19.cell? ⟨gb359, 4, none⟩ = some (.slice none 0 0) := (blk_cell BK359.out 4).trans rfl; have hfz21_0 := blk_frozen BK359.out 0; have hfz21_1 := blk_frozen BK359.out 1; have hfz21_2 := blk_frozen BK359.out 2; have hfz21_3 := blk_frozen BK359.out 3; have hfz21_4 := blk_frozen BK359.out 4))
     refine bodyPost_ret (results_ct rfl _ _ gb359 27 #[.int .i64 ((rd_T27 l1_4 t360).f0), .int .i64 ((rd_T27 l1_4 t360).f1), .int .i64 ((rd_T27 l1_4 t360).f2), .slice A361_3 ((rd_T27 l1_4 t360).f3).length c361_3, .slice A361_4 ((rd_T27 l1_4 t360).f4).length c361_4] (0, 0) _ rfl (by refine blk_put (cs := #[.int .i64 ((rd_T27 l1_4 t360).f0), .int .i64 ((rd_T27 l1_4 t360).f1), .int .i64 ((rd_T27 l1_4 t360).f2), .slice A361_3 ((rd_T27 l1_4 t360).f3).length c361_3, .slice none 0 0]) ?_ 4 _ rfl; refine blk_put (cs := #[.int .i64 ((rd_T27 l1_4 t360).f0), .int .i64 ((rd_T27 l1_4 t360).f1), .int .i64 ((rd_T27 l1_4 t360).f2), .slice none 0 0, .slice none 0 0]) ?_ 3 _ rfl; refine blk_put (cs := #[.int .i64 ((rd_T27 l1_4 t360).f0), .int .i64 ((rd_T27 l1_4 t360).f1), .int .i64 0, .slice none 0 0, .slice none 0 0]) ?_ 2 _ rfl; refine blk_put (cs := #[.int .i64 ((rd_T27 l1_4 t360).f0), .int .i64 0, .int .i64 0, .slice none 0 0, .slice none 0 0]) ?_ 1 _ rfl; refine blk_put (cs := #[.int .i64 0, .int .i64 0, .int .i64 0, .slice none 0 0, .slice none 0 0]) ?_ 0 _ rfl; exact BK359.out) Tryd.underlying27 rfl (by kernel_rfl)) rfl ?_
     exact ⟨_, _, by rfl, by exact Kd.V_mono (Kd.V_far (p := ⟨gb359, 4, none⟩) (Kd.V_far (p := ⟨gb359, 3, none⟩) (Kd.V_far (p := ⟨gb359, 2, none⟩) (Kd.V_far (p := ⟨gb359, 1, none⟩) (Kd.V_far (p := ⟨gb359, 0, none⟩) (Kd.V_mono HL361_3.out (fun k_ hk => (⟨hk, hk.2⟩ : _ ∧ k_ ≠ gb359))) (fun _ hk => hk.2) (.int .i64 ((rd_T27 l1_4 t360).f0))) (fun _ hk => hk.2) (.int .i64 ((rd_T27 l1_4 t360).f1))) (fun _ hk => hk.2) (.int .i64 ((rd_T27 l1_4 t360).f2))) (fun _ hk => hk.2) (.slice A361_3 ((rd_T27 l1_4 t360).f3).length c361_3)) (fun _ hk => hk.2) (.slice A361_4 ((rd_T27 l1_4 t360).f4).length c361_4)) (fun _ hk => hk.1.1.1), by exact Kd.V_mono (Kd.V_far (p := ⟨gb359, 4, none⟩) (Kd.V_far (p := ⟨gb359, 3, none⟩) (Kd.V_far (p := ⟨gb359, 2, none⟩) (Kd.V_far (p := ⟨gb359, 1, none⟩) (Kd.V_far (p := ⟨gb359, 0, none⟩) (Kd.V_mono HL361_4.out (fun k_ hk => (⟨hk, hk.2⟩ : _ ∧ k_ ≠ gb359))) (fun _ hk => hk.2) (.int .i64 ((rd_T27 l1_4 t360).f0))) (fun _ hk => hk.2) (.int .i64 ((rd_T27 l1_4 t360).f1))) (fun _ hk => hk.2) (.int .i64 ((rd_T27 l1_4 t360).f2))) (fun _ hk => hk.2) (.slice A361_3 ((rd_T27 l1_4 t360).f3).length c361_3)) (fun _ hk => hk.2) (.slice A361_4 ((rd_T27 l1_4 t360).f4).length c361_4)) (fun _ hk => hk.1.1.1), by repeat (with_reducible first | exact HB.out | refine below_set ?_ GE359.out)⟩
    ·rw [if_neg c14] at H
     exact absurd H (by simp)
   ·rw [if_neg c13] at H
    exact absurd H (by simp)
 ·rw [if_neg c4] at H
  have c4b0 : (a1_0 == 6) = false := beq_eq_false_iff_ne.mpr c4
  have c4b1 : (a1_0 != 6) = true := bne_iff_ne.mpr c4
  by_cases c22 : a1_0 = 5
  ·rw [if_pos c22] at H
   have c22b0 : (a1_0 == 5) = true := beq_iff_eq.mpr c22
   have c22b1 : (a1_0 != 5) = false := bne_eq_false_iff_eq.mpr c22
   clear c22
   obtain ⟨⟨t362, t363⟩, A230, H⟩ := Option.bind_eq_some_iff.mp H
   try dsimp only at H
   have A23 := aj A230
   clear A230
   have HC24 := aj H
   clear H
   go_enter Tryd.func18, Tryd.ntmps18
   go_upto_region 7 with (first | ((with_reducible refine gate_dst (N := 4) rfl ?_); (try (refine gate_guard (by rfl) ?_; dsimp only)); refine box_event ?hg (N := 4) ?hd (cs := #[.int .i64 a1_0, .int .i64 a1_1, .int .i64 a1_2, .slice A1_3 l1_3.length c1_3, .slice A1_4 l1_4.length c1_4]) (t := 27) ?hr ?_; (case hd => rfl); (case hg => rfl); (case hr => ((go_simp; done))); intro gb358 hg w25 hbox hb; replace HO1_4 := aj (Kd.V_below (Kd.V_elderB HO1_4.out gb358 (Nat.le_of_eq hg.symm)) hb); have BK358 := aj (hbox); have GW358 := aj ((by rw [hg]; exact (below_size HB.out) : w.heap.size ≤ gb358)); have GE358 := aj ((by rw [hg]; exact (below_size HB.out) : w.heap.size ≤ gb358)); replace HB := aj (below_step HB.out hb); clear hb hbox hg) | ((with_reducible refine gate_dst (N := 6) rfl ?_); (try (refine gate_guard (by rfl) ?_; dsimp only)); refine box_event ?hg (N := 6) ?hd (cs := #[.int .i64 0, .int .i64 0, .int .i64 0, .slice none 0 0, .slice none 0 0]) (t := 27) ?hr ?_; (case hd => rfl); (case hg => rfl); (case hr => ((go_simp; done))); intro gb359 hg w26 hbox hb; replace HO1_4 := aj (Kd.V_below (Kd.V_elderB HO1_4.out gb359 (Nat.le_of_eq hg.symm)) hb); have BK359 := aj (hbox); have GW359 := aj ((by rw [hg]; exact (below_size HB.out) : w.heap.size ≤ gb359)); have GE359 := aj ((by rw [hg]; exact (below_size HB.out) : w.heap.size ≤ gb359)); replace HB := aj (below_step HB.out hb); have NB358_359 := aj ((by rw [hg]; exact Nat.ne_of_lt (blk_lt BK358.out) : gb358 ≠ gb359)); have NB359_358 := aj ((by rw [hg]; exact Nat.ne_of_gt (blk_lt BK358.out) : gb359 ≠ gb358)); replace BK358 := aj (blk_below BK358.out hb); clear hb hbox hg; have hnb27 := NB358_359.out; have hnc27 := NB359_358.out; have hcz28_0 : w26.cell? ⟨gb358, 0, none⟩ = some (.int .i64 a1_0) := (blk_cell BK358.out 0).trans rfl; have hcz28_1 : w26.cell? ⟨gb358, 1, none⟩ = some (.int .i64 a1_1) := (blk_cell BK358.out 1).trans rfl; have hcz28_2 : w26.cell? ⟨gb358, 2, none⟩ = some (.int .i64 a1_2) := (blk_cell BK358.out 2).trans rfl; have hcz28_3 : w26.cell? ⟨gb358, 3, none⟩ = some (.slice A1_3 l1_3.length c1_3) := (blk_cell BK358.out 3).trans rfl; have hcz28_4 : w26.cell? ⟨gb358, 4, none⟩ = some (.slice A1_4 l1_4.length c1_4) := (blk_cell BK358.out 4).trans rfl; have hfz28_0 := blk_frozen BK358.out 0; have hfz28_1 := blk_frozen BK358.out 1; have hfz28_2 := blk_frozen BK358.out 2; have hfz28_3 := blk_frozen BK358.out 3; have hfz28_4 := blk_frozen BK358.out 4) | ((with_reducible refine gate_callee (f := 28) rfl ?_); refine goesL_ (some 23) rfl rfl Tryd.func28 (by kernel_rfl) rfl #[.string a2] rfl (by (try simp only [List.map_toArray, List.map_cons, List.map_nil]); rfl) ?_; (with_reducible refine (spec_Bracket.calls k a2 t362 t363 _ A23.out).mono ?_); rintro e w' ⟨rfl, ⟨nd, rfl⟩⟩; refine ⟨_, rfl, ?_⟩))
   (try simp only [Act.put, List.setIfInBounds_toArray, List.set_cons_zero, List.set_cons_succ])
   go_cut [33] (fun v33 wc => ∃ (kq : Nat) (x33_23 : Bool), v33 = .bool x33_23 ∧ Aside0 (spec_Step.j0 kq (-1) t362 x33_23 a1_0 a1_1 a1_2 l1_3 l1_4 = some (r1, r2, r3, r4, r5, r6)) ∧ Aside0 (kq ≤ k) ∧ Aside0 (Kd.V k27 27 wc w.heap.size (fun k_ => (P1_4_ k_ ∨ w.heap.size ≤ k_) ∧ k_ ≠ gb358 ∧ k_ ≠ gb359) (.slice A1_4 l1_4.length c1_4) l1_4) ∧ Aside0 (wc.heap[gb358]? = some (.cells #[.int .i64 a1_0, .int .i64 a1_1, .int .i64 a1_2, (.slice A1_3 l1_3.length c1_3), (.slice A1_4 l1_4.length c1_4)] 27 (0, 0))) ∧ Aside0 (wc.heap[gb359]? = some (.cells #[.int .i64 0, .int .i64 0, .int .i64 0, (.slice none 0 0), (.slice none 0 0)] 27 (0, 0))) ∧ Aside0 (Below w.heap.size w wc))
   case first =>
    have H := HC24.out
    clear HC24
    by_cases c29 : t363 = true
    ·subst c29
     rw [if_pos rfl] at H
     have H' := aj H
     clear H
     have hnb30 := NB358_359.out
     have hnc30 := NB359_358.out
     have hcz31_0 : w26.cell? ⟨gb358, 0, none⟩ = some (.int .i64 a1_0) := (blk_cell BK358.out 0).trans rfl
     have hcz31_1 : w26.cell? ⟨gb358, 1, none⟩ = some (.int .i64 a1_1) := (blk_cell BK358.out 1).trans rfl
     have hcz31_2 : w26.cell? ⟨gb358, 2, none⟩ = some (.int .i64 a1_2) := (blk_cell BK358.out 2).trans rfl
     have hcz31_3 : w26.cell? ⟨gb358, 3, none⟩ = some (.slice A1_3 l1_3.length c1_3) := (blk_cell BK358.out 3).trans rfl
     have hcz31_4 : w26.cell? ⟨gb358, 4, none⟩ = some (.slice A1_4 l1_4.length c1_4) := (blk_cell BK358.out 4).trans rfl
     have hfz31_0 := blk_frozen BK358.out 0
     have hfz31_1 := blk_frozen BK358.out 1
     have hfz31_2 := blk_frozen BK358.out 2
     have hfz31_3 := blk_frozen BK358.out 3
     have hfz31_4 := blk_frozen BK358.out 4
     go_wp2
     go_meet
     case rel => exact ⟨_, (decide (t362 < (l1_4.length : Int))), (by rfl), H', ⟨by omega⟩, ⟨by (with_reducible repeat (apply Kd.V_drewN)); exact Kd.V_mono HO1_4.out (fun _ hk => ⟨hk.1.1, ⟨hk.1.2, hk.2⟩⟩)⟩, ⟨by (with_reducible repeat (refine blk_drewN ?_ _)); exact BK358.out⟩, ⟨by (with_reducible repeat (refine blk_drewN ?_ _)); exact BK359.out⟩, ⟨by repeat (with_reducible first | exact HB.out | apply pw_below_drewN)⟩⟩
    ·replace c29 := Bool.eq_false_iff.mpr c29
     subst c29
     rw [if_neg (show ¬ (false = true) by decide)] at H
     have H' := aj H
     clear H
     go_wp2
     go_meet
     case rel => exact ⟨_, (false), (by rfl), H', ⟨by omega⟩, ⟨by (with_reducible repeat (apply Kd.V_drewN)); exact Kd.V_mono HO1_4.out (fun _ hk => ⟨hk.1.1, ⟨hk.1.2, hk.2⟩⟩)⟩, ⟨by (with_reducible repeat (refine blk_drewN ?_ _)); exact BK358.out⟩, ⟨by (with_reducible repeat (refine blk_drewN ?_ _)); exact BK359.out⟩, ⟨by repeat (with_reducible first | exact HB.out | apply pw_below_drewN)⟩⟩
   case rest =>
    clear HC24 c4 c4b0 c4b1 c22b0 c22b1 hcz28_0 hcz28_1 hcz28_2 hcz28_3 hcz28_4 hfz28_0 hfz28_1 hfz28_2 hfz28_3 hfz28_4
    obtain ⟨kq, x33_23, rfl, HA, HJ23, HO_359004, BK358, BK359, HB⟩ := hcut
    cases kq with
    | zero => exact absurd HA.out (by simp [spec_Step.j0])
    | succ kj23 =>
     have H := HA.out
     clear HA
     simp only [spec_Step.j0] at H
     by_cases c32 : x33_23 = true
     ·subst c32
      rw [if_pos rfl] at H
      by_cases c33 : t362 < 0
      ·rw [if_pos c33] at H
       have c33b0 : decide (t362 < 0) = true := decide_eq_true c33
       clear c33
       simp only [Option.some.injEq, Prod.mk.injEq] at H
       obtain ⟨rfl, rfl, rfl, rfl, rfl, rfl⟩ := H
       have hnb34 := NB359_358.out
       have hnc34 := NB358_359.out
       have hcz35_0 : wc.cell? ⟨gb359, 0, none⟩ = some (.int .i64 0) := (blk_cell BK359.out 0).trans rfl
       have hcz35_1 : wc.cell? ⟨gb359, 1, none⟩ = some (.int .i64 0) := (blk_cell BK359.out 1).trans rfl
       have hcz35_2 : wc.cell? ⟨gb359, 2, none⟩ = some (.int .i64 0) := (blk_cell BK359.out 2).trans rfl
       have hcz35_3 : wc.cell? ⟨gb359, 3, none⟩ = some (.slice none 0 0) := (blk_cell BK359.out 3).trans rfl
       have hcz35_4 : wc.cell? ⟨gb359, 4, none⟩ = some (.slice none 0 0) := (blk_cell BK359.out 4).trans rfl
       have hfz35_0 := blk_frozen BK359.out 0
       have hfz35_1 := blk_frozen BK359.out 1
       have hfz35_2 := blk_frozen BK359.out 2
       have hfz35_3 := blk_frozen BK359.out 3
       have hfz35_4 := blk_frozen BK359.out 4
       go_wp2
       refine bodyPost_ret (results_ct rfl _ _ gb359 27 #[.int .i64 0, .int .i64 0, .int .i64 0, .slice none 0 0, .slice none 0 0] (0, 0) _ rfl (by refine blk_put (cs := #[.int .i64 0, .int .i64 0, .int .i64 0, .slice none 0 0, .slice none 0 0]) ?_ 4 _ rfl; refine blk_put (cs := #[.int .i64 0, .int .i64 0, .int .i64 0, .slice none 0 0, .slice none 0 0]) ?_ 3 _ rfl; refine blk_put (cs := #[.int .i64 0, .int .i64 0, .int .i64 0, .slice none 0 0, .slice none 0 0]) ?_ 2 _ rfl; refine blk_put (cs := #[.int .i64 0, .int .i64 0, .int .i64 0, .slice none 0 0, .slice none 0 0]) ?_ 1 _ rfl; refine blk_put (cs := #[.int .i64 0, .int .i64 0, .int .i64 0, .slice none 0 0, .slice none 0 0]) ?_ 0 _ rfl; exact BK359.out) Tryd.underlying27 rfl (by kernel_rfl)) rfl ?_
       exact ⟨_, _, by rfl, Kd.V_mono (Kd.V_nil _ 0 _ 0 (fun _ => False)) (fun _ hk => hk.elim), Kd.V_mono (Kd.V_nil _ 0 _ 0 (fun _ => False)) (fun _ hk => hk.elim), by repeat (with_reducible first | exact HB.out | refine below_set ?_ GE359.out)⟩
      ·rw [if_neg c33] at H
       have c33b0 : decide (t362 < 0) = false := decide_eq_false c33
       clear c33
       by_cases c36 : 0 ≤ t362
       ·rw [if_pos c36] at H
        have c36b0 : decide (0 ≤ t362) = true := decide_eq_true c36
        clear c36
        by_cases c37 : t362 < (l1_4.length : Int)
        ·rw [if_pos c37] at H
         have c37b0 : decide (t362 < (l1_4.length : Int)) = true := decide_eq_true c37
         clear c37
         simp only [Option.some.injEq, Prod.mk.injEq] at H
         obtain ⟨rfl, rfl, rfl, rfl, rfl, rfl⟩ := H
         have hnb38 := NB358_359.out
         have hnc38 := NB359_358.out
         have hcz39_0 : wc.cell? ⟨gb358, 0, none⟩ = some (.int .i64 a1_0) := (blk_cell BK358.out 0).trans rfl
         have hcz39_1 : wc.cell? ⟨gb358, 1, none⟩ = some (.int .i64 a1_1) := (blk_cell BK358.out 1).trans rfl
         have hcz39_2 : wc.cell? ⟨gb358, 2, none⟩ = some (.int .i64 a1_2) := (blk_cell BK358.out 2).trans rfl
         have hcz39_3 : wc.cell? ⟨gb358, 3, none⟩ = some (.slice A1_3 l1_3.length c1_3) := (blk_cell BK358.out 3).trans rfl
         have hcz39_4 : wc.cell? ⟨gb358, 4, none⟩ = some (.slice A1_4 l1_4.length c1_4) := (blk_cell BK358.out 4).trans rfl
         have hfz39_0 := blk_frozen BK358.out 0
         have hfz39_1 := blk_frozen BK358.out 1
         have hfz39_2 := blk_frozen BK358.out 2
         have hfz39_3 := blk_frozen BK358.out 3
         have hfz39_4 := blk_frozen BK358.out 4
         have p364 : 0 ≤ (t362 : Int) := of_decide_eq_true (by (with_reducible assumption))
         have q364 : t362 < (l1_4.length : Int) := of_decide_eq_true (by (with_reducible assumption))
         obtain ⟨ad364, A364_3, c364_3, A364_4, c364_4, e364, hx364_0, hx364_1, hx364_2, hx364_3, hx364_4, hl364_3, hi364_3, hl364_4, hi364_4⟩ := at_T27 (Kd.V_reads' HO_359004.out).2.2 t362 p364 q364
         cases e364
         obtain ⟨ce364, hce364, hMe364, hcc364⟩ := Kd.V_get HO_359004.out z27 t362 p364 (by exact q364)
         obtain ⟨ua364_3, uc364_3, ua364_4, uc364_4, rfl, ul364_3, ge364_3, ul364_4, ge364_4⟩ := k27_openF hMe364
         have hv364_3 := hcc364 3 _ rfl
         rw [add_field _ _ 3 (by omega)] at hv364_3
         replace hv364_3 := Option.some.inj (hv364_3.symm.trans hx364_3)
         injection hv364_3 with hva_ hvn_ hvc_
         rw [hva_] at ge364_3
         rw [hvc_] at ul364_3
         have HL364_3 := aj (show Kd.V k65 65 _ w.heap.size _ _ ((rd_T27 l1_4 t362).f3) from Kd.V_mk ul364_3 ge364_3)
         clear hva_ hvn_ hvc_ ge364_3 ul364_3
         have hv364_4 := hcc364 4 _ rfl
         rw [add_field _ _ 4 (by omega)] at hv364_4
         replace hv364_4 := Option.some.inj (hv364_4.symm.trans hx364_4)
         injection hv364_4 with hva_ hvn_ hvc_
         rw [hva_] at ge364_4
         rw [hvc_] at ul364_4
         have HL364_4 := aj (show Kd.V k27 27 _ w.heap.size _ _ ((rd_T27 l1_4 t362).f4) from Kd.V_mk ul364_4 ge364_4)
         clear hva_ hvn_ hvc_ ge364_4 ul364_4 hcc364 hce364
         have HR364_3 := aj hi364_3
         have HC364_3 := aj hl364_3
         clear hi364_3 hl364_3
         have HR364_4 := aj hi364_4
         have HC364_4 := aj hl364_4
         clear hi364_4 hl364_4
         replace p364 := eq_true p364
         replace q364 := eq_true q364
         have hcz40_0 : wc.cell? ⟨gb359, 0, none⟩ = some (.int .i64 0) := (blk_cell BK359.out 0).trans rfl
         have hcz40_1 : wc.cell? ⟨gb359, 1, none⟩ = some (.int .i64 0) := (blk_cell BK359.out 1).trans rfl
         have hcz40_2 : wc.cell? ⟨gb359, 2, none⟩ = some (.int .i64 0) := (blk_cell BK359.out 2).trans rfl
         have hcz40_3 : wc.cell? ⟨gb359, 3, none⟩ = some (.slice none 0 0) := (blk_cell BK359.out 3).trans rfl
         have hcz40_4 : wc.cell? ⟨gb359, 4, none⟩ = some (.slice none 0 0) := (blk_cell BK359.out 4).trans rfl
         have hfz40_0 := blk_frozen BK359.out 0
         have hfz40_1 := blk_frozen BK359.out 1
         have hfz40_2 := blk_frozen BK359.out 2
         have hfz40_3 := blk_frozen BK359.out 3
         have hfz40_4 := blk_frozen BK359.out 4
         go_wp2
         refine bodyPost_ret (results_ct rfl _ _ gb359 27 #[.int .i64 ((rd_T27 l1_4 t362).f0), .int .i64 ((rd_T27 l1_4 t362).f1), .int .i64 ((rd_T27 l1_4 t362).f2), .slice A364_3 ((rd_T27 l1_4 t362).f3).length c364_3, .slice A364_4 ((rd_T27 l1_4 t362).f4).length c364_4] (0, 0) _ rfl (by refine blk_put (cs := #[.int .i64 ((rd_T27 l1_4 t362).f0), .int .i64 ((rd_T27 l1_4 t362).f1), .int .i64 ((rd_T27 l1_4 t362).f2), .slice A364_3 ((rd_T27 l1_4 t362).f3).length c364_3, .slice none 0 0]) ?_ 4 _ rfl; refine blk_put (cs := #[.int .i64 ((rd_T27 l1_4 t362).f0), .int .i64 ((rd_T27 l1_4 t362).f1), .int .i64 ((rd_T27 l1_4 t362).f2), .slice none 0 0, .slice none 0 0]) ?_ 3 _ rfl; refine blk_put (cs := #[.int .i64 ((rd_T27 l1_4 t362).f0), .int .i64 ((rd_T27 l1_4 t362).f1), .int .i64 0, .slice none 0 0, .slice none 0 0]) ?_ 2 _ rfl; refine blk_put (cs := #[.int .i64 ((rd_T27 l1_4 t362).f0), .int .i64 0, .int .i64 0, .slice none 0 0, .slice none 0 0]) ?_ 1 _ rfl; refine blk_put (cs := #[.int .i64 0, .int .i64 0, .int .i64 0, .slice none 0 0, .slice none 0 0]) ?_ 0 _ rfl; exact BK359.out) Tryd.underlying27 rfl (by kernel_rfl)) rfl ?_
         exact ⟨_, _, by rfl, by exact Kd.V_mono (Kd.V_far (p := ⟨gb359, 4, none⟩) (Kd.V_far (p := ⟨gb359, 3, none⟩) (Kd.V_far (p := ⟨gb359, 2, none⟩) (Kd.V_far (p := ⟨gb359, 1, none⟩) (Kd.V_far (p := ⟨gb359, 0, none⟩) (Kd.V_mono HL364_3.out (fun k_ hk => (⟨hk, hk.2.2⟩ : _ ∧ k_ ≠ gb359))) (fun _ hk => hk.2) (.int .i64 ((rd_T27 l1_4 t362).f0))) (fun _ hk => hk.2) (.int .i64 ((rd_T27 l1_4 t362).f1))) (fun _ hk => hk.2) (.int .i64 ((rd_T27 l1_4 t362).f2))) (fun _ hk => hk.2) (.slice A364_3 ((rd_T27 l1_4 t362).f3).length c364_3)) (fun _ hk => hk.2) (.slice A364_4 ((rd_T27 l1_4 t362).f4).length c364_4)) (fun _ hk => hk.1.1), by exact Kd.V_mono (Kd.V_far (p := ⟨gb359, 4, none⟩) (Kd.V_far (p := ⟨gb359, 3, none⟩) (Kd.V_far (p := ⟨gb359, 2, none⟩) (Kd.V_far (p := ⟨gb359, 1, none⟩) (Kd.V_far (p := ⟨gb359, 0, none⟩) (Kd.V_mono HL364_4.out (fun k_ hk => (⟨hk, hk.2.2⟩ : _ ∧ k_ ≠ gb359))) (fun _ hk => hk.2) (.int .i64 ((rd_T27 l1_4 t362).f0))) (fun _ hk => hk.2) (.int .i64 ((rd_T27 l1_4 t362).f1))) (fun _ hk => hk.2) (.int .i64 ((rd_T27 l1_4 t362).f2))) (fun _ hk => hk.2) (.slice A364_3 ((rd_T27 l1_4 t362).f3).length c364_3)) (fun _ hk => hk.2) (.slice A364_4 ((rd_T27 l1_4 t362).f4).length c364_4)) (fun _ hk => hk.1.1), by repeat (with_reducible first | exact HB.out | refine below_set ?_ GE359.out)⟩
        ·rw [if_neg c37] at H
         exact absurd H (by simp)
       ·rw [if_neg c36] at H
        exact absurd H (by simp)
     ·replace c32 := Bool.eq_false_iff.mpr c32
      subst c32
      rw [if_neg (show ¬ (false = true) by decide)] at H
      by_cases c41 : (-1) < 0
      ·rw [if_pos c41] at H
       have c41b0 : decide ((-1) < 0) = true := decide_eq_true c41
       clear c41
       simp only [Option.some.injEq, Prod.mk.injEq] at H
       obtain ⟨rfl, rfl, rfl, rfl, rfl, rfl⟩ := H
       have hnb42 := NB359_358.out
       have hnc42 := NB358_359.out
       have hcz43_0 : wc.cell? ⟨gb359, 0, none⟩ = some (.int .i64 0) := (blk_cell BK359.out 0).trans rfl
       have hcz43_1 : wc.cell? ⟨gb359, 1, none⟩ = some (.int .i64 0) := (blk_cell BK359.out 1).trans rfl
       have hcz43_2 : wc.cell? ⟨gb359, 2, none⟩ = some (.int .i64 0) := (blk_cell BK359.out 2).trans rfl
       have hcz43_3 : wc.cell? ⟨gb359, 3, none⟩ = some (.slice none 0 0) := (blk_cell BK359.out 3).trans rfl
       have hcz43_4 : wc.cell? ⟨gb359, 4, none⟩ = some (.slice none 0 0) := (blk_cell BK359.out 4).trans rfl
       have hfz43_0 := blk_frozen BK359.out 0
       have hfz43_1 := blk_frozen BK359.out 1
       have hfz43_2 := blk_frozen BK359.out 2
       have hfz43_3 := blk_frozen BK359.out 3
       have hfz43_4 := blk_frozen BK359.out 4
       go_wp2
       refine bodyPost_ret (results_ct rfl _ _ gb359 27 #[.int .i64 0, .int .i64 0, .int .i64 0, .slice none 0 0, .slice none 0 0] (0, 0) _ rfl (by refine blk_put (cs := #[.int .i64 0, .int .i64 0, .int .i64 0, .slice none 0 0, .slice none 0 0]) ?_ 4 _ rfl; refine blk_put (cs := #[.int .i64 0, .int .i64 0, .int .i64 0, .slice none 0 0, .slice none 0 0]) ?_ 3 _ rfl; refine blk_put (cs := #[.int .i64 0, .int .i64 0, .int .i64 0, .slice none 0 0, .slice none 0 0]) ?_ 2 _ rfl; refine blk_put (cs := #[.int .i64 0, .int .i64 0, .int .i64 0, .slice none 0 0, .slice none 0 0]) ?_ 1 _ rfl; refine blk_put (cs := #[.int .i64 0, .int .i64 0, .int .i64 0, .slice none 0 0, .slice none 0 0]) ?_ 0 _ rfl; exact BK359.out) Tryd.underlying27 rfl (by kernel_rfl)) rfl ?_
       exact ⟨_, _, by rfl, Kd.V_mono (Kd.V_nil _ 0 _ 0 (fun _ => False)) (fun _ hk => hk.elim), Kd.V_mono (Kd.V_nil _ 0 _ 0 (fun _ => False)) (fun _ hk => hk.elim), by repeat (with_reducible first | exact HB.out | refine below_set ?_ GE359.out)⟩
      ·exact absurd (by decide) c41
  ·rw [if_neg c22] at H
   have c22b0 : (a1_0 == 5) = false := beq_eq_false_iff_ne.mpr c22
   have c22b1 : (a1_0 != 5) = true := bne_iff_ne.mpr c22
   by_cases c49 : (-1) < 0
   ·rw [if_pos c49] at H
    have c49b0 : decide ((-1) < 0) = true := decide_eq_true c49
    clear c49
    simp only [Option.some.injEq, Prod.mk.injEq] at H
    obtain ⟨rfl, rfl, rfl, rfl, rfl, rfl⟩ := H
    go_enter Tryd.func18, Tryd.ntmps18
    go_wp2_with (first | ((with_reducible refine gate_dst (N := 4) rfl ?_); (try (refine gate_guard (by rfl) ?_; dsimp only)); refine box_event ?hg (N := 4) ?hd (cs := #[.int .i64 a1_0, .int .i64 a1_1, .int .i64 a1_2, .slice A1_3 l1_3.length c1_3, .slice A1_4 l1_4.length c1_4]) (t := 27) ?hr ?_; (case hd => rfl); (case hg => rfl); (case hr => ((go_simp; done))); intro gb358 hg w50 hbox hb; replace HO1_4 := aj (Kd.V_below (Kd.V_elderB HO1_4.out gb358 (Nat.le_of_eq hg.symm)) hb); have BK358 := aj (hbox); have GW358 := aj ((by rw [hg]; exact (below_size HB.out) : w.heap.size ≤ gb358)); have GE358 := aj ((by rw [hg]; exact (below_size HB.out) : w.heap.size ≤ gb358)); replace HB := aj (below_step HB.out hb); clear hb hbox hg) | ((with_reducible refine gate_dst (N := 6) rfl ?_); (try (refine gate_guard (by rfl) ?_; dsimp only)); refine box_event ?hg (N := 6) ?hd (cs := #[.int .i64 0, .int .i64 0, .int .i64 0, .slice none 0 0, .slice none 0 0]) (t := 27) ?hr ?_; (case hd => rfl); (case hg => rfl); (case hr => ((go_simp; done))); intro gb359 hg w51 hbox hb; replace HO1_4 := aj (Kd.V_below (Kd.V_elderB HO1_4.out gb359 (Nat.le_of_eq hg.symm)) hb); have BK359 := aj (hbox); have GW359 := aj ((by rw [hg]; exact (below_size HB.out) : w.heap.size ≤ gb359)); have GE359 := aj ((by rw [hg]; exact (below_size HB.out) : w.heap.size ≤ gb359)); replace HB := aj (below_step HB.out hb); have NB358_359 := aj ((by rw [hg]; exact Nat.ne_of_lt (blk_lt BK358.out) : gb358 ≠ gb359)); have NB359_358 := aj ((by rw [hg]; exact Nat.ne_of_gt (blk_lt BK358.out) : gb359 ≠ gb358)); replace BK358 := aj (blk_below BK358.out hb); clear hb hbox hg; have hnb52 := NB358_359.out; have hnc52 := NB359_358.out; have hcz53_0 : w51.cell? ⟨gb358, 0, none⟩ = some (.int .i64 a1_0) := (blk_cell BK358.out 0).trans rfl; have hcz53_1 : w51.cell? ⟨gb358, 1, none⟩ = some (.int .i64 a1_1) := (blk_cell BK358.out 1).trans rfl; have hcz53_2 : w51.cell? ⟨gb358, 2, none⟩ = some (.int .i64 a1_2) := (blk_cell BK358.out 2).trans rfl; have hcz53_3 : w51.cell? ⟨gb358, 3, none⟩ = some (.slice A1_3 l1_3.length c1_3) := (blk_cell BK358.out 3).trans rfl; have hcz53_4 : w51.cell? ⟨gb358, 4, none⟩ = some (.slice A1_4 l1_4.length c1_4) := (blk_cell BK358.out 4).trans rfl; have hfz53_0 := blk_frozen BK358.out 0; have hfz53_1 := blk_frozen BK358.out 1; have hfz53_2 := blk_frozen BK358.out 2; have hfz53_3 := blk_frozen BK358.out 3; have hfz53_4 := blk_frozen BK358.out 4; have hcz54_0 : w51.cell? ⟨gb359, 0, none⟩ = some (.int .i64 0) := (blk_cell BK359.out 0).trans rfl; have hcz54_1 : w51.cell? ⟨gb359, 1, none⟩ = some (.int .i64 0) := (blk_cell BK359.out 1).trans rfl; have hcz54_2 : w51.cell? ⟨gb359, 2, none⟩ = some (.int .i64 0) := (blk_cell BK359.out 2).trans rfl; have hcz54_3 : w51.cell? ⟨gb359, 3, none⟩ = some (.slice none 0 0) := (blk_cell BK359.out 3).trans rfl; have hcz54_4 : w51.cell? ⟨gb359, 4, none⟩ = some (.slice none 0 0) := (blk_cell BK359.out 4).trans rfl; have hfz54_0 := blk_frozen BK359.out 0; have hfz54_1 := blk_frozen BK359.out 1; have hfz54_2 := blk_frozen BK359.out 2; have hfz54_3 := blk_frozen BK359.out 3; have hfz54_4 := blk_frozen BK359.out 4))
    refine bodyPost_ret (results_ct rfl _ _ gb359 27 #[.int .i64 0, .int .i64 0, .int .i64 0, .slice none 0 0, .slice none 0 0] (0, 0) _ rfl (by refine blk_put (cs := #[.int .i64 0, .int .i64 0, .int .i64 0, .slice none 0 0, .slice none 0 0]) ?_ 4 _ rfl; refine blk_put (cs := #[.int .i64 0, .int .i64 0, .int .i64 0, .slice none 0 0, .slice none 0 0]) ?_ 3 _ rfl; refine blk_put (cs := #[.int .i64 0, .int .i64 0, .int .i64 0, .slice none 0 0, .slice none 0 0]) ?_ 2 _ rfl; refine blk_put (cs := #[.int .i64 0, .int .i64 0, .int .i64 0, .slice none 0 0, .slice none 0 0]) ?_ 1 _ rfl; refine blk_put (cs := #[.int .i64 0, .int .i64 0, .int .i64 0, .slice none 0 0, .slice none 0 0]) ?_ 0 _ rfl; exact BK359.out) Tryd.underlying27 rfl (by kernel_rfl)) rfl ?_
    exact ⟨_, _, by rfl, Kd.V_mono (Kd.V_nil _ 0 _ 0 (fun _ => False)) (fun _ hk => hk.elim), Kd.V_mono (Kd.V_nil _ 0 _ 0 (fun _ => False)) (fun _ hk => hk.elim), by repeat (with_reducible first | exact HB.out | refine below_set ?_ GE359.out)⟩
   ·exact absurd (by decide) c49
end Go.Proofs.YtcfhnfjkiljigaaDoor.XFnJpGetUnsafe
end
