/- Proved here: parts of the law FnJpGetUnsafe (the texts XFnJpGetUnsafex13 UnescBaseFnJpGetUnsafe EscReadFnJpGetUnsafe DecFnJpGetUnsafe ReadBaseFnJpGetUnsafe ReadTotFnJpGetUnsafe FjStr FjA FjRefFnJpGetUnsafe FjRef2FnJpGetUnsafe TreeRefFnJpGetUnsafe), no conditions of their own beyond what each theorem says. -/
import Derived.Test.YtcfhnfjkiljigaaDoorPa10
import Derived.Test.YtcfhnfjkiljigaaDoorPa16
import Derived.Test.YtcfhnfjkiljigaaDoorPa17
import Derived.Test.YtcfhnfjkiljigaaDoorPa2
import Derived.Lib.RuneBytes
section
-- Written by xprint.py of this session (a program that runs the kit's print and adds to it); Lean checks it.
namespace Go.Proofs.YtcfhnfjkiljigaaDoor.XFnJpGetUnsafe
open Go.RowKit Go.Proofs.YtcfhnfjkiljigaaDoorW.PrintWords Go.Proofs.YtcfhnfjkiljigaaDoorW.PrintLast Go.Proofs.YtcfhnfjkiljigaaDoorW.PrintMore
attribute [local go_sem] max2_int min2_int max_two min_two max_three min_three max_four min_four   -- for this text's walks alone
set_option linter.unusedVariables false
set_option linter.unusedSimpArgs false
/-! ### spec_Raw: function 12 -/
def spec_Raw.f (a0 : ByteArray) (a1_0 : Int) (a1_1 : Int) (a1_2 : Int) (l1_3 : List (S65)) (l1_4 : List (S27)) : Option (ByteArray) := if a1_0 = 4 then (if 0 ≤ (wrap64 (a1_1 + 1)) then (if (wrap64 (a1_1 + 1)) ≤ (wrap64 (a1_2 - 1)) then (if (wrap64 (a1_2 - 1)) ≤ (a0.size : Int) then (some (a0.extract ((wrap64 (a1_1 + 1)) : Int).toNat ((wrap64 (a1_2 - 1)) : Int).toNat)) else (none)) else (none)) else (none)) else (if 0 ≤ a1_1 then (if a1_1 ≤ a1_2 then (if a1_2 ≤ (a0.size : Int) then (some (a0.extract (a1_1 : Int).toNat (a1_2 : Int).toNat)) else (none)) else (none)) else (none))
set_option maxHeartbeats 8000000 in
set_option maxRecDepth 100000 in
theorem spec_Raw.calls (a0 : ByteArray) (a1_0 : Int) (a1_1 : Int) (a1_2 : Int) (A1_3 : Option Addr) (c1_3 : Nat) (l1_3 : List (S65)) (A1_4 : Option Addr) (c1_4 : Nat) (l1_4 : List (S27)) (r : ByteArray) (w : World) (hr1_3 : Kd.C k65 w A1_3 l1_3.length l1_3) (hc1_3 : l1_3.length ≤ c1_3) (hr1_4 : Kd.C k27 w A1_4 l1_4.length l1_4) (hc1_4 : l1_4.length ≤ c1_4) (h : spec_Raw.f a0 a1_0 a1_1 a1_2 l1_3 l1_4 = some r) :
  Calls Tryd.prog 12 #[.string a0, .agg #[.int .i64 a1_0, .int .i64 a1_1, .int .i64 a1_2, .slice A1_3 l1_3.length c1_3, .slice A1_4 l1_4.length c1_4]] w fun e w' => e = .returned (.string r) ∧ Below w.heap.size w w' := by
 have hu27 := Tryd.underlying27
 have HR1_3 := aj hr1_3
 have HC1_3 := aj hc1_3
 clear hr1_3 hc1_3
 have HR1_4 := aj hr1_4
 have HC1_4 := aj hc1_4
 clear hr1_4 hc1_4
 have HB := aj (Below.refl w.heap.size w)
 have H : (if a1_0 = 4 then (if 0 ≤ (wrap64 (a1_1 + 1)) then (if (wrap64 (a1_1 + 1)) ≤ (wrap64 (a1_2 - 1)) then (if (wrap64 (a1_2 - 1)) ≤ (a0.size : Int) then (some (a0.extract ((wrap64 (a1_1 + 1)) : Int).toNat ((wrap64 (a1_2 - 1)) : Int).toNat)) else (none)) else (none)) else (none)) else (if 0 ≤ a1_1 then (if a1_1 ≤ a1_2 then (if a1_2 ≤ (a0.size : Int) then (some (a0.extract (a1_1 : Int).toNat (a1_2 : Int).toNat)) else (none)) else (none)) else (none))) = some r := h
 clear h
 by_cases c3 : a1_0 = 4
 ·rw [if_pos c3] at H
  have c3b0 : (a1_0 == 4) = true := beq_iff_eq.mpr c3
  have c3b1 : (a1_0 != 4) = false := bne_eq_false_iff_eq.mpr c3
  clear c3
  obtain ⟨ji4, hji4⟩ : ∃ j_ : Int, (wrap64 (a1_1 + 1)) = j_ := ⟨_, rfl⟩
  replace H : (if 0 ≤ (ji4) then (if (ji4) ≤ (wrap64 (a1_2 - 1)) then (if (wrap64 (a1_2 - 1)) ≤ (a0.size : Int) then (some (a0.extract ((ji4) : Int).toNat ((wrap64 (a1_2 - 1)) : Int).toNat)) else (none)) else (none)) else (none)) = some r := by ((rw [hji4] at H; exact H))
  have hji4w : (IntKind.i64.wrap (a1_1 + 1)) = ji4 := (i64_w _).trans hji4
  by_cases c5 : 0 ≤ (ji4)
  ·rw [if_pos c5] at H
   have c5b0 := eq_true c5
   have c5b1 : decide (0 ≤ (ji4)) = true := decide_eq_true c5
   clear c5
   by_cases c6 : (ji4) ≤ (wrap64 (a1_2 - 1))
   ·rw [if_pos c6] at H
    have c6b0 := eq_true c6
    have c6b1 : decide ((ji4) ≤ (wrap64 (a1_2 - 1))) = true := decide_eq_true c6
    clear c6
    by_cases c7 : (wrap64 (a1_2 - 1)) ≤ (a0.size : Int)
    ·rw [if_pos c7] at H
     have c7b0 := eq_true c7
     have c7b1 : decide ((wrap64 (a1_2 - 1)) ≤ (a0.size : Int)) = true := decide_eq_true c7
     clear c7
     obtain rfl := Option.some.inj H
     go_enter Tryd.func12, Tryd.ntmps12
     go_wp2_with ((((with_reducible refine gate_dst (N := 3) rfl ?_); refine box_event ?hg (N := 3) ?hd (cs := #[.int .i64 a1_0, .int .i64 a1_1, .int .i64 a1_2, .slice A1_3 l1_3.length c1_3, .slice A1_4 l1_4.length c1_4]) (t := 27) ?hr ?_; (case hd => rfl); (case hg => rfl); (case hr => ((go_simp; done))); intro gb411 hg w8 hbox hb; have BK411 := aj (hbox); have GW411 := aj ((by rw [hg]; exact (below_size HB.out) : w.heap.size ≤ gb411)); have GE411 := aj ((by rw [hg]; exact (below_size HB.out) : w.heap.size ≤ gb411)); replace HB := aj (below_step HB.out hb); clear hb hbox hg; have hcz9_0 : w8.cell? ⟨gb411, 0, none⟩ = some (.int .i64 a1_0) := (blk_cell BK411.out 0).trans rfl; have hcz9_1 : w8.cell? ⟨gb411, 1, none⟩ = some (.int .i64 a1_1) := (blk_cell BK411.out 1).trans rfl; have hcz9_2 : w8.cell? ⟨gb411, 2, none⟩ = some (.int .i64 a1_2) := (blk_cell BK411.out 2).trans rfl; have hcz9_3 : w8.cell? ⟨gb411, 3, none⟩ = some (.slice A1_3 l1_3.length c1_3) := (blk_cell BK411.out 3).trans rfl; have hcz9_4 : w8.cell? ⟨gb411, 4, none⟩ = some (.slice A1_4 l1_4.length c1_4) := (blk_cell BK411.out 4).trans rfl; have hfz9_0 := blk_frozen BK411.out 0; have hfz9_1 := blk_frozen BK411.out 1; have hfz9_2 := blk_frozen BK411.out 2; have hfz9_3 := blk_frozen BK411.out 3; have hfz9_4 := blk_frozen BK411.out 4)))
     go_ret
     exact ⟨by rfl, by exact HB.out⟩
    ·rw [if_neg c7] at H
     exact absurd H (by simp)
   ·rw [if_neg c6] at H
    exact absurd H (by simp)
  ·rw [if_neg c5] at H
   exact absurd H (by simp)
 ·rw [if_neg c3] at H
  have c3b0 : (a1_0 == 4) = false := beq_eq_false_iff_ne.mpr c3
  have c3b1 : (a1_0 != 4) = true := bne_iff_ne.mpr c3
  by_cases c10 : 0 ≤ a1_1
  ·rw [if_pos c10] at H
   have c10b0 := eq_true c10
   have c10b1 : decide (0 ≤ a1_1) = true := decide_eq_true c10
   clear c10
   by_cases c11 : a1_1 ≤ a1_2
   ·rw [if_pos c11] at H
    have c11b0 := eq_true c11
    have c11b1 : decide (a1_1 ≤ a1_2) = true := decide_eq_true c11
    clear c11
    by_cases c12 : a1_2 ≤ (a0.size : Int)
    ·rw [if_pos c12] at H
     have c12b0 := eq_true c12
     have c12b1 : decide (a1_2 ≤ (a0.size : Int)) = true := decide_eq_true c12
     clear c12
     obtain rfl := Option.some.inj H
     go_enter Tryd.func12, Tryd.ntmps12
     go_wp2_with ((((with_reducible refine gate_dst (N := 3) rfl ?_); refine box_event ?hg (N := 3) ?hd (cs := #[.int .i64 a1_0, .int .i64 a1_1, .int .i64 a1_2, .slice A1_3 l1_3.length c1_3, .slice A1_4 l1_4.length c1_4]) (t := 27) ?hr ?_; (case hd => rfl); (case hg => rfl); (case hr => ((go_simp; done))); intro gb411 hg w13 hbox hb; have BK411 := aj (hbox); have GW411 := aj ((by rw [hg]; exact (below_size HB.out) : w.heap.size ≤ gb411)); have GE411 := aj ((by rw [hg]; exact (below_size HB.out) : w.heap.size ≤ gb411)); replace HB := aj (below_step HB.out hb); clear hb hbox hg; have hcz14_0 : w13.cell? ⟨gb411, 0, none⟩ = some (.int .i64 a1_0) := (blk_cell BK411.out 0).trans rfl; have hcz14_1 : w13.cell? ⟨gb411, 1, none⟩ = some (.int .i64 a1_1) := (blk_cell BK411.out 1).trans rfl; have hcz14_2 : w13.cell? ⟨gb411, 2, none⟩ = some (.int .i64 a1_2) := (blk_cell BK411.out 2).trans rfl; have hcz14_3 : w13.cell? ⟨gb411, 3, none⟩ = some (.slice A1_3 l1_3.length c1_3) := (blk_cell BK411.out 3).trans rfl; have hcz14_4 : w13.cell? ⟨gb411, 4, none⟩ = some (.slice A1_4 l1_4.length c1_4) := (blk_cell BK411.out 4).trans rfl; have hfz14_0 := blk_frozen BK411.out 0; have hfz14_1 := blk_frozen BK411.out 1; have hfz14_2 := blk_frozen BK411.out 2; have hfz14_3 := blk_frozen BK411.out 3; have hfz14_4 := blk_frozen BK411.out 4)))
     go_ret
     exact ⟨by rfl, by exact HB.out⟩
    ·rw [if_neg c12] at H
     exact absurd H (by simp)
   ·rw [if_neg c11] at H
    exact absurd H (by simp)
  ·rw [if_neg c10] at H
   exact absurd H (by simp)
/-! ### laws_FnJpGetUnsafe: function 4 -/
noncomputable def laws_FnJpGetUnsafe.j0 : Nat → ByteArray → List ByteArray → Bool → Option (Bool)
 | 0, _, _, _ => none
 | k + 1, x0, x1, x16 => if x16 = true then (some true) else ((laws_jpFound.f k x0 x1).bind fun bt413 => (if bt413.2.2.2.2.2 = true then ((impl_JpGetUnsafeString.f k x0 x1).bind fun bt424 => (if bt424.2 = true then ((spec_Raw.f x0 bt413.1 bt413.2.1 bt413.2.2.1 bt413.2.2.2.1 bt413.2.2.2.2.1).bind fun t426 => (some (bt424.1.toList == t426.toList))) else (some false))) else (some true)))
noncomputable def laws_FnJpGetUnsafe.f (k : Nat) (a0 : ByteArray) (l1 : List ByteArray) : Option (Bool) := if (a0.size : Int) > 2147483647 then (laws_FnJpGetUnsafe.j0 k a0 l1 true) else ((laws_zzFits1.f k l1).bind fun t412 => (laws_FnJpGetUnsafe.j0 k a0 l1 (!t412)))
set_option maxHeartbeats 8000000 in
set_option maxRecDepth 100000 in
theorem laws_FnJpGetUnsafe.calls (k : Nat) (a0 : ByteArray) (A1 : Option Addr) (c1 : Nat) (l1 : List ByteArray) (r : Bool) (w : World) (hr1 : Kd.C Kd.string w A1 l1.length l1) (hc1 : l1.length ≤ c1) (hG : Glob w) (h : laws_FnJpGetUnsafe.f k a0 l1 = some r) :
  Calls Tryd.prog 4 #[.string a0, .slice A1 l1.length c1] w fun e w' => e = .returned (.bool r) ∧ Below w.heap.size w w' := by
 have HG := aj hG
 clear hG
 have hu27 := Tryd.underlying27
 have HR1 := aj hr1
 have HC1 := aj hc1
 clear hr1 hc1
 have HB := aj (Below.refl w.heap.size w)
 have H : (if (a0.size : Int) > 2147483647 then (laws_FnJpGetUnsafe.j0 k a0 l1 true) else ((laws_zzFits1.f k l1).bind fun t412 => (laws_FnJpGetUnsafe.j0 k a0 l1 (!t412)))) = some r := h
 clear h
 have HC3 := aj H
 clear H
 go_enter Tryd.func4, Tryd.ntmps4
 go_upto_region 1 with (fail)
 go_cut [16] (fun v16 wc => ∃ (kq : Nat) (x16_2 : Bool), v16 = .bool x16_2 ∧ Aside0 (laws_FnJpGetUnsafe.j0 kq a0 l1 x16_2 = some r) ∧ Aside0 (kq ≤ k) ∧ Aside0 (Below w.heap.size w wc))
 case first =>
  have H := HC3.out
  clear HC3
  by_cases c4 : (a0.size : Int) > 2147483647
  ·rw [if_pos c4] at H
   have c4b0 : decide (2147483647 < (a0.size : Int)) = true := decide_eq_true c4
   have c4b1 : decide (2147483647 < a0.size) = true := decide_eq_true (by omega)
   clear c4
   have H' := aj H
   clear H
   go_wp2
   go_meet
   case rel => exact ⟨_, (true), (by rfl), H', ⟨by omega⟩, ⟨HB.out⟩⟩
  ·rw [if_neg c4] at H
   have c4b0 : decide (2147483647 < (a0.size : Int)) = false := decide_eq_false c4
   have c4b1 : decide (2147483647 < a0.size) = false := decide_eq_false (by omega)
   clear c4
   obtain ⟨t412, A50, H⟩ := Option.bind_eq_some_iff.mp H
   try dsimp only at H
   have A5 := aj A50
   clear A50
   have H' := aj H
   clear H
   go_wp2_with (((go_at_call 6; (with_reducible refine (laws_zzFits1.calls k _ _ l1 t412 _ ?side1 ?side2 A5.out).mono ?_); (case side1 => repeat (exact (Kd.C_below HR1.out HB.out))); (case side2 => exact HC1.out); rintro e w' ⟨rfl, ⟨nd, rfl⟩⟩)))
   go_meet
   case rel => exact ⟨_, (!t412), (by rfl), H', ⟨by omega⟩, ⟨by repeat (with_reducible first | exact HB.out | apply pw_below_drewN)⟩⟩
 case rest =>
  clear HC3
  obtain ⟨kq, x16_2, rfl, HA, HJ2, HB⟩ := hcut
  cases kq with
  | zero => exact absurd HA.out (by simp [laws_FnJpGetUnsafe.j0])
  | succ kj2 =>
   have H := HA.out
   clear HA
   simp only [laws_FnJpGetUnsafe.j0] at H
   by_cases c6 : x16_2 = true
   ·subst c6
    rw [if_pos rfl] at H
    obtain rfl := Option.some.inj H
    go_wp2
    go_ret
    exact ⟨by rfl, by exact HB.out⟩
   ·replace c6 := Bool.eq_false_iff.mpr c6
    subst c6
    rw [if_neg (show ¬ (false = true) by decide)] at H
    obtain ⟨⟨t413, t414, t415, t416, t419, t422⟩, A70, H⟩ := Option.bind_eq_some_iff.mp H
    try dsimp only at H
    have A7 := aj A70
    clear A70
    by_cases c8 : t422 = true
    ·subst c8
     rw [if_pos rfl] at H
     obtain ⟨⟨t424, t425⟩, A90, H⟩ := Option.bind_eq_some_iff.mp H
     try dsimp only at H
     have A9 := aj A90
     clear A90
     by_cases c10 : t425 = true
     ·subst c10
      rw [if_pos rfl] at H
      obtain ⟨t426, A110, H⟩ := Option.bind_eq_some_iff.mp H
      try dsimp only at H
      have A11 := aj A110
      clear A110
      obtain rfl := Option.some.inj H
      go_wp2_with (first | ((with_reducible refine gate_callee (f := 7) rfl ?_); refine goesL_ (some 20) rfl rfl Tryd.func7 (by kernel_rfl) rfl #[.string a0, .slice A1 l1.length c1] rfl (by (try simp only [List.map_toArray, List.map_cons, List.map_nil]); rfl) ?_; (with_reducible refine (laws_jpFound.calls kj2 a0 _ _ l1 t413 t414 t415 t416 t419 true _ ?side1 ?side2 A7.out).mono ?_); (case side1 => repeat (exact (Kd.C_below HR1.out HB.out))); (case side2 => exact HC1.out); rintro e w12 ⟨v417, v420, rfl, ho0, ho1, hb⟩; refine ⟨_, rfl, ?_⟩; have HO418 := aj (Kd.V_lower (Kd.V_mono (ok' := fun k_ => True) ho0 (fun k_ hk_ => trivial)) (below_size HB.out)); have HO421 := aj (Kd.V_lower (Kd.V_mono (ok' := fun k_ => True) ho1 (fun k_ hk_ => trivial)) (below_size HB.out)); replace HB := aj (below_step HB.out hb); clear hb ho0 ho1) | ((with_reducible refine gate_dst (N := 5) rfl ?_); refine box_event ?hg (N := 5) ?hd (cs := #[.int .i64 0, .int .i64 0, .int .i64 0, .slice none 0 0, .slice none 0 0]) (t := 27) ?hr ?_; (case hd => rfl); (case hg => rfl); (case hr => ((go_simp; done))); intro gb423 hg w13 hbox hb; replace HO418 := aj (Kd.V_below (Kd.V_elderB HO418.out gb423 (Nat.le_of_eq hg.symm)) hb); replace HO421 := aj (Kd.V_below (Kd.V_elderB HO421.out gb423 (Nat.le_of_eq hg.symm)) hb); have BK423 := aj (hbox); have GW423 := aj ((by rw [hg]; exact (below_size HB.out) : w.heap.size ≤ gb423)); have GE423 := aj ((by rw [hg]; exact (below_size HB.out) : w.heap.size ≤ gb423)); replace HB := aj (below_step HB.out hb); clear hb hbox hg; have hcz14_0 : w13.cell? ⟨gb423, 0, none⟩ = some (.int .i64 0) := (blk_cell BK423.out 0).trans rfl; have hcz14_1 : w13.cell? ⟨gb423, 1, none⟩ = some (.int .i64 0) := (blk_cell BK423.out 1).trans rfl; have hcz14_2 : w13.cell? ⟨gb423, 2, none⟩ = some (.int .i64 0) := (blk_cell BK423.out 2).trans rfl; have hcz14_3 : w13.cell? ⟨gb423, 3, none⟩ = some (.slice none 0 0) := (blk_cell BK423.out 3).trans rfl; have hcz14_4 : w13.cell? ⟨gb423, 4, none⟩ = some (.slice none 0 0) := (blk_cell BK423.out 4).trans rfl; have hfz14_0 := blk_frozen BK423.out 0; have hfz14_1 := blk_frozen BK423.out 1; have hfz14_2 := blk_frozen BK423.out 2; have hfz14_3 := blk_frozen BK423.out 3; have hfz14_4 := blk_frozen BK423.out 4; obtain ⟨Ao15, co15, eo15⟩ := Kd.V_slice HO418.out; subst eo15; obtain ⟨Ao16, co16, eo16⟩ := Kd.V_slice HO421.out; subst eo16) | ((with_reducible refine gate_callee (f := 11) rfl ?_); refine goesL_ (some 28) rfl rfl Tryd.func11 (by kernel_rfl) rfl #[.string a0, .slice A1 l1.length c1] rfl (by (try simp only [List.map_toArray, List.map_cons, List.map_nil]); rfl) ?_; (with_reducible refine (impl_JpGetUnsafeString.calls kj2 a0 _ _ l1 t424 true _ ?side1 ?side2 ?side3 A9.out).mono ?_); (case side1 => exact Kd.C_below HR1.out (by repeat (with_reducible first | exact HB.out | refine below_set ?_ GE423.out))); (case side2 => exact HC1.out); (case side3 => exact Glob.below HG.out (by repeat (with_reducible first | exact HB.out | refine below_set ?_ GE423.out))); rintro e w17 ⟨rfl, hb⟩; refine ⟨_, rfl, ?_⟩; replace HO418 := aj (Kd.V_below (by exact (Kd.V_mono (Kd.V_far (p := ⟨gb423, 4, none⟩) (Kd.V_far (p := ⟨gb423, 3, none⟩) (Kd.V_far (p := ⟨gb423, 2, none⟩) (Kd.V_far (p := ⟨gb423, 1, none⟩) (Kd.V_far (p := ⟨gb423, 0, none⟩) (Kd.V_mono HO418.out (fun k_ hk => (⟨hk, hk.2⟩ : _ ∧ k_ ≠ gb423))) (fun _ hk => hk.2) (.int .i64 t413)) (fun _ hk => hk.2) (.int .i64 t414)) (fun _ hk => hk.2) (.int .i64 t415)) (fun _ hk => hk.2) (.slice Ao15 t416.length co15)) (fun _ hk => hk.2) (.slice Ao16 t419.length co16)) (fun _ h_ => h_.1))) hb); replace HO421 := aj (Kd.V_below (by exact (Kd.V_mono (Kd.V_far (p := ⟨gb423, 4, none⟩) (Kd.V_far (p := ⟨gb423, 3, none⟩) (Kd.V_far (p := ⟨gb423, 2, none⟩) (Kd.V_far (p := ⟨gb423, 1, none⟩) (Kd.V_far (p := ⟨gb423, 0, none⟩) (Kd.V_mono HO421.out (fun k_ hk => (⟨hk, hk.2⟩ : _ ∧ k_ ≠ gb423))) (fun _ hk => hk.2) (.int .i64 t413)) (fun _ hk => hk.2) (.int .i64 t414)) (fun _ hk => hk.2) (.int .i64 t415)) (fun _ hk => hk.2) (.slice Ao15 t416.length co15)) (fun _ hk => hk.2) (.slice Ao16 t419.length co16)) (fun _ h_ => h_.1))) hb); replace BK423 := aj (blk_below (g := gb423) (o := .cells #[.int .i64 t413, .int .i64 t414, .int .i64 t415, .slice Ao15 t416.length co15, .slice Ao16 t419.length co16] 27 (0, 0)) (by refine blk_put (cs := #[.int .i64 t413, .int .i64 t414, .int .i64 t415, .slice Ao15 t416.length co15, .slice none 0 0]) ?_ 4 _ rfl; refine blk_put (cs := #[.int .i64 t413, .int .i64 t414, .int .i64 t415, .slice none 0 0, .slice none 0 0]) ?_ 3 _ rfl; refine blk_put (cs := #[.int .i64 t413, .int .i64 t414, .int .i64 0, .slice none 0 0, .slice none 0 0]) ?_ 2 _ rfl; refine blk_put (cs := #[.int .i64 t413, .int .i64 0, .int .i64 0, .slice none 0 0, .slice none 0 0]) ?_ 1 _ rfl; refine blk_put (cs := #[.int .i64 0, .int .i64 0, .int .i64 0, .slice none 0 0, .slice none 0 0]) ?_ 0 _ rfl; exact BK423.out) hb); replace HB := aj (below_step (by repeat (with_reducible first | exact HB.out | refine below_set ?_ GE423.out)) hb); clear hb; have hcz18_0 : w17.cell? ⟨gb423, 0, none⟩ = some (.int .i64 t413) := (blk_cell BK423.out 0).trans rfl; have hcz18_1 : w17.cell? ⟨gb423, 1, none⟩ = some (.int .i64 t414) := (blk_cell BK423.out 1).trans rfl; have hcz18_2 : w17.cell? ⟨gb423, 2, none⟩ = some (.int .i64 t415) := (blk_cell BK423.out 2).trans rfl; have hcz18_3 : w17.cell? ⟨gb423, 3, none⟩ = some (.slice Ao15 t416.length co15) := (blk_cell BK423.out 3).trans rfl; have hcz18_4 : w17.cell? ⟨gb423, 4, none⟩ = some (.slice Ao16 t419.length co16) := (blk_cell BK423.out 4).trans rfl; have hfz18_0 := blk_frozen BK423.out 0; have hfz18_1 := blk_frozen BK423.out 1; have hfz18_2 := blk_frozen BK423.out 2; have hfz18_3 := blk_frozen BK423.out 3; have hfz18_4 := blk_frozen BK423.out 4) | (go_at_call 12; (with_reducible refine (spec_Raw.calls a0 t413 t414 t415 _ _ t416 _ _ t419 t426 _ ?side1 ?side2 ?side3 ?side4 A11.out).mono ?_); (case side1 => repeat (exact (Kd.V_reads' HO418.out).2.2)); (case side2 => exact (Kd.V_reads' HO418.out).2.1); (case side3 => repeat (exact (Kd.V_reads' HO421.out).2.2)); (case side4 => exact (Kd.V_reads' HO421.out).2.1); rintro e w19 ⟨rfl, hb⟩; replace HO418 := aj (Kd.V_below HO418.out hb); replace HO421 := aj (Kd.V_below HO421.out hb); replace BK423 := aj (blk_below BK423.out hb); replace HB := aj (below_step HB.out hb); clear hb))
      go_ret
      exact ⟨by rfl, by exact HB.out⟩
     ·replace c10 := Bool.eq_false_iff.mpr c10
      subst c10
      rw [if_neg (show ¬ (false = true) by decide)] at H
      obtain rfl := Option.some.inj H
      go_wp2_with (first | ((with_reducible refine gate_callee (f := 7) rfl ?_); refine goesL_ (some 20) rfl rfl Tryd.func7 (by kernel_rfl) rfl #[.string a0, .slice A1 l1.length c1] rfl (by (try simp only [List.map_toArray, List.map_cons, List.map_nil]); rfl) ?_; (with_reducible refine (laws_jpFound.calls kj2 a0 _ _ l1 t413 t414 t415 t416 t419 true _ ?side1 ?side2 A7.out).mono ?_); (case side1 => repeat (exact (Kd.C_below HR1.out HB.out))); (case side2 => exact HC1.out); rintro e w20 ⟨v417, v420, rfl, ho0, ho1, hb⟩; refine ⟨_, rfl, ?_⟩; have HO418 := aj (Kd.V_lower (Kd.V_mono (ok' := fun k_ => True) ho0 (fun k_ hk_ => trivial)) (below_size HB.out)); have HO421 := aj (Kd.V_lower (Kd.V_mono (ok' := fun k_ => True) ho1 (fun k_ hk_ => trivial)) (below_size HB.out)); replace HB := aj (below_step HB.out hb); clear hb ho0 ho1) | ((with_reducible refine gate_dst (N := 5) rfl ?_); refine box_event ?hg (N := 5) ?hd (cs := #[.int .i64 0, .int .i64 0, .int .i64 0, .slice none 0 0, .slice none 0 0]) (t := 27) ?hr ?_; (case hd => rfl); (case hg => rfl); (case hr => ((go_simp; done))); intro gb423 hg w21 hbox hb; replace HO418 := aj (Kd.V_below (Kd.V_elderB HO418.out gb423 (Nat.le_of_eq hg.symm)) hb); replace HO421 := aj (Kd.V_below (Kd.V_elderB HO421.out gb423 (Nat.le_of_eq hg.symm)) hb); have BK423 := aj (hbox); have GW423 := aj ((by rw [hg]; exact (below_size HB.out) : w.heap.size ≤ gb423)); have GE423 := aj ((by rw [hg]; exact (below_size HB.out) : w.heap.size ≤ gb423)); replace HB := aj (below_step HB.out hb); clear hb hbox hg; have hcz22_0 : w21.cell? ⟨gb423, 0, none⟩ = some (.int .i64 0) := (blk_cell BK423.out 0).trans rfl; have hcz22_1 : w21.cell? ⟨gb423, 1, none⟩ = some (.int .i64 0) := (blk_cell BK423.out 1).trans rfl; have hcz22_2 : w21.cell? ⟨gb423, 2, none⟩ = some (.int .i64 0) := (blk_cell BK423.out 2).trans rfl; have hcz22_3 : w21.cell? ⟨gb423, 3, none⟩ = some (.slice none 0 0) := (blk_cell BK423.out 3).trans rfl; have hcz22_4 : w21.cell? ⟨gb423, 4, none⟩ = some (.slice none 0 0) := (blk_cell BK423.out 4).trans rfl; have hfz22_0 := blk_frozen BK423.out 0; have hfz22_1 := blk_frozen BK423.out 1; have hfz22_2 := blk_frozen BK423.out 2; have hfz22_3 := blk_frozen BK423.out 3; have hfz22_4 := blk_frozen BK423.out 4; obtain ⟨Ao23, co23, eo23⟩ := Kd.V_slice HO418.out; subst eo23; obtain ⟨Ao24, co24, eo24⟩ := Kd.V_slice HO421.out; subst eo24) | ((with_reducible refine gate_callee (f := 11) rfl ?_); refine goesL_ (some 28) rfl rfl Tryd.func11 (by kernel_rfl) rfl #[.string a0, .slice A1 l1.length c1] rfl (by (try simp only [List.map_toArray, List.map_cons, List.map_nil]); rfl) ?_; (with_reducible refine (impl_JpGetUnsafeString.calls kj2 a0 _ _ l1 t424 false _ ?side1 ?side2 ?side3 A9.out).mono ?_); (case side1 => exact Kd.C_below HR1.out (by repeat (with_reducible first | exact HB.out | refine below_set ?_ GE423.out))); (case side2 => exact HC1.out); (case side3 => exact Glob.below HG.out (by repeat (with_reducible first | exact HB.out | refine below_set ?_ GE423.out))); rintro e w25 ⟨rfl, hb⟩; refine ⟨_, rfl, ?_⟩; replace HO418 := aj (Kd.V_below (by exact (Kd.V_mono (Kd.V_far (p := ⟨gb423, 4, none⟩) (Kd.V_far (p := ⟨gb423, 3, none⟩) (Kd.V_far (p := ⟨gb423, 2, none⟩) (Kd.V_far (p := ⟨gb423, 1, none⟩) (Kd.V_far (p := ⟨gb423, 0, none⟩) (Kd.V_mono HO418.out (fun k_ hk => (⟨hk, hk.2⟩ : _ ∧ k_ ≠ gb423))) (fun _ hk => hk.2) (.int .i64 t413)) (fun _ hk => hk.2) (.int .i64 t414)) (fun _ hk => hk.2) (.int .i64 t415)) (fun _ hk => hk.2) (.slice Ao23 t416.length co23)) (fun _ hk => hk.2) (.slice Ao24 t419.length co24)) (fun _ h_ => h_.1))) hb); replace HO421 := aj (Kd.V_below (by exact (Kd.V_mono (Kd.V_far (p := ⟨gb423, 4, none⟩) (Kd.V_far (p := ⟨gb423, 3, none⟩) (Kd.V_far (p := ⟨gb423, 2, none⟩) (Kd.V_far (p := ⟨gb423, 1, none⟩) (Kd.V_far (p := ⟨gb423, 0, none⟩) (Kd.V_mono HO421.out (fun k_ hk => (⟨hk, hk.2⟩ : _ ∧ k_ ≠ gb423))) (fun _ hk => hk.2) (.int .i64 t413)) (fun _ hk => hk.2) (.int .i64 t414)) (fun _ hk => hk.2) (.int .i64 t415)) (fun _ hk => hk.2) (.slice Ao23 t416.length co23)) (fun _ hk => hk.2) (.slice Ao24 t419.length co24)) (fun _ h_ => h_.1))) hb); replace BK423 := aj (blk_below (g := gb423) (o := .cells #[.int .i64 t413, .int .i64 t414, .int .i64 t415, .slice Ao23 t416.length co23, .slice Ao24 t419.length co24] 27 (0, 0)) (by refine blk_put (cs := #[.int .i64 t413, .int .i64 t414, .int .i64 t415, .slice Ao23 t416.length co23, .slice none 0 0]) ?_ 4 _ rfl; refine blk_put (cs := #[.int .i64 t413, .int .i64 t414, .int .i64 t415, .slice none 0 0, .slice none 0 0]) ?_ 3 _ rfl; refine blk_put (cs := #[.int .i64 t413, .int .i64 t414, .int .i64 0, .slice none 0 0, .slice none 0 0]) ?_ 2 _ rfl; refine blk_put (cs := #[.int .i64 t413, .int .i64 0, .int .i64 0, .slice none 0 0, .slice none 0 0]) ?_ 1 _ rfl; refine blk_put (cs := #[.int .i64 0, .int .i64 0, .int .i64 0, .slice none 0 0, .slice none 0 0]) ?_ 0 _ rfl; exact BK423.out) hb); replace HB := aj (below_step (by repeat (with_reducible first | exact HB.out | refine below_set ?_ GE423.out)) hb); clear hb))
      go_ret
      exact ⟨by rfl, by exact HB.out⟩
    ·replace c8 := Bool.eq_false_iff.mpr c8
     subst c8
     rw [if_neg (show ¬ (false = true) by decide)] at H
     obtain rfl := Option.some.inj H
     go_wp2_with (first | ((with_reducible refine gate_callee (f := 7) rfl ?_); refine goesL_ (some 20) rfl rfl Tryd.func7 (by kernel_rfl) rfl #[.string a0, .slice A1 l1.length c1] rfl (by (try simp only [List.map_toArray, List.map_cons, List.map_nil]); rfl) ?_; (with_reducible refine (laws_jpFound.calls kj2 a0 _ _ l1 t413 t414 t415 t416 t419 false _ ?side1 ?side2 A7.out).mono ?_); (case side1 => repeat (exact (Kd.C_below HR1.out HB.out))); (case side2 => exact HC1.out); rintro e w26 ⟨v417, v420, rfl, ho0, ho1, hb⟩; refine ⟨_, rfl, ?_⟩; have HO418 := aj (Kd.V_lower (Kd.V_mono (ok' := fun k_ => True) ho0 (fun k_ hk_ => trivial)) (below_size HB.out)); have HO421 := aj (Kd.V_lower (Kd.V_mono (ok' := fun k_ => True) ho1 (fun k_ hk_ => trivial)) (below_size HB.out)); replace HB := aj (below_step HB.out hb); clear hb ho0 ho1) | ((with_reducible refine gate_dst (N := 5) rfl ?_); refine box_event ?hg (N := 5) ?hd (cs := #[.int .i64 0, .int .i64 0, .int .i64 0, .slice none 0 0, .slice none 0 0]) (t := 27) ?hr ?_; (case hd => rfl); (case hg => rfl); (case hr => ((go_simp; done))); intro gb423 hg w27 hbox hb; replace HO418 := aj (Kd.V_below (Kd.V_elderB HO418.out gb423 (Nat.le_of_eq hg.symm)) hb); replace HO421 := aj (Kd.V_below (Kd.V_elderB HO421.out gb423 (Nat.le_of_eq hg.symm)) hb); have BK423 := aj (hbox); have GW423 := aj ((by rw [hg]; exact (below_size HB.out) : w.heap.size ≤ gb423)); have GE423 := aj ((by rw [hg]; exact (below_size HB.out) : w.heap.size ≤ gb423)); replace HB := aj (below_step HB.out hb); clear hb hbox hg; have hcz28_0 : w27.cell? ⟨gb423, 0, none⟩ = some (.int .i64 0) := (blk_cell BK423.out 0).trans rfl; have hcz28_1 : w27.cell? ⟨gb423, 1, none⟩ = some (.int .i64 0) := (blk_cell BK423.out 1).trans rfl; have hcz28_2 : w27.cell? ⟨gb423, 2, none⟩ = some (.int .i64 0) := (blk_cell BK423.out 2).trans rfl; have hcz28_3 : w27.cell? ⟨gb423, 3, none⟩ = some (.slice none 0 0) := (blk_cell BK423.out 3).trans rfl; have hcz28_4 : w27.cell? ⟨gb423, 4, none⟩ = some (.slice none 0 0) := (blk_cell BK423.out 4).trans rfl; have hfz28_0 := blk_frozen BK423.out 0; have hfz28_1 := blk_frozen BK423.out 1; have hfz28_2 := blk_frozen BK423.out 2; have hfz28_3 := blk_frozen BK423.out 3; have hfz28_4 := blk_frozen BK423.out 4; obtain ⟨Ao29, co29, eo29⟩ := Kd.V_slice HO418.out; subst eo29; obtain ⟨Ao30, co30, eo30⟩ := Kd.V_slice HO421.out; subst eo30))
     go_ret
     exact ⟨by rfl, by repeat (with_reducible first | exact HB.out | refine below_set ?_ GE423.out)⟩
end Go.Proofs.YtcfhnfjkiljigaaDoor.XFnJpGetUnsafe
end
section
namespace Go.Proofs.YtcfhnfjkiljigaaDoor.UnescXFnJpGetUnsafe
open Go.RowKit Go.Proofs.YtcfhnfjkiljigaaDoor.Base Go.Proofs.YtcfhnfjkiljigaaDoor.XFnJpGetUnsafe Go.Proofs.YtcfhnfjkiljigaaDoorW.PrintWords Go.Proofs.YtcfhnfjkiljigaaDoorW.PrintLast
set_option linter.unusedVariables false
/-- For all k from some number on. -/
def Ev (P : Nat → Prop) : Prop := ∃ K, ∀ k, K ≤ k → P k
theorem Ev.and {P Q : Nat → Prop} (h : Ev P) (g : Ev Q) : Ev fun k => P k ∧ Q k := by
 obtain ⟨a, h⟩ := h; obtain ⟨b, g⟩ := g
 exact ⟨max a b, fun k hk => ⟨h k (by omega), g k (by omega)⟩⟩
theorem Ev.mp {P Q : Nat → Prop} (h : Ev P) (g : ∀ k, P k → Q k) : Ev Q := by
 obtain ⟨a, h⟩ := h; exact ⟨a, fun k hk => g k (h k hk)⟩
theorem Ev.succ {P Q : Nat → Prop} (h : Ev P) (g : ∀ k, P k → Q (k + 1)) : Ev Q := by
 obtain ⟨a, h⟩ := h
 refine ⟨a + 1, fun k hk => ?_⟩
 obtain ⟨j, rfl⟩ : ∃ j, k = j + 1 := ⟨k - 1, by omega⟩
 exact g j (h j (by omega))
theorem Ev.ge (K : Nat) : Ev fun k => K ≤ k := ⟨K, fun k hk => hk⟩
theorem Ev.ex {P : Nat → Prop} (h : Ev P) : ∃ k, P k := by obtain ⟨a, h⟩ := h; exact ⟨a, h a (Nat.le_refl _)⟩
def hv (c : Int) : Option Int := if 48 ≤ c ∧ c ≤ 57 then some (c - 48) else if 97 ≤ c ∧ c ≤ 102 then some (c - 87) else if 65 ≤ c ∧ c ≤ 70 then some (c - 55) else none
theorem hv_range {c v : Int} (h : hv c = some v) : 0 ≤ v ∧ v ≤ 15 := by
 unfold hv at h
 repeat' split at h
 all_goals first
  | (cases h; done)
  | (obtain rfl := Option.some.inj h; omega)
theorem hexDigit_eq (k : Nat) (hk : 2 ≤ k) (c : Int) : spec_hexDigit.f k c = some (match hv c with | some v => (v, true) | none => (0, false)) := by
 obtain ⟨j, rfl⟩ : ∃ j, k = j + 2 := ⟨k - 2, by omega⟩
 by_cases a1 : 48 ≤ c <;> by_cases a2 : c ≤ 57 <;> by_cases a3 : 97 ≤ c <;> by_cases a4 : c ≤ 102 <;> by_cases a5 : 65 ≤ c <;> by_cases a6 : c ≤ 70 <;>
  first
   | omega
   | (simp [spec_hexDigit.f, spec_hexDigit.j0, spec_hexDigit.j1, hv, a1, a2, a3, a4, a5, a6]; done)
   | (simp [spec_hexDigit.f, spec_hexDigit.j0, spec_hexDigit.j1, hv, a1, a2, a3, a4, a5, a6]; omega)
def h4 (a b c d : Option Int) : Option Int := a.bind fun a => b.bind fun b => c.bind fun c => d.bind fun d => some (a * 4096 + b * 256 + c * 16 + d)
/-- The unit (a backslash, "u", four hexadecimal digits) that begins at i. -/
def U (s : ByteArray) (i : Int) : Option Int :=
 if i + 6 ≤ s.size ∧ bt s i = 92 ∧ bt s (i + 1) = 117 then h4 (hv (bt s (i + 2))) (hv (bt s (i + 3))) (hv (bt s (i + 4))) (hv (bt s (i + 5))) else none
theorem h4_range {a b c d : Int} {v : Int} (h : h4 (hv a) (hv b) (hv c) (hv d) = some v) : 0 ≤ v ∧ v ≤ 65535 := by
 unfold h4 at h
 obtain ⟨x, hx, h⟩ := Option.bind_eq_some_iff.mp h
 obtain ⟨y, hy, h⟩ := Option.bind_eq_some_iff.mp h
 obtain ⟨z, hz, h⟩ := Option.bind_eq_some_iff.mp h
 obtain ⟨t, ht, h⟩ := Option.bind_eq_some_iff.mp h
 obtain rfl := Option.some.inj h
 have := hv_range hx; have := hv_range hy; have := hv_range hz; have := hv_range ht
 omega
theorem U_range {s : ByteArray} {i v : Int} (h : U s i = some v) : 0 ≤ v ∧ v ≤ 65535 := by
 unfold U at h
 split at h
 ·exact h4_range h
 ·cases h
theorem U_at {s : ByteArray} {i v : Int} (h : U s i = some v) : i + 6 ≤ s.size ∧ bt s i = 92 ∧ bt s (i + 1) = 117 := by
 unfold U at h
 split at h
 ·assumption
 ·cases h
theorem unit_loop_end (k : Nat) (s : ByteArray) (i x6 x7 : Int) (h : wrap64 (i + 6) ≤ x7) : spec_unit.l0 (k + 1) s i x6 x7 = some (x6, true) := by
 rw [spec_unit.l0, if_neg (by omega)]
theorem unit_loop_step (k : Nat) (hk : 2 ≤ k) (s : ByteArray) (i x6 x7 : Int) (hi : 0 ≤ i) (hs : i + 6 ≤ s.size) (hsz : s.size ≤ 140737488355328) (h0 : i ≤ x7) (h1 : x7 < i + 6) (h2 : 0 ≤ x6) (h3 : x6 ≤ 1000000) :
  spec_unit.l0 (k + 1) s i x6 x7 = match hv (bt s x7) with | some v => spec_unit.l0 k s i (x6 * 16 + v) (x7 + 1) | none => some (0, false) := by
 rw [spec_unit.l0, w64 (by omega) (by omega), if_pos h1, if_pos (by omega), if_pos (by omega), hexDigit_eq k hk]
 cases hh : hv (bt s x7) with
 | none => simp
 | some v =>
  have := hv_range hh
  simp only [Option.bind_some, if_true]
  rw [w64 (i := x6 * 16) (by omega) (by omega), w64 (i := x6 * 16 + v) (by omega) (by omega), w64 (i := x7 + 1) (by omega) (by omega)]
theorem unit_eq (k : Nat) (hk : 12 ≤ k) (s : ByteArray) (i : Int) (hi : 0 ≤ i) (hsz : s.size ≤ 140737488355328) (hi2 : i ≤ s.size) :
  spec_unit.f k s i = some (match U s i with | some v => (v, true) | none => (0, false)) := by
 obtain ⟨j, rfl⟩ : ∃ j, k = j + 12 := ⟨k - 12, by omega⟩
 unfold spec_unit.f
 rw [w64i (i := (s.size : Int) - i) (by omega) (by omega)]
 by_cases c1 : (s.size : Int) - i < 6
 ·rw [if_pos c1, spec_unit.j0, if_pos rfl]
  unfold U
  rw [if_neg (by omega)]
 ·rw [if_neg c1, if_pos hi, if_pos (by omega)]
  unfold U
  by_cases c2 : bt s i = 92
  ·rw [if_pos c2, w64 (i := i + 1) (by omega) (by omega), if_pos (by omega), if_pos (by omega), spec_unit.j0]
   by_cases c3 : bt s (i + 1) = 117
   ·rw [if_neg (by simpa using c3), if_pos ⟨by omega, c2, c3⟩, w64 (i := i + 2) (by omega) (by omega),
     unit_loop_step (j + 10) (by omega) s i 0 (i + 2) hi (by omega) hsz (by omega) (by omega) (by omega) (by omega)]
    cases e1 : hv (bt s (i + 2)) with
    | none => simp [h4]
    | some a =>
     have r1 := hv_range e1
     simp only []
     rw [unit_loop_step (j + 9) (by omega) s i _ _ hi (by omega) hsz (by omega) (by omega) (by omega) (by omega), show i + 2 + 1 = i + 3 by omega]
     cases e2 : hv (bt s (i + 3)) with
     | none => simp [h4]
     | some b =>
      have r2 := hv_range e2
      simp only []
      rw [unit_loop_step (j + 8) (by omega) s i _ _ hi (by omega) hsz (by omega) (by omega) (by omega) (by omega), show i + 3 + 1 = i + 4 by omega]
      cases e3 : hv (bt s (i + 4)) with
      | none => simp [h4]
      | some c =>
       have r3 := hv_range e3
       simp only []
       rw [unit_loop_step (j + 7) (by omega) s i _ _ hi (by omega) hsz (by omega) (by omega) (by omega) (by omega), show i + 4 + 1 = i + 5 by omega]
       cases e4 : hv (bt s (i + 5)) with
       | none => simp [h4]
       | some d =>
        have r4 := hv_range e4
        simp only []
        rw [unit_loop_end (j + 6) s i _ _ (by rw [w64 (by omega) (by omega)]; omega)]
        simp only [h4, Option.bind_some, Option.some.injEq, Prod.mk.injEq, and_true]
        omega
   ·rw [if_pos (by simpa using c3), if_neg (by omega)]
  ·rw [if_neg c2, spec_unit.j0, if_pos rfl, if_neg (by omega)]
end Go.Proofs.YtcfhnfjkiljigaaDoor.UnescXFnJpGetUnsafe
end
section
namespace Go.Proofs.YtcfhnfjkiljigaaDoor.UnescXFnJpGetUnsafe
open Go.RowKit Go.Proofs.YtcfhnfjkiljigaaDoor.Base Go.Proofs.YtcfhnfjkiljigaaDoor.XFnJpGetUnsafe Go.Proofs.YtcfhnfjkiljigaaDoorW.PrintWords Go.Proofs.YtcfhnfjkiljigaaDoorW.PrintLast
set_option linter.unusedVariables false
def Simple (c : Int) : Prop := c = 34 ∨ c = 92 ∨ c = 47 ∨ c = 98 ∨ c = 102 ∨ c = 110 ∨ c = 114 ∨ c = 116
instance (c : Int) : Decidable (Simple c) := by unfold Simple; infer_instance
def short (c : Int) : Int := if c = 98 then 8 else if c = 102 then 12 else if c = 110 then 10 else if c = 114 then 13 else if c = 116 then 9 else c
def High (v : Int) : Prop := 55296 ≤ v ∧ v ≤ 56319
def Low (v : Int) : Prop := 56320 ≤ v ∧ v ≤ 57343
instance (c : Int) : Decidable (High c) := by unfold High; infer_instance
instance (c : Int) : Decidable (Low c) := by unfold Low; infer_instance
def pair (v w : Int) : Int := 65536 + (v - 55296) * 1024 + (w - 56320)
theorem pair_range {v w : Int} (h : High v) (g : Low w) : 65536 ≤ pair v w ∧ pair v w ≤ 1114111 := by unfold High at h; unfold Low at g; unfold pair; omega
theorem high_eq (v : Int) : spec_high.f v = some (decide (High v)) := by
 unfold spec_high.f High
 split <;> simp [*]
theorem low_eq (v : Int) : spec_low.f v = some (decide (Low v)) := by
 unfold spec_low.f Low
 split <;> simp [*]
theorem short_eq (v : Int) : spec_short.f v = some (short v) := by
 unfold spec_short.f short
 repeat' split
 all_goals rfl
theorem bt_out (s : ByteArray) (i : Int) (h : s.size ≤ i) : bt s i = 0 := by
 rw [← rd_bytesOf]
 exact rd_out _ _ (by rw [bytesOf_length]; omega)
theorem hv_zero : hv 0 = none := by decide
theorem U_h4 {s : ByteArray} {i : Int} (h0 : 0 ≤ i) (h1 : bt s i = 92) (h2 : bt s (i + 1) = 117) : U s i = h4 (hv (bt s (i + 2))) (hv (bt s (i + 3))) (hv (bt s (i + 4))) (hv (bt s (i + 5))) := by
 unfold U
 by_cases c : i + 6 ≤ s.size
 ·rw [if_pos ⟨c, h1, h2⟩]
 ·rw [if_neg (by omega), bt_out s (i + 5) (by omega), hv_zero]
  unfold h4
  cases hv (bt s (i + 2)) <;> cases hv (bt s (i + 3)) <;> cases hv (bt s (i + 4)) <;> rfl
theorem here_eq (s : ByteArray) (p : Int) (h : 0 ≤ p) : spec_reader_here.f s p = some (bt s p, s, p) := by
 unfold spec_reader_here.f
 by_cases c : p < s.size
 ·rw [if_pos c, if_pos h]
 ·rw [if_neg c, bt_out s p (by omega)]
theorem loop_step (k : Nat) (hk : 2 ≤ k) (s : ByteArray) (n p : Int) (h0 : 0 ≤ p) (h1 : p ≤ 140737488400000) (hn0 : 0 ≤ n) (hn : n < 4) :
  spec_reader_escape.l0 (k + 1) n s p = if (hv (bt s p)).isSome then spec_reader_escape.l0 k (n + 1) s (p + 1) else some (false, s, p) := by
 rw [spec_reader_escape.l0, if_pos hn, here_eq s p h0]
 simp only [Option.bind_some]
 rw [hexDigit_eq k hk]
 cases hv (bt s p) with
 | none => simp
 | some v =>
  simp only [Option.bind_some, if_true, Option.isSome_some]
  rw [w64 (i := n + 1) (by omega) (by omega), w64 (i := p + 1) (by omega) (by omega)]
end Go.Proofs.YtcfhnfjkiljigaaDoor.UnescXFnJpGetUnsafe
end
section
namespace Go.Proofs.YtcfhnfjkiljigaaDoor.UnescXFnJpGetUnsafe
open Go.RowKit Go.Proofs.YtcfhnfjkiljigaaDoor.Base Go.Proofs.YtcfhnfjkiljigaaDoor.XFnJpGetUnsafe Go.Proofs.YtcfhnfjkiljigaaDoorW.PrintWords Go.Proofs.YtcfhnfjkiljigaaDoorW.PrintLast
set_option linter.unusedVariables false
/-- What the text stands for from i on; none: an escape is wrong. -/
def dec (s : ByteArray) : Nat → Int → Option (List Int)
 | 0, _ => some []
 | m + 1, i =>
  if i < s.size then
   if bt s i = 92 then
    match U s i with
    | some v =>
     match U s (i + 6) with
     | some v2 => if High v ∧ Low v2 then (dec s m (i + 12)).map (Lib.encodeRuneZ (pair v v2) ++ ·) else (dec s m (i + 6)).map (Lib.encodeRuneZ v ++ ·)
     | none => (dec s m (i + 6)).map (Lib.encodeRuneZ v ++ ·)
    | none => if Simple (bt s (i + 1)) then (dec s m (i + 2)).map ([short (bt s (i + 1))] ++ ·) else none
   else (dec s m (i + 1)).map ([bt s i] ++ ·)
  else some []
theorem appendUTF8_eq (k : Nat) (hk : 1 ≤ k) (acc : List Int) (v : Int) (h0 : 0 ≤ v) (h1 : v ≤ 1114111) (hl : acc.length ≤ 140737488355000) : spec_appendUTF8.f k acc v = some (acc ++ Lib.encodeRuneZ v) := by
 obtain ⟨j, rfl⟩ : ∃ j, k = j + 1 := ⟨k - 1, by omega⟩
 unfold spec_appendUTF8.f Lib.encodeRuneZ
 have td : ∀ d : Int, 0 < d → Int.tdiv v d = v / d := fun d hd => Int.tdiv_eq_ediv_of_nonneg h0
 have tm : ∀ a d : Int, 0 ≤ a → Int.tmod a d = a % d := fun a d ha => Int.tmod_eq_emod_of_nonneg ha
 by_cases c1 : v < 128
 ·rw [if_pos c1, if_pos (by omega), if_pos (by omega), show v % 256 = v by omega]
 ·rw [if_neg c1, if_neg (show ¬ (0 ≤ v ∧ v ≤ 127) by omega)]
  by_cases c2 : v < 2048
  ·rw [if_pos c2, if_pos (show 128 ≤ v ∧ v ≤ 2047 by omega), td 64 (by omega), tm v 64 h0]
   simp only [Option.bind_some, List.length_cons, List.length_nil]
   rw [if_pos (by omega), w64 (i := v / 64) (by omega) (by omega), w64 (i := 192 + v / 64) (by omega) (by omega), w64 (i := 128 + v % 64) (by omega) (by omega)]
   rw [show (192 + v / 64) % 256 = 192 + v / 64 by omega, show (128 + v % 64) % 256 = 128 + v % 64 by omega]
  ·rw [if_neg c2, if_neg (show ¬ (128 ≤ v ∧ v ≤ 2047) by omega), high_eq]
   simp only [Option.bind_some, low_eq]
   by_cases c3 : High v
   ·have c3' := c3
    unfold High at c3'
    simp only [c3, decide_true, if_true, spec_appendUTF8.j0, Option.bind_some, List.length_cons, List.length_nil]
    rw [if_pos (by omega), if_neg (by omega), if_neg (by omega)]
   ·have c3' := c3
    unfold High at c3'
    simp only [c3, decide_false, Bool.false_eq_true, if_false, spec_appendUTF8.j0]
    by_cases c4 : Low v
    ·have c4' := c4
     unfold Low at c4'
     simp only [c4, decide_true, if_true, Option.bind_some, List.length_cons, List.length_nil]
     rw [if_pos (by omega), if_neg (by omega), if_neg (by omega)]
    ·have c4' := c4
     unfold Low at c4'
     simp only [c4, decide_false, Bool.false_eq_true, if_false]
     by_cases c5 : v < 65536
     ·rw [if_pos c5, if_pos (show (2048 ≤ v ∧ v < 55296) ∨ (57343 < v ∧ v ≤ 65535) by omega), td 4096 (by omega), td 64 (by omega), w64 (i := v / 64) (by omega) (by omega), tm (v / 64) 64 (by omega), tm v 64 h0]
      simp only [Option.bind_some, List.length_cons, List.length_nil]
      rw [if_pos (by omega), w64 (i := v / 4096) (by omega) (by omega), w64 (i := 224 + v / 4096) (by omega) (by omega), w64 (i := 128 + v / 64 % 64) (by omega) (by omega), w64 (i := 128 + v % 64) (by omega) (by omega)]
      rw [show (224 + v / 4096) % 256 = 224 + v / 4096 by omega, show (128 + v / 64 % 64) % 256 = 128 + v / 64 % 64 by omega, show (128 + v % 64) % 256 = 128 + v % 64 by omega]
     ·rw [if_neg c5, if_neg (show ¬ ((2048 ≤ v ∧ v < 55296) ∨ (57343 < v ∧ v ≤ 65535)) by omega), if_pos (show 65536 ≤ v ∧ v ≤ 1114111 by omega), td 262144 (by omega), td 4096 (by omega), td 64 (by omega), w64 (i := v / 64) (by omega) (by omega), w64 (i := v / 4096) (by omega) (by omega), tm (v / 64) 64 (by omega), tm (v / 4096) 64 (by omega), tm v 64 h0]
      simp only [Option.bind_some, List.length_cons, List.length_nil]
      rw [if_pos (by omega), w64 (i := v / 262144) (by omega) (by omega), w64 (i := 240 + v / 262144) (by omega) (by omega), w64 (i := 128 + v / 4096 % 64) (by omega) (by omega), w64 (i := 128 + v / 64 % 64) (by omega) (by omega), w64 (i := 128 + v % 64) (by omega) (by omega)]
      rw [show (240 + v / 262144) % 256 = 240 + v / 262144 by omega, show (128 + v / 4096 % 64) % 256 = 128 + v / 4096 % 64 by omega, show (128 + v / 64 % 64) % 256 = 128 + v / 64 % 64 by omega, show (128 + v % 64) % 256 = 128 + v % 64 by omega]
theorem rune_le (r : Int) : (Lib.encodeRuneZ r).length ≤ 4 := by
 unfold Lib.encodeRuneZ
 repeat' split
 all_goals simp
theorem q_plain (k : Nat) (acc : List Int) (s : ByteArray) (i : Int) (hs : s.size ≤ 140737488350000) (ha : acc.length ≤ 140737488355000) (h0 : 0 ≤ i) (h1 : i < s.size) (h : bt s i ≠ 92) :
  spec_Unquote.l0 (k + 1) acc s i = spec_Unquote.l0 k (acc ++ [bt s i]) s (i + 1) := by
 rw [spec_Unquote.l0, if_pos h1, if_pos h0, if_neg h, if_pos (by omega), w64 (by omega) (by omega)]
theorem q_end (k : Nat) (acc : List Int) (s : ByteArray) (i : Int) (h : s.size ≤ i) : spec_Unquote.l0 (k + 1) acc s i = some (strOfNums acc) := by
 rw [spec_Unquote.l0, if_neg (by omega)]
theorem q_simple (k : Nat) (hk : 12 ≤ k) (acc : List Int) (s : ByteArray) (i : Int) (hs : s.size ≤ 140737488350000) (ha : acc.length ≤ 140737488355000) (h0 : 0 ≤ i) (h1 : i + 1 < s.size) (h : bt s i = 92) (hU : U s i = none) :
  spec_Unquote.l0 (k + 1) acc s i = spec_Unquote.l0 k (acc ++ [short (bt s (i + 1))]) s (i + 2) := by
 rw [spec_Unquote.l0, if_pos (by omega), if_pos h0, if_pos h, unit_eq k hk s i h0 (by omega) (by omega), hU]
 simp only [Option.bind_some, Bool.false_eq_true, if_false]
 rw [w64 (i := i + 1) (by omega) (by omega), if_pos (by omega), if_pos (by omega), short_eq, w64 (i := i + 2) (by omega) (by omega)]
 simp only [Option.bind_some]
 rw [if_pos (by omega)]
theorem q_pair (k : Nat) (hk : 12 ≤ k) (acc : List Int) (s : ByteArray) (i v w : Int) (hs : s.size ≤ 140737488350000) (ha : acc.length ≤ 140737488354000) (h0 : 0 ≤ i) (hU : U s i = some v) (hU2 : U s (i + 6) = some w) (hh : High v) (hl : Low w) :
  spec_Unquote.l0 (k + 1) acc s i = spec_Unquote.l0 k (acc ++ Lib.encodeRuneZ (pair v w)) s (i + 12) := by
 have h1 := U_at hU
 have h2 := U_at hU2
 have hr := pair_range hh hl
 have hh' := hh
 have hl' := hl
 unfold High at hh'
 unfold Low at hl'
 rw [spec_Unquote.l0, if_pos (by omega), if_pos h0, if_pos h1.2.1, unit_eq k hk s i h0 (by omega) (by omega), hU]
 simp only [Option.bind_some, if_true]
 rw [w64 (i := i + 6) (by omega) (by omega), unit_eq k hk s (i + 6) (by omega) (by omega) (by omega), hU2]
 simp only [Option.bind_some, if_true, high_eq, low_eq, hh, hl, decide_true]
 rw [w64 (i := v - 55296) (by omega) (by omega), w64 (i := (v - 55296) * 1024) (by omega) (by omega), w64 (i := w - 56320) (by omega) (by omega), w64 (i := 65536 + (v - 55296) * 1024) (by omega) (by omega), w64 (i := 65536 + (v - 55296) * 1024 + (w - 56320)) (by omega) (by omega), w64 (i := i + 6 + 6) (by omega) (by omega)]
 have := appendUTF8_eq k (by omega) acc (pair v w) (by omega) (by omega) (by omega)
 unfold pair at this ⊢
 rw [this]
 simp only [Option.bind_some]
 rw [show i + 6 + 6 = i + 12 by omega]
theorem q_unit (k : Nat) (hk : 12 ≤ k) (acc : List Int) (s : ByteArray) (i v : Int) (hs : s.size ≤ 140737488350000) (ha : acc.length ≤ 140737488354000) (h0 : 0 ≤ i) (hU : U s i = some v) (hn : ∀ w, U s (i + 6) = some w → ¬ (High v ∧ Low w)) :
  spec_Unquote.l0 (k + 1) acc s i = spec_Unquote.l0 k (acc ++ Lib.encodeRuneZ v) s (i + 6) := by
 have h1 := U_at hU
 have hr := U_range hU
 have happ := appendUTF8_eq k (by omega) acc v (by omega) (by omega) (by omega)
 rw [spec_Unquote.l0, if_pos (by omega), if_pos h0, if_pos h1.2.1, unit_eq k hk s i h0 (by omega) (by omega), hU]
 simp only [Option.bind_some, if_true]
 rw [w64 (i := i + 6) (by omega) (by omega), unit_eq k hk s (i + 6) (by omega) (by omega) (by omega)]
 cases hU2 : U s (i + 6) with
 | none => simp only [Option.bind_some, Bool.false_eq_true, if_false, happ]
 | some w =>
  have := hn w hU2
  simp only [Option.bind_some, if_true, high_eq, low_eq]
  by_cases c : High v
  ·have d : ¬ Low w := fun d => this ⟨c, d⟩
   simp only [c, d, decide_true, decide_false, if_true, Bool.false_eq_true, if_false, happ, Option.bind_some]
  ·simp only [c, decide_false, Bool.false_eq_true, if_false, happ, Option.bind_some]
theorem unquote_loop (s : ByteArray) (hs : s.size ≤ 140737488350000) : ∀ (m : Nat) (i : Int) (acc xs : List Int), 0 ≤ i → (s.size : Int) - i ≤ m → (acc.length : Int) + (s.size - i) ≤ 140737488353000 → acc.length ≤ 140737488353000 → dec s m i = some xs →
  Ev fun k => spec_Unquote.l0 k acc s i = some (strOfNums (acc ++ xs))
 | 0, i, acc, xs, h0, hm, hl, hl2, h => by
  simp only [dec, Option.some.injEq] at h
  subst h
  exact (Ev.ge 0).succ fun k _ => by rw [q_end k acc s i (by omega), List.append_nil]
 | m + 1, i, acc, xs, h0, hm, hl, hl2, h => by
  rw [dec] at h
  by_cases c1 : i < s.size
  ·rw [if_pos c1] at h
   by_cases c2 : bt s i = 92
   ·rw [if_pos c2] at h
    cases hU : U s i with
    | some v =>
     have ha := U_at hU
     rw [hU] at h
     simp only [] at h
     have hv3 : (Lib.encodeRuneZ v).length ≤ 4 := rune_le v
     cases hU2 : U s (i + 6) with
     | some v2 =>
      have hb := U_at hU2
      rw [hU2] at h
      simp only [] at h
      split at h
      ·rename_i hp
       obtain ⟨ys, hy, rfl⟩ := Option.map_eq_some_iff.mp h
       have hp4 := rune_le (pair v v2)
       have ih := unquote_loop s hs m (i + 12) (acc ++ Lib.encodeRuneZ (pair v v2)) ys (by omega) (by omega) (by rw [List.length_append]; omega) (by rw [List.length_append]; omega) hy
       refine (ih.and (Ev.ge 12)).succ fun k hk => ?_
       rw [q_pair k hk.2 acc s i v v2 hs (by omega) h0 hU hU2 hp.1 hp.2, hk.1, List.append_assoc]
      ·rename_i hp
       obtain ⟨ys, hy, rfl⟩ := Option.map_eq_some_iff.mp h
       have ih := unquote_loop s hs m (i + 6) (acc ++ Lib.encodeRuneZ v) ys (by omega) (by omega) (by rw [List.length_append]; omega) (by rw [List.length_append]; omega) hy
       refine (ih.and (Ev.ge 12)).succ fun k hk => ?_
       rw [q_unit k hk.2 acc s i v hs (by omega) h0 hU (fun w hw => by rw [hU2] at hw; obtain rfl := Option.some.inj hw; exact hp), hk.1, List.append_assoc]
     | none =>
      rw [hU2] at h
      simp only [] at h
      obtain ⟨ys, hy, rfl⟩ := Option.map_eq_some_iff.mp h
      have ih := unquote_loop s hs m (i + 6) (acc ++ Lib.encodeRuneZ v) ys (by omega) (by omega) (by rw [List.length_append]; omega) (by rw [List.length_append]; omega) hy
      refine (ih.and (Ev.ge 12)).succ fun k hk => ?_
      rw [q_unit k hk.2 acc s i v hs (by omega) h0 hU (fun w hw => by rw [hU2] at hw; cases hw), hk.1, List.append_assoc]
    | none =>
     rw [hU] at h
     simp only [] at h
     split at h
     ·rename_i hsim
      have h2 : i + 1 < s.size := by
       refine Int.not_le.mp fun hc => ?_
       rw [bt_out s (i + 1) hc] at hsim
       unfold Simple at hsim
       omega
      obtain ⟨ys, hy, rfl⟩ := Option.map_eq_some_iff.mp h
      have ih := unquote_loop s hs m (i + 2) (acc ++ [short (bt s (i + 1))]) ys (by omega) (by omega) (by simp only [List.length_append, List.length_cons, List.length_nil]; omega) (by simp only [List.length_append, List.length_cons, List.length_nil]; omega) hy
      refine (ih.and (Ev.ge 12)).succ fun k hk => ?_
      rw [q_simple k hk.2 acc s i hs (by omega) h0 h2 c2 hU, hk.1, List.append_assoc]
     ·cases h
   ·rw [if_neg c2] at h
    obtain ⟨ys, hy, rfl⟩ := Option.map_eq_some_iff.mp h
    have ih := unquote_loop s hs m (i + 1) (acc ++ [bt s i]) ys (by omega) (by omega) (by simp only [List.length_append, List.length_cons, List.length_nil]; omega) (by simp only [List.length_append, List.length_cons, List.length_nil]; omega) hy
    refine ih.succ fun k hk => ?_
    rw [q_plain k acc s i hs (by omega) h0 c1 c2, hk, List.append_assoc]
  ·rw [if_neg c1] at h
   simp only [Option.some.injEq] at h
   subst h
   exact (Ev.ge 0).succ fun k _ => by rw [q_end k acc s i (by omega), List.append_nil]
theorem quoted_inner (s : ByteArray) : (((⟨#[34]⟩ : ByteArray) ++ s) ++ (⟨#[34]⟩ : ByteArray)).extract 1 (s.size + 1) = s := by
 have h1 : ((⟨#[34]⟩ : ByteArray)).size = 1 := rfl
 have e1 : (⟨#[34]⟩ : ByteArray).extract 1 (s.size + 1) = ByteArray.empty := ByteArray.ext (by rw [ByteArray.data_extract]; simp)
 have e2 : (⟨#[34]⟩ : ByteArray).extract 0 (s.size + 1 - (1 + s.size)) = ByteArray.empty := ByteArray.ext (by rw [ByteArray.data_extract, show s.size + 1 - (1 + s.size) = 0 by omega]; simp)
 rw [ByteArray.extract_append, ByteArray.extract_append]
 simp [h1, ByteArray.size_append, e1, e2]
/-- What Unquote answers of a text between quotation marks. -/
theorem unquote_eq (s : ByteArray) (hs : s.size ≤ 140737488350000) (xs : List Int) (hd : dec s s.size 0 = some xs) :
  Ev fun k => spec_Unquote.f k (((⟨#[34]⟩ : ByteArray) ++ s) ++ (⟨#[34]⟩ : ByteArray)) = some (strOfNums xs) := by
 have hq := unquote_loop s hs s.size 0 [] xs (by omega) (by omega) (by simp; omega) (by simp) hd
 have hsz : (((⟨#[34]⟩ : ByteArray) ++ s) ++ (⟨#[34]⟩ : ByteArray)).size = s.size + 2 := by
  rw [ByteArray.size_append, ByteArray.size_append]
  show 1 + s.size + 1 = _
  omega
 refine hq.mp fun k hk => ?_
 unfold spec_Unquote.f
 rw [hsz, w64 (i := ((s.size + 2 : Nat) : Int) - 1) (by omega) (by omega), if_pos (by omega), if_pos (by omega), show (((s.size + 2 : Nat) : Int) - 1).toNat = s.size + 1 by omega, quoted_inner, hk]
 simp
end Go.Proofs.YtcfhnfjkiljigaaDoor.UnescXFnJpGetUnsafe
end
section
namespace Go.Proofs.YtcfhnfjkiljigaaDoor.ReadXFnJpGetUnsafe
open Go.RowKit Go.Proofs.YtcfhnfjkiljigaaDoor.Base Go.Proofs.YtcfhnfjkiljigaaDoor.XFnJpGetUnsafe Go.Proofs.YtcfhnfjkiljigaaDoorW.PrintWords Go.Proofs.YtcfhnfjkiljigaaDoorW.PrintLast
set_option linter.unusedVariables false
set_option linter.unusedSimpArgs false
/-- For all k from some number on. -/
def Ev (P : Nat → Prop) : Prop := ∃ K, ∀ k, K ≤ k → P k
theorem Ev.and {P Q : Nat → Prop} (h : Ev P) (g : Ev Q) : Ev fun k => P k ∧ Q k := by
 obtain ⟨a, h⟩ := h; obtain ⟨b, g⟩ := g
 exact ⟨max a b, fun k hk => ⟨h k (by omega), g k (by omega)⟩⟩
theorem Ev.mp {P Q : Nat → Prop} (h : Ev P) (g : ∀ k, P k → Q k) : Ev Q := by
 obtain ⟨a, h⟩ := h; exact ⟨a, fun k hk => g k (h k hk)⟩
theorem Ev.all {P : Nat → Prop} (h : ∀ k, P k) : Ev P := ⟨0, fun k _ => h k⟩
theorem Ev.succ {P Q : Nat → Prop} (h : Ev P) (g : ∀ k, P k → Q (k + 1)) : Ev Q := by
 obtain ⟨a, h⟩ := h
 refine ⟨a + 1, fun k hk => ?_⟩
 obtain ⟨j, rfl⟩ : ∃ j, k = j + 1 := ⟨k - 1, by omega⟩
 exact g j (h j (by omega))
theorem Ev.ge (K : Nat) : Ev fun k => K ≤ k := ⟨K, fun k hk => hk⟩
def hv (c : Int) : Option Int := if 48 ≤ c ∧ c ≤ 57 then some (c - 48) else if 97 ≤ c ∧ c ≤ 102 then some (c - 87) else if 65 ≤ c ∧ c ≤ 70 then some (c - 55) else none
theorem hexDigit_eq (k : Nat) (hk : 2 ≤ k) (c : Int) : spec_hexDigit.f k c = some (match hv c with | some v => (v, true) | none => (0, false)) := by
 obtain ⟨j, rfl⟩ : ∃ j, k = j + 2 := ⟨k - 2, by omega⟩
 by_cases a1 : 48 ≤ c <;> by_cases a2 : c ≤ 57 <;> by_cases a3 : 97 ≤ c <;> by_cases a4 : c ≤ 102 <;> by_cases a5 : 65 ≤ c <;> by_cases a6 : c ≤ 70 <;>
  first
   | omega
   | (simp [spec_hexDigit.f, spec_hexDigit.j0, spec_hexDigit.j1, hv, a1, a2, a3, a4, a5, a6]; done)
   | (simp [spec_hexDigit.f, spec_hexDigit.j0, spec_hexDigit.j1, hv, a1, a2, a3, a4, a5, a6]; omega)
def h4 (a b c d : Option Int) : Option Int := a.bind fun a => b.bind fun b => c.bind fun c => d.bind fun d => some (a * 4096 + b * 256 + c * 16 + d)
def Simple (c : Int) : Prop := c = 34 ∨ c = 92 ∨ c = 47 ∨ c = 98 ∨ c = 102 ∨ c = 110 ∨ c = 114 ∨ c = 116
theorem bt_out (s : ByteArray) (i : Int) (h : s.size ≤ i) : bt s i = 0 := by
 rw [← rd_bytesOf]
 exact rd_out _ _ (by rw [bytesOf_length]; omega)
theorem hv_zero : hv 0 = none := by decide
theorem here_eq (s : ByteArray) (p : Int) (h : 0 ≤ p) : spec_reader_here.f s p = some (bt s p, s, p) := by
 unfold spec_reader_here.f
 by_cases c : p < s.size
 ·rw [if_pos c, if_pos h]
 ·rw [if_neg c, bt_out s p (by omega)]
theorem escape_simple (k : Nat) (hk : 1 ≤ k) (s : ByteArray) (p : Int) (h0 : 0 ≤ p) (h1 : p ≤ 140737488355328) (h : Simple (bt s p)) : spec_reader_escape.f k s p = some (true, s, p + 1) := by
 obtain ⟨j, rfl⟩ : ∃ j, k = j + 1 := ⟨k - 1, by omega⟩
 unfold spec_reader_escape.f
 rw [here_eq s p h0]
 simp only [Option.bind_some, spec_reader_escape.j0]
 rw [w64 (by omega) (by omega)]
 unfold Simple at h
 rcases h with h | h | h | h | h | h | h | h <;> simp [h]
theorem loop_step (k : Nat) (hk : 2 ≤ k) (s : ByteArray) (n p : Int) (h0 : 0 ≤ p) (h1 : p ≤ 140737488400000) (hn0 : 0 ≤ n) (hn : n < 4) :
  spec_reader_escape.l0 (k + 1) n s p = if (hv (bt s p)).isSome then spec_reader_escape.l0 k (n + 1) s (p + 1) else some (false, s, p) := by
 rw [spec_reader_escape.l0, if_pos hn, here_eq s p h0]
 simp only [Option.bind_some]
 rw [hexDigit_eq k hk]
 cases hv (bt s p) with
 | none => simp
 | some v =>
  simp only [Option.bind_some, if_true, Option.isSome_some]
  rw [w64 (i := n + 1) (by omega) (by omega), w64 (i := p + 1) (by omega) (by omega)]
theorem escape_u (k : Nat) (hk : 12 ≤ k) (s : ByteArray) (p : Int) (h0 : 0 ≤ p) (h1 : p ≤ 140737488355328) (h : bt s p = 117) :
  ∃ q, spec_reader_escape.f k s p = some (if (h4 (hv (bt s (p + 1))) (hv (bt s (p + 2))) (hv (bt s (p + 3))) (hv (bt s (p + 4)))).isSome then (true, s, p + 5) else (false, s, q)) := by
 obtain ⟨j, rfl⟩ : ∃ j, k = j + 12 := ⟨k - 12, by omega⟩
 have hf : spec_reader_escape.f (j + 12) s p = spec_reader_escape.l0 (j + 11) 0 s (p + 1) := by
  unfold spec_reader_escape.f
  rw [here_eq s p h0]
  simp only [Option.bind_some, spec_reader_escape.j0]
  rw [w64 (i := p + 1) (by omega) (by omega)]
  simp [h]
 rw [hf, loop_step (j + 10) (by omega) s 0 (p + 1) (by omega) (by omega) (by omega) (by omega)]
 unfold h4
 cases e1 : hv (bt s (p + 1)) with
 | none => exact ⟨_, rfl⟩
 | some a =>
  simp only [Option.isSome_some, if_true, Option.bind_some]
  rw [loop_step (j + 9) (by omega) s _ _ (by omega) (by omega) (by omega) (by omega), show p + 1 + 1 = p + 2 by omega]
  cases e2 : hv (bt s (p + 2)) with
  | none => exact ⟨_, rfl⟩
  | some a =>
   simp only [Option.isSome_some, if_true, Option.bind_some]
   rw [loop_step (j + 8) (by omega) s _ _ (by omega) (by omega) (by omega) (by omega), show p + 2 + 1 = p + 3 by omega]
   cases e3 : hv (bt s (p + 3)) with
   | none => exact ⟨_, rfl⟩
   | some a =>
    simp only [Option.isSome_some, if_true, Option.bind_some]
    rw [loop_step (j + 7) (by omega) s _ _ (by omega) (by omega) (by omega) (by omega), show p + 3 + 1 = p + 4 by omega]
    cases e4 : hv (bt s (p + 4)) with
    | none => exact ⟨_, rfl⟩
    | some a =>
     refine ⟨0, ?_⟩
     simp only [Option.isSome_some, if_true, Option.bind_some]
     rw [spec_reader_escape.l0, if_neg (by omega), show p + 4 + 1 = p + 5 by omega]
theorem escape_else (k : Nat) (hk : 1 ≤ k) (s : ByteArray) (p : Int) (h0 : 0 ≤ p) (h1 : p ≤ 140737488355328) (h : ¬ Simple (bt s p)) (hu : bt s p ≠ 117) : spec_reader_escape.f k s p = some (false, s, p) := by
 obtain ⟨j, rfl⟩ : ∃ j, k = j + 1 := ⟨k - 1, by omega⟩
 unfold spec_reader_escape.f
 rw [here_eq s p h0]
 simp only [Option.bind_some, spec_reader_escape.j0]
 unfold Simple at h
 simp only [not_or] at h
 obtain ⟨n1, n2, n3, n4, n5, n6, n7, n8⟩ := h
 simp [n1, n2, n3, n4, n5, n6, n7, n8, hu]
end Go.Proofs.YtcfhnfjkiljigaaDoor.ReadXFnJpGetUnsafe
end
section
namespace Go.Proofs.YtcfhnfjkiljigaaDoor.ReadXFnJpGetUnsafe
open Go.RowKit Go.Proofs.YtcfhnfjkiljigaaDoor.Base Go.Proofs.YtcfhnfjkiljigaaDoor.XFnJpGetUnsafe Go.Proofs.YtcfhnfjkiljigaaDoorW.PrintWords Go.Proofs.YtcfhnfjkiljigaaDoorW.PrintLast
set_option linter.unusedVariables false
set_option linter.unusedSimpArgs false
/-- It answers, from some number of steps on always the same, and of the answer Q. -/
def Tot {α : Type} (f : Nat → Option α) (Q : α → Prop) : Prop := ∃ r, (Ev fun k => f k = some r) ∧ Q r
theorem Tot.bind {α β : Type} {f : Nat → Option α} {g : Nat → α → Option β} {Q : α → Prop} {R : β → Prop} (h : Tot f Q) (hg : ∀ r, Q r → Tot (fun k => g k r) R) : Tot (fun k => (f k).bind (g k)) R := by
 obtain ⟨r, hr, hq⟩ := h
 obtain ⟨t, ht, hR⟩ := hg r hq
 exact ⟨t, (hr.and ht).mp fun k hk => by show (f k).bind (g k) = some t; rw [hk.1]; exact hk.2, hR⟩
theorem Tot.succ {α : Type} {f g : Nat → Option α} {Q : α → Prop} (h : ∀ k, f (k + 1) = g k) (hg : Tot g Q) : Tot f Q := by
 obtain ⟨r, hr, hq⟩ := hg
 exact ⟨r, hr.succ fun k hk => (h k).trans hk, hq⟩
theorem Tot.ret {α : Type} {Q : α → Prop} {r : α} (h : Q r) : Tot (fun _ => some r) Q := ⟨r, Ev.all fun _ => rfl, h⟩
theorem Tot.eq {α : Type} {f : Nat → Option α} {Q : α → Prop} {r : α} (hf : ∀ k, f k = some r) (h : Q r) : Tot f Q := ⟨r, Ev.all hf, h⟩
theorem Tot.ite {α : Type} {c : Prop} [Decidable c] {f g : Nat → Option α} {Q : α → Prop} (h : c → Tot f Q) (g' : ¬ c → Tot g Q) : Tot (fun k => if c then f k else g k) Q := by
 by_cases hc : c
 ·obtain ⟨r, hr, hq⟩ := h hc
  exact ⟨r, hr.mp fun k hk => by show (if c then f k else g k) = some r; rw [if_pos hc]; exact hk, hq⟩
 ·obtain ⟨r, hr, hq⟩ := g' hc
  exact ⟨r, hr.mp fun k hk => by show (if c then f k else g k) = some r; rw [if_neg hc]; exact hk, hq⟩
theorem Tot.mono {α : Type} {f : Nat → Option α} {Q R : α → Prop} (h : Tot f Q) (g : ∀ r, Q r → R r) : Tot f R := by
 obtain ⟨r, hr, hq⟩ := h
 exact ⟨r, hr, g r hq⟩
theorem tot_lift {α : Type} {f : Nat → Option α} (hm : ∀ k, LeO (f k) (f (k + 1))) {k : Nat} {r : α} (h : f k = some r) : ∀ j, f (k + j) = some r
 | 0 => h
 | j + 1 => hm (k + j) r (tot_lift hm h j)
variable {s : ByteArray}
theorem here_tot (hs : s.size ≤ 1000000) (p : Int) (h0 : 0 ≤ p) : Tot (fun _ => spec_reader_here.f s p) (fun r => r = (bt s p, s, p)) := Tot.eq (fun _ => here_eq s p h0) rfl
theorem bt_digit {p : Int} (h : 48 ≤ bt s p) : p < s.size := by
 refine Int.not_le.mp fun hc => ?_
 rw [bt_out s p hc] at h
 omega
end Go.Proofs.YtcfhnfjkiljigaaDoor.ReadXFnJpGetUnsafe
end
section
namespace Go.Proofs.YtcfhnfjkiljigaaDoor.Fj
open Go.RowKit Go.Proofs.YtcfhnfjkiljigaaDoorW.PrintWords Go.Proofs.YtcfhnfjkiljigaaDoorW.PrintLast
set_option linter.unusedVariables false
set_option linter.unusedSimpArgs false
end Go.Proofs.YtcfhnfjkiljigaaDoor.Fj
end
section

end
section
namespace Go.Proofs.YtcfhnfjkiljigaaDoor.ReadXFnJpGetUnsafe
open Go.RowKit Go.Proofs.YtcfhnfjkiljigaaDoor.Base Go.Proofs.YtcfhnfjkiljigaaDoor.XFnJpGetUnsafe Go.Proofs.YtcfhnfjkiljigaaDoorW.PrintWords Go.Proofs.YtcfhnfjkiljigaaDoorW.PrintLast
set_option linter.unusedVariables false
set_option linter.unusedSimpArgs false
variable {s : ByteArray}
/-- The bytes of s from p on. -/
abbrev D (s : ByteArray) (p : Nat) : List Int := (bytesOf s).drop p
theorem rd_D (p j : Nat) : rd (D s p) (j : Int) = bt s ((p + j : Nat) : Int) := by
 rw [← rd_bytesOf]
 unfold rd
 simp only [Int.toNat_natCast, List.getD_eq_getElem?_getD, List.getElem?_drop]
theorem D_cons (p : Nat) (h : p < s.size) : D s p = bt s (p : Int) :: D s (p + 1) := by
 have hl : p < (bytesOf s).length := by rw [bytesOf_length]; exact h
 have e : (bytesOf s)[p]'hl = bt s (p : Int) := by
  rw [← rd_bytesOf]
  unfold rd
  simp only [Int.toNat_natCast, List.getD_eq_getElem?_getD]
  rw [List.getElem?_eq_getElem hl]
  rfl
 rw [← e]
 exact List.drop_eq_getElem_cons hl
theorem D_nil (p : Nat) (h : s.size ≤ p) : D s p = [] := List.drop_of_length_le (by rw [bytesOf_length]; exact h)
theorem D_len (p : Nat) : (D s p).length = s.size - p := by rw [List.length_drop, bytesOf_length]
theorem blank_eq (c : Int) : spec_Blank.f c = some (Fj.blank c) := by
 unfold spec_Blank.f Fj.blank
 by_cases a : c = 32
 ·subst a; rfl
 ·by_cases b : c = 9
  ·subst b; rfl
  ·by_cases d : c = 10
   ·subst d; rfl
   ·by_cases e : c = 13
    ·subst e; rfl
    ·have a' := beq_eq_false_iff_ne.mpr a
     have b' := beq_eq_false_iff_ne.mpr b
     have d' := beq_eq_false_iff_ne.mpr d
     have e' := beq_eq_false_iff_ne.mpr e
     simp [a, b, d, e, a', b', d', e']
theorem ws_at (p : Nat) : Fj.ws (D s p) = if p < s.size ∧ Fj.blank (bt s (p : Int)) = true then Fj.ws (D s (p + 1)) + 1 else 0 := by
 by_cases h : p < s.size
 ·rw [D_cons p h, Fj.ws]
  by_cases b : Fj.blank (bt s (p : Int)) = true
  ·rw [if_pos b, if_pos ⟨h, b⟩]
  ·rw [if_neg b, if_neg (fun x => b x.2)]
 ·rw [D_nil p (by omega), if_neg (fun x => h x.1)]; rfl
theorem blanks_ex (hs : s.size ≤ 1000000) : ∀ (m p : Nat), p ≤ s.size → s.size - p ≤ m → Tot (fun k => spec_reader_blanks.l0 k s (p : Int)) (fun r => r = (s, ((p + Fj.ws (D s p) : Nat) : Int)))
 | m, p, h1, hm => by
  by_cases c : p < s.size
  ·cases m with
   | zero => omega
   | succ m =>
    refine Tot.succ (fun k => by rw [spec_reader_blanks.l0, if_pos (by omega), if_pos (by omega)]) ?_
    refine Tot.bind (f := fun _ => spec_Blank.f (bt s (p : Int))) (Q := fun b => b = Fj.blank (bt s (p : Int))) (Tot.eq (fun _ => blank_eq _) rfl) fun b hb => ?_
    subst hb
    refine Tot.ite (fun hb => ?_) (fun hb => Tot.ret ?_)
    ·rw [w64 (by omega) (by omega)]
     refine (blanks_ex hs m (p + 1) (by omega) (by omega)).mono fun r h => ?_
     rw [h, ws_at p, if_pos ⟨c, hb⟩]
     congr 2
     omega
    ·rw [ws_at p, if_neg (fun x => hb x.2)]; rfl
  ·exact Tot.succ (fun k => by rw [spec_reader_blanks.l0, if_neg (by omega)]) (Tot.ret (by rw [ws_at p, if_neg (fun x => c x.1)]; rfl))
theorem blanks_is (hs : s.size ≤ 1000000) (p : Nat) (h1 : p ≤ s.size) : Tot (fun k => spec_reader_blanks.f k s (p : Int)) (fun r => r = (s, ((p + Fj.ws (D s p) : Nat) : Int))) := by
 unfold spec_reader_blanks.f
 exact blanks_ex hs s.size p h1 (by omega)
theorem digs_at (p : Nat) : Fj.digs (D s p) = if 48 ≤ bt s (p : Int) ∧ bt s (p : Int) ≤ 57 then Fj.digs (D s (p + 1)) + 1 else 0 := by
 by_cases h : p < s.size
 ·rw [D_cons p h, Fj.digs]
 ·rw [D_nil p (by omega), bt_out s p (by omega), if_neg (by omega)]; rfl
theorem digits_ex (hs : s.size ≤ 1000000) : ∀ (m p : Nat) (q : Int), p ≤ s.size → s.size - p ≤ m → Tot (fun k => spec_reader_digits.l0 k q (bt s (p : Int)) s (p : Int)) (fun r => r = (decide (((p + Fj.digs (D s p) : Nat) : Int) > q), s, ((p + Fj.digs (D s p) : Nat) : Int)))
 | m, p, q, h1, hm => by
  by_cases c : 48 ≤ bt s (p : Int) ∧ bt s (p : Int) ≤ 57
  ·have hp := bt_digit c.1
   cases m with
   | zero => omega
   | succ m =>
    refine Tot.succ (fun k => by rw [spec_reader_digits.l0, if_pos c.1, if_pos c.2, w64 (i := (p : Int) + 1) (by omega) (by omega)]) ?_
    refine Tot.bind (here_tot hs ((p : Int) + 1) (by omega)) fun r hr => ?_
    subst hr
    refine (digits_ex hs m (p + 1) q (by omega) (by omega)).mono fun r h => ?_
    rw [h, digs_at p, if_pos c]
    have e : p + 1 + Fj.digs (D s (p + 1)) = p + (Fj.digs (D s (p + 1)) + 1) := by omega
    rw [e]
  ·have e : p + Fj.digs (D s p) = p := by rw [digs_at p, if_neg c]; rfl
   have fin : Tot (fun _ => some (decide ((p : Int) > q), s, (p : Int))) (fun r => r = (decide (((p + Fj.digs (D s p) : Nat) : Int) > q), s, ((p + Fj.digs (D s p) : Nat) : Int))) := Tot.ret (by rw [e])
   by_cases c1 : 48 ≤ bt s (p : Int)
   ·exact Tot.succ (fun k => by rw [spec_reader_digits.l0, if_pos c1, if_neg (fun x => c ⟨c1, x⟩)]) fin
   ·exact Tot.succ (fun k => by rw [spec_reader_digits.l0, if_neg c1]) fin
theorem digits_is (hs : s.size ≤ 1000000) (p : Nat) (h1 : p ≤ s.size) : Tot (fun k => spec_reader_digits.f k s (p : Int)) (fun r => r = (decide (Fj.digs (D s p) ≠ 0), s, ((p + Fj.digs (D s p) : Nat) : Int))) := by
 unfold spec_reader_digits.f
 refine Tot.bind (here_tot hs (p : Int) (by omega)) fun r hr => ?_
 subst hr
 refine (digits_ex hs s.size p (p : Int) h1 (by omega)).mono fun r h => ?_
 rw [h]
 congr 1
 exact decide_eq_decide.mpr (by omega)
/-- What a reader answers, exactly. -/
def Ans (s : ByteArray) (o : Option Nat) (r : Bool × ByteArray × Int) : Prop := r.2.1 = s ∧ match o with
 | some e => r.1 = true ∧ r.2.2 = (e : Int) ∧ e ≤ s.size
 | none => r.1 = false
/-- One byte. -/
theorem take_is (hs : s.size ≤ 1000000) (p : Nat) (c : Int) (h1 : p ≤ s.size) (hc : c ≠ 0) : Tot (fun _ => spec_reader_take.f s (p : Int) c) (fun r => r = if bt s (p : Int) = c then (true, s, ((p + 1 : Nat) : Int)) else (false, s, (p : Int))) := by
 unfold spec_reader_take.f
 by_cases c1 : (p : Int) < s.size
 ·by_cases c2 : bt s (p : Int) = c
  ·exact Tot.eq (fun _ => by rw [if_pos c1, if_pos (by omega), if_pos c2, w64 (by omega) (by omega)]) (by rw [if_pos c2]; rfl)
  ·exact Tot.eq (fun _ => by rw [if_pos c1, if_pos (by omega), if_neg c2]) (by rw [if_neg c2])
 ·have hz := bt_out s (p : Int) (by omega)
  exact Tot.eq (fun _ => by rw [if_neg c1]) (by rw [hz, if_neg (Ne.symm hc)])
theorem in_text {p : Nat} {c : Int} (h : bt s (p : Int) = c) (hc : c ≠ 0) : p < s.size := by
 refine Nat.lt_of_not_le fun hle => ?_
 rw [bt_out s (p : Int) (by omega)] at h
 exact hc h.symm
theorem digs_size (p : Nat) : p ≤ s.size → p + Fj.digs (D s p) ≤ s.size := fun h => by
 have := Fj.digs_le (D s p)
 rw [D_len] at this
 omega
/-- The reference's numbers: behind the letter, behind the fraction, behind the whole part; all at places of the text. -/
def nE (s : ByteArray) (p : Nat) : Option Nat :=
 if bt s (p : Int) = 43 ∨ bt s (p : Int) = 45 then (if Fj.digs (D s (p + 1)) = 0 then none else some (p + 1 + Fj.digs (D s (p + 1)))) else (if Fj.digs (D s p) = 0 then none else some (p + Fj.digs (D s p)))
def nX (s : ByteArray) (p : Nat) : Option Nat := if bt s (p : Int) = 101 ∨ bt s (p : Int) = 69 then nE s (p + 1) else some p
def nF (s : ByteArray) (p : Nat) : Option Nat := if bt s (p : Int) = 46 then (if Fj.digs (D s (p + 1)) = 0 then none else nX s (p + 1 + Fj.digs (D s (p + 1)))) else nX s p
def nW (s : ByteArray) (p : Nat) : Option Nat := if bt s (p : Int) = 48 then nF s (p + 1) else (if Fj.digs (D s p) = 0 then none else nF s (p + Fj.digs (D s p)))
def nN (s : ByteArray) (p : Nat) : Option Nat := if bt s (p : Int) = 45 then nW s (p + 1) else nW s p
theorem digits_ans (hs : s.size ≤ 1000000) (p : Nat) (h1 : p ≤ s.size) : Tot (fun k => spec_reader_digits.f k s (p : Int)) (Ans s (if Fj.digs (D s p) = 0 then none else some (p + Fj.digs (D s p)))) := by
 refine (digits_is hs p h1).mono fun r h => ?_
 subst h
 by_cases c : Fj.digs (D s p) = 0
 ·rw [if_pos c]; exact ⟨rfl, by simp [c]⟩
 ·rw [if_neg c]; exact ⟨rfl, by simp [c], rfl, digs_size p h1⟩
theorem j2_is (hs : s.size ≤ 1000000) (p : Nat) (h1 : p ≤ s.size) : Tot (fun k => spec_reader_number.j2 k true s (p : Int)) (Ans s (nE s p)) := by
 refine Tot.succ (fun k => by rw [spec_reader_number.j2, if_pos rfl]) ?_
 refine Tot.bind (take_is hs p 43 h1 (by decide)) fun r hr => ?_
 subst hr
 unfold nE
 by_cases c1 : bt s (p : Int) = 43
 ·have := in_text c1 (by decide)
  simp only [c1, if_true, true_or]
  refine Tot.bind (digits_ans hs (p + 1) (by omega)) fun r hr => Tot.ret ?_
  exact hr
 ·simp only [c1, if_false, Bool.false_eq_true, false_or]
  refine Tot.bind (take_is hs p 45 h1 (by decide)) fun r hr => ?_
  subst hr
  by_cases c2 : bt s (p : Int) = 45
  ·have := in_text c2 (by decide)
   simp only [c2, if_true]
   refine Tot.bind (digits_ans hs (p + 1) (by omega)) fun r hr => Tot.ret ?_
   exact hr
  ·simp only [c2, if_false]
   refine Tot.bind (digits_ans hs p (by omega)) fun r hr => Tot.ret ?_
   exact hr
theorem j1_is (hs : s.size ≤ 1000000) (p : Nat) (h1 : p ≤ s.size) : Tot (fun k => spec_reader_number.j1 k false s (p : Int)) (Ans s (nX s p)) := by
 refine Tot.succ (fun k => by rw [spec_reader_number.j1, if_neg (by decide)]) ?_
 refine Tot.bind (take_is hs p 101 h1 (by decide)) fun r hr => ?_
 subst hr
 unfold nX
 by_cases c1 : bt s (p : Int) = 101
 ·have := in_text c1 (by decide)
  simp only [c1, if_true, true_or]
  exact j2_is hs (p + 1) (by omega)
 ·simp only [c1, if_false, Bool.false_eq_true, false_or]
  refine Tot.bind (take_is hs p 69 h1 (by decide)) fun r hr => ?_
  subst hr
  by_cases c2 : bt s (p : Int) = 69
  ·have := in_text c2 (by decide)
   simp only [c2, if_true]
   exact j2_is hs (p + 1) (by omega)
  ·simp only [c2, if_false]
   exact Tot.succ (fun k => by rw [spec_reader_number.j2, if_neg (by decide)]) (Tot.ret ⟨rfl, rfl, rfl, h1⟩)
theorem j0_is (hs : s.size ≤ 1000000) (p : Nat) (h1 : p ≤ s.size) : Tot (fun k => spec_reader_number.j0 k false s (p : Int)) (Ans s (nF s p)) := by
 refine Tot.succ (fun k => by rw [spec_reader_number.j0, if_neg (by decide)]) ?_
 refine Tot.bind (take_is hs p 46 h1 (by decide)) fun r hr => ?_
 subst hr
 unfold nF
 by_cases c1 : bt s (p : Int) = 46
 ·have hp := in_text c1 (by decide)
  simp only [c1, if_true]
  refine Tot.bind (digits_is hs (p + 1) (by omega)) fun r hr => ?_
  subst hr
  by_cases c2 : Fj.digs (D s (p + 1)) = 0
  ·simp only [c2, ne_eq, not_true_eq_false, decide_false, Bool.not_false, if_true]
   exact Tot.succ (fun k => by rw [spec_reader_number.j1, if_pos rfl]) (Tot.ret ⟨rfl, rfl⟩)
  ·simp only [c2, ne_eq, not_false_eq_true, decide_true, Bool.not_true, if_false]
   exact j1_is hs (p + 1 + Fj.digs (D s (p + 1))) (digs_size (p + 1) (by omega))
 ·simp only [c1, if_false, Bool.false_eq_true]
  exact j1_is hs p h1
theorem number_is (hs : s.size ≤ 1000000) (p : Nat) (h1 : p ≤ s.size) : Tot (fun k => spec_reader_number.f k s (p : Int)) (Ans s (nN s p)) := by
 unfold spec_reader_number.f nN
 have rest : ∀ q : Nat, q ≤ s.size → Tot (fun k => (spec_reader_take.f s (q : Int) 48).bind fun bt127 => (if bt127.1 = true then (spec_reader_number.j0 k false bt127.2.1 bt127.2.2) else ((spec_reader_digits.f k bt127.2.1 bt127.2.2).bind fun bt130 => (spec_reader_number.j0 k (!bt130.1) bt130.2.1 bt130.2.2)))) (Ans s (nW s q)) := by
  intro q hq
  refine Tot.bind (take_is hs q 48 hq (by decide)) fun r hr => ?_
  subst hr
  unfold nW
  by_cases c1 : bt s (q : Int) = 48
  ·have := in_text c1 (by decide)
   simp only [c1, if_true]
   exact j0_is hs (q + 1) (by omega)
  ·simp only [c1, if_false, Bool.false_eq_true]
   refine Tot.bind (digits_is hs q hq) fun r hr => ?_
   subst hr
   by_cases c2 : Fj.digs (D s q) = 0
   ·simp only [c2, ne_eq, not_true_eq_false, decide_false, Bool.not_false, if_true]
    exact Tot.succ (fun k => by rw [spec_reader_number.j0, if_pos rfl]) (Tot.ret ⟨rfl, rfl⟩)
   ·simp only [c2, ne_eq, not_false_eq_true, decide_true, Bool.not_true, if_false]
    exact j0_is hs (q + Fj.digs (D s q)) (digs_size q hq)
 refine Tot.bind (take_is hs p 45 h1 (by decide)) fun r hr => ?_
 subst hr
 by_cases c1 : bt s (p : Int) = 45
 ·have := in_text c1 (by decide)
  simp only [c1, if_true]
  exact rest (p + 1) (by omega)
 ·simp only [c1, if_false]
  exact rest p h1
/-! Strings. -/
theorem hexd_eq (c : Int) : Fj.hexd c = (hv c).isSome := by
 unfold Fj.hexd hv
 by_cases a : 48 ≤ c ∧ c ≤ 57
 ·rw [if_pos a]; simp [a]
 ·rw [if_neg a]
  by_cases b : 97 ≤ c ∧ c ≤ 102
  ·rw [if_pos b]; simp [a, b]
  ·rw [if_neg b]
   by_cases d : 65 ≤ c ∧ c ≤ 70
   ·rw [if_pos d]; simp [a, b, d]
   ·rw [if_neg d]; simp [a, b, d]
theorem simple8_eq (c : Int) : Fj.simple8 c = true ↔ Simple c := by
 unfold Fj.simple8 Simple
 simp only [Bool.or_eq_true, beq_iff_eq]
def hex4 (s : ByteArray) (p : Nat) : Bool := Fj.hexd (bt s (p : Int)) && (Fj.hexd (bt s ((p + 1 : Nat) : Int)) && (Fj.hexd (bt s ((p + 2 : Nat) : Int)) && Fj.hexd (bt s ((p + 3 : Nat) : Int))))
theorem hexd_in {p : Nat} (h : Fj.hexd (bt s (p : Int)) = true) : p < s.size := by
 refine Nat.lt_of_not_le fun hle => ?_
 rw [bt_out s (p : Int) (by omega)] at h
 exact absurd h (by decide)
theorem quo_at (p : Nat) (h : p < s.size) : Fj.quo (D s p) = if bt s (p : Int) = 34 then some 1 else if bt s (p : Int) < 32 then none else if bt s (p : Int) = 92 then
   (if Fj.simple8 (bt s ((p + 1 : Nat) : Int)) = true then (Fj.quo (D s (p + 2))).map (· + 2) else if bt s ((p + 1 : Nat) : Int) = 117 then (if hex4 s (p + 2) = true then (Fj.quo (D s (p + 6))).map (· + 6) else none) else none)
  else (Fj.quo (D s (p + 1))).map (· + 1) := by
 rw [D_cons p h, Fj.quo.eq_def]
 simp only []
 by_cases c34 : bt s (p : Int) = 34
 ·rw [if_pos c34, if_pos c34]
 ·rw [if_neg c34, if_neg c34]
  by_cases c32 : bt s (p : Int) < 32
  ·rw [if_pos c32, if_pos c32]
  ·rw [if_neg c32, if_neg c32]
   by_cases c92 : bt s (p : Int) = 92
   ·rw [if_pos c92, if_pos c92]
    by_cases h1 : p + 1 < s.size
    ·rw [D_cons (p + 1) h1]
     simp only []
     by_cases k : Fj.simple8 (bt s ((p + 1 : Nat) : Int)) = true
     ·rw [if_pos k, if_pos k]
     ·rw [if_neg k, if_neg k]
      by_cases u : bt s ((p + 1 : Nat) : Int) = 117
      ·rw [if_pos u, if_pos u]
       by_cases h5 : p + 5 < s.size
       ·rw [D_cons (p + 1 + 1) (by omega), D_cons (p + 1 + 1 + 1) (by omega), D_cons (p + 1 + 1 + 1 + 1) (by omega), D_cons (p + 1 + 1 + 1 + 1 + 1) (by omega)]
        rfl
       ·have hx : hex4 s (p + 2) = false := by
         cases hh : hex4 s (p + 2) with
         | false => rfl
         | true =>
          unfold hex4 at hh
          simp only [Bool.and_eq_true] at hh
          have := hexd_in hh.2.2.2
          omega
        rw [hx, if_neg (by decide)]
        have hl : (D s (p + 1 + 1)).length < 4 := by rw [D_len]; omega
        match hD : D s (p + 1 + 1), hl with
        | [], _ => rfl
        | [_], _ => rfl
        | [_, _], _ => rfl
        | [_, _, _], _ => rfl
      ·rw [if_neg u, if_neg u]
    ·have hz : bt s ((p + 1 : Nat) : Int) = 0 := bt_out s _ (by omega)
     rw [D_nil (p + 1) (by omega), hz]
     rfl
   ·rw [if_neg c92, if_neg c92]
theorem Ans.shift {o : Option Nat} {p n : Nat} {r : Bool × ByteArray × Int} (h : Ans s (o.map (p + n + ·)) r) : Ans s ((o.map (· + n)).map (p + ·)) r := by
 cases o with
 | none => exact h
 | some e =>
  have e1 : p + (e + n) = p + n + e := by omega
  simp only [Option.map_some] at h ⊢
  rw [e1]
  exact h
theorem quoted_is (hs : s.size ≤ 1000000) : ∀ (m p : Nat), s.size - p ≤ m → Tot (fun k => spec_reader_quoted.l0 k s (p : Int)) (Ans s ((Fj.quo (D s p)).map (p + ·)))
 | m, p, hm => by
  by_cases c : p < s.size
  ·cases m with
   | zero => omega
   | succ m =>
    refine Tot.succ (fun k => by rw [spec_reader_quoted.l0, if_pos (by omega), if_pos (by omega), w64 (i := (p : Int) + 1) (by omega) (by omega)]) ?_
    rw [quo_at p c]
    refine Tot.ite (fun c34 => Tot.ret ?_) fun c34 => Tot.ite (fun c32 => Tot.ret ?_) fun c32 => Tot.ite (fun c92 => ?_) (fun c92 => ?_)
    ·rw [if_pos c34]; exact ⟨rfl, rfl, rfl, show p + 1 ≤ s.size by omega⟩
    ·rw [if_neg c34, if_pos c32]; exact ⟨rfl, rfl⟩
    ·rw [if_neg c34, if_neg c32, if_pos c92]
     by_cases c4 : Simple (bt s ((p + 1 : Nat) : Int))
     ·rw [if_pos ((simple8_eq _).mpr c4)]
      refine Tot.bind (f := fun k => spec_reader_escape.f k s ((p : Int) + 1)) (Q := fun r => r = (true, s, (p : Int) + 1 + 1)) ⟨_, (Ev.ge 1).mp fun k hk => escape_simple k hk s ((p : Int) + 1) (by omega) (by omega) c4, rfl⟩ fun r hr => ?_
      subst hr
      simp only [if_true]
      exact (quoted_is hs m (p + 2) (by omega)).mono fun r h => h.shift
     ·rw [if_neg (fun x => c4 ((simple8_eq _).mp x))]
      by_cases c5 : bt s ((p + 1 : Nat) : Int) = 117
      ·rw [if_pos c5]
       have e4 : hex4 s (p + 2) = (h4 (hv (bt s ((p : Int) + 1 + 1))) (hv (bt s ((p : Int) + 1 + 2))) (hv (bt s ((p : Int) + 1 + 3))) (hv (bt s ((p : Int) + 1 + 4)))).isSome := by
        unfold hex4 h4
        rw [hexd_eq, hexd_eq, hexd_eq, hexd_eq]
        have x1 : ((p + 2 : Nat) : Int) = (p : Int) + 1 + 1 := by omega
        have x2 : ((p + 2 + 1 : Nat) : Int) = (p : Int) + 1 + 2 := by omega
        have x3 : ((p + 2 + 2 : Nat) : Int) = (p : Int) + 1 + 3 := by omega
        have x4 : ((p + 2 + 3 : Nat) : Int) = (p : Int) + 1 + 4 := by omega
        rw [x1, x2, x3, x4]
        cases hv (bt s ((p : Int) + 1 + 1)) <;> cases hv (bt s ((p : Int) + 1 + 2)) <;> cases hv (bt s ((p : Int) + 1 + 3)) <;> cases hv (bt s ((p : Int) + 1 + 4)) <;> rfl
       rw [e4]
       by_cases c6 : (h4 (hv (bt s ((p : Int) + 1 + 1))) (hv (bt s ((p : Int) + 1 + 2))) (hv (bt s ((p : Int) + 1 + 3))) (hv (bt s ((p : Int) + 1 + 4)))).isSome = true
       ·rw [if_pos c6]
        refine Tot.bind (f := fun k => spec_reader_escape.f k s ((p : Int) + 1)) (Q := fun r => r = (true, s, (p : Int) + 1 + 5)) ⟨_, (Ev.ge 12).mp fun k hk => by
         obtain ⟨q, hq⟩ := escape_u k hk s ((p : Int) + 1) (by omega) (by omega) (show bt s ((p : Int) + 1) = 117 from c5)
         rw [if_pos c6] at hq
         exact hq, rfl⟩ fun r hr => ?_
        subst hr
        simp only [if_true]
        have e6 : (p : Int) + 1 + 5 = ((p + 6 : Nat) : Int) := by omega
        rw [e6]
        exact (quoted_is hs m (p + 6) (by omega)).mono fun r h => h.shift
       ·rw [if_neg c6]
        obtain ⟨q, hq⟩ := escape_u 12 (by omega) s ((p : Int) + 1) (by omega) (by omega) (show bt s ((p : Int) + 1) = 117 from c5)
        rw [if_neg c6] at hq
        refine Tot.bind (f := fun k => spec_reader_escape.f k s ((p : Int) + 1)) (Q := fun r => r = (false, s, q)) ⟨_, (Ev.ge 12).mp fun k hk => by
         obtain ⟨j, rfl⟩ : ∃ j, k = 12 + j := ⟨k - 12, by omega⟩
         exact tot_lift (f := fun k => spec_reader_escape.f k s ((p : Int) + 1)) (fun k => spec_reader_escape.mono s ((p : Int) + 1) k) hq j, rfl⟩ fun r hr => ?_
        subst hr
        exact Tot.ret ⟨rfl, rfl⟩
      ·rw [if_neg c5]
       refine Tot.bind (f := fun k => spec_reader_escape.f k s ((p : Int) + 1)) (Q := fun r => r = (false, s, (p : Int) + 1)) ⟨_, (Ev.ge 1).mp fun k hk => escape_else k hk s ((p : Int) + 1) (by omega) (by omega) c4 c5, rfl⟩ fun r hr => ?_
       subst hr
       exact Tot.ret ⟨rfl, rfl⟩
    ·rw [if_neg c34, if_neg c32, if_neg c92]
     exact (quoted_is hs m (p + 1) (by omega)).mono fun r h => h.shift
  ·rw [D_nil p (by omega), show Fj.quo [] = none by rw [Fj.quo.eq_def]]
   exact Tot.succ (fun k => by rw [spec_reader_quoted.l0, if_neg (by omega)]) (Tot.ret (r := (false, s, (p : Int))) ⟨rfl, rfl⟩)
end Go.Proofs.YtcfhnfjkiljigaaDoor.ReadXFnJpGetUnsafe
end
section
namespace Go.Proofs.YtcfhnfjkiljigaaDoor.ReadXFnJpGetUnsafe
open Go.RowKit Go.Proofs.YtcfhnfjkiljigaaDoor.Base Go.Proofs.YtcfhnfjkiljigaaDoor.XFnJpGetUnsafe Go.Proofs.YtcfhnfjkiljigaaDoorW.PrintWords Go.Proofs.YtcfhnfjkiljigaaDoorW.PrintLast
set_option linter.unusedVariables false
set_option linter.unusedSimpArgs false
variable {s : ByteArray}
theorem begins_len {w l : List Int} (h : Fj.begins w l = true) : w.length ≤ l.length := by
 unfold Fj.begins at h
 rw [beq_iff_eq] at h
 have := congrArg List.length h
 rw [List.length_take] at this
 omega
theorem word_is (hs : s.size ≤ 1000000) (p : Nat) (x : ByteArray) (h1 : p ≤ s.size) (hx0 : 1 ≤ x.size) (hx1 : x.size ≤ 100) :
  Tot (fun _ => spec_reader_word.f s (p : Int) x) (fun r => r = if Fj.begins (bytesOf x) (D s p) = true then (true, s, ((p + x.size : Nat) : Int)) else (false, s, (p : Int))) := by
 unfold spec_reader_word.f
 rw [w64 (i := (s.size : Int) - (p : Int)) (by omega) (by omega), w64 (i := (p : Int) + (x.size : Int)) (by omega) (by omega)]
 have hb : Fj.begins (bytesOf x) (D s p) = true ↔ (D s p).take x.size = bytesOf x := by
  unfold Fj.begins
  rw [beq_iff_eq, bytesOf_length]
 by_cases c1 : (s.size : Int) - (p : Int) < x.size
 ·have hn : ¬ Fj.begins (bytesOf x) (D s p) = true := fun h => by
   have := begins_len h
   rw [bytesOf_length, D_len] at this
   omega
  exact Tot.eq (fun _ => by rw [if_pos c1]) (by rw [if_neg hn])
 ·have he : (s.extract ((p : Nat) : Int).toNat ((p : Int) + (x.size : Int)).toNat).toList = x.toList ↔ (D s p).take x.size = bytesOf x := by
   rw [show ((p : Int) + (x.size : Int)).toNat = p + x.size by omega, Int.toNat_natCast]
   have e2 : bytesOf (s.extract p (p + x.size)) = (D s p).take x.size := by
    unfold D bytesOf
    rw [ByteArray.data_extract, Array.toList_extract]
    simp [List.map_drop, List.map_take, List.extract_eq_take_drop]
   constructor
   ·intro h
    rw [← e2, toList_inj h]
   ·intro h
    rw [← e2] at h
    rw [bytes_inj h]
  by_cases c2 : (s.extract ((p : Nat) : Int).toNat ((p : Int) + (x.size : Int)).toNat).toList = x.toList
  ·exact Tot.eq (fun _ => by rw [if_neg c1, if_pos (by omega), if_pos (by omega), if_pos (by omega), if_pos c2]) (by rw [if_pos (hb.mpr (he.mp c2))]; rfl)
  ·exact Tot.eq (fun _ => by rw [if_neg c1, if_pos (by omega), if_pos (by omega), if_pos (by omega), if_neg c2]) (by rw [if_neg (fun h => c2 (he.mpr (hb.mp h)))])
theorem begins_in {w : List Int} {p : Nat} (h1 : p ≤ s.size) (h : Fj.begins w (D s p) = true) : p + w.length ≤ s.size := by
 have := begins_len h
 rw [D_len] at this
 omega
end Go.Proofs.YtcfhnfjkiljigaaDoor.ReadXFnJpGetUnsafe
end
section
namespace Go.Proofs.YtcfhnfjkiljigaaDoor.ReadXFnJpGetUnsafe
open Go.RowKit Go.Proofs.YtcfhnfjkiljigaaDoor.Base Go.Proofs.YtcfhnfjkiljigaaDoor.XFnJpGetUnsafe Go.Proofs.YtcfhnfjkiljigaaDoorW.PrintWords Go.Proofs.YtcfhnfjkiljigaaDoorW.PrintLast
set_option linter.unusedVariables false
set_option linter.unusedSimpArgs false
abbrev SP := S65
abbrev PL := S27
/-- Behind the blanks. -/
def nb (s : ByteArray) (p : Nat) : Nat := p + Fj.ws (D s p)
def qE (s : ByteArray) (p : Nat) : Option Nat := (Fj.quo (D s p)).map (p + ·)
def wordk (s : ByteArray) (p : Nat) : Option (Int × Nat) :=
 if Fj.begins [110, 117, 108, 108] (D s p) = true then some (0, p + 4) else if Fj.begins [102, 97, 108, 115, 101] (D s p) = true then some (1, p + 5) else if Fj.begins [116, 114, 117, 101] (D s p) = true then some (2, p + 4) else none
mutual
/-- The value at a place, and where it ends. -/
def tV (s : ByteArray) : Nat → Nat → Option (PL × Nat)
 | 0, _ => none
 | f + 1, p =>
  if bt s (p : Int) = 123 then (if bt s (nb s (p + 1) : Int) = 125 then some (⟨6, (p : Int), ((nb s (p + 1) + 1 : Nat) : Int), [], []⟩, nb s (p + 1) + 1) else match tM s f (nb s (p + 1)) with
   | none => none
   | some r => some (⟨6, (p : Int), (r.2.2 : Int), r.1, r.2.1⟩, r.2.2))
  else if bt s (p : Int) = 91 then (if bt s (nb s (p + 1) : Int) = 93 then some (⟨5, (p : Int), ((nb s (p + 1) + 1 : Nat) : Int), [], []⟩, nb s (p + 1) + 1) else match tE s f (nb s (p + 1)) with
   | none => none
   | some r => some (⟨5, (p : Int), (r.2 : Int), [], r.1⟩, r.2))
  else if bt s (p : Int) = 34 then (match qE s (p + 1) with | none => none | some e => some (⟨4, (p : Int), (e : Int), [], []⟩, e))
  else if bt s (p : Int) = 45 ∨ (48 ≤ bt s (p : Int) ∧ bt s (p : Int) ≤ 57) then (match nN s p with | none => none | some e => some (⟨3, (p : Int), (e : Int), [], []⟩, e))
  else match wordk s p with | none => none | some r => some (⟨r.1, (p : Int), (r.2 : Int), [], []⟩, r.2)
/-- The elements from a place on, and what is behind the bracket that closes the array. -/
def tE (s : ByteArray) : Nat → Nat → Option (List PL × Nat)
 | 0, _ => none
 | f + 1, q => match tV s f q with
  | none => none
  | some v => if bt s (nb s v.2 : Int) = 93 then some ([v.1], nb s v.2 + 1) else if bt s (nb s v.2 : Int) = 44 then (match tE s f (nb s (nb s v.2 + 1)) with | none => none | some r => some (v.1 :: r.1, r.2)) else none
/-- The members. -/
def tM (s : ByteArray) : Nat → Nat → Option (List SP × List PL × Nat)
 | 0, _ => none
 | f + 1, q => if bt s (q : Int) = 34 then match qE s (q + 1) with
   | none => none
   | some b => if bt s (nb s b : Int) = 58 then match tV s f (nb s (nb s b + 1)) with
     | none => none
     | some v => if bt s (nb s v.2 : Int) = 125 then some ([⟨(q : Int), (b : Int)⟩], [v.1], nb s v.2 + 1) else if bt s (nb s v.2 : Int) = 44 then (match tM s f (nb s (nb s v.2 + 1)) with | none => none | some r => some (⟨(q : Int), (b : Int)⟩ :: r.1, v.1 :: r.2.1, r.2.2)) else none
    else none
  else none
end
variable {s : ByteArray}
theorem nb_ge (p : Nat) : p ≤ nb s p := by unfold nb; omega
theorem nb_le (p : Nat) (h : p ≤ s.size) : nb s p ≤ s.size := by
 unfold nb
 have := Fj.ws_le (D s p)
 rw [D_len] at this
 omega
theorem blanks_nb (hs : s.size ≤ 1000000) (p : Nat) (h1 : p ≤ s.size) : Tot (fun k => spec_reader_blanks.f k s (p : Int)) (fun r => r = (s, (nb s p : Int))) := blanks_is hs p h1
def AnsV' (s : ByteArray) (p : Nat) (o : Option (PL × Nat)) (r : Int × Int × Int × (List SP) × (List PL) × Bool × ByteArray × Int) : Prop := match o with
 | some v => r = (v.1.f0, v.1.f1, v.1.f2, v.1.f3, v.1.f4, true, s, (v.2 : Int)) ∧ p < v.2 ∧ v.2 ≤ s.size
 | none => r.2.2.2.2.2.1 = false ∧ r.2.2.2.2.2.2.1 = s
def AnsE' (s : ByteArray) (p : Nat) (ys : List PL) (o : Option (List PL × Nat)) (r : (List PL) × Bool × ByteArray × Int) : Prop := match o with
 | some v => r = (ys ++ v.1, true, s, (v.2 : Int)) ∧ p < v.2 ∧ v.2 ≤ s.size
 | none => r.2.1 = false ∧ r.2.2.1 = s
def AnsM' (s : ByteArray) (p : Nat) (xs : List SP) (ys : List PL) (o : Option (List SP × List PL × Nat)) (r : (List SP) × (List PL) × Bool × ByteArray × Int) : Prop := match o with
 | some v => r = (xs ++ v.1, ys ++ v.2.1, true, s, (v.2.2 : Int)) ∧ p < v.2.2 ∧ v.2.2 ≤ s.size
 | none => r.2.2.1 = false ∧ r.2.2.2.1 = s
def VT (s : ByteArray) (n : Nat) : Prop := ∀ p : Nat, p ≤ s.size → s.size - p < n → ∀ f, 2 * n + 1 ≤ f → Tot (fun k => spec_reader_value.f k s (p : Int)) (AnsV' s p (tV s f p))
def ET (s : ByteArray) (n : Nat) : Prop := ∀ (q : Nat) ys, q ≤ s.size → s.size - q < n → ∀ f, 2 * n + 2 ≤ f → ys.length ≤ q → Tot (fun k => spec_reader_elements.l0 k ys s (q : Int)) (AnsE' s q ys (tE s f q))
def MT (s : ByteArray) (n : Nat) : Prop := ∀ (q : Nat) xs ys, q ≤ s.size → s.size - q < n → ∀ f, 2 * n + 2 ≤ f → xs.length ≤ q → ys.length ≤ q → Tot (fun k => spec_reader_members.l0 k xs ys s (q : Int)) (AnsM' s q xs ys (tM s f q))
theorem ele_tree (hs : s.size ≤ 1000000) {n : Nat} (hV : VT s (n + 1)) (hE : ET s n) : ET s (n + 1) := by
 intro q ys h1 hn f hf hy
 obtain ⟨f, rfl⟩ : ∃ g, f = g + 1 := ⟨f - 1, by omega⟩
 refine Tot.succ (fun k => by rw [spec_reader_elements.l0]) ?_
 refine Tot.bind (hV q h1 (by omega) f (by omega)) fun r hr => ?_
 rw [tE]
 cases hv : tV s f q with
 | none =>
  rw [hv] at hr
  obtain ⟨h2, h3⟩ := hr
  refine Tot.ite (fun c => ?_) fun c => Tot.ret ⟨rfl, h3⟩
  rw [h2] at c; cases c
 | some v =>
  rw [hv] at hr
  obtain ⟨rfl, h2, h3⟩ := hr
  obtain ⟨⟨v0, v1, v2, v3, v4⟩, y⟩ := v
  simp only [] at h2 h3 ⊢
  refine Tot.ite (fun _ => ?_) fun c => absurd trivial c
  refine Tot.ite (fun _ => ?_) fun c => absurd (show ys.length < 1954687338268 by omega) c
  simp only [Option.bind_some]
  have hu := nb_le y h3
  have huy := nb_ge (s := s) y
  refine Tot.bind (blanks_nb hs y h3) fun r hr => ?_
  subst hr
  refine Tot.bind (take_is hs (nb s y) 93 hu (by decide)) fun r hr => ?_
  subst hr
  by_cases c1 : bt s (nb s y : Int) = 93
  ·have hin := in_text c1 (by decide)
   rw [if_pos c1]
   simp only [c1, if_true]
   exact Tot.ret ⟨rfl, by show q < nb s y + 1; omega, hin⟩
  ·rw [if_neg c1]
   simp only [c1, if_false, Bool.false_eq_true]
   refine Tot.bind (take_is hs (nb s y) 44 hu (by decide)) fun r hr => ?_
   subst hr
   by_cases c2 : bt s (nb s y : Int) = 44
   ·have hin := in_text c2 (by decide)
    rw [if_pos c2]
    simp only [c2, if_true]
    refine Tot.bind (blanks_nb hs (nb s y + 1) (by omega)) fun r hr => ?_
    subst hr
    have h4 := nb_ge (s := s) (nb s y + 1)
    have h5 := nb_le (s := s) (nb s y + 1) (by omega)
    refine (hE (nb s (nb s y + 1)) (ys ++ [⟨v0, v1, v2, v3, v4⟩]) h5 (by omega) f (by omega) (by rw [List.length_append]; simp; omega)).mono fun r h => ?_
    cases he : tE s f (nb s (nb s y + 1)) with
    | none => rw [he] at h; exact h
    | some w =>
     rw [he] at h
     obtain ⟨h6, h7, h8⟩ := h
     refine ⟨?_, by show q < w.2; omega, h8⟩
     rw [h6]
     simp
   ·rw [if_neg c2]
    simp only [c2, if_false, Bool.false_eq_true]
    exact Tot.ret ⟨rfl, rfl⟩
theorem mem_tree (hs : s.size ≤ 1000000) {n : Nat} (hV : VT s (n + 1)) (hM : MT s n) : MT s (n + 1) := by
 intro q xs ys h1 hn f hf hx hy
 obtain ⟨f, rfl⟩ : ∃ g, f = g + 1 := ⟨f - 1, by omega⟩
 have bad : ∀ e : Int, Tot (fun k => spec_reader_members.j1 k xs ys (q : Int) true s e) (AnsM' s q xs ys none) := fun e =>
  Tot.succ (fun k => by rw [spec_reader_members.j1, if_pos rfl]) (Tot.ret ⟨rfl, rfl⟩)
 rw [tM]
 refine Tot.succ (fun k => by rw [spec_reader_members.l0]) ?_
 refine Tot.bind (here_tot hs (q : Int) (by omega)) fun r hr => ?_
 subst hr
 refine Tot.ite (fun c => ?_) fun c => ?_
 rotate_left
 ·rw [if_neg c]; exact bad _
 rw [if_pos c]
 have hin := in_text (s := s) (p := q) c (by decide)
 refine Tot.bind (f := fun k => spec_reader_quoted.f k s (q : Int)) (Q := Ans s (qE s (q + 1))) ?_ fun r hr => ?_
 ·unfold spec_reader_quoted.f
  rw [w64 (by omega) (by omega)]
  exact quoted_is hs s.size (q + 1) (by omega)
 obtain ⟨b, t, e⟩ := r
 obtain ⟨ht, hm⟩ := hr
 simp only [] at ht hm ⊢
 subst ht
 have hqe : ∀ b, qE t (q + 1) = some b → q + 1 ≤ b := fun b h => by
  obtain ⟨x, _, rfl⟩ := Option.map_eq_some_iff.mp h
  omega
 cases hqu : qE t (q + 1) with
 | none =>
  rw [hqu] at hm
  subst hm
  exact bad _
 | some b =>
  rw [hqu] at hm
  obtain ⟨m1, m2, m3⟩ := hm
  have hqb := hqe b hqu
  simp only [] at m1 m2 m3 ⊢
  subst m1 m2
  have hzl := nb_le b m3
  have hzg := nb_ge (s := t) b
  refine Tot.succ (fun k => by rw [Bool.not_true, spec_reader_members.j1, if_neg (by decide), if_pos (show xs.length < 8796093022208 by omega), Option.bind_some]) ?_
  refine Tot.bind (blanks_nb hs b m3) fun r hr => ?_
  subst hr
  refine Tot.bind (take_is hs (nb t b) 58 hzl (by decide)) fun r hr => ?_
  subst hr
  by_cases c1 : bt t (nb t b : Int) = 58
  ·have hin1 := in_text c1 (by decide)
   rw [if_pos c1]
   simp only [c1, if_true]
   refine Tot.bind (blanks_nb hs (nb t b + 1) (by omega)) fun r hr => ?_
   subst hr
   have hal := nb_le (s := t) (nb t b + 1) (by omega)
   have hag := nb_ge (s := t) (nb t b + 1)
   generalize hA : nb t (nb t b + 1) = A at *
   refine Tot.bind (hV A hal (by omega) f (by omega)) fun r hr => ?_
   cases hv : tV t f A with
   | none =>
    rw [hv] at hr
    obtain ⟨h2, h3⟩ := hr
    refine Tot.ite (fun c => ?_) fun c => Tot.ret ⟨rfl, h3⟩
    rw [h2] at c; cases c
   | some v =>
    rw [hv] at hr
    obtain ⟨rfl, h2, h3⟩ := hr
    obtain ⟨⟨v0, v1, v2, v3, v4⟩, y⟩ := v
    simp only [] at h2 h3 ⊢
    refine Tot.ite (fun _ => ?_) fun c => absurd trivial c
    refine Tot.ite (fun _ => ?_) fun c => absurd (show ys.length < 1954687338268 by omega) c
    simp only [Option.bind_some]
    have hu := nb_le y h3
    have huy := nb_ge (s := t) y
    refine Tot.bind (blanks_nb hs y h3) fun r hr => ?_
    subst hr
    refine Tot.bind (take_is hs (nb t y) 125 hu (by decide)) fun r hr => ?_
    subst hr
    by_cases c3 : bt t (nb t y : Int) = 125
    ·have hin2 := in_text c3 (by decide)
     rw [if_pos c3]
     simp only [c3, if_true]
     exact Tot.ret ⟨rfl, by show q < nb t y + 1; omega, hin2⟩
    ·rw [if_neg c3]
     simp only [c3, if_false, Bool.false_eq_true]
     refine Tot.bind (take_is hs (nb t y) 44 hu (by decide)) fun r hr => ?_
     subst hr
     by_cases c4 : bt t (nb t y : Int) = 44
     ·have hin2 := in_text c4 (by decide)
      rw [if_pos c4]
      simp only [c4, if_true]
      refine Tot.bind (blanks_nb hs (nb t y + 1) (by omega)) fun r hr => ?_
      subst hr
      have h4 := nb_ge (s := t) (nb t y + 1)
      have h5 := nb_le (s := t) (nb t y + 1) (by omega)
      refine (hM (nb t (nb t y + 1)) (xs ++ [⟨(q : Int), (b : Int)⟩]) (ys ++ [⟨v0, v1, v2, v3, v4⟩]) h5 (by omega) f (by omega) (by rw [List.length_append]; simp; omega) (by rw [List.length_append]; simp; omega)).mono fun r h => ?_
      cases he : tM t f (nb t (nb t y + 1)) with
      | none => rw [he] at h; exact h
      | some w =>
       rw [he] at h
       obtain ⟨h6, h7, h8⟩ := h
       refine ⟨?_, by show q < w.2.2; omega, h8⟩
       rw [h6]
       simp
     ·rw [if_neg c4]
      simp only [c4, if_false, Bool.false_eq_true]
      exact Tot.ret ⟨rfl, rfl⟩
  ·rw [if_neg c1]
   simp only [c1, if_false, Bool.false_eq_true]
   exact Tot.ret ⟨rfl, rfl⟩
theorem num_gt {p e : Nat} (h : nN s p = some e) : p < e := by
 unfold nN nW nF nX nE at h
 repeat' split at h
 all_goals first
  | (cases h; done)
  | (obtain rfl := Option.some.inj h; omega)
theorem vnum_tree (hs : s.size ≤ 1000000) (p : Nat) (c : Int) (h1 : p ≤ s.size) : Tot (fun k => spec_reader_value.j0 k true true s (p : Int) 0 (p : Int) c) (AnsV' s p (match nN s p with | none => none | some e => some (⟨3, (p : Int), (e : Int), [], []⟩, e))) := by
 refine Tot.succ (fun k => by rw [spec_reader_value.j0, if_pos rfl]) ?_
 refine Tot.bind (number_is hs p h1) fun r hr => Tot.ret ?_
 obtain ⟨b, t, e⟩ := r
 obtain ⟨h2, h3⟩ := hr
 simp only [] at h2 h3
 cases hn : nN s p with
 | none => rw [hn] at h3; exact ⟨h3, h2⟩
 | some m =>
  rw [hn] at h3
  obtain ⟨h4, h5, h6⟩ := h3
  subst h2 h4 h5
  exact ⟨rfl, num_gt hn, h6⟩
theorem vword_tree (hs : s.size ≤ 1000000) (p : Nat) (c : Int) (h1 : p ≤ s.size) : Tot (fun k => spec_reader_value.j0 k true false s (p : Int) 0 (p : Int) c) (AnsV' s p (match wordk s p with | none => none | some r => some (⟨r.1, (p : Int), (r.2 : Int), [], []⟩, r.2))) := by
 refine Tot.succ (fun k => by rw [spec_reader_value.j0, if_neg (by decide)]) ?_
 unfold wordk
 refine Tot.bind (word_is hs p ⟨#[110, 117, 108, 108]⟩ h1 (by decide) (by decide)) fun r hr => ?_
 subst hr
 rw [show bytesOf ⟨#[110, 117, 108, 108]⟩ = [110, 117, 108, 108] from rfl]
 by_cases k1 : Fj.begins [110, 117, 108, 108] (D s p) = true
 ·simp only [k1, if_true]
  exact Tot.ret ⟨rfl, by show p < p + 4; omega, begins_in h1 k1⟩
 ·simp only [k1, if_false, Bool.false_eq_true]
  refine Tot.bind (word_is hs p ⟨#[102, 97, 108, 115, 101]⟩ h1 (by decide) (by decide)) fun r hr => ?_
  subst hr
  rw [show bytesOf ⟨#[102, 97, 108, 115, 101]⟩ = [102, 97, 108, 115, 101] from rfl]
  by_cases k2 : Fj.begins [102, 97, 108, 115, 101] (D s p) = true
  ·simp only [k2, if_true]
   exact Tot.ret ⟨rfl, by show p < p + 5; omega, begins_in h1 k2⟩
  ·simp only [k2, if_false, Bool.false_eq_true]
   refine Tot.bind (word_is hs p ⟨#[116, 114, 117, 101]⟩ h1 (by decide) (by decide)) fun r hr => ?_
   subst hr
   rw [show bytesOf ⟨#[116, 114, 117, 101]⟩ = [116, 114, 117, 101] from rfl]
   by_cases k3 : Fj.begins [116, 114, 117, 101] (D s p) = true
   ·simp only [k3, if_true]
    exact Tot.ret ⟨rfl, by show p < p + 4; omega, begins_in h1 k3⟩
   ·simp only [k3, if_false, Bool.false_eq_true]
    exact Tot.ret ⟨rfl, rfl⟩
theorem val_tree (hs : s.size ≤ 1000000) {n : Nat} (hM : MT s n) (hE : ET s n) : VT s (n + 1) := by
 intro p h1 hn f hf
 obtain ⟨f, rfl⟩ : ∃ g, f = g + 1 := ⟨f - 1, by omega⟩
 refine Tot.succ (fun k => by rw [spec_reader_value.f]) ?_
 refine Tot.bind (here_tot hs (p : Int) (by omega)) fun r hr => ?_
 subst hr
 simp only []
 rw [tV]
 refine Tot.ite (fun c => ?_) fun c1 => Tot.ite (fun c => ?_) fun c2 => Tot.ite (fun c => ?_) fun c3 => Tot.ite (fun c => ?_) fun c4 => Tot.ite (fun c => ?_) fun c5 => ?_
 ·have hp := in_text c (by decide)
  rw [if_pos c]
  have hq := nb_le (s := s) (p + 1) (by omega)
  have hg := nb_ge (s := s) (p + 1)
  obtain ⟨f, rfl⟩ : ∃ g, f = g + 1 := ⟨f - 1, by omega⟩
  refine Tot.bind (Q := fun r => AnsM' s p [] [] (if bt s (nb s (p + 1) : Int) = 125 then some ([], [], nb s (p + 1) + 1) else tM s (f + 1) (nb s (p + 1))) r) (Tot.succ (fun k => by rw [spec_reader_members.f, w64 (i := (p : Int) + 1) (by omega) (by omega)]) ?_) fun r hr => Tot.ret ?_
  ·refine Tot.bind (blanks_nb hs (p + 1) (by omega)) fun r hr => ?_
   subst hr
   refine Tot.bind (take_is hs (nb s (p + 1)) 125 hq (by decide)) fun r hr => ?_
   subst hr
   by_cases c : bt s (nb s (p + 1) : Int) = 125
   ·have hin := in_text c (by decide)
    simp only [c, if_true]
    exact Tot.ret ⟨rfl, by show p < nb s (p + 1) + 1; omega, hin⟩
   ·simp only [c, if_false, Bool.false_eq_true]
    refine (hM (nb s (p + 1)) [] [] hq (by omega) (f + 1) (by omega) (by simp) (by simp)).mono fun r h => ?_
    cases hm : tM s (f + 1) (nb s (p + 1)) with
    | none => rw [hm] at h; exact h
    | some w => rw [hm] at h; exact ⟨h.1, Nat.lt_of_lt_of_le (by omega : p < nb s (p + 1)) (Nat.le_of_lt h.2.1), h.2.2⟩
  ·by_cases c : bt s (nb s (p + 1) : Int) = 125
   ·rw [if_pos c] at hr ⊢
    obtain ⟨rfl, h2, h3⟩ := hr
    exact ⟨rfl, h2, h3⟩
   ·rw [if_neg c] at hr ⊢
    cases hm : tM s (f + 1) (nb s (p + 1)) with
    | none => rw [hm] at hr; exact hr
    | some w =>
     rw [hm] at hr
     obtain ⟨rfl, h2, h3⟩ := hr
     exact ⟨rfl, h2, h3⟩
 ·have hp := in_text c (by decide)
  rw [if_neg c1, if_pos c]
  have hq := nb_le (s := s) (p + 1) (by omega)
  have hg := nb_ge (s := s) (p + 1)
  obtain ⟨f, rfl⟩ : ∃ g, f = g + 1 := ⟨f - 1, by omega⟩
  refine Tot.bind (Q := fun r => AnsE' s p [] (if bt s (nb s (p + 1) : Int) = 93 then some ([], nb s (p + 1) + 1) else tE s (f + 1) (nb s (p + 1))) r) (Tot.succ (fun k => by rw [spec_reader_elements.f, w64 (i := (p : Int) + 1) (by omega) (by omega)]) ?_) fun r hr => Tot.ret ?_
  ·refine Tot.bind (blanks_nb hs (p + 1) (by omega)) fun r hr => ?_
   subst hr
   refine Tot.bind (take_is hs (nb s (p + 1)) 93 hq (by decide)) fun r hr => ?_
   subst hr
   by_cases c : bt s (nb s (p + 1) : Int) = 93
   ·have hin := in_text c (by decide)
    simp only [c, if_true]
    exact Tot.ret ⟨rfl, by show p < nb s (p + 1) + 1; omega, hin⟩
   ·simp only [c, if_false, Bool.false_eq_true]
    refine (hE (nb s (p + 1)) [] hq (by omega) (f + 1) (by omega) (by simp)).mono fun r h => ?_
    cases hm : tE s (f + 1) (nb s (p + 1)) with
    | none => rw [hm] at h; exact h
    | some w => rw [hm] at h; exact ⟨h.1, Nat.lt_of_lt_of_le (by omega : p < nb s (p + 1)) (Nat.le_of_lt h.2.1), h.2.2⟩
  ·by_cases c : bt s (nb s (p + 1) : Int) = 93
   ·rw [if_pos c] at hr ⊢
    obtain ⟨rfl, h2, h3⟩ := hr
    exact ⟨rfl, h2, h3⟩
   ·rw [if_neg c] at hr ⊢
    cases hm : tE s (f + 1) (nb s (p + 1)) with
    | none => rw [hm] at hr; exact hr
    | some w =>
     rw [hm] at hr
     obtain ⟨rfl, h2, h3⟩ := hr
     exact ⟨rfl, h2, h3⟩
 ·have hp := in_text c (by decide)
  rw [if_neg c1, if_neg c2, if_pos c]
  refine Tot.bind (f := fun k => spec_reader_quoted.f k s (p : Int)) (Q := Ans s (qE s (p + 1))) ?_ fun r hr => Tot.ret ?_
  ·unfold spec_reader_quoted.f
   rw [w64 (by omega) (by omega)]
   exact quoted_is hs s.size (p + 1) (by omega)
  ·obtain ⟨b, t, e⟩ := r
   obtain ⟨h2, h3⟩ := hr
   simp only [] at h2 h3
   cases hq : qE s (p + 1) with
   | none => rw [hq] at h3; exact ⟨h3, h2⟩
   | some m =>
    rw [hq] at h3
    obtain ⟨h4, h5, h6⟩ := h3
    subst h2 h4 h5
    obtain ⟨x, _, rfl⟩ := Option.map_eq_some_iff.mp hq
    exact ⟨rfl, by show p < p + 1 + x; omega, h6⟩
 ·rw [if_neg c1, if_neg c2, if_neg c3, if_pos (.inl c)]
  exact vnum_tree hs p _ h1
 ·by_cases c6 : bt s (p : Int) ≤ 57
  ·rw [decide_eq_true c6, if_neg c1, if_neg c2, if_neg c3, if_pos (.inr ⟨c, c6⟩)]
   exact vnum_tree hs p _ h1
  ·rw [decide_eq_false c6, if_neg c1, if_neg c2, if_neg c3, if_neg (fun h => h.elim c4 fun x => c6 x.2)]
   exact vword_tree hs p _ h1
 ·rw [if_neg c1, if_neg c2, if_neg c3, if_neg (fun h => h.elim c4 fun x => c5 x.1)]
  exact vword_tree hs p _ h1
theorem all_tree (hs : s.size ≤ 1000000) : ∀ n : Nat, VT s n ∧ MT s n ∧ ET s n
 | 0 => ⟨fun p _ h => by omega, fun p _ _ _ h => by omega, fun p _ _ h => by omega⟩
 | n + 1 => by
  obtain ⟨hV, hM, hE⟩ := all_tree hs n
  have hV1 := val_tree hs hM hE
  exact ⟨hV1, mem_tree hs hV1 hM, ele_tree hs hV1 hE⟩
/-- The reader of a value at a place. -/
theorem value_tree (hs : s.size ≤ 1000000) (p : Nat) (h1 : p ≤ s.size) (f : Nat) (hf : 2 * s.size + 3 ≤ f) : Tot (fun k => spec_reader_value.f k s (p : Int)) (AnsV' s p (tV s f p)) :=
 (all_tree hs (s.size + 1)).1 p h1 (by omega) f (by omega)
end Go.Proofs.YtcfhnfjkiljigaaDoor.ReadXFnJpGetUnsafe
end
