-- Written by xprint.py of this session (a program that runs the kit's print and adds to it); Lean checks it.
import Derived.Test.YtdllbnecbbggfaaDoorXFnGjQuoteValidx0
import Derived.Test.YtdllbnecbbggfaaDoorXFnGjQuoteValidx1
import Derived.Test.YtdllbnecbbggfaaDoorXFnGjQuoteValidx2
import Derived.Test.YtdllbnecbbggfaaDoorXFnGjQuoteValidx7
import Derived.Test.YtdllbnecbbggfaaDoorXFnGjQuoteValidx11
namespace Go.Proofs.YtdllbnecbbggfaaDoor.XFnGjQuoteValid
open Go.RowKit Go.Proofs.YtdllbnecbbggfaaDoorW.PrintWords Go.Proofs.YtdllbnecbbggfaaDoorW.PrintLast Go.Proofs.YtdllbnecbbggfaaDoorW.PrintMore
attribute [local go_sem] max2_int min2_int max_two min_two max_three min_three max_four min_four   -- for this text's walks alone
set_option linter.unusedVariables false
set_option linter.unusedSimpArgs false

/-! ### impl_GjValid: function 26 -/
def impl_GjValid.f (k : Nat) (a0 : ByteArray) : Option (Bool) := (gjson_Valid.f k a0).bind fun t289 => (some t289)
theorem impl_GjValid.mono : ∀ a0 k, LeO (impl_GjValid.f k a0) (impl_GjValid.f (k + 1) a0) := by
  intro a0 k
  unfold impl_GjValid.f
  repeat' first
      | (with_reducible exact gjson_Valid.mono _ _)
      | (with_reducible exact LeO.refl _)
      | (with_reducible exact LeO.none _)
      | (with_reducible refine LeO.ite ?_ ?_)
      | (with_reducible refine LeO.bind ?_ (fun _ => ?_))
      | exact gjson_Valid.mono _ _
      | exact LeO.none _
      | refine LeO.ite ?_ ?_
      | refine LeO.bind ?_ (fun _ => ?_)
set_option maxHeartbeats 8000000 in
set_option maxRecDepth 100000 in
theorem impl_GjValid.calls (k : Nat) (a0 : ByteArray) (r : Bool) (w : World) (h : impl_GjValid.f k a0 = some r) :
    Calls Tryd.prog 26 #[.string a0] w fun e w' => e = .returned (.bool r) ∧ Below w.heap.size w w' := by
  have HB := Aside0.mk (Below.refl w.heap.size w)
  have H : ((gjson_Valid.f k a0).bind fun t289 => (some t289)) = some r := h
  clear h
  replace H := Option.bind_eq_some_iff.mp H
  obtain ⟨t289, A20, H⟩ := H
  replace H : (some t289) = some r := H
  have A2 := Aside0.mk A20
  clear A20
  obtain rfl := Option.some.inj H
  go_enter Tryd.func26, Tryd.ntmps26
  go_wp2_with (first | ((with_reducible refine gate_callee (f := 44) rfl ?_); refine goesL_ (some 4) rfl rfl Tryd.func44 (by kernel_rfl) rfl #[.string a0] rfl (by (try simp only [List.map_toArray, List.map_cons, List.map_nil]); first | done | rfl | (simp only [List.length_drop, List.length_take]; rfl)) ?_; (with_reducible refine (gjson_Valid.calls k a0 t289 _ A2.out).mono ?_); rintro e w3 ⟨rfl, hb⟩; refine ⟨_, rfl, ?_⟩; have n0_ := Aside0.mk (below_step (by repeat (first | (with_reducible first | exact HB.out | apply below_alloc | apply pw_below_drewN | apply below_drew1) | exact HB.out)) hb); clear HB; have HB := n0_; clear n0_; (try clear hb); (try clear hb2); (try clear hk); (try clear hi)))
  go_ret
  exact ⟨by first | rfl | (simp [errW_none, errW_some] <;> rfl) | (simp [*, errW_none, errW_some] <;> rfl), by repeat (first | (with_reducible first | exact HB.out | apply below_alloc | apply pw_below_drewN | apply below_drew1) | exact HB.out)⟩

/-! ### laws_FnGjQuoteValid: function 8 -/
def laws_FnGjQuoteValid.f (k : Nat) (a0 : ByteArray) : Option (Bool) := if (a0.size : Int) > 2147483647 then (some true) else (if (a0.size : Int) > 4096 then (some true) else ((impl_GjQuote.f k a0).bind fun t290 => ((spec_Read.f k t290).bind fun bt291 => (if bt291.2.2.2.2 = true then (if bt291.1 = 4 then ((spec_UTF8.f k t290).bind fun t301 => (if t301 = true then ((impl_GjValid.f k t290).bind fun t302 => (some t302)) else (some false))) else (some false)) else (some false)))))
theorem laws_FnGjQuoteValid.mono : ∀ a0 k, LeO (laws_FnGjQuoteValid.f k a0) (laws_FnGjQuoteValid.f (k + 1) a0) := by
  intro a0 k
  unfold laws_FnGjQuoteValid.f
  repeat' first
      | (with_reducible exact impl_GjQuote.mono _ _)
      | (with_reducible exact impl_GjValid.mono _ _)
      | (with_reducible exact spec_Read.mono _ _)
      | (with_reducible exact spec_UTF8.mono _ _)
      | (with_reducible exact LeO.refl _)
      | (with_reducible exact LeO.none _)
      | (with_reducible refine LeO.ite ?_ ?_)
      | (with_reducible refine LeO.bind ?_ (fun _ => ?_))
      | exact impl_GjQuote.mono _ _
      | exact impl_GjValid.mono _ _
      | exact spec_Read.mono _ _
      | exact spec_UTF8.mono _ _
      | exact LeO.none _
      | refine LeO.ite ?_ ?_
      | refine LeO.bind ?_ (fun _ => ?_)
set_option maxHeartbeats 8000000 in
set_option maxRecDepth 100000 in
theorem laws_FnGjQuoteValid.calls (k : Nat) (a0 : ByteArray) (r : Bool) (w : World) (hG : Glob w) (h : laws_FnGjQuoteValid.f k a0 = some r) :
    Calls Tryd.prog 8 #[.string a0] w fun e w' => e = .returned (.bool r) ∧ Below w.heap.size w w' := by
  have HG := Aside0.mk hG
  clear hG
  have hu36 := Tryd.underlying36
  have HB := Aside0.mk (Below.refl w.heap.size w)
  have H : (if (a0.size : Int) > 2147483647 then (some true) else (if (a0.size : Int) > 4096 then (some true) else ((impl_GjQuote.f k a0).bind fun t290 => ((spec_Read.f k t290).bind fun bt291 => (if bt291.2.2.2.2 = true then (if bt291.1 = 4 then ((spec_UTF8.f k t290).bind fun t301 => (if t301 = true then ((impl_GjValid.f k t290).bind fun t302 => (some t302)) else (some false))) else (some false)) else (some false)))))) = some r := h
  clear h
  by_cases c2 : (a0.size : Int) > 2147483647
  · rw [if_pos c2] at H
    have c2b0 : decide (2147483647 < (a0.size : Int)) = true := decide_eq_true c2
    have c2b1 : decide (2147483647 < a0.size) = true := decide_eq_true (by omega)
    clear c2
    obtain rfl := Option.some.inj H
    go_enter Tryd.func8, Tryd.ntmps8
    go_wp2
    go_ret
    exact ⟨by first | rfl | (simp [errW_none, errW_some] <;> rfl) | (simp [*, errW_none, errW_some] <;> rfl), by repeat (first | (with_reducible first | exact HB.out | apply below_alloc | apply pw_below_drewN | apply below_drew1) | exact HB.out)⟩
  · rw [if_neg c2] at H
    have c2b0 : decide (2147483647 < (a0.size : Int)) = false := decide_eq_false c2
    have c2b1 : decide (2147483647 < a0.size) = false := decide_eq_false (by omega)
    clear c2
    by_cases c3 : (a0.size : Int) > 4096
    · rw [if_pos c3] at H
      have c3b0 : decide (4096 < (a0.size : Int)) = true := decide_eq_true c3
      have c3b1 : decide (4096 < a0.size) = true := decide_eq_true (by omega)
      clear c3
      obtain rfl := Option.some.inj H
      go_enter Tryd.func8, Tryd.ntmps8
      go_wp2
      go_ret
      exact ⟨by first | rfl | (simp [errW_none, errW_some] <;> rfl) | (simp [*, errW_none, errW_some] <;> rfl), by repeat (first | (with_reducible first | exact HB.out | apply below_alloc | apply pw_below_drewN | apply below_drew1) | exact HB.out)⟩
    · rw [if_neg c3] at H
      have c3b0 : decide (4096 < (a0.size : Int)) = false := decide_eq_false c3
      have c3b1 : decide (4096 < a0.size) = false := decide_eq_false (by omega)
      clear c3
      replace H := Option.bind_eq_some_iff.mp H
      obtain ⟨t290, A40, H⟩ := H
      replace H : ((spec_Read.f k t290).bind fun bt291 => (if bt291.2.2.2.2 = true then (if bt291.1 = 4 then ((spec_UTF8.f k t290).bind fun t301 => (if t301 = true then ((impl_GjValid.f k t290).bind fun t302 => (some t302)) else (some false))) else (some false)) else (some false))) = some r := H
      have A4 := Aside0.mk A40
      clear A40
      replace H := Option.bind_eq_some_iff.mp H
      obtain ⟨⟨t291, t292, t293, t296, t299⟩, A50, H⟩ := H
      replace H : (if t299 = true then (if t291 = 4 then ((spec_UTF8.f k t290).bind fun t301 => (if t301 = true then ((impl_GjValid.f k t290).bind fun t302 => (some t302)) else (some false))) else (some false)) else (some false)) = some r := H
      have A5 := Aside0.mk A50
      clear A50
      by_cases c6 : t299 = true
      · subst c6
        have H1 : (if t291 = 4 then ((spec_UTF8.f k t290).bind fun t301 => (if t301 = true then ((impl_GjValid.f k t290).bind fun t302 => (some t302)) else (some false))) else (some false)) = some r := by rw [if_pos rfl] at H; exact H
        clear H
        have H := H1
        clear H1
        by_cases c7 : t291 = 4
        · rw [if_pos c7] at H
          have c7b0 : (t291 == 4) = true := beq_iff_eq.mpr c7
          have c7b1 : (t291 != 4) = false := bne_eq_false_iff_eq.mpr c7
          clear c7
          replace H := Option.bind_eq_some_iff.mp H
          obtain ⟨t301, A80, H⟩ := H
          replace H : (if t301 = true then ((impl_GjValid.f k t290).bind fun t302 => (some t302)) else (some false)) = some r := H
          have A8 := Aside0.mk A80
          clear A80
          by_cases c9 : t301 = true
          · subst c9
            have H1 : ((impl_GjValid.f k t290).bind fun t302 => (some t302)) = some r := by rw [if_pos rfl] at H; exact H
            clear H
            have H := H1
            clear H1
            replace H := Option.bind_eq_some_iff.mp H
            obtain ⟨t302, A100, H⟩ := H
            replace H : (some t302) = some r := H
            have A10 := Aside0.mk A100
            clear A100
            obtain rfl := Option.some.inj H
            go_enter Tryd.func8, Tryd.ntmps8
            go_wp2_with (first | ((with_reducible refine gate_callee (f := 24) rfl ?_); refine goesL_ (some 13) rfl rfl Tryd.func24 (by kernel_rfl) rfl #[.string a0] rfl (by (try simp only [List.map_toArray, List.map_cons, List.map_nil]); first | done | rfl | (simp only [List.length_drop, List.length_take]; rfl)) ?_; (with_reducible refine (impl_GjQuote.calls k a0 t290 _ ?side1 A4.out).mono ?_); (case side1 => exact Glob.below HG.out (by repeat (first | (with_reducible first | exact HB.out | apply below_alloc | apply pw_below_drewN | apply below_drew1) | exact HB.out))); rintro e w11 ⟨rfl, hb⟩; refine ⟨_, rfl, ?_⟩; have n0_ := Aside0.mk (below_step (by repeat (first | (with_reducible first | exact HB.out | apply below_alloc | apply pw_below_drewN | apply below_drew1) | exact HB.out)) hb); clear HB; have HB := n0_; clear n0_; (try clear hb); (try clear hb2); (try clear hk); (try clear hi)) | ((with_reducible refine gate_callee (f := 25) rfl ?_); refine goesL_ (some 16) rfl rfl Tryd.func25 (by kernel_rfl) rfl #[.string t290] rfl (by (try simp only [List.map_toArray, List.map_cons, List.map_nil]); first | done | rfl | (simp only [List.length_drop, List.length_take]; rfl)) ?_; (with_reducible refine (spec_Read.calls k t290 t291 t292 t293 t296 true _ A5.out).mono ?_); rintro e w12 ⟨v294, v297, rfl, ho0, ho1, hb⟩; refine ⟨_, rfl, ?_⟩; have n0_ := Aside0.mk (Kd.R_lower ho0 (below_size (by repeat (first | (with_reducible first | exact HB.out | apply below_alloc | apply pw_below_drewN | apply below_drew1) | exact HB.out)))); have n1_ := Aside0.mk (Kd.R_lower ho1 (below_size (by repeat (first | (with_reducible first | exact HB.out | apply below_alloc | apply pw_below_drewN | apply below_drew1) | exact HB.out)))); have n2_ := Aside0.mk (below_step (by repeat (first | (with_reducible first | exact HB.out | apply below_alloc | apply pw_below_drewN | apply below_drew1) | exact HB.out)) hb); clear HB; have HO295 := n0_; have HO298 := n1_; have HB := n2_; clear n0_ n1_ n2_; (try clear hb); (try clear hb2); (try clear hk); (try clear hi); (try clear ho0); (try clear ho1)) | ((with_reducible refine gate_dst (N := 4) rfl ?_); refine box_event ?hg (N := 4) ?hd (cs := #[.int .i64 0, .string (⟨#[]⟩ : ByteArray), .slice none 0 0, .slice none 0 0]) (t := 36) ?hr ?_; (case hd => rfl); (case hg => rfl); (case hr => first | (go_simp; done) | (go_simp; rfl)); intro gb300 hg w13 hbox hb; have n0_ := Aside0.mk (Kd.R_below (by (with_reducible repeat (first | apply Kd.R_alloc | apply Kd.R_drewN | apply Kd.R_drew)); exact HO295.out) hb); have n1_ := Aside0.mk (Kd.R_below (Kd.R_elderB (by (with_reducible repeat (first | apply Kd.R_alloc | apply Kd.R_drewN | apply Kd.R_drew)); exact HO298.out) gb300 (Nat.le_of_eq hg.symm)) hb); have n2_ := Aside0.mk (below_step (by repeat (first | (with_reducible first | exact HB.out | apply below_alloc | apply pw_below_drewN | apply below_drew1) | exact HB.out)) hb); have n3_ := Aside0.mk (hbox); have n4_ := Aside0.mk ((by rw [hg]; exact (below_size (by repeat (first | (with_reducible first | exact HB.out | apply below_alloc | apply pw_below_drewN | apply below_drew1) | exact HB.out))) : w.heap.size ≤ gb300)); have n5_ := Aside0.mk ((by rw [hg]; exact (below_size (by repeat (first | (with_reducible first | exact HB.out | apply below_alloc | apply pw_below_drewN | apply below_drew1) | exact HB.out))) : w.heap.size ≤ gb300)); clear HO295; clear HO298; clear HB; have HO295 := n0_; have HO298 := n1_; have HB := n2_; have BK300 := n3_; have GW300 := n4_; have GE300 := n5_; clear n0_ n1_ n2_ n3_ n4_ n5_; clear hb hbox hg; have hcz14_0 : w13.cell? ⟨gb300, 0, none⟩ = some (.int .i64 0) := (blk_cell BK300.out 0).trans rfl; have hcz14_1 : w13.cell? ⟨gb300, 1, none⟩ = some (.string (⟨#[]⟩ : ByteArray)) := (blk_cell BK300.out 1).trans rfl; have hcz14_2 : w13.cell? ⟨gb300, 2, none⟩ = some (.slice none 0 0) := (blk_cell BK300.out 2).trans rfl; have hcz14_3 : w13.cell? ⟨gb300, 3, none⟩ = some (.slice none 0 0) := (blk_cell BK300.out 3).trans rfl; have hfz14_0 := blk_frozen BK300.out 0; have hfz14_1 := blk_frozen BK300.out 1; have hfz14_2 := blk_frozen BK300.out 2; have hfz14_3 := blk_frozen BK300.out 3; obtain ⟨Ao15, co15, eo15⟩ := Kd.R_slice HO295.out; subst eo15; obtain ⟨Ao16, co16, eo16⟩ := Kd.R_slice HO298.out; subst eo16) | (go_at_call 17; (with_reducible refine (spec_UTF8.calls k t290 true _ A8.out).mono ?_); rintro e w' ⟨rfl, ⟨nd, rfl⟩⟩) | (go_at_call 26; (with_reducible refine (impl_GjValid.calls k t290 t302 _ A10.out).mono ?_); rintro e w17 ⟨rfl, hb⟩; have n0_ := Aside0.mk (Kd.R_below (by (with_reducible repeat (first | apply Kd.R_alloc | apply Kd.R_drewN | apply Kd.R_drew)); exact (Kd.R_mono (Kd.R_far (p := ⟨gb300, 3, none⟩) (Kd.R_far (p := ⟨gb300, 2, none⟩) (Kd.R_far (p := ⟨gb300, 1, none⟩) (Kd.R_far (p := ⟨gb300, 0, none⟩) (Kd.R_types HO295.out BK300.out (by decide)) (fun _ hk => hk.2) (.int .i64 t291)) (fun _ hk => hk.2) (.string t292)) (fun _ hk => hk.2) (.slice Ao15 t293.length co15)) (fun _ hk => hk.2) (.slice Ao16 t296.length co16)) (fun _ h_ => h_.1))) hb); have n1_ := Aside0.mk (Kd.R_below (by (with_reducible repeat (first | apply Kd.R_alloc | apply Kd.R_drewN | apply Kd.R_drew)); exact (Kd.R_mono (Kd.R_far (p := ⟨gb300, 3, none⟩) (Kd.R_far (p := ⟨gb300, 2, none⟩) (Kd.R_far (p := ⟨gb300, 1, none⟩) (Kd.R_far (p := ⟨gb300, 0, none⟩) (Kd.R_mono HO298.out (fun k_ hk => (⟨hk, hk.2⟩ : _ ∧ k_ ≠ gb300))) (fun _ hk => hk.2) (.int .i64 t291)) (fun _ hk => hk.2) (.string t292)) (fun _ hk => hk.2) (.slice Ao15 t293.length co15)) (fun _ hk => hk.2) (.slice Ao16 t296.length co16)) (fun _ h_ => h_.1))) hb); have n2_ := Aside0.mk (blk_below (g := gb300) (o := .cells #[.int .i64 t291, .string t292, .slice Ao15 t293.length co15, .slice Ao16 t296.length co16] 36 (0, 0)) (by (with_reducible repeat (first | refine blk_drewN ?_ _ | refine blk_drew ?_ | refine blk_alloc ?_ _)); refine blk_put (cs := #[.int .i64 t291, .string t292, .slice Ao15 t293.length co15, .slice none 0 0]) ?_ 3 _ rfl; (with_reducible repeat (first | refine blk_drewN ?_ _ | refine blk_drew ?_ | refine blk_alloc ?_ _)); refine blk_put (cs := #[.int .i64 t291, .string t292, .slice none 0 0, .slice none 0 0]) ?_ 2 _ rfl; (with_reducible repeat (first | refine blk_drewN ?_ _ | refine blk_drew ?_ | refine blk_alloc ?_ _)); refine blk_put (cs := #[.int .i64 t291, .string (⟨#[]⟩ : ByteArray), .slice none 0 0, .slice none 0 0]) ?_ 1 _ rfl; (with_reducible repeat (first | refine blk_drewN ?_ _ | refine blk_drew ?_ | refine blk_alloc ?_ _)); refine blk_put (cs := #[.int .i64 0, .string (⟨#[]⟩ : ByteArray), .slice none 0 0, .slice none 0 0]) ?_ 0 _ rfl; (with_reducible repeat (first | refine blk_drewN ?_ _ | refine blk_drew ?_ | refine blk_alloc ?_ _)); exact BK300.out) hb); have n3_ := Aside0.mk (below_step (by repeat (first | (with_reducible first | exact HB.out | apply below_alloc | apply pw_below_drewN | apply below_drew1 | refine below_set ?_ GE300.out) | exact HB.out)) hb); clear HO295; clear HO298; clear BK300; clear HB; have HO295 := n0_; have HO298 := n1_; have BK300 := n2_; have HB := n3_; clear n0_ n1_ n2_ n3_; (try clear hb); (try clear hb2); (try clear hk); (try clear hi)))
            go_ret
            exact ⟨by first | rfl | (simp [errW_none, errW_some] <;> rfl) | (simp [*, errW_none, errW_some] <;> rfl), by repeat (first | (with_reducible first | exact HB.out | apply below_alloc | apply pw_below_drewN | apply below_drew1 | refine below_set ?_ GE300.out) | exact HB.out)⟩
          · replace c9 := Bool.eq_false_iff.mpr c9
            subst c9
            have H1 : (some false) = some r := by rw [if_neg (show ¬ (false = true) by decide)] at H; exact H
            clear H
            have H := H1
            clear H1
            obtain rfl := Option.some.inj H
            go_enter Tryd.func8, Tryd.ntmps8
            go_wp2_with (first | ((with_reducible refine gate_callee (f := 24) rfl ?_); refine goesL_ (some 13) rfl rfl Tryd.func24 (by kernel_rfl) rfl #[.string a0] rfl (by (try simp only [List.map_toArray, List.map_cons, List.map_nil]); first | done | rfl | (simp only [List.length_drop, List.length_take]; rfl)) ?_; (with_reducible refine (impl_GjQuote.calls k a0 t290 _ ?side1 A4.out).mono ?_); (case side1 => exact Glob.below HG.out (by repeat (first | (with_reducible first | exact HB.out | apply below_alloc | apply pw_below_drewN | apply below_drew1) | exact HB.out))); rintro e w18 ⟨rfl, hb⟩; refine ⟨_, rfl, ?_⟩; have n0_ := Aside0.mk (below_step (by repeat (first | (with_reducible first | exact HB.out | apply below_alloc | apply pw_below_drewN | apply below_drew1) | exact HB.out)) hb); clear HB; have HB := n0_; clear n0_; (try clear hb); (try clear hb2); (try clear hk); (try clear hi)) | ((with_reducible refine gate_callee (f := 25) rfl ?_); refine goesL_ (some 16) rfl rfl Tryd.func25 (by kernel_rfl) rfl #[.string t290] rfl (by (try simp only [List.map_toArray, List.map_cons, List.map_nil]); first | done | rfl | (simp only [List.length_drop, List.length_take]; rfl)) ?_; (with_reducible refine (spec_Read.calls k t290 t291 t292 t293 t296 true _ A5.out).mono ?_); rintro e w19 ⟨v294, v297, rfl, ho0, ho1, hb⟩; refine ⟨_, rfl, ?_⟩; have n0_ := Aside0.mk (Kd.R_lower ho0 (below_size (by repeat (first | (with_reducible first | exact HB.out | apply below_alloc | apply pw_below_drewN | apply below_drew1) | exact HB.out)))); have n1_ := Aside0.mk (Kd.R_lower ho1 (below_size (by repeat (first | (with_reducible first | exact HB.out | apply below_alloc | apply pw_below_drewN | apply below_drew1) | exact HB.out)))); have n2_ := Aside0.mk (below_step (by repeat (first | (with_reducible first | exact HB.out | apply below_alloc | apply pw_below_drewN | apply below_drew1) | exact HB.out)) hb); clear HB; have HO295 := n0_; have HO298 := n1_; have HB := n2_; clear n0_ n1_ n2_; (try clear hb); (try clear hb2); (try clear hk); (try clear hi); (try clear ho0); (try clear ho1)) | ((with_reducible refine gate_dst (N := 4) rfl ?_); refine box_event ?hg (N := 4) ?hd (cs := #[.int .i64 0, .string (⟨#[]⟩ : ByteArray), .slice none 0 0, .slice none 0 0]) (t := 36) ?hr ?_; (case hd => rfl); (case hg => rfl); (case hr => first | (go_simp; done) | (go_simp; rfl)); intro gb300 hg w20 hbox hb; have n0_ := Aside0.mk (Kd.R_below (by (with_reducible repeat (first | apply Kd.R_alloc | apply Kd.R_drewN | apply Kd.R_drew)); exact HO295.out) hb); have n1_ := Aside0.mk (Kd.R_below (Kd.R_elderB (by (with_reducible repeat (first | apply Kd.R_alloc | apply Kd.R_drewN | apply Kd.R_drew)); exact HO298.out) gb300 (Nat.le_of_eq hg.symm)) hb); have n2_ := Aside0.mk (below_step (by repeat (first | (with_reducible first | exact HB.out | apply below_alloc | apply pw_below_drewN | apply below_drew1) | exact HB.out)) hb); have n3_ := Aside0.mk (hbox); have n4_ := Aside0.mk ((by rw [hg]; exact (below_size (by repeat (first | (with_reducible first | exact HB.out | apply below_alloc | apply pw_below_drewN | apply below_drew1) | exact HB.out))) : w.heap.size ≤ gb300)); have n5_ := Aside0.mk ((by rw [hg]; exact (below_size (by repeat (first | (with_reducible first | exact HB.out | apply below_alloc | apply pw_below_drewN | apply below_drew1) | exact HB.out))) : w.heap.size ≤ gb300)); clear HO295; clear HO298; clear HB; have HO295 := n0_; have HO298 := n1_; have HB := n2_; have BK300 := n3_; have GW300 := n4_; have GE300 := n5_; clear n0_ n1_ n2_ n3_ n4_ n5_; clear hb hbox hg; have hcz21_0 : w20.cell? ⟨gb300, 0, none⟩ = some (.int .i64 0) := (blk_cell BK300.out 0).trans rfl; have hcz21_1 : w20.cell? ⟨gb300, 1, none⟩ = some (.string (⟨#[]⟩ : ByteArray)) := (blk_cell BK300.out 1).trans rfl; have hcz21_2 : w20.cell? ⟨gb300, 2, none⟩ = some (.slice none 0 0) := (blk_cell BK300.out 2).trans rfl; have hcz21_3 : w20.cell? ⟨gb300, 3, none⟩ = some (.slice none 0 0) := (blk_cell BK300.out 3).trans rfl; have hfz21_0 := blk_frozen BK300.out 0; have hfz21_1 := blk_frozen BK300.out 1; have hfz21_2 := blk_frozen BK300.out 2; have hfz21_3 := blk_frozen BK300.out 3; obtain ⟨Ao22, co22, eo22⟩ := Kd.R_slice HO295.out; subst eo22; obtain ⟨Ao23, co23, eo23⟩ := Kd.R_slice HO298.out; subst eo23) | (go_at_call 17; (with_reducible refine (spec_UTF8.calls k t290 false _ A8.out).mono ?_); rintro e w' ⟨rfl, ⟨nd, rfl⟩⟩))
            go_ret
            exact ⟨by first | rfl | (simp [errW_none, errW_some] <;> rfl) | (simp [*, errW_none, errW_some] <;> rfl), by repeat (first | (with_reducible first | exact HB.out | apply below_alloc | apply pw_below_drewN | apply below_drew1 | refine below_set ?_ GE300.out) | exact HB.out)⟩
        · rw [if_neg c7] at H
          have c7b0 : (t291 == 4) = false := beq_eq_false_iff_ne.mpr c7
          have c7b1 : (t291 != 4) = true := bne_iff_ne.mpr c7
          obtain rfl := Option.some.inj H
          go_enter Tryd.func8, Tryd.ntmps8
          go_wp2_with (first | ((with_reducible refine gate_callee (f := 24) rfl ?_); refine goesL_ (some 13) rfl rfl Tryd.func24 (by kernel_rfl) rfl #[.string a0] rfl (by (try simp only [List.map_toArray, List.map_cons, List.map_nil]); first | done | rfl | (simp only [List.length_drop, List.length_take]; rfl)) ?_; (with_reducible refine (impl_GjQuote.calls k a0 t290 _ ?side1 A4.out).mono ?_); (case side1 => exact Glob.below HG.out (by repeat (first | (with_reducible first | exact HB.out | apply below_alloc | apply pw_below_drewN | apply below_drew1) | exact HB.out))); rintro e w24 ⟨rfl, hb⟩; refine ⟨_, rfl, ?_⟩; have n0_ := Aside0.mk (below_step (by repeat (first | (with_reducible first | exact HB.out | apply below_alloc | apply pw_below_drewN | apply below_drew1) | exact HB.out)) hb); clear HB; have HB := n0_; clear n0_; (try clear hb); (try clear hb2); (try clear hk); (try clear hi)) | ((with_reducible refine gate_callee (f := 25) rfl ?_); refine goesL_ (some 16) rfl rfl Tryd.func25 (by kernel_rfl) rfl #[.string t290] rfl (by (try simp only [List.map_toArray, List.map_cons, List.map_nil]); first | done | rfl | (simp only [List.length_drop, List.length_take]; rfl)) ?_; (with_reducible refine (spec_Read.calls k t290 t291 t292 t293 t296 true _ A5.out).mono ?_); rintro e w25 ⟨v294, v297, rfl, ho0, ho1, hb⟩; refine ⟨_, rfl, ?_⟩; have n0_ := Aside0.mk (Kd.R_lower ho0 (below_size (by repeat (first | (with_reducible first | exact HB.out | apply below_alloc | apply pw_below_drewN | apply below_drew1) | exact HB.out)))); have n1_ := Aside0.mk (Kd.R_lower ho1 (below_size (by repeat (first | (with_reducible first | exact HB.out | apply below_alloc | apply pw_below_drewN | apply below_drew1) | exact HB.out)))); have n2_ := Aside0.mk (below_step (by repeat (first | (with_reducible first | exact HB.out | apply below_alloc | apply pw_below_drewN | apply below_drew1) | exact HB.out)) hb); clear HB; have HO295 := n0_; have HO298 := n1_; have HB := n2_; clear n0_ n1_ n2_; (try clear hb); (try clear hb2); (try clear hk); (try clear hi); (try clear ho0); (try clear ho1)) | ((with_reducible refine gate_dst (N := 4) rfl ?_); refine box_event ?hg (N := 4) ?hd (cs := #[.int .i64 0, .string (⟨#[]⟩ : ByteArray), .slice none 0 0, .slice none 0 0]) (t := 36) ?hr ?_; (case hd => rfl); (case hg => rfl); (case hr => first | (go_simp; done) | (go_simp; rfl)); intro gb300 hg w26 hbox hb; have n0_ := Aside0.mk (Kd.R_below (by (with_reducible repeat (first | apply Kd.R_alloc | apply Kd.R_drewN | apply Kd.R_drew)); exact HO295.out) hb); have n1_ := Aside0.mk (Kd.R_below (Kd.R_elderB (by (with_reducible repeat (first | apply Kd.R_alloc | apply Kd.R_drewN | apply Kd.R_drew)); exact HO298.out) gb300 (Nat.le_of_eq hg.symm)) hb); have n2_ := Aside0.mk (below_step (by repeat (first | (with_reducible first | exact HB.out | apply below_alloc | apply pw_below_drewN | apply below_drew1) | exact HB.out)) hb); have n3_ := Aside0.mk (hbox); have n4_ := Aside0.mk ((by rw [hg]; exact (below_size (by repeat (first | (with_reducible first | exact HB.out | apply below_alloc | apply pw_below_drewN | apply below_drew1) | exact HB.out))) : w.heap.size ≤ gb300)); have n5_ := Aside0.mk ((by rw [hg]; exact (below_size (by repeat (first | (with_reducible first | exact HB.out | apply below_alloc | apply pw_below_drewN | apply below_drew1) | exact HB.out))) : w.heap.size ≤ gb300)); clear HO295; clear HO298; clear HB; have HO295 := n0_; have HO298 := n1_; have HB := n2_; have BK300 := n3_; have GW300 := n4_; have GE300 := n5_; clear n0_ n1_ n2_ n3_ n4_ n5_; clear hb hbox hg; have hcz27_0 : w26.cell? ⟨gb300, 0, none⟩ = some (.int .i64 0) := (blk_cell BK300.out 0).trans rfl; have hcz27_1 : w26.cell? ⟨gb300, 1, none⟩ = some (.string (⟨#[]⟩ : ByteArray)) := (blk_cell BK300.out 1).trans rfl; have hcz27_2 : w26.cell? ⟨gb300, 2, none⟩ = some (.slice none 0 0) := (blk_cell BK300.out 2).trans rfl; have hcz27_3 : w26.cell? ⟨gb300, 3, none⟩ = some (.slice none 0 0) := (blk_cell BK300.out 3).trans rfl; have hfz27_0 := blk_frozen BK300.out 0; have hfz27_1 := blk_frozen BK300.out 1; have hfz27_2 := blk_frozen BK300.out 2; have hfz27_3 := blk_frozen BK300.out 3; obtain ⟨Ao28, co28, eo28⟩ := Kd.R_slice HO295.out; subst eo28; obtain ⟨Ao29, co29, eo29⟩ := Kd.R_slice HO298.out; subst eo29))
          go_ret
          exact ⟨by first | rfl | (simp [errW_none, errW_some] <;> rfl) | (simp [*, errW_none, errW_some] <;> rfl), by repeat (first | (with_reducible first | exact HB.out | apply below_alloc | apply pw_below_drewN | apply below_drew1 | refine below_set ?_ GE300.out) | exact HB.out)⟩
      · replace c6 := Bool.eq_false_iff.mpr c6
        subst c6
        have H1 : (some false) = some r := by rw [if_neg (show ¬ (false = true) by decide)] at H; exact H
        clear H
        have H := H1
        clear H1
        obtain rfl := Option.some.inj H
        go_enter Tryd.func8, Tryd.ntmps8
        go_wp2_with (first | ((with_reducible refine gate_callee (f := 24) rfl ?_); refine goesL_ (some 13) rfl rfl Tryd.func24 (by kernel_rfl) rfl #[.string a0] rfl (by (try simp only [List.map_toArray, List.map_cons, List.map_nil]); first | done | rfl | (simp only [List.length_drop, List.length_take]; rfl)) ?_; (with_reducible refine (impl_GjQuote.calls k a0 t290 _ ?side1 A4.out).mono ?_); (case side1 => exact Glob.below HG.out (by repeat (first | (with_reducible first | exact HB.out | apply below_alloc | apply pw_below_drewN | apply below_drew1) | exact HB.out))); rintro e w30 ⟨rfl, hb⟩; refine ⟨_, rfl, ?_⟩; have n0_ := Aside0.mk (below_step (by repeat (first | (with_reducible first | exact HB.out | apply below_alloc | apply pw_below_drewN | apply below_drew1) | exact HB.out)) hb); clear HB; have HB := n0_; clear n0_; (try clear hb); (try clear hb2); (try clear hk); (try clear hi)) | ((with_reducible refine gate_callee (f := 25) rfl ?_); refine goesL_ (some 16) rfl rfl Tryd.func25 (by kernel_rfl) rfl #[.string t290] rfl (by (try simp only [List.map_toArray, List.map_cons, List.map_nil]); first | done | rfl | (simp only [List.length_drop, List.length_take]; rfl)) ?_; (with_reducible refine (spec_Read.calls k t290 t291 t292 t293 t296 false _ A5.out).mono ?_); rintro e w31 ⟨v294, v297, rfl, ho0, ho1, hb⟩; refine ⟨_, rfl, ?_⟩; have n0_ := Aside0.mk (Kd.R_lower ho0 (below_size (by repeat (first | (with_reducible first | exact HB.out | apply below_alloc | apply pw_below_drewN | apply below_drew1) | exact HB.out)))); have n1_ := Aside0.mk (Kd.R_lower ho1 (below_size (by repeat (first | (with_reducible first | exact HB.out | apply below_alloc | apply pw_below_drewN | apply below_drew1) | exact HB.out)))); have n2_ := Aside0.mk (below_step (by repeat (first | (with_reducible first | exact HB.out | apply below_alloc | apply pw_below_drewN | apply below_drew1) | exact HB.out)) hb); clear HB; have HO295 := n0_; have HO298 := n1_; have HB := n2_; clear n0_ n1_ n2_; (try clear hb); (try clear hb2); (try clear hk); (try clear hi); (try clear ho0); (try clear ho1)) | ((with_reducible refine gate_dst (N := 4) rfl ?_); refine box_event ?hg (N := 4) ?hd (cs := #[.int .i64 0, .string (⟨#[]⟩ : ByteArray), .slice none 0 0, .slice none 0 0]) (t := 36) ?hr ?_; (case hd => rfl); (case hg => rfl); (case hr => first | (go_simp; done) | (go_simp; rfl)); intro gb300 hg w32 hbox hb; have n0_ := Aside0.mk (Kd.R_below (by (with_reducible repeat (first | apply Kd.R_alloc | apply Kd.R_drewN | apply Kd.R_drew)); exact HO295.out) hb); have n1_ := Aside0.mk (Kd.R_below (Kd.R_elderB (by (with_reducible repeat (first | apply Kd.R_alloc | apply Kd.R_drewN | apply Kd.R_drew)); exact HO298.out) gb300 (Nat.le_of_eq hg.symm)) hb); have n2_ := Aside0.mk (below_step (by repeat (first | (with_reducible first | exact HB.out | apply below_alloc | apply pw_below_drewN | apply below_drew1) | exact HB.out)) hb); have n3_ := Aside0.mk (hbox); have n4_ := Aside0.mk ((by rw [hg]; exact (below_size (by repeat (first | (with_reducible first | exact HB.out | apply below_alloc | apply pw_below_drewN | apply below_drew1) | exact HB.out))) : w.heap.size ≤ gb300)); have n5_ := Aside0.mk ((by rw [hg]; exact (below_size (by repeat (first | (with_reducible first | exact HB.out | apply below_alloc | apply pw_below_drewN | apply below_drew1) | exact HB.out))) : w.heap.size ≤ gb300)); clear HO295; clear HO298; clear HB; have HO295 := n0_; have HO298 := n1_; have HB := n2_; have BK300 := n3_; have GW300 := n4_; have GE300 := n5_; clear n0_ n1_ n2_ n3_ n4_ n5_; clear hb hbox hg; have hcz33_0 : w32.cell? ⟨gb300, 0, none⟩ = some (.int .i64 0) := (blk_cell BK300.out 0).trans rfl; have hcz33_1 : w32.cell? ⟨gb300, 1, none⟩ = some (.string (⟨#[]⟩ : ByteArray)) := (blk_cell BK300.out 1).trans rfl; have hcz33_2 : w32.cell? ⟨gb300, 2, none⟩ = some (.slice none 0 0) := (blk_cell BK300.out 2).trans rfl; have hcz33_3 : w32.cell? ⟨gb300, 3, none⟩ = some (.slice none 0 0) := (blk_cell BK300.out 3).trans rfl; have hfz33_0 := blk_frozen BK300.out 0; have hfz33_1 := blk_frozen BK300.out 1; have hfz33_2 := blk_frozen BK300.out 2; have hfz33_3 := blk_frozen BK300.out 3; obtain ⟨Ao34, co34, eo34⟩ := Kd.R_slice HO295.out; subst eo34; obtain ⟨Ao35, co35, eo35⟩ := Kd.R_slice HO298.out; subst eo35))
        go_ret
        exact ⟨by first | rfl | (simp [errW_none, errW_some] <;> rfl) | (simp [*, errW_none, errW_some] <;> rfl), by repeat (first | (with_reducible first | exact HB.out | apply below_alloc | apply pw_below_drewN | apply below_drew1 | refine below_set ?_ GE300.out) | exact HB.out)⟩

/-- THE ONE PURE STATEMENT of laws_FnGjQuoteValid: yours. -/
def laws_FnGjQuoteValid.Pure : Prop := ∀ (a0 : ByteArray), a0.size ≤ 140737488351232 → ∃ k, laws_FnGjQuoteValid.f k a0 = some true
theorem laws_FnGjQuoteValid.walk (P : laws_FnGjQuoteValid.Pure) (a0 : ByteArray) (w : World) (w0 : a0.size ≤ 140737488351232) (hG : Glob w) :
    Calls Tryd.prog 8 #[.string a0] w fun e w' => e = .returned (.bool true) ∧ Below w.heap.size w w' := by
  obtain ⟨k, h⟩ := P a0 w0
  refine (laws_FnGjQuoteValid.calls k a0 true w hG h).mono ?_
  rintro e w' ⟨rfl, hd⟩
  exact ⟨rfl, hd⟩

end Go.Proofs.YtdllbnecbbggfaaDoor.XFnGjQuoteValid
