-- Written by xprint.py of this session (a program that runs the kit's print and adds to it); Lean checks it.
import Derived.Test.YtdllbnecbbggfaaDoorXFnGjQuoteValidx0
import Derived.Test.YtdllbnecbbggfaaDoorXFnGjQuoteValidx4
import Derived.Test.YtdllbnecbbggfaaDoorXFnGjQuoteValidx6
namespace Go.Proofs.YtdllbnecbbggfaaDoor.XFnGjQuoteValid
open Go.RowKit Go.Proofs.YtdllbnecbbggfaaDoorW.PrintWords Go.Proofs.YtdllbnecbbggfaaDoorW.PrintLast Go.Proofs.YtdllbnecbbggfaaDoorW.PrintMore
attribute [local go_sem] max2_int min2_int max_two min_two max_three min_three max_four min_four   -- for this text's walks alone
set_option linter.unusedVariables false
set_option linter.unusedSimpArgs false

/-! ### spec_Read: function 25 -/
def spec_Read.f (k : Nat) (a0 : ByteArray) : Option (Int × ByteArray × List ByteArray × (List (S36)) × Bool) := (spec_Places.f k a0).bind fun bt251 => (if bt251.2.2.2.2.2 = true then ((spec_Tree.f k a0 bt251.1 bt251.2.1 bt251.2.2.1 bt251.2.2.2.1 bt251.2.2.2.2.1).bind fun bt262 => (some (bt262.1, bt262.2.1, bt262.2.2.1, bt262.2.2.2, true))) else (some (0, (⟨#[]⟩ : ByteArray), ([] : List ByteArray), ([] : List (S36)), false)))
theorem spec_Read.mono : ∀ a0 k, LeO (spec_Read.f k a0) (spec_Read.f (k + 1) a0) := by
  intro a0 k
  unfold spec_Read.f
  repeat' first
      | (with_reducible exact spec_Places.mono _ _)
      | (with_reducible exact spec_Tree.mono _ _ _ _ _ _ _)
      | (with_reducible exact LeO.refl _)
      | (with_reducible exact LeO.none _)
      | (with_reducible refine LeO.ite ?_ ?_)
      | (with_reducible refine LeO.bind ?_ (fun _ => ?_))
      | exact spec_Places.mono _ _
      | exact spec_Tree.mono _ _ _ _ _ _ _
      | exact LeO.none _
      | refine LeO.ite ?_ ?_
      | refine LeO.bind ?_ (fun _ => ?_)
set_option maxHeartbeats 8000000 in
set_option maxRecDepth 100000 in
theorem spec_Read.calls (k : Nat) (a0 : ByteArray) (r1 : Int) (r2 : ByteArray) (r3 : List ByteArray) (r4 : List (S36)) (r5 : Bool) (w : World) (h : spec_Read.f k a0 = some (r1, r2, r3, r4, r5)) :
    Calls Tryd.prog 25 #[.string a0] w fun e w' => ∃ v2_ v3_ : Value, e = .returned (.tuple #[.agg #[.int .i64 r1, .string r2, v2_, v3_], .bool r5]) ∧ Kd.R Kd.string 9 w' w.heap.size (fun _ => True) v2_ r3 ∧ Kd.R k36 36 w' w.heap.size (fun k_ => some k_ ≠ (v2_ : Value).ownBlock) v3_ r4 ∧ Below w.heap.size w w' := by
  have hu36 := Tryd.underlying36
  have hu56 := Tryd.underlying56
  have HB := Aside0.mk (Below.refl w.heap.size w)
  have H : ((spec_Places.f k a0).bind fun bt251 => (if bt251.2.2.2.2.2 = true then ((spec_Tree.f k a0 bt251.1 bt251.2.1 bt251.2.2.1 bt251.2.2.2.1 bt251.2.2.2.2.1).bind fun bt262 => (some (bt262.1, bt262.2.1, bt262.2.2.1, bt262.2.2.2, true))) else (some (0, (⟨#[]⟩ : ByteArray), ([] : List ByteArray), ([] : List (S36)), false)))) = some (r1, r2, r3, r4, r5) := h
  clear h
  replace H := Option.bind_eq_some_iff.mp H
  obtain ⟨⟨t251, t252, t253, t254, t257, t260⟩, A20, H⟩ := H
  replace H : (if t260 = true then ((spec_Tree.f k a0 t251 t252 t253 t254 t257).bind fun bt262 => (some (bt262.1, bt262.2.1, bt262.2.2.1, bt262.2.2.2, true))) else (some (0, (⟨#[]⟩ : ByteArray), ([] : List ByteArray), ([] : List (S36)), false))) = some (r1, r2, r3, r4, r5) := H
  have A2 := Aside0.mk A20
  clear A20
  by_cases c3 : t260 = true
  · subst c3
    have H1 : ((spec_Tree.f k a0 t251 t252 t253 t254 t257).bind fun bt262 => (some (bt262.1, bt262.2.1, bt262.2.2.1, bt262.2.2.2, true))) = some (r1, r2, r3, r4, r5) := by rw [if_pos rfl] at H; exact H
    clear H
    have H := H1
    clear H1
    replace H := Option.bind_eq_some_iff.mp H
    obtain ⟨⟨t262, t263, t264, t267⟩, A40, H⟩ := H
    replace H : (some (t262, t263, t264, t267, true)) = some (r1, r2, r3, r4, r5) := H
    have A4 := Aside0.mk A40
    clear A40
    simp only [Option.some.injEq, Prod.mk.injEq] at H
    obtain ⟨rfl, rfl, rfl, rfl, rfl⟩ := H
    go_enter Tryd.func25, Tryd.ntmps25
    go_wp2_with (first | ((with_reducible refine gate_dst (N := 2) rfl ?_); refine box_event ?hg (N := 2) ?hd (cs := #[.int .i64 0, .string (⟨#[]⟩ : ByteArray), .slice none 0 0, .slice none 0 0]) (t := 36) ?hr ?_; (case hd => rfl); (case hg => rfl); (case hr => first | (go_simp; done) | (go_simp; rfl)); intro gb250 hg w5 hbox hb; have n0_ := Aside0.mk (below_step (by repeat (first | (with_reducible first | exact HB.out | apply below_alloc | apply pw_below_drewN | apply below_drew1) | exact HB.out)) hb); have n1_ := Aside0.mk (hbox); have n2_ := Aside0.mk ((by rw [hg]; exact (below_size (by repeat (first | (with_reducible first | exact HB.out | apply below_alloc | apply pw_below_drewN | apply below_drew1) | exact HB.out))) : w.heap.size ≤ gb250)); have n3_ := Aside0.mk ((by rw [hg]; exact (below_size (by repeat (first | (with_reducible first | exact HB.out | apply below_alloc | apply pw_below_drewN | apply below_drew1) | exact HB.out))) : w.heap.size ≤ gb250)); clear HB; have HB := n0_; have BK250 := n1_; have GW250 := n2_; have GE250 := n3_; clear n0_ n1_ n2_ n3_; clear hb hbox hg) | ((with_reducible refine gate_callee (f := 42) rfl ?_); refine goesL_ (some 8) rfl rfl Tryd.func42 (by kernel_rfl) rfl #[.string a0] rfl (by (try simp only [List.map_toArray, List.map_cons, List.map_nil]); first | done | rfl | (simp only [List.length_drop, List.length_take]; rfl)) ?_; (with_reducible refine (spec_Places.calls k a0 t251 t252 t253 t254 t257 true _ A2.out).mono ?_); rintro e w6 ⟨v255, v258, rfl, ho0, ho1, hb⟩; refine ⟨_, rfl, ?_⟩; have n0_ := Aside0.mk (Kd.R_lower ho0 (below_size (by repeat (first | (with_reducible first | exact HB.out | apply below_alloc | apply pw_below_drewN | apply below_drew1 | refine below_set ?_ GE250.out) | exact HB.out)))); have n1_ := Aside0.mk (Kd.R_lower ho1 (below_size (by repeat (first | (with_reducible first | exact HB.out | apply below_alloc | apply pw_below_drewN | apply below_drew1 | refine below_set ?_ GE250.out) | exact HB.out)))); have n2_ := Aside0.mk (blk_below (g := gb250) (o := .cells #[.int .i64 0, .string (⟨#[]⟩ : ByteArray), .slice none 0 0, .slice none 0 0] 36 (0, 0)) (by (with_reducible repeat (first | refine blk_drewN ?_ _ | refine blk_drew ?_ | refine blk_alloc ?_ _)); exact BK250.out) hb); have n3_ := Aside0.mk (below_step (by repeat (first | (with_reducible first | exact HB.out | apply below_alloc | apply pw_below_drewN | apply below_drew1 | refine below_set ?_ GE250.out) | exact HB.out)) hb); clear BK250; clear HB; have HO256 := n0_; have HO259 := n1_; have BK250 := n2_; have HB := n3_; clear n0_ n1_ n2_ n3_; (try clear hb); (try clear hb2); (try clear hk); (try clear hi); (try clear ho0); (try clear ho1)) | ((with_reducible refine gate_dst (N := 4) rfl ?_); refine box_event ?hg (N := 4) ?hd (cs := #[.int .i64 0, .int .i64 0, .int .i64 0, .slice none 0 0, .slice none 0 0]) (t := 56) ?hr ?_; (case hd => rfl); (case hg => rfl); (case hr => first | (go_simp; done) | (go_simp; rfl)); intro gb261 hg w7 hbox hb; have n0_ := Aside0.mk (Kd.R_below (by (with_reducible repeat (first | apply Kd.R_alloc | apply Kd.R_drewN | apply Kd.R_drew)); exact HO256.out) hb); have n1_ := Aside0.mk (Kd.R_below (Kd.R_elderB (by (with_reducible repeat (first | apply Kd.R_alloc | apply Kd.R_drewN | apply Kd.R_drew)); exact HO259.out) gb261 (Nat.le_of_eq hg.symm)) hb); have n2_ := Aside0.mk (blk_below (g := gb250) (o := .cells #[.int .i64 0, .string (⟨#[]⟩ : ByteArray), .slice none 0 0, .slice none 0 0] 36 (0, 0)) (by (with_reducible repeat (first | refine blk_drewN ?_ _ | refine blk_drew ?_ | refine blk_alloc ?_ _)); exact BK250.out) hb); have n3_ := Aside0.mk (below_step (by repeat (first | (with_reducible first | exact HB.out | apply below_alloc | apply pw_below_drewN | apply below_drew1 | refine below_set ?_ GE250.out) | exact HB.out)) hb); have n4_ := Aside0.mk (hbox); have n5_ := Aside0.mk ((by rw [hg]; exact (below_size (by repeat (first | (with_reducible first | exact HB.out | apply below_alloc | apply pw_below_drewN | apply below_drew1 | refine below_set ?_ GE250.out) | exact HB.out))) : w.heap.size ≤ gb261)); have n6_ := Aside0.mk ((by rw [hg]; exact (below_size (by repeat (first | (with_reducible first | exact HB.out | apply below_alloc | apply pw_below_drewN | apply below_drew1 | refine below_set ?_ GE250.out) | exact HB.out))) : w.heap.size ≤ gb261)); have n7_ := Aside0.mk ((by rw [hg]; exact Nat.ne_of_lt (blk_lt (g := gb250) (o := .cells #[.int .i64 0, .string (⟨#[]⟩ : ByteArray), .slice none 0 0, .slice none 0 0] 36 (0, 0)) (by (with_reducible repeat (first | refine blk_drewN ?_ _ | refine blk_drew ?_ | refine blk_alloc ?_ _)); exact BK250.out)) : gb250 ≠ gb261)); have n8_ := Aside0.mk ((by rw [hg]; exact Nat.ne_of_gt (blk_lt (g := gb250) (o := .cells #[.int .i64 0, .string (⟨#[]⟩ : ByteArray), .slice none 0 0, .slice none 0 0] 36 (0, 0)) (by (with_reducible repeat (first | refine blk_drewN ?_ _ | refine blk_drew ?_ | refine blk_alloc ?_ _)); exact BK250.out)) : gb261 ≠ gb250)); clear HO256; clear HO259; clear BK250; clear HB; have HO256 := n0_; have HO259 := n1_; have BK250 := n2_; have HB := n3_; have BK261 := n4_; have GW261 := n5_; have GE261 := n6_; have NB250_261 := n7_; have NB261_250 := n8_; clear n0_ n1_ n2_ n3_ n4_ n5_ n6_ n7_ n8_; clear hb hbox hg; have hnb8 := NB261_250.out; have hnc8 := NB250_261.out; have hcz9_0 : w7.cell? ⟨gb261, 0, none⟩ = some (.int .i64 0) := (blk_cell BK261.out 0).trans rfl; have hcz9_1 : w7.cell? ⟨gb261, 1, none⟩ = some (.int .i64 0) := (blk_cell BK261.out 1).trans rfl; have hcz9_2 : w7.cell? ⟨gb261, 2, none⟩ = some (.int .i64 0) := (blk_cell BK261.out 2).trans rfl; have hcz9_3 : w7.cell? ⟨gb261, 3, none⟩ = some (.slice none 0 0) := (blk_cell BK261.out 3).trans rfl; have hcz9_4 : w7.cell? ⟨gb261, 4, none⟩ = some (.slice none 0 0) := (blk_cell BK261.out 4).trans rfl; have hfz9_0 := blk_frozen BK261.out 0; have hfz9_1 := blk_frozen BK261.out 1; have hfz9_2 := blk_frozen BK261.out 2; have hfz9_3 := blk_frozen BK261.out 3; have hfz9_4 := blk_frozen BK261.out 4; obtain ⟨Ao10, co10, eo10⟩ := Kd.R_slice HO256.out; subst eo10; obtain ⟨Ao11, co11, eo11⟩ := Kd.R_slice HO259.out; subst eo11) | ((with_reducible refine gate_callee (f := 43) rfl ?_); refine goesL_ (some 16) rfl rfl Tryd.func43 (by kernel_rfl) rfl #[.string a0, .agg #[.int .i64 t251, .int .i64 t252, .int .i64 t253, .slice Ao10 t254.length co10, .slice Ao11 t257.length co11]] rfl (by (try simp only [List.map_toArray, List.map_cons, List.map_nil]); first | done | rfl | (simp only [List.length_drop, List.length_take]; rfl)) ?_; (with_reducible refine (spec_Tree.calls k a0 t251 t252 t253 _ _ t254 _ _ t257 t262 t263 t264 t267 _ ?side1 ?side2 ?side3 ?side4 A4.out).mono ?_); (case side1 => refine (Kd.R_reads' (e := 87) (base := w.heap.size) (ok := fun k_ => True) (n := t254.length) (c := co10) ?_).2.2; exact (by (with_reducible repeat (first | apply Kd.R_alloc | apply Kd.R_drewN | apply Kd.R_drew)); exact (Kd.R_mono (Kd.R_far (p := ⟨gb261, 4, none⟩) (Kd.R_far (p := ⟨gb261, 3, none⟩) (Kd.R_far (p := ⟨gb261, 2, none⟩) (Kd.R_far (p := ⟨gb261, 1, none⟩) (Kd.R_far (p := ⟨gb261, 0, none⟩) (Kd.R_types HO256.out BK261.out (by decide)) (fun _ hk => hk.2) (.int .i64 t251)) (fun _ hk => hk.2) (.int .i64 t252)) (fun _ hk => hk.2) (.int .i64 t253)) (fun _ hk => hk.2) (.slice Ao10 t254.length co10)) (fun _ hk => hk.2) (.slice Ao11 t257.length co11)) (fun _ h_ => h_.1)))); (case side2 => exact (Kd.R_reads' HO256.out).2.1); (case side3 => refine (Kd.R_reads' (e := 56) (base := w.heap.size) (ok := fun k_ => (some k_ ≠ (.slice Ao10 t254.length co10 : Value).ownBlock ∧ k_ ≠ gb261)) (n := t257.length) (c := co11) ?_).2.2; exact (by (with_reducible repeat (first | apply Kd.R_alloc | apply Kd.R_drewN | apply Kd.R_drew)); exact (Kd.R_mono (Kd.R_far (p := ⟨gb261, 4, none⟩) (Kd.R_far (p := ⟨gb261, 3, none⟩) (Kd.R_far (p := ⟨gb261, 2, none⟩) (Kd.R_far (p := ⟨gb261, 1, none⟩) (Kd.R_far (p := ⟨gb261, 0, none⟩) (Kd.R_mono HO259.out (fun k_ hk => (⟨hk, hk.2⟩ : _ ∧ k_ ≠ gb261))) (fun _ hk => hk.2) (.int .i64 t251)) (fun _ hk => hk.2) (.int .i64 t252)) (fun _ hk => hk.2) (.int .i64 t253)) (fun _ hk => hk.2) (.slice Ao10 t254.length co10)) (fun _ hk => hk.2) (.slice Ao11 t257.length co11)) (fun _ h_ => h_.1)))); (case side4 => exact (Kd.R_reads' HO259.out).2.1); rintro e w12 ⟨v265, v268, rfl, ho0, ho1, hb⟩; refine ⟨_, rfl, ?_⟩; have n0_ := Aside0.mk (Kd.R_below (by (with_reducible repeat (first | apply Kd.R_alloc | apply Kd.R_drewN | apply Kd.R_drew)); exact (Kd.R_mono (Kd.R_far (p := ⟨gb261, 4, none⟩) (Kd.R_far (p := ⟨gb261, 3, none⟩) (Kd.R_far (p := ⟨gb261, 2, none⟩) (Kd.R_far (p := ⟨gb261, 1, none⟩) (Kd.R_far (p := ⟨gb261, 0, none⟩) (Kd.R_types HO256.out BK261.out (by decide)) (fun _ hk => hk.2) (.int .i64 t251)) (fun _ hk => hk.2) (.int .i64 t252)) (fun _ hk => hk.2) (.int .i64 t253)) (fun _ hk => hk.2) (.slice Ao10 t254.length co10)) (fun _ hk => hk.2) (.slice Ao11 t257.length co11)) (fun _ h_ => h_.1))) hb); have n1_ := Aside0.mk (Kd.R_below (by (with_reducible repeat (first | apply Kd.R_alloc | apply Kd.R_drewN | apply Kd.R_drew)); exact (Kd.R_mono (Kd.R_far (p := ⟨gb261, 4, none⟩) (Kd.R_far (p := ⟨gb261, 3, none⟩) (Kd.R_far (p := ⟨gb261, 2, none⟩) (Kd.R_far (p := ⟨gb261, 1, none⟩) (Kd.R_far (p := ⟨gb261, 0, none⟩) (Kd.R_mono HO259.out (fun k_ hk => (⟨hk, hk.2⟩ : _ ∧ k_ ≠ gb261))) (fun _ hk => hk.2) (.int .i64 t251)) (fun _ hk => hk.2) (.int .i64 t252)) (fun _ hk => hk.2) (.int .i64 t253)) (fun _ hk => hk.2) (.slice Ao10 t254.length co10)) (fun _ hk => hk.2) (.slice Ao11 t257.length co11)) (fun _ h_ => h_.1))) hb); have n2_ := Aside0.mk (Kd.R_lower ho0 (below_size (by repeat (first | (with_reducible first | exact HB.out | apply below_alloc | apply pw_below_drewN | apply below_drew1 | refine below_set ?_ GE250.out | refine below_set ?_ GE261.out) | exact HB.out)))); have n3_ := Aside0.mk (Kd.R_lower (Kd.R_newB ho1 (g := gb250) (o := .cells #[.int .i64 0, .string (⟨#[]⟩ : ByteArray), .slice none 0 0, .slice none 0 0] 36 (0, 0)) (by (with_reducible repeat (first | refine blk_drewN ?_ _ | refine blk_drew ?_ | refine blk_alloc ?_ _)); refine blk_far ?_ NB250_261.out _; (with_reducible repeat (first | refine blk_drewN ?_ _ | refine blk_drew ?_ | refine blk_alloc ?_ _)); refine blk_far ?_ NB250_261.out _; (with_reducible repeat (first | refine blk_drewN ?_ _ | refine blk_drew ?_ | refine blk_alloc ?_ _)); refine blk_far ?_ NB250_261.out _; (with_reducible repeat (first | refine blk_drewN ?_ _ | refine blk_drew ?_ | refine blk_alloc ?_ _)); refine blk_far ?_ NB250_261.out _; (with_reducible repeat (first | refine blk_drewN ?_ _ | refine blk_drew ?_ | refine blk_alloc ?_ _)); refine blk_far ?_ NB250_261.out _; (with_reducible repeat (first | refine blk_drewN ?_ _ | refine blk_drew ?_ | refine blk_alloc ?_ _)); exact BK250.out)) (below_size (by repeat (first | (with_reducible first | exact HB.out | apply below_alloc | apply pw_below_drewN | apply below_drew1 | refine below_set ?_ GE250.out | refine below_set ?_ GE261.out) | exact HB.out)))); have n4_ := Aside0.mk (blk_below (g := gb250) (o := .cells #[.int .i64 0, .string (⟨#[]⟩ : ByteArray), .slice none 0 0, .slice none 0 0] 36 (0, 0)) (by (with_reducible repeat (first | refine blk_drewN ?_ _ | refine blk_drew ?_ | refine blk_alloc ?_ _)); refine blk_far ?_ NB250_261.out _; (with_reducible repeat (first | refine blk_drewN ?_ _ | refine blk_drew ?_ | refine blk_alloc ?_ _)); refine blk_far ?_ NB250_261.out _; (with_reducible repeat (first | refine blk_drewN ?_ _ | refine blk_drew ?_ | refine blk_alloc ?_ _)); refine blk_far ?_ NB250_261.out _; (with_reducible repeat (first | refine blk_drewN ?_ _ | refine blk_drew ?_ | refine blk_alloc ?_ _)); refine blk_far ?_ NB250_261.out _; (with_reducible repeat (first | refine blk_drewN ?_ _ | refine blk_drew ?_ | refine blk_alloc ?_ _)); refine blk_far ?_ NB250_261.out _; (with_reducible repeat (first | refine blk_drewN ?_ _ | refine blk_drew ?_ | refine blk_alloc ?_ _)); exact BK250.out) hb); have n5_ := Aside0.mk (blk_below (g := gb261) (o := .cells #[.int .i64 t251, .int .i64 t252, .int .i64 t253, .slice Ao10 t254.length co10, .slice Ao11 t257.length co11] 56 (0, 0)) (by (with_reducible repeat (first | refine blk_drewN ?_ _ | refine blk_drew ?_ | refine blk_alloc ?_ _)); refine blk_put (cs := #[.int .i64 t251, .int .i64 t252, .int .i64 t253, .slice Ao10 t254.length co10, .slice none 0 0]) ?_ 4 _ rfl; (with_reducible repeat (first | refine blk_drewN ?_ _ | refine blk_drew ?_ | refine blk_alloc ?_ _)); refine blk_put (cs := #[.int .i64 t251, .int .i64 t252, .int .i64 t253, .slice none 0 0, .slice none 0 0]) ?_ 3 _ rfl; (with_reducible repeat (first | refine blk_drewN ?_ _ | refine blk_drew ?_ | refine blk_alloc ?_ _)); refine blk_put (cs := #[.int .i64 t251, .int .i64 t252, .int .i64 0, .slice none 0 0, .slice none 0 0]) ?_ 2 _ rfl; (with_reducible repeat (first | refine blk_drewN ?_ _ | refine blk_drew ?_ | refine blk_alloc ?_ _)); refine blk_put (cs := #[.int .i64 t251, .int .i64 0, .int .i64 0, .slice none 0 0, .slice none 0 0]) ?_ 1 _ rfl; (with_reducible repeat (first | refine blk_drewN ?_ _ | refine blk_drew ?_ | refine blk_alloc ?_ _)); refine blk_put (cs := #[.int .i64 0, .int .i64 0, .int .i64 0, .slice none 0 0, .slice none 0 0]) ?_ 0 _ rfl; (with_reducible repeat (first | refine blk_drewN ?_ _ | refine blk_drew ?_ | refine blk_alloc ?_ _)); exact BK261.out) hb); have n6_ := Aside0.mk (below_step (by repeat (first | (with_reducible first | exact HB.out | apply below_alloc | apply pw_below_drewN | apply below_drew1 | refine below_set ?_ GE250.out | refine below_set ?_ GE261.out) | exact HB.out)) hb); clear HO256; clear HO259; clear BK250; clear BK261; clear HB; have HO256 := n0_; have HO259 := n1_; have HO266 := n2_; have HO269 := n3_; have BK250 := n4_; have BK261 := n5_; have HB := n6_; clear n0_ n1_ n2_ n3_ n4_ n5_ n6_; (try clear hb); (try clear hb2); (try clear hk); (try clear hi); (try clear ho0); (try clear ho1); have hcz13_0 : w12.cell? ⟨gb250, 0, none⟩ = some (.int .i64 0) := (blk_cell BK250.out 0).trans rfl; have hcz13_1 : w12.cell? ⟨gb250, 1, none⟩ = some (.string (⟨#[]⟩ : ByteArray)) := (blk_cell BK250.out 1).trans rfl; have hcz13_2 : w12.cell? ⟨gb250, 2, none⟩ = some (.slice none 0 0) := (blk_cell BK250.out 2).trans rfl; have hcz13_3 : w12.cell? ⟨gb250, 3, none⟩ = some (.slice none 0 0) := (blk_cell BK250.out 3).trans rfl; have hfz13_0 := blk_frozen BK250.out 0; have hfz13_1 := blk_frozen BK250.out 1; have hfz13_2 := blk_frozen BK250.out 2; have hfz13_3 := blk_frozen BK250.out 3; obtain ⟨Ao14, co14, eo14⟩ := Kd.R_slice HO266.out; subst eo14; obtain ⟨Ao15, co15, eo15⟩ := Kd.R_slice HO269.out; subst eo15))
    refine bodyPost_ret (results_ct rfl _ _ gb250 36 #[.int .i64 t262, .string t263, .slice Ao14 t264.length co14, .slice Ao15 t267.length co15] (0, 0) _ rfl (by (with_reducible repeat (first | refine blk_drewN ?_ _ | refine blk_drew ?_ | refine blk_alloc ?_ _)); refine blk_put (cs := #[.int .i64 t262, .string t263, .slice Ao14 t264.length co14, .slice none 0 0]) ?_ 3 _ rfl; (with_reducible repeat (first | refine blk_drewN ?_ _ | refine blk_drew ?_ | refine blk_alloc ?_ _)); refine blk_put (cs := #[.int .i64 t262, .string t263, .slice none 0 0, .slice none 0 0]) ?_ 2 _ rfl; (with_reducible repeat (first | refine blk_drewN ?_ _ | refine blk_drew ?_ | refine blk_alloc ?_ _)); refine blk_put (cs := #[.int .i64 t262, .string (⟨#[]⟩ : ByteArray), .slice none 0 0, .slice none 0 0]) ?_ 1 _ rfl; (with_reducible repeat (first | refine blk_drewN ?_ _ | refine blk_drew ?_ | refine blk_alloc ?_ _)); refine blk_put (cs := #[.int .i64 0, .string (⟨#[]⟩ : ByteArray), .slice none 0 0, .slice none 0 0]) ?_ 0 _ rfl; (with_reducible repeat (first | refine blk_drewN ?_ _ | refine blk_drew ?_ | refine blk_alloc ?_ _)); exact BK250.out) Tryd.underlying36 rfl (by kernel_rfl)) rfl ?_
    exact ⟨_, _, by first | rfl | (simp [errW_none, errW_some] <;> rfl) | (simp [*, errW_none, errW_some] <;> rfl), by (with_reducible repeat (first | apply Kd.R_alloc | apply Kd.R_drewN | apply Kd.R_drew)); exact Kd.R_mono (Kd.R_far (p := ⟨gb250, 3, none⟩) (Kd.R_far (p := ⟨gb250, 2, none⟩) (Kd.R_far (p := ⟨gb250, 1, none⟩) (Kd.R_far (p := ⟨gb250, 0, none⟩) (Kd.R_types HO266.out BK250.out (by decide)) (fun _ hk => hk.2) (.int .i64 t262)) (fun _ hk => hk.2) (.string t263)) (fun _ hk => hk.2) (.slice Ao14 t264.length co14)) (fun _ hk => hk.2) (.slice Ao15 t267.length co15)) (fun _ hk => trivial), by (with_reducible repeat (first | apply Kd.R_alloc | apply Kd.R_drewN | apply Kd.R_drew)); exact Kd.R_mono (Kd.R_far (p := ⟨gb250, 3, none⟩) (Kd.R_far (p := ⟨gb250, 2, none⟩) (Kd.R_far (p := ⟨gb250, 1, none⟩) (Kd.R_far (p := ⟨gb250, 0, none⟩) (Kd.R_mono HO269.out (fun k_ hk => (⟨hk, hk.2⟩ : _ ∧ k_ ≠ gb250))) (fun _ hk => hk.2) (.int .i64 t262)) (fun _ hk => hk.2) (.string t263)) (fun _ hk => hk.2) (.slice Ao14 t264.length co14)) (fun _ hk => hk.2) (.slice Ao15 t267.length co15)) (fun _ hk => hk.1.1), by repeat (first | (with_reducible first | exact HB.out | apply below_alloc | apply pw_below_drewN | apply below_drew1 | refine below_set ?_ GE250.out | refine below_set ?_ GE261.out) | exact HB.out)⟩
  · replace c3 := Bool.eq_false_iff.mpr c3
    subst c3
    have H1 : (some (0, (⟨#[]⟩ : ByteArray), ([] : List ByteArray), ([] : List (S36)), false)) = some (r1, r2, r3, r4, r5) := by rw [if_neg (show ¬ (false = true) by decide)] at H; exact H
    clear H
    have H := H1
    clear H1
    simp only [Option.some.injEq, Prod.mk.injEq] at H
    obtain ⟨rfl, rfl, rfl, rfl, rfl⟩ := H
    go_enter Tryd.func25, Tryd.ntmps25
    go_wp2_with (first | ((with_reducible refine gate_dst (N := 2) rfl ?_); refine box_event ?hg (N := 2) ?hd (cs := #[.int .i64 0, .string (⟨#[]⟩ : ByteArray), .slice none 0 0, .slice none 0 0]) (t := 36) ?hr ?_; (case hd => rfl); (case hg => rfl); (case hr => first | (go_simp; done) | (go_simp; rfl)); intro gb250 hg w16 hbox hb; have n0_ := Aside0.mk (below_step (by repeat (first | (with_reducible first | exact HB.out | apply below_alloc | apply pw_below_drewN | apply below_drew1) | exact HB.out)) hb); have n1_ := Aside0.mk (hbox); have n2_ := Aside0.mk ((by rw [hg]; exact (below_size (by repeat (first | (with_reducible first | exact HB.out | apply below_alloc | apply pw_below_drewN | apply below_drew1) | exact HB.out))) : w.heap.size ≤ gb250)); have n3_ := Aside0.mk ((by rw [hg]; exact (below_size (by repeat (first | (with_reducible first | exact HB.out | apply below_alloc | apply pw_below_drewN | apply below_drew1) | exact HB.out))) : w.heap.size ≤ gb250)); clear HB; have HB := n0_; have BK250 := n1_; have GW250 := n2_; have GE250 := n3_; clear n0_ n1_ n2_ n3_; clear hb hbox hg) | ((with_reducible refine gate_callee (f := 42) rfl ?_); refine goesL_ (some 8) rfl rfl Tryd.func42 (by kernel_rfl) rfl #[.string a0] rfl (by (try simp only [List.map_toArray, List.map_cons, List.map_nil]); first | done | rfl | (simp only [List.length_drop, List.length_take]; rfl)) ?_; (with_reducible refine (spec_Places.calls k a0 t251 t252 t253 t254 t257 false _ A2.out).mono ?_); rintro e w17 ⟨v255, v258, rfl, ho0, ho1, hb⟩; refine ⟨_, rfl, ?_⟩; have n0_ := Aside0.mk (Kd.R_lower ho0 (below_size (by repeat (first | (with_reducible first | exact HB.out | apply below_alloc | apply pw_below_drewN | apply below_drew1 | refine below_set ?_ GE250.out) | exact HB.out)))); have n1_ := Aside0.mk (Kd.R_lower ho1 (below_size (by repeat (first | (with_reducible first | exact HB.out | apply below_alloc | apply pw_below_drewN | apply below_drew1 | refine below_set ?_ GE250.out) | exact HB.out)))); have n2_ := Aside0.mk (blk_below (g := gb250) (o := .cells #[.int .i64 0, .string (⟨#[]⟩ : ByteArray), .slice none 0 0, .slice none 0 0] 36 (0, 0)) (by (with_reducible repeat (first | refine blk_drewN ?_ _ | refine blk_drew ?_ | refine blk_alloc ?_ _)); exact BK250.out) hb); have n3_ := Aside0.mk (below_step (by repeat (first | (with_reducible first | exact HB.out | apply below_alloc | apply pw_below_drewN | apply below_drew1 | refine below_set ?_ GE250.out) | exact HB.out)) hb); clear BK250; clear HB; have HO256 := n0_; have HO259 := n1_; have BK250 := n2_; have HB := n3_; clear n0_ n1_ n2_ n3_; (try clear hb); (try clear hb2); (try clear hk); (try clear hi); (try clear ho0); (try clear ho1)) | ((with_reducible refine gate_dst (N := 4) rfl ?_); refine box_event ?hg (N := 4) ?hd (cs := #[.int .i64 0, .int .i64 0, .int .i64 0, .slice none 0 0, .slice none 0 0]) (t := 56) ?hr ?_; (case hd => rfl); (case hg => rfl); (case hr => first | (go_simp; done) | (go_simp; rfl)); intro gb261 hg w18 hbox hb; have n0_ := Aside0.mk (Kd.R_below (by (with_reducible repeat (first | apply Kd.R_alloc | apply Kd.R_drewN | apply Kd.R_drew)); exact HO256.out) hb); have n1_ := Aside0.mk (Kd.R_below (Kd.R_elderB (by (with_reducible repeat (first | apply Kd.R_alloc | apply Kd.R_drewN | apply Kd.R_drew)); exact HO259.out) gb261 (Nat.le_of_eq hg.symm)) hb); have n2_ := Aside0.mk (blk_below (g := gb250) (o := .cells #[.int .i64 0, .string (⟨#[]⟩ : ByteArray), .slice none 0 0, .slice none 0 0] 36 (0, 0)) (by (with_reducible repeat (first | refine blk_drewN ?_ _ | refine blk_drew ?_ | refine blk_alloc ?_ _)); exact BK250.out) hb); have n3_ := Aside0.mk (below_step (by repeat (first | (with_reducible first | exact HB.out | apply below_alloc | apply pw_below_drewN | apply below_drew1 | refine below_set ?_ GE250.out) | exact HB.out)) hb); have n4_ := Aside0.mk (hbox); have n5_ := Aside0.mk ((by rw [hg]; exact (below_size (by repeat (first | (with_reducible first | exact HB.out | apply below_alloc | apply pw_below_drewN | apply below_drew1 | refine below_set ?_ GE250.out) | exact HB.out))) : w.heap.size ≤ gb261)); have n6_ := Aside0.mk ((by rw [hg]; exact (below_size (by repeat (first | (with_reducible first | exact HB.out | apply below_alloc | apply pw_below_drewN | apply below_drew1 | refine below_set ?_ GE250.out) | exact HB.out))) : w.heap.size ≤ gb261)); have n7_ := Aside0.mk ((by rw [hg]; exact Nat.ne_of_lt (blk_lt (g := gb250) (o := .cells #[.int .i64 0, .string (⟨#[]⟩ : ByteArray), .slice none 0 0, .slice none 0 0] 36 (0, 0)) (by (with_reducible repeat (first | refine blk_drewN ?_ _ | refine blk_drew ?_ | refine blk_alloc ?_ _)); exact BK250.out)) : gb250 ≠ gb261)); have n8_ := Aside0.mk ((by rw [hg]; exact Nat.ne_of_gt (blk_lt (g := gb250) (o := .cells #[.int .i64 0, .string (⟨#[]⟩ : ByteArray), .slice none 0 0, .slice none 0 0] 36 (0, 0)) (by (with_reducible repeat (first | refine blk_drewN ?_ _ | refine blk_drew ?_ | refine blk_alloc ?_ _)); exact BK250.out)) : gb261 ≠ gb250)); clear HO256; clear HO259; clear BK250; clear HB; have HO256 := n0_; have HO259 := n1_; have BK250 := n2_; have HB := n3_; have BK261 := n4_; have GW261 := n5_; have GE261 := n6_; have NB250_261 := n7_; have NB261_250 := n8_; clear n0_ n1_ n2_ n3_ n4_ n5_ n6_ n7_ n8_; clear hb hbox hg; have hnb19 := NB261_250.out; have hnc19 := NB250_261.out; have hcz20_0 : w18.cell? ⟨gb261, 0, none⟩ = some (.int .i64 0) := (blk_cell BK261.out 0).trans rfl; have hcz20_1 : w18.cell? ⟨gb261, 1, none⟩ = some (.int .i64 0) := (blk_cell BK261.out 1).trans rfl; have hcz20_2 : w18.cell? ⟨gb261, 2, none⟩ = some (.int .i64 0) := (blk_cell BK261.out 2).trans rfl; have hcz20_3 : w18.cell? ⟨gb261, 3, none⟩ = some (.slice none 0 0) := (blk_cell BK261.out 3).trans rfl; have hcz20_4 : w18.cell? ⟨gb261, 4, none⟩ = some (.slice none 0 0) := (blk_cell BK261.out 4).trans rfl; have hfz20_0 := blk_frozen BK261.out 0; have hfz20_1 := blk_frozen BK261.out 1; have hfz20_2 := blk_frozen BK261.out 2; have hfz20_3 := blk_frozen BK261.out 3; have hfz20_4 := blk_frozen BK261.out 4; obtain ⟨Ao21, co21, eo21⟩ := Kd.R_slice HO256.out; subst eo21; obtain ⟨Ao22, co22, eo22⟩ := Kd.R_slice HO259.out; subst eo22; have hcz23_0 : w18.cell? ⟨gb250, 0, none⟩ = some (.int .i64 0) := (blk_cell BK250.out 0).trans rfl; have hcz23_1 : w18.cell? ⟨gb250, 1, none⟩ = some (.string (⟨#[]⟩ : ByteArray)) := (blk_cell BK250.out 1).trans rfl; have hcz23_2 : w18.cell? ⟨gb250, 2, none⟩ = some (.slice none 0 0) := (blk_cell BK250.out 2).trans rfl; have hcz23_3 : w18.cell? ⟨gb250, 3, none⟩ = some (.slice none 0 0) := (blk_cell BK250.out 3).trans rfl; have hfz23_0 := blk_frozen BK250.out 0; have hfz23_1 := blk_frozen BK250.out 1; have hfz23_2 := blk_frozen BK250.out 2; have hfz23_3 := blk_frozen BK250.out 3))
    refine bodyPost_ret (results_ct rfl _ _ gb250 36 #[.int .i64 0, .string (⟨#[]⟩ : ByteArray), .slice none 0 0, .slice none 0 0] (0, 0) _ rfl (by (with_reducible repeat (first | refine blk_drewN ?_ _ | refine blk_drew ?_ | refine blk_alloc ?_ _)); refine blk_put (cs := #[.int .i64 0, .string (⟨#[]⟩ : ByteArray), .slice none 0 0, .slice none 0 0]) ?_ 3 _ rfl; (with_reducible repeat (first | refine blk_drewN ?_ _ | refine blk_drew ?_ | refine blk_alloc ?_ _)); refine blk_put (cs := #[.int .i64 0, .string (⟨#[]⟩ : ByteArray), .slice none 0 0, .slice none 0 0]) ?_ 2 _ rfl; (with_reducible repeat (first | refine blk_drewN ?_ _ | refine blk_drew ?_ | refine blk_alloc ?_ _)); refine blk_put (cs := #[.int .i64 0, .string (⟨#[]⟩ : ByteArray), .slice none 0 0, .slice none 0 0]) ?_ 1 _ rfl; (with_reducible repeat (first | refine blk_drewN ?_ _ | refine blk_drew ?_ | refine blk_alloc ?_ _)); refine blk_put (cs := #[.int .i64 0, .string (⟨#[]⟩ : ByteArray), .slice none 0 0, .slice none 0 0]) ?_ 0 _ rfl; (with_reducible repeat (first | refine blk_drewN ?_ _ | refine blk_drew ?_ | refine blk_alloc ?_ _)); refine blk_far ?_ NB250_261.out _; (with_reducible repeat (first | refine blk_drewN ?_ _ | refine blk_drew ?_ | refine blk_alloc ?_ _)); refine blk_far ?_ NB250_261.out _; (with_reducible repeat (first | refine blk_drewN ?_ _ | refine blk_drew ?_ | refine blk_alloc ?_ _)); refine blk_far ?_ NB250_261.out _; (with_reducible repeat (first | refine blk_drewN ?_ _ | refine blk_drew ?_ | refine blk_alloc ?_ _)); refine blk_far ?_ NB250_261.out _; (with_reducible repeat (first | refine blk_drewN ?_ _ | refine blk_drew ?_ | refine blk_alloc ?_ _)); refine blk_far ?_ NB250_261.out _; (with_reducible repeat (first | refine blk_drewN ?_ _ | refine blk_drew ?_ | refine blk_alloc ?_ _)); exact BK250.out) Tryd.underlying36 rfl (by kernel_rfl)) rfl ?_
    exact ⟨_, _, by first | rfl | (simp [errW_none, errW_some] <;> rfl) | (simp [*, errW_none, errW_some] <;> rfl), by first | exact Kd.R_nil _ _ _ _ _ | exact Kd.N_nil _ _ _ _ _ | exact Kd.V_nil _ _ _ _ _ | exact Kd.Q_nil _ _ _ _ _ | exact Kd.S_nil _ _ _ _ _, by first | exact Kd.R_nil _ _ _ _ _ | exact Kd.N_nil _ _ _ _ _ | exact Kd.V_nil _ _ _ _ _ | exact Kd.Q_nil _ _ _ _ _ | exact Kd.S_nil _ _ _ _ _, by repeat (first | (with_reducible first | exact HB.out | apply below_alloc | apply pw_below_drewN | apply below_drew1 | refine below_set ?_ GE250.out | refine below_set ?_ GE261.out) | exact HB.out)⟩

/-! ### gjson_validobject: function 90 -/
def gjson_validobject.f (l0 : List Int) (a1 : Int) : Option (Int × Bool) := none
set_option maxHeartbeats 8000000 in
set_option maxRecDepth 100000 in
theorem gjson_validobject.calls (A0 : Option Addr) (c0 : Nat) (l0 : List Int) (a1 : Int) (r1 : Int) (r2 : Bool) (w : World) (hr0 : Kd.C (Kd.int .u8) w A0 l0.length l0) (hc0 : l0.length ≤ c0) (h : gjson_validobject.f l0 a1 = some (r1, r2)) :
    Calls Tryd.prog 90 #[.slice A0 l0.length c0, .int .i64 a1] w fun e w' => e = .returned (.tuple #[.int .i64 r1, .bool r2]) ∧ Drawn0 w w' := by
  have HR0 := Aside0.mk hr0
  have HC0 := Aside0.mk hc0
  clear hr0 hc0
  have H : (none) = some (r1, r2) := h
  clear h
  exact absurd H (by simp)

/-! ### gjson_validarray: function 91 -/
def gjson_validarray.f (l0 : List Int) (a1 : Int) : Option (Int × Bool) := none
set_option maxHeartbeats 8000000 in
set_option maxRecDepth 100000 in
theorem gjson_validarray.calls (A0 : Option Addr) (c0 : Nat) (l0 : List Int) (a1 : Int) (r1 : Int) (r2 : Bool) (w : World) (hr0 : Kd.C (Kd.int .u8) w A0 l0.length l0) (hc0 : l0.length ≤ c0) (h : gjson_validarray.f l0 a1 = some (r1, r2)) :
    Calls Tryd.prog 91 #[.slice A0 l0.length c0, .int .i64 a1] w fun e w' => e = .returned (.tuple #[.int .i64 r1, .bool r2]) ∧ Drawn0 w w' := by
  have HR0 := Aside0.mk hr0
  have HC0 := Aside0.mk hc0
  clear hr0 hc0
  have H : (none) = some (r1, r2) := h
  clear h
  exact absurd H (by simp)

/-! ### gjson_ishex: function 106 -/
def gjson_ishex.f (a0 : Int) : Option (Bool) := if a0 ≥ 48 then (if a0 ≤ 57 then (some true) else (if a0 ≥ 97 then (if a0 ≤ 102 then (some true) else (if a0 ≥ 65 then (some (decide (a0 ≤ 70))) else (some false))) else (if a0 ≥ 65 then (some (decide (a0 ≤ 70))) else (some false)))) else (if a0 ≥ 97 then (if a0 ≤ 102 then (some true) else (if a0 ≥ 65 then (some (decide (a0 ≤ 70))) else (some false))) else (if a0 ≥ 65 then (some (decide (a0 ≤ 70))) else (some false)))
set_option maxHeartbeats 8000000 in
set_option maxRecDepth 100000 in
theorem gjson_ishex.calls (a0 : Int) (r : Bool) (w : World) (h : gjson_ishex.f a0 = some r) :
    Calls Tryd.prog 106 #[.int .u8 a0] w fun e w' => e = .returned (.bool r) ∧ Drawn0 w w' := by
  have H : (if a0 ≥ 48 then (if a0 ≤ 57 then (some true) else (if a0 ≥ 97 then (if a0 ≤ 102 then (some true) else (if a0 ≥ 65 then (some (decide (a0 ≤ 70))) else (some false))) else (if a0 ≥ 65 then (some (decide (a0 ≤ 70))) else (some false)))) else (if a0 ≥ 97 then (if a0 ≤ 102 then (some true) else (if a0 ≥ 65 then (some (decide (a0 ≤ 70))) else (some false))) else (if a0 ≥ 65 then (some (decide (a0 ≤ 70))) else (some false)))) = some r := h
  clear h
  by_cases c2 : a0 ≥ 48
  · rw [if_pos c2] at H
    have c2b0 : decide (48 ≤ a0) = true := decide_eq_true c2
    clear c2
    by_cases c3 : a0 ≤ 57
    · rw [if_pos c3] at H
      have c3b0 : decide (a0 ≤ 57) = true := decide_eq_true c3
      clear c3
      obtain rfl := Option.some.inj H
      go_enter Tryd.func106, Tryd.ntmps106
      go_wp2
      go_ret
      exact ⟨by first | rfl | (simp; done) | (simp [*]; done), by repeat (first | exact Drawn0.refl _ | apply Drawn0.step)⟩
    · rw [if_neg c3] at H
      have c3b0 : decide (a0 ≤ 57) = false := decide_eq_false c3
      clear c3
      by_cases c4 : a0 ≥ 97
      · rw [if_pos c4] at H
        have c4b0 : decide (97 ≤ a0) = true := decide_eq_true c4
        clear c4
        by_cases c5 : a0 ≤ 102
        · rw [if_pos c5] at H
          have c5b0 : decide (a0 ≤ 102) = true := decide_eq_true c5
          clear c5
          obtain rfl := Option.some.inj H
          go_enter Tryd.func106, Tryd.ntmps106
          go_wp2
          go_ret
          exact ⟨by first | rfl | (simp; done) | (simp [*]; done), by repeat (first | exact Drawn0.refl _ | apply Drawn0.step)⟩
        · rw [if_neg c5] at H
          have c5b0 : decide (a0 ≤ 102) = false := decide_eq_false c5
          clear c5
          by_cases c6 : a0 ≥ 65
          · rw [if_pos c6] at H
            have c6b0 : decide (65 ≤ a0) = true := decide_eq_true c6
            clear c6
            obtain rfl := Option.some.inj H
            go_enter Tryd.func106, Tryd.ntmps106
            go_wp2
            go_ret
            exact ⟨by first | rfl | (simp; done) | (simp [*]; done), by repeat (first | exact Drawn0.refl _ | apply Drawn0.step)⟩
          · rw [if_neg c6] at H
            have c6b0 : decide (65 ≤ a0) = false := decide_eq_false c6
            clear c6
            obtain rfl := Option.some.inj H
            go_enter Tryd.func106, Tryd.ntmps106
            go_wp2
            go_ret
            exact ⟨by first | rfl | (simp; done) | (simp [*]; done), by repeat (first | exact Drawn0.refl _ | apply Drawn0.step)⟩
      · rw [if_neg c4] at H
        have c4b0 : decide (97 ≤ a0) = false := decide_eq_false c4
        clear c4
        by_cases c7 : a0 ≥ 65
        · rw [if_pos c7] at H
          have c7b0 : decide (65 ≤ a0) = true := decide_eq_true c7
          clear c7
          obtain rfl := Option.some.inj H
          go_enter Tryd.func106, Tryd.ntmps106
          go_wp2
          go_ret
          exact ⟨by first | rfl | (simp; done) | (simp [*]; done), by repeat (first | exact Drawn0.refl _ | apply Drawn0.step)⟩
        · rw [if_neg c7] at H
          have c7b0 : decide (65 ≤ a0) = false := decide_eq_false c7
          clear c7
          obtain rfl := Option.some.inj H
          go_enter Tryd.func106, Tryd.ntmps106
          go_wp2
          go_ret
          exact ⟨by first | rfl | (simp; done) | (simp [*]; done), by repeat (first | exact Drawn0.refl _ | apply Drawn0.step)⟩
  · rw [if_neg c2] at H
    have c2b0 : decide (48 ≤ a0) = false := decide_eq_false c2
    clear c2
    by_cases c8 : a0 ≥ 97
    · rw [if_pos c8] at H
      have c8b0 : decide (97 ≤ a0) = true := decide_eq_true c8
      clear c8
      by_cases c9 : a0 ≤ 102
      · rw [if_pos c9] at H
        have c9b0 : decide (a0 ≤ 102) = true := decide_eq_true c9
        clear c9
        obtain rfl := Option.some.inj H
        go_enter Tryd.func106, Tryd.ntmps106
        go_wp2
        go_ret
        exact ⟨by first | rfl | (simp; done) | (simp [*]; done), by repeat (first | exact Drawn0.refl _ | apply Drawn0.step)⟩
      · rw [if_neg c9] at H
        have c9b0 : decide (a0 ≤ 102) = false := decide_eq_false c9
        clear c9
        by_cases c10 : a0 ≥ 65
        · rw [if_pos c10] at H
          have c10b0 : decide (65 ≤ a0) = true := decide_eq_true c10
          clear c10
          obtain rfl := Option.some.inj H
          go_enter Tryd.func106, Tryd.ntmps106
          go_wp2
          go_ret
          exact ⟨by first | rfl | (simp; done) | (simp [*]; done), by repeat (first | exact Drawn0.refl _ | apply Drawn0.step)⟩
        · rw [if_neg c10] at H
          have c10b0 : decide (65 ≤ a0) = false := decide_eq_false c10
          clear c10
          obtain rfl := Option.some.inj H
          go_enter Tryd.func106, Tryd.ntmps106
          go_wp2
          go_ret
          exact ⟨by first | rfl | (simp; done) | (simp [*]; done), by repeat (first | exact Drawn0.refl _ | apply Drawn0.step)⟩
    · rw [if_neg c8] at H
      have c8b0 : decide (97 ≤ a0) = false := decide_eq_false c8
      clear c8
      by_cases c11 : a0 ≥ 65
      · rw [if_pos c11] at H
        have c11b0 : decide (65 ≤ a0) = true := decide_eq_true c11
        clear c11
        obtain rfl := Option.some.inj H
        go_enter Tryd.func106, Tryd.ntmps106
        go_wp2
        go_ret
        exact ⟨by first | rfl | (simp; done) | (simp [*]; done), by repeat (first | exact Drawn0.refl _ | apply Drawn0.step)⟩
      · rw [if_neg c11] at H
        have c11b0 : decide (65 ≤ a0) = false := decide_eq_false c11
        clear c11
        obtain rfl := Option.some.inj H
        go_enter Tryd.func106, Tryd.ntmps106
        go_wp2
        go_ret
        exact ⟨by first | rfl | (simp; done) | (simp [*]; done), by repeat (first | exact Drawn0.refl _ | apply Drawn0.step)⟩

end Go.Proofs.YtdllbnecbbggfaaDoor.XFnGjQuoteValid
