/- Proved here: parts of the law FnJpGetUnsafe (the texts XFnJpGetUnsafex6 XFnJpGetUnsafex7), no conditions of their own beyond what each theorem says. -/
import Derived.Test.YtcfhnfjkiljigaaDoorPa10
import Derived.Test.YtcfhnfjkiljigaaDoorPa13
section
-- Written by xprint.py of this session (a program that runs the kit's print and adds to it); Lean checks it.
namespace Go.Proofs.YtcfhnfjkiljigaaDoor.XFnJpGetUnsafe
open Go.RowKit Go.Proofs.YtcfhnfjkiljigaaDoorW.PrintWords Go.Proofs.YtcfhnfjkiljigaaDoorW.PrintLast Go.Proofs.YtcfhnfjkiljigaaDoorW.PrintMore
attribute [local go_sem] max2_int min2_int max_two min_two max_three min_three max_four min_four   -- for this text's walks alone
set_option linter.unusedVariables false
set_option linter.unusedSimpArgs false
/-! ### spec_short: function 39 -/
def spec_short.f (a0 : Int) : Option (Int) := if a0 = 98 then (some 8) else (if a0 = 102 then (some 12) else (if a0 = 110 then (some 10) else (if a0 = 114 then (some 13) else (if a0 = 116 then (some 9) else (some a0)))))
set_option maxHeartbeats 8000000 in
set_option maxRecDepth 100000 in
theorem spec_short.calls (a0 : Int) (r : Int) (w : World) (h : spec_short.f a0 = some r) :
  Calls Tryd.prog 39 #[.int .u8 a0] w fun e w' => e = .returned (.int .u8 r) ∧ Drawn0 w w' := by
 have H : (if a0 = 98 then (some 8) else (if a0 = 102 then (some 12) else (if a0 = 110 then (some 10) else (if a0 = 114 then (some 13) else (if a0 = 116 then (some 9) else (some a0)))))) = some r := h
 clear h
 by_cases c2 : a0 = 98
 ·rw [if_pos c2] at H
  have c2b0 : (a0 == 98) = true := beq_iff_eq.mpr c2
  have c2b1 : (a0 != 98) = false := bne_eq_false_iff_eq.mpr c2
  clear c2
  obtain rfl := Option.some.inj H
  go_enter Tryd.func39, Tryd.ntmps39
  go_wp2
  go_ret
  exact ⟨by rfl, by repeat (exact Drawn0.refl _)⟩
 ·rw [if_neg c2] at H
  have c2b0 : (a0 == 98) = false := beq_eq_false_iff_ne.mpr c2
  have c2b1 : (a0 != 98) = true := bne_iff_ne.mpr c2
  by_cases c3 : a0 = 102
  ·rw [if_pos c3] at H
   have c3b0 : (a0 == 102) = true := beq_iff_eq.mpr c3
   have c3b1 : (a0 != 102) = false := bne_eq_false_iff_eq.mpr c3
   clear c3
   obtain rfl := Option.some.inj H
   go_enter Tryd.func39, Tryd.ntmps39
   go_wp2
   go_ret
   exact ⟨by rfl, by repeat (exact Drawn0.refl _)⟩
  ·rw [if_neg c3] at H
   have c3b0 : (a0 == 102) = false := beq_eq_false_iff_ne.mpr c3
   have c3b1 : (a0 != 102) = true := bne_iff_ne.mpr c3
   by_cases c4 : a0 = 110
   ·rw [if_pos c4] at H
    have c4b0 : (a0 == 110) = true := beq_iff_eq.mpr c4
    have c4b1 : (a0 != 110) = false := bne_eq_false_iff_eq.mpr c4
    clear c4
    obtain rfl := Option.some.inj H
    go_enter Tryd.func39, Tryd.ntmps39
    go_wp2
    go_ret
    exact ⟨by rfl, by repeat (exact Drawn0.refl _)⟩
   ·rw [if_neg c4] at H
    have c4b0 : (a0 == 110) = false := beq_eq_false_iff_ne.mpr c4
    have c4b1 : (a0 != 110) = true := bne_iff_ne.mpr c4
    by_cases c5 : a0 = 114
    ·rw [if_pos c5] at H
     have c5b0 : (a0 == 114) = true := beq_iff_eq.mpr c5
     have c5b1 : (a0 != 114) = false := bne_eq_false_iff_eq.mpr c5
     clear c5
     obtain rfl := Option.some.inj H
     go_enter Tryd.func39, Tryd.ntmps39
     go_wp2
     go_ret
     exact ⟨by rfl, by repeat (exact Drawn0.refl _)⟩
    ·rw [if_neg c5] at H
     have c5b0 : (a0 == 114) = false := beq_eq_false_iff_ne.mpr c5
     have c5b1 : (a0 != 114) = true := bne_iff_ne.mpr c5
     by_cases c6 : a0 = 116
     ·rw [if_pos c6] at H
      have c6b0 : (a0 == 116) = true := beq_iff_eq.mpr c6
      have c6b1 : (a0 != 116) = false := bne_eq_false_iff_eq.mpr c6
      clear c6
      obtain rfl := Option.some.inj H
      go_enter Tryd.func39, Tryd.ntmps39
      go_wp2
      go_ret
      exact ⟨by rfl, by repeat (exact Drawn0.refl _)⟩
     ·rw [if_neg c6] at H
      have c6b0 : (a0 == 116) = false := beq_eq_false_iff_ne.mpr c6
      have c6b1 : (a0 != 116) = true := bne_iff_ne.mpr c6
      obtain rfl := Option.some.inj H
      go_enter Tryd.func39, Tryd.ntmps39
      go_wp2
      go_ret
      exact ⟨by rfl, by repeat (exact Drawn0.refl _)⟩
/-! ### spec_high: function 40 -/
def spec_high.f (a0 : Int) : Option (Bool) := if 55296 ≤ a0 then (some (decide (a0 ≤ 56319))) else (some false)
set_option maxHeartbeats 8000000 in
set_option maxRecDepth 100000 in
theorem spec_high.calls (a0 : Int) (r : Bool) (w : World) (h : spec_high.f a0 = some r) :
  Calls Tryd.prog 40 #[.int .i64 a0] w fun e w' => e = .returned (.bool r) ∧ Drawn0 w w' := by
 have H : (if 55296 ≤ a0 then (some (decide (a0 ≤ 56319))) else (some false)) = some r := h
 clear h
 by_cases c2 : 55296 ≤ a0
 ·rw [if_pos c2] at H
  have c2b0 : decide (55296 ≤ a0) = true := decide_eq_true c2
  clear c2
  obtain rfl := Option.some.inj H
  go_enter Tryd.func40, Tryd.ntmps40
  go_wp2
  go_ret
  exact ⟨by rfl, by repeat (exact Drawn0.refl _)⟩
 ·rw [if_neg c2] at H
  have c2b0 : decide (55296 ≤ a0) = false := decide_eq_false c2
  clear c2
  obtain rfl := Option.some.inj H
  go_enter Tryd.func40, Tryd.ntmps40
  go_wp2
  go_ret
  exact ⟨by rfl, by repeat (exact Drawn0.refl _)⟩
/-! ### spec_low: function 41 -/
def spec_low.f (a0 : Int) : Option (Bool) := if 56320 ≤ a0 then (some (decide (a0 ≤ 57343))) else (some false)
set_option maxHeartbeats 8000000 in
set_option maxRecDepth 100000 in
theorem spec_low.calls (a0 : Int) (r : Bool) (w : World) (h : spec_low.f a0 = some r) :
  Calls Tryd.prog 41 #[.int .i64 a0] w fun e w' => e = .returned (.bool r) ∧ Drawn0 w w' := by
 have H : (if 56320 ≤ a0 then (some (decide (a0 ≤ 57343))) else (some false)) = some r := h
 clear h
 by_cases c2 : 56320 ≤ a0
 ·rw [if_pos c2] at H
  have c2b0 : decide (56320 ≤ a0) = true := decide_eq_true c2
  clear c2
  obtain rfl := Option.some.inj H
  go_enter Tryd.func41, Tryd.ntmps41
  go_wp2
  go_ret
  exact ⟨by rfl, by repeat (exact Drawn0.refl _)⟩
 ·rw [if_neg c2] at H
  have c2b0 : decide (56320 ≤ a0) = false := decide_eq_false c2
  clear c2
  obtain rfl := Option.some.inj H
  go_enter Tryd.func41, Tryd.ntmps41
  go_wp2
  go_ret
  exact ⟨by rfl, by repeat (exact Drawn0.refl _)⟩
/-! ### spec_appendUTF8: function 42 -/
def spec_appendUTF8.j0 : Nat → List Int → Int → Bool → Option (List Int)
 | 0, _, _, _ => none
 | k + 1, x0, x1, x27 => if x27 = true then ((some (([239, 191, 189] : List Int) : List Int)).bind fun y309 => (if x0.length + y309.length < 140737488355328 then (some (x0 ++ y309)) else (none))) else (if x1 < 65536 then ((some (([(wrap64 (224 + (wrap64 (Int.tdiv x1 4096)))) % 256, (wrap64 (128 + (Int.tmod (wrap64 (Int.tdiv x1 64)) 64))) % 256, (wrap64 (128 + (Int.tmod x1 64))) % 256] : List Int) : List Int)).bind fun y315 => (if x0.length + y315.length < 140737488355328 then (some (x0 ++ y315)) else (none))) else ((some (([(wrap64 (240 + (wrap64 (Int.tdiv x1 262144)))) % 256, (wrap64 (128 + (Int.tmod (wrap64 (Int.tdiv x1 4096)) 64))) % 256, (wrap64 (128 + (Int.tmod (wrap64 (Int.tdiv x1 64)) 64))) % 256, (wrap64 (128 + (Int.tmod x1 64))) % 256] : List Int) : List Int)).bind fun y321 => (if x0.length + y321.length < 140737488355328 then (some (x0 ++ y321)) else (none))))
def spec_appendUTF8.f (k : Nat) (l0 : List Int) (a1 : Int) : Option (List Int) := if a1 < 128 then (if l0.length < 140737488355328 then (some (l0 ++ [(a1) % 256])) else (none)) else (if a1 < 2048 then ((some (([(wrap64 (192 + (wrap64 (Int.tdiv a1 64)))) % 256, (wrap64 (128 + (Int.tmod a1 64))) % 256] : List Int) : List Int)).bind fun y301 => (if l0.length + y301.length < 140737488355328 then (some (l0 ++ y301)) else (none))) else ((spec_high.f a1).bind fun t307 => (if t307 = true then (spec_appendUTF8.j0 k l0 a1 true) else ((spec_low.f a1).bind fun t308 => (spec_appendUTF8.j0 k l0 a1 t308)))))
set_option maxHeartbeats 8000000 in
set_option maxRecDepth 100000 in
theorem spec_appendUTF8.calls (k : Nat) (P0_ : Nat → Prop) (u9000_ : Value) (l0 : List Int) (a1 : Int) (r : List Int) (w0 w : World) (hB : Below w0.heap.size w0 w) (ho0 : Kd.R (Kd.int .u8) 5 w w0.heap.size P0_ u9000_ l0) (h : spec_appendUTF8.f k l0 a1 = some r) :
  Calls Tryd.prog 42 #[u9000_, .int .i64 a1] w fun e w' => ∃ v0_ : Value, e = .returned (v0_) ∧ Kd.R (Kd.int .u8) 5 w' w0.heap.size (fun k_ => (P0_ k_ ∨ w.heap.size ≤ k_)) v0_ r ∧ Below w0.heap.size w0 w' ∧ Kept w w' (fun k_ => P0_ k_) := by
 have HO0 := aj (show Kd.R (Kd.int .u8) 5 w w0.heap.size (fun k_ => (P0_ k_ ∨ w.heap.size ≤ k_)) u9000_ l0 from Kd.R_mono ho0 (fun k_ hk => (.inl hk)))
 have HK := aj (Kept.refl w (fun k_ => P0_ k_))
 have HW0 := aj hB.size
 have HB := aj hB
 clear hB
 have H : (if a1 < 128 then (if l0.length < 140737488355328 then (some (l0 ++ [(a1) % 256])) else (none)) else (if a1 < 2048 then ((some (([(wrap64 (192 + (wrap64 (Int.tdiv a1 64)))) % 256, (wrap64 (128 + (Int.tmod a1 64))) % 256] : List Int) : List Int)).bind fun y301 => (if l0.length + y301.length < 140737488355328 then (some (l0 ++ y301)) else (none))) else ((spec_high.f a1).bind fun t307 => (if t307 = true then (spec_appendUTF8.j0 k l0 a1 true) else ((spec_low.f a1).bind fun t308 => (spec_appendUTF8.j0 k l0 a1 t308)))))) = some r := h
 clear h
 by_cases c3 : a1 < 128
 ·rw [if_pos c3] at H
  have c3b0 : decide (a1 < 128) = true := decide_eq_true c3
  clear c3
  by_cases c4 : l0.length < 140737488355328
  ·rw [if_pos c4] at H
   have LMc4 := aj c4
   clear c4
   obtain ⟨y298, hy298⟩ : ∃ y_ : List Int, y_ = (l0 ++ [(a1) % 256]) := ⟨_, rfl⟩
   replace H : (some y298) = some r := by ((rw [hy298]; with_reducible exact H))
   have Ny298 := aj hy298
   clear hy298
   obtain rfl := Option.some.inj H
   go_enter Tryd.func42, Tryd.ntmps42
   go_wp2_with ((((with_reducible refine gate_builtin (b := .append) (xs := #[.tmp 8, .tmp 11]) rfl ?_); at_builtin; refine Kd.R_append (Kd.int .u8) (w0 := w0) w0.heap.size rfl (.tmp 8) (.tmp 11) 53 5 (.int .u8 0) 1 rfl Tryd.underlying53 info5 rfl (by decide) (by omega) u9000_ l0 ((a1) % 256) [.int .u8 ((a1) % 256)] (fun k_ => (P0_ k_ ∨ w.heap.size ≤ k_)) (fun _ => False) rfl rfl ?aP (fun _ hk => hk.elim) ?aF ?aO ?aB ?aS ?aL ?_; (case aP => exact rfl); (case aB => exact HB.out); (case aF => exact (fun k_ hk => (.inr (Nat.le_trans (by exact HK.out.1) hk)))); (case aO => exact HO0.out); (case aS => exact (below_size HB.out)); (case aL => have := LMc4.out; omega); intro v299 w5 ho hb hg hat; rw [← Ny298.out] at ho; replace HB := aj (hb); replace HK := aj (Kept.of_grown (S := (fun k_ => P0_ k_)) hg HK.out (fun k_ e_ => (HO0.out.1 k_ e_))); have HO300 := aj (ho); clear HO0 ho hb hg hat)))
   go_ret
   exact ⟨_, by rfl, by exact HO300.out, by exact HB.out, by exact HK.out⟩
  ·rw [if_neg c4] at H
   exact absurd H (by simp)
 ·rw [if_neg c3] at H
  have c3b0 : decide (a1 < 128) = false := decide_eq_false c3
  clear c3
  by_cases c6 : a1 < 2048
  ·rw [if_pos c6] at H
   have c6b0 : decide (a1 < 2048) = true := decide_eq_true c6
   clear c6
   obtain ⟨y301, hy301⟩ : ∃ y_ : List Int, y_ = (([(wrap64 (192 + (wrap64 (Int.tdiv a1 64)))) % 256, (wrap64 (128 + (Int.tmod a1 64))) % 256] : List Int)) := ⟨_, rfl⟩
   replace H : (if l0.length + y301.length < 140737488355328 then (some (l0 ++ y301)) else (none)) = some r := by ((have H2_ := (Option.bind_some _ _).symm.trans H; rw [hy301]; with_reducible exact H2_))
   have Ny301 := aj hy301
   clear hy301
   by_cases c7 : l0.length + y301.length < 140737488355328
   ·rw [if_pos c7] at H
    have LMc7 := aj c7
    clear c7
    obtain ⟨y304, hy304⟩ : ∃ y_ : List Int, y_ = (l0 ++ y301) := ⟨_, rfl⟩
    replace H : (some y304) = some r := by ((rw [hy304]; with_reducible exact H))
    have Ny304 := aj hy304
    clear hy304
    obtain rfl := Option.some.inj H
    go_enter Tryd.func42, Tryd.ntmps42
    go_wp2_with (first | ((with_reducible refine gate_dst (N := 25) rfl ?_); refine Kd.R_lit (Kd.int .u8) _ 5 ?hg (N := 25) ?hd (xs := ([(wrap64 (192 + (wrap64 (Int.tdiv a1 64)))) % 256, (wrap64 (128 + (Int.tmod a1 64))) % 256] : List Int)) (inner := [.int .u8 ((wrap64 (192 + (wrap64 (Int.tdiv a1 64)))) % 256), .int .u8 ((wrap64 (128 + (Int.tmod a1 64))) % 256)]) (ok := fun _ => True) (okp := fun _ => True) ?hr ?hp (fun _ hk => hk) trivial (Below.refl _ _) (Nat.le_refl _) (by simp) ?_; (case hd => rfl); (case hg => rfl); (case hr => ((go_simp; done))); (case hp => exact (Reps.one (show Kd.M (Kd.int .u8) _ _ _ ((wrap64 (192 + (wrap64 (Int.tdiv a1 64)))) % 256) [.int .u8 ((wrap64 (192 + (wrap64 (Int.tdiv a1 64)))) % 256)] from rfl) (Reps.one (show Kd.M (Kd.int .u8) _ _ _ ((wrap64 (128 + (Int.tmod a1 64))) % 256) [.int .u8 ((wrap64 (128 + (Int.tmod a1 64))) % 256)] from rfl) (Reps.none _ _)))); intro v302 w8 ho9 hb hg_ hnew_; clear hg_ hnew_; (rw [← Ny301.out] at ho9); have HO303 := aj (Kd.R_lower (Kd.R_new' (Kd.R_newM (M := fun k_ => (P0_ k_ ∨ w.heap.size ≤ k_)) ho9 (by exact HK.out.1) (fun k_ h_ => .inr h_)) (Kd.R_lt HO0.out)) (below_size HB.out)); replace HO0 := aj (Kd.R_elder' HO0.out (Kd.R_base ho9) hb); replace HK := aj (Kept.below (S := (fun k_ => P0_ k_)) HK.out hb); replace HB := aj (below_step HB.out hb); clear hb ho9; obtain ⟨Ao11, co11, eo11⟩ := Kd.R_slice HO303.out; subst eo11) | ((with_reducible refine gate_builtin (b := .append) (xs := #[.tmp 16, .tmp 25]) rfl ?_); at_builtin; refine Kd.R_append_rows (Kd.int .u8) (w0 := w0) w0.heap.size rfl (.tmp 16) (.tmp 25) 53 5 (.int .u8 0) 1 rfl Tryd.underlying53 info5 rfl (by decide) (by omega) u9000_ l0 y301 _ _ _ (fun k_ => (P0_ k_ ∨ w.heap.size ≤ k_) ∧ some k_ ≠ (.slice Ao11 y301.length co11 : Value).ownBlock) (fun _ => False) rfl rfl ?aO ?aR (fun _ _ h => h) (fun _ h => h.elim) ?aF ?aB ?aS ?aL ?_; (case aR => repeat (exact (Kd.R_reads' HO303.out).2.2)); (case aB => exact HB.out); (case aF => exact (fun k_ hk => ⟨(.inr (Nat.le_trans (by exact HK.out.1) hk)), Kd.fresh' (Kd.R_lt HO303.out) k_ hk⟩)); (case aO => exact HO0.out); (case aS => exact (below_size HB.out)); (case aL => have := LMc7.out; omega); intro v305 w10 ho hb hg hat; rw [← Ny304.out] at ho; replace HO303 := aj (Kd.R_after (ok := (fun k_ => (P0_ k_ ∨ w.heap.size ≤ k_))) (by exact Kd.R_mono HO303.out (fun _ hk => ⟨hk.1.1, hk.2⟩)) hg hat); replace HB := aj (hb); replace HK := aj (Kept.of_grown (S := (fun k_ => P0_ k_)) hg HK.out (fun k_ e_ => (HO0.out.1 k_ e_).1)); have HO306 := aj (ho); clear HO0 ho hb hg hat))
    go_ret
    exact ⟨_, by rfl, by exact Kd.R_mono HO306.out (fun _ hk => hk.1), by exact HB.out, by exact HK.out⟩
   ·rw [if_neg c7] at H
    exact absurd H (by simp)
  ·rw [if_neg c6] at H
   have c6b0 : decide (a1 < 2048) = false := decide_eq_false c6
   clear c6
   have HC12 := aj H
   clear H
   go_enter Tryd.func42, Tryd.ntmps42
   go_upto_region 5 with (fail)
   go_cut [27] (fun v27 wc => ∃ (kq : Nat) (x27_11 : Bool), v27 = .bool x27_11 ∧ Aside0 (spec_appendUTF8.j0 kq l0 a1 x27_11 = some r) ∧ Aside0 (kq ≤ k) ∧ Aside0 (Kd.R (Kd.int .u8) 5 wc w0.heap.size (fun k_ => (P0_ k_ ∨ w.heap.size ≤ k_)) u9000_ l0) ∧ Aside0 (Kept w wc (fun k_ => P0_ k_)) ∧ Aside0 (Below w0.heap.size w0 wc))
   case first =>
    have H := HC12.out
    clear HC12
    obtain ⟨t307, A130, H⟩ := Option.bind_eq_some_iff.mp H
    try dsimp only at H
    have A13 := aj A130
    clear A130
    by_cases c14 : t307 = true
    ·subst c14
     rw [if_pos rfl] at H
     have H' := aj H
     clear H
     go_wp2_with ((((with_reducible refine gate_callee (f := 40) rfl ?_); refine goesL_ (some 29) rfl rfl Tryd.func40 (by kernel_rfl) rfl #[.int .i64 a1] rfl (by (try simp only [List.map_toArray, List.map_cons, List.map_nil]); rfl) ?_; (with_reducible refine (spec_high.calls a1 true _ A13.out).mono ?_); rintro e w' ⟨rfl, ⟨nd, rfl⟩⟩; refine ⟨_, rfl, ?_⟩)))
     go_meet
     case rel => exact ⟨_, (true), (by rfl), H', ⟨by omega⟩, ⟨by (with_reducible repeat (apply Kd.R_drewN)); exact HO0.out⟩, ⟨by repeat (with_reducible first | exact HK.out | apply Kept.drewN)⟩, ⟨by repeat (with_reducible first | exact HB.out | apply pw_below_drewN)⟩⟩
    ·replace c14 := Bool.eq_false_iff.mpr c14
     subst c14
     rw [if_neg (show ¬ (false = true) by decide)] at H
     obtain ⟨t308, A150, H⟩ := Option.bind_eq_some_iff.mp H
     try dsimp only at H
     have A15 := aj A150
     clear A150
     have H' := aj H
     clear H
     go_wp2_with (first | ((with_reducible refine gate_callee (f := 40) rfl ?_); refine goesL_ (some 29) rfl rfl Tryd.func40 (by kernel_rfl) rfl #[.int .i64 a1] rfl (by (try simp only [List.map_toArray, List.map_cons, List.map_nil]); rfl) ?_; (with_reducible refine (spec_high.calls a1 false _ A13.out).mono ?_); rintro e w' ⟨rfl, ⟨nd, rfl⟩⟩; refine ⟨_, rfl, ?_⟩) | (go_at_call 41; (with_reducible refine (spec_low.calls a1 t308 _ A15.out).mono ?_); rintro e w' ⟨rfl, ⟨nd, rfl⟩⟩))
     go_meet
     case rel => exact ⟨_, (t308), (by rfl), H', ⟨by omega⟩, ⟨by (with_reducible repeat (apply Kd.R_drewN)); exact HO0.out⟩, ⟨by repeat (with_reducible first | exact HK.out | apply Kept.drewN)⟩, ⟨by repeat (with_reducible first | exact HB.out | apply pw_below_drewN)⟩⟩
   case rest =>
    clear HC12 c3b0 c6b0
    obtain ⟨kq, x27_11, rfl, HA, HJ11, HO_0, HK, HB⟩ := hcut
    cases kq with
    | zero => exact absurd HA.out (by simp [spec_appendUTF8.j0])
    | succ kj11 =>
     have H := HA.out
     clear HA
     simp only [spec_appendUTF8.j0] at H
     by_cases c16 : x27_11 = true
     ·subst c16
      rw [if_pos rfl] at H
      obtain ⟨y309, hy309⟩ : ∃ y_ : List Int, y_ = (([239, 191, 189] : List Int)) := ⟨_, rfl⟩
      replace H : (if l0.length + y309.length < 140737488355328 then (some (l0 ++ y309)) else (none)) = some r := by ((have H2_ := (Option.bind_some _ _).symm.trans H; rw [hy309]; with_reducible exact H2_))
      have Ny309 := aj hy309
      clear hy309
      by_cases c17 : l0.length + y309.length < 140737488355328
      ·rw [if_pos c17] at H
       have LMc17 := aj c17
       clear c17
       obtain ⟨y312, hy312⟩ : ∃ y_ : List Int, y_ = (l0 ++ y309) := ⟨_, rfl⟩
       replace H : (some y312) = some r := by ((rw [hy312]; with_reducible exact H))
       have Ny312 := aj hy312
       clear hy312
       obtain rfl := Option.some.inj H
       go_wp2_with (first | ((with_reducible refine gate_dst (N := 35) rfl ?_); refine Kd.R_lit (Kd.int .u8) _ 5 ?hg (N := 35) ?hd (xs := ([239, 191, 189] : List Int)) (inner := [.int .u8 239, .int .u8 191, .int .u8 189]) (ok := fun _ => True) (okp := fun _ => True) ?hr ?hp (fun _ hk => hk) trivial (Below.refl _ _) (Nat.le_refl _) (by simp) ?_; (case hd => rfl); (case hg => rfl); (case hr => ((go_simp; done))); (case hp => exact (Reps.one (show Kd.M (Kd.int .u8) _ _ _ 239 [.int .u8 239] from rfl) (Reps.one (show Kd.M (Kd.int .u8) _ _ _ 191 [.int .u8 191] from rfl) (Reps.one (show Kd.M (Kd.int .u8) _ _ _ 189 [.int .u8 189] from rfl) (Reps.none _ _))))); intro v310 w18 ho19 hb hg_ hnew_; clear hg_ hnew_; (rw [← Ny309.out] at ho19); have HO311 := aj (Kd.R_lower (Kd.R_new' (Kd.R_newM (M := fun k_ => (P0_ k_ ∨ w.heap.size ≤ k_)) ho19 (by exact HK.out.1) (fun k_ h_ => .inr h_)) (Kd.R_lt HO_0.out)) (below_size HB.out)); replace HO_0 := aj (Kd.R_elder' HO_0.out (Kd.R_base ho19) hb); replace HK := aj (Kept.below (S := (fun k_ => P0_ k_)) HK.out hb); replace HB := aj (below_step HB.out hb); clear hb ho19; obtain ⟨Ao21, co21, eo21⟩ := Kd.R_slice HO311.out; subst eo21) | ((with_reducible refine gate_builtin (b := .append) (xs := #[.tmp 34, .tmp 35]) rfl ?_); at_builtin; refine Kd.R_append_rows (Kd.int .u8) (w0 := w0) w0.heap.size rfl (.tmp 34) (.tmp 35) 53 5 (.int .u8 0) 1 rfl Tryd.underlying53 info5 rfl (by decide) (by omega) u9000_ l0 y309 _ _ _ (fun k_ => (P0_ k_ ∨ w.heap.size ≤ k_) ∧ some k_ ≠ (.slice Ao21 y309.length co21 : Value).ownBlock) (fun _ => False) rfl rfl ?aO ?aR (fun _ _ h => h) (fun _ h => h.elim) ?aF ?aB ?aS ?aL ?_; (case aR => repeat (exact (Kd.R_reads' HO311.out).2.2)); (case aB => exact HB.out); (case aF => exact (fun k_ hk => ⟨(.inr (Nat.le_trans (by exact HK.out.1) hk)), Kd.fresh' (Kd.R_lt HO311.out) k_ hk⟩)); (case aO => exact HO_0.out); (case aS => exact (below_size HB.out)); (case aL => have := LMc17.out; omega); intro v313 w20 ho hb hg hat; rw [← Ny312.out] at ho; replace HO311 := aj (Kd.R_after (ok := (fun k_ => (P0_ k_ ∨ w.heap.size ≤ k_))) (by exact Kd.R_mono HO311.out (fun _ hk => ⟨hk.1.1, hk.2⟩)) hg hat); replace HB := aj (hb); replace HK := aj (Kept.of_grown (S := (fun k_ => P0_ k_)) hg HK.out (fun k_ e_ => (HO_0.out.1 k_ e_).1)); have HO314 := aj (ho); clear HO_0 ho hb hg hat))
       go_ret
       exact ⟨_, by rfl, by exact Kd.R_mono HO314.out (fun _ hk => hk.1), by exact HB.out, by exact HK.out⟩
      ·rw [if_neg c17] at H
       exact absurd H (by simp)
     ·replace c16 := Bool.eq_false_iff.mpr c16
      subst c16
      rw [if_neg (show ¬ (false = true) by decide)] at H
      by_cases c22 : a1 < 65536
      ·rw [if_pos c22] at H
       have c22b0 : decide (a1 < 65536) = true := decide_eq_true c22
       clear c22
       obtain ⟨y315, hy315⟩ : ∃ y_ : List Int, y_ = (([(wrap64 (224 + (wrap64 (Int.tdiv a1 4096)))) % 256, (wrap64 (128 + (Int.tmod (wrap64 (Int.tdiv a1 64)) 64))) % 256, (wrap64 (128 + (Int.tmod a1 64))) % 256] : List Int)) := ⟨_, rfl⟩
       replace H : (if l0.length + y315.length < 140737488355328 then (some (l0 ++ y315)) else (none)) = some r := by ((have H2_ := (Option.bind_some _ _).symm.trans H; rw [hy315]; with_reducible exact H2_))
       have Ny315 := aj hy315
       clear hy315
       by_cases c23 : l0.length + y315.length < 140737488355328
       ·rw [if_pos c23] at H
        have LMc23 := aj c23
        clear c23
        obtain ⟨y318, hy318⟩ : ∃ y_ : List Int, y_ = (l0 ++ y315) := ⟨_, rfl⟩
        replace H : (some y318) = some r := by ((rw [hy318]; with_reducible exact H))
        have Ny318 := aj hy318
        clear hy318
        obtain rfl := Option.some.inj H
        go_wp2_with (first | ((with_reducible refine gate_dst (N := 54) rfl ?_); refine Kd.R_lit (Kd.int .u8) _ 5 ?hg (N := 54) ?hd (xs := ([(wrap64 (224 + (wrap64 (Int.tdiv a1 4096)))) % 256, (wrap64 (128 + (Int.tmod (wrap64 (Int.tdiv a1 64)) 64))) % 256, (wrap64 (128 + (Int.tmod a1 64))) % 256] : List Int)) (inner := [.int .u8 ((wrap64 (224 + (wrap64 (Int.tdiv a1 4096)))) % 256), .int .u8 ((wrap64 (128 + (Int.tmod (wrap64 (Int.tdiv a1 64)) 64))) % 256), .int .u8 ((wrap64 (128 + (Int.tmod a1 64))) % 256)]) (ok := fun _ => True) (okp := fun _ => True) ?hr ?hp (fun _ hk => hk) trivial (Below.refl _ _) (Nat.le_refl _) (by simp) ?_; (case hd => rfl); (case hg => rfl); (case hr => ((go_simp; done))); (case hp => exact (Reps.one (show Kd.M (Kd.int .u8) _ _ _ ((wrap64 (224 + (wrap64 (Int.tdiv a1 4096)))) % 256) [.int .u8 ((wrap64 (224 + (wrap64 (Int.tdiv a1 4096)))) % 256)] from rfl) (Reps.one (show Kd.M (Kd.int .u8) _ _ _ ((wrap64 (128 + (Int.tmod (wrap64 (Int.tdiv a1 64)) 64))) % 256) [.int .u8 ((wrap64 (128 + (Int.tmod (wrap64 (Int.tdiv a1 64)) 64))) % 256)] from rfl) (Reps.one (show Kd.M (Kd.int .u8) _ _ _ ((wrap64 (128 + (Int.tmod a1 64))) % 256) [.int .u8 ((wrap64 (128 + (Int.tmod a1 64))) % 256)] from rfl) (Reps.none _ _))))); intro v316 w24 ho25 hb hg_ hnew_; clear hg_ hnew_; (rw [← Ny315.out] at ho25); have HO317 := aj (Kd.R_lower (Kd.R_new' (Kd.R_newM (M := fun k_ => (P0_ k_ ∨ w.heap.size ≤ k_)) ho25 (by exact HK.out.1) (fun k_ h_ => .inr h_)) (Kd.R_lt HO_0.out)) (below_size HB.out)); replace HO_0 := aj (Kd.R_elder' HO_0.out (Kd.R_base ho25) hb); replace HK := aj (Kept.below (S := (fun k_ => P0_ k_)) HK.out hb); replace HB := aj (below_step HB.out hb); clear hb ho25; obtain ⟨Ao27, co27, eo27⟩ := Kd.R_slice HO317.out; subst eo27) | ((with_reducible refine gate_builtin (b := .append) (xs := #[.tmp 40, .tmp 54]) rfl ?_); at_builtin; refine Kd.R_append_rows (Kd.int .u8) (w0 := w0) w0.heap.size rfl (.tmp 40) (.tmp 54) 53 5 (.int .u8 0) 1 rfl Tryd.underlying53 info5 rfl (by decide) (by omega) u9000_ l0 y315 _ _ _ (fun k_ => (P0_ k_ ∨ w.heap.size ≤ k_) ∧ some k_ ≠ (.slice Ao27 y315.length co27 : Value).ownBlock) (fun _ => False) rfl rfl ?aO ?aR (fun _ _ h => h) (fun _ h => h.elim) ?aF ?aB ?aS ?aL ?_; (case aR => repeat (exact (Kd.R_reads' HO317.out).2.2)); (case aB => exact HB.out); (case aF => exact (fun k_ hk => ⟨(.inr (Nat.le_trans (by exact HK.out.1) hk)), Kd.fresh' (Kd.R_lt HO317.out) k_ hk⟩)); (case aO => exact HO_0.out); (case aS => exact (below_size HB.out)); (case aL => have := LMc23.out; omega); intro v319 w26 ho hb hg hat; rw [← Ny318.out] at ho; replace HO317 := aj (Kd.R_after (ok := (fun k_ => (P0_ k_ ∨ w.heap.size ≤ k_))) (by exact Kd.R_mono HO317.out (fun _ hk => ⟨hk.1.1, hk.2⟩)) hg hat); replace HB := aj (hb); replace HK := aj (Kept.of_grown (S := (fun k_ => P0_ k_)) hg HK.out (fun k_ e_ => (HO_0.out.1 k_ e_).1)); have HO320 := aj (ho); clear HO_0 ho hb hg hat))
        go_ret
        exact ⟨_, by rfl, by exact Kd.R_mono HO320.out (fun _ hk => hk.1), by exact HB.out, by exact HK.out⟩
       ·rw [if_neg c23] at H
        exact absurd H (by simp)
      ·rw [if_neg c22] at H
       have c22b0 : decide (a1 < 65536) = false := decide_eq_false c22
       clear c22
       obtain ⟨y321, hy321⟩ : ∃ y_ : List Int, y_ = (([(wrap64 (240 + (wrap64 (Int.tdiv a1 262144)))) % 256, (wrap64 (128 + (Int.tmod (wrap64 (Int.tdiv a1 4096)) 64))) % 256, (wrap64 (128 + (Int.tmod (wrap64 (Int.tdiv a1 64)) 64))) % 256, (wrap64 (128 + (Int.tmod a1 64))) % 256] : List Int)) := ⟨_, rfl⟩
       replace H : (if l0.length + y321.length < 140737488355328 then (some (l0 ++ y321)) else (none)) = some r := by ((have H2_ := (Option.bind_some _ _).symm.trans H; rw [hy321]; with_reducible exact H2_))
       have Ny321 := aj hy321
       clear hy321
       by_cases c28 : l0.length + y321.length < 140737488355328
       ·rw [if_pos c28] at H
        have LMc28 := aj c28
        clear c28
        obtain ⟨y324, hy324⟩ : ∃ y_ : List Int, y_ = (l0 ++ y321) := ⟨_, rfl⟩
        replace H : (some y324) = some r := by ((rw [hy324]; with_reducible exact H))
        have Ny324 := aj hy324
        clear hy324
        obtain rfl := Option.some.inj H
        go_wp2_with (first | ((with_reducible refine gate_dst (N := 75) rfl ?_); refine Kd.R_lit (Kd.int .u8) _ 5 ?hg (N := 75) ?hd (xs := ([(wrap64 (240 + (wrap64 (Int.tdiv a1 262144)))) % 256, (wrap64 (128 + (Int.tmod (wrap64 (Int.tdiv a1 4096)) 64))) % 256, (wrap64 (128 + (Int.tmod (wrap64 (Int.tdiv a1 64)) 64))) % 256, (wrap64 (128 + (Int.tmod a1 64))) % 256] : List Int)) (inner := [.int .u8 ((wrap64 (240 + (wrap64 (Int.tdiv a1 262144)))) % 256), .int .u8 ((wrap64 (128 + (Int.tmod (wrap64 (Int.tdiv a1 4096)) 64))) % 256), .int .u8 ((wrap64 (128 + (Int.tmod (wrap64 (Int.tdiv a1 64)) 64))) % 256), .int .u8 ((wrap64 (128 + (Int.tmod a1 64))) % 256)]) (ok := fun _ => True) (okp := fun _ => True) ?hr ?hp (fun _ hk => hk) trivial (Below.refl _ _) (Nat.le_refl _) (by simp) ?_; (case hd => rfl); (case hg => rfl); (case hr => ((go_simp; done))); (case hp => exact (Reps.one (show Kd.M (Kd.int .u8) _ _ _ ((wrap64 (240 + (wrap64 (Int.tdiv a1 262144)))) % 256) [.int .u8 ((wrap64 (240 + (wrap64 (Int.tdiv a1 262144)))) % 256)] from rfl) (Reps.one (show Kd.M (Kd.int .u8) _ _ _ ((wrap64 (128 + (Int.tmod (wrap64 (Int.tdiv a1 4096)) 64))) % 256) [.int .u8 ((wrap64 (128 + (Int.tmod (wrap64 (Int.tdiv a1 4096)) 64))) % 256)] from rfl) (Reps.one (show Kd.M (Kd.int .u8) _ _ _ ((wrap64 (128 + (Int.tmod (wrap64 (Int.tdiv a1 64)) 64))) % 256) [.int .u8 ((wrap64 (128 + (Int.tmod (wrap64 (Int.tdiv a1 64)) 64))) % 256)] from rfl) (Reps.one (show Kd.M (Kd.int .u8) _ _ _ ((wrap64 (128 + (Int.tmod a1 64))) % 256) [.int .u8 ((wrap64 (128 + (Int.tmod a1 64))) % 256)] from rfl) (Reps.none _ _)))))); intro v322 w29 ho30 hb hg_ hnew_; clear hg_ hnew_; (rw [← Ny321.out] at ho30); have HO323 := aj (Kd.R_lower (Kd.R_new' (Kd.R_newM (M := fun k_ => (P0_ k_ ∨ w.heap.size ≤ k_)) ho30 (by exact HK.out.1) (fun k_ h_ => .inr h_)) (Kd.R_lt HO_0.out)) (below_size HB.out)); replace HO_0 := aj (Kd.R_elder' HO_0.out (Kd.R_base ho30) hb); replace HK := aj (Kept.below (S := (fun k_ => P0_ k_)) HK.out hb); replace HB := aj (below_step HB.out hb); clear hb ho30; obtain ⟨Ao32, co32, eo32⟩ := Kd.R_slice HO323.out; subst eo32) | ((with_reducible refine gate_builtin (b := .append) (xs := #[.tmp 56, .tmp 75]) rfl ?_); at_builtin; refine Kd.R_append_rows (Kd.int .u8) (w0 := w0) w0.heap.size rfl (.tmp 56) (.tmp 75) 53 5 (.int .u8 0) 1 rfl Tryd.underlying53 info5 rfl (by decide) (by omega) u9000_ l0 y321 _ _ _ (fun k_ => (P0_ k_ ∨ w.heap.size ≤ k_) ∧ some k_ ≠ (.slice Ao32 y321.length co32 : Value).ownBlock) (fun _ => False) rfl rfl ?aO ?aR (fun _ _ h => h) (fun _ h => h.elim) ?aF ?aB ?aS ?aL ?_; (case aR => repeat (exact (Kd.R_reads' HO323.out).2.2)); (case aB => exact HB.out); (case aF => exact (fun k_ hk => ⟨(.inr (Nat.le_trans (by exact HK.out.1) hk)), Kd.fresh' (Kd.R_lt HO323.out) k_ hk⟩)); (case aO => exact HO_0.out); (case aS => exact (below_size HB.out)); (case aL => have := LMc28.out; omega); intro v325 w31 ho hb hg hat; rw [← Ny324.out] at ho; replace HO323 := aj (Kd.R_after (ok := (fun k_ => (P0_ k_ ∨ w.heap.size ≤ k_))) (by exact Kd.R_mono HO323.out (fun _ hk => ⟨hk.1.1, hk.2⟩)) hg hat); replace HB := aj (hb); replace HK := aj (Kept.of_grown (S := (fun k_ => P0_ k_)) hg HK.out (fun k_ e_ => (HO_0.out.1 k_ e_).1)); have HO326 := aj (ho); clear HO_0 ho hb hg hat))
        go_ret
        exact ⟨_, by rfl, by exact Kd.R_mono HO326.out (fun _ hk => hk.1), by exact HB.out, by exact HK.out⟩
       ·rw [if_neg c28] at H
        exact absurd H (by simp)
/-! ### spec_Unquote: function 26 -/
def spec_Unquote.l0 : Nat → List Int → ByteArray → Int → Option (ByteArray)
 | 0, _, _, _ => none
 | k + 1, x3, x4, x5 => if x5 < (x4.size : Int) then (if 0 ≤ x5 then (if (bt x4 x5) = 92 then ((spec_unit.f k x4 x5).bind fun bt330 => (if bt330.2 = true then ((spec_unit.f k x4 (wrap64 (x5 + 6))).bind fun bt336 => (if bt336.2 = true then ((spec_high.f bt330.1).bind fun t338 => (if t338 = true then ((spec_low.f bt336.1).bind fun t339 => (if t339 = true then ((spec_appendUTF8.f k x3 (wrap64 ((wrap64 (65536 + (wrap64 ((wrap64 (bt330.1 - 55296)) * 1024)))) + (wrap64 (bt336.1 - 56320))))).bind fun t340 => (spec_Unquote.l0 k t340 x4 (wrap64 ((wrap64 (x5 + 6)) + 6)))) else ((spec_appendUTF8.f k x3 bt330.1).bind fun t343 => (spec_Unquote.l0 k t343 x4 (wrap64 (x5 + 6)))))) else ((spec_appendUTF8.f k x3 bt330.1).bind fun t346 => (spec_Unquote.l0 k t346 x4 (wrap64 (x5 + 6)))))) else ((spec_appendUTF8.f k x3 bt330.1).bind fun t349 => (spec_Unquote.l0 k t349 x4 (wrap64 (x5 + 6)))))) else (if 0 ≤ (wrap64 (x5 + 1)) then (if (wrap64 (x5 + 1)) < (x4.size : Int) then ((spec_short.f (bt x4 (wrap64 (x5 + 1)))).bind fun t332 => (if x3.length < 140737488355328 then (spec_Unquote.l0 k (x3 ++ [t332]) x4 (wrap64 (x5 + 2))) else (none))) else (none)) else (none)))) else (if x3.length < 140737488355328 then (spec_Unquote.l0 k (x3 ++ [bt x4 x5]) x4 (wrap64 (x5 + 1))) else (none))) else (none)) else (some (strOfNums x3))
def spec_Unquote.f (k : Nat) (a0 : ByteArray) : Option (ByteArray) := if 1 ≤ (wrap64 ((a0.size : Int) - 1)) then (if (wrap64 ((a0.size : Int) - 1)) ≤ (a0.size : Int) then (spec_Unquote.l0 k ([] : List Int) (a0.extract 1 ((wrap64 ((a0.size : Int) - 1)) : Int).toNat) 0) else (none)) else (none)
set_option maxHeartbeats 8000000 in
set_option maxRecDepth 100000 in
theorem spec_Unquote.calls (k : Nat) (a0 : ByteArray) (r : ByteArray) (w : World) (h : spec_Unquote.f k a0 = some r) :
  Calls Tryd.prog 26 #[.string a0] w fun e w' => e = .returned (.string r) ∧ Below w.heap.size w w' := by
 have HB := aj (Below.refl w.heap.size w)
 have H : (if 1 ≤ (wrap64 ((a0.size : Int) - 1)) then (if (wrap64 ((a0.size : Int) - 1)) ≤ (a0.size : Int) then (spec_Unquote.l0 k ([] : List Int) (a0.extract 1 ((wrap64 ((a0.size : Int) - 1)) : Int).toNat) 0) else (none)) else (none)) = some r := h
 clear h
 by_cases c2 : 1 ≤ (wrap64 ((a0.size : Int) - 1))
 ·rw [if_pos c2] at H
  have c2b0 := eq_true c2
  have c2b1 : decide (1 ≤ (wrap64 ((a0.size : Int) - 1))) = true := decide_eq_true c2
  clear c2
  by_cases c3 : (wrap64 ((a0.size : Int) - 1)) ≤ (a0.size : Int)
  ·rw [if_pos c3] at H
   have c3b0 := eq_true c3
   have c3b1 : decide ((wrap64 ((a0.size : Int) - 1)) ≤ (a0.size : Int)) = true := decide_eq_true c3
   clear c3
   have H' := aj H
   clear H
   go_enter Tryd.func26, Tryd.ntmps26
   go_wp2
   try simp only [Act.put, List.setIfInBounds_toArray, List.set_cons_succ, List.set_cons_zero]
   generalize (a0.extract 1 ((wrap64 ((a0.size : Int) - 1)) : Int).toNat) = sx1 at *
   go_loopg [3, 5] k (fun kq v3 v5 w' => ∃ (x3_1 : List Int) (x5_1 : Int), v5 = .int .i64 x5_1 ∧ Aside0 (spec_Unquote.l0 kq x3_1 sx1 x5_1 = some r) ∧ Aside0 (kq ≤ k) ∧ Aside0 (Kd.R (Kd.int .u8) 5 w' w.heap.size (fun _ => True) v3 x3_1) ∧ Aside0 (Below w.heap.size w w'))
   case atStart => exact ⟨(([] : List Int)), (0), (by rfl), H', ⟨Nat.le_refl _⟩, ⟨by exact Kd.R_nil _ _ _ _ _⟩, ⟨HB.out⟩⟩
   case round =>
    clear H' c2b0 c2b1 c3b0 c3b1
    obtain ⟨x3_1, x5_1, rfl, HA, HK1, HO_3, HB⟩ := hrel
    cases gk with
    | zero => exact absurd HA.out (by simp [spec_Unquote.l0])
    | succ k1 =>
     have H := HA.out
     clear HA
     simp only [spec_Unquote.l0] at H
     by_cases c4 : x5_1 < (sx1.size : Int)
     ·rw [if_pos c4] at H
      have c4b0 : decide (x5_1 < (sx1.size : Int)) = true := decide_eq_true c4
      clear c4
      by_cases c5 : 0 ≤ x5_1
      ·rw [if_pos c5] at H
       have c5b0 : decide (0 ≤ x5_1) = true := decide_eq_true c5
       clear c5
       by_cases c7 : (bt sx1 x5_1) = 92
       ·rw [if_pos c7] at H
        have c7b0 : ((bt sx1 x5_1) == 92) = true := beq_iff_eq.mpr c7
        have c7b1 : ((bt sx1 x5_1) != 92) = false := bne_eq_false_iff_eq.mpr c7
        clear c7
        obtain ⟨⟨t330, t331⟩, A80, H⟩ := Option.bind_eq_some_iff.mp H
        try dsimp only at H
        have A8 := aj A80
        clear A80
        by_cases c9 : t331 = true
        ·subst c9
         rw [if_pos rfl] at H
         obtain ⟨⟨t336, t337⟩, A100, H⟩ := Option.bind_eq_some_iff.mp H
         try dsimp only at H
         have A10 := aj A100
         clear A100
         by_cases c11 : t337 = true
         ·subst c11
          rw [if_pos rfl] at H
          obtain ⟨t338, A120, H⟩ := Option.bind_eq_some_iff.mp H
          try dsimp only at H
          have A12 := aj A120
          clear A120
          by_cases c13 : t338 = true
          ·subst c13
           rw [if_pos rfl] at H
           obtain ⟨t339, A140, H⟩ := Option.bind_eq_some_iff.mp H
           try dsimp only at H
           have A14 := aj A140
           clear A140
           by_cases c15 : t339 = true
           ·subst c15
            rw [if_pos rfl] at H
            obtain ⟨t340, A160, H⟩ := Option.bind_eq_some_iff.mp H
            try dsimp only at H
            have A16 := aj A160
            clear A160
            have H' := aj H
            clear H
            have p6 : 0 ≤ (x5_1 : Int) := of_decide_eq_true (by (with_reducible assumption))
            have q6 : x5_1 < (sx1.size : Int) := of_decide_eq_true (by (with_reducible assumption))
            have hx6 := bt_at sx1 x5_1
            replace p6 := eq_true p6
            replace q6 := eq_true q6
            go_wp2_with (first | ((with_reducible refine gate_callee (f := 38) rfl ?_); refine goesL_ (some 34) rfl rfl Tryd.func38 (by kernel_rfl) rfl #[.string sx1, .int .i64 x5_1] rfl (by (try simp only [List.map_toArray, List.map_cons, List.map_nil]); rfl) ?_; (with_reducible refine (spec_unit.calls k1 sx1 x5_1 t330 true _ A8.out).mono ?_); rintro e w' ⟨rfl, ⟨nd, rfl⟩⟩; refine ⟨_, rfl, ?_⟩) | ((with_reducible refine gate_callee (f := 38) rfl ?_); refine goesL_ (some 54) rfl rfl Tryd.func38 (by kernel_rfl) rfl #[.string sx1, .int .i64 (wrap64 (x5_1 + 6))] rfl (by (try simp only [List.map_toArray, List.map_cons, List.map_nil]); rfl) ?_; (with_reducible refine (spec_unit.calls k1 sx1 (wrap64 (x5_1 + 6)) t336 true _ A10.out).mono ?_); rintro e w' ⟨rfl, ⟨nd, rfl⟩⟩; refine ⟨_, rfl, ?_⟩) | (go_at_call 40; (with_reducible refine (spec_high.calls t330 true _ A12.out).mono ?_); rintro e w' ⟨rfl, ⟨nd, rfl⟩⟩) | (go_at_call 41; (with_reducible refine (spec_low.calls t336 true _ A14.out).mono ?_); rintro e w' ⟨rfl, ⟨nd, rfl⟩⟩; obtain ⟨Ao17, co17, eo17⟩ := Kd.R_slice HO_3.out; subst eo17) | ((with_reducible refine gate_callee (f := 42) rfl ?_); refine goesL_ (some 77) rfl rfl Tryd.func42 (by kernel_rfl) rfl #[.slice Ao17 x3_1.length co17, .int .i64 (wrap64 ((wrap64 (65536 + (wrap64 ((wrap64 (t330 - 55296)) * 1024)))) + (wrap64 (t336 - 56320))))] rfl (by (try simp only [List.map_toArray, List.map_cons, List.map_nil]); rfl) ?_; (with_reducible refine (spec_appendUTF8.calls k1 (fun k_ => some k_ = (.slice Ao17 x3_1.length co17 : Value).ownBlock) (.slice Ao17 x3_1.length co17) x3_1 (wrap64 ((wrap64 (65536 + (wrap64 ((wrap64 (t330 - 55296)) * 1024)))) + (wrap64 (t336 - 56320)))) t340 w _ ?side1 ?side2 A16.out).mono ?_); (case side1 => repeat (with_reducible first | exact HB.out | apply pw_below_drewN)); (case side2 => exact Kd.R_tight rfl HO_3.out); rintro e w18 ⟨v341, rfl, ho0, hb, hkp⟩; refine ⟨_, rfl, ?_⟩; have HO342 := aj (Kd.R_mono (ok' := fun k_ => True) ho0 (fun k_ hk_ => trivial)); replace HB := aj (hb); clear HO_3 hb hkp ho0))
            go_roundg k1
            case measure => have := HK1.out; omega
            case rel => exact ⟨(t340), (wrap64 ((wrap64 (x5_1 + 6)) + 6)), (by rfl), H', ⟨by have := HK1.out; omega⟩, ⟨HO342.out⟩, ⟨HB.out⟩⟩
           ·replace c15 := Bool.eq_false_iff.mpr c15
            subst c15
            rw [if_neg (show ¬ (false = true) by decide)] at H
            obtain ⟨t343, A190, H⟩ := Option.bind_eq_some_iff.mp H
            try dsimp only at H
            have A19 := aj A190
            clear A190
            have H' := aj H
            clear H
            have p6 : 0 ≤ (x5_1 : Int) := of_decide_eq_true (by (with_reducible assumption))
            have q6 : x5_1 < (sx1.size : Int) := of_decide_eq_true (by (with_reducible assumption))
            have hx6 := bt_at sx1 x5_1
            replace p6 := eq_true p6
            replace q6 := eq_true q6
            go_wp2_with (first | ((with_reducible refine gate_callee (f := 38) rfl ?_); refine goesL_ (some 34) rfl rfl Tryd.func38 (by kernel_rfl) rfl #[.string sx1, .int .i64 x5_1] rfl (by (try simp only [List.map_toArray, List.map_cons, List.map_nil]); rfl) ?_; (with_reducible refine (spec_unit.calls k1 sx1 x5_1 t330 true _ A8.out).mono ?_); rintro e w' ⟨rfl, ⟨nd, rfl⟩⟩; refine ⟨_, rfl, ?_⟩) | ((with_reducible refine gate_callee (f := 38) rfl ?_); refine goesL_ (some 54) rfl rfl Tryd.func38 (by kernel_rfl) rfl #[.string sx1, .int .i64 (wrap64 (x5_1 + 6))] rfl (by (try simp only [List.map_toArray, List.map_cons, List.map_nil]); rfl) ?_; (with_reducible refine (spec_unit.calls k1 sx1 (wrap64 (x5_1 + 6)) t336 true _ A10.out).mono ?_); rintro e w' ⟨rfl, ⟨nd, rfl⟩⟩; refine ⟨_, rfl, ?_⟩) | (go_at_call 40; (with_reducible refine (spec_high.calls t330 true _ A12.out).mono ?_); rintro e w' ⟨rfl, ⟨nd, rfl⟩⟩) | (go_at_call 41; (with_reducible refine (spec_low.calls t336 false _ A14.out).mono ?_); rintro e w' ⟨rfl, ⟨nd, rfl⟩⟩; obtain ⟨Ao20, co20, eo20⟩ := Kd.R_slice HO_3.out; subst eo20) | ((with_reducible refine gate_callee (f := 42) rfl ?_); refine goesL_ (some 77) rfl rfl Tryd.func42 (by kernel_rfl) rfl #[.slice Ao20 x3_1.length co20, .int .i64 t330] rfl (by (try simp only [List.map_toArray, List.map_cons, List.map_nil]); rfl) ?_; (with_reducible refine (spec_appendUTF8.calls k1 (fun k_ => some k_ = (.slice Ao20 x3_1.length co20 : Value).ownBlock) (.slice Ao20 x3_1.length co20) x3_1 t330 t343 w _ ?side1 ?side2 A19.out).mono ?_); (case side1 => repeat (with_reducible first | exact HB.out | apply pw_below_drewN)); (case side2 => exact Kd.R_tight rfl HO_3.out); rintro e w21 ⟨v344, rfl, ho0, hb, hkp⟩; refine ⟨_, rfl, ?_⟩; have HO345 := aj (Kd.R_mono (ok' := fun k_ => True) ho0 (fun k_ hk_ => trivial)); replace HB := aj (hb); clear HO_3 hb hkp ho0))
            go_roundg k1
            case measure => have := HK1.out; omega
            case rel => exact ⟨(t343), (wrap64 (x5_1 + 6)), (by rfl), H', ⟨by have := HK1.out; omega⟩, ⟨HO345.out⟩, ⟨HB.out⟩⟩
          ·replace c13 := Bool.eq_false_iff.mpr c13
           subst c13
           rw [if_neg (show ¬ (false = true) by decide)] at H
           obtain ⟨t346, A220, H⟩ := Option.bind_eq_some_iff.mp H
           try dsimp only at H
           have A22 := aj A220
           clear A220
           have H' := aj H
           clear H
           have p6 : 0 ≤ (x5_1 : Int) := of_decide_eq_true (by (with_reducible assumption))
           have q6 : x5_1 < (sx1.size : Int) := of_decide_eq_true (by (with_reducible assumption))
           have hx6 := bt_at sx1 x5_1
           replace p6 := eq_true p6
           replace q6 := eq_true q6
           go_wp2_with (first | ((with_reducible refine gate_callee (f := 38) rfl ?_); refine goesL_ (some 34) rfl rfl Tryd.func38 (by kernel_rfl) rfl #[.string sx1, .int .i64 x5_1] rfl (by (try simp only [List.map_toArray, List.map_cons, List.map_nil]); rfl) ?_; (with_reducible refine (spec_unit.calls k1 sx1 x5_1 t330 true _ A8.out).mono ?_); rintro e w' ⟨rfl, ⟨nd, rfl⟩⟩; refine ⟨_, rfl, ?_⟩) | ((with_reducible refine gate_callee (f := 38) rfl ?_); refine goesL_ (some 54) rfl rfl Tryd.func38 (by kernel_rfl) rfl #[.string sx1, .int .i64 (wrap64 (x5_1 + 6))] rfl (by (try simp only [List.map_toArray, List.map_cons, List.map_nil]); rfl) ?_; (with_reducible refine (spec_unit.calls k1 sx1 (wrap64 (x5_1 + 6)) t336 true _ A10.out).mono ?_); rintro e w' ⟨rfl, ⟨nd, rfl⟩⟩; refine ⟨_, rfl, ?_⟩) | (go_at_call 40; (with_reducible refine (spec_high.calls t330 false _ A12.out).mono ?_); rintro e w' ⟨rfl, ⟨nd, rfl⟩⟩; obtain ⟨Ao23, co23, eo23⟩ := Kd.R_slice HO_3.out; subst eo23) | ((with_reducible refine gate_callee (f := 42) rfl ?_); refine goesL_ (some 77) rfl rfl Tryd.func42 (by kernel_rfl) rfl #[.slice Ao23 x3_1.length co23, .int .i64 t330] rfl (by (try simp only [List.map_toArray, List.map_cons, List.map_nil]); rfl) ?_; (with_reducible refine (spec_appendUTF8.calls k1 (fun k_ => some k_ = (.slice Ao23 x3_1.length co23 : Value).ownBlock) (.slice Ao23 x3_1.length co23) x3_1 t330 t346 w _ ?side1 ?side2 A22.out).mono ?_); (case side1 => repeat (with_reducible first | exact HB.out | apply pw_below_drewN)); (case side2 => exact Kd.R_tight rfl HO_3.out); rintro e w24 ⟨v347, rfl, ho0, hb, hkp⟩; refine ⟨_, rfl, ?_⟩; have HO348 := aj (Kd.R_mono (ok' := fun k_ => True) ho0 (fun k_ hk_ => trivial)); replace HB := aj (hb); clear HO_3 hb hkp ho0))
           go_roundg k1
           case measure => have := HK1.out; omega
           case rel => exact ⟨(t346), (wrap64 (x5_1 + 6)), (by rfl), H', ⟨by have := HK1.out; omega⟩, ⟨HO348.out⟩, ⟨HB.out⟩⟩
         ·replace c11 := Bool.eq_false_iff.mpr c11
          subst c11
          rw [if_neg (show ¬ (false = true) by decide)] at H
          obtain ⟨t349, A250, H⟩ := Option.bind_eq_some_iff.mp H
          try dsimp only at H
          have A25 := aj A250
          clear A250
          have H' := aj H
          clear H
          have p6 : 0 ≤ (x5_1 : Int) := of_decide_eq_true (by (with_reducible assumption))
          have q6 : x5_1 < (sx1.size : Int) := of_decide_eq_true (by (with_reducible assumption))
          have hx6 := bt_at sx1 x5_1
          replace p6 := eq_true p6
          replace q6 := eq_true q6
          go_wp2_with (first | ((with_reducible refine gate_callee (f := 38) rfl ?_); refine goesL_ (some 34) rfl rfl Tryd.func38 (by kernel_rfl) rfl #[.string sx1, .int .i64 x5_1] rfl (by (try simp only [List.map_toArray, List.map_cons, List.map_nil]); rfl) ?_; (with_reducible refine (spec_unit.calls k1 sx1 x5_1 t330 true _ A8.out).mono ?_); rintro e w' ⟨rfl, ⟨nd, rfl⟩⟩; refine ⟨_, rfl, ?_⟩) | ((with_reducible refine gate_callee (f := 38) rfl ?_); refine goesL_ (some 54) rfl rfl Tryd.func38 (by kernel_rfl) rfl #[.string sx1, .int .i64 (wrap64 (x5_1 + 6))] rfl (by (try simp only [List.map_toArray, List.map_cons, List.map_nil]); rfl) ?_; (with_reducible refine (spec_unit.calls k1 sx1 (wrap64 (x5_1 + 6)) t336 false _ A10.out).mono ?_); rintro e w' ⟨rfl, ⟨nd, rfl⟩⟩; refine ⟨_, rfl, ?_⟩; obtain ⟨Ao26, co26, eo26⟩ := Kd.R_slice HO_3.out; subst eo26) | ((with_reducible refine gate_callee (f := 42) rfl ?_); refine goesL_ (some 77) rfl rfl Tryd.func42 (by kernel_rfl) rfl #[.slice Ao26 x3_1.length co26, .int .i64 t330] rfl (by (try simp only [List.map_toArray, List.map_cons, List.map_nil]); rfl) ?_; (with_reducible refine (spec_appendUTF8.calls k1 (fun k_ => some k_ = (.slice Ao26 x3_1.length co26 : Value).ownBlock) (.slice Ao26 x3_1.length co26) x3_1 t330 t349 w _ ?side1 ?side2 A25.out).mono ?_); (case side1 => repeat (with_reducible first | exact HB.out | apply pw_below_drewN)); (case side2 => exact Kd.R_tight rfl HO_3.out); rintro e w27 ⟨v350, rfl, ho0, hb, hkp⟩; refine ⟨_, rfl, ?_⟩; have HO351 := aj (Kd.R_mono (ok' := fun k_ => True) ho0 (fun k_ hk_ => trivial)); replace HB := aj (hb); clear HO_3 hb hkp ho0))
          go_roundg k1
          case measure => have := HK1.out; omega
          case rel => exact ⟨(t349), (wrap64 (x5_1 + 6)), (by rfl), H', ⟨by have := HK1.out; omega⟩, ⟨HO351.out⟩, ⟨HB.out⟩⟩
        ·replace c9 := Bool.eq_false_iff.mpr c9
         subst c9
         rw [if_neg (show ¬ (false = true) by decide)] at H
         obtain ⟨ji28, hji28⟩ : ∃ j_ : Int, (wrap64 (x5_1 + 1)) = j_ := ⟨_, rfl⟩
         replace H : (if 0 ≤ (ji28) then (if (ji28) < (sx1.size : Int) then ((spec_short.f (bt sx1 (ji28))).bind fun t332 => (if x3_1.length < 140737488355328 then (spec_Unquote.l0 k1 (x3_1 ++ [t332]) sx1 (wrap64 (x5_1 + 2))) else (none))) else (none)) else (none)) = some r := by ((rw [hji28] at H; exact H))
         (try rw [hji28] at A8)
         have hji28w : (IntKind.i64.wrap (x5_1 + 1)) = ji28 := (i64_w _).trans hji28
         by_cases c29 : 0 ≤ (ji28)
         ·rw [if_pos c29] at H
          have c29b0 : decide (0 ≤ (ji28)) = true := decide_eq_true c29
          clear c29
          by_cases c30 : (ji28) < (sx1.size : Int)
          ·rw [if_pos c30] at H
           have c30b0 : decide ((ji28) < (sx1.size : Int)) = true := decide_eq_true c30
           clear c30
           obtain ⟨t332, A320, H⟩ := Option.bind_eq_some_iff.mp H
           try dsimp only at H
           have A32 := aj A320
           clear A320
           by_cases c33 : x3_1.length < 140737488355328
           ·rw [if_pos c33] at H
            have LMc33 := aj c33
            clear c33
            obtain ⟨y333, hy333⟩ : ∃ y_ : List Int, y_ = (x3_1 ++ [t332]) := ⟨_, rfl⟩
            replace H : (spec_Unquote.l0 k1 y333 sx1 (wrap64 (x5_1 + 2))) = some r := by ((rw [hy333]; with_reducible exact H))
            have Ny333 := aj hy333
            clear hy333
            have H' := aj H
            clear H
            have p6 : 0 ≤ (x5_1 : Int) := of_decide_eq_true (by (with_reducible assumption))
            have q6 : x5_1 < (sx1.size : Int) := of_decide_eq_true (by (with_reducible assumption))
            have hx6 := bt_at sx1 x5_1
            replace p6 := eq_true p6
            replace q6 := eq_true q6
            go_wp2_with (first | ((with_reducible refine gate_callee (f := 38) rfl ?_); refine goesL_ (some 34) rfl rfl Tryd.func38 (by kernel_rfl) rfl #[.string sx1, .int .i64 x5_1] rfl (by (try simp only [List.map_toArray, List.map_cons, List.map_nil]); rfl) ?_; (with_reducible refine (spec_unit.calls k1 sx1 x5_1 t330 false _ A8.out).mono ?_); rintro e w' ⟨rfl, ⟨nd, rfl⟩⟩; refine ⟨_, rfl, ?_⟩; have p31 : 0 ≤ ((ji28) : Int) := of_decide_eq_true (by (with_reducible assumption)); have q31 : (ji28) < (sx1.size : Int) := of_decide_eq_true (by (with_reducible assumption)); have hx31 := bt_at sx1 (ji28); replace p31 := eq_true p31; replace q31 := eq_true q31) | ((with_reducible refine gate_callee (f := 39) rfl ?_); refine goesL_ (some 44) rfl rfl Tryd.func39 (by kernel_rfl) rfl #[.int .u8 (bt sx1 (ji28))] rfl (by (try simp only [List.map_toArray, List.map_cons, List.map_nil]); rfl) ?_; (with_reducible refine (spec_short.calls (bt sx1 (ji28)) t332 _ A32.out).mono ?_); rintro e w' ⟨rfl, ⟨nd, rfl⟩⟩; refine ⟨_, rfl, ?_⟩) | ((with_reducible refine gate_builtin (b := .append) (xs := #[.tmp 39, .tmp 45]) rfl ?_); at_builtin; refine Kd.R_append (Kd.int .u8) (w0 := w) w.heap.size rfl (.tmp 39) (.tmp 45) 53 5 (.int .u8 0) 1 rfl Tryd.underlying53 info5 rfl (by decide) (by omega) u3 x3_1 t332 [.int .u8 t332] (fun _ => True) (fun _ => False) rfl rfl ?aP (fun _ hk => hk.elim) ?aF ?aO ?aB ?aS ?aL ?_; (case aP => exact rfl); (case aB => exact (by repeat (with_reducible first | exact HB.out | apply pw_below_drewN))); (case aF => exact (fun _ _ => trivial)); (case aO => exact (by (with_reducible repeat (apply Kd.R_drewN)); exact HO_3.out)); (case aS => exact (below_size (by repeat (with_reducible first | exact HB.out | apply pw_below_drewN)))); (case aL => have := LMc33.out; omega); intro v334 w34 ho hb hg hat; rw [← Ny333.out] at ho; replace HB := aj (hb); have HO335 := aj (ho); clear HO_3 ho hb hg hat))
            go_roundg k1
            case measure => have := HK1.out; omega
            case rel => exact ⟨(y333), (wrap64 (x5_1 + 2)), (by rfl), H', ⟨by have := HK1.out; omega⟩, ⟨HO335.out⟩, ⟨HB.out⟩⟩
           ·rw [if_neg c33] at H
            exact absurd H (by simp)
          ·rw [if_neg c30] at H
           exact absurd H (by simp)
         ·rw [if_neg c29] at H
          exact absurd H (by simp)
       ·rw [if_neg c7] at H
        have c7b0 : ((bt sx1 x5_1) == 92) = false := beq_eq_false_iff_ne.mpr c7
        have c7b1 : ((bt sx1 x5_1) != 92) = true := bne_iff_ne.mpr c7
        by_cases c36 : x3_1.length < 140737488355328
        ·rw [if_pos c36] at H
         have LMc36 := aj c36
         clear c36
         obtain ⟨y327, hy327⟩ : ∃ y_ : List Int, y_ = (x3_1 ++ [bt sx1 x5_1]) := ⟨_, rfl⟩
         replace H : (spec_Unquote.l0 k1 y327 sx1 (wrap64 (x5_1 + 1))) = some r := by ((rw [hy327]; with_reducible exact H))
         have Ny327 := aj hy327
         clear hy327
         have H' := aj H
         clear H
         have p6 : 0 ≤ (x5_1 : Int) := of_decide_eq_true (by (with_reducible assumption))
         have q6 : x5_1 < (sx1.size : Int) := of_decide_eq_true (by (with_reducible assumption))
         have hx6 := bt_at sx1 x5_1
         replace p6 := eq_true p6
         replace q6 := eq_true q6
         have p35 : 0 ≤ (x5_1 : Int) := of_decide_eq_true (by (with_reducible assumption))
         have q35 : x5_1 < (sx1.size : Int) := of_decide_eq_true (by (with_reducible assumption))
         have hx35 := bt_at sx1 x5_1
         replace p35 := eq_true p35
         replace q35 := eq_true q35
         go_wp2_with ((((with_reducible refine gate_builtin (b := .append) (xs := #[.tmp 23, .tmp 27]) rfl ?_); at_builtin; refine Kd.R_append (Kd.int .u8) (w0 := w) w.heap.size rfl (.tmp 23) (.tmp 27) 53 5 (.int .u8 0) 1 rfl Tryd.underlying53 info5 rfl (by decide) (by omega) u3 x3_1 (bt sx1 x5_1) [.int .u8 (bt sx1 x5_1)] (fun _ => True) (fun _ => False) rfl rfl ?aP (fun _ hk => hk.elim) ?aF ?aO ?aB ?aS ?aL ?_; (case aP => exact rfl); (case aB => exact HB.out); (case aF => exact (fun _ _ => trivial)); (case aO => exact HO_3.out); (case aS => exact (below_size HB.out)); (case aL => have := LMc36.out; omega); intro v328 w37 ho hb hg hat; rw [← Ny327.out] at ho; replace HB := aj (hb); have HO329 := aj (ho); clear HO_3 ho hb hg hat)))
         go_roundg k1
         case measure => have := HK1.out; omega
         case rel => exact ⟨(y327), (wrap64 (x5_1 + 1)), (by rfl), H', ⟨by have := HK1.out; omega⟩, ⟨HO329.out⟩, ⟨HB.out⟩⟩
        ·rw [if_neg c36] at H
         exact absurd H (by simp)
      ·rw [if_neg c5] at H
       exact absurd H (by simp)
     ·rw [if_neg c4] at H
      have c4b0 : decide (x5_1 < (sx1.size : Int)) = false := decide_eq_false c4
      clear c4
      obtain rfl := Option.some.inj H
      have hcv38 := own_string (P := Tryd.prog) Tryd.underlying53 Tryd.underlying5 Tryd.underlying9 (Kd.own_of_R HO_3.out)
      go_wp2
      go_ret
      exact ⟨by rfl, by exact HB.out⟩
  ·rw [if_neg c3] at H
   exact absurd H (by simp)
 ·rw [if_neg c2] at H
  exact absurd H (by simp)
end Go.Proofs.YtcfhnfjkiljigaaDoor.XFnJpGetUnsafe
end
section
-- Written by xprint.py of this session (a program that runs the kit's print and adds to it); Lean checks it.
namespace Go.Proofs.YtcfhnfjkiljigaaDoor.XFnJpGetUnsafe
open Go.RowKit Go.Proofs.YtcfhnfjkiljigaaDoorW.PrintWords Go.Proofs.YtcfhnfjkiljigaaDoorW.PrintLast Go.Proofs.YtcfhnfjkiljigaaDoorW.PrintMore
attribute [local go_sem] max2_int min2_int max_two min_two max_three min_three max_four min_four   -- for this text's walks alone
set_option linter.unusedVariables false
set_option linter.unusedSimpArgs false
/-! ### spec_Named: function 27 -/
def spec_Named.l0 : Nat → ByteArray → ByteArray → Int → Int → Int → Int → List (S65) → List (S27) → Option (Int)
 | 0, _, _, _, _, _, _, _, _ => none
 | k + 1, x0, x2, x7, x353000, x353001, x353002, x353003, x353004 => if x7 < (x353003.length : Int) then (if 0 ≤ x7 then (if 0 ≤ ((rd_T65 x353003 x7).f0) then (if ((rd_T65 x353003 x7).f0) ≤ ((rd_T65 x353003 x7).f1) then (if ((rd_T65 x353003 x7).f1) ≤ (x0.size : Int) then ((spec_Unquote.f k (x0.extract (((rd_T65 x353003 x7).f0) : Int).toNat (((rd_T65 x353003 x7).f1) : Int).toNat)).bind fun t355 => (if t355.toList = x2.toList then (some x7) else (spec_Named.l0 k x0 x2 (wrap64 (x7 + 1)) x353000 x353001 x353002 x353003 x353004))) else (none)) else (none)) else (none)) else (none)) else (some (-1))
def spec_Named.f (k : Nat) (a0 : ByteArray) (a1_0 : Int) (a1_1 : Int) (a1_2 : Int) (l1_3 : List (S65)) (l1_4 : List (S27)) (a2 : ByteArray) : Option (Int) := spec_Named.l0 k a0 a2 0 a1_0 a1_1 a1_2 l1_3 l1_4
def spec_Named.T4 : Bool × List (List Nat × List Nat) := (true, [([], []), ([], []), ([1], [1]), ([], []), ([2, 3], [2, 3]), ([4], [4]), ([5], [5]), ([], []), ([7], [7]), ([], []), ([8, 9], [8, 9]), ([10], [10]), ([11], [11]), ([0, 6, 12], [0, 6, 12]), ([13], [13]), ([], []), ([14, 15], [14, 15])])
def spec_Named.B4 : List Nat := [0, 0, 2, 0, 14, 30, 62, 0, 128, 0, 896, 1920, 3968, 8191, 16383, 0, 65535]
theorem spec_Named.tab4 : rtab .any (opsOf Tryd.f27 4) = spec_Named.T4 := by kernel_rfl
theorem spec_Named.bits4 : waitsOk spec_Named.T4.2 spec_Named.B4 = true := by kernel_rfl
set_option maxHeartbeats 8000000 in
set_option maxRecDepth 100000 in
theorem spec_Named.calls (k : Nat) (a0 : ByteArray) (a1_0 : Int) (a1_1 : Int) (a1_2 : Int) (A1_3 : Option Addr) (c1_3 : Nat) (l1_3 : List (S65)) (A1_4 : Option Addr) (c1_4 : Nat) (l1_4 : List (S27)) (a2 : ByteArray) (r : Int) (w : World) (hr1_3 : Kd.C k65 w A1_3 l1_3.length l1_3) (hc1_3 : l1_3.length ≤ c1_3) (hr1_4 : Kd.C k27 w A1_4 l1_4.length l1_4) (hc1_4 : l1_4.length ≤ c1_4) (h : spec_Named.f k a0 a1_0 a1_1 a1_2 l1_3 l1_4 a2 = some r) :
  Calls Tryd.prog 27 #[.string a0, .agg #[.int .i64 a1_0, .int .i64 a1_1, .int .i64 a1_2, .slice A1_3 l1_3.length c1_3, .slice A1_4 l1_4.length c1_4], .string a2] w fun e w' => e = .returned (.int .i64 r) ∧ Below w.heap.size w w' := by
 have hu27 := Tryd.underlying27
 have HR1_3 := aj hr1_3
 have HC1_3 := aj hc1_3
 clear hr1_3 hc1_3
 have HR1_4 := aj hr1_4
 have HC1_4 := aj hc1_4
 clear hr1_4 hc1_4
 have HB := aj (Below.refl w.heap.size w)
 have H : (spec_Named.l0 k a0 a2 0 a1_0 a1_1 a1_2 l1_3 l1_4) = some r := h
 clear h
 have H' := aj H
 clear H
 go_enter Tryd.func27, Tryd.ntmps27
 go_wp2_with ((((with_reducible refine gate_dst (N := 4) rfl ?_); refine box_event ?hg (N := 4) ?hd (cs := #[.int .i64 a1_0, .int .i64 a1_1, .int .i64 a1_2, .slice A1_3 l1_3.length c1_3, .slice A1_4 l1_4.length c1_4]) (t := 27) ?hr ?_; (case hd => rfl); (case hg => rfl); (case hr => ((go_simp; done))); intro gb352 hg w4 hbox hb; have BK352 := aj (hbox); have GW352 := aj ((by rw [hg]; exact (below_size HB.out) : w.heap.size ≤ gb352)); have GE352 := aj ((by rw [hg]; exact (below_size HB.out) : w.heap.size ≤ gb352)); replace HB := aj (below_step HB.out hb); clear hb hbox hg)))
 try simp only [Act.put, List.setIfInBounds_toArray, List.set_cons_succ, List.set_cons_zero]
 go_loopg [7] k (fun kq v7 w' => ∃ (x7_1 : Int), v7 = .int .i64 x7_1 ∧ Aside0 (spec_Named.l0 kq a0 a2 x7_1 a1_0 a1_1 a1_2 l1_3 l1_4 = some r) ∧ Aside0 (kq ≤ k) ∧ Aside0 (w'.heap[gb352]? = some (.cells #[.int .i64 a1_0, .int .i64 a1_1, .int .i64 a1_2, (.slice A1_3 l1_3.length c1_3), (.slice A1_4 l1_4.length c1_4)] 27 (0, 0))) ∧ Aside0 (Below w.heap.size w w'))
 case atStart => exact ⟨(0), (by rfl), H', ⟨Nat.le_refl _⟩, ⟨BK352.out⟩, ⟨HB.out⟩⟩
 case round =>
  clear H'
  obtain ⟨x7_1, rfl, HA, HK1, BK352, HB⟩ := hrel
  cases gk with
  | zero => exact absurd HA.out (by simp [spec_Named.l0])
  | succ k1 =>
   have H := HA.out
   clear HA
   simp only [spec_Named.l0] at H
   by_cases c5 : x7_1 < (l1_3.length : Int)
   ·rw [if_pos c5] at H
    have c5b0 : decide (x7_1 < (l1_3.length : Int)) = true := decide_eq_true c5
    clear c5
    by_cases c6 : 0 ≤ x7_1
    ·rw [if_pos c6] at H
     have c6b0 : decide (0 ≤ x7_1) = true := decide_eq_true c6
     clear c6
     by_cases c7 : 0 ≤ ((rd_T65 l1_3 x7_1).f0)
     ·rw [if_pos c7] at H
      have c7b0 := eq_true c7
      have c7b1 : decide (0 ≤ ((rd_T65 l1_3 x7_1).f0)) = true := decide_eq_true c7
      clear c7
      by_cases c8 : ((rd_T65 l1_3 x7_1).f0) ≤ ((rd_T65 l1_3 x7_1).f1)
      ·rw [if_pos c8] at H
       have c8b0 := eq_true c8
       have c8b1 : decide (((rd_T65 l1_3 x7_1).f0) ≤ ((rd_T65 l1_3 x7_1).f1)) = true := decide_eq_true c8
       clear c8
       by_cases c9 : ((rd_T65 l1_3 x7_1).f1) ≤ (a0.size : Int)
       ·rw [if_pos c9] at H
        have c9b0 := eq_true c9
        have c9b1 : decide (((rd_T65 l1_3 x7_1).f1) ≤ (a0.size : Int)) = true := decide_eq_true c9
        clear c9
        obtain ⟨t355, A100, H⟩ := Option.bind_eq_some_iff.mp H
        try dsimp only at H
        have A10 := aj A100
        clear A100
        by_cases c11 : t355.toList = a2.toList
        ·rw [if_pos c11] at H
         have c11b0 : (t355.toList == a2.toList) = true := beq_iff_eq.mpr c11
         have c11b1 : (t355.toList != a2.toList) = false := bne_eq_false_iff_eq.mpr c11
         clear c11
         obtain rfl := Option.some.inj H
         have hcz12_0 : wr.cell? ⟨gb352, 0, none⟩ = some (.int .i64 a1_0) := (blk_cell BK352.out 0).trans rfl
         have hcz12_1 : wr.cell? ⟨gb352, 1, none⟩ = some (.int .i64 a1_1) := (blk_cell BK352.out 1).trans rfl
         have hcz12_2 : wr.cell? ⟨gb352, 2, none⟩ = some (.int .i64 a1_2) := (blk_cell BK352.out 2).trans rfl
         have hcz12_3 : wr.cell? ⟨gb352, 3, none⟩ = some (.slice A1_3 l1_3.length c1_3) := (blk_cell BK352.out 3).trans rfl
         have hcz12_4 : wr.cell? ⟨gb352, 4, none⟩ = some (.slice A1_4 l1_4.length c1_4) := (blk_cell BK352.out 4).trans rfl
         have hfz12_0 := blk_frozen BK352.out 0
         have hfz12_1 := blk_frozen BK352.out 1
         have hfz12_2 := blk_frozen BK352.out 2
         have hfz12_3 := blk_frozen BK352.out 3
         have hfz12_4 := blk_frozen BK352.out 4
         try go_wp2
         have n0_ := aj (blk_drew BK352.out)
         have n1_ := aj (below_drew1 HB.out)
         clear BK352 HB
         have BK352 := n0_
         have HB := n1_
         clear n0_ n1_
         have p353 : 0 ≤ (x7_1 : Int) := of_decide_eq_true (by (with_reducible assumption))
         have q353 : x7_1 < (l1_3.length : Int) := of_decide_eq_true (by (with_reducible assumption))
         obtain ⟨ad353, e353, hx353_0, hx353_1⟩ := at_T65 HR1_3.out x7_1 p353 q353
         have hw353_1 := hx353_1
         have hw353_0 := hx353_0
         cases e353
         replace hx353_0 := (HB.out.cell (World.block_lt_of_cell? w _ hx353_0)).trans hx353_0
         replace hx353_1 := (HB.out.cell (World.block_lt_of_cell? w _ hx353_1)).trans hx353_1
         replace p353 := eq_true p353
         replace q353 := eq_true q353
         have p354 : 0 ≤ (x7_1 : Int) := of_decide_eq_true (by (with_reducible assumption))
         have q354 : x7_1 < (l1_3.length : Int) := of_decide_eq_true (by (with_reducible assumption))
         obtain ⟨ad354, e354, hx354_0, hx354_1⟩ := at_T65 HR1_3.out x7_1 p354 q354
         have hw354_1 := hx354_1
         have hw354_0 := hx354_0
         obtain rfl : ad353 = ad354 := (by injection e354)
         replace hx354_0 := (HB.out.cell (World.block_lt_of_cell? w _ hx354_0)).trans hx354_0
         replace hx354_1 := (HB.out.cell (World.block_lt_of_cell? w _ hx354_1)).trans hx354_1
         replace p354 := eq_true p354
         replace q354 := eq_true q354
         refine start_ (n := 17) (S := fun w' => w'.cell? ⟨gb352, 0, none⟩ = some (.int .i64 a1_0) ∧ w'.cell? ⟨gb352, 1, none⟩ = some (.int .i64 a1_1) ∧ w'.cell? ⟨gb352, 2, none⟩ = some (.int .i64 a1_2) ∧ w'.cell? ⟨gb352, 3, none⟩ = some (.slice (some ad353) l1_3.length c1_3) ∧ w'.cell? ⟨gb352, 4, none⟩ = some (.slice A1_4 l1_4.length c1_4) ∧ w'.cell? (ad353.add ((x7_1).toNat * 2)) = some (.int .i64 ((rd_T65 l1_3 x7_1).f0)) ∧ w'.cell? ⟨(ad353.add ((x7_1).toNat * 2)).block, (ad353.add ((x7_1).toNat * 2)).off + 1, none⟩ = some (.int .i64 ((rd_T65 l1_3 x7_1).f1)) ∧ w'.cell? (ad353.add ((x7_1).toNat * 2)) = some (.int .i64 ((rd_T65 l1_3 x7_1).f0)) ∧ w'.cell? ⟨(ad353.add ((x7_1).toNat * 2)).block, (ad353.add ((x7_1).toNat * 2)).off + 1, none⟩ = some (.int .i64 ((rd_T65 l1_3 x7_1).f1))) (ds := []) #[false, false, false, false, false, false, false, false, false, false, false, false, false, false, false, false, false] (by kernel_rfl) rfl rfl ⟨(blk_cell BK352.out 0).trans rfl, (blk_cell BK352.out 1).trans rfl, (blk_cell BK352.out 2).trans rfl, (blk_cell BK352.out 3).trans rfl, (blk_cell BK352.out 4).trans rfl, ((HB.out.cell (World.block_lt_of_cell? w _ hw353_0)).trans hw353_0), ((HB.out.cell (World.block_lt_of_cell? w _ hw353_1)).trans hw353_1), ((HB.out.cell (World.block_lt_of_cell? w _ hw354_0)).trans hw354_0), ((HB.out.cell (World.block_lt_of_cell? w _ hw354_1)).trans hw354_1)⟩ (fun hHeld => ?_); refine with_tabW spec_Named.tab4 spec_Named.bits4 (fun HT_ HW_ => ?_)
         generalize wr.drew = w13 at BK352 HB hx353_0 hx353_1 hx354_0 hx354_1 hHeld ⊢
         refine pure_ (i := 0) (N := some 15) (v := ?_) (a' := ?_) #[true, false, false, false, false, false, false, false, false, false, false, false, false, false, false, false, false] rfl rfl (any_of HT_.out (by kernel_rfl)) (fun _ _ _ h => h) (Or.inl ⟨by rfl, ?_⟩) ?_ ?_
         rotate_left
         ·intro w'
          go_simp
          with_reducible rfl
         rotate_left
         ·simp only [Act.put, List.setIfInBounds_toArray, List.set_cons_zero, List.set_cons_succ, i64_w, i32_w]
          rfl
         refine pure_ (i := 1) (N := some 16) (v := ?_) (a' := ?_) #[true, true, false, false, false, false, false, false, false, false, false, false, false, false, false, false, false] rfl rfl (any_of HT_.out (by kernel_rfl)) (fun _ _ _ h => h) (Or.inl ⟨by rfl, ?_⟩) ?_ ?_
         rotate_left
         ·intro w'
          go_simp
          with_reducible rfl
         rotate_left
         ·simp only [Act.put, List.setIfInBounds_toArray, List.set_cons_zero, List.set_cons_succ, i64_w, i32_w]
          rfl
         refine pure_ (i := 3) (N := some 18) (v := ?_) (a' := ?_) #[true, true, false, true, false, false, false, false, false, false, false, false, false, false, false, false, false] rfl rfl (any_of HT_.out (by kernel_rfl)) (fun _ _ _ h => h) (Or.inl ⟨by rfl, ?_⟩) ?_ ?_
         rotate_left
         ·intro w'
          go_simp
          with_reducible rfl
         rotate_left
         ·simp only [Act.put, List.setIfInBounds_toArray, List.set_cons_zero, List.set_cons_succ, i64_w, i32_w]
          rfl
         refine pure_ (i := 7) (N := some 22) (v := ?_) (a' := ?_) #[true, true, false, true, false, false, false, true, false, false, false, false, false, false, false, false, false] rfl rfl (any_of HT_.out (by kernel_rfl)) (fun _ _ _ h => h) (Or.inl ⟨by rfl, ?_⟩) ?_ ?_
         rotate_left
         ·intro w'
          go_simp
          with_reducible rfl
         rotate_left
         ·simp only [Act.put, List.setIfInBounds_toArray, List.set_cons_zero, List.set_cons_succ, i64_w, i32_w]
          rfl
         refine pure_ (i := 9) (N := some 24) (v := ?_) (a' := ?_) #[true, true, false, true, false, false, false, true, false, true, false, false, false, false, false, false, false] rfl rfl (any_of HT_.out (by kernel_rfl)) (fun _ _ _ h => h) (Or.inl ⟨by rfl, ?_⟩) ?_ ?_
         rotate_left
         ·intro w'
          go_simp
          with_reducible rfl
         rotate_left
         ·simp only [Act.put, List.setIfInBounds_toArray, List.set_cons_zero, List.set_cons_succ, i64_w, i32_w]
          rfl
         refine pure_ (i := 15) (N := some 30) (v := ?_) (a' := ?_) #[true, true, false, true, false, false, false, true, false, true, false, false, false, false, false, true, false] rfl rfl (any_of HT_.out (by kernel_rfl)) (fun _ _ _ h => h) (Or.inl ⟨by rfl, ?_⟩) ?_ ?_
         rotate_left
         ·intro w'
          go_simp
          with_reducible rfl
         rotate_left
         ·simp only [Act.put, List.setIfInBounds_toArray, List.set_cons_zero, List.set_cons_succ, i64_w, i32_w]
          rfl
         refine take_ (i := 2) (N := some 17) (v := ?_) (a' := ?_) #[true, true, true, true, false, false, false, true, false, true, false, false, false, false, false, true, false] rfl rfl (take_ofW HT_.out HW_.out (by kernel_rfl)) (fun _ _ _ h => h) (Or.inl ⟨by rfl, ?_⟩) hHeld ?_ ?_
         rotate_left
         ·rintro w' ⟨s0, s1, s2, s3, s4, s5, s6, s7, s8⟩
          go_simp
          with_reducible rfl
         rotate_left
         ·simp only [Act.put, List.setIfInBounds_toArray, List.set_cons_zero, List.set_cons_succ, i64_w, i32_w]
          rfl
         refine pure_ (i := 4) (N := some 19) (v := ?_) (a' := ?_) #[true, true, true, true, true, false, false, true, false, true, false, false, false, false, false, true, false] rfl rfl (any_of HT_.out (by kernel_rfl)) (fun _ _ _ h => h) (Or.inl ⟨by rfl, ?_⟩) ?_ ?_
         rotate_left
         ·intro w'
          go_simp
          with_reducible rfl
         rotate_left
         ·simp only [Act.put, List.setIfInBounds_toArray, List.set_cons_zero, List.set_cons_succ, i64_w, i32_w]
          rfl
         refine pure_ (i := 5) (N := some 20) (v := ?_) (a' := ?_) #[true, true, true, true, true, true, false, true, false, true, false, false, false, false, false, true, false] rfl rfl (any_of HT_.out (by kernel_rfl)) (fun _ _ _ h => h) (Or.inl ⟨by rfl, ?_⟩) ?_ ?_
         rotate_left
         ·intro w'
          go_simp
          with_reducible rfl
         rotate_left
         ·simp only [Act.put, List.setIfInBounds_toArray, List.set_cons_zero, List.set_cons_succ, i64_w, i32_w]
          rfl
         refine take_ (i := 6) (N := some 21) (v := ?_) (a' := ?_) #[true, true, true, true, true, true, true, true, false, true, false, false, false, false, false, true, false] rfl rfl (take_ofW HT_.out HW_.out (by kernel_rfl)) (fun _ _ _ h => h) (Or.inl ⟨by rfl, ?_⟩) hHeld ?_ ?_
         rotate_left
         ·rintro w' ⟨s0, s1, s2, s3, s4, s5, s6, s7, s8⟩
          go_simp
          with_reducible rfl
         rotate_left
         ·simp only [Act.put, List.setIfInBounds_toArray, List.set_cons_zero, List.set_cons_succ, i64_w, i32_w]
          rfl
         refine take_ (i := 8) (N := some 23) (v := ?_) (a' := ?_) #[true, true, true, true, true, true, true, true, true, true, false, false, false, false, false, true, false] rfl rfl (take_ofW HT_.out HW_.out (by kernel_rfl)) (fun _ _ _ h => h) (Or.inl ⟨by rfl, ?_⟩) hHeld ?_ ?_
         rotate_left
         ·rintro w' ⟨s0, s1, s2, s3, s4, s5, s6, s7, s8⟩
          go_simp
          with_reducible rfl
         rotate_left
         ·simp only [Act.put, List.setIfInBounds_toArray, List.set_cons_zero, List.set_cons_succ, i64_w, i32_w]
          rfl
         refine pure_ (i := 10) (N := some 25) (v := ?_) (a' := ?_) #[true, true, true, true, true, true, true, true, true, true, true, false, false, false, false, true, false] rfl rfl (any_of HT_.out (by kernel_rfl)) (fun _ _ _ h => h) (Or.inl ⟨by rfl, ?_⟩) ?_ ?_
         rotate_left
         ·intro w'
          go_simp
          with_reducible rfl
         rotate_left
         ·simp only [Act.put, List.setIfInBounds_toArray, List.set_cons_zero, List.set_cons_succ, i64_w, i32_w]
          rfl
         refine pure_ (i := 11) (N := some 26) (v := ?_) (a' := ?_) #[true, true, true, true, true, true, true, true, true, true, true, true, false, false, false, true, false] rfl rfl (any_of HT_.out (by kernel_rfl)) (fun _ _ _ h => h) (Or.inl ⟨by rfl, ?_⟩) ?_ ?_
         rotate_left
         ·intro w'
          go_simp
          with_reducible rfl
         rotate_left
         ·simp only [Act.put, List.setIfInBounds_toArray, List.set_cons_zero, List.set_cons_succ, i64_w, i32_w]
          rfl
         refine take_ (i := 12) (N := some 27) (v := ?_) (a' := ?_) #[true, true, true, true, true, true, true, true, true, true, true, true, true, false, false, true, false] rfl rfl (take_ofW HT_.out HW_.out (by kernel_rfl)) (fun _ _ _ h => h) (Or.inl ⟨by rfl, ?_⟩) hHeld ?_ ?_
         rotate_left
         ·rintro w' ⟨s0, s1, s2, s3, s4, s5, s6, s7, s8⟩
          go_simp
          with_reducible rfl
         rotate_left
         ·simp only [Act.put, List.setIfInBounds_toArray, List.set_cons_zero, List.set_cons_succ, i64_w, i32_w]
          rfl
         refine pure_ (i := 13) (N := some 28) (v := ?_) (a' := ?_) #[true, true, true, true, true, true, true, true, true, true, true, true, true, true, false, true, false] rfl rfl (any_of HT_.out (by kernel_rfl)) (fun _ _ _ h => h) (Or.inl ⟨by rfl, ?_⟩) ?_ ?_
         rotate_left
         ·intro w'
          go_simp
          with_reducible rfl
         rotate_left
         ·simp only [Act.put, List.setIfInBounds_toArray, List.set_cons_zero, List.set_cons_succ, i64_w, i32_w]
          rfl
         refine one_ (i := 14) (N := some 29) #[true, true, true, true, true, true, true, true, true, true, true, true, true, true, true, true, false] rfl rfl (one_of HT_.out (by kernel_rfl)) (by decide) (fun K hK => ?_)
         refine goes_ Tryd.func26 (by kernel_rfl) rfl #[.string (a0.extract (((rd_T65 l1_3 x7_1).f0) : Int).toNat (((rd_T65 l1_3 x7_1).f1) : Int).toNat)] (by rfl) rfl rfl (by (try simp only [List.map_toArray, List.map_cons, List.map_nil]); rfl) ?_
         with_reducible refine (spec_Unquote.calls k1 (a0.extract (((rd_T65 l1_3 x7_1).f0) : Int).toNat (((rd_T65 l1_3 x7_1).f1) : Int).toNat) t355 _ A10.out).mono ?_
         rintro e w14 ⟨rfl, hb⟩
         refine ⟨_, rfl, ?_⟩
         have n0_ := aj (blk_below BK352.out hb)
         have n1_ := aj (below_step HB.out hb)
         clear BK352 HB
         have BK352 := n0_
         have HB := n1_
         clear n0_ n1_ hb
         refine hK.out _ _ ⟨(blk_cell BK352.out 0).trans rfl, (blk_cell BK352.out 1).trans rfl, (blk_cell BK352.out 2).trans rfl, (blk_cell BK352.out 3).trans rfl, (blk_cell BK352.out 4).trans rfl, ((HB.out.cell (World.block_lt_of_cell? w _ hw353_0)).trans hw353_0), ((HB.out.cell (World.block_lt_of_cell? w _ hw353_1)).trans hw353_1), ((HB.out.cell (World.block_lt_of_cell? w _ hw354_0)).trans hw354_0), ((HB.out.cell (World.block_lt_of_cell? w _ hw354_1)).trans hw354_1)⟩ (fun hHeld => ?_)
         clear hK K
         refine norm_ (a' := ?_) ?_ ?_
         rotate_left
         ·show Act.put _ (some 29) _ = _
          simp only [Act.put, List.setIfInBounds_toArray, List.set_cons_zero, List.set_cons_succ, i64_w, i32_w]
          rfl
         refine pure_ (i := 16) (N := some 31) (v := ?_) (a' := ?_) #[true, true, true, true, true, true, true, true, true, true, true, true, true, true, true, true, true] rfl rfl (any_of HT_.out (by kernel_rfl)) (fun _ _ _ h => h) (Or.inl ⟨by rfl, ?_⟩) ?_ ?_
         rotate_left
         ·intro w'
          go_simp
          with_reducible rfl
         rotate_left
         ·simp only [Act.put, List.setIfInBounds_toArray, List.set_cons_zero, List.set_cons_succ, i64_w, i32_w]
          rfl
         refine done_ (done_of HT_.out (by kernel_rfl)) ?_
         try go_wp2
         go_ret
         exact ⟨by rfl, by exact HB.out⟩
        ·rw [if_neg c11] at H
         have c11b0 : (t355.toList == a2.toList) = false := beq_eq_false_iff_ne.mpr c11
         have c11b1 : (t355.toList != a2.toList) = true := bne_iff_ne.mpr c11
         have H' := aj H
         clear H
         have hcz15_0 : wr.cell? ⟨gb352, 0, none⟩ = some (.int .i64 a1_0) := (blk_cell BK352.out 0).trans rfl
         have hcz15_1 : wr.cell? ⟨gb352, 1, none⟩ = some (.int .i64 a1_1) := (blk_cell BK352.out 1).trans rfl
         have hcz15_2 : wr.cell? ⟨gb352, 2, none⟩ = some (.int .i64 a1_2) := (blk_cell BK352.out 2).trans rfl
         have hcz15_3 : wr.cell? ⟨gb352, 3, none⟩ = some (.slice A1_3 l1_3.length c1_3) := (blk_cell BK352.out 3).trans rfl
         have hcz15_4 : wr.cell? ⟨gb352, 4, none⟩ = some (.slice A1_4 l1_4.length c1_4) := (blk_cell BK352.out 4).trans rfl
         have hfz15_0 := blk_frozen BK352.out 0
         have hfz15_1 := blk_frozen BK352.out 1
         have hfz15_2 := blk_frozen BK352.out 2
         have hfz15_3 := blk_frozen BK352.out 3
         have hfz15_4 := blk_frozen BK352.out 4
         try go_wp2
         have n0_ := aj (blk_drew BK352.out)
         have n1_ := aj (below_drew1 HB.out)
         clear BK352 HB
         have BK352 := n0_
         have HB := n1_
         clear n0_ n1_
         have p353 : 0 ≤ (x7_1 : Int) := of_decide_eq_true (by (with_reducible assumption))
         have q353 : x7_1 < (l1_3.length : Int) := of_decide_eq_true (by (with_reducible assumption))
         obtain ⟨ad353, e353, hx353_0, hx353_1⟩ := at_T65 HR1_3.out x7_1 p353 q353
         have hw353_1 := hx353_1
         have hw353_0 := hx353_0
         cases e353
         replace hx353_0 := (HB.out.cell (World.block_lt_of_cell? w _ hx353_0)).trans hx353_0
         replace hx353_1 := (HB.out.cell (World.block_lt_of_cell? w _ hx353_1)).trans hx353_1
         replace p353 := eq_true p353
         replace q353 := eq_true q353
         have p354 : 0 ≤ (x7_1 : Int) := of_decide_eq_true (by (with_reducible assumption))
         have q354 : x7_1 < (l1_3.length : Int) := of_decide_eq_true (by (with_reducible assumption))
         obtain ⟨ad354, e354, hx354_0, hx354_1⟩ := at_T65 HR1_3.out x7_1 p354 q354
         have hw354_1 := hx354_1
         have hw354_0 := hx354_0
         obtain rfl : ad353 = ad354 := (by injection e354)
         replace hx354_0 := (HB.out.cell (World.block_lt_of_cell? w _ hx354_0)).trans hx354_0
         replace hx354_1 := (HB.out.cell (World.block_lt_of_cell? w _ hx354_1)).trans hx354_1
         replace p354 := eq_true p354
         replace q354 := eq_true q354
         refine start_ (n := 17) (S := fun w' => w'.cell? ⟨gb352, 0, none⟩ = some (.int .i64 a1_0) ∧ w'.cell? ⟨gb352, 1, none⟩ = some (.int .i64 a1_1) ∧ w'.cell? ⟨gb352, 2, none⟩ = some (.int .i64 a1_2) ∧ w'.cell? ⟨gb352, 3, none⟩ = some (.slice (some ad353) l1_3.length c1_3) ∧ w'.cell? ⟨gb352, 4, none⟩ = some (.slice A1_4 l1_4.length c1_4) ∧ w'.cell? (ad353.add ((x7_1).toNat * 2)) = some (.int .i64 ((rd_T65 l1_3 x7_1).f0)) ∧ w'.cell? ⟨(ad353.add ((x7_1).toNat * 2)).block, (ad353.add ((x7_1).toNat * 2)).off + 1, none⟩ = some (.int .i64 ((rd_T65 l1_3 x7_1).f1)) ∧ w'.cell? (ad353.add ((x7_1).toNat * 2)) = some (.int .i64 ((rd_T65 l1_3 x7_1).f0)) ∧ w'.cell? ⟨(ad353.add ((x7_1).toNat * 2)).block, (ad353.add ((x7_1).toNat * 2)).off + 1, none⟩ = some (.int .i64 ((rd_T65 l1_3 x7_1).f1))) (ds := []) #[false, false, false, false, false, false, false, false, false, false, false, false, false, false, false, false, false] (by kernel_rfl) rfl rfl ⟨(blk_cell BK352.out 0).trans rfl, (blk_cell BK352.out 1).trans rfl, (blk_cell BK352.out 2).trans rfl, (blk_cell BK352.out 3).trans rfl, (blk_cell BK352.out 4).trans rfl, ((HB.out.cell (World.block_lt_of_cell? w _ hw353_0)).trans hw353_0), ((HB.out.cell (World.block_lt_of_cell? w _ hw353_1)).trans hw353_1), ((HB.out.cell (World.block_lt_of_cell? w _ hw354_0)).trans hw354_0), ((HB.out.cell (World.block_lt_of_cell? w _ hw354_1)).trans hw354_1)⟩ (fun hHeld => ?_); refine with_tabW spec_Named.tab4 spec_Named.bits4 (fun HT_ HW_ => ?_)
         generalize wr.drew = w16 at BK352 HB hx353_0 hx353_1 hx354_0 hx354_1 hHeld ⊢
         refine pure_ (i := 0) (N := some 15) (v := ?_) (a' := ?_) #[true, false, false, false, false, false, false, false, false, false, false, false, false, false, false, false, false] rfl rfl (any_of HT_.out (by kernel_rfl)) (fun _ _ _ h => h) (Or.inl ⟨by rfl, ?_⟩) ?_ ?_
         rotate_left
         ·intro w'
          go_simp
          with_reducible rfl
         rotate_left
         ·simp only [Act.put, List.setIfInBounds_toArray, List.set_cons_zero, List.set_cons_succ, i64_w, i32_w]
          rfl
         refine pure_ (i := 1) (N := some 16) (v := ?_) (a' := ?_) #[true, true, false, false, false, false, false, false, false, false, false, false, false, false, false, false, false] rfl rfl (any_of HT_.out (by kernel_rfl)) (fun _ _ _ h => h) (Or.inl ⟨by rfl, ?_⟩) ?_ ?_
         rotate_left
         ·intro w'
          go_simp
          with_reducible rfl
         rotate_left
         ·simp only [Act.put, List.setIfInBounds_toArray, List.set_cons_zero, List.set_cons_succ, i64_w, i32_w]
          rfl
         refine pure_ (i := 3) (N := some 18) (v := ?_) (a' := ?_) #[true, true, false, true, false, false, false, false, false, false, false, false, false, false, false, false, false] rfl rfl (any_of HT_.out (by kernel_rfl)) (fun _ _ _ h => h) (Or.inl ⟨by rfl, ?_⟩) ?_ ?_
         rotate_left
         ·intro w'
          go_simp
          with_reducible rfl
         rotate_left
         ·simp only [Act.put, List.setIfInBounds_toArray, List.set_cons_zero, List.set_cons_succ, i64_w, i32_w]
          rfl
         refine pure_ (i := 7) (N := some 22) (v := ?_) (a' := ?_) #[true, true, false, true, false, false, false, true, false, false, false, false, false, false, false, false, false] rfl rfl (any_of HT_.out (by kernel_rfl)) (fun _ _ _ h => h) (Or.inl ⟨by rfl, ?_⟩) ?_ ?_
         rotate_left
         ·intro w'
          go_simp
          with_reducible rfl
         rotate_left
         ·simp only [Act.put, List.setIfInBounds_toArray, List.set_cons_zero, List.set_cons_succ, i64_w, i32_w]
          rfl
         refine pure_ (i := 9) (N := some 24) (v := ?_) (a' := ?_) #[true, true, false, true, false, false, false, true, false, true, false, false, false, false, false, false, false] rfl rfl (any_of HT_.out (by kernel_rfl)) (fun _ _ _ h => h) (Or.inl ⟨by rfl, ?_⟩) ?_ ?_
         rotate_left
         ·intro w'
          go_simp
          with_reducible rfl
         rotate_left
         ·simp only [Act.put, List.setIfInBounds_toArray, List.set_cons_zero, List.set_cons_succ, i64_w, i32_w]
          rfl
         refine pure_ (i := 15) (N := some 30) (v := ?_) (a' := ?_) #[true, true, false, true, false, false, false, true, false, true, false, false, false, false, false, true, false] rfl rfl (any_of HT_.out (by kernel_rfl)) (fun _ _ _ h => h) (Or.inl ⟨by rfl, ?_⟩) ?_ ?_
         rotate_left
         ·intro w'
          go_simp
          with_reducible rfl
         rotate_left
         ·simp only [Act.put, List.setIfInBounds_toArray, List.set_cons_zero, List.set_cons_succ, i64_w, i32_w]
          rfl
         refine take_ (i := 2) (N := some 17) (v := ?_) (a' := ?_) #[true, true, true, true, false, false, false, true, false, true, false, false, false, false, false, true, false] rfl rfl (take_ofW HT_.out HW_.out (by kernel_rfl)) (fun _ _ _ h => h) (Or.inl ⟨by rfl, ?_⟩) hHeld ?_ ?_
         rotate_left
         ·rintro w' ⟨s0, s1, s2, s3, s4, s5, s6, s7, s8⟩
          go_simp
          with_reducible rfl
         rotate_left
         ·simp only [Act.put, List.setIfInBounds_toArray, List.set_cons_zero, List.set_cons_succ, i64_w, i32_w]
          rfl
         refine pure_ (i := 4) (N := some 19) (v := ?_) (a' := ?_) #[true, true, true, true, true, false, false, true, false, true, false, false, false, false, false, true, false] rfl rfl (any_of HT_.out (by kernel_rfl)) (fun _ _ _ h => h) (Or.inl ⟨by rfl, ?_⟩) ?_ ?_
         rotate_left
         ·intro w'
          go_simp
          with_reducible rfl
         rotate_left
         ·simp only [Act.put, List.setIfInBounds_toArray, List.set_cons_zero, List.set_cons_succ, i64_w, i32_w]
          rfl
         refine pure_ (i := 5) (N := some 20) (v := ?_) (a' := ?_) #[true, true, true, true, true, true, false, true, false, true, false, false, false, false, false, true, false] rfl rfl (any_of HT_.out (by kernel_rfl)) (fun _ _ _ h => h) (Or.inl ⟨by rfl, ?_⟩) ?_ ?_
         rotate_left
         ·intro w'
          go_simp
          with_reducible rfl
         rotate_left
         ·simp only [Act.put, List.setIfInBounds_toArray, List.set_cons_zero, List.set_cons_succ, i64_w, i32_w]
          rfl
         refine take_ (i := 6) (N := some 21) (v := ?_) (a' := ?_) #[true, true, true, true, true, true, true, true, false, true, false, false, false, false, false, true, false] rfl rfl (take_ofW HT_.out HW_.out (by kernel_rfl)) (fun _ _ _ h => h) (Or.inl ⟨by rfl, ?_⟩) hHeld ?_ ?_
         rotate_left
         ·rintro w' ⟨s0, s1, s2, s3, s4, s5, s6, s7, s8⟩
          go_simp
          with_reducible rfl
         rotate_left
         ·simp only [Act.put, List.setIfInBounds_toArray, List.set_cons_zero, List.set_cons_succ, i64_w, i32_w]
          rfl
         refine take_ (i := 8) (N := some 23) (v := ?_) (a' := ?_) #[true, true, true, true, true, true, true, true, true, true, false, false, false, false, false, true, false] rfl rfl (take_ofW HT_.out HW_.out (by kernel_rfl)) (fun _ _ _ h => h) (Or.inl ⟨by rfl, ?_⟩) hHeld ?_ ?_
         rotate_left
         ·rintro w' ⟨s0, s1, s2, s3, s4, s5, s6, s7, s8⟩
          go_simp
          with_reducible rfl
         rotate_left
         ·simp only [Act.put, List.setIfInBounds_toArray, List.set_cons_zero, List.set_cons_succ, i64_w, i32_w]
          rfl
         refine pure_ (i := 10) (N := some 25) (v := ?_) (a' := ?_) #[true, true, true, true, true, true, true, true, true, true, true, false, false, false, false, true, false] rfl rfl (any_of HT_.out (by kernel_rfl)) (fun _ _ _ h => h) (Or.inl ⟨by rfl, ?_⟩) ?_ ?_
         rotate_left
         ·intro w'
          go_simp
          with_reducible rfl
         rotate_left
         ·simp only [Act.put, List.setIfInBounds_toArray, List.set_cons_zero, List.set_cons_succ, i64_w, i32_w]
          rfl
         refine pure_ (i := 11) (N := some 26) (v := ?_) (a' := ?_) #[true, true, true, true, true, true, true, true, true, true, true, true, false, false, false, true, false] rfl rfl (any_of HT_.out (by kernel_rfl)) (fun _ _ _ h => h) (Or.inl ⟨by rfl, ?_⟩) ?_ ?_
         rotate_left
         ·intro w'
          go_simp
          with_reducible rfl
         rotate_left
         ·simp only [Act.put, List.setIfInBounds_toArray, List.set_cons_zero, List.set_cons_succ, i64_w, i32_w]
          rfl
         refine take_ (i := 12) (N := some 27) (v := ?_) (a' := ?_) #[true, true, true, true, true, true, true, true, true, true, true, true, true, false, false, true, false] rfl rfl (take_ofW HT_.out HW_.out (by kernel_rfl)) (fun _ _ _ h => h) (Or.inl ⟨by rfl, ?_⟩) hHeld ?_ ?_
         rotate_left
         ·rintro w' ⟨s0, s1, s2, s3, s4, s5, s6, s7, s8⟩
          go_simp
          with_reducible rfl
         rotate_left
         ·simp only [Act.put, List.setIfInBounds_toArray, List.set_cons_zero, List.set_cons_succ, i64_w, i32_w]
          rfl
         refine pure_ (i := 13) (N := some 28) (v := ?_) (a' := ?_) #[true, true, true, true, true, true, true, true, true, true, true, true, true, true, false, true, false] rfl rfl (any_of HT_.out (by kernel_rfl)) (fun _ _ _ h => h) (Or.inl ⟨by rfl, ?_⟩) ?_ ?_
         rotate_left
         ·intro w'
          go_simp
          with_reducible rfl
         rotate_left
         ·simp only [Act.put, List.setIfInBounds_toArray, List.set_cons_zero, List.set_cons_succ, i64_w, i32_w]
          rfl
         refine one_ (i := 14) (N := some 29) #[true, true, true, true, true, true, true, true, true, true, true, true, true, true, true, true, false] rfl rfl (one_of HT_.out (by kernel_rfl)) (by decide) (fun K hK => ?_)
         refine goes_ Tryd.func26 (by kernel_rfl) rfl #[.string (a0.extract (((rd_T65 l1_3 x7_1).f0) : Int).toNat (((rd_T65 l1_3 x7_1).f1) : Int).toNat)] (by rfl) rfl rfl (by (try simp only [List.map_toArray, List.map_cons, List.map_nil]); rfl) ?_
         with_reducible refine (spec_Unquote.calls k1 (a0.extract (((rd_T65 l1_3 x7_1).f0) : Int).toNat (((rd_T65 l1_3 x7_1).f1) : Int).toNat) t355 _ A10.out).mono ?_
         rintro e w17 ⟨rfl, hb⟩
         refine ⟨_, rfl, ?_⟩
         have n0_ := aj (blk_below BK352.out hb)
         have n1_ := aj (below_step HB.out hb)
         clear BK352 HB
         have BK352 := n0_
         have HB := n1_
         clear n0_ n1_ hb
         refine hK.out _ _ ⟨(blk_cell BK352.out 0).trans rfl, (blk_cell BK352.out 1).trans rfl, (blk_cell BK352.out 2).trans rfl, (blk_cell BK352.out 3).trans rfl, (blk_cell BK352.out 4).trans rfl, ((HB.out.cell (World.block_lt_of_cell? w _ hw353_0)).trans hw353_0), ((HB.out.cell (World.block_lt_of_cell? w _ hw353_1)).trans hw353_1), ((HB.out.cell (World.block_lt_of_cell? w _ hw354_0)).trans hw354_0), ((HB.out.cell (World.block_lt_of_cell? w _ hw354_1)).trans hw354_1)⟩ (fun hHeld => ?_)
         clear hK K
         refine norm_ (a' := ?_) ?_ ?_
         rotate_left
         ·show Act.put _ (some 29) _ = _
          simp only [Act.put, List.setIfInBounds_toArray, List.set_cons_zero, List.set_cons_succ, i64_w, i32_w]
          rfl
         refine pure_ (i := 16) (N := some 31) (v := ?_) (a' := ?_) #[true, true, true, true, true, true, true, true, true, true, true, true, true, true, true, true, true] rfl rfl (any_of HT_.out (by kernel_rfl)) (fun _ _ _ h => h) (Or.inl ⟨by rfl, ?_⟩) ?_ ?_
         rotate_left
         ·intro w'
          go_simp
          with_reducible rfl
         rotate_left
         ·simp only [Act.put, List.setIfInBounds_toArray, List.set_cons_zero, List.set_cons_succ, i64_w, i32_w]
          rfl
         refine done_ (done_of HT_.out (by kernel_rfl)) ?_
         try go_wp2
         go_roundg k1
         case measure => have := HK1.out; omega
         case rel => exact ⟨(wrap64 (x7_1 + 1)), (by rfl), H', ⟨by have := HK1.out; omega⟩, ⟨BK352.out⟩, ⟨HB.out⟩⟩
       ·rw [if_neg c9] at H
        exact absurd H (by simp)
      ·rw [if_neg c8] at H
       exact absurd H (by simp)
     ·rw [if_neg c7] at H
      exact absurd H (by simp)
    ·rw [if_neg c6] at H
     exact absurd H (by simp)
   ·rw [if_neg c5] at H
    have c5b0 : decide (x7_1 < (l1_3.length : Int)) = false := decide_eq_false c5
    clear c5
    obtain rfl := Option.some.inj H
    have hcz18_0 : wr.cell? ⟨gb352, 0, none⟩ = some (.int .i64 a1_0) := (blk_cell BK352.out 0).trans rfl
    have hcz18_1 : wr.cell? ⟨gb352, 1, none⟩ = some (.int .i64 a1_1) := (blk_cell BK352.out 1).trans rfl
    have hcz18_2 : wr.cell? ⟨gb352, 2, none⟩ = some (.int .i64 a1_2) := (blk_cell BK352.out 2).trans rfl
    have hcz18_3 : wr.cell? ⟨gb352, 3, none⟩ = some (.slice A1_3 l1_3.length c1_3) := (blk_cell BK352.out 3).trans rfl
    have hcz18_4 : wr.cell? ⟨gb352, 4, none⟩ = some (.slice A1_4 l1_4.length c1_4) := (blk_cell BK352.out 4).trans rfl
    have hfz18_0 := blk_frozen BK352.out 0
    have hfz18_1 := blk_frozen BK352.out 1
    have hfz18_2 := blk_frozen BK352.out 2
    have hfz18_3 := blk_frozen BK352.out 3
    have hfz18_4 := blk_frozen BK352.out 4
    go_wp2
    go_ret
    exact ⟨by rfl, by exact HB.out⟩
/-! ### spec_Index: function 43 -/
mutual
def spec_Index.j0 : Nat → ByteArray → Bool → Option (Int × Bool)
 | 0, _, _ => none
 | k + 1, x0, x18 => if x18 = true then (some (0, false)) else (spec_Index.l0 k x0 0 0)
def spec_Index.l0 : Nat → ByteArray → Int → Int → Option (Int × Bool)
 | 0, _, _, _ => none
 | k + 1, x0, x4, x5 => if x5 < (x0.size : Int) then (if 0 ≤ x5 then (if (bt x0 x5) < 48 then (spec_Index.j2 k x0 x4 x5 (bt x0 x5) true) else (spec_Index.j2 k x0 x4 x5 (bt x0 x5) (decide ((bt x0 x5) > 57)))) else (none)) else (some (x4, true))
def spec_Index.j2 : Nat → ByteArray → Int → Int → Int → Bool → Option (Int × Bool)
 | 0, _, _, _, _, _ => none
 | k + 1, x0, x4, x5, x6, x33 => if x33 = true then (some (0, false)) else (if x4 < 288230376151711744 then (spec_Index.l0 k x0 (wrap64 ((wrap64 (x4 * 10)) + ((x6 - 48) % 256))) (wrap64 (x5 + 1))) else (spec_Index.l0 k x0 4611686018427387904 (wrap64 (x5 + 1))))
end
def spec_Index.f (k : Nat) (a0 : ByteArray) : Option (Int × Bool) := if a0.toList = ([] : List UInt8) then (spec_Index.j0 k a0 true) else (if (a0.size : Int) > 1 then (if 0 < (a0.size : Int) then (spec_Index.j0 k a0 ((bt a0 0) == 48)) else (none)) else (spec_Index.j0 k a0 false))
set_option maxHeartbeats 8000000 in
set_option maxRecDepth 100000 in
theorem spec_Index.calls (k : Nat) (a0 : ByteArray) (r1 : Int) (r2 : Bool) (w : World) (h : spec_Index.f k a0 = some (r1, r2)) :
  Calls Tryd.prog 43 #[.string a0] w fun e w' => e = .returned (.tuple #[.int .i64 r1, .bool r2]) ∧ Drawn0 w w' := by
 have H : (if a0.toList = ([] : List UInt8) then (spec_Index.j0 k a0 true) else (if (a0.size : Int) > 1 then (if 0 < (a0.size : Int) then (spec_Index.j0 k a0 ((bt a0 0) == 48)) else (none)) else (spec_Index.j0 k a0 false))) = some (r1, r2) := h
 clear h
 have HC2 := aj H
 clear H
 go_enter Tryd.func43, Tryd.ntmps43
 go_upto_region 1 with (fail)
 go_cut [18] (fun v18 wc => ∃ (kq : Nat) (x18_1 : Bool), v18 = .bool x18_1 ∧ Aside0 (spec_Index.j0 kq a0 x18_1 = some (r1, r2)) ∧ Aside0 (kq ≤ k) ∧ Drawn0 w wc)
 case first =>
  have H := HC2.out
  clear HC2
  by_cases c3 : a0.toList = ([] : List UInt8)
  ·rw [if_pos c3] at H
   have c3b0 : (a0.toList == ([] : List UInt8)) = true := beq_iff_eq.mpr c3
   have c3b1 : (a0.toList != ([] : List UInt8)) = false := bne_eq_false_iff_eq.mpr c3
   clear c3
   have H' := aj H
   clear H
   go_wp2
   go_meet
   case rel => exact ⟨_, (true), (by rfl), H', ⟨by omega⟩, by repeat (exact Drawn0.refl _)⟩
  ·rw [if_neg c3] at H
   have c3b0 : (a0.toList == ([] : List UInt8)) = false := beq_eq_false_iff_ne.mpr c3
   have c3b1 : (a0.toList != ([] : List UInt8)) = true := bne_iff_ne.mpr c3
   by_cases c4 : (a0.size : Int) > 1
   ·rw [if_pos c4] at H
    have c4b0 : decide (1 < (a0.size : Int)) = true := decide_eq_true c4
    have c4b1 : decide (1 < a0.size) = true := decide_eq_true (by omega)
    clear c4
    by_cases c5 : 0 < (a0.size : Int)
    ·rw [if_pos c5] at H
     have c5b0 : decide (0 < (a0.size : Int)) = true := decide_eq_true c5
     have c5b1 : decide (0 < a0.size) = true := decide_eq_true (by omega)
     clear c5
     have H' := aj H
     clear H
     have p6 : 0 ≤ (0 : Int) := (by omega)
     have q6 : 0 < a0.size := (by have : (0 : Int) < (a0.size : Int) := of_decide_eq_true (by (with_reducible assumption)); omega)
     have hx6 : ∀ h : 0 < a0.size, ((a0[0]'h).toNat : Int) = bt a0 0 := bt_at a0 0
     clear p6
     have qi6 : (0 < (a0.size : Int)) = True := eq_true (of_decide_eq_true (by (with_reducible assumption)))
     replace q6 := eq_true q6
     go_wp2
     go_meet
     case rel => exact ⟨_, (((bt a0 0) == 48)), (by rfl), H', ⟨by omega⟩, by repeat (exact Drawn0.refl _)⟩
    ·rw [if_neg c5] at H
     exact absurd H (by simp)
   ·rw [if_neg c4] at H
    have c4b0 : decide (1 < (a0.size : Int)) = false := decide_eq_false c4
    have c4b1 : decide (1 < a0.size) = false := decide_eq_false (by omega)
    clear c4
    have H' := aj H
    clear H
    go_wp2
    go_meet
    case rel => exact ⟨_, (false), (by rfl), H', ⟨by omega⟩, by repeat (exact Drawn0.refl _)⟩
 case rest =>
  clear HC2
  obtain ⟨kq, x18_1, rfl, HA, HJ1, ⟨mc1, rfl⟩⟩ := hcut
  cases kq with
  | zero => exact absurd HA.out (by simp [spec_Index.j0])
  | succ kj1 =>
   have H := HA.out
   clear HA
   simp only [spec_Index.j0] at H
   by_cases c7 : x18_1 = true
   ·subst c7
    rw [if_pos rfl] at H
    simp only [Option.some.injEq, Prod.mk.injEq] at H
    obtain ⟨rfl, rfl⟩ := H
    go_wp2
    go_ret2
    exact ⟨by rfl, by repeat (first | exact Drawn0.refl _ | apply Drawn0.step)⟩
   ·replace c7 := Bool.eq_false_iff.mpr c7
    subst c7
    rw [if_neg (show ¬ (false = true) by decide)] at H
    have H' := aj H
    clear H
    go_wp2
    try simp only [Act.put, List.setIfInBounds_toArray, List.set_cons_succ, List.set_cons_zero]
    go_loopg [4, 5] kj1 (fun kq v4 v5 w' => ∃ (x4_2 : Int) (x5_2 : Int), v4 = .int .i64 x4_2 ∧ v5 = .int .i64 x5_2 ∧ Aside0 (spec_Index.l0 kq a0 x4_2 x5_2 = some (r1, r2)) ∧ Aside0 (kq ≤ kj1) ∧ Drawn0 w w')
    case atStart => exact ⟨(0), (0), (by rfl), (by rfl), H', ⟨Nat.le_refl _⟩, by repeat (first | exact Drawn0.refl _ | apply Drawn0.step)⟩
    case round =>
     clear H'
     obtain ⟨x4_2, x5_2, rfl, rfl, HA, HK2, ⟨m2, rfl⟩⟩ := hrel
     cases gk with
     | zero => exact absurd HA.out (by simp [spec_Index.l0])
     | succ k2 =>
      have H := HA.out
      clear HA
      simp only [spec_Index.l0] at H
      by_cases c8 : x5_2 < (a0.size : Int)
      ·rw [if_pos c8] at H
       have c8b0 : decide (x5_2 < (a0.size : Int)) = true := decide_eq_true c8
       clear c8
       by_cases c9 : 0 ≤ x5_2
       ·rw [if_pos c9] at H
        have c9b0 : decide (0 ≤ x5_2) = true := decide_eq_true c9
        clear c9
        have HC11 := aj H
        clear H
        have p10 : 0 ≤ (x5_2 : Int) := of_decide_eq_true (by (with_reducible assumption))
        have q10 : x5_2 < (a0.size : Int) := of_decide_eq_true (by (with_reducible assumption))
        have hx10 := bt_at a0 x5_2
        replace p10 := eq_true p10
        replace q10 := eq_true q10
        go_upto_region 8 with (fail)
        go_cut [33] (fun v33 wc => ∃ (kq : Nat) (x33_10 : Bool), v33 = .bool x33_10 ∧ Aside0 (spec_Index.j2 kq a0 x4_2 x5_2 (bt a0 x5_2) x33_10 = some (r1, r2)) ∧ Aside0 (kq ≤ k2) ∧ Drawn0 w wc)
        case first =>
         have H := HC11.out
         clear HC11
         by_cases c12 : (bt a0 x5_2) < 48
         ·rw [if_pos c12] at H
          have c12b0 : decide ((bt a0 x5_2) < 48) = true := decide_eq_true c12
          clear c12
          have H' := aj H
          clear H
          go_wp2
          go_meet
          case rel => exact ⟨_, (true), (by rfl), H', ⟨by have := HJ1.out; have := HK2.out; omega⟩, by repeat (first | exact Drawn0.refl _ | apply Drawn0.step)⟩
         ·rw [if_neg c12] at H
          have c12b0 : decide ((bt a0 x5_2) < 48) = false := decide_eq_false c12
          clear c12
          have H' := aj H
          clear H
          go_wp2
          go_meet
          case rel => exact ⟨_, (decide ((bt a0 x5_2) > 57)), (by rfl), H', ⟨by have := HJ1.out; have := HK2.out; omega⟩, by repeat (first | exact Drawn0.refl _ | apply Drawn0.step)⟩
        case rest =>
         clear HC11 c8b0 c9b0 p10 q10 hx10
         obtain ⟨kq, x33_10, rfl, HA, HJ10, ⟨mc10, rfl⟩⟩ := hcut
         cases kq with
         | zero => exact absurd HA.out (by simp [spec_Index.j2])
         | succ kj10 =>
          have H := HA.out
          clear HA
          simp only [spec_Index.j2] at H
          by_cases c13 : x33_10 = true
          ·subst c13
           rw [if_pos rfl] at H
           simp only [Option.some.injEq, Prod.mk.injEq] at H
           obtain ⟨rfl, rfl⟩ := H
           go_wp2
           go_ret2
           exact ⟨by rfl, by repeat (first | exact Drawn0.refl _ | apply Drawn0.step)⟩
          ·replace c13 := Bool.eq_false_iff.mpr c13
           subst c13
           rw [if_neg (show ¬ (false = true) by decide)] at H
           by_cases c14 : x4_2 < 288230376151711744
           ·rw [if_pos c14] at H
            have c14b0 : decide (x4_2 < 288230376151711744) = true := decide_eq_true c14
            clear c14
            have H' := aj H
            clear H
            go_wp2
            go_roundg kj10
            case measure => have := HJ1.out; have := HK2.out; have := HJ10.out; omega
            case rel => exact ⟨(wrap64 ((wrap64 (x4_2 * 10)) + (((bt a0 x5_2) - 48) % 256))), (wrap64 (x5_2 + 1)), (by rfl), (by rfl), H', ⟨by have := HJ1.out; have := HK2.out; have := HJ10.out; omega⟩, by repeat (first | exact Drawn0.refl _ | apply Drawn0.step)⟩
           ·rw [if_neg c14] at H
            have c14b0 : decide (x4_2 < 288230376151711744) = false := decide_eq_false c14
            clear c14
            have H' := aj H
            clear H
            go_wp2
            go_roundg kj10
            case measure => have := HJ1.out; have := HK2.out; have := HJ10.out; omega
            case rel => exact ⟨(4611686018427387904), (wrap64 (x5_2 + 1)), (by rfl), (by rfl), H', ⟨by have := HJ1.out; have := HK2.out; have := HJ10.out; omega⟩, by repeat (first | exact Drawn0.refl _ | apply Drawn0.step)⟩
       ·rw [if_neg c9] at H
        exact absurd H (by simp)
      ·rw [if_neg c8] at H
       have c8b0 : decide (x5_2 < (a0.size : Int)) = false := decide_eq_false c8
       clear c8
       simp only [Option.some.injEq, Prod.mk.injEq] at H
       obtain ⟨rfl, rfl⟩ := H
       go_wp2
       go_ret2
       exact ⟨by rfl, by repeat (first | exact Drawn0.refl _ | apply Drawn0.step)⟩
end Go.Proofs.YtcfhnfjkiljigaaDoor.XFnJpGetUnsafe
end
