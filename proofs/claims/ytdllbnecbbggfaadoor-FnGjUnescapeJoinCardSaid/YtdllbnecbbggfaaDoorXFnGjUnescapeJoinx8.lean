-- Written by xprint.py of this session (a program that runs the kit's print and adds to it); Lean checks it.
import Derived.Test.YtdllbnecbbggfaaDoorXFnGjUnescapeJoinx0
import Derived.Test.YtdllbnecbbggfaaDoorXFnGjUnescapeJoinx1
import Derived.Test.YtdllbnecbbggfaaDoorXFnGjUnescapeJoinx3
import Derived.Test.YtdllbnecbbggfaaDoorXFnGjUnescapeJoinx7
namespace Go.Proofs.YtdllbnecbbggfaaDoor.XFnGjUnescapeJoin
open Go.RowKit Go.Proofs.YtdllbnecbbggfaaDoorW.PrintWords Go.Proofs.YtdllbnecbbggfaaDoorW.PrintLast Go.Proofs.YtdllbnecbbggfaaDoorW.PrintMore
attribute [local go_sem] max2_int min2_int max_two min_two max_three min_three max_four min_four   -- for this text's walks alone
set_option linter.unusedVariables false
set_option linter.unusedSimpArgs false

/-! ### laws_FnGjUnescapeJoin: function 10 -/
mutual
def laws_FnGjUnescapeJoin.j0 : Nat → ByteArray → ByteArray → Bool → Option (Bool)
  | 0, _, _, _ => none
  | k + 1, x0, x1, x16 => if x16 = true then (some true) else ((some (([x0, x1] : List ByteArray) : List ByteArray)).bind fun y186 => (laws_FnGjUnescapeJoin.l0 k x0 x1 y186 (y186.length : Int) 0))
def laws_FnGjUnescapeJoin.l0 : Nat → ByteArray → ByteArray → List ByteArray → Int → Int → Option (Bool)
  | 0, _, _, _, _, _ => none
  | k + 1, x0, x1, x19, x20, x21 => if x21 < x20 then (if 0 ≤ x21 then (if x21 < (x19.length : Int) then (if 1 + (rdOf ByteArray.empty x19 x21).size ≤ 9223372036854775807 then (if ((⟨#[34]⟩ : ByteArray) ++ (rdOf ByteArray.empty x19 x21)).size + 1 ≤ 9223372036854775807 then ((spec_StringAt.f k (((⟨#[34]⟩ : ByteArray) ++ (rdOf ByteArray.empty x19 x21)) ++ (⟨#[34]⟩ : ByteArray)) 1).bind fun bt193 => (if bt193.2 = true then (if bt193.1 = (wrap64 (((rdOf ByteArray.empty x19 x21).size : Int) + 2)) then (if ((rdOf ByteArray.empty x19 x21).size : Int) > 4096 then (some true) else ((spec_UTF8.f k (rdOf ByteArray.empty x19 x21)).bind fun t195 => (if t195 = true then ((spec_Paired.f k (rdOf ByteArray.empty x19 x21)).bind fun t196 => (if t196 = true then (laws_FnGjUnescapeJoin.l0 k x0 x1 x19 x20 (wrap64 (x21 + 1))) else (some true))) else (some true)))) else (some true)) else (some true))) else (none)) else (none)) else (none)) else (none)) else (if x0.size + x1.size ≤ 9223372036854775807 then ((impl_GjUnescape.f k (x0 ++ x1)).bind fun t189 => (if 1 + x0.size ≤ 9223372036854775807 then (if ((⟨#[34]⟩ : ByteArray) ++ x0).size + 1 ≤ 9223372036854775807 then ((spec_Unquote.f k (((⟨#[34]⟩ : ByteArray) ++ x0) ++ (⟨#[34]⟩ : ByteArray))).bind fun t190 => (if 1 + x1.size ≤ 9223372036854775807 then (if ((⟨#[34]⟩ : ByteArray) ++ x1).size + 1 ≤ 9223372036854775807 then ((spec_Unquote.f k (((⟨#[34]⟩ : ByteArray) ++ x1) ++ (⟨#[34]⟩ : ByteArray))).bind fun t191 => (if t190.size + t191.size ≤ 9223372036854775807 then (some (t189.toList == (t190 ++ t191).toList)) else (none))) else (none)) else (none))) else (none)) else (none))) else (none))
end
def laws_FnGjUnescapeJoin.f (k : Nat) (a0 : ByteArray) (a1 : ByteArray) : Option (Bool) := if (a0.size : Int) > 2147483647 then (laws_FnGjUnescapeJoin.j0 k a0 a1 true) else (laws_FnGjUnescapeJoin.j0 k a0 a1 (decide ((a1.size : Int) > 2147483647)))
theorem laws_FnGjUnescapeJoin.mono_l : ∀ k, (∀ y0 y1 y2, LeO (laws_FnGjUnescapeJoin.j0 k y0 y1 y2) (laws_FnGjUnescapeJoin.j0 (k + 1) y0 y1 y2)) ∧ (∀ y0 y1 y2 y3 y4, LeO (laws_FnGjUnescapeJoin.l0 k y0 y1 y2 y3 y4) (laws_FnGjUnescapeJoin.l0 (k + 1) y0 y1 y2 y3 y4))
  | 0 => ⟨fun _ _ _ r h => by simp [laws_FnGjUnescapeJoin.j0] at h, fun _ _ _ _ _ r h => by simp [laws_FnGjUnescapeJoin.l0] at h⟩
  | k + 1 => by
    obtain ⟨ih0, ih1⟩ := laws_FnGjUnescapeJoin.mono_l k
    refine ⟨?_, ?_⟩
    · intro y0 y1 y2
      unfold laws_FnGjUnescapeJoin.j0
      repeat' first
      | (with_reducible exact ih0 _ _ _)
      | (with_reducible exact ih1 _ _ _ _ _)
      | (with_reducible exact impl_GjUnescape.mono _ _)
      | (with_reducible exact spec_Paired.mono _ _)
      | (with_reducible exact spec_StringAt.mono _ _ _)
      | (with_reducible exact spec_UTF8.mono _ _)
      | (with_reducible exact spec_Unquote.mono _ _)
      | (with_reducible exact LeO.refl _)
      | (with_reducible exact LeO.none _)
      | (with_reducible refine LeO.ite ?_ ?_)
      | (with_reducible refine LeO.bind ?_ (fun _ => ?_))
      | exact ih0 _ _ _
      | exact ih1 _ _ _ _ _
      | exact impl_GjUnescape.mono _ _
      | exact spec_Paired.mono _ _
      | exact spec_StringAt.mono _ _ _
      | exact spec_UTF8.mono _ _
      | exact spec_Unquote.mono _ _
      | exact LeO.none _
      | refine LeO.ite ?_ ?_
      | refine LeO.bind ?_ (fun _ => ?_)
    · intro y0 y1 y2 y3 y4
      unfold laws_FnGjUnescapeJoin.l0
      repeat' first
      | (with_reducible exact ih0 _ _ _)
      | (with_reducible exact ih1 _ _ _ _ _)
      | (with_reducible exact impl_GjUnescape.mono _ _)
      | (with_reducible exact spec_Paired.mono _ _)
      | (with_reducible exact spec_StringAt.mono _ _ _)
      | (with_reducible exact spec_UTF8.mono _ _)
      | (with_reducible exact spec_Unquote.mono _ _)
      | (with_reducible exact LeO.refl _)
      | (with_reducible exact LeO.none _)
      | (with_reducible refine LeO.ite ?_ ?_)
      | (with_reducible refine LeO.bind ?_ (fun _ => ?_))
      | exact ih0 _ _ _
      | exact ih1 _ _ _ _ _
      | exact impl_GjUnescape.mono _ _
      | exact spec_Paired.mono _ _
      | exact spec_StringAt.mono _ _ _
      | exact spec_UTF8.mono _ _
      | exact spec_Unquote.mono _ _
      | exact LeO.none _
      | refine LeO.ite ?_ ?_
      | refine LeO.bind ?_ (fun _ => ?_)
theorem laws_FnGjUnescapeJoin.mono : ∀ a0 a1 k, LeO (laws_FnGjUnescapeJoin.f k a0 a1) (laws_FnGjUnescapeJoin.f (k + 1) a0 a1) := by
  intro a0 a1 k
  obtain ⟨ih0, ih1⟩ := laws_FnGjUnescapeJoin.mono_l k
  unfold laws_FnGjUnescapeJoin.f
  repeat' first
      | (with_reducible exact ih0 _ _ _)
      | (with_reducible exact ih1 _ _ _ _ _)
      | (with_reducible exact impl_GjUnescape.mono _ _)
      | (with_reducible exact spec_Paired.mono _ _)
      | (with_reducible exact spec_StringAt.mono _ _ _)
      | (with_reducible exact spec_UTF8.mono _ _)
      | (with_reducible exact spec_Unquote.mono _ _)
      | (with_reducible exact LeO.refl _)
      | (with_reducible exact LeO.none _)
      | (with_reducible refine LeO.ite ?_ ?_)
      | (with_reducible refine LeO.bind ?_ (fun _ => ?_))
      | exact ih0 _ _ _
      | exact ih1 _ _ _ _ _
      | exact impl_GjUnescape.mono _ _
      | exact spec_Paired.mono _ _
      | exact spec_StringAt.mono _ _ _
      | exact spec_UTF8.mono _ _
      | exact spec_Unquote.mono _ _
      | exact LeO.none _
      | refine LeO.ite ?_ ?_
      | refine LeO.bind ?_ (fun _ => ?_)
set_option maxHeartbeats 8000000 in
set_option maxRecDepth 100000 in
theorem laws_FnGjUnescapeJoin.calls (k : Nat) (a0 : ByteArray) (a1 : ByteArray) (r : Bool) (w : World) (h : laws_FnGjUnescapeJoin.f k a0 a1 = some r) :
    Calls Tryd.prog 10 #[.string a0, .string a1] w fun e w' => e = .returned (.bool r) ∧ Below w.heap.size w w' := by
  have HB := Aside0.mk (Below.refl w.heap.size w)
  have H : (if (a0.size : Int) > 2147483647 then (laws_FnGjUnescapeJoin.j0 k a0 a1 true) else (laws_FnGjUnescapeJoin.j0 k a0 a1 (decide ((a1.size : Int) > 2147483647)))) = some r := h
  clear h
  have HC3 := Aside0.mk H
  clear H
  go_enter Tryd.func10, Tryd.ntmps10
  go_upto_region 1 with (fail)
  go_cut [16] (fun v16 wc => ∃ (kq : Nat) (x16_2 : Bool), v16 = .bool x16_2 ∧ Aside0 (laws_FnGjUnescapeJoin.j0 kq a0 a1 x16_2 = some r) ∧ Aside0 (kq ≤ k) ∧ Aside0 (Below w.heap.size w wc))
  case first =>
    have H := HC3.out
    clear HC3
    by_cases c4 : (a0.size : Int) > 2147483647
    · rw [if_pos c4] at H
      have c4b0 : decide (2147483647 < (a0.size : Int)) = true := decide_eq_true c4
      have c4b1 : decide (2147483647 < a0.size) = true := decide_eq_true (by omega)
      clear c4
      (first | rw [c4b0] | (simp only [i64_w, i32_w]; rw [c4b0]) | skip)
      have H' := Aside0.mk H
      clear H
      go_wp2
      go_meet
      case rel => exact ⟨_, (true), (by first | rfl | (simp; done) | (simp [*]; done)), H', ⟨by first | omega | exact Nat.le_refl _⟩, ⟨by repeat (first | (with_reducible first | exact HB.out | apply below_alloc | apply pw_below_drewN | apply below_drew1) | exact HB.out)⟩⟩
    · rw [if_neg c4] at H
      have c4b0 : decide (2147483647 < (a0.size : Int)) = false := decide_eq_false c4
      have c4b1 : decide (2147483647 < a0.size) = false := decide_eq_false (by omega)
      clear c4
      (first | rw [c4b0] | (simp only [i64_w, i32_w]; rw [c4b0]) | skip)
      have H' := Aside0.mk H
      clear H
      go_wp2
      go_meet
      case rel => exact ⟨_, (decide ((a1.size : Int) > 2147483647)), (by first | rfl | (simp; done) | (simp [*]; done)), H', ⟨by first | omega | exact Nat.le_refl _⟩, ⟨by repeat (first | (with_reducible first | exact HB.out | apply below_alloc | apply pw_below_drewN | apply below_drew1) | exact HB.out)⟩⟩
  case rest =>
    clear HC3
    try clear c1
    try clear p2
    try clear c4
    try clear c4b0
    try clear c4b1
    obtain ⟨kq, x16_2, rfl, HA, HJ2, HB⟩ := hcut
    cases kq with
    | zero => exact absurd HA.out (by simp [laws_FnGjUnescapeJoin.j0])
    | succ kj2 =>
      have H := HA.out
      clear HA
      simp only [laws_FnGjUnescapeJoin.j0] at H
      by_cases c5 : x16_2 = true
      · subst c5
        have H1 : (some true) = some r := by rw [if_pos rfl] at H; exact H
        clear H
        have H := H1
        clear H1
        obtain rfl := Option.some.inj H
        go_wp2
        go_ret
        exact ⟨by first | rfl | (simp [errW_none, errW_some] <;> rfl) | (simp [*, errW_none, errW_some] <;> rfl), by repeat (first | (with_reducible first | exact HB.out | apply below_alloc | apply pw_below_drewN | apply below_drew1) | exact HB.out)⟩
      · replace c5 := Bool.eq_false_iff.mpr c5
        subst c5
        have H1 : ((some (([a0, a1] : List ByteArray) : List ByteArray)).bind fun y186 => (laws_FnGjUnescapeJoin.l0 kj2 a0 a1 y186 (y186.length : Int) 0)) = some r := by rw [if_neg (show ¬ (false = true) by decide)] at H; exact H
        clear H
        have H := H1
        clear H1
        obtain ⟨y186, hy186⟩ : ∃ y_ : List ByteArray, y_ = (([a0, a1] : List ByteArray)) := ⟨_, rfl⟩
        replace H : (laws_FnGjUnescapeJoin.l0 kj2 a0 a1 y186 (y186.length : Int) 0) = some r := by first | (rw [hy186]; with_reducible exact H) | (have H2_ := (Option.bind_some _ _).symm.trans H; rw [hy186]; with_reducible exact H2_) | (have H2_ := (Option.bind_some _ _).symm.trans H; with_reducible exact H2_) | with_reducible exact H | (rw [hy186]; exact H) | exact H
        have Ny186 := Aside0.mk hy186
        clear hy186
        have H' := Aside0.mk H
        clear H
        go_wp2_with (first | ((with_reducible refine gate_dst (N := 19) rfl ?_); (try (refine gate_guard (by rfl) ?_; dsimp only)); refine Kd.R_lit Kd.string _ 9 ?hg (N := 19) ?hd (xs := ([a0, a1] : List ByteArray)) (inner := [.string a0, .string a1]) (ok := fun _ => True) (okp := fun _ => True) ?hr ?hp (fun _ hk => hk) trivial (Below.refl _ _) (Nat.le_refl _) (by simp) ?_; (case hd => rfl); (case hg => rfl); (case hr => first | (go_simp; done) | (go_simp; rfl)); (case hp => exact (Reps.one (show Kd.M Kd.string _ _ _ a0 [.string a0] from rfl) (Reps.one (show Kd.M Kd.string _ _ _ a1 [.string a1] from rfl) (Reps.none _ _)))); intro v187 w6 ho7 hb hg_ hnew_; clear hg_ hnew_; (first | rw [← Ny186.out] at ho7 | (simp only [Int.reduceToNat] at ho7; rw [← Ny186.out] at ho7)); have n0_ := Aside0.mk (Kd.R_lower ho7 (below_size (by repeat (first | (with_reducible first | exact HB.out | apply below_alloc | apply pw_below_drewN | apply below_drew1) | exact HB.out)))); have n1_ := Aside0.mk (below_step (by repeat (first | (with_reducible first | exact HB.out | apply below_alloc | apply pw_below_drewN | apply below_drew1) | exact HB.out)) hb); clear HB; have HO188 := n0_; have HB := n1_; clear n0_ n1_; clear hb ho7; obtain ⟨Ao8, co8, eo8⟩ := Kd.R_slice HO188.out; subst eo8))
        try simp only [Act.put, List.setIfInBounds_toArray, List.set_cons_succ, List.set_cons_zero]
        go_loopg [21] kj2 (fun kq v21 w' => ∃ (x21_2 : Int), v21 = .int .i64 x21_2 ∧ Aside0 (laws_FnGjUnescapeJoin.l0 kq a0 a1 y186 (y186.length : Int) x21_2 = some r) ∧ Aside0 (kq ≤ kj2) ∧ Aside0 (Kd.R Kd.string 9 w' w.heap.size (fun _ => True) (.slice Ao8 y186.length co8) y186) ∧ Aside0 (Below w.heap.size w w'))
        case atStart => exact ⟨(0), (by first | rfl | (simp; done) | (simp [*]; done)), H', ⟨Nat.le_refl _⟩, ⟨by (with_reducible repeat (first | apply Kd.R_alloc | apply Kd.R_drewN | apply Kd.R_drew)); exact HO188.out⟩, ⟨by repeat (first | (with_reducible first | exact HB.out | apply below_alloc | apply pw_below_drewN | apply below_drew1) | exact HB.out)⟩⟩
        case round =>
          clear H'
          try clear c1
          try clear p2
          try clear c4
          try clear c4b0
          try clear c4b1
          try clear c5
          try clear p2
          obtain ⟨x21_2, rfl, HA, HK2, HO_19, HB⟩ := hrel
          cases gk with
          | zero => exact absurd HA.out (by simp [laws_FnGjUnescapeJoin.l0])
          | succ k2 =>
            have H := HA.out
            clear HA
            simp only [laws_FnGjUnescapeJoin.l0] at H
            by_cases c9 : x21_2 < (y186.length : Int)
            · rw [if_pos c9] at H
              have c9b0 : decide (x21_2 < (y186.length : Int)) = true := decide_eq_true c9
              clear c9
              by_cases c10 : 0 ≤ x21_2
              · rw [if_pos c10] at H
                have c10b0 : decide (0 ≤ x21_2) = true := decide_eq_true c10
                clear c10
                by_cases c11 : x21_2 < (y186.length : Int)
                · rw [if_pos c11] at H
                  have c11b0 : decide (x21_2 < (y186.length : Int)) = true := decide_eq_true c11
                  clear c11
                  by_cases c12 : 1 + (rdOf ByteArray.empty y186 x21_2).size ≤ 9223372036854775807
                  · rw [if_pos c12] at H
                    have c12b0 := eq_true c12
                    have c12b1 : decide (1 + (rdOf ByteArray.empty y186 x21_2).size ≤ 9223372036854775807) = true := decide_eq_true c12
                    try have c12b2 : (9223372036854775807 < 1 + (rdOf ByteArray.empty y186 x21_2).size) = False := eq_false (Nat.not_lt.2 c12)
                    by_cases c13 : ((⟨#[34]⟩ : ByteArray) ++ (rdOf ByteArray.empty y186 x21_2)).size + 1 ≤ 9223372036854775807
                    · rw [if_pos c13] at H
                      have c13b0 := eq_true c13
                      try (have c13b7 : 1 + ((rdOf ByteArray.empty y186 x21_2).size) + 1 ≤ 9223372036854775807 := by (have h_ := c13; simp only [ByteArray.size_append] at h_; exact h_))
                      have c13b1 : decide (((⟨#[34]⟩ : ByteArray) ++ (rdOf ByteArray.empty y186 x21_2)).size + 1 ≤ 9223372036854775807) = true := decide_eq_true c13
                      try have c13b2 : (9223372036854775807 < ((⟨#[34]⟩ : ByteArray) ++ (rdOf ByteArray.empty y186 x21_2)).size + 1) = False := eq_false (Nat.not_lt.2 c13)
                      replace H := Option.bind_eq_some_iff.mp H
                      obtain ⟨⟨t193, t194⟩, A140, H⟩ := H
                      replace H : (if t194 = true then (if t193 = (wrap64 (((rdOf ByteArray.empty y186 x21_2).size : Int) + 2)) then (if ((rdOf ByteArray.empty y186 x21_2).size : Int) > 4096 then (some true) else ((spec_UTF8.f k2 (rdOf ByteArray.empty y186 x21_2)).bind fun t195 => (if t195 = true then ((spec_Paired.f k2 (rdOf ByteArray.empty y186 x21_2)).bind fun t196 => (if t196 = true then (laws_FnGjUnescapeJoin.l0 k2 a0 a1 y186 (y186.length : Int) (wrap64 (x21_2 + 1))) else (some true))) else (some true)))) else (some true)) else (some true)) = some r := H
                      have A14 := Aside0.mk A140
                      clear A140
                      by_cases c15 : t194 = true
                      · subst c15
                        have H1 : (if t193 = (wrap64 (((rdOf ByteArray.empty y186 x21_2).size : Int) + 2)) then (if ((rdOf ByteArray.empty y186 x21_2).size : Int) > 4096 then (some true) else ((spec_UTF8.f k2 (rdOf ByteArray.empty y186 x21_2)).bind fun t195 => (if t195 = true then ((spec_Paired.f k2 (rdOf ByteArray.empty y186 x21_2)).bind fun t196 => (if t196 = true then (laws_FnGjUnescapeJoin.l0 k2 a0 a1 y186 (y186.length : Int) (wrap64 (x21_2 + 1))) else (some true))) else (some true)))) else (some true)) = some r := by rw [if_pos rfl] at H; exact H
                        clear H
                        have H := H1
                        clear H1
                        by_cases c16 : t193 = (wrap64 (((rdOf ByteArray.empty y186 x21_2).size : Int) + 2))
                        · rw [if_pos c16] at H
                          have c16b0 : (t193 == (wrap64 (((rdOf ByteArray.empty y186 x21_2).size : Int) + 2))) = true := beq_iff_eq.mpr c16
                          have c16b8 : (t193 == ((rdOf ByteArray.empty y186 x21_2).size : Int) + 2) = true := beq_iff_eq.mpr (by rw [c16]; unfold wrap64; omega)
                          have c16b9 : (t193 != ((rdOf ByteArray.empty y186 x21_2).size : Int) + 2) = false := bne_eq_false_iff_eq.mpr (by rw [c16]; unfold wrap64; omega)
                          have c16b1 : (t193 != (wrap64 (((rdOf ByteArray.empty y186 x21_2).size : Int) + 2))) = false := bne_eq_false_iff_eq.mpr c16
                          clear c16
                          by_cases c17 : ((rdOf ByteArray.empty y186 x21_2).size : Int) > 4096
                          · rw [if_pos c17] at H
                            have c17b0 : decide (4096 < ((rdOf ByteArray.empty y186 x21_2).size : Int)) = true := decide_eq_true c17
                            have c17b1 : decide (4096 < (rdOf ByteArray.empty y186 x21_2).size) = true := decide_eq_true (by omega)
                            clear c17
                            obtain rfl := Option.some.inj H
                            have p192 : 0 ≤ (x21_2 : Int) := of_decide_eq_true (by first | (with_reducible assumption) | assumption)
                            have q192 : x21_2 < (y186.length : Int) := of_decide_eq_true (by first | (with_reducible assumption) | assumption)
                            obtain ⟨ad192, e192, hx192_0⟩ := Kd.at_string (Kd.R_reads' HO_19.out).2.2 x21_2 p192 q192
                            cases e192
                            replace p192 := eq_true p192
                            replace q192 := eq_true q192
                            go_wp2_with (first | ((with_reducible refine gate_callee (f := 27) rfl ?_); refine goesL_ (some 29) rfl rfl Tryd.func27 (by kernel_rfl) rfl #[.string (((⟨#[34]⟩ : ByteArray) ++ (rdOf ByteArray.empty y186 x21_2)) ++ (⟨#[34]⟩ : ByteArray)), .int .i64 1] rfl (by (try simp only [List.map_toArray, List.map_cons, List.map_nil]); first | done | rfl | (simp only [List.length_drop, List.length_take]; rfl)) ?_; (with_reducible refine (spec_StringAt.calls k2 (((⟨#[34]⟩ : ByteArray) ++ (rdOf ByteArray.empty y186 x21_2)) ++ (⟨#[34]⟩ : ByteArray)) 1 t193 true _ A14.out).mono ?_); rintro e w18 ⟨rfl, hb⟩; refine ⟨_, rfl, ?_⟩; have n0_ := Aside0.mk (Kd.R_below (by (with_reducible repeat (first | apply Kd.R_alloc | apply Kd.R_drewN | apply Kd.R_drew)); exact HO_19.out) hb); have n1_ := Aside0.mk (below_step (by repeat (first | (with_reducible first | exact HB.out | apply below_alloc | apply pw_below_drewN | apply below_drew1) | exact HB.out)) hb); clear HO_19; clear HB; have HO_19 := n0_; have HB := n1_; clear n0_ n1_; (try clear hb); (try clear hb2); (try clear hk); (try clear hi)))
                            go_ret
                            exact ⟨by first | rfl | (simp [errW_none, errW_some] <;> rfl) | (simp [*, errW_none, errW_some] <;> rfl), by repeat (first | (with_reducible first | exact HB.out | apply below_alloc | apply pw_below_drewN | apply below_drew1) | exact HB.out)⟩
                          · rw [if_neg c17] at H
                            have c17b0 : decide (4096 < ((rdOf ByteArray.empty y186 x21_2).size : Int)) = false := decide_eq_false c17
                            have c17b1 : decide (4096 < (rdOf ByteArray.empty y186 x21_2).size) = false := decide_eq_false (by omega)
                            clear c17
                            replace H := Option.bind_eq_some_iff.mp H
                            obtain ⟨t195, A190, H⟩ := H
                            replace H : (if t195 = true then ((spec_Paired.f k2 (rdOf ByteArray.empty y186 x21_2)).bind fun t196 => (if t196 = true then (laws_FnGjUnescapeJoin.l0 k2 a0 a1 y186 (y186.length : Int) (wrap64 (x21_2 + 1))) else (some true))) else (some true)) = some r := H
                            have A19 := Aside0.mk A190
                            clear A190
                            by_cases c20 : t195 = true
                            · subst c20
                              have H1 : ((spec_Paired.f k2 (rdOf ByteArray.empty y186 x21_2)).bind fun t196 => (if t196 = true then (laws_FnGjUnescapeJoin.l0 k2 a0 a1 y186 (y186.length : Int) (wrap64 (x21_2 + 1))) else (some true))) = some r := by rw [if_pos rfl] at H; exact H
                              clear H
                              have H := H1
                              clear H1
                              replace H := Option.bind_eq_some_iff.mp H
                              obtain ⟨t196, A210, H⟩ := H
                              replace H : (if t196 = true then (laws_FnGjUnescapeJoin.l0 k2 a0 a1 y186 (y186.length : Int) (wrap64 (x21_2 + 1))) else (some true)) = some r := H
                              have A21 := Aside0.mk A210
                              clear A210
                              by_cases c22 : t196 = true
                              · subst c22
                                have H1 : (laws_FnGjUnescapeJoin.l0 k2 a0 a1 y186 (y186.length : Int) (wrap64 (x21_2 + 1))) = some r := by rw [if_pos rfl] at H; exact H
                                clear H
                                have H := H1
                                clear H1
                                have H' := Aside0.mk H
                                clear H
                                have p192 : 0 ≤ (x21_2 : Int) := of_decide_eq_true (by first | (with_reducible assumption) | assumption)
                                have q192 : x21_2 < (y186.length : Int) := of_decide_eq_true (by first | (with_reducible assumption) | assumption)
                                obtain ⟨ad192, e192, hx192_0⟩ := Kd.at_string (Kd.R_reads' HO_19.out).2.2 x21_2 p192 q192
                                cases e192
                                replace p192 := eq_true p192
                                replace q192 := eq_true q192
                                go_wp2_with (first | ((with_reducible refine gate_callee (f := 27) rfl ?_); refine goesL_ (some 29) rfl rfl Tryd.func27 (by kernel_rfl) rfl #[.string (((⟨#[34]⟩ : ByteArray) ++ (rdOf ByteArray.empty y186 x21_2)) ++ (⟨#[34]⟩ : ByteArray)), .int .i64 1] rfl (by (try simp only [List.map_toArray, List.map_cons, List.map_nil]); first | done | rfl | (simp only [List.length_drop, List.length_take]; rfl)) ?_; (with_reducible refine (spec_StringAt.calls k2 (((⟨#[34]⟩ : ByteArray) ++ (rdOf ByteArray.empty y186 x21_2)) ++ (⟨#[34]⟩ : ByteArray)) 1 t193 true _ A14.out).mono ?_); rintro e w23 ⟨rfl, hb⟩; refine ⟨_, rfl, ?_⟩; have n0_ := Aside0.mk (Kd.R_below (by (with_reducible repeat (first | apply Kd.R_alloc | apply Kd.R_drewN | apply Kd.R_drew)); exact HO_19.out) hb); have n1_ := Aside0.mk (below_step (by repeat (first | (with_reducible first | exact HB.out | apply below_alloc | apply pw_below_drewN | apply below_drew1) | exact HB.out)) hb); clear HO_19; clear HB; have HO_19 := n0_; have HB := n1_; clear n0_ n1_; (try clear hb); (try clear hb2); (try clear hk); (try clear hi)) | (go_at_call 17; (with_reducible refine (spec_UTF8.calls k2 (rdOf ByteArray.empty y186 x21_2) true _ A19.out).mono ?_); rintro e w' ⟨rfl, ⟨nd, rfl⟩⟩) | (go_at_call 28; (with_reducible refine (spec_Paired.calls k2 (rdOf ByteArray.empty y186 x21_2) true _ A21.out).mono ?_); rintro e w' ⟨rfl, ⟨nd, rfl⟩⟩))
                                go_roundg k2
                                case measure => have := HJ2.out; have := HK2.out; omega
                                case rel => exact ⟨(wrap64 (x21_2 + 1)), (by first | rfl | (simp; done) | (simp [*]; done)), H', ⟨by have := HJ2.out; have := HK2.out; omega⟩, ⟨by (with_reducible repeat (first | apply Kd.R_alloc | apply Kd.R_drewN | apply Kd.R_drew)); exact HO_19.out⟩, ⟨by repeat (first | (with_reducible first | exact HB.out | apply below_alloc | apply pw_below_drewN | apply below_drew1) | exact HB.out)⟩⟩
                              · replace c22 := Bool.eq_false_iff.mpr c22
                                subst c22
                                have H1 : (some true) = some r := by rw [if_neg (show ¬ (false = true) by decide)] at H; exact H
                                clear H
                                have H := H1
                                clear H1
                                obtain rfl := Option.some.inj H
                                have p192 : 0 ≤ (x21_2 : Int) := of_decide_eq_true (by first | (with_reducible assumption) | assumption)
                                have q192 : x21_2 < (y186.length : Int) := of_decide_eq_true (by first | (with_reducible assumption) | assumption)
                                obtain ⟨ad192, e192, hx192_0⟩ := Kd.at_string (Kd.R_reads' HO_19.out).2.2 x21_2 p192 q192
                                cases e192
                                replace p192 := eq_true p192
                                replace q192 := eq_true q192
                                go_wp2_with (first | ((with_reducible refine gate_callee (f := 27) rfl ?_); refine goesL_ (some 29) rfl rfl Tryd.func27 (by kernel_rfl) rfl #[.string (((⟨#[34]⟩ : ByteArray) ++ (rdOf ByteArray.empty y186 x21_2)) ++ (⟨#[34]⟩ : ByteArray)), .int .i64 1] rfl (by (try simp only [List.map_toArray, List.map_cons, List.map_nil]); first | done | rfl | (simp only [List.length_drop, List.length_take]; rfl)) ?_; (with_reducible refine (spec_StringAt.calls k2 (((⟨#[34]⟩ : ByteArray) ++ (rdOf ByteArray.empty y186 x21_2)) ++ (⟨#[34]⟩ : ByteArray)) 1 t193 true _ A14.out).mono ?_); rintro e w24 ⟨rfl, hb⟩; refine ⟨_, rfl, ?_⟩; have n0_ := Aside0.mk (Kd.R_below (by (with_reducible repeat (first | apply Kd.R_alloc | apply Kd.R_drewN | apply Kd.R_drew)); exact HO_19.out) hb); have n1_ := Aside0.mk (below_step (by repeat (first | (with_reducible first | exact HB.out | apply below_alloc | apply pw_below_drewN | apply below_drew1) | exact HB.out)) hb); clear HO_19; clear HB; have HO_19 := n0_; have HB := n1_; clear n0_ n1_; (try clear hb); (try clear hb2); (try clear hk); (try clear hi)) | (go_at_call 17; (with_reducible refine (spec_UTF8.calls k2 (rdOf ByteArray.empty y186 x21_2) true _ A19.out).mono ?_); rintro e w' ⟨rfl, ⟨nd, rfl⟩⟩) | (go_at_call 28; (with_reducible refine (spec_Paired.calls k2 (rdOf ByteArray.empty y186 x21_2) false _ A21.out).mono ?_); rintro e w' ⟨rfl, ⟨nd, rfl⟩⟩))
                                go_ret
                                exact ⟨by first | rfl | (simp [errW_none, errW_some] <;> rfl) | (simp [*, errW_none, errW_some] <;> rfl), by repeat (first | (with_reducible first | exact HB.out | apply below_alloc | apply pw_below_drewN | apply below_drew1) | exact HB.out)⟩
                            · replace c20 := Bool.eq_false_iff.mpr c20
                              subst c20
                              have H1 : (some true) = some r := by rw [if_neg (show ¬ (false = true) by decide)] at H; exact H
                              clear H
                              have H := H1
                              clear H1
                              obtain rfl := Option.some.inj H
                              have p192 : 0 ≤ (x21_2 : Int) := of_decide_eq_true (by first | (with_reducible assumption) | assumption)
                              have q192 : x21_2 < (y186.length : Int) := of_decide_eq_true (by first | (with_reducible assumption) | assumption)
                              obtain ⟨ad192, e192, hx192_0⟩ := Kd.at_string (Kd.R_reads' HO_19.out).2.2 x21_2 p192 q192
                              cases e192
                              replace p192 := eq_true p192
                              replace q192 := eq_true q192
                              go_wp2_with (first | ((with_reducible refine gate_callee (f := 27) rfl ?_); refine goesL_ (some 29) rfl rfl Tryd.func27 (by kernel_rfl) rfl #[.string (((⟨#[34]⟩ : ByteArray) ++ (rdOf ByteArray.empty y186 x21_2)) ++ (⟨#[34]⟩ : ByteArray)), .int .i64 1] rfl (by (try simp only [List.map_toArray, List.map_cons, List.map_nil]); first | done | rfl | (simp only [List.length_drop, List.length_take]; rfl)) ?_; (with_reducible refine (spec_StringAt.calls k2 (((⟨#[34]⟩ : ByteArray) ++ (rdOf ByteArray.empty y186 x21_2)) ++ (⟨#[34]⟩ : ByteArray)) 1 t193 true _ A14.out).mono ?_); rintro e w25 ⟨rfl, hb⟩; refine ⟨_, rfl, ?_⟩; have n0_ := Aside0.mk (Kd.R_below (by (with_reducible repeat (first | apply Kd.R_alloc | apply Kd.R_drewN | apply Kd.R_drew)); exact HO_19.out) hb); have n1_ := Aside0.mk (below_step (by repeat (first | (with_reducible first | exact HB.out | apply below_alloc | apply pw_below_drewN | apply below_drew1) | exact HB.out)) hb); clear HO_19; clear HB; have HO_19 := n0_; have HB := n1_; clear n0_ n1_; (try clear hb); (try clear hb2); (try clear hk); (try clear hi)) | (go_at_call 17; (with_reducible refine (spec_UTF8.calls k2 (rdOf ByteArray.empty y186 x21_2) false _ A19.out).mono ?_); rintro e w' ⟨rfl, ⟨nd, rfl⟩⟩))
                              go_ret
                              exact ⟨by first | rfl | (simp [errW_none, errW_some] <;> rfl) | (simp [*, errW_none, errW_some] <;> rfl), by repeat (first | (with_reducible first | exact HB.out | apply below_alloc | apply pw_below_drewN | apply below_drew1) | exact HB.out)⟩
                        · rw [if_neg c16] at H
                          have c16b0 : (t193 == (wrap64 (((rdOf ByteArray.empty y186 x21_2).size : Int) + 2))) = false := beq_eq_false_iff_ne.mpr c16
                          have c16b8 : (t193 == ((rdOf ByteArray.empty y186 x21_2).size : Int) + 2) = false := beq_eq_false_iff_ne.mpr (fun h_ => c16 (by rw [h_]; unfold wrap64; omega))
                          have c16b9 : (t193 != ((rdOf ByteArray.empty y186 x21_2).size : Int) + 2) = true := bne_iff_ne.mpr (fun h_ => c16 (by rw [h_]; unfold wrap64; omega))
                          have c16b1 : (t193 != (wrap64 (((rdOf ByteArray.empty y186 x21_2).size : Int) + 2))) = true := bne_iff_ne.mpr c16
                          obtain rfl := Option.some.inj H
                          have p192 : 0 ≤ (x21_2 : Int) := of_decide_eq_true (by first | (with_reducible assumption) | assumption)
                          have q192 : x21_2 < (y186.length : Int) := of_decide_eq_true (by first | (with_reducible assumption) | assumption)
                          obtain ⟨ad192, e192, hx192_0⟩ := Kd.at_string (Kd.R_reads' HO_19.out).2.2 x21_2 p192 q192
                          cases e192
                          replace p192 := eq_true p192
                          replace q192 := eq_true q192
                          go_wp2_with (first | ((with_reducible refine gate_callee (f := 27) rfl ?_); refine goesL_ (some 29) rfl rfl Tryd.func27 (by kernel_rfl) rfl #[.string (((⟨#[34]⟩ : ByteArray) ++ (rdOf ByteArray.empty y186 x21_2)) ++ (⟨#[34]⟩ : ByteArray)), .int .i64 1] rfl (by (try simp only [List.map_toArray, List.map_cons, List.map_nil]); first | done | rfl | (simp only [List.length_drop, List.length_take]; rfl)) ?_; (with_reducible refine (spec_StringAt.calls k2 (((⟨#[34]⟩ : ByteArray) ++ (rdOf ByteArray.empty y186 x21_2)) ++ (⟨#[34]⟩ : ByteArray)) 1 t193 true _ A14.out).mono ?_); rintro e w26 ⟨rfl, hb⟩; refine ⟨_, rfl, ?_⟩; have n0_ := Aside0.mk (Kd.R_below (by (with_reducible repeat (first | apply Kd.R_alloc | apply Kd.R_drewN | apply Kd.R_drew)); exact HO_19.out) hb); have n1_ := Aside0.mk (below_step (by repeat (first | (with_reducible first | exact HB.out | apply below_alloc | apply pw_below_drewN | apply below_drew1) | exact HB.out)) hb); clear HO_19; clear HB; have HO_19 := n0_; have HB := n1_; clear n0_ n1_; (try clear hb); (try clear hb2); (try clear hk); (try clear hi)))
                          go_ret
                          exact ⟨by first | rfl | (simp [errW_none, errW_some] <;> rfl) | (simp [*, errW_none, errW_some] <;> rfl), by repeat (first | (with_reducible first | exact HB.out | apply below_alloc | apply pw_below_drewN | apply below_drew1) | exact HB.out)⟩
                      · replace c15 := Bool.eq_false_iff.mpr c15
                        subst c15
                        have H1 : (some true) = some r := by rw [if_neg (show ¬ (false = true) by decide)] at H; exact H
                        clear H
                        have H := H1
                        clear H1
                        obtain rfl := Option.some.inj H
                        have p192 : 0 ≤ (x21_2 : Int) := of_decide_eq_true (by first | (with_reducible assumption) | assumption)
                        have q192 : x21_2 < (y186.length : Int) := of_decide_eq_true (by first | (with_reducible assumption) | assumption)
                        obtain ⟨ad192, e192, hx192_0⟩ := Kd.at_string (Kd.R_reads' HO_19.out).2.2 x21_2 p192 q192
                        cases e192
                        replace p192 := eq_true p192
                        replace q192 := eq_true q192
                        go_wp2_with (first | ((with_reducible refine gate_callee (f := 27) rfl ?_); refine goesL_ (some 29) rfl rfl Tryd.func27 (by kernel_rfl) rfl #[.string (((⟨#[34]⟩ : ByteArray) ++ (rdOf ByteArray.empty y186 x21_2)) ++ (⟨#[34]⟩ : ByteArray)), .int .i64 1] rfl (by (try simp only [List.map_toArray, List.map_cons, List.map_nil]); first | done | rfl | (simp only [List.length_drop, List.length_take]; rfl)) ?_; (with_reducible refine (spec_StringAt.calls k2 (((⟨#[34]⟩ : ByteArray) ++ (rdOf ByteArray.empty y186 x21_2)) ++ (⟨#[34]⟩ : ByteArray)) 1 t193 false _ A14.out).mono ?_); rintro e w27 ⟨rfl, hb⟩; refine ⟨_, rfl, ?_⟩; have n0_ := Aside0.mk (Kd.R_below (by (with_reducible repeat (first | apply Kd.R_alloc | apply Kd.R_drewN | apply Kd.R_drew)); exact HO_19.out) hb); have n1_ := Aside0.mk (below_step (by repeat (first | (with_reducible first | exact HB.out | apply below_alloc | apply pw_below_drewN | apply below_drew1) | exact HB.out)) hb); clear HO_19; clear HB; have HO_19 := n0_; have HB := n1_; clear n0_ n1_; (try clear hb); (try clear hb2); (try clear hk); (try clear hi)))
                        go_ret
                        exact ⟨by first | rfl | (simp [errW_none, errW_some] <;> rfl) | (simp [*, errW_none, errW_some] <;> rfl), by repeat (first | (with_reducible first | exact HB.out | apply below_alloc | apply pw_below_drewN | apply below_drew1) | exact HB.out)⟩
                    · rw [if_neg c13] at H
                      exact absurd H (by simp)
                  · rw [if_neg c12] at H
                    exact absurd H (by simp)
                · rw [if_neg c11] at H
                  exact absurd H (by simp)
              · rw [if_neg c10] at H
                exact absurd H (by simp)
            · rw [if_neg c9] at H
              have c9b0 : decide (x21_2 < (y186.length : Int)) = false := decide_eq_false c9
              clear c9
              by_cases c28 : a0.size + a1.size ≤ 9223372036854775807
              · rw [if_pos c28] at H
                have c28b0 := eq_true c28
                have c28b1 : decide (a0.size + a1.size ≤ 9223372036854775807) = true := decide_eq_true c28
                try have c28b2 : (9223372036854775807 < a0.size + a1.size) = False := eq_false (Nat.not_lt.2 c28)
                replace H := Option.bind_eq_some_iff.mp H
                obtain ⟨t189, A290, H⟩ := H
                replace H : (if 1 + a0.size ≤ 9223372036854775807 then (if ((⟨#[34]⟩ : ByteArray) ++ a0).size + 1 ≤ 9223372036854775807 then ((spec_Unquote.f k2 (((⟨#[34]⟩ : ByteArray) ++ a0) ++ (⟨#[34]⟩ : ByteArray))).bind fun t190 => (if 1 + a1.size ≤ 9223372036854775807 then (if ((⟨#[34]⟩ : ByteArray) ++ a1).size + 1 ≤ 9223372036854775807 then ((spec_Unquote.f k2 (((⟨#[34]⟩ : ByteArray) ++ a1) ++ (⟨#[34]⟩ : ByteArray))).bind fun t191 => (if t190.size + t191.size ≤ 9223372036854775807 then (some (t189.toList == (t190 ++ t191).toList)) else (none))) else (none)) else (none))) else (none)) else (none)) = some r := H
                have A29 := Aside0.mk A290
                clear A290
                by_cases c30 : 1 + a0.size ≤ 9223372036854775807
                · rw [if_pos c30] at H
                  have c30b0 := eq_true c30
                  have c30b1 : decide (1 + a0.size ≤ 9223372036854775807) = true := decide_eq_true c30
                  try have c30b2 : (9223372036854775807 < 1 + a0.size) = False := eq_false (Nat.not_lt.2 c30)
                  by_cases c31 : ((⟨#[34]⟩ : ByteArray) ++ a0).size + 1 ≤ 9223372036854775807
                  · rw [if_pos c31] at H
                    have c31b0 := eq_true c31
                    try (have c31b7 : 1 + a0.size + 1 ≤ 9223372036854775807 := by (have h_ := c31; simp only [ByteArray.size_append] at h_; exact h_))
                    have c31b1 : decide (((⟨#[34]⟩ : ByteArray) ++ a0).size + 1 ≤ 9223372036854775807) = true := decide_eq_true c31
                    try have c31b2 : (9223372036854775807 < ((⟨#[34]⟩ : ByteArray) ++ a0).size + 1) = False := eq_false (Nat.not_lt.2 c31)
                    replace H := Option.bind_eq_some_iff.mp H
                    obtain ⟨t190, A320, H⟩ := H
                    replace H : (if 1 + a1.size ≤ 9223372036854775807 then (if ((⟨#[34]⟩ : ByteArray) ++ a1).size + 1 ≤ 9223372036854775807 then ((spec_Unquote.f k2 (((⟨#[34]⟩ : ByteArray) ++ a1) ++ (⟨#[34]⟩ : ByteArray))).bind fun t191 => (if t190.size + t191.size ≤ 9223372036854775807 then (some (t189.toList == (t190 ++ t191).toList)) else (none))) else (none)) else (none)) = some r := H
                    have A32 := Aside0.mk A320
                    clear A320
                    by_cases c33 : 1 + a1.size ≤ 9223372036854775807
                    · rw [if_pos c33] at H
                      have c33b0 := eq_true c33
                      have c33b1 : decide (1 + a1.size ≤ 9223372036854775807) = true := decide_eq_true c33
                      try have c33b2 : (9223372036854775807 < 1 + a1.size) = False := eq_false (Nat.not_lt.2 c33)
                      by_cases c34 : ((⟨#[34]⟩ : ByteArray) ++ a1).size + 1 ≤ 9223372036854775807
                      · rw [if_pos c34] at H
                        have c34b0 := eq_true c34
                        try (have c34b7 : 1 + a1.size + 1 ≤ 9223372036854775807 := by (have h_ := c34; simp only [ByteArray.size_append] at h_; exact h_))
                        have c34b1 : decide (((⟨#[34]⟩ : ByteArray) ++ a1).size + 1 ≤ 9223372036854775807) = true := decide_eq_true c34
                        try have c34b2 : (9223372036854775807 < ((⟨#[34]⟩ : ByteArray) ++ a1).size + 1) = False := eq_false (Nat.not_lt.2 c34)
                        replace H := Option.bind_eq_some_iff.mp H
                        obtain ⟨t191, A350, H⟩ := H
                        replace H : (if t190.size + t191.size ≤ 9223372036854775807 then (some (t189.toList == (t190 ++ t191).toList)) else (none)) = some r := H
                        have A35 := Aside0.mk A350
                        clear A350
                        by_cases c36 : t190.size + t191.size ≤ 9223372036854775807
                        · rw [if_pos c36] at H
                          have c36b0 := eq_true c36
                          have c36b1 : decide (t190.size + t191.size ≤ 9223372036854775807) = true := decide_eq_true c36
                          try have c36b2 : (9223372036854775807 < t190.size + t191.size) = False := eq_false (Nat.not_lt.2 c36)
                          obtain rfl := Option.some.inj H
                          go_wp2_with (first | ((with_reducible refine gate_callee (f := 29) rfl ?_); refine goesL_ (some 60) rfl rfl Tryd.func29 (by kernel_rfl) rfl #[.string (a0 ++ a1)] rfl (by (try simp only [List.map_toArray, List.map_cons, List.map_nil]); first | done | rfl | (simp only [List.length_drop, List.length_take]; rfl)) ?_; (with_reducible refine (impl_GjUnescape.calls k2 (a0 ++ a1) t189 _ A29.out).mono ?_); rintro e w37 ⟨rfl, hb⟩; refine ⟨_, rfl, ?_⟩; have n0_ := Aside0.mk (Kd.R_below (by (with_reducible repeat (first | apply Kd.R_alloc | apply Kd.R_drewN | apply Kd.R_drew)); exact HO_19.out) hb); have n1_ := Aside0.mk (below_step (by repeat (first | (with_reducible first | exact HB.out | apply below_alloc | apply pw_below_drewN | apply below_drew1) | exact HB.out)) hb); clear HO_19; clear HB; have HO_19 := n0_; have HB := n1_; clear n0_ n1_; (try clear hb); (try clear hb2); (try clear hk); (try clear hi)) | ((with_reducible refine gate_callee (f := 30) rfl ?_); refine goesL_ (some 64) rfl rfl Tryd.func30 (by kernel_rfl) rfl #[.string (((⟨#[34]⟩ : ByteArray) ++ a0) ++ (⟨#[34]⟩ : ByteArray))] rfl (by (try simp only [List.map_toArray, List.map_cons, List.map_nil]); first | done | rfl | (simp only [List.length_drop, List.length_take]; rfl)) ?_; (with_reducible refine (spec_Unquote.calls k2 (((⟨#[34]⟩ : ByteArray) ++ a0) ++ (⟨#[34]⟩ : ByteArray)) t190 _ A32.out).mono ?_); rintro e w38 ⟨rfl, hb⟩; refine ⟨_, rfl, ?_⟩; have n0_ := Aside0.mk (Kd.R_below (by (with_reducible repeat (first | apply Kd.R_alloc | apply Kd.R_drewN | apply Kd.R_drew)); exact HO_19.out) hb); have n1_ := Aside0.mk (below_step (by repeat (first | (with_reducible first | exact HB.out | apply below_alloc | apply pw_below_drewN | apply below_drew1) | exact HB.out)) hb); clear HO_19; clear HB; have HO_19 := n0_; have HB := n1_; clear n0_ n1_; (try clear hb); (try clear hb2); (try clear hk); (try clear hi)) | ((with_reducible refine gate_callee (f := 30) rfl ?_); refine goesL_ (some 68) rfl rfl Tryd.func30 (by kernel_rfl) rfl #[.string (((⟨#[34]⟩ : ByteArray) ++ a1) ++ (⟨#[34]⟩ : ByteArray))] rfl (by (try simp only [List.map_toArray, List.map_cons, List.map_nil]); first | done | rfl | (simp only [List.length_drop, List.length_take]; rfl)) ?_; (with_reducible refine (spec_Unquote.calls k2 (((⟨#[34]⟩ : ByteArray) ++ a1) ++ (⟨#[34]⟩ : ByteArray)) t191 _ A35.out).mono ?_); rintro e w39 ⟨rfl, hb⟩; refine ⟨_, rfl, ?_⟩; have n0_ := Aside0.mk (Kd.R_below (by (with_reducible repeat (first | apply Kd.R_alloc | apply Kd.R_drewN | apply Kd.R_drew)); exact HO_19.out) hb); have n1_ := Aside0.mk (below_step (by repeat (first | (with_reducible first | exact HB.out | apply below_alloc | apply pw_below_drewN | apply below_drew1) | exact HB.out)) hb); clear HO_19; clear HB; have HO_19 := n0_; have HB := n1_; clear n0_ n1_; (try clear hb); (try clear hb2); (try clear hk); (try clear hi)))
                          go_ret
                          exact ⟨by first | rfl | (simp [errW_none, errW_some] <;> rfl) | (simp [*, errW_none, errW_some] <;> rfl), by repeat (first | (with_reducible first | exact HB.out | apply below_alloc | apply pw_below_drewN | apply below_drew1) | exact HB.out)⟩
                        · rw [if_neg c36] at H
                          exact absurd H (by simp)
                      · rw [if_neg c34] at H
                        exact absurd H (by simp)
                    · rw [if_neg c33] at H
                      exact absurd H (by simp)
                  · rw [if_neg c31] at H
                    exact absurd H (by simp)
                · rw [if_neg c30] at H
                  exact absurd H (by simp)
              · rw [if_neg c28] at H
                exact absurd H (by simp)

/-- THE ONE PURE STATEMENT of laws_FnGjUnescapeJoin: yours. -/
def laws_FnGjUnescapeJoin.Pure : Prop := ∀ (a0 : ByteArray) (a1 : ByteArray), a0.size ≤ 140737488351232 → a1.size ≤ 140737488351232 → ∃ k, laws_FnGjUnescapeJoin.f k a0 a1 = some true
theorem laws_FnGjUnescapeJoin.walk (P : laws_FnGjUnescapeJoin.Pure) (a0 : ByteArray) (a1 : ByteArray) (w : World) (w0 : a0.size ≤ 140737488351232) (w1 : a1.size ≤ 140737488351232) :
    Calls Tryd.prog 10 #[.string a0, .string a1] w fun e w' => e = .returned (.bool true) ∧ Below w.heap.size w w' := by
  obtain ⟨k, h⟩ := P a0 a1 w0 w1
  refine (laws_FnGjUnescapeJoin.calls k a0 a1 true w h).mono ?_
  rintro e w' ⟨rfl, hd⟩
  exact ⟨rfl, hd⟩

end Go.Proofs.YtdllbnecbbggfaaDoor.XFnGjUnescapeJoin
