-- Written by xprint.py of this session (a program that runs the kit's print and adds to it); Lean checks it.
import Derived.Test.YtdllbnecbbggfaaDoorXFnJpEscapeAtx0
import Derived.Test.YtdllbnecbbggfaaDoorXFnJpEscapeAtx3
import Derived.Test.YtdllbnecbbggfaaDoorXFnJpEscapeAtx6
namespace Go.Proofs.YtdllbnecbbggfaaDoor.XFnJpEscapeAt
open Go.RowKit Go.Proofs.YtdllbnecbbggfaaDoorW.PrintWords Go.Proofs.YtdllbnecbbggfaaDoorW.PrintLast Go.Proofs.YtdllbnecbbggfaaDoorW.PrintMore
attribute [local go_sem] max2_int min2_int max_two min_two max_three min_three max_four min_four   -- for this text's walks alone
set_option linter.unusedVariables false
set_option linter.unusedSimpArgs false

/-! ### laws_jpEscape: function 13 -/
mutual
def laws_jpEscape.l0 : Nat → ByteArray → List Int → Int → Int → Option (Int × ByteArray)
  | 0, _, _, _, _ => none
  | k + 1, x0, x8, x9, x10 => if x10 < x9 then (if 0 ≤ x10 then (if x10 < (x8.length : Int) then (if (x0.size : Int) < (rd x8 x10) then (laws_jpEscape.j1 k x0 (rd x8 x10) x8 x9 x10 true) else (if 0 < (x0.size : Int) then (laws_jpEscape.j1 k x0 (rd x8 x10) x8 x9 x10 ((bt x0 0) != 92)) else (none))) else (none)) else (none)) else (some ((-1), (⟨#[]⟩ : ByteArray)))
def laws_jpEscape.j1 : Nat → ByteArray → Int → List Int → Int → Int → Bool → Option (Int × ByteArray)
  | 0, _, _, _, _, _, _ => none
  | k + 1, x0, x5, x8, x9, x10, x22 => if x22 = true then (laws_jpEscape.l0 k x0 x8 x9 (wrap64 (x10 + 1))) else (if 0 ≤ x5 then (if x5 ≤ (x0.size : Int) then ((spec_Unescape.f k (x0.extract 0 (x5 : Int).toNat)).bind fun bt202 => (if bt202.2 = true then (if x5 = 12 then (if 0 ≤ 6 then (if 6 ≤ (x0.size : Int) then ((spec_Paired.f k (x0.extract 0 6)).bind fun t204 => (if t204 = true then (laws_jpEscape.j2 k x0 x5 bt202.1 x8 x9 x10 true) else (if 0 ≤ 12 then (if 12 ≤ (x0.size : Int) then ((spec_Paired.f k (x0.extract 0 12)).bind fun t205 => (if t205 = true then (if x5 = 6 then (if 1 < (x0.size : Int) then (if (bt x0 1) = 117 then (if x5 = 2 then (laws_jpEscape.j2 k x0 x5 bt202.1 x8 x9 x10 ((bt x0 1) == 117)) else (laws_jpEscape.j2 k x0 x5 bt202.1 x8 x9 x10 false)) else (laws_jpEscape.j2 k x0 x5 bt202.1 x8 x9 x10 true)) else (none)) else (if x5 = 2 then (if 1 < (x0.size : Int) then (laws_jpEscape.j2 k x0 x5 bt202.1 x8 x9 x10 ((bt x0 1) == 117)) else (none)) else (laws_jpEscape.j2 k x0 x5 bt202.1 x8 x9 x10 false))) else (laws_jpEscape.j2 k x0 x5 bt202.1 x8 x9 x10 true))) else (none)) else (none)))) else (none)) else (none)) else (if x5 = 6 then (if 1 < (x0.size : Int) then (if (bt x0 1) = 117 then (if x5 = 2 then (laws_jpEscape.j2 k x0 x5 bt202.1 x8 x9 x10 ((bt x0 1) == 117)) else (laws_jpEscape.j2 k x0 x5 bt202.1 x8 x9 x10 false)) else (laws_jpEscape.j2 k x0 x5 bt202.1 x8 x9 x10 true)) else (none)) else (if x5 = 2 then (if 1 < (x0.size : Int) then (laws_jpEscape.j2 k x0 x5 bt202.1 x8 x9 x10 ((bt x0 1) == 117)) else (none)) else (laws_jpEscape.j2 k x0 x5 bt202.1 x8 x9 x10 false)))) else (laws_jpEscape.j2 k x0 x5 bt202.1 x8 x9 x10 true))) else (none)) else (none))
def laws_jpEscape.j2 : Nat → ByteArray → Int → ByteArray → List Int → Int → Int → Bool → Option (Int × ByteArray)
  | 0, _, _, _, _, _, _, _ => none
  | k + 1, x0, x5, x6, x8, x9, x10, x64 => if x64 = true then (laws_jpEscape.l0 k x0 x8 x9 (wrap64 (x10 + 1))) else (if x5 = 6 then (if 0 ≤ 6 then (if 6 ≤ (x0.size : Int) then ((spec_Paired.f k (x0.extract 0 6)).bind fun t206 => (if t206 = true then (some (x5, x6)) else ((laws_jpTorn.f k (x0.extract 6 x0.size)).bind fun t207 => (if t207 = true then (some ((-1), (⟨#[]⟩ : ByteArray))) else (some (x5, x6)))))) else (none)) else (none)) else (some (x5, x6)))
end
def laws_jpEscape.f (k : Nat) (a0 : ByteArray) : Option (Int × ByteArray) := (some (([12, 6, 2] : List Int) : List Int)).bind fun y198 => (laws_jpEscape.l0 k a0 y198 (y198.length : Int) 0)
theorem laws_jpEscape.mono_l : ∀ k, (∀ y0 y1 y2 y3, LeO (laws_jpEscape.l0 k y0 y1 y2 y3) (laws_jpEscape.l0 (k + 1) y0 y1 y2 y3)) ∧ (∀ y0 y1 y2 y3 y4 y5, LeO (laws_jpEscape.j1 k y0 y1 y2 y3 y4 y5) (laws_jpEscape.j1 (k + 1) y0 y1 y2 y3 y4 y5)) ∧ (∀ y0 y1 y2 y3 y4 y5 y6, LeO (laws_jpEscape.j2 k y0 y1 y2 y3 y4 y5 y6) (laws_jpEscape.j2 (k + 1) y0 y1 y2 y3 y4 y5 y6))
  | 0 => ⟨fun _ _ _ _ r h => by simp [laws_jpEscape.l0] at h, fun _ _ _ _ _ _ r h => by simp [laws_jpEscape.j1] at h, fun _ _ _ _ _ _ _ r h => by simp [laws_jpEscape.j2] at h⟩
  | k + 1 => by
    obtain ⟨ih0, ih1, ih2⟩ := laws_jpEscape.mono_l k
    refine ⟨?_, ?_, ?_⟩
    · intro y0 y1 y2 y3
      unfold laws_jpEscape.l0
      repeat' first
      | (with_reducible exact ih0 _ _ _ _)
      | (with_reducible exact ih1 _ _ _ _ _ _)
      | (with_reducible exact ih2 _ _ _ _ _ _ _)
      | (with_reducible exact laws_jpTorn.mono _ _)
      | (with_reducible exact spec_Paired.mono _ _)
      | (with_reducible exact spec_Unescape.mono _ _)
      | (with_reducible exact LeO.refl _)
      | (with_reducible exact LeO.none _)
      | (with_reducible refine LeO.ite ?_ ?_)
      | (with_reducible refine LeO.bind ?_ (fun _ => ?_))
      | exact ih0 _ _ _ _
      | exact ih1 _ _ _ _ _ _
      | exact ih2 _ _ _ _ _ _ _
      | exact laws_jpTorn.mono _ _
      | exact spec_Paired.mono _ _
      | exact spec_Unescape.mono _ _
      | exact LeO.none _
      | refine LeO.ite ?_ ?_
      | refine LeO.bind ?_ (fun _ => ?_)
    · intro y0 y1 y2 y3 y4 y5
      unfold laws_jpEscape.j1
      repeat' first
      | (with_reducible exact ih0 _ _ _ _)
      | (with_reducible exact ih1 _ _ _ _ _ _)
      | (with_reducible exact ih2 _ _ _ _ _ _ _)
      | (with_reducible exact laws_jpTorn.mono _ _)
      | (with_reducible exact spec_Paired.mono _ _)
      | (with_reducible exact spec_Unescape.mono _ _)
      | (with_reducible exact LeO.refl _)
      | (with_reducible exact LeO.none _)
      | (with_reducible refine LeO.ite ?_ ?_)
      | (with_reducible refine LeO.bind ?_ (fun _ => ?_))
      | exact ih0 _ _ _ _
      | exact ih1 _ _ _ _ _ _
      | exact ih2 _ _ _ _ _ _ _
      | exact laws_jpTorn.mono _ _
      | exact spec_Paired.mono _ _
      | exact spec_Unescape.mono _ _
      | exact LeO.none _
      | refine LeO.ite ?_ ?_
      | refine LeO.bind ?_ (fun _ => ?_)
    · intro y0 y1 y2 y3 y4 y5 y6
      unfold laws_jpEscape.j2
      repeat' first
      | (with_reducible exact ih0 _ _ _ _)
      | (with_reducible exact ih1 _ _ _ _ _ _)
      | (with_reducible exact ih2 _ _ _ _ _ _ _)
      | (with_reducible exact laws_jpTorn.mono _ _)
      | (with_reducible exact spec_Paired.mono _ _)
      | (with_reducible exact spec_Unescape.mono _ _)
      | (with_reducible exact LeO.refl _)
      | (with_reducible exact LeO.none _)
      | (with_reducible refine LeO.ite ?_ ?_)
      | (with_reducible refine LeO.bind ?_ (fun _ => ?_))
      | exact ih0 _ _ _ _
      | exact ih1 _ _ _ _ _ _
      | exact ih2 _ _ _ _ _ _ _
      | exact laws_jpTorn.mono _ _
      | exact spec_Paired.mono _ _
      | exact spec_Unescape.mono _ _
      | exact LeO.none _
      | refine LeO.ite ?_ ?_
      | refine LeO.bind ?_ (fun _ => ?_)
theorem laws_jpEscape.mono : ∀ a0 k, LeO (laws_jpEscape.f k a0) (laws_jpEscape.f (k + 1) a0) := by
  intro a0 k
  obtain ⟨ih0, ih1, ih2⟩ := laws_jpEscape.mono_l k
  unfold laws_jpEscape.f
  repeat' first
      | (with_reducible exact ih0 _ _ _ _)
      | (with_reducible exact ih1 _ _ _ _ _ _)
      | (with_reducible exact ih2 _ _ _ _ _ _ _)
      | (with_reducible exact laws_jpTorn.mono _ _)
      | (with_reducible exact spec_Paired.mono _ _)
      | (with_reducible exact spec_Unescape.mono _ _)
      | (with_reducible exact LeO.refl _)
      | (with_reducible exact LeO.none _)
      | (with_reducible refine LeO.ite ?_ ?_)
      | (with_reducible refine LeO.bind ?_ (fun _ => ?_))
      | exact ih0 _ _ _ _
      | exact ih1 _ _ _ _ _ _
      | exact ih2 _ _ _ _ _ _ _
      | exact laws_jpTorn.mono _ _
      | exact spec_Paired.mono _ _
      | exact spec_Unescape.mono _ _
      | exact LeO.none _
      | refine LeO.ite ?_ ?_
      | refine LeO.bind ?_ (fun _ => ?_)
set_option maxHeartbeats 8000000 in
set_option maxRecDepth 100000 in
theorem laws_jpEscape.calls (k : Nat) (a0 : ByteArray) (r1 : Int) (r2 : ByteArray) (w : World) (h : laws_jpEscape.f k a0 = some (r1, r2)) :
    Calls Tryd.prog 13 #[.string a0] w fun e w' => e = .returned (.tuple #[.int .i64 r1, .string r2]) ∧ Below w.heap.size w w' := by
  have HB := Aside0.mk (Below.refl w.heap.size w)
  have H : ((some (([12, 6, 2] : List Int) : List Int)).bind fun y198 => (laws_jpEscape.l0 k a0 y198 (y198.length : Int) 0)) = some (r1, r2) := h
  clear h
  obtain ⟨y198, hy198⟩ : ∃ y_ : List Int, y_ = (([12, 6, 2] : List Int)) := ⟨_, rfl⟩
  replace H : (laws_jpEscape.l0 k a0 y198 (y198.length : Int) 0) = some (r1, r2) := by first | (rw [hy198]; with_reducible exact H) | (have H2_ := (Option.bind_some _ _).symm.trans H; rw [hy198]; with_reducible exact H2_) | (have H2_ := (Option.bind_some _ _).symm.trans H; with_reducible exact H2_) | with_reducible exact H | (rw [hy198]; exact H) | exact H
  have Ny198 := Aside0.mk hy198
  clear hy198
  have H' := Aside0.mk H
  clear H
  go_enter Tryd.func13, Tryd.ntmps13
  go_wp2_with (first | ((with_reducible refine gate_dst (N := 8) rfl ?_); refine Kd.R_lit (Kd.int .i64) _ 3 ?hg (N := 8) ?hd (xs := ([12, 6, 2] : List Int)) (inner := [.int .i64 12, .int .i64 6, .int .i64 2]) (ok := fun _ => True) (okp := fun _ => True) ?hr ?hp (fun _ hk => hk) trivial (Below.refl _ _) (Nat.le_refl _) (by simp) ?_; (case hd => rfl); (case hg => rfl); (case hr => first | (go_simp; done) | (go_simp; rfl)); (case hp => exact (Reps.one (show Kd.M (Kd.int .i64) _ _ _ 12 [.int .i64 12] from rfl) (Reps.one (show Kd.M (Kd.int .i64) _ _ _ 6 [.int .i64 6] from rfl) (Reps.one (show Kd.M (Kd.int .i64) _ _ _ 2 [.int .i64 2] from rfl) (Reps.none _ _))))); intro v199 w2 ho3 hb hg_ hnew_; clear hg_ hnew_; (first | rw [← Ny198.out] at ho3 | (simp only [Int.reduceToNat] at ho3; rw [← Ny198.out] at ho3)); have n0_ := Aside0.mk (Kd.R_lower ho3 (below_size (by repeat (first | (with_reducible first | exact HB.out | apply below_alloc | apply pw_below_drewN | apply below_drew1) | exact HB.out)))); have n1_ := Aside0.mk (below_step (by repeat (first | (with_reducible first | exact HB.out | apply below_alloc | apply pw_below_drewN | apply below_drew1) | exact HB.out)) hb); clear HB; have HO200 := n0_; have HB := n1_; clear n0_ n1_; clear hb ho3; obtain ⟨Ao4, co4, eo4⟩ := Kd.R_slice HO200.out; subst eo4))
  try simp only [Act.put, List.setIfInBounds_toArray, List.set_cons_succ, List.set_cons_zero]
  go_loopg [10] k (fun kq v10 w' => ∃ (x10_1 : Int), v10 = .int .i64 x10_1 ∧ Aside0 (laws_jpEscape.l0 kq a0 y198 (y198.length : Int) x10_1 = some (r1, r2)) ∧ Aside0 (kq ≤ k) ∧ Aside0 (Kd.R (Kd.int .i64) 3 w' w.heap.size (fun _ => True) (.slice Ao4 y198.length co4) y198) ∧ Aside0 (Below w.heap.size w w'))
  case atStart => exact ⟨(0), (by first | rfl | (simp; done) | (simp [*]; done)), H', ⟨Nat.le_refl _⟩, ⟨by (with_reducible repeat (first | apply Kd.R_alloc | apply Kd.R_drewN | apply Kd.R_drew)); exact HO200.out⟩, ⟨by repeat (first | (with_reducible first | exact HB.out | apply below_alloc | apply pw_below_drewN | apply below_drew1) | exact HB.out)⟩⟩
  case round =>
    clear H'
    try clear c1
    try clear p2
    obtain ⟨x10_1, rfl, HA, HK1, HO_8, HB⟩ := hrel
    cases gk with
    | zero => exact absurd HA.out (by simp [laws_jpEscape.l0])
    | succ k1 =>
      have H := HA.out
      clear HA
      simp only [laws_jpEscape.l0] at H
      by_cases c5 : x10_1 < (y198.length : Int)
      · rw [if_pos c5] at H
        have c5b0 : decide (x10_1 < (y198.length : Int)) = true := decide_eq_true c5
        clear c5
        by_cases c6 : 0 ≤ x10_1
        · rw [if_pos c6] at H
          have c6b0 : decide (0 ≤ x10_1) = true := decide_eq_true c6
          clear c6
          by_cases c7 : x10_1 < (y198.length : Int)
          · rw [if_pos c7] at H
            have c7b0 : decide (x10_1 < (y198.length : Int)) = true := decide_eq_true c7
            clear c7
            have HC8 := Aside0.mk H
            clear H
            have p201 : 0 ≤ (x10_1 : Int) := of_decide_eq_true (by first | (with_reducible assumption) | assumption)
            have q201 : x10_1 < (y198.length : Int) := of_decide_eq_true (by first | (with_reducible assumption) | assumption)
            obtain ⟨ad201, e201, hx201_0⟩ := Kd.at_int (Kd.R_reads' HO_8.out).2.2 x10_1 p201 q201
            cases e201
            replace p201 := eq_true p201
            replace q201 := eq_true q201
            go_upto_region 4 with (fail)
            go_cut [22] (fun v22 wc => ∃ (kq : Nat) (x22_7 : Bool), v22 = .bool x22_7 ∧ Aside0 (laws_jpEscape.j1 kq a0 (rd y198 x10_1) y198 (y198.length : Int) x10_1 x22_7 = some (r1, r2)) ∧ Aside0 (kq ≤ k1) ∧ Aside0 (Kd.R (Kd.int .i64) 3 wc w.heap.size (fun _ => True) (.slice (some ad201) y198.length co4) y198) ∧ Aside0 (Below w.heap.size w wc))
            case first =>
              have H := HC8.out
              clear HC8
              by_cases c9 : (a0.size : Int) < (rd y198 x10_1)
              · rw [if_pos c9] at H
                have c9b0 : decide ((a0.size : Int) < (rd y198 x10_1)) = true := decide_eq_true c9
                clear c9
                (first | rw [c9b0] | (simp only [i64_w, i32_w]; rw [c9b0]) | skip)
                have H' := Aside0.mk H
                clear H
                go_wp2
                go_meet
                case rel => exact ⟨_, (true), (by first | rfl | (simp; done) | (simp [*]; done)), H', ⟨by have := HK1.out; first | omega | exact Nat.le_refl _⟩, ⟨by (with_reducible repeat (first | apply Kd.R_alloc | apply Kd.R_drewN | apply Kd.R_drew)); exact HO_8.out⟩, ⟨by repeat (first | (with_reducible first | exact HB.out | apply below_alloc | apply pw_below_drewN | apply below_drew1) | exact HB.out)⟩⟩
              · rw [if_neg c9] at H
                have c9b0 : decide ((a0.size : Int) < (rd y198 x10_1)) = false := decide_eq_false c9
                clear c9
                (first | rw [c9b0] | (simp only [i64_w, i32_w]; rw [c9b0]) | skip)
                by_cases c10 : 0 < (a0.size : Int)
                · rw [if_pos c10] at H
                  have c10b0 : decide (0 < (a0.size : Int)) = true := decide_eq_true c10
                  have c10b1 : decide (0 < a0.size) = true := decide_eq_true (by omega)
                  clear c10
                  have H' := Aside0.mk H
                  clear H
                  have p11 : 0 ≤ (0 : Int) := (by omega)
                  have q11 : 0 < a0.size := (by have : (0 : Int) < (a0.size : Int) := of_decide_eq_true (by first | (with_reducible assumption) | assumption); omega)
                  have hx11 : ∀ h : 0 < a0.size, ((a0[0]'h).toNat : Int) = bt a0 0 := bt_at a0 0
                  clear p11
                  have qi11 : (0 < (a0.size : Int)) = True := eq_true (of_decide_eq_true (by first | (with_reducible assumption) | assumption))
                  replace q11 := eq_true q11
                  go_wp2
                  go_meet
                  case rel => exact ⟨_, (((bt a0 0) != 92)), (by first | rfl | (simp; done) | (simp [*]; done)), H', ⟨by have := HK1.out; first | omega | exact Nat.le_refl _⟩, ⟨by (with_reducible repeat (first | apply Kd.R_alloc | apply Kd.R_drewN | apply Kd.R_drew)); exact HO_8.out⟩, ⟨by repeat (first | (with_reducible first | exact HB.out | apply below_alloc | apply pw_below_drewN | apply below_drew1) | exact HB.out)⟩⟩
                · rw [if_neg c10] at H
                  exact absurd H (by simp)
            case rest =>
              clear HC8
              try clear c1
              try clear p1
              try clear q1
              try clear hx1
              try clear qi1
              try clear p2
              try clear q2
              try clear hx2
              try clear c5
              try clear c5b0
              try clear c6
              try clear c6b0
              try clear c7
              try clear c7b0
              try clear c9
              try clear c9b0
              try clear c10
              try clear c10b0
              try clear c10b1
              try clear p11
              try clear q11
              try clear hx11
              try clear qi11
              try clear hx201_0
              try clear p11
              try clear p2
              try clear p201
              try clear q11
              try clear q201
              obtain ⟨kq, x22_7, rfl, HA, HJ7, HO_8, HB⟩ := hcut
              cases kq with
              | zero => exact absurd HA.out (by simp [laws_jpEscape.j1])
              | succ kj7 =>
                have H := HA.out
                clear HA
                simp only [laws_jpEscape.j1] at H
                by_cases c12 : x22_7 = true
                · subst c12
                  have H1 : (laws_jpEscape.l0 kj7 a0 y198 (y198.length : Int) (wrap64 (x10_1 + 1))) = some (r1, r2) := by rw [if_pos rfl] at H; exact H
                  clear H
                  have H := H1
                  clear H1
                  have H' := Aside0.mk H
                  clear H
                  go_wp2
                  go_roundg kj7
                  case measure => have := HK1.out; have := HJ7.out; omega
                  case rel => exact ⟨(wrap64 (x10_1 + 1)), (by first | rfl | (simp; done) | (simp [*]; done)), H', ⟨by have := HK1.out; have := HJ7.out; omega⟩, ⟨by (with_reducible repeat (first | apply Kd.R_alloc | apply Kd.R_drewN | apply Kd.R_drew)); exact HO_8.out⟩, ⟨by repeat (first | (with_reducible first | exact HB.out | apply below_alloc | apply pw_below_drewN | apply below_drew1) | exact HB.out)⟩⟩
                · replace c12 := Bool.eq_false_iff.mpr c12
                  subst c12
                  have H1 : (if 0 ≤ (rd y198 x10_1) then (if (rd y198 x10_1) ≤ (a0.size : Int) then ((spec_Unescape.f kj7 (a0.extract 0 ((rd y198 x10_1) : Int).toNat)).bind fun bt202 => (if bt202.2 = true then (if (rd y198 x10_1) = 12 then (if 0 ≤ 6 then (if 6 ≤ (a0.size : Int) then ((spec_Paired.f kj7 (a0.extract 0 6)).bind fun t204 => (if t204 = true then (laws_jpEscape.j2 kj7 a0 (rd y198 x10_1) bt202.1 y198 (y198.length : Int) x10_1 true) else (if 0 ≤ 12 then (if 12 ≤ (a0.size : Int) then ((spec_Paired.f kj7 (a0.extract 0 12)).bind fun t205 => (if t205 = true then (if (rd y198 x10_1) = 6 then (if 1 < (a0.size : Int) then (if (bt a0 1) = 117 then (if (rd y198 x10_1) = 2 then (laws_jpEscape.j2 kj7 a0 (rd y198 x10_1) bt202.1 y198 (y198.length : Int) x10_1 ((bt a0 1) == 117)) else (laws_jpEscape.j2 kj7 a0 (rd y198 x10_1) bt202.1 y198 (y198.length : Int) x10_1 false)) else (laws_jpEscape.j2 kj7 a0 (rd y198 x10_1) bt202.1 y198 (y198.length : Int) x10_1 true)) else (none)) else (if (rd y198 x10_1) = 2 then (if 1 < (a0.size : Int) then (laws_jpEscape.j2 kj7 a0 (rd y198 x10_1) bt202.1 y198 (y198.length : Int) x10_1 ((bt a0 1) == 117)) else (none)) else (laws_jpEscape.j2 kj7 a0 (rd y198 x10_1) bt202.1 y198 (y198.length : Int) x10_1 false))) else (laws_jpEscape.j2 kj7 a0 (rd y198 x10_1) bt202.1 y198 (y198.length : Int) x10_1 true))) else (none)) else (none)))) else (none)) else (none)) else (if (rd y198 x10_1) = 6 then (if 1 < (a0.size : Int) then (if (bt a0 1) = 117 then (if (rd y198 x10_1) = 2 then (laws_jpEscape.j2 kj7 a0 (rd y198 x10_1) bt202.1 y198 (y198.length : Int) x10_1 ((bt a0 1) == 117)) else (laws_jpEscape.j2 kj7 a0 (rd y198 x10_1) bt202.1 y198 (y198.length : Int) x10_1 false)) else (laws_jpEscape.j2 kj7 a0 (rd y198 x10_1) bt202.1 y198 (y198.length : Int) x10_1 true)) else (none)) else (if (rd y198 x10_1) = 2 then (if 1 < (a0.size : Int) then (laws_jpEscape.j2 kj7 a0 (rd y198 x10_1) bt202.1 y198 (y198.length : Int) x10_1 ((bt a0 1) == 117)) else (none)) else (laws_jpEscape.j2 kj7 a0 (rd y198 x10_1) bt202.1 y198 (y198.length : Int) x10_1 false)))) else (laws_jpEscape.j2 kj7 a0 (rd y198 x10_1) bt202.1 y198 (y198.length : Int) x10_1 true))) else (none)) else (none)) = some (r1, r2) := by rw [if_neg (show ¬ (false = true) by decide)] at H; exact H
                  clear H
                  have H := H1
                  clear H1
                  by_cases c13 : 0 ≤ (rd y198 x10_1)
                  · rw [if_pos c13] at H
                    have c13b0 := eq_true c13
                    have c13b1 : decide (0 ≤ (rd y198 x10_1)) = true := decide_eq_true c13
                    clear c13
                    by_cases c14 : (rd y198 x10_1) ≤ (a0.size : Int)
                    · rw [if_pos c14] at H
                      have c14b0 := eq_true c14
                      have c14b1 : decide ((rd y198 x10_1) ≤ (a0.size : Int)) = true := decide_eq_true c14
                      clear c14
                      replace H := Option.bind_eq_some_iff.mp H
                      obtain ⟨⟨t202, t203⟩, A150, H⟩ := H
                      replace H : (if t203 = true then (if (rd y198 x10_1) = 12 then (if 0 ≤ 6 then (if 6 ≤ (a0.size : Int) then ((spec_Paired.f kj7 (a0.extract 0 6)).bind fun t204 => (if t204 = true then (laws_jpEscape.j2 kj7 a0 (rd y198 x10_1) t202 y198 (y198.length : Int) x10_1 true) else (if 0 ≤ 12 then (if 12 ≤ (a0.size : Int) then ((spec_Paired.f kj7 (a0.extract 0 12)).bind fun t205 => (if t205 = true then (if (rd y198 x10_1) = 6 then (if 1 < (a0.size : Int) then (if (bt a0 1) = 117 then (if (rd y198 x10_1) = 2 then (laws_jpEscape.j2 kj7 a0 (rd y198 x10_1) t202 y198 (y198.length : Int) x10_1 ((bt a0 1) == 117)) else (laws_jpEscape.j2 kj7 a0 (rd y198 x10_1) t202 y198 (y198.length : Int) x10_1 false)) else (laws_jpEscape.j2 kj7 a0 (rd y198 x10_1) t202 y198 (y198.length : Int) x10_1 true)) else (none)) else (if (rd y198 x10_1) = 2 then (if 1 < (a0.size : Int) then (laws_jpEscape.j2 kj7 a0 (rd y198 x10_1) t202 y198 (y198.length : Int) x10_1 ((bt a0 1) == 117)) else (none)) else (laws_jpEscape.j2 kj7 a0 (rd y198 x10_1) t202 y198 (y198.length : Int) x10_1 false))) else (laws_jpEscape.j2 kj7 a0 (rd y198 x10_1) t202 y198 (y198.length : Int) x10_1 true))) else (none)) else (none)))) else (none)) else (none)) else (if (rd y198 x10_1) = 6 then (if 1 < (a0.size : Int) then (if (bt a0 1) = 117 then (if (rd y198 x10_1) = 2 then (laws_jpEscape.j2 kj7 a0 (rd y198 x10_1) t202 y198 (y198.length : Int) x10_1 ((bt a0 1) == 117)) else (laws_jpEscape.j2 kj7 a0 (rd y198 x10_1) t202 y198 (y198.length : Int) x10_1 false)) else (laws_jpEscape.j2 kj7 a0 (rd y198 x10_1) t202 y198 (y198.length : Int) x10_1 true)) else (none)) else (if (rd y198 x10_1) = 2 then (if 1 < (a0.size : Int) then (laws_jpEscape.j2 kj7 a0 (rd y198 x10_1) t202 y198 (y198.length : Int) x10_1 ((bt a0 1) == 117)) else (none)) else (laws_jpEscape.j2 kj7 a0 (rd y198 x10_1) t202 y198 (y198.length : Int) x10_1 false)))) else (laws_jpEscape.j2 kj7 a0 (rd y198 x10_1) t202 y198 (y198.length : Int) x10_1 true)) = some (r1, r2) := H
                      have A15 := Aside0.mk A150
                      clear A150
                      have HC16 := Aside0.mk H
                      clear H
                      go_upto_region 6 with (first | ((with_reducible refine gate_callee (f := 31) rfl ?_); refine goesL_ (some 27) rfl rfl Tryd.func31 (by kernel_rfl) rfl #[.string (a0.extract 0 ((rd y198 x10_1) : Int).toNat)] rfl (by (try simp only [List.map_toArray, List.map_cons, List.map_nil]); first | done | rfl | (simp only [List.length_drop, List.length_take]; rfl)) ?_; (with_reducible refine (spec_Unescape.calls kj7 (a0.extract 0 ((rd y198 x10_1) : Int).toNat) t202 t203 _ A15.out).mono ?_); rintro e w17 ⟨rfl, hb⟩; refine ⟨_, rfl, ?_⟩; have n0_ := Aside0.mk (Kd.R_below (by (with_reducible repeat (first | apply Kd.R_alloc | apply Kd.R_drewN | apply Kd.R_drew)); exact HO_8.out) hb); have n1_ := Aside0.mk (below_step (by repeat (first | (with_reducible first | exact HB.out | apply below_alloc | apply pw_below_drewN | apply below_drew1) | exact HB.out)) hb); clear HO_8; clear HB; have HO_8 := n0_; have HB := n1_; clear n0_ n1_; (try clear hb); (try clear hb2); (try clear hk); (try clear hi)))
                      (try simp only [Act.put, List.setIfInBounds_toArray, List.set_cons_zero, List.set_cons_succ])
                      go_cut [64] (fun v64 wc => ∃ (kq : Nat) (x64_15 : Bool), v64 = .bool x64_15 ∧ Aside0 (laws_jpEscape.j2 kq a0 (rd y198 x10_1) t202 y198 (y198.length : Int) x10_1 x64_15 = some (r1, r2)) ∧ Aside0 (kq ≤ kj7) ∧ Aside0 (Kd.R (Kd.int .i64) 3 wc w.heap.size (fun _ => True) (.slice (some ad201) y198.length co4) y198) ∧ Aside0 (Below w.heap.size w wc))
                      case first =>
                        have H := HC16.out
                        clear HC16
                        by_cases c18 : t203 = true
                        · subst c18
                          have H1 : (if (rd y198 x10_1) = 12 then (if 0 ≤ 6 then (if 6 ≤ (a0.size : Int) then ((spec_Paired.f kj7 (a0.extract 0 6)).bind fun t204 => (if t204 = true then (laws_jpEscape.j2 kj7 a0 (rd y198 x10_1) t202 y198 (y198.length : Int) x10_1 true) else (if 0 ≤ 12 then (if 12 ≤ (a0.size : Int) then ((spec_Paired.f kj7 (a0.extract 0 12)).bind fun t205 => (if t205 = true then (if (rd y198 x10_1) = 6 then (if 1 < (a0.size : Int) then (if (bt a0 1) = 117 then (if (rd y198 x10_1) = 2 then (laws_jpEscape.j2 kj7 a0 (rd y198 x10_1) t202 y198 (y198.length : Int) x10_1 ((bt a0 1) == 117)) else (laws_jpEscape.j2 kj7 a0 (rd y198 x10_1) t202 y198 (y198.length : Int) x10_1 false)) else (laws_jpEscape.j2 kj7 a0 (rd y198 x10_1) t202 y198 (y198.length : Int) x10_1 true)) else (none)) else (if (rd y198 x10_1) = 2 then (if 1 < (a0.size : Int) then (laws_jpEscape.j2 kj7 a0 (rd y198 x10_1) t202 y198 (y198.length : Int) x10_1 ((bt a0 1) == 117)) else (none)) else (laws_jpEscape.j2 kj7 a0 (rd y198 x10_1) t202 y198 (y198.length : Int) x10_1 false))) else (laws_jpEscape.j2 kj7 a0 (rd y198 x10_1) t202 y198 (y198.length : Int) x10_1 true))) else (none)) else (none)))) else (none)) else (none)) else (if (rd y198 x10_1) = 6 then (if 1 < (a0.size : Int) then (if (bt a0 1) = 117 then (if (rd y198 x10_1) = 2 then (laws_jpEscape.j2 kj7 a0 (rd y198 x10_1) t202 y198 (y198.length : Int) x10_1 ((bt a0 1) == 117)) else (laws_jpEscape.j2 kj7 a0 (rd y198 x10_1) t202 y198 (y198.length : Int) x10_1 false)) else (laws_jpEscape.j2 kj7 a0 (rd y198 x10_1) t202 y198 (y198.length : Int) x10_1 true)) else (none)) else (if (rd y198 x10_1) = 2 then (if 1 < (a0.size : Int) then (laws_jpEscape.j2 kj7 a0 (rd y198 x10_1) t202 y198 (y198.length : Int) x10_1 ((bt a0 1) == 117)) else (none)) else (laws_jpEscape.j2 kj7 a0 (rd y198 x10_1) t202 y198 (y198.length : Int) x10_1 false)))) = some (r1, r2) := by rw [if_pos rfl] at H; exact H
                          clear H
                          have H := H1
                          clear H1
                          by_cases c19 : (rd y198 x10_1) = 12
                          · rw [if_pos c19] at H
                            have c19b0 : ((rd y198 x10_1) == 12) = true := beq_iff_eq.mpr c19
                            have c19b1 : ((rd y198 x10_1) != 12) = false := bne_eq_false_iff_eq.mpr c19
                            clear c19
                            (first | rw [c19b0] | (simp only [i64_w, i32_w]; rw [c19b0]) | skip)
                            by_cases c20 : 0 ≤ 6
                            · rw [if_pos c20] at H
                              have c20b0 := eq_true c20
                              have c20b1 : decide (0 ≤ 6) = true := decide_eq_true c20
                              clear c20
                              by_cases c21 : 6 ≤ (a0.size : Int)
                              · rw [if_pos c21] at H
                                have c21b0 := eq_true c21
                                have c21b1 : decide (6 ≤ (a0.size : Int)) = true := decide_eq_true c21
                                clear c21
                                replace H := Option.bind_eq_some_iff.mp H
                                obtain ⟨t204, A220, H⟩ := H
                                replace H : (if t204 = true then (laws_jpEscape.j2 kj7 a0 (rd y198 x10_1) t202 y198 (y198.length : Int) x10_1 true) else (if 0 ≤ 12 then (if 12 ≤ (a0.size : Int) then ((spec_Paired.f kj7 (a0.extract 0 12)).bind fun t205 => (if t205 = true then (if (rd y198 x10_1) = 6 then (if 1 < (a0.size : Int) then (if (bt a0 1) = 117 then (if (rd y198 x10_1) = 2 then (laws_jpEscape.j2 kj7 a0 (rd y198 x10_1) t202 y198 (y198.length : Int) x10_1 ((bt a0 1) == 117)) else (laws_jpEscape.j2 kj7 a0 (rd y198 x10_1) t202 y198 (y198.length : Int) x10_1 false)) else (laws_jpEscape.j2 kj7 a0 (rd y198 x10_1) t202 y198 (y198.length : Int) x10_1 true)) else (none)) else (if (rd y198 x10_1) = 2 then (if 1 < (a0.size : Int) then (laws_jpEscape.j2 kj7 a0 (rd y198 x10_1) t202 y198 (y198.length : Int) x10_1 ((bt a0 1) == 117)) else (none)) else (laws_jpEscape.j2 kj7 a0 (rd y198 x10_1) t202 y198 (y198.length : Int) x10_1 false))) else (laws_jpEscape.j2 kj7 a0 (rd y198 x10_1) t202 y198 (y198.length : Int) x10_1 true))) else (none)) else (none))) = some (r1, r2) := H
                                have A22 := Aside0.mk A220
                                clear A220
                                by_cases c23 : t204 = true
                                · subst c23
                                  have H1 : (laws_jpEscape.j2 kj7 a0 (rd y198 x10_1) t202 y198 (y198.length : Int) x10_1 true) = some (r1, r2) := by rw [if_pos rfl] at H; exact H
                                  clear H
                                  have H := H1
                                  clear H1
                                  have H' := Aside0.mk H
                                  clear H
                                  go_wp2_with (first | (go_at_call 28; (with_reducible refine (spec_Paired.calls kj7 (a0.extract 0 6) true _ A22.out).mono ?_); rintro e w' ⟨rfl, ⟨nd, rfl⟩⟩))
                                  go_meet
                                  case rel => exact ⟨_, (true), (by first | rfl | (simp; done) | (simp [*]; done)), H', ⟨by have := HK1.out; have := HJ7.out; first | omega | exact Nat.le_refl _⟩, ⟨by (with_reducible repeat (first | apply Kd.R_alloc | apply Kd.R_drewN | apply Kd.R_drew)); exact HO_8.out⟩, ⟨by repeat (first | (with_reducible first | exact HB.out | apply below_alloc | apply pw_below_drewN | apply below_drew1) | exact HB.out)⟩⟩
                                · replace c23 := Bool.eq_false_iff.mpr c23
                                  subst c23
                                  have H1 : (if 0 ≤ 12 then (if 12 ≤ (a0.size : Int) then ((spec_Paired.f kj7 (a0.extract 0 12)).bind fun t205 => (if t205 = true then (if (rd y198 x10_1) = 6 then (if 1 < (a0.size : Int) then (if (bt a0 1) = 117 then (if (rd y198 x10_1) = 2 then (laws_jpEscape.j2 kj7 a0 (rd y198 x10_1) t202 y198 (y198.length : Int) x10_1 ((bt a0 1) == 117)) else (laws_jpEscape.j2 kj7 a0 (rd y198 x10_1) t202 y198 (y198.length : Int) x10_1 false)) else (laws_jpEscape.j2 kj7 a0 (rd y198 x10_1) t202 y198 (y198.length : Int) x10_1 true)) else (none)) else (if (rd y198 x10_1) = 2 then (if 1 < (a0.size : Int) then (laws_jpEscape.j2 kj7 a0 (rd y198 x10_1) t202 y198 (y198.length : Int) x10_1 ((bt a0 1) == 117)) else (none)) else (laws_jpEscape.j2 kj7 a0 (rd y198 x10_1) t202 y198 (y198.length : Int) x10_1 false))) else (laws_jpEscape.j2 kj7 a0 (rd y198 x10_1) t202 y198 (y198.length : Int) x10_1 true))) else (none)) else (none)) = some (r1, r2) := by rw [if_neg (show ¬ (false = true) by decide)] at H; exact H
                                  clear H
                                  have H := H1
                                  clear H1
                                  by_cases c24 : 0 ≤ 12
                                  · rw [if_pos c24] at H
                                    have c24b0 := eq_true c24
                                    have c24b1 : decide (0 ≤ 12) = true := decide_eq_true c24
                                    clear c24
                                    by_cases c25 : 12 ≤ (a0.size : Int)
                                    · rw [if_pos c25] at H
                                      have c25b0 := eq_true c25
                                      have c25b1 : decide (12 ≤ (a0.size : Int)) = true := decide_eq_true c25
                                      clear c25
                                      replace H := Option.bind_eq_some_iff.mp H
                                      obtain ⟨t205, A260, H⟩ := H
                                      replace H : (if t205 = true then (if (rd y198 x10_1) = 6 then (if 1 < (a0.size : Int) then (if (bt a0 1) = 117 then (if (rd y198 x10_1) = 2 then (laws_jpEscape.j2 kj7 a0 (rd y198 x10_1) t202 y198 (y198.length : Int) x10_1 ((bt a0 1) == 117)) else (laws_jpEscape.j2 kj7 a0 (rd y198 x10_1) t202 y198 (y198.length : Int) x10_1 false)) else (laws_jpEscape.j2 kj7 a0 (rd y198 x10_1) t202 y198 (y198.length : Int) x10_1 true)) else (none)) else (if (rd y198 x10_1) = 2 then (if 1 < (a0.size : Int) then (laws_jpEscape.j2 kj7 a0 (rd y198 x10_1) t202 y198 (y198.length : Int) x10_1 ((bt a0 1) == 117)) else (none)) else (laws_jpEscape.j2 kj7 a0 (rd y198 x10_1) t202 y198 (y198.length : Int) x10_1 false))) else (laws_jpEscape.j2 kj7 a0 (rd y198 x10_1) t202 y198 (y198.length : Int) x10_1 true)) = some (r1, r2) := H
                                      have A26 := Aside0.mk A260
                                      clear A260
                                      by_cases c27 : t205 = true
                                      · subst c27
                                        have H1 : (if (rd y198 x10_1) = 6 then (if 1 < (a0.size : Int) then (if (bt a0 1) = 117 then (if (rd y198 x10_1) = 2 then (laws_jpEscape.j2 kj7 a0 (rd y198 x10_1) t202 y198 (y198.length : Int) x10_1 ((bt a0 1) == 117)) else (laws_jpEscape.j2 kj7 a0 (rd y198 x10_1) t202 y198 (y198.length : Int) x10_1 false)) else (laws_jpEscape.j2 kj7 a0 (rd y198 x10_1) t202 y198 (y198.length : Int) x10_1 true)) else (none)) else (if (rd y198 x10_1) = 2 then (if 1 < (a0.size : Int) then (laws_jpEscape.j2 kj7 a0 (rd y198 x10_1) t202 y198 (y198.length : Int) x10_1 ((bt a0 1) == 117)) else (none)) else (laws_jpEscape.j2 kj7 a0 (rd y198 x10_1) t202 y198 (y198.length : Int) x10_1 false))) = some (r1, r2) := by rw [if_pos rfl] at H; exact H
                                        clear H
                                        have H := H1
                                        clear H1
                                        by_cases c28 : (rd y198 x10_1) = 6
                                        · rw [if_pos c28] at H
                                          have c28b0 : ((rd y198 x10_1) == 6) = true := beq_iff_eq.mpr c28
                                          have c28b1 : ((rd y198 x10_1) != 6) = false := bne_eq_false_iff_eq.mpr c28
                                          clear c28
                                          by_cases c29 : 1 < (a0.size : Int)
                                          · rw [if_pos c29] at H
                                            have c29b0 : decide (1 < (a0.size : Int)) = true := decide_eq_true c29
                                            have c29b1 : decide (1 < a0.size) = true := decide_eq_true (by omega)
                                            clear c29
                                            by_cases c31 : (bt a0 1) = 117
                                            · rw [if_pos c31] at H
                                              have c31b0 : ((bt a0 1) == 117) = true := beq_iff_eq.mpr c31
                                              have c31b1 : ((bt a0 1) != 117) = false := bne_eq_false_iff_eq.mpr c31
                                              clear c31
                                              by_cases c32 : (rd y198 x10_1) = 2
                                              · rw [if_pos c32] at H
                                                have c32b0 : ((rd y198 x10_1) == 2) = true := beq_iff_eq.mpr c32
                                                have c32b1 : ((rd y198 x10_1) != 2) = false := bne_eq_false_iff_eq.mpr c32
                                                clear c32
                                                have H' := Aside0.mk H
                                                clear H
                                                go_wp2_with (first | (go_at_call 28; (with_reducible refine (spec_Paired.calls kj7 (a0.extract 0 6) false _ A22.out).mono ?_); rintro e w' ⟨rfl, ⟨nd, rfl⟩⟩) | (go_at_call 28; (with_reducible refine (spec_Paired.calls kj7 (a0.extract 0 12) true _ A26.out).mono ?_); rintro e w' ⟨rfl, ⟨nd, rfl⟩⟩; have p30 : 0 ≤ (1 : Int) := (by omega); have q30 : 1 < a0.size := (by have : (1 : Int) < (a0.size : Int) := of_decide_eq_true (by first | (with_reducible assumption) | assumption); omega); have hx30 : ∀ h : 1 < a0.size, ((a0[1]'h).toNat : Int) = bt a0 1 := bt_at a0 1; clear p30; have qi30 : (1 < (a0.size : Int)) = True := eq_true (of_decide_eq_true (by first | (with_reducible assumption) | assumption)); replace q30 := eq_true q30; have p33 : 0 ≤ (1 : Int) := (by omega); have q33 : 1 < a0.size := (by have : (1 : Int) < (a0.size : Int) := of_decide_eq_true (by first | (with_reducible assumption) | assumption); omega); have hx33 : ∀ h : 1 < a0.size, ((a0[1]'h).toNat : Int) = bt a0 1 := bt_at a0 1; clear p33; have qi33 : (1 < (a0.size : Int)) = True := eq_true (of_decide_eq_true (by first | (with_reducible assumption) | assumption)); replace q33 := eq_true q33))
                                                go_meet
                                                case rel => exact ⟨_, (((bt a0 1) == 117)), (by first | rfl | (simp; done) | (simp [*]; done)), H', ⟨by have := HK1.out; have := HJ7.out; first | omega | exact Nat.le_refl _⟩, ⟨by (with_reducible repeat (first | apply Kd.R_alloc | apply Kd.R_drewN | apply Kd.R_drew)); exact HO_8.out⟩, ⟨by repeat (first | (with_reducible first | exact HB.out | apply below_alloc | apply pw_below_drewN | apply below_drew1) | exact HB.out)⟩⟩
                                              · rw [if_neg c32] at H
                                                have c32b0 : ((rd y198 x10_1) == 2) = false := beq_eq_false_iff_ne.mpr c32
                                                have c32b1 : ((rd y198 x10_1) != 2) = true := bne_iff_ne.mpr c32
                                                have H' := Aside0.mk H
                                                clear H
                                                go_wp2_with (first | (go_at_call 28; (with_reducible refine (spec_Paired.calls kj7 (a0.extract 0 6) false _ A22.out).mono ?_); rintro e w' ⟨rfl, ⟨nd, rfl⟩⟩) | (go_at_call 28; (with_reducible refine (spec_Paired.calls kj7 (a0.extract 0 12) true _ A26.out).mono ?_); rintro e w' ⟨rfl, ⟨nd, rfl⟩⟩; have p30 : 0 ≤ (1 : Int) := (by omega); have q30 : 1 < a0.size := (by have : (1 : Int) < (a0.size : Int) := of_decide_eq_true (by first | (with_reducible assumption) | assumption); omega); have hx30 : ∀ h : 1 < a0.size, ((a0[1]'h).toNat : Int) = bt a0 1 := bt_at a0 1; clear p30; have qi30 : (1 < (a0.size : Int)) = True := eq_true (of_decide_eq_true (by first | (with_reducible assumption) | assumption)); replace q30 := eq_true q30))
                                                go_meet
                                                case rel => exact ⟨_, (false), (by first | rfl | (simp; done) | (simp [*]; done)), H', ⟨by have := HK1.out; have := HJ7.out; first | omega | exact Nat.le_refl _⟩, ⟨by (with_reducible repeat (first | apply Kd.R_alloc | apply Kd.R_drewN | apply Kd.R_drew)); exact HO_8.out⟩, ⟨by repeat (first | (with_reducible first | exact HB.out | apply below_alloc | apply pw_below_drewN | apply below_drew1) | exact HB.out)⟩⟩
                                            · rw [if_neg c31] at H
                                              have c31b0 : ((bt a0 1) == 117) = false := beq_eq_false_iff_ne.mpr c31
                                              have c31b1 : ((bt a0 1) != 117) = true := bne_iff_ne.mpr c31
                                              have H' := Aside0.mk H
                                              clear H
                                              go_wp2_with (first | (go_at_call 28; (with_reducible refine (spec_Paired.calls kj7 (a0.extract 0 6) false _ A22.out).mono ?_); rintro e w' ⟨rfl, ⟨nd, rfl⟩⟩) | (go_at_call 28; (with_reducible refine (spec_Paired.calls kj7 (a0.extract 0 12) true _ A26.out).mono ?_); rintro e w' ⟨rfl, ⟨nd, rfl⟩⟩; have p30 : 0 ≤ (1 : Int) := (by omega); have q30 : 1 < a0.size := (by have : (1 : Int) < (a0.size : Int) := of_decide_eq_true (by first | (with_reducible assumption) | assumption); omega); have hx30 : ∀ h : 1 < a0.size, ((a0[1]'h).toNat : Int) = bt a0 1 := bt_at a0 1; clear p30; have qi30 : (1 < (a0.size : Int)) = True := eq_true (of_decide_eq_true (by first | (with_reducible assumption) | assumption)); replace q30 := eq_true q30))
                                              go_meet
                                              case rel => exact ⟨_, (true), (by first | rfl | (simp; done) | (simp [*]; done)), H', ⟨by have := HK1.out; have := HJ7.out; first | omega | exact Nat.le_refl _⟩, ⟨by (with_reducible repeat (first | apply Kd.R_alloc | apply Kd.R_drewN | apply Kd.R_drew)); exact HO_8.out⟩, ⟨by repeat (first | (with_reducible first | exact HB.out | apply below_alloc | apply pw_below_drewN | apply below_drew1) | exact HB.out)⟩⟩
                                          · rw [if_neg c29] at H
                                            exact absurd H (by simp)
                                        · rw [if_neg c28] at H
                                          have c28b0 : ((rd y198 x10_1) == 6) = false := beq_eq_false_iff_ne.mpr c28
                                          have c28b1 : ((rd y198 x10_1) != 6) = true := bne_iff_ne.mpr c28
                                          by_cases c34 : (rd y198 x10_1) = 2
                                          · rw [if_pos c34] at H
                                            have c34b0 : ((rd y198 x10_1) == 2) = true := beq_iff_eq.mpr c34
                                            have c34b1 : ((rd y198 x10_1) != 2) = false := bne_eq_false_iff_eq.mpr c34
                                            clear c34
                                            by_cases c35 : 1 < (a0.size : Int)
                                            · rw [if_pos c35] at H
                                              have c35b0 : decide (1 < (a0.size : Int)) = true := decide_eq_true c35
                                              have c35b1 : decide (1 < a0.size) = true := decide_eq_true (by omega)
                                              clear c35
                                              have H' := Aside0.mk H
                                              clear H
                                              go_wp2_with (first | (go_at_call 28; (with_reducible refine (spec_Paired.calls kj7 (a0.extract 0 6) false _ A22.out).mono ?_); rintro e w' ⟨rfl, ⟨nd, rfl⟩⟩) | (go_at_call 28; (with_reducible refine (spec_Paired.calls kj7 (a0.extract 0 12) true _ A26.out).mono ?_); rintro e w' ⟨rfl, ⟨nd, rfl⟩⟩; have p36 : 0 ≤ (1 : Int) := (by omega); have q36 : 1 < a0.size := (by have : (1 : Int) < (a0.size : Int) := of_decide_eq_true (by first | (with_reducible assumption) | assumption); omega); have hx36 : ∀ h : 1 < a0.size, ((a0[1]'h).toNat : Int) = bt a0 1 := bt_at a0 1; clear p36; have qi36 : (1 < (a0.size : Int)) = True := eq_true (of_decide_eq_true (by first | (with_reducible assumption) | assumption)); replace q36 := eq_true q36))
                                              go_meet
                                              case rel => exact ⟨_, (((bt a0 1) == 117)), (by first | rfl | (simp; done) | (simp [*]; done)), H', ⟨by have := HK1.out; have := HJ7.out; first | omega | exact Nat.le_refl _⟩, ⟨by (with_reducible repeat (first | apply Kd.R_alloc | apply Kd.R_drewN | apply Kd.R_drew)); exact HO_8.out⟩, ⟨by repeat (first | (with_reducible first | exact HB.out | apply below_alloc | apply pw_below_drewN | apply below_drew1) | exact HB.out)⟩⟩
                                            · rw [if_neg c35] at H
                                              exact absurd H (by simp)
                                          · rw [if_neg c34] at H
                                            have c34b0 : ((rd y198 x10_1) == 2) = false := beq_eq_false_iff_ne.mpr c34
                                            have c34b1 : ((rd y198 x10_1) != 2) = true := bne_iff_ne.mpr c34
                                            have H' := Aside0.mk H
                                            clear H
                                            go_wp2_with (first | (go_at_call 28; (with_reducible refine (spec_Paired.calls kj7 (a0.extract 0 6) false _ A22.out).mono ?_); rintro e w' ⟨rfl, ⟨nd, rfl⟩⟩) | (go_at_call 28; (with_reducible refine (spec_Paired.calls kj7 (a0.extract 0 12) true _ A26.out).mono ?_); rintro e w' ⟨rfl, ⟨nd, rfl⟩⟩))
                                            go_meet
                                            case rel => exact ⟨_, (false), (by first | rfl | (simp; done) | (simp [*]; done)), H', ⟨by have := HK1.out; have := HJ7.out; first | omega | exact Nat.le_refl _⟩, ⟨by (with_reducible repeat (first | apply Kd.R_alloc | apply Kd.R_drewN | apply Kd.R_drew)); exact HO_8.out⟩, ⟨by repeat (first | (with_reducible first | exact HB.out | apply below_alloc | apply pw_below_drewN | apply below_drew1) | exact HB.out)⟩⟩
                                      · replace c27 := Bool.eq_false_iff.mpr c27
                                        subst c27
                                        have H1 : (laws_jpEscape.j2 kj7 a0 (rd y198 x10_1) t202 y198 (y198.length : Int) x10_1 true) = some (r1, r2) := by rw [if_neg (show ¬ (false = true) by decide)] at H; exact H
                                        clear H
                                        have H := H1
                                        clear H1
                                        have H' := Aside0.mk H
                                        clear H
                                        go_wp2_with (first | (go_at_call 28; (with_reducible refine (spec_Paired.calls kj7 (a0.extract 0 6) false _ A22.out).mono ?_); rintro e w' ⟨rfl, ⟨nd, rfl⟩⟩) | (go_at_call 28; (with_reducible refine (spec_Paired.calls kj7 (a0.extract 0 12) false _ A26.out).mono ?_); rintro e w' ⟨rfl, ⟨nd, rfl⟩⟩))
                                        go_meet
                                        case rel => exact ⟨_, (true), (by first | rfl | (simp; done) | (simp [*]; done)), H', ⟨by have := HK1.out; have := HJ7.out; first | omega | exact Nat.le_refl _⟩, ⟨by (with_reducible repeat (first | apply Kd.R_alloc | apply Kd.R_drewN | apply Kd.R_drew)); exact HO_8.out⟩, ⟨by repeat (first | (with_reducible first | exact HB.out | apply below_alloc | apply pw_below_drewN | apply below_drew1) | exact HB.out)⟩⟩
                                    · rw [if_neg c25] at H
                                      exact absurd H (by simp)
                                  · rw [if_neg c24] at H
                                    exact absurd H (by simp)
                              · rw [if_neg c21] at H
                                exact absurd H (by simp)
                            · rw [if_neg c20] at H
                              exact absurd H (by simp)
                          · rw [if_neg c19] at H
                            have c19b0 : ((rd y198 x10_1) == 12) = false := beq_eq_false_iff_ne.mpr c19
                            have c19b1 : ((rd y198 x10_1) != 12) = true := bne_iff_ne.mpr c19
                            (first | rw [c19b0] | (simp only [i64_w, i32_w]; rw [c19b0]) | skip)
                            by_cases c37 : (rd y198 x10_1) = 6
                            · rw [if_pos c37] at H
                              have c37b0 : ((rd y198 x10_1) == 6) = true := beq_iff_eq.mpr c37
                              have c37b1 : ((rd y198 x10_1) != 6) = false := bne_eq_false_iff_eq.mpr c37
                              clear c37
                              by_cases c38 : 1 < (a0.size : Int)
                              · rw [if_pos c38] at H
                                have c38b0 : decide (1 < (a0.size : Int)) = true := decide_eq_true c38
                                have c38b1 : decide (1 < a0.size) = true := decide_eq_true (by omega)
                                clear c38
                                by_cases c40 : (bt a0 1) = 117
                                · rw [if_pos c40] at H
                                  have c40b0 : ((bt a0 1) == 117) = true := beq_iff_eq.mpr c40
                                  have c40b1 : ((bt a0 1) != 117) = false := bne_eq_false_iff_eq.mpr c40
                                  clear c40
                                  by_cases c41 : (rd y198 x10_1) = 2
                                  · rw [if_pos c41] at H
                                    have c41b0 : ((rd y198 x10_1) == 2) = true := beq_iff_eq.mpr c41
                                    have c41b1 : ((rd y198 x10_1) != 2) = false := bne_eq_false_iff_eq.mpr c41
                                    clear c41
                                    have H' := Aside0.mk H
                                    clear H
                                    have p39 : 0 ≤ (1 : Int) := (by omega)
                                    have q39 : 1 < a0.size := (by have : (1 : Int) < (a0.size : Int) := of_decide_eq_true (by first | (with_reducible assumption) | assumption); omega)
                                    have hx39 : ∀ h : 1 < a0.size, ((a0[1]'h).toNat : Int) = bt a0 1 := bt_at a0 1
                                    clear p39
                                    have qi39 : (1 < (a0.size : Int)) = True := eq_true (of_decide_eq_true (by first | (with_reducible assumption) | assumption))
                                    replace q39 := eq_true q39
                                    have p42 : 0 ≤ (1 : Int) := (by omega)
                                    have q42 : 1 < a0.size := (by have : (1 : Int) < (a0.size : Int) := of_decide_eq_true (by first | (with_reducible assumption) | assumption); omega)
                                    have hx42 : ∀ h : 1 < a0.size, ((a0[1]'h).toNat : Int) = bt a0 1 := bt_at a0 1
                                    clear p42
                                    have qi42 : (1 < (a0.size : Int)) = True := eq_true (of_decide_eq_true (by first | (with_reducible assumption) | assumption))
                                    replace q42 := eq_true q42
                                    go_wp2
                                    go_meet
                                    case rel => exact ⟨_, (((bt a0 1) == 117)), (by first | rfl | (simp; done) | (simp [*]; done)), H', ⟨by have := HK1.out; have := HJ7.out; first | omega | exact Nat.le_refl _⟩, ⟨by (with_reducible repeat (first | apply Kd.R_alloc | apply Kd.R_drewN | apply Kd.R_drew)); exact HO_8.out⟩, ⟨by repeat (first | (with_reducible first | exact HB.out | apply below_alloc | apply pw_below_drewN | apply below_drew1) | exact HB.out)⟩⟩
                                  · rw [if_neg c41] at H
                                    have c41b0 : ((rd y198 x10_1) == 2) = false := beq_eq_false_iff_ne.mpr c41
                                    have c41b1 : ((rd y198 x10_1) != 2) = true := bne_iff_ne.mpr c41
                                    have H' := Aside0.mk H
                                    clear H
                                    have p39 : 0 ≤ (1 : Int) := (by omega)
                                    have q39 : 1 < a0.size := (by have : (1 : Int) < (a0.size : Int) := of_decide_eq_true (by first | (with_reducible assumption) | assumption); omega)
                                    have hx39 : ∀ h : 1 < a0.size, ((a0[1]'h).toNat : Int) = bt a0 1 := bt_at a0 1
                                    clear p39
                                    have qi39 : (1 < (a0.size : Int)) = True := eq_true (of_decide_eq_true (by first | (with_reducible assumption) | assumption))
                                    replace q39 := eq_true q39
                                    go_wp2
                                    go_meet
                                    case rel => exact ⟨_, (false), (by first | rfl | (simp; done) | (simp [*]; done)), H', ⟨by have := HK1.out; have := HJ7.out; first | omega | exact Nat.le_refl _⟩, ⟨by (with_reducible repeat (first | apply Kd.R_alloc | apply Kd.R_drewN | apply Kd.R_drew)); exact HO_8.out⟩, ⟨by repeat (first | (with_reducible first | exact HB.out | apply below_alloc | apply pw_below_drewN | apply below_drew1) | exact HB.out)⟩⟩
                                · rw [if_neg c40] at H
                                  have c40b0 : ((bt a0 1) == 117) = false := beq_eq_false_iff_ne.mpr c40
                                  have c40b1 : ((bt a0 1) != 117) = true := bne_iff_ne.mpr c40
                                  have H' := Aside0.mk H
                                  clear H
                                  have p39 : 0 ≤ (1 : Int) := (by omega)
                                  have q39 : 1 < a0.size := (by have : (1 : Int) < (a0.size : Int) := of_decide_eq_true (by first | (with_reducible assumption) | assumption); omega)
                                  have hx39 : ∀ h : 1 < a0.size, ((a0[1]'h).toNat : Int) = bt a0 1 := bt_at a0 1
                                  clear p39
                                  have qi39 : (1 < (a0.size : Int)) = True := eq_true (of_decide_eq_true (by first | (with_reducible assumption) | assumption))
                                  replace q39 := eq_true q39
                                  go_wp2
                                  go_meet
                                  case rel => exact ⟨_, (true), (by first | rfl | (simp; done) | (simp [*]; done)), H', ⟨by have := HK1.out; have := HJ7.out; first | omega | exact Nat.le_refl _⟩, ⟨by (with_reducible repeat (first | apply Kd.R_alloc | apply Kd.R_drewN | apply Kd.R_drew)); exact HO_8.out⟩, ⟨by repeat (first | (with_reducible first | exact HB.out | apply below_alloc | apply pw_below_drewN | apply below_drew1) | exact HB.out)⟩⟩
                              · rw [if_neg c38] at H
                                exact absurd H (by simp)
                            · rw [if_neg c37] at H
                              have c37b0 : ((rd y198 x10_1) == 6) = false := beq_eq_false_iff_ne.mpr c37
                              have c37b1 : ((rd y198 x10_1) != 6) = true := bne_iff_ne.mpr c37
                              by_cases c43 : (rd y198 x10_1) = 2
                              · rw [if_pos c43] at H
                                have c43b0 : ((rd y198 x10_1) == 2) = true := beq_iff_eq.mpr c43
                                have c43b1 : ((rd y198 x10_1) != 2) = false := bne_eq_false_iff_eq.mpr c43
                                clear c43
                                by_cases c44 : 1 < (a0.size : Int)
                                · rw [if_pos c44] at H
                                  have c44b0 : decide (1 < (a0.size : Int)) = true := decide_eq_true c44
                                  have c44b1 : decide (1 < a0.size) = true := decide_eq_true (by omega)
                                  clear c44
                                  have H' := Aside0.mk H
                                  clear H
                                  have p45 : 0 ≤ (1 : Int) := (by omega)
                                  have q45 : 1 < a0.size := (by have : (1 : Int) < (a0.size : Int) := of_decide_eq_true (by first | (with_reducible assumption) | assumption); omega)
                                  have hx45 : ∀ h : 1 < a0.size, ((a0[1]'h).toNat : Int) = bt a0 1 := bt_at a0 1
                                  clear p45
                                  have qi45 : (1 < (a0.size : Int)) = True := eq_true (of_decide_eq_true (by first | (with_reducible assumption) | assumption))
                                  replace q45 := eq_true q45
                                  go_wp2
                                  go_meet
                                  case rel => exact ⟨_, (((bt a0 1) == 117)), (by first | rfl | (simp; done) | (simp [*]; done)), H', ⟨by have := HK1.out; have := HJ7.out; first | omega | exact Nat.le_refl _⟩, ⟨by (with_reducible repeat (first | apply Kd.R_alloc | apply Kd.R_drewN | apply Kd.R_drew)); exact HO_8.out⟩, ⟨by repeat (first | (with_reducible first | exact HB.out | apply below_alloc | apply pw_below_drewN | apply below_drew1) | exact HB.out)⟩⟩
                                · rw [if_neg c44] at H
                                  exact absurd H (by simp)
                              · rw [if_neg c43] at H
                                have c43b0 : ((rd y198 x10_1) == 2) = false := beq_eq_false_iff_ne.mpr c43
                                have c43b1 : ((rd y198 x10_1) != 2) = true := bne_iff_ne.mpr c43
                                have H' := Aside0.mk H
                                clear H
                                go_wp2
                                go_meet
                                case rel => exact ⟨_, (false), (by first | rfl | (simp; done) | (simp [*]; done)), H', ⟨by have := HK1.out; have := HJ7.out; first | omega | exact Nat.le_refl _⟩, ⟨by (with_reducible repeat (first | apply Kd.R_alloc | apply Kd.R_drewN | apply Kd.R_drew)); exact HO_8.out⟩, ⟨by repeat (first | (with_reducible first | exact HB.out | apply below_alloc | apply pw_below_drewN | apply below_drew1) | exact HB.out)⟩⟩
                        · replace c18 := Bool.eq_false_iff.mpr c18
                          subst c18
                          have H1 : (laws_jpEscape.j2 kj7 a0 (rd y198 x10_1) t202 y198 (y198.length : Int) x10_1 true) = some (r1, r2) := by rw [if_neg (show ¬ (false = true) by decide)] at H; exact H
                          clear H
                          have H := H1
                          clear H1
                          have H' := Aside0.mk H
                          clear H
                          go_wp2
                          go_meet
                          case rel => exact ⟨_, (true), (by first | rfl | (simp; done) | (simp [*]; done)), H', ⟨by have := HK1.out; have := HJ7.out; first | omega | exact Nat.le_refl _⟩, ⟨by (with_reducible repeat (first | apply Kd.R_alloc | apply Kd.R_drewN | apply Kd.R_drew)); exact HO_8.out⟩, ⟨by repeat (first | (with_reducible first | exact HB.out | apply below_alloc | apply pw_below_drewN | apply below_drew1) | exact HB.out)⟩⟩
                      case rest =>
                        clear HC16
                        try clear c1
                        try clear p1
                        try clear q1
                        try clear hx1
                        try clear qi1
                        try clear c2
                        try clear p2
                        try clear q2
                        try clear hx2
                        try clear c3
                        try clear p3
                        try clear q3
                        try clear hx3
                        try clear qi3
                        try clear c4
                        try clear p4
                        try clear q4
                        try clear hx4
                        try clear qi4
                        try clear c5
                        try clear c5b0
                        try clear c6
                        try clear c6b0
                        try clear p6
                        try clear c7
                        try clear c7b0
                        try clear c9
                        try clear c9b0
                        try clear c10
                        try clear c10b0
                        try clear c10b1
                        try clear p11
                        try clear q11
                        try clear hx11
                        try clear qi11
                        try clear c12
                        try clear c13
                        try clear c13b0
                        try clear c13b1
                        try clear c14
                        try clear c14b0
                        try clear c14b1
                        try clear c18
                        try clear c19
                        try clear c19b0
                        try clear c19b1
                        try clear c20
                        try clear c20b0
                        try clear c20b1
                        try clear p20
                        try clear q20
                        try clear hx20
                        try clear c21
                        try clear c21b0
                        try clear c21b1
                        try clear c23
                        try clear c24
                        try clear c24b0
                        try clear c24b1
                        try clear c25
                        try clear c25b0
                        try clear c25b1
                        try clear c27
                        try clear c28
                        try clear c28b0
                        try clear c28b1
                        try clear c29
                        try clear c29b0
                        try clear c29b1
                        try clear p30
                        try clear q30
                        try clear hx30
                        try clear qi30
                        try clear c31
                        try clear c31b0
                        try clear c31b1
                        try clear c32
                        try clear c32b0
                        try clear c32b1
                        try clear p33
                        try clear q33
                        try clear hx33
                        try clear qi33
                        try clear c34
                        try clear c34b0
                        try clear c34b1
                        try clear c35
                        try clear c35b0
                        try clear c35b1
                        try clear p36
                        try clear q36
                        try clear hx36
                        try clear qi36
                        try clear c37
                        try clear c37b0
                        try clear c37b1
                        try clear c38
                        try clear c38b0
                        try clear c38b1
                        try clear p39
                        try clear q39
                        try clear hx39
                        try clear qi39
                        try clear c40
                        try clear c40b0
                        try clear c40b1
                        try clear c41
                        try clear c41b0
                        try clear c41b1
                        try clear p42
                        try clear q42
                        try clear hx42
                        try clear qi42
                        try clear c43
                        try clear c43b0
                        try clear c43b1
                        try clear c44
                        try clear c44b0
                        try clear c44b1
                        try clear p45
                        try clear q45
                        try clear hx45
                        try clear qi45
                        try clear hx201_0
                        try clear p1
                        try clear p11
                        try clear p2
                        try clear p201
                        try clear p30
                        try clear p33
                        try clear p36
                        try clear p39
                        try clear p42
                        try clear p45
                        try clear q1
                        try clear q11
                        try clear q2
                        try clear q201
                        try clear q30
                        try clear q33
                        try clear q36
                        try clear q39
                        try clear q42
                        try clear q45
                        obtain ⟨kq, x64_15, rfl, HA, HJ15, HO_8, HB⟩ := hcut
                        cases kq with
                        | zero => exact absurd HA.out (by simp [laws_jpEscape.j2])
                        | succ kj15 =>
                          have H := HA.out
                          clear HA
                          simp only [laws_jpEscape.j2] at H
                          by_cases c46 : x64_15 = true
                          · subst c46
                            have H1 : (laws_jpEscape.l0 kj15 a0 y198 (y198.length : Int) (wrap64 (x10_1 + 1))) = some (r1, r2) := by rw [if_pos rfl] at H; exact H
                            clear H
                            have H := H1
                            clear H1
                            have H' := Aside0.mk H
                            clear H
                            go_wp2
                            go_roundg kj15
                            case measure => have := HK1.out; have := HJ7.out; have := HJ15.out; omega
                            case rel => exact ⟨(wrap64 (x10_1 + 1)), (by first | rfl | (simp; done) | (simp [*]; done)), H', ⟨by have := HK1.out; have := HJ7.out; have := HJ15.out; omega⟩, ⟨by (with_reducible repeat (first | apply Kd.R_alloc | apply Kd.R_drewN | apply Kd.R_drew)); exact HO_8.out⟩, ⟨by repeat (first | (with_reducible first | exact HB.out | apply below_alloc | apply pw_below_drewN | apply below_drew1) | exact HB.out)⟩⟩
                          · replace c46 := Bool.eq_false_iff.mpr c46
                            subst c46
                            have H1 : (if (rd y198 x10_1) = 6 then (if 0 ≤ 6 then (if 6 ≤ (a0.size : Int) then ((spec_Paired.f kj15 (a0.extract 0 6)).bind fun t206 => (if t206 = true then (some ((rd y198 x10_1), t202)) else ((laws_jpTorn.f kj15 (a0.extract 6 a0.size)).bind fun t207 => (if t207 = true then (some ((-1), (⟨#[]⟩ : ByteArray))) else (some ((rd y198 x10_1), t202)))))) else (none)) else (none)) else (some ((rd y198 x10_1), t202))) = some (r1, r2) := by rw [if_neg (show ¬ (false = true) by decide)] at H; exact H
                            clear H
                            have H := H1
                            clear H1
                            by_cases c47 : (rd y198 x10_1) = 6
                            · rw [if_pos c47] at H
                              have c47b0 : ((rd y198 x10_1) == 6) = true := beq_iff_eq.mpr c47
                              have c47b1 : ((rd y198 x10_1) != 6) = false := bne_eq_false_iff_eq.mpr c47
                              clear c47
                              by_cases c48 : 0 ≤ 6
                              · rw [if_pos c48] at H
                                have c48b0 := eq_true c48
                                have c48b1 : decide (0 ≤ 6) = true := decide_eq_true c48
                                clear c48
                                by_cases c49 : 6 ≤ (a0.size : Int)
                                · rw [if_pos c49] at H
                                  have c49b0 := eq_true c49
                                  have c49b1 : decide (6 ≤ (a0.size : Int)) = true := decide_eq_true c49
                                  clear c49
                                  replace H := Option.bind_eq_some_iff.mp H
                                  obtain ⟨t206, A500, H⟩ := H
                                  replace H : (if t206 = true then (some ((rd y198 x10_1), t202)) else ((laws_jpTorn.f kj15 (a0.extract 6 a0.size)).bind fun t207 => (if t207 = true then (some ((-1), (⟨#[]⟩ : ByteArray))) else (some ((rd y198 x10_1), t202))))) = some (r1, r2) := H
                                  have A50 := Aside0.mk A500
                                  clear A500
                                  by_cases c51 : t206 = true
                                  · subst c51
                                    have H1 : (some ((rd y198 x10_1), t202)) = some (r1, r2) := by rw [if_pos rfl] at H; exact H
                                    clear H
                                    have H := H1
                                    clear H1
                                    simp only [Option.some.injEq, Prod.mk.injEq] at H
                                    obtain ⟨rfl, rfl⟩ := H
                                    go_wp2_with (first | (go_at_call 28; (with_reducible refine (spec_Paired.calls kj15 (a0.extract 0 6) true _ A50.out).mono ?_); rintro e w' ⟨rfl, ⟨nd, rfl⟩⟩))
                                    go_ret2
                                    exact ⟨by first | rfl | (simp [errW_none, errW_some] <;> rfl) | (simp [*, errW_none, errW_some] <;> rfl), by repeat (first | (with_reducible first | exact HB.out | apply below_alloc | apply pw_below_drewN | apply below_drew1) | exact HB.out)⟩
                                  · replace c51 := Bool.eq_false_iff.mpr c51
                                    subst c51
                                    have H1 : ((laws_jpTorn.f kj15 (a0.extract 6 a0.size)).bind fun t207 => (if t207 = true then (some ((-1), (⟨#[]⟩ : ByteArray))) else (some ((rd y198 x10_1), t202)))) = some (r1, r2) := by rw [if_neg (show ¬ (false = true) by decide)] at H; exact H
                                    clear H
                                    have H := H1
                                    clear H1
                                    have c52b0 := eq_true (of_decide_eq_true (by first | (with_reducible assumption) | assumption) : 6 ≤ (a0.size : Int))
                                    replace H := Option.bind_eq_some_iff.mp H
                                    obtain ⟨t207, A530, H⟩ := H
                                    replace H : (if t207 = true then (some ((-1), (⟨#[]⟩ : ByteArray))) else (some ((rd y198 x10_1), t202))) = some (r1, r2) := H
                                    have A53 := Aside0.mk A530
                                    clear A530
                                    by_cases c54 : t207 = true
                                    · subst c54
                                      have H1 : (some ((-1), (⟨#[]⟩ : ByteArray))) = some (r1, r2) := by rw [if_pos rfl] at H; exact H
                                      clear H
                                      have H := H1
                                      clear H1
                                      simp only [Option.some.injEq, Prod.mk.injEq] at H
                                      obtain ⟨rfl, rfl⟩ := H
                                      go_wp2_with (first | (go_at_call 28; (with_reducible refine (spec_Paired.calls kj15 (a0.extract 0 6) false _ A50.out).mono ?_); rintro e w' ⟨rfl, ⟨nd, rfl⟩⟩) | (go_at_call 11; (with_reducible refine (laws_jpTorn.calls kj15 (a0.extract 6 a0.size) true _ A53.out).mono ?_); rintro e w55 ⟨rfl, hb⟩; have n0_ := Aside0.mk (Kd.R_below (by (with_reducible repeat (first | apply Kd.R_alloc | apply Kd.R_drewN | apply Kd.R_drew)); exact HO_8.out) hb); have n1_ := Aside0.mk (below_step (by repeat (first | (with_reducible first | exact HB.out | apply below_alloc | apply pw_below_drewN | apply below_drew1) | exact HB.out)) hb); clear HO_8; clear HB; have HO_8 := n0_; have HB := n1_; clear n0_ n1_; (try clear hb); (try clear hb2); (try clear hk); (try clear hi)))
                                      go_ret2
                                      exact ⟨by first | rfl | (simp [errW_none, errW_some] <;> rfl) | (simp [*, errW_none, errW_some] <;> rfl), by repeat (first | (with_reducible first | exact HB.out | apply below_alloc | apply pw_below_drewN | apply below_drew1) | exact HB.out)⟩
                                    · replace c54 := Bool.eq_false_iff.mpr c54
                                      subst c54
                                      have H1 : (some ((rd y198 x10_1), t202)) = some (r1, r2) := by rw [if_neg (show ¬ (false = true) by decide)] at H; exact H
                                      clear H
                                      have H := H1
                                      clear H1
                                      simp only [Option.some.injEq, Prod.mk.injEq] at H
                                      obtain ⟨rfl, rfl⟩ := H
                                      go_wp2_with (first | (go_at_call 28; (with_reducible refine (spec_Paired.calls kj15 (a0.extract 0 6) false _ A50.out).mono ?_); rintro e w' ⟨rfl, ⟨nd, rfl⟩⟩) | (go_at_call 11; (with_reducible refine (laws_jpTorn.calls kj15 (a0.extract 6 a0.size) false _ A53.out).mono ?_); rintro e w56 ⟨rfl, hb⟩; have n0_ := Aside0.mk (Kd.R_below (by (with_reducible repeat (first | apply Kd.R_alloc | apply Kd.R_drewN | apply Kd.R_drew)); exact HO_8.out) hb); have n1_ := Aside0.mk (below_step (by repeat (first | (with_reducible first | exact HB.out | apply below_alloc | apply pw_below_drewN | apply below_drew1) | exact HB.out)) hb); clear HO_8; clear HB; have HO_8 := n0_; have HB := n1_; clear n0_ n1_; (try clear hb); (try clear hb2); (try clear hk); (try clear hi)))
                                      go_ret2
                                      exact ⟨by first | rfl | (simp [errW_none, errW_some] <;> rfl) | (simp [*, errW_none, errW_some] <;> rfl), by repeat (first | (with_reducible first | exact HB.out | apply below_alloc | apply pw_below_drewN | apply below_drew1) | exact HB.out)⟩
                                · rw [if_neg c49] at H
                                  exact absurd H (by simp)
                              · rw [if_neg c48] at H
                                exact absurd H (by simp)
                            · rw [if_neg c47] at H
                              have c47b0 : ((rd y198 x10_1) == 6) = false := beq_eq_false_iff_ne.mpr c47
                              have c47b1 : ((rd y198 x10_1) != 6) = true := bne_iff_ne.mpr c47
                              simp only [Option.some.injEq, Prod.mk.injEq] at H
                              obtain ⟨rfl, rfl⟩ := H
                              go_wp2
                              go_ret2
                              exact ⟨by first | rfl | (simp [errW_none, errW_some] <;> rfl) | (simp [*, errW_none, errW_some] <;> rfl), by repeat (first | (with_reducible first | exact HB.out | apply below_alloc | apply pw_below_drewN | apply below_drew1) | exact HB.out)⟩
                    · rw [if_neg c14] at H
                      exact absurd H (by simp)
                  · rw [if_neg c13] at H
                    exact absurd H (by simp)
          · rw [if_neg c7] at H
            exact absurd H (by simp)
        · rw [if_neg c6] at H
          exact absurd H (by simp)
      · rw [if_neg c5] at H
        have c5b0 : decide (x10_1 < (y198.length : Int)) = false := decide_eq_false c5
        clear c5
        simp only [Option.some.injEq, Prod.mk.injEq] at H
        obtain ⟨rfl, rfl⟩ := H
        go_wp2
        go_ret2
        exact ⟨by first | rfl | (simp [errW_none, errW_some] <;> rfl) | (simp [*, errW_none, errW_some] <;> rfl), by repeat (first | (with_reducible first | exact HB.out | apply below_alloc | apply pw_below_drewN | apply below_drew1) | exact HB.out)⟩

end Go.Proofs.YtdllbnecbbggfaaDoor.XFnJpEscapeAt
