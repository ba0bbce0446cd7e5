-- Written by xprint.py of this session (a program that runs the kit's print and adds to it); Lean checks it.
import Derived.Test.YtdllbnecbbggfaaDoorXFnGjQuoteValidx0
import Derived.Test.YtdllbnecbbggfaaDoorXFnGjQuoteValidx5
namespace Go.Proofs.YtdllbnecbbggfaaDoor.XFnGjQuoteValid
open Go.RowKit Go.Proofs.YtdllbnecbbggfaaDoorW.PrintWords Go.Proofs.YtdllbnecbbggfaaDoorW.PrintLast Go.Proofs.YtdllbnecbbggfaaDoorW.PrintMore
attribute [local go_sem] max2_int min2_int max_two min_two max_three min_three max_four min_four   -- for this text's walks alone
set_option linter.unusedVariables false
set_option linter.unusedSimpArgs false

/-! ### spec_Tree: function 43 -/
mutual
def spec_Tree.j0 : Nat → ByteArray → Int → Int → Int → List (S87) → List (S56) → Int → ByteArray → Option (Int × ByteArray × List ByteArray × (List (S36)))
  | 0, _, _, _, _, _, _, _, _ => none
  | k + 1, x0, x229000, x229001, x229002, x229003, x229004, x231000, x231001 => spec_Tree.l0 k x0 0 x229000 x229001 x229002 x229003 x229004 x231000 x231001 ([] : List ByteArray)
def spec_Tree.l0 : Nat → ByteArray → Int → Int → Int → Int → List (S87) → List (S56) → Int → ByteArray → List ByteArray → Option (Int × ByteArray × List ByteArray × (List (S36)))
  | 0, _, _, _, _, _, _, _, _, _, _ => none
  | k + 1, x0, x6, x229000, x229001, x229002, x229003, x229004, x231000, x231001, x231002 => if x6 < (x229003.length : Int) then (if 0 ≤ x6 then (if 0 ≤ ((rd_T87 x229003 x6).f0) then (if ((rd_T87 x229003 x6).f0) ≤ ((rd_T87 x229003 x6).f1) then (if ((rd_T87 x229003 x6).f1) ≤ (x0.size : Int) then ((spec_Unquote.f k (x0.extract (((rd_T87 x229003 x6).f0) : Int).toNat (((rd_T87 x229003 x6).f1) : Int).toNat)).bind fun t234 => (if x231002.length < 8796093022208 then (spec_Tree.l0 k x0 (wrap64 (x6 + 1)) x229000 x229001 x229002 x229003 x229004 x231000 x231001 (x231002 ++ [t234])) else (none))) else (none)) else (none)) else (none)) else (none)) else (spec_Tree.l1 k x0 0 x229000 x229001 x229002 x229003 x229004 x231000 x231001 x231002 ([] : List (S36)))
def spec_Tree.l1 : Nat → ByteArray → Int → Int → Int → Int → List (S87) → List (S56) → Int → ByteArray → List ByteArray → List (S36) → Option (Int × ByteArray × List ByteArray × (List (S36)))
  | 0, _, _, _, _, _, _, _, _, _, _, _ => none
  | k + 1, x0, x7, x229000, x229001, x229002, x229003, x229004, x231000, x231001, x231002, x231003 => if x7 < (x229004.length : Int) then (if 0 ≤ x7 then ((spec_Tree.f k x0 ((rd_T56 x229004 x7).f0) ((rd_T56 x229004 x7).f1) ((rd_T56 x229004 x7).f2) ((rd_T56 x229004 x7).f3) ((rd_T56 x229004 x7).f4)).bind fun bt239 => (if x231003.length < 1954687338268 then (spec_Tree.l1 k x0 (wrap64 (x7 + 1)) x229000 x229001 x229002 x229003 x229004 x231000 x231001 x231002 (x231003 ++ [(⟨bt239.1, bt239.2.1, bt239.2.2.1, bt239.2.2.2⟩ : S36)])) else (none))) else (none)) else (some (x231000, x231001, x231002, x231003))
def spec_Tree.f : Nat → ByteArray → Int → Int → Int → List (S87) → List (S56) → Option (Int × ByteArray × List ByteArray × (List (S36)))
  | 0, _, _, _, _, _, _ => none
  | k + 1, a0, a1_0, a1_1, a1_2, l1_3, l1_4 => if a1_0 = 3 then (if 0 ≤ a1_1 then (if a1_1 ≤ a1_2 then (if a1_2 ≤ (a0.size : Int) then (spec_Tree.j0 k a0 a1_0 a1_1 a1_2 l1_3 l1_4 a1_0 (a0.extract (a1_1 : Int).toNat (a1_2 : Int).toNat)) else (none)) else (none)) else (none)) else (if a1_0 = 4 then (if 0 ≤ a1_1 then (if a1_1 ≤ a1_2 then (if a1_2 ≤ (a0.size : Int) then ((spec_Unquote.f k (a0.extract (a1_1 : Int).toNat (a1_2 : Int).toNat)).bind fun t231 => (spec_Tree.j0 k a0 a1_0 a1_1 a1_2 l1_3 l1_4 a1_0 t231)) else (none)) else (none)) else (none)) else (spec_Tree.j0 k a0 a1_0 a1_1 a1_2 l1_3 l1_4 a1_0 (⟨#[]⟩ : ByteArray)))
end
theorem spec_Tree.mono_l : ∀ k, (∀ y0 y1 y2 y3 y4 y5, LeO (spec_Tree.f k y0 y1 y2 y3 y4 y5) (spec_Tree.f (k + 1) y0 y1 y2 y3 y4 y5)) ∧ (∀ y0 y1 y2 y3 y4 y5 y6 y7, LeO (spec_Tree.j0 k y0 y1 y2 y3 y4 y5 y6 y7) (spec_Tree.j0 (k + 1) y0 y1 y2 y3 y4 y5 y6 y7)) ∧ (∀ y0 y1 y2 y3 y4 y5 y6 y7 y8 y9, LeO (spec_Tree.l0 k y0 y1 y2 y3 y4 y5 y6 y7 y8 y9) (spec_Tree.l0 (k + 1) y0 y1 y2 y3 y4 y5 y6 y7 y8 y9)) ∧ (∀ y0 y1 y2 y3 y4 y5 y6 y7 y8 y9 y10, LeO (spec_Tree.l1 k y0 y1 y2 y3 y4 y5 y6 y7 y8 y9 y10) (spec_Tree.l1 (k + 1) y0 y1 y2 y3 y4 y5 y6 y7 y8 y9 y10))
  | 0 => ⟨fun _ _ _ _ _ _ r h => by simp [spec_Tree.f] at h, fun _ _ _ _ _ _ _ _ r h => by simp [spec_Tree.j0] at h, fun _ _ _ _ _ _ _ _ _ _ r h => by simp [spec_Tree.l0] at h, fun _ _ _ _ _ _ _ _ _ _ _ r h => by simp [spec_Tree.l1] at h⟩
  | k + 1 => by
    obtain ⟨ih0, ih1, ih2, ih3⟩ := spec_Tree.mono_l k
    refine ⟨?_, ?_, ?_, ?_⟩
    · intro y0 y1 y2 y3 y4 y5
      unfold spec_Tree.f
      repeat' first
      | (with_reducible exact ih0 _ _ _ _ _ _)
      | (with_reducible exact ih1 _ _ _ _ _ _ _ _)
      | (with_reducible exact ih2 _ _ _ _ _ _ _ _ _ _)
      | (with_reducible exact ih3 _ _ _ _ _ _ _ _ _ _ _)
      | (with_reducible exact spec_Unquote.mono _ _)
      | (with_reducible exact LeO.refl _)
      | (with_reducible exact LeO.none _)
      | (with_reducible refine LeO.ite ?_ ?_)
      | (with_reducible refine LeO.bind ?_ (fun _ => ?_))
      | exact ih0 _ _ _ _ _ _
      | exact ih1 _ _ _ _ _ _ _ _
      | exact ih2 _ _ _ _ _ _ _ _ _ _
      | exact ih3 _ _ _ _ _ _ _ _ _ _ _
      | exact spec_Unquote.mono _ _
      | exact LeO.none _
      | refine LeO.ite ?_ ?_
      | refine LeO.bind ?_ (fun _ => ?_)
    · intro y0 y1 y2 y3 y4 y5 y6 y7
      unfold spec_Tree.j0
      repeat' first
      | (with_reducible exact ih0 _ _ _ _ _ _)
      | (with_reducible exact ih1 _ _ _ _ _ _ _ _)
      | (with_reducible exact ih2 _ _ _ _ _ _ _ _ _ _)
      | (with_reducible exact ih3 _ _ _ _ _ _ _ _ _ _ _)
      | (with_reducible exact spec_Unquote.mono _ _)
      | (with_reducible exact LeO.refl _)
      | (with_reducible exact LeO.none _)
      | (with_reducible refine LeO.ite ?_ ?_)
      | (with_reducible refine LeO.bind ?_ (fun _ => ?_))
      | exact ih0 _ _ _ _ _ _
      | exact ih1 _ _ _ _ _ _ _ _
      | exact ih2 _ _ _ _ _ _ _ _ _ _
      | exact ih3 _ _ _ _ _ _ _ _ _ _ _
      | exact spec_Unquote.mono _ _
      | exact LeO.none _
      | refine LeO.ite ?_ ?_
      | refine LeO.bind ?_ (fun _ => ?_)
    · intro y0 y1 y2 y3 y4 y5 y6 y7 y8 y9
      unfold spec_Tree.l0
      repeat' first
      | (with_reducible exact ih0 _ _ _ _ _ _)
      | (with_reducible exact ih1 _ _ _ _ _ _ _ _)
      | (with_reducible exact ih2 _ _ _ _ _ _ _ _ _ _)
      | (with_reducible exact ih3 _ _ _ _ _ _ _ _ _ _ _)
      | (with_reducible exact spec_Unquote.mono _ _)
      | (with_reducible exact LeO.refl _)
      | (with_reducible exact LeO.none _)
      | (with_reducible refine LeO.ite ?_ ?_)
      | (with_reducible refine LeO.bind ?_ (fun _ => ?_))
      | exact ih0 _ _ _ _ _ _
      | exact ih1 _ _ _ _ _ _ _ _
      | exact ih2 _ _ _ _ _ _ _ _ _ _
      | exact ih3 _ _ _ _ _ _ _ _ _ _ _
      | exact spec_Unquote.mono _ _
      | exact LeO.none _
      | refine LeO.ite ?_ ?_
      | refine LeO.bind ?_ (fun _ => ?_)
    · intro y0 y1 y2 y3 y4 y5 y6 y7 y8 y9 y10
      unfold spec_Tree.l1
      repeat' first
      | (with_reducible exact ih0 _ _ _ _ _ _)
      | (with_reducible exact ih1 _ _ _ _ _ _ _ _)
      | (with_reducible exact ih2 _ _ _ _ _ _ _ _ _ _)
      | (with_reducible exact ih3 _ _ _ _ _ _ _ _ _ _ _)
      | (with_reducible exact spec_Unquote.mono _ _)
      | (with_reducible exact LeO.refl _)
      | (with_reducible exact LeO.none _)
      | (with_reducible refine LeO.ite ?_ ?_)
      | (with_reducible refine LeO.bind ?_ (fun _ => ?_))
      | exact ih0 _ _ _ _ _ _
      | exact ih1 _ _ _ _ _ _ _ _
      | exact ih2 _ _ _ _ _ _ _ _ _ _
      | exact ih3 _ _ _ _ _ _ _ _ _ _ _
      | exact spec_Unquote.mono _ _
      | exact LeO.none _
      | refine LeO.ite ?_ ?_
      | refine LeO.bind ?_ (fun _ => ?_)
theorem spec_Tree.mono : ∀ a0 a1 a2 a3 a4 a5 k, LeO (spec_Tree.f k a0 a1 a2 a3 a4 a5) (spec_Tree.f (k + 1) a0 a1 a2 a3 a4 a5) := by
  intro a0 a1 a2 a3 a4 a5 k
  obtain ⟨ih0, ih1, ih2, ih3⟩ := spec_Tree.mono_l k
  exact ih0 a0 a1 a2 a3 a4 a5
def spec_Tree.T10 : Bool × List (List Nat × List Nat) := (true, [([], []), ([0], [0]), ([], []), ([], []), ([3], [3]), ([], []), ([4, 5], [4, 5]), ([6], [6]), ([7], [7]), ([], []), ([9], [9]), ([], []), ([10, 11], [10, 11]), ([12], [12]), ([13], [13]), ([2, 8, 14], [2, 8, 14]), ([15], [15]), ([16], [16]), ([1, 17, 16], [1, 17]), ([0, 1, 2, 3, 4, 5, 6, 7, 8, 9, 10, 11, 12, 13, 14, 15, 16, 17, 18], []), ([19, 18, 18, 0, 1, 2, 3, 4, 5, 6, 7, 8, 9, 10, 11, 12, 13, 14, 15, 16, 17, 18], [18, 19])])
def spec_Tree.B10 : List Nat := [0, 1, 0, 0, 8, 0, 56, 120, 248, 0, 512, 0, 3584, 7680, 15872, 32764, 65532, 131068, 262143, 524287, 1048575]
theorem spec_Tree.tab10 : rtab .any (opsOf Tryd.f43 10) = spec_Tree.T10 := by kernel_rfl
theorem spec_Tree.bits10 : waitsOk spec_Tree.T10.2 spec_Tree.B10 = true := by kernel_rfl
def spec_Tree.T14 : Bool × List (List Nat × List Nat) := (true, [([], []), ([0], [0]), ([], []), ([], []), ([3], [3]), ([], []), ([4, 5], [4, 5]), ([6], [6]), ([2, 7], [2, 7]), ([8], [8]), ([1, 9, 8], [1, 9]), ([0, 1, 2, 3, 4, 5, 6, 7, 8, 9, 10], []), ([11, 10, 10, 0, 1, 2, 3, 4, 5, 6, 7, 8, 9, 10], [10, 11])])
def spec_Tree.B14 : List Nat := [0, 1, 0, 0, 8, 0, 56, 120, 252, 508, 1023, 2047, 4095]
theorem spec_Tree.tab14 : rtab .any (opsOf Tryd.f43 14) = spec_Tree.T14 := by kernel_rfl
theorem spec_Tree.bits14 : waitsOk spec_Tree.T14.2 spec_Tree.B14 = true := by kernel_rfl
set_option maxHeartbeats 8000000 in
set_option maxRecDepth 100000 in
theorem spec_Tree.calls (k : Nat) : ∀ (a0 : ByteArray) (a1_0 : Int) (a1_1 : Int) (a1_2 : Int) (A1_3 : Option Addr) (c1_3 : Nat) (l1_3 : List (S87)) (A1_4 : Option Addr) (c1_4 : Nat) (l1_4 : List (S56)) (r1 : Int) (r2 : ByteArray) (r3 : List ByteArray) (r4 : List (S36)) (w : World) (hr1_3 : Kd.C k87 w A1_3 l1_3.length l1_3) (hc1_3 : l1_3.length ≤ c1_3) (hr1_4 : Kd.C k56 w A1_4 l1_4.length l1_4) (hc1_4 : l1_4.length ≤ c1_4) (h : spec_Tree.f k a0 a1_0 a1_1 a1_2 l1_3 l1_4 = some (r1, r2, r3, r4)),
    Calls Tryd.prog 43 #[.string a0, .agg #[.int .i64 a1_0, .int .i64 a1_1, .int .i64 a1_2, .slice A1_3 l1_3.length c1_3, .slice A1_4 l1_4.length c1_4]] w fun e w' => ∃ v2_ v3_ : Value, e = .returned (.agg #[.int .i64 r1, .string r2, v2_, v3_]) ∧ Kd.R Kd.string 9 w' w.heap.size (fun _ => True) v2_ r3 ∧ Kd.R k36 36 w' w.heap.size (fun k_ => some k_ ≠ (v2_ : Value).ownBlock) v3_ r4 ∧ Below w.heap.size w w' := by
  induction k using Nat.strongRecOn with
  | _ k ih =>
  intro a0 a1_0 a1_1 a1_2 A1_3 c1_3 l1_3 A1_4 c1_4 l1_4 r1 r2 r3 r4 w hr1_3 hc1_3 hr1_4 hc1_4 h
  cases k with
  | zero => exact absurd h (by simp [spec_Tree.f])
  | succ k =>
  simp only [spec_Tree.f] at h
  have hu56 := Tryd.underlying56
  have hu36 := Tryd.underlying36
  have HR1_3 := Aside0.mk hr1_3
  have HC1_3 := Aside0.mk hc1_3
  clear hr1_3 hc1_3
  have HR1_4 := Aside0.mk hr1_4
  have HC1_4 := Aside0.mk hc1_4
  clear hr1_4 hc1_4
  have HB := Aside0.mk (Below.refl w.heap.size w)
  have H : (if a1_0 = 3 then (if 0 ≤ a1_1 then (if a1_1 ≤ a1_2 then (if a1_2 ≤ (a0.size : Int) then (spec_Tree.j0 k a0 a1_0 a1_1 a1_2 l1_3 l1_4 a1_0 (a0.extract (a1_1 : Int).toNat (a1_2 : Int).toNat)) else (none)) else (none)) else (none)) else (if a1_0 = 4 then (if 0 ≤ a1_1 then (if a1_1 ≤ a1_2 then (if a1_2 ≤ (a0.size : Int) then ((spec_Unquote.f k (a0.extract (a1_1 : Int).toNat (a1_2 : Int).toNat)).bind fun t231 => (spec_Tree.j0 k a0 a1_0 a1_1 a1_2 l1_3 l1_4 a1_0 t231)) else (none)) else (none)) else (none)) else (spec_Tree.j0 k a0 a1_0 a1_1 a1_2 l1_3 l1_4 a1_0 (⟨#[]⟩ : ByteArray)))) = some (r1, r2, r3, r4) := h
  clear h
  have HC3 := Aside0.mk H
  clear H
  go_enter Tryd.func43, Tryd.ntmps43
  go_upto_block 0 with (first | ((with_reducible refine gate_dst (N := 3) rfl ?_); refine box_event ?hg (N := 3) ?hd (cs := #[.int .i64 a1_0, .int .i64 a1_1, .int .i64 a1_2, .slice A1_3 l1_3.length c1_3, .slice A1_4 l1_4.length c1_4]) (t := 56) ?hr ?_; (case hd => rfl); (case hg => rfl); (case hr => first | (go_simp; done) | (go_simp; rfl)); intro gb228 hg w4 hbox hb; have n0_ := Aside0.mk (below_step (by repeat (first | (with_reducible first | exact HB.out | apply below_alloc | apply pw_below_drewN | apply below_drew1) | exact HB.out)) hb); have n1_ := Aside0.mk (hbox); have n2_ := Aside0.mk ((by rw [hg]; exact (below_size (by repeat (first | (with_reducible first | exact HB.out | apply below_alloc | apply pw_below_drewN | apply below_drew1) | exact HB.out))) : w.heap.size ≤ gb228)); have n3_ := Aside0.mk ((by rw [hg]; exact (below_size (by repeat (first | (with_reducible first | exact HB.out | apply below_alloc | apply pw_below_drewN | apply below_drew1) | exact HB.out))) : w.heap.size ≤ gb228)); clear HB; have HB := n0_; have BK228 := n1_; have GW228 := n2_; have GE228 := n3_; clear n0_ n1_ n2_ n3_; clear hb hbox hg) | ((with_reducible refine gate_dst (N := 4) rfl ?_); refine box_event ?hg (N := 4) ?hd (cs := #[.int .i64 0, .string (⟨#[]⟩ : ByteArray), .slice none 0 0, .slice none 0 0]) (t := 36) ?hr ?_; (case hd => rfl); (case hg => rfl); (case hr => first | (go_simp; done) | (go_simp; rfl)); intro gb229 hg w5 hbox hb; have n0_ := Aside0.mk (blk_below (g := gb228) (o := .cells #[.int .i64 a1_0, .int .i64 a1_1, .int .i64 a1_2, .slice A1_3 l1_3.length c1_3, .slice A1_4 l1_4.length c1_4] 56 (0, 0)) (by (with_reducible repeat (first | refine blk_drewN ?_ _ | refine blk_drew ?_ | refine blk_alloc ?_ _)); exact BK228.out) hb); have n1_ := Aside0.mk (below_step (by repeat (first | (with_reducible first | exact HB.out | apply below_alloc | apply pw_below_drewN | apply below_drew1 | refine below_set ?_ GE228.out) | exact HB.out)) hb); have n2_ := Aside0.mk (hbox); have n3_ := Aside0.mk ((by rw [hg]; exact (below_size (by repeat (first | (with_reducible first | exact HB.out | apply below_alloc | apply pw_below_drewN | apply below_drew1 | refine below_set ?_ GE228.out) | exact HB.out))) : w.heap.size ≤ gb229)); have n4_ := Aside0.mk ((by rw [hg]; exact (below_size (by repeat (first | (with_reducible first | exact HB.out | apply below_alloc | apply pw_below_drewN | apply below_drew1 | refine below_set ?_ GE228.out) | exact HB.out))) : w.heap.size ≤ gb229)); have n5_ := Aside0.mk ((by rw [hg]; exact Nat.ne_of_lt (blk_lt (g := gb228) (o := .cells #[.int .i64 a1_0, .int .i64 a1_1, .int .i64 a1_2, .slice A1_3 l1_3.length c1_3, .slice A1_4 l1_4.length c1_4] 56 (0, 0)) (by (with_reducible repeat (first | refine blk_drewN ?_ _ | refine blk_drew ?_ | refine blk_alloc ?_ _)); exact BK228.out)) : gb228 ≠ gb229)); have n6_ := Aside0.mk ((by rw [hg]; exact Nat.ne_of_gt (blk_lt (g := gb228) (o := .cells #[.int .i64 a1_0, .int .i64 a1_1, .int .i64 a1_2, .slice A1_3 l1_3.length c1_3, .slice A1_4 l1_4.length c1_4] 56 (0, 0)) (by (with_reducible repeat (first | refine blk_drewN ?_ _ | refine blk_drew ?_ | refine blk_alloc ?_ _)); exact BK228.out)) : gb229 ≠ gb228)); clear BK228; clear HB; have BK228 := n0_; have HB := n1_; have BK229 := n2_; have GW229 := n3_; have GE229 := n4_; have NB228_229 := n5_; have NB229_228 := n6_; clear n0_ n1_ n2_ n3_ n4_ n5_ n6_; clear hb hbox hg; have hnb6 := NB228_229.out; have hnc6 := NB229_228.out; have hcz7_0 : w5.cell? ⟨gb228, 0, none⟩ = some (.int .i64 a1_0) := (blk_cell BK228.out 0).trans rfl; have hcz7_1 : w5.cell? ⟨gb228, 1, none⟩ = some (.int .i64 a1_1) := (blk_cell BK228.out 1).trans rfl; have hcz7_2 : w5.cell? ⟨gb228, 2, none⟩ = some (.int .i64 a1_2) := (blk_cell BK228.out 2).trans rfl; have hcz7_3 : w5.cell? ⟨gb228, 3, none⟩ = some (.slice A1_3 l1_3.length c1_3) := (blk_cell BK228.out 3).trans rfl; have hcz7_4 : w5.cell? ⟨gb228, 4, none⟩ = some (.slice A1_4 l1_4.length c1_4) := (blk_cell BK228.out 4).trans rfl; have hfz7_0 := blk_frozen BK228.out 0; have hfz7_1 := blk_frozen BK228.out 1; have hfz7_2 := blk_frozen BK228.out 2; have hfz7_3 := blk_frozen BK228.out 3; have hfz7_4 := blk_frozen BK228.out 4) | ((with_reducible refine gate_dst (N := 5) rfl ?_); refine box_event ?hg (N := 5) ?hd (cs := #[.int .i64 0, .string (⟨#[]⟩ : ByteArray), .slice none 0 0, .slice none 0 0]) (t := 36) ?hr ?_; (case hd => rfl); (case hg => rfl); (case hr => first | (go_simp; done) | (go_simp; rfl)); intro gb230 hg w8 hbox hb; have n0_ := Aside0.mk (blk_below (g := gb228) (o := .cells #[.int .i64 a1_0, .int .i64 a1_1, .int .i64 a1_2, .slice A1_3 l1_3.length c1_3, .slice A1_4 l1_4.length c1_4] 56 (0, 0)) (by (with_reducible repeat (first | refine blk_drewN ?_ _ | refine blk_drew ?_ | refine blk_alloc ?_ _)); exact BK228.out) hb); have n1_ := Aside0.mk (blk_below (g := gb229) (o := .cells #[.int .i64 0, .string (⟨#[]⟩ : ByteArray), .slice none 0 0, .slice none 0 0] 36 (0, 0)) (by (with_reducible repeat (first | refine blk_drewN ?_ _ | refine blk_drew ?_ | refine blk_alloc ?_ _)); exact BK229.out) hb); have n2_ := Aside0.mk (below_step (by repeat (first | (with_reducible first | exact HB.out | apply below_alloc | apply pw_below_drewN | apply below_drew1 | refine below_set ?_ GE228.out | refine below_set ?_ GE229.out) | exact HB.out)) hb); have n3_ := Aside0.mk (hbox); have n4_ := Aside0.mk ((by rw [hg]; exact (below_size (by repeat (first | (with_reducible first | exact HB.out | apply below_alloc | apply pw_below_drewN | apply below_drew1 | refine below_set ?_ GE228.out | refine below_set ?_ GE229.out) | exact HB.out))) : w.heap.size ≤ gb230)); have n5_ := Aside0.mk ((by rw [hg]; exact (below_size (by repeat (first | (with_reducible first | exact HB.out | apply below_alloc | apply pw_below_drewN | apply below_drew1 | refine below_set ?_ GE228.out | refine below_set ?_ GE229.out) | exact HB.out))) : w.heap.size ≤ gb230)); have n6_ := Aside0.mk ((by rw [hg]; exact Nat.ne_of_lt (blk_lt (g := gb228) (o := .cells #[.int .i64 a1_0, .int .i64 a1_1, .int .i64 a1_2, .slice A1_3 l1_3.length c1_3, .slice A1_4 l1_4.length c1_4] 56 (0, 0)) (by (with_reducible repeat (first | refine blk_drewN ?_ _ | refine blk_drew ?_ | refine blk_alloc ?_ _)); exact BK228.out)) : gb228 ≠ gb230)); have n7_ := Aside0.mk ((by rw [hg]; exact Nat.ne_of_gt (blk_lt (g := gb228) (o := .cells #[.int .i64 a1_0, .int .i64 a1_1, .int .i64 a1_2, .slice A1_3 l1_3.length c1_3, .slice A1_4 l1_4.length c1_4] 56 (0, 0)) (by (with_reducible repeat (first | refine blk_drewN ?_ _ | refine blk_drew ?_ | refine blk_alloc ?_ _)); exact BK228.out)) : gb230 ≠ gb228)); have n8_ := Aside0.mk ((by rw [hg]; exact Nat.ne_of_lt (blk_lt (g := gb229) (o := .cells #[.int .i64 0, .string (⟨#[]⟩ : ByteArray), .slice none 0 0, .slice none 0 0] 36 (0, 0)) (by (with_reducible repeat (first | refine blk_drewN ?_ _ | refine blk_drew ?_ | refine blk_alloc ?_ _)); exact BK229.out)) : gb229 ≠ gb230)); have n9_ := Aside0.mk ((by rw [hg]; exact Nat.ne_of_gt (blk_lt (g := gb229) (o := .cells #[.int .i64 0, .string (⟨#[]⟩ : ByteArray), .slice none 0 0, .slice none 0 0] 36 (0, 0)) (by (with_reducible repeat (first | refine blk_drewN ?_ _ | refine blk_drew ?_ | refine blk_alloc ?_ _)); exact BK229.out)) : gb230 ≠ gb229)); clear BK228; clear BK229; clear HB; have BK228 := n0_; have BK229 := n1_; have HB := n2_; have BK230 := n3_; have GW230 := n4_; have GE230 := n5_; have NB228_230 := n6_; have NB230_228 := n7_; have NB229_230 := n8_; have NB230_229 := n9_; clear n0_ n1_ n2_ n3_ n4_ n5_ n6_ n7_ n8_ n9_; clear hb hbox hg; have hnb9 := NB230_228.out; have hnc9 := NB228_230.out; have hnb10 := NB230_229.out; have hnc10 := NB229_230.out; have hcz11_0 : w8.cell? ⟨gb230, 0, none⟩ = some (.int .i64 0) := (blk_cell BK230.out 0).trans rfl; have hcz11_1 : w8.cell? ⟨gb230, 1, none⟩ = some (.string (⟨#[]⟩ : ByteArray)) := (blk_cell BK230.out 1).trans rfl; have hcz11_2 : w8.cell? ⟨gb230, 2, none⟩ = some (.slice none 0 0) := (blk_cell BK230.out 2).trans rfl; have hcz11_3 : w8.cell? ⟨gb230, 3, none⟩ = some (.slice none 0 0) := (blk_cell BK230.out 3).trans rfl; have hfz11_0 := blk_frozen BK230.out 0; have hfz11_1 := blk_frozen BK230.out 1; have hfz11_2 := blk_frozen BK230.out 2; have hfz11_3 := blk_frozen BK230.out 3; have hcz12_0 : w8.cell? ⟨gb228, 0, none⟩ = some (.int .i64 a1_0) := (blk_cell BK228.out 0).trans rfl; have hcz12_1 : w8.cell? ⟨gb228, 1, none⟩ = some (.int .i64 a1_1) := (blk_cell BK228.out 1).trans rfl; have hcz12_2 : w8.cell? ⟨gb228, 2, none⟩ = some (.int .i64 a1_2) := (blk_cell BK228.out 2).trans rfl; have hcz12_3 : w8.cell? ⟨gb228, 3, none⟩ = some (.slice A1_3 l1_3.length c1_3) := (blk_cell BK228.out 3).trans rfl; have hcz12_4 : w8.cell? ⟨gb228, 4, none⟩ = some (.slice A1_4 l1_4.length c1_4) := (blk_cell BK228.out 4).trans rfl; have hfz12_0 := blk_frozen BK228.out 0; have hfz12_1 := blk_frozen BK228.out 1; have hfz12_2 := blk_frozen BK228.out 2; have hfz12_3 := blk_frozen BK228.out 3; have hfz12_4 := blk_frozen BK228.out 4))
  (try simp only [Act.put, List.setIfInBounds_toArray, List.set_cons_zero, List.set_cons_succ])
  go_cut [] (fun wc => ∃ (kq : Nat) (x231001_2 : ByteArray), Aside0 (spec_Tree.j0 kq a0 a1_0 a1_1 a1_2 l1_3 l1_4 a1_0 x231001_2 = some (r1, r2, r3, r4)) ∧ Aside0 (kq ≤ k) ∧ Aside0 (wc.heap[gb228]? = some (.cells #[.int .i64 a1_0, .int .i64 a1_1, .int .i64 a1_2, (.slice A1_3 l1_3.length c1_3), (.slice A1_4 l1_4.length c1_4)] 56 (0, 0))) ∧ Aside0 (wc.heap[gb229]? = some (.cells #[.int .i64 0, .string (⟨#[]⟩ : ByteArray), (.slice none 0 0), (.slice none 0 0)] 36 (0, 0))) ∧ Aside0 (wc.heap[gb230]? = some (.cells #[.int .i64 a1_0, .string x231001_2, (.slice none 0 0), (.slice none 0 0)] 36 (0, 0))) ∧ Aside0 (Below w.heap.size w wc))
  case first =>
    have H := HC3.out
    clear HC3
    by_cases c13 : a1_0 = 3
    · rw [if_pos c13] at H
      have c13b0 : (a1_0 == 3) = true := beq_iff_eq.mpr c13
      have c13b1 : (a1_0 != 3) = false := bne_eq_false_iff_eq.mpr c13
      clear c13
      (first | rw [c13b0] | (simp only [i64_w, i32_w]; rw [c13b0]) | skip)
      by_cases c14 : 0 ≤ a1_1
      · rw [if_pos c14] at H
        have c14b0 := eq_true c14
        have c14b1 : decide (0 ≤ a1_1) = true := decide_eq_true c14
        clear c14
        by_cases c15 : a1_1 ≤ a1_2
        · rw [if_pos c15] at H
          have c15b0 := eq_true c15
          have c15b1 : decide (a1_1 ≤ a1_2) = true := decide_eq_true c15
          clear c15
          by_cases c16 : a1_2 ≤ (a0.size : Int)
          · rw [if_pos c16] at H
            have c16b0 := eq_true c16
            have c16b1 : decide (a1_2 ≤ (a0.size : Int)) = true := decide_eq_true c16
            clear c16
            have H' := Aside0.mk H
            clear H
            have hnb17 := NB228_229.out
            have hnc17 := NB229_228.out
            have hnb18 := NB228_230.out
            have hnc18 := NB230_228.out
            have hcz19_0 : w8.cell? ⟨gb228, 0, none⟩ = some (.int .i64 a1_0) := (blk_cell BK228.out 0).trans rfl
            have hcz19_1 : w8.cell? ⟨gb228, 1, none⟩ = some (.int .i64 a1_1) := (blk_cell BK228.out 1).trans rfl
            have hcz19_2 : w8.cell? ⟨gb228, 2, none⟩ = some (.int .i64 a1_2) := (blk_cell BK228.out 2).trans rfl
            have hcz19_3 : w8.cell? ⟨gb228, 3, none⟩ = some (.slice A1_3 l1_3.length c1_3) := (blk_cell BK228.out 3).trans rfl
            have hcz19_4 : w8.cell? ⟨gb228, 4, none⟩ = some (.slice A1_4 l1_4.length c1_4) := (blk_cell BK228.out 4).trans rfl
            have hfz19_0 := blk_frozen BK228.out 0
            have hfz19_1 := blk_frozen BK228.out 1
            have hfz19_2 := blk_frozen BK228.out 2
            have hfz19_3 := blk_frozen BK228.out 3
            have hfz19_4 := blk_frozen BK228.out 4
            have hnb20 := NB230_229.out
            have hnc20 := NB229_230.out
            have hcz21_0 : w8.cell? ⟨gb230, 0, none⟩ = some (.int .i64 0) := (blk_cell BK230.out 0).trans rfl
            have hcz21_1 : w8.cell? ⟨gb230, 1, none⟩ = some (.string (⟨#[]⟩ : ByteArray)) := (blk_cell BK230.out 1).trans rfl
            have hcz21_2 : w8.cell? ⟨gb230, 2, none⟩ = some (.slice none 0 0) := (blk_cell BK230.out 2).trans rfl
            have hcz21_3 : w8.cell? ⟨gb230, 3, none⟩ = some (.slice none 0 0) := (blk_cell BK230.out 3).trans rfl
            have hfz21_0 := blk_frozen BK230.out 0
            have hfz21_1 := blk_frozen BK230.out 1
            have hfz21_2 := blk_frozen BK230.out 2
            have hfz21_3 := blk_frozen BK230.out 3
            go_wp2
            go_meet
            case rel => exact ⟨_, (a0.extract (a1_1 : Int).toNat (a1_2 : Int).toNat), H', ⟨by first | omega | exact Nat.le_refl _⟩, ⟨by (with_reducible repeat (first | refine blk_drewN ?_ _ | refine blk_drew ?_ | refine blk_alloc ?_ _)); refine blk_far ?_ NB228_230.out _; (with_reducible repeat (first | refine blk_drewN ?_ _ | refine blk_drew ?_ | refine blk_alloc ?_ _)); refine blk_far ?_ NB228_230.out _; (with_reducible repeat (first | refine blk_drewN ?_ _ | refine blk_drew ?_ | refine blk_alloc ?_ _)); refine blk_far ?_ NB228_230.out _; (with_reducible repeat (first | refine blk_drewN ?_ _ | refine blk_drew ?_ | refine blk_alloc ?_ _)); refine blk_far ?_ NB228_230.out _; (with_reducible repeat (first | refine blk_drewN ?_ _ | refine blk_drew ?_ | refine blk_alloc ?_ _)); refine blk_far ?_ NB228_230.out _; (with_reducible repeat (first | refine blk_drewN ?_ _ | refine blk_drew ?_ | refine blk_alloc ?_ _)); exact BK228.out⟩, ⟨by (with_reducible repeat (first | refine blk_drewN ?_ _ | refine blk_drew ?_ | refine blk_alloc ?_ _)); refine blk_far ?_ NB229_230.out _; (with_reducible repeat (first | refine blk_drewN ?_ _ | refine blk_drew ?_ | refine blk_alloc ?_ _)); refine blk_far ?_ NB229_230.out _; (with_reducible repeat (first | refine blk_drewN ?_ _ | refine blk_drew ?_ | refine blk_alloc ?_ _)); refine blk_far ?_ NB229_230.out _; (with_reducible repeat (first | refine blk_drewN ?_ _ | refine blk_drew ?_ | refine blk_alloc ?_ _)); refine blk_far ?_ NB229_230.out _; (with_reducible repeat (first | refine blk_drewN ?_ _ | refine blk_drew ?_ | refine blk_alloc ?_ _)); refine blk_far ?_ NB229_230.out _; (with_reducible repeat (first | refine blk_drewN ?_ _ | refine blk_drew ?_ | refine blk_alloc ?_ _)); exact BK229.out⟩, ⟨by (with_reducible repeat (first | refine blk_drewN ?_ _ | refine blk_drew ?_ | refine blk_alloc ?_ _)); refine blk_put (cs := #[.int .i64 a1_0, .string (⟨#[]⟩ : ByteArray), .slice none 0 0, .slice none 0 0]) ?_ 1 _ rfl; (with_reducible repeat (first | refine blk_drewN ?_ _ | refine blk_drew ?_ | refine blk_alloc ?_ _)); refine blk_put (cs := #[.int .i64 a1_0, .string (⟨#[]⟩ : ByteArray), .slice none 0 0, .slice none 0 0]) ?_ 3 _ rfl; (with_reducible repeat (first | refine blk_drewN ?_ _ | refine blk_drew ?_ | refine blk_alloc ?_ _)); refine blk_put (cs := #[.int .i64 a1_0, .string (⟨#[]⟩ : ByteArray), .slice none 0 0, .slice none 0 0]) ?_ 2 _ rfl; (with_reducible repeat (first | refine blk_drewN ?_ _ | refine blk_drew ?_ | refine blk_alloc ?_ _)); refine blk_put (cs := #[.int .i64 a1_0, .string (⟨#[]⟩ : ByteArray), .slice none 0 0, .slice none 0 0]) ?_ 1 _ rfl; (with_reducible repeat (first | refine blk_drewN ?_ _ | refine blk_drew ?_ | refine blk_alloc ?_ _)); refine blk_put (cs := #[.int .i64 0, .string (⟨#[]⟩ : ByteArray), .slice none 0 0, .slice none 0 0]) ?_ 0 _ rfl; (with_reducible repeat (first | refine blk_drewN ?_ _ | refine blk_drew ?_ | refine blk_alloc ?_ _)); exact BK230.out⟩, ⟨by repeat (first | (with_reducible first | exact HB.out | apply below_alloc | apply pw_below_drewN | apply below_drew1 | refine below_set ?_ GE228.out | refine below_set ?_ GE229.out | refine below_set ?_ GE230.out) | exact HB.out)⟩⟩
          · rw [if_neg c16] at H
            exact absurd H (by simp)
        · rw [if_neg c15] at H
          exact absurd H (by simp)
      · rw [if_neg c14] at H
        exact absurd H (by simp)
    · rw [if_neg c13] at H
      have c13b0 : (a1_0 == 3) = false := beq_eq_false_iff_ne.mpr c13
      have c13b1 : (a1_0 != 3) = true := bne_iff_ne.mpr c13
      (first | rw [c13b0] | (simp only [i64_w, i32_w]; rw [c13b0]) | skip)
      by_cases c22 : a1_0 = 4
      · rw [if_pos c22] at H
        have c22b0 : (a1_0 == 4) = true := beq_iff_eq.mpr c22
        have c22b1 : (a1_0 != 4) = false := bne_eq_false_iff_eq.mpr c22
        clear c22
        by_cases c23 : 0 ≤ a1_1
        · rw [if_pos c23] at H
          have c23b0 := eq_true c23
          have c23b1 : decide (0 ≤ a1_1) = true := decide_eq_true c23
          clear c23
          by_cases c24 : a1_1 ≤ a1_2
          · rw [if_pos c24] at H
            have c24b0 := eq_true c24
            have c24b1 : decide (a1_1 ≤ a1_2) = true := decide_eq_true c24
            clear c24
            by_cases c25 : a1_2 ≤ (a0.size : Int)
            · rw [if_pos c25] at H
              have c25b0 := eq_true c25
              have c25b1 : decide (a1_2 ≤ (a0.size : Int)) = true := decide_eq_true c25
              clear c25
              replace H := Option.bind_eq_some_iff.mp H
              obtain ⟨t231, A260, H⟩ := H
              replace H : (spec_Tree.j0 k a0 a1_0 a1_1 a1_2 l1_3 l1_4 a1_0 t231) = some (r1, r2, r3, r4) := H
              have A26 := Aside0.mk A260
              clear A260
              have H' := Aside0.mk H
              clear H
              have hnb27 := NB228_229.out
              have hnc27 := NB229_228.out
              have hnb28 := NB228_230.out
              have hnc28 := NB230_228.out
              have hcz29_0 : w8.cell? ⟨gb228, 0, none⟩ = some (.int .i64 a1_0) := (blk_cell BK228.out 0).trans rfl
              have hcz29_1 : w8.cell? ⟨gb228, 1, none⟩ = some (.int .i64 a1_1) := (blk_cell BK228.out 1).trans rfl
              have hcz29_2 : w8.cell? ⟨gb228, 2, none⟩ = some (.int .i64 a1_2) := (blk_cell BK228.out 2).trans rfl
              have hcz29_3 : w8.cell? ⟨gb228, 3, none⟩ = some (.slice A1_3 l1_3.length c1_3) := (blk_cell BK228.out 3).trans rfl
              have hcz29_4 : w8.cell? ⟨gb228, 4, none⟩ = some (.slice A1_4 l1_4.length c1_4) := (blk_cell BK228.out 4).trans rfl
              have hfz29_0 := blk_frozen BK228.out 0
              have hfz29_1 := blk_frozen BK228.out 1
              have hfz29_2 := blk_frozen BK228.out 2
              have hfz29_3 := blk_frozen BK228.out 3
              have hfz29_4 := blk_frozen BK228.out 4
              go_wp2_with (first | ((with_reducible refine gate_callee (f := 30) rfl ?_); refine goesL_ (some 30) rfl rfl Tryd.func30 (by kernel_rfl) rfl #[.string (a0.extract (a1_1 : Int).toNat (a1_2 : Int).toNat)] rfl (by (try simp only [List.map_toArray, List.map_cons, List.map_nil]); first | done | rfl | (simp only [List.length_drop, List.length_take]; rfl)) ?_; (with_reducible refine (spec_Unquote.calls k (a0.extract (a1_1 : Int).toNat (a1_2 : Int).toNat) t231 _ A26.out).mono ?_); rintro e w30 ⟨rfl, hb⟩; refine ⟨_, rfl, ?_⟩; have n0_ := Aside0.mk (blk_below (g := gb228) (o := .cells #[.int .i64 a1_0, .int .i64 a1_1, .int .i64 a1_2, .slice A1_3 l1_3.length c1_3, .slice A1_4 l1_4.length c1_4] 56 (0, 0)) (by (with_reducible repeat (first | refine blk_drewN ?_ _ | refine blk_drew ?_ | refine blk_alloc ?_ _)); refine blk_far ?_ NB228_230.out _; (with_reducible repeat (first | refine blk_drewN ?_ _ | refine blk_drew ?_ | refine blk_alloc ?_ _)); refine blk_far ?_ NB228_230.out _; (with_reducible repeat (first | refine blk_drewN ?_ _ | refine blk_drew ?_ | refine blk_alloc ?_ _)); refine blk_far ?_ NB228_230.out _; (with_reducible repeat (first | refine blk_drewN ?_ _ | refine blk_drew ?_ | refine blk_alloc ?_ _)); refine blk_far ?_ NB228_230.out _; (with_reducible repeat (first | refine blk_drewN ?_ _ | refine blk_drew ?_ | refine blk_alloc ?_ _)); exact BK228.out) hb); have n1_ := Aside0.mk (blk_below (g := gb229) (o := .cells #[.int .i64 0, .string (⟨#[]⟩ : ByteArray), .slice none 0 0, .slice none 0 0] 36 (0, 0)) (by (with_reducible repeat (first | refine blk_drewN ?_ _ | refine blk_drew ?_ | refine blk_alloc ?_ _)); refine blk_far ?_ NB229_230.out _; (with_reducible repeat (first | refine blk_drewN ?_ _ | refine blk_drew ?_ | refine blk_alloc ?_ _)); refine blk_far ?_ NB229_230.out _; (with_reducible repeat (first | refine blk_drewN ?_ _ | refine blk_drew ?_ | refine blk_alloc ?_ _)); refine blk_far ?_ NB229_230.out _; (with_reducible repeat (first | refine blk_drewN ?_ _ | refine blk_drew ?_ | refine blk_alloc ?_ _)); refine blk_far ?_ NB229_230.out _; (with_reducible repeat (first | refine blk_drewN ?_ _ | refine blk_drew ?_ | refine blk_alloc ?_ _)); exact BK229.out) hb); have n2_ := Aside0.mk (blk_below (g := gb230) (o := .cells #[.int .i64 a1_0, .string (⟨#[]⟩ : ByteArray), .slice none 0 0, .slice none 0 0] 36 (0, 0)) (by (with_reducible repeat (first | refine blk_drewN ?_ _ | refine blk_drew ?_ | refine blk_alloc ?_ _)); refine blk_put (cs := #[.int .i64 a1_0, .string (⟨#[]⟩ : ByteArray), .slice none 0 0, .slice none 0 0]) ?_ 3 _ rfl; (with_reducible repeat (first | refine blk_drewN ?_ _ | refine blk_drew ?_ | refine blk_alloc ?_ _)); refine blk_put (cs := #[.int .i64 a1_0, .string (⟨#[]⟩ : ByteArray), .slice none 0 0, .slice none 0 0]) ?_ 2 _ rfl; (with_reducible repeat (first | refine blk_drewN ?_ _ | refine blk_drew ?_ | refine blk_alloc ?_ _)); refine blk_put (cs := #[.int .i64 a1_0, .string (⟨#[]⟩ : ByteArray), .slice none 0 0, .slice none 0 0]) ?_ 1 _ rfl; (with_reducible repeat (first | refine blk_drewN ?_ _ | refine blk_drew ?_ | refine blk_alloc ?_ _)); refine blk_put (cs := #[.int .i64 0, .string (⟨#[]⟩ : ByteArray), .slice none 0 0, .slice none 0 0]) ?_ 0 _ rfl; (with_reducible repeat (first | refine blk_drewN ?_ _ | refine blk_drew ?_ | refine blk_alloc ?_ _)); exact BK230.out) hb); have n3_ := Aside0.mk (below_step (by repeat (first | (with_reducible first | exact HB.out | apply below_alloc | apply pw_below_drewN | apply below_drew1 | refine below_set ?_ GE228.out | refine below_set ?_ GE229.out | refine below_set ?_ GE230.out) | exact HB.out)) hb); clear BK228; clear BK229; clear BK230; clear HB; have BK228 := n0_; have BK229 := n1_; have BK230 := n2_; have HB := n3_; clear n0_ n1_ n2_ n3_; (try clear hb); (try clear hb2); (try clear hk); (try clear hi); have hnb31 := NB230_229.out; have hnc31 := NB229_230.out; have hcz32_0 : w30.cell? ⟨gb230, 0, none⟩ = some (.int .i64 a1_0) := (blk_cell BK230.out 0).trans rfl; have hcz32_1 : w30.cell? ⟨gb230, 1, none⟩ = some (.string (⟨#[]⟩ : ByteArray)) := (blk_cell BK230.out 1).trans rfl; have hcz32_2 : w30.cell? ⟨gb230, 2, none⟩ = some (.slice none 0 0) := (blk_cell BK230.out 2).trans rfl; have hcz32_3 : w30.cell? ⟨gb230, 3, none⟩ = some (.slice none 0 0) := (blk_cell BK230.out 3).trans rfl; have hfz32_0 := blk_frozen BK230.out 0; have hfz32_1 := blk_frozen BK230.out 1; have hfz32_2 := blk_frozen BK230.out 2; have hfz32_3 := blk_frozen BK230.out 3))
              go_meet
              case rel => exact ⟨_, (t231), H', ⟨by first | omega | exact Nat.le_refl _⟩, ⟨by (with_reducible repeat (first | refine blk_drewN ?_ _ | refine blk_drew ?_ | refine blk_alloc ?_ _)); refine blk_far ?_ NB228_230.out _; (with_reducible repeat (first | refine blk_drewN ?_ _ | refine blk_drew ?_ | refine blk_alloc ?_ _)); exact BK228.out⟩, ⟨by (with_reducible repeat (first | refine blk_drewN ?_ _ | refine blk_drew ?_ | refine blk_alloc ?_ _)); refine blk_far ?_ NB229_230.out _; (with_reducible repeat (first | refine blk_drewN ?_ _ | refine blk_drew ?_ | refine blk_alloc ?_ _)); exact BK229.out⟩, ⟨by (with_reducible repeat (first | refine blk_drewN ?_ _ | refine blk_drew ?_ | refine blk_alloc ?_ _)); refine blk_put (cs := #[.int .i64 a1_0, .string (⟨#[]⟩ : ByteArray), .slice none 0 0, .slice none 0 0]) ?_ 1 _ rfl; (with_reducible repeat (first | refine blk_drewN ?_ _ | refine blk_drew ?_ | refine blk_alloc ?_ _)); exact BK230.out⟩, ⟨by repeat (first | (with_reducible first | exact HB.out | apply below_alloc | apply pw_below_drewN | apply below_drew1 | refine below_set ?_ GE228.out | refine below_set ?_ GE229.out | refine below_set ?_ GE230.out) | exact HB.out)⟩⟩
            · rw [if_neg c25] at H
              exact absurd H (by simp)
          · rw [if_neg c24] at H
            exact absurd H (by simp)
        · rw [if_neg c23] at H
          exact absurd H (by simp)
      · rw [if_neg c22] at H
        have c22b0 : (a1_0 == 4) = false := beq_eq_false_iff_ne.mpr c22
        have c22b1 : (a1_0 != 4) = true := bne_iff_ne.mpr c22
        have H' := Aside0.mk H
        clear H
        go_wp2
        go_meet
        case rel => exact ⟨_, ((⟨#[]⟩ : ByteArray)), H', ⟨by first | omega | exact Nat.le_refl _⟩, ⟨by (with_reducible repeat (first | refine blk_drewN ?_ _ | refine blk_drew ?_ | refine blk_alloc ?_ _)); refine blk_far ?_ NB228_230.out _; (with_reducible repeat (first | refine blk_drewN ?_ _ | refine blk_drew ?_ | refine blk_alloc ?_ _)); refine blk_far ?_ NB228_230.out _; (with_reducible repeat (first | refine blk_drewN ?_ _ | refine blk_drew ?_ | refine blk_alloc ?_ _)); refine blk_far ?_ NB228_230.out _; (with_reducible repeat (first | refine blk_drewN ?_ _ | refine blk_drew ?_ | refine blk_alloc ?_ _)); refine blk_far ?_ NB228_230.out _; (with_reducible repeat (first | refine blk_drewN ?_ _ | refine blk_drew ?_ | refine blk_alloc ?_ _)); exact BK228.out⟩, ⟨by (with_reducible repeat (first | refine blk_drewN ?_ _ | refine blk_drew ?_ | refine blk_alloc ?_ _)); refine blk_far ?_ NB229_230.out _; (with_reducible repeat (first | refine blk_drewN ?_ _ | refine blk_drew ?_ | refine blk_alloc ?_ _)); refine blk_far ?_ NB229_230.out _; (with_reducible repeat (first | refine blk_drewN ?_ _ | refine blk_drew ?_ | refine blk_alloc ?_ _)); refine blk_far ?_ NB229_230.out _; (with_reducible repeat (first | refine blk_drewN ?_ _ | refine blk_drew ?_ | refine blk_alloc ?_ _)); refine blk_far ?_ NB229_230.out _; (with_reducible repeat (first | refine blk_drewN ?_ _ | refine blk_drew ?_ | refine blk_alloc ?_ _)); exact BK229.out⟩, ⟨by (with_reducible repeat (first | refine blk_drewN ?_ _ | refine blk_drew ?_ | refine blk_alloc ?_ _)); refine blk_put (cs := #[.int .i64 a1_0, .string (⟨#[]⟩ : ByteArray), .slice none 0 0, .slice none 0 0]) ?_ 3 _ rfl; (with_reducible repeat (first | refine blk_drewN ?_ _ | refine blk_drew ?_ | refine blk_alloc ?_ _)); refine blk_put (cs := #[.int .i64 a1_0, .string (⟨#[]⟩ : ByteArray), .slice none 0 0, .slice none 0 0]) ?_ 2 _ rfl; (with_reducible repeat (first | refine blk_drewN ?_ _ | refine blk_drew ?_ | refine blk_alloc ?_ _)); refine blk_put (cs := #[.int .i64 a1_0, .string (⟨#[]⟩ : ByteArray), .slice none 0 0, .slice none 0 0]) ?_ 1 _ rfl; (with_reducible repeat (first | refine blk_drewN ?_ _ | refine blk_drew ?_ | refine blk_alloc ?_ _)); refine blk_put (cs := #[.int .i64 0, .string (⟨#[]⟩ : ByteArray), .slice none 0 0, .slice none 0 0]) ?_ 0 _ rfl; (with_reducible repeat (first | refine blk_drewN ?_ _ | refine blk_drew ?_ | refine blk_alloc ?_ _)); exact BK230.out⟩, ⟨by repeat (first | (with_reducible first | exact HB.out | apply below_alloc | apply pw_below_drewN | apply below_drew1 | refine below_set ?_ GE228.out | refine below_set ?_ GE229.out | refine below_set ?_ GE230.out) | exact HB.out)⟩⟩
  case rest =>
    clear HC3
    try clear c1
    try clear c2
    try clear p2
    try clear c3
    try clear c4
    try clear c6
    try clear c9
    try clear c10
    try clear c13
    try clear c13b0
    try clear c13b1
    try clear c14
    try clear c14b0
    try clear c14b1
    try clear c15
    try clear c15b0
    try clear c15b1
    try clear c16
    try clear c16b0
    try clear c16b1
    try clear c17
    try clear c18
    try clear c20
    try clear c22
    try clear c22b0
    try clear c22b1
    try clear c23
    try clear c23b0
    try clear c23b1
    try clear c24
    try clear c24b0
    try clear c24b1
    try clear c25
    try clear c25b0
    try clear c25b1
    try clear c27
    try clear c28
    try clear c30
    try clear c31
    try clear hcz11_0
    try clear hcz11_1
    try clear hcz11_2
    try clear hcz11_3
    try clear hcz12_0
    try clear hcz12_1
    try clear hcz12_2
    try clear hcz12_3
    try clear hcz12_4
    try clear hcz19_0
    try clear hcz19_1
    try clear hcz19_2
    try clear hcz19_3
    try clear hcz19_4
    try clear hcz21_0
    try clear hcz21_1
    try clear hcz21_2
    try clear hcz21_3
    try clear hcz29_0
    try clear hcz29_1
    try clear hcz29_2
    try clear hcz29_3
    try clear hcz29_4
    try clear hcz32_0
    try clear hcz32_1
    try clear hcz32_2
    try clear hcz32_3
    try clear hcz7_0
    try clear hcz7_1
    try clear hcz7_2
    try clear hcz7_3
    try clear hcz7_4
    try clear hfz11_0
    try clear hfz11_1
    try clear hfz11_2
    try clear hfz11_3
    try clear hfz12_0
    try clear hfz12_1
    try clear hfz12_2
    try clear hfz12_3
    try clear hfz12_4
    try clear hfz19_0
    try clear hfz19_1
    try clear hfz19_2
    try clear hfz19_3
    try clear hfz19_4
    try clear hfz21_0
    try clear hfz21_1
    try clear hfz21_2
    try clear hfz21_3
    try clear hfz29_0
    try clear hfz29_1
    try clear hfz29_2
    try clear hfz29_3
    try clear hfz29_4
    try clear hfz32_0
    try clear hfz32_1
    try clear hfz32_2
    try clear hfz32_3
    try clear hfz7_0
    try clear hfz7_1
    try clear hfz7_2
    try clear hfz7_3
    try clear hfz7_4
    obtain ⟨kq, x231001_2, HA, HJ2, BK228, BK229, BK230, HB⟩ := hcut
    cases kq with
    | zero => exact absurd HA.out (by simp [spec_Tree.j0])
    | succ kj2 =>
      have H := HA.out
      clear HA
      simp only [spec_Tree.j0] at H
      have H' := Aside0.mk H
      clear H
      go_wp2
      try simp only [Act.put, List.setIfInBounds_toArray, List.set_cons_succ, List.set_cons_zero]
      go_loopg [6] kj2 (fun kq v6 w' => ∃ (x6_2 : Int) (x231002_2 : List ByteArray) (u231002 : Value), v6 = .int .i64 x6_2 ∧ Aside0 (spec_Tree.l0 kq a0 x6_2 a1_0 a1_1 a1_2 l1_3 l1_4 a1_0 x231001_2 x231002_2 = some (r1, r2, r3, r4)) ∧ Aside0 (kq ≤ kj2) ∧ Aside0 (Kd.R Kd.string 9 w' w.heap.size (fun _ => True) u231002 x231002_2) ∧ Aside0 (w'.heap[gb228]? = some (.cells #[.int .i64 a1_0, .int .i64 a1_1, .int .i64 a1_2, (.slice A1_3 l1_3.length c1_3), (.slice A1_4 l1_4.length c1_4)] 56 (0, 0))) ∧ Aside0 (w'.heap[gb229]? = some (.cells #[.int .i64 0, .string (⟨#[]⟩ : ByteArray), (.slice none 0 0), (.slice none 0 0)] 36 (0, 0))) ∧ Aside0 (w'.heap[gb230]? = some (.cells #[.int .i64 a1_0, .string x231001_2, u231002, (.slice none 0 0)] 36 (0, 0))) ∧ Aside0 (Below w.heap.size w w'))
      case atStart => exact ⟨(0), (([] : List ByteArray)), (.slice none 0 0), (by first | rfl | (simp; done) | (simp [*]; done)), H', ⟨Nat.le_refl _⟩, ⟨by first | exact Kd.R_nil _ _ _ _ _ | exact Kd.N_nil _ _ _ _ _ | exact Kd.V_nil _ _ _ _ _ | exact Kd.Q_nil _ _ _ _ _ | exact Kd.S_nil _ _ _ _ _⟩, ⟨by (with_reducible repeat (first | refine blk_drewN ?_ _ | refine blk_drew ?_ | refine blk_alloc ?_ _)); exact BK228.out⟩, ⟨by (with_reducible repeat (first | refine blk_drewN ?_ _ | refine blk_drew ?_ | refine blk_alloc ?_ _)); exact BK229.out⟩, ⟨by (with_reducible repeat (first | refine blk_drewN ?_ _ | refine blk_drew ?_ | refine blk_alloc ?_ _)); exact BK230.out⟩, ⟨by repeat (first | (with_reducible first | exact HB.out | apply below_alloc | apply pw_below_drewN | apply below_drew1 | refine below_set ?_ GE228.out | refine below_set ?_ GE229.out | refine below_set ?_ GE230.out) | exact HB.out)⟩⟩
      case round =>
        clear H'
        try clear c1
        try clear c2
        try clear p2
        try clear c3
        try clear c4
        try clear c6
        try clear c9
        try clear c10
        try clear c13
        try clear c13b0
        try clear c13b1
        try clear c14
        try clear c14b0
        try clear c14b1
        try clear c15
        try clear c15b0
        try clear c15b1
        try clear c16
        try clear c16b0
        try clear c16b1
        try clear c17
        try clear c18
        try clear c20
        try clear c22
        try clear c22b0
        try clear c22b1
        try clear c23
        try clear c23b0
        try clear c23b1
        try clear c24
        try clear c24b0
        try clear c24b1
        try clear c25
        try clear c25b0
        try clear c25b1
        try clear c27
        try clear c28
        try clear c30
        try clear c31
        try clear hcz11_0
        try clear hcz11_1
        try clear hcz11_2
        try clear hcz11_3
        try clear hcz12_0
        try clear hcz12_1
        try clear hcz12_2
        try clear hcz12_3
        try clear hcz12_4
        try clear hcz19_0
        try clear hcz19_1
        try clear hcz19_2
        try clear hcz19_3
        try clear hcz19_4
        try clear hcz21_0
        try clear hcz21_1
        try clear hcz21_2
        try clear hcz21_3
        try clear hcz29_0
        try clear hcz29_1
        try clear hcz29_2
        try clear hcz29_3
        try clear hcz29_4
        try clear hcz32_0
        try clear hcz32_1
        try clear hcz32_2
        try clear hcz32_3
        try clear hcz7_0
        try clear hcz7_1
        try clear hcz7_2
        try clear hcz7_3
        try clear hcz7_4
        try clear hfz11_0
        try clear hfz11_1
        try clear hfz11_2
        try clear hfz11_3
        try clear hfz12_0
        try clear hfz12_1
        try clear hfz12_2
        try clear hfz12_3
        try clear hfz12_4
        try clear hfz19_0
        try clear hfz19_1
        try clear hfz19_2
        try clear hfz19_3
        try clear hfz19_4
        try clear hfz21_0
        try clear hfz21_1
        try clear hfz21_2
        try clear hfz21_3
        try clear hfz29_0
        try clear hfz29_1
        try clear hfz29_2
        try clear hfz29_3
        try clear hfz29_4
        try clear hfz32_0
        try clear hfz32_1
        try clear hfz32_2
        try clear hfz32_3
        try clear hfz7_0
        try clear hfz7_1
        try clear hfz7_2
        try clear hfz7_3
        try clear hfz7_4
        try clear p2
        obtain ⟨x6_2, x231002_2, u231002, rfl, HA, HK2, HO_231002, BK228, BK229, BK230, HB⟩ := hrel
        cases gk with
        | zero => exact absurd HA.out (by simp [spec_Tree.l0])
        | succ k2 =>
          have H := HA.out
          clear HA
          simp only [spec_Tree.l0] at H
          by_cases c33 : x6_2 < (l1_3.length : Int)
          · rw [if_pos c33] at H
            have c33b0 : decide (x6_2 < (l1_3.length : Int)) = true := decide_eq_true c33
            clear c33
            by_cases c34 : 0 ≤ x6_2
            · rw [if_pos c34] at H
              have c34b0 : decide (0 ≤ x6_2) = true := decide_eq_true c34
              clear c34
              by_cases c35 : 0 ≤ ((rd_T87 l1_3 x6_2).f0)
              · rw [if_pos c35] at H
                have c35b0 := eq_true c35
                have c35b1 : decide (0 ≤ ((rd_T87 l1_3 x6_2).f0)) = true := decide_eq_true c35
                clear c35
                by_cases c36 : ((rd_T87 l1_3 x6_2).f0) ≤ ((rd_T87 l1_3 x6_2).f1)
                · rw [if_pos c36] at H
                  have c36b0 := eq_true c36
                  have c36b1 : decide (((rd_T87 l1_3 x6_2).f0) ≤ ((rd_T87 l1_3 x6_2).f1)) = true := decide_eq_true c36
                  clear c36
                  by_cases c37 : ((rd_T87 l1_3 x6_2).f1) ≤ (a0.size : Int)
                  · rw [if_pos c37] at H
                    have c37b0 := eq_true c37
                    have c37b1 : decide (((rd_T87 l1_3 x6_2).f1) ≤ (a0.size : Int)) = true := decide_eq_true c37
                    clear c37
                    replace H := Option.bind_eq_some_iff.mp H
                    obtain ⟨t234, A380, H⟩ := H
                    replace H : (if x231002_2.length < 8796093022208 then (spec_Tree.l0 k2 a0 (wrap64 (x6_2 + 1)) a1_0 a1_1 a1_2 l1_3 l1_4 a1_0 x231001_2 (x231002_2 ++ [t234])) else (none)) = some (r1, r2, r3, r4) := H
                    have A38 := Aside0.mk A380
                    clear A380
                    by_cases c39 : x231002_2.length < 8796093022208
                    · rw [if_pos c39] at H
                      have LMc39 := Aside0.mk c39
                      clear c39
                      obtain ⟨y235, hy235⟩ : ∃ y_ : List ByteArray, y_ = (x231002_2 ++ [t234]) := ⟨_, rfl⟩
                      replace H : (spec_Tree.l0 k2 a0 (wrap64 (x6_2 + 1)) a1_0 a1_1 a1_2 l1_3 l1_4 a1_0 x231001_2 y235) = some (r1, r2, r3, r4) := by first | (rw [hy235]; with_reducible exact H) | (have H2_ := (Option.bind_some _ _).symm.trans H; rw [hy235]; with_reducible exact H2_) | (have H2_ := (Option.bind_some _ _).symm.trans H; with_reducible exact H2_) | with_reducible exact H | (rw [hy235]; exact H) | exact H
                      have Ny235 := Aside0.mk hy235
                      clear hy235
                      have H' := Aside0.mk H
                      clear H
                      have hnb40 := NB228_229.out
                      have hnc40 := NB229_228.out
                      have hnb41 := NB228_230.out
                      have hnc41 := NB230_228.out
                      have hcz42_0 : wr.cell? ⟨gb228, 0, none⟩ = some (.int .i64 a1_0) := (blk_cell BK228.out 0).trans rfl
                      have hcz42_1 : wr.cell? ⟨gb228, 1, none⟩ = some (.int .i64 a1_1) := (blk_cell BK228.out 1).trans rfl
                      have hcz42_2 : wr.cell? ⟨gb228, 2, none⟩ = some (.int .i64 a1_2) := (blk_cell BK228.out 2).trans rfl
                      have hcz42_3 : wr.cell? ⟨gb228, 3, none⟩ = some (.slice A1_3 l1_3.length c1_3) := (blk_cell BK228.out 3).trans rfl
                      have hcz42_4 : wr.cell? ⟨gb228, 4, none⟩ = some (.slice A1_4 l1_4.length c1_4) := (blk_cell BK228.out 4).trans rfl
                      have hfz42_0 := blk_frozen BK228.out 0
                      have hfz42_1 := blk_frozen BK228.out 1
                      have hfz42_2 := blk_frozen BK228.out 2
                      have hfz42_3 := blk_frozen BK228.out 3
                      have hfz42_4 := blk_frozen BK228.out 4
                      try go_wp2
                      have n0_ := Aside0.mk (Kd.R_drew HO_231002.out)
                      have n1_ := Aside0.mk (blk_drew BK228.out)
                      have n2_ := Aside0.mk (blk_drew BK229.out)
                      have n3_ := Aside0.mk (blk_drew BK230.out)
                      have n4_ := Aside0.mk (below_drew1 HB.out)
                      clear HO_231002
                      clear BK228
                      clear BK229
                      clear BK230
                      clear HB
                      have HO_231002 := n0_
                      have BK228 := n1_
                      have BK229 := n2_
                      have BK230 := n3_
                      have HB := n4_
                      clear n0_ n1_ n2_ n3_ n4_
                      have p232 : 0 ≤ (x6_2 : Int) := of_decide_eq_true (by first | (with_reducible assumption) | assumption)
                      have q232 : x6_2 < (l1_3.length : Int) := of_decide_eq_true (by first | (with_reducible assumption) | assumption)
                      obtain ⟨ad232, e232, hx232_0, hx232_1⟩ := at_T87 HR1_3.out x6_2 p232 q232
                      have hw232_1 := hx232_1
                      have hw232_0 := hx232_0
                      cases e232
                      replace hx232_0 := (HB.out.cell (World.block_lt_of_cell? w _ hx232_0)).trans hx232_0
                      replace hx232_1 := (HB.out.cell (World.block_lt_of_cell? w _ hx232_1)).trans hx232_1
                      replace p232 := eq_true p232
                      replace q232 := eq_true q232
                      have p233 : 0 ≤ (x6_2 : Int) := of_decide_eq_true (by first | (with_reducible assumption) | assumption)
                      have q233 : x6_2 < (l1_3.length : Int) := of_decide_eq_true (by first | (with_reducible assumption) | assumption)
                      obtain ⟨ad233, e233, hx233_0, hx233_1⟩ := at_T87 HR1_3.out x6_2 p233 q233
                      have hw233_1 := hx233_1
                      have hw233_0 := hx233_0
                      obtain rfl : ad232 = ad233 := (by injection e233)
                      replace hx233_0 := (HB.out.cell (World.block_lt_of_cell? w _ hx233_0)).trans hx233_0
                      replace hx233_1 := (HB.out.cell (World.block_lt_of_cell? w _ hx233_1)).trans hx233_1
                      replace p233 := eq_true p233
                      replace q233 := eq_true q233
                      refine start_ (n := 21) (S := fun w' => w'.cell? ⟨gb230, 0, none⟩ = some (.int .i64 a1_0) ∧ w'.cell? ⟨gb230, 1, none⟩ = some (.string x231001_2) ∧ w'.cell? ⟨gb230, 2, none⟩ = some (u231002) ∧ w'.cell? ⟨gb230, 3, none⟩ = some (.slice none 0 0) ∧ w'.cell? ⟨gb228, 0, none⟩ = some (.int .i64 a1_0) ∧ w'.cell? ⟨gb228, 1, none⟩ = some (.int .i64 a1_1) ∧ w'.cell? ⟨gb228, 2, none⟩ = some (.int .i64 a1_2) ∧ w'.cell? ⟨gb228, 3, none⟩ = some (.slice (some ad232) l1_3.length c1_3) ∧ w'.cell? ⟨gb228, 4, none⟩ = some (.slice A1_4 l1_4.length c1_4) ∧ w'.cell? (ad232.add ((x6_2).toNat * 2)) = some (.int .i64 ((rd_T87 l1_3 x6_2).f0)) ∧ w'.cell? ⟨(ad232.add ((x6_2).toNat * 2)).block, (ad232.add ((x6_2).toNat * 2)).off + 1, none⟩ = some (.int .i64 ((rd_T87 l1_3 x6_2).f1)) ∧ w'.cell? (ad232.add ((x6_2).toNat * 2)) = some (.int .i64 ((rd_T87 l1_3 x6_2).f0)) ∧ w'.cell? ⟨(ad232.add ((x6_2).toNat * 2)).block, (ad232.add ((x6_2).toNat * 2)).off + 1, none⟩ = some (.int .i64 ((rd_T87 l1_3 x6_2).f1))) (ds := [20]) #[false, false, false, false, false, false, false, false, false, false, false, false, false, false, false, false, false, false, false, false, false] (by kernel_rfl) rfl rfl ⟨(blk_cell BK230.out 0).trans rfl, (blk_cell BK230.out 1).trans rfl, (blk_cell BK230.out 2).trans rfl, (blk_cell BK230.out 3).trans rfl, (blk_cell BK228.out 0).trans rfl, (blk_cell BK228.out 1).trans rfl, (blk_cell BK228.out 2).trans rfl, (blk_cell BK228.out 3).trans rfl, (blk_cell BK228.out 4).trans rfl, ((HB.out.cell (World.block_lt_of_cell? w _ hw232_0)).trans hw232_0), ((HB.out.cell (World.block_lt_of_cell? w _ hw232_1)).trans hw232_1), ((HB.out.cell (World.block_lt_of_cell? w _ hw233_0)).trans hw233_0), ((HB.out.cell (World.block_lt_of_cell? w _ hw233_1)).trans hw233_1)⟩ (fun hHeld => ?_); refine with_tabW spec_Tree.tab10 spec_Tree.bits10 (fun HT_ HW_ => ?_)
                      generalize wr.drew = w43 at HO_231002 BK228 BK229 BK230 HB hx232_0 hx232_1 hx233_0 hx233_1 hHeld ⊢
                      refine pure_ (i := 0) (N := some 39) (v := ?_) (a' := ?_) #[true, false, false, false, false, false, false, false, false, false, false, false, false, false, false, false, false, false, false, false, false] rfl rfl (any_of HT_.out (by kernel_rfl)) (fun _ _ _ h => h) (Or.inl ⟨by rfl, ?_⟩) ?_ ?_
                      rotate_left
                      · intro w'
                        go_simp
                        with_reducible rfl
                      rotate_left
                      · simp only [Act.put, List.setIfInBounds_toArray, List.set_cons_zero, List.set_cons_succ, i64_w, i32_w]
                        rfl
                      refine pure_ (i := 2) (N := some 41) (v := ?_) (a' := ?_) #[true, false, true, false, false, false, false, false, false, false, false, false, false, false, false, false, false, false, false, false, false] rfl rfl (any_of HT_.out (by kernel_rfl)) (fun _ _ _ h => h) (Or.inl ⟨by rfl, ?_⟩) ?_ ?_
                      rotate_left
                      · intro w'
                        go_simp
                        with_reducible rfl
                      rotate_left
                      · simp only [Act.put, List.setIfInBounds_toArray, List.set_cons_zero, List.set_cons_succ, i64_w, i32_w]
                        rfl
                      refine pure_ (i := 3) (N := some 42) (v := ?_) (a' := ?_) #[true, false, true, true, false, false, false, false, false, false, false, false, false, false, false, false, false, false, false, false, false] rfl rfl (any_of HT_.out (by kernel_rfl)) (fun _ _ _ h => h) (Or.inl ⟨by rfl, ?_⟩) ?_ ?_
                      rotate_left
                      · intro w'
                        go_simp
                        with_reducible rfl
                      rotate_left
                      · simp only [Act.put, List.setIfInBounds_toArray, List.set_cons_zero, List.set_cons_succ, i64_w, i32_w]
                        rfl
                      refine pure_ (i := 5) (N := some 44) (v := ?_) (a' := ?_) #[true, false, true, true, false, true, false, false, false, false, false, false, false, false, false, false, false, false, false, false, false] rfl rfl (any_of HT_.out (by kernel_rfl)) (fun _ _ _ h => h) (Or.inl ⟨by rfl, ?_⟩) ?_ ?_
                      rotate_left
                      · intro w'
                        go_simp
                        with_reducible rfl
                      rotate_left
                      · simp only [Act.put, List.setIfInBounds_toArray, List.set_cons_zero, List.set_cons_succ, i64_w, i32_w]
                        rfl
                      refine pure_ (i := 9) (N := some 48) (v := ?_) (a' := ?_) #[true, false, true, true, false, true, false, false, false, true, false, false, false, false, false, false, false, false, false, false, false] rfl rfl (any_of HT_.out (by kernel_rfl)) (fun _ _ _ h => h) (Or.inl ⟨by rfl, ?_⟩) ?_ ?_
                      rotate_left
                      · intro w'
                        go_simp
                        with_reducible rfl
                      rotate_left
                      · simp only [Act.put, List.setIfInBounds_toArray, List.set_cons_zero, List.set_cons_succ, i64_w, i32_w]
                        rfl
                      refine pure_ (i := 11) (N := some 50) (v := ?_) (a' := ?_) #[true, false, true, true, false, true, false, false, false, true, false, true, false, false, false, false, false, false, false, false, false] rfl rfl (any_of HT_.out (by kernel_rfl)) (fun _ _ _ h => h) (Or.inl ⟨by rfl, ?_⟩) ?_ ?_
                      rotate_left
                      · intro w'
                        go_simp
                        with_reducible rfl
                      rotate_left
                      · simp only [Act.put, List.setIfInBounds_toArray, List.set_cons_zero, List.set_cons_succ, i64_w, i32_w]
                        rfl
                      refine take_ (i := 1) (N := some 40) (v := ?_) (a' := ?_) #[true, true, true, true, false, true, false, false, false, true, false, true, false, false, false, false, false, false, false, false, false] rfl rfl (take_ofW HT_.out HW_.out (by kernel_rfl)) (fun _ _ _ h => h) (Or.inl ⟨by rfl, ?_⟩) hHeld ?_ ?_
                      rotate_left
                      · rintro w' ⟨s0, s1, s2, s3, s4, s5, s6, s7, s8, s9, s10, s11, s12⟩
                        go_simp
                        with_reducible rfl
                      rotate_left
                      · simp only [Act.put, List.setIfInBounds_toArray, List.set_cons_zero, List.set_cons_succ, i64_w, i32_w]
                        rfl
                      refine take_ (i := 4) (N := some 43) (v := ?_) (a' := ?_) #[true, true, true, true, true, true, false, false, false, true, false, true, false, false, false, false, false, false, false, false, false] rfl rfl (take_ofW HT_.out HW_.out (by kernel_rfl)) (fun _ _ _ h => h) (Or.inl ⟨by rfl, ?_⟩) hHeld ?_ ?_
                      rotate_left
                      · rintro w' ⟨s0, s1, s2, s3, s4, s5, s6, s7, s8, s9, s10, s11, s12⟩
                        go_simp
                        with_reducible rfl
                      rotate_left
                      · simp only [Act.put, List.setIfInBounds_toArray, List.set_cons_zero, List.set_cons_succ, i64_w, i32_w]
                        rfl
                      refine pure_ (i := 6) (N := some 45) (v := ?_) (a' := ?_) #[true, true, true, true, true, true, true, false, false, true, false, true, false, false, false, false, false, false, false, false, false] rfl rfl (any_of HT_.out (by kernel_rfl)) (fun _ _ _ h => h) (Or.inl ⟨by rfl, ?_⟩) ?_ ?_
                      rotate_left
                      · intro w'
                        go_simp
                        with_reducible rfl
                      rotate_left
                      · simp only [Act.put, List.setIfInBounds_toArray, List.set_cons_zero, List.set_cons_succ, i64_w, i32_w]
                        rfl
                      refine pure_ (i := 7) (N := some 46) (v := ?_) (a' := ?_) #[true, true, true, true, true, true, true, true, false, true, false, true, false, false, false, false, false, false, false, false, false] rfl rfl (any_of HT_.out (by kernel_rfl)) (fun _ _ _ h => h) (Or.inl ⟨by rfl, ?_⟩) ?_ ?_
                      rotate_left
                      · intro w'
                        go_simp
                        with_reducible rfl
                      rotate_left
                      · simp only [Act.put, List.setIfInBounds_toArray, List.set_cons_zero, List.set_cons_succ, i64_w, i32_w]
                        rfl
                      refine take_ (i := 8) (N := some 47) (v := ?_) (a' := ?_) #[true, true, true, true, true, true, true, true, true, true, false, true, false, false, false, false, false, false, false, false, false] rfl rfl (take_ofW HT_.out HW_.out (by kernel_rfl)) (fun _ _ _ h => h) (Or.inl ⟨by rfl, ?_⟩) hHeld ?_ ?_
                      rotate_left
                      · rintro w' ⟨s0, s1, s2, s3, s4, s5, s6, s7, s8, s9, s10, s11, s12⟩
                        go_simp
                        with_reducible rfl
                      rotate_left
                      · simp only [Act.put, List.setIfInBounds_toArray, List.set_cons_zero, List.set_cons_succ, i64_w, i32_w]
                        rfl
                      refine take_ (i := 10) (N := some 49) (v := ?_) (a' := ?_) #[true, true, true, true, true, true, true, true, true, true, true, true, false, false, false, false, false, false, false, false, false] rfl rfl (take_ofW HT_.out HW_.out (by kernel_rfl)) (fun _ _ _ h => h) (Or.inl ⟨by rfl, ?_⟩) hHeld ?_ ?_
                      rotate_left
                      · rintro w' ⟨s0, s1, s2, s3, s4, s5, s6, s7, s8, s9, s10, s11, s12⟩
                        go_simp
                        with_reducible rfl
                      rotate_left
                      · simp only [Act.put, List.setIfInBounds_toArray, List.set_cons_zero, List.set_cons_succ, i64_w, i32_w]
                        rfl
                      refine pure_ (i := 12) (N := some 51) (v := ?_) (a' := ?_) #[true, true, true, true, true, true, true, true, true, true, true, true, true, false, false, false, false, false, false, false, false] rfl rfl (any_of HT_.out (by kernel_rfl)) (fun _ _ _ h => h) (Or.inl ⟨by rfl, ?_⟩) ?_ ?_
                      rotate_left
                      · intro w'
                        go_simp
                        with_reducible rfl
                      rotate_left
                      · simp only [Act.put, List.setIfInBounds_toArray, List.set_cons_zero, List.set_cons_succ, i64_w, i32_w]
                        rfl
                      refine pure_ (i := 13) (N := some 52) (v := ?_) (a' := ?_) #[true, true, true, true, true, true, true, true, true, true, true, true, true, true, false, false, false, false, false, false, false] rfl rfl (any_of HT_.out (by kernel_rfl)) (fun _ _ _ h => h) (Or.inl ⟨by rfl, ?_⟩) ?_ ?_
                      rotate_left
                      · intro w'
                        go_simp
                        with_reducible rfl
                      rotate_left
                      · simp only [Act.put, List.setIfInBounds_toArray, List.set_cons_zero, List.set_cons_succ, i64_w, i32_w]
                        rfl
                      refine take_ (i := 14) (N := some 53) (v := ?_) (a' := ?_) #[true, true, true, true, true, true, true, true, true, true, true, true, true, true, true, false, false, false, false, false, false] rfl rfl (take_ofW HT_.out HW_.out (by kernel_rfl)) (fun _ _ _ h => h) (Or.inl ⟨by rfl, ?_⟩) hHeld ?_ ?_
                      rotate_left
                      · rintro w' ⟨s0, s1, s2, s3, s4, s5, s6, s7, s8, s9, s10, s11, s12⟩
                        go_simp
                        with_reducible rfl
                      rotate_left
                      · simp only [Act.put, List.setIfInBounds_toArray, List.set_cons_zero, List.set_cons_succ, i64_w, i32_w]
                        rfl
                      refine pure_ (i := 15) (N := some 54) (v := ?_) (a' := ?_) #[true, true, true, true, true, true, true, true, true, true, true, true, true, true, true, true, false, false, false, false, false] rfl rfl (any_of HT_.out (by kernel_rfl)) (fun _ _ _ h => h) (Or.inl ⟨by rfl, ?_⟩) ?_ ?_
                      rotate_left
                      · intro w'
                        go_simp
                        with_reducible rfl
                      rotate_left
                      · simp only [Act.put, List.setIfInBounds_toArray, List.set_cons_zero, List.set_cons_succ, i64_w, i32_w]
                        rfl
                      refine one_ (i := 16) (N := some 55) #[true, true, true, true, true, true, true, true, true, true, true, true, true, true, true, true, true, false, false, false, false] rfl rfl (one_of HT_.out (by kernel_rfl)) (by decide) (fun K hK => ?_)
                      refine goes_ Tryd.func30 (by kernel_rfl) rfl #[.string (a0.extract (((rd_T87 l1_3 x6_2).f0) : Int).toNat (((rd_T87 l1_3 x6_2).f1) : Int).toNat)] (by rfl) rfl rfl (by (try simp only [List.map_toArray, List.map_cons, List.map_nil]); first | done | rfl | (simp only [List.length_drop, List.length_take]; rfl)) ?_
                      with_reducible refine (spec_Unquote.calls k2 (a0.extract (((rd_T87 l1_3 x6_2).f0) : Int).toNat (((rd_T87 l1_3 x6_2).f1) : Int).toNat) t234 _ A38.out).mono ?_
                      rintro e w44 ⟨rfl, hb⟩
                      refine ⟨_, rfl, ?_⟩
                      have n0_ := Aside0.mk (Kd.R_below (by (with_reducible repeat (first | apply Kd.R_alloc | apply Kd.R_drewN | apply Kd.R_drew)); exact HO_231002.out) hb)
                      have n1_ := Aside0.mk (blk_below (g := gb228) (o := .cells #[.int .i64 a1_0, .int .i64 a1_1, .int .i64 a1_2, .slice (some ad232) l1_3.length c1_3, .slice A1_4 l1_4.length c1_4] 56 (0, 0)) (by (with_reducible repeat (first | refine blk_drewN ?_ _ | refine blk_drew ?_ | refine blk_alloc ?_ _)); exact BK228.out) hb)
                      have n2_ := Aside0.mk (blk_below (g := gb229) (o := .cells #[.int .i64 0, .string (⟨#[]⟩ : ByteArray), .slice none 0 0, .slice none 0 0] 36 (0, 0)) (by (with_reducible repeat (first | refine blk_drewN ?_ _ | refine blk_drew ?_ | refine blk_alloc ?_ _)); exact BK229.out) hb)
                      have n3_ := Aside0.mk (blk_below (g := gb230) (o := .cells #[.int .i64 a1_0, .string x231001_2, u231002, .slice none 0 0] 36 (0, 0)) (by (with_reducible repeat (first | refine blk_drewN ?_ _ | refine blk_drew ?_ | refine blk_alloc ?_ _)); exact BK230.out) hb)
                      have n4_ := Aside0.mk (below_step (by repeat (first | (with_reducible first | exact HB.out | apply below_alloc | apply pw_below_drewN | apply below_drew1 | refine below_set ?_ GE228.out | refine below_set ?_ GE229.out | refine below_set ?_ GE230.out) | exact HB.out)) hb)
                      clear HO_231002
                      clear BK228
                      clear BK229
                      clear BK230
                      clear HB
                      have HO_231002 := n0_
                      have BK228 := n1_
                      have BK229 := n2_
                      have BK230 := n3_
                      have HB := n4_
                      clear n0_ n1_ n2_ n3_ n4_
                      (try clear hb)
                      (try clear hb2)
                      (try clear hk)
                      (try clear hi)
                      refine hK.out _ _ ⟨(blk_cell BK230.out 0).trans rfl, (blk_cell BK230.out 1).trans rfl, (blk_cell BK230.out 2).trans rfl, (blk_cell BK230.out 3).trans rfl, (blk_cell BK228.out 0).trans rfl, (blk_cell BK228.out 1).trans rfl, (blk_cell BK228.out 2).trans rfl, (blk_cell BK228.out 3).trans rfl, (blk_cell BK228.out 4).trans rfl, ((HB.out.cell (World.block_lt_of_cell? w _ hw232_0)).trans hw232_0), ((HB.out.cell (World.block_lt_of_cell? w _ hw232_1)).trans hw232_1), ((HB.out.cell (World.block_lt_of_cell? w _ hw233_0)).trans hw233_0), ((HB.out.cell (World.block_lt_of_cell? w _ hw233_1)).trans hw233_1)⟩ (fun hHeld => ?_)
                      clear hK K
                      refine norm_ (a' := ?_) ?_ ?_
                      rotate_left
                      · show Act.put _ (some 55) _ = _
                        simp only [Act.put, List.setIfInBounds_toArray, List.set_cons_zero, List.set_cons_succ, i64_w, i32_w]
                        rfl
                      refine one_ (i := 17) (N := some 56) #[true, true, true, true, true, true, true, true, true, true, true, true, true, true, true, true, true, true, false, false, false] rfl rfl (one_of HT_.out (by kernel_rfl)) (by decide) (fun K hK => ?_)
                      refine value_ (w1 := ?_) (v := ?_) (by rfl) rfl ?_ ?_
                      rotate_left 2
                      · go_simp
                        constructor
                        · rfl
                        · rfl
                      refine hK.out _ _ ⟨(blk_cell (blk_alloc BK230.out _) 0).trans rfl, (blk_cell (blk_alloc BK230.out _) 1).trans rfl, (blk_cell (blk_alloc BK230.out _) 2).trans rfl, (blk_cell (blk_alloc BK230.out _) 3).trans rfl, (blk_cell (blk_alloc BK228.out _) 0).trans rfl, (blk_cell (blk_alloc BK228.out _) 1).trans rfl, (blk_cell (blk_alloc BK228.out _) 2).trans rfl, (blk_cell (blk_alloc BK228.out _) 3).trans rfl, (blk_cell (blk_alloc BK228.out _) 4).trans rfl, (World.cell?_alloc_lt _ _ _ (World.block_lt_of_cell? _ _ (((HB.out.cell (World.block_lt_of_cell? w _ hw232_0)).trans hw232_0)))).trans (((HB.out.cell (World.block_lt_of_cell? w _ hw232_0)).trans hw232_0)), (World.cell?_alloc_lt _ _ _ (World.block_lt_of_cell? _ _ (((HB.out.cell (World.block_lt_of_cell? w _ hw232_1)).trans hw232_1)))).trans (((HB.out.cell (World.block_lt_of_cell? w _ hw232_1)).trans hw232_1)), (World.cell?_alloc_lt _ _ _ (World.block_lt_of_cell? _ _ (((HB.out.cell (World.block_lt_of_cell? w _ hw233_0)).trans hw233_0)))).trans (((HB.out.cell (World.block_lt_of_cell? w _ hw233_0)).trans hw233_0)), (World.cell?_alloc_lt _ _ _ (World.block_lt_of_cell? _ _ (((HB.out.cell (World.block_lt_of_cell? w _ hw233_1)).trans hw233_1)))).trans (((HB.out.cell (World.block_lt_of_cell? w _ hw233_1)).trans hw233_1))⟩ (fun hHeld => ?_)
                      clear hK K
                      refine norm_ (a' := ?_) ?_ ?_
                      rotate_left
                      · show Act.put _ (some 56) _ = _
                        simp only [Act.put, List.setIfInBounds_toArray, List.set_cons_zero, List.set_cons_succ, i64_w, i32_w]
                        rfl
                      refine one_ (i := 18) (N := some 57) #[true, true, true, true, true, true, true, true, true, true, true, true, true, true, true, true, true, true, true, false, false] rfl rfl (one_of HT_.out (by kernel_rfl)) (by decide) (fun K hK => ?_)
                      refine Kd.R_append_step Kd.string (w0 := w) w.heap.size (by rfl) (.tmp 40) (.tmp 56) 33 9 (.string ⟨#[]⟩) 16 rfl Tryd.underlying33 info9 rfl (by decide) (by omega) u231002 x231002_2 t234 [.string t234] (fun _ => True) (fun _ => False) rfl rfl ?aP (fun _ hk => hk.elim) ?aF ?aO ?aB ?aS ?aL ?_
                      (case aP => exact rfl)
                      (case aB => exact (by repeat (first | (with_reducible first | exact HB.out | apply below_alloc | apply pw_below_drewN | apply below_drew1 | refine below_set ?_ GE228.out | refine below_set ?_ GE229.out | refine below_set ?_ GE230.out) | exact HB.out)))
                      (case aF => exact (fun _ _ => trivial))
                      (case aO => exact (by (with_reducible repeat (first | apply Kd.R_alloc | apply Kd.R_drewN | apply Kd.R_drew)); exact HO_231002.out))
                      (case aS => exact (below_size (by repeat (first | (with_reducible first | exact HB.out | apply below_alloc | apply pw_below_drewN | apply below_drew1 | refine below_set ?_ GE228.out | refine below_set ?_ GE229.out | refine below_set ?_ GE230.out) | exact HB.out))))
                      (case aL => have := LMc39.out; omega)
                      intro v236 w45 ho hb hg hat
                      rw [← Ny235.out] at ho
                      have n0_ := Aside0.mk (blk_grown (g := gb228) (o := .cells #[.int .i64 a1_0, .int .i64 a1_1, .int .i64 a1_2, .slice (some ad232) l1_3.length c1_3, .slice A1_4 l1_4.length c1_4] 56 (0, 0)) (by (with_reducible repeat (first | refine blk_drewN ?_ _ | refine blk_drew ?_ | refine blk_alloc ?_ _)); exact BK228.out) hg (Kd.R_ne HO_231002.out BK228.out (by decide)))
                      have n1_ := Aside0.mk (blk_grown (g := gb229) (o := .cells #[.int .i64 0, .string (⟨#[]⟩ : ByteArray), .slice none 0 0, .slice none 0 0] 36 (0, 0)) (by (with_reducible repeat (first | refine blk_drewN ?_ _ | refine blk_drew ?_ | refine blk_alloc ?_ _)); exact BK229.out) hg (Kd.R_ne HO_231002.out BK229.out (by decide)))
                      have n2_ := Aside0.mk (blk_grown (g := gb230) (o := .cells #[.int .i64 a1_0, .string x231001_2, u231002, .slice none 0 0] 36 (0, 0)) (by (with_reducible repeat (first | refine blk_drewN ?_ _ | refine blk_drew ?_ | refine blk_alloc ?_ _)); exact BK230.out) hg (Kd.R_ne HO_231002.out BK230.out (by decide)))
                      have n3_ := Aside0.mk (hb)
                      have n4_ := Aside0.mk (ho)
                      clear BK228
                      clear BK229
                      clear BK230
                      clear HB
                      clear HO_231002
                      have BK228 := n0_
                      have BK229 := n1_
                      have BK230 := n2_
                      have HB := n3_
                      have HO237 := n4_
                      clear n0_ n1_ n2_ n3_ n4_
                      clear ho hb hg hat
                      obtain ⟨Ao46, co46, eo46⟩ := Kd.R_slice HO237.out
                      (first | subst eo46 | (injection eo46 with f1_ f2_ f3_; have f4_ := f1_.symm; have f5_ := f3_.symm; clear f1_ f2_ f3_; subst f4_; subst f5_))
                      refine hK.out _ _ ⟨(blk_cell BK230.out 0).trans rfl, (blk_cell BK230.out 1).trans rfl, (blk_cell BK230.out 2).trans rfl, (blk_cell BK230.out 3).trans rfl, (blk_cell BK228.out 0).trans rfl, (blk_cell BK228.out 1).trans rfl, (blk_cell BK228.out 2).trans rfl, (blk_cell BK228.out 3).trans rfl, (blk_cell BK228.out 4).trans rfl, ((HB.out.cell (World.block_lt_of_cell? w _ hw232_0)).trans hw232_0), ((HB.out.cell (World.block_lt_of_cell? w _ hw232_1)).trans hw232_1), ((HB.out.cell (World.block_lt_of_cell? w _ hw233_0)).trans hw233_0), ((HB.out.cell (World.block_lt_of_cell? w _ hw233_1)).trans hw233_1)⟩ (fun hHeld => ?_)
                      clear hK K
                      refine norm_ (a' := ?_) ?_ ?_
                      rotate_left
                      · show Act.put _ (some 57) _ = _
                        simp only [Act.put, List.setIfInBounds_toArray, List.set_cons_zero, List.set_cons_succ, i64_w, i32_w]
                        rfl
                      refine pure_ (i := 19) (N := some 58) (v := ?_) (a' := ?_) #[true, true, true, true, true, true, true, true, true, true, true, true, true, true, true, true, true, true, true, true, false] rfl rfl (any_of HT_.out (by kernel_rfl)) (fun _ _ _ h => h) (Or.inl ⟨by rfl, ?_⟩) ?_ ?_
                      rotate_left
                      · intro w'
                        go_simp
                        with_reducible rfl
                      rotate_left
                      · simp only [Act.put, List.setIfInBounds_toArray, List.set_cons_zero, List.set_cons_succ, i64_w, i32_w]
                        rfl
                      refine last_ (i := 20) (N := none) #[true, true, true, true, true, true, true, true, true, true, true, true, true, true, true, true, true, true, true, true, true] rfl rfl (one_of HT_.out (by kernel_rfl)) (by decide) (fun K hK => ?_)
                      have hs47 : w45.cell? ⟨gb230, 2, none⟩ = some (u231002) := (blk_cell BK230.out 2).trans rfl
                      have hfs47 := blk_frozen BK230.out 2
                      have hns47_0 := NB228_230.out
                      have hns47_1 := NB229_230.out
                      have hms47_0 := NB230_228.out
                      have hms47_1 := NB230_229.out
                      refine skip_ (w1 := ?_) (by rfl) rfl ?_ ?_
                      rotate_left
                      · go_simp
                        rfl
                      refine hK.out _ _ ?_
                      clear hK K
                      refine done_ (done_of HT_.out (by kernel_rfl)) ?_
                      try go_wp2
                      go_roundg k2
                      case measure => have := HJ2.out; have := HK2.out; omega
                      case rel => exact ⟨(wrap64 (x6_2 + 1)), (y235), (.slice Ao46 y235.length co46), (by first | rfl | (simp; done) | (simp [*]; done)), H', ⟨by have := HJ2.out; have := HK2.out; omega⟩, ⟨by (with_reducible repeat (first | apply Kd.R_alloc | apply Kd.R_drewN | apply Kd.R_drew)); exact Kd.R_mono (Kd.R_far (p := ⟨gb230, 2, none⟩) (Kd.R_types HO237.out BK230.out (by decide)) (fun _ hk => hk.2) (.slice Ao46 y235.length co46)) (fun _ hk => trivial)⟩, ⟨by (with_reducible repeat (first | refine blk_drewN ?_ _ | refine blk_drew ?_ | refine blk_alloc ?_ _)); refine blk_far ?_ NB228_230.out _; (with_reducible repeat (first | refine blk_drewN ?_ _ | refine blk_drew ?_ | refine blk_alloc ?_ _)); exact BK228.out⟩, ⟨by (with_reducible repeat (first | refine blk_drewN ?_ _ | refine blk_drew ?_ | refine blk_alloc ?_ _)); refine blk_far ?_ NB229_230.out _; (with_reducible repeat (first | refine blk_drewN ?_ _ | refine blk_drew ?_ | refine blk_alloc ?_ _)); exact BK229.out⟩, ⟨by (with_reducible repeat (first | refine blk_drewN ?_ _ | refine blk_drew ?_ | refine blk_alloc ?_ _)); refine blk_put (cs := #[.int .i64 a1_0, .string x231001_2, u231002, .slice none 0 0]) ?_ 2 _ rfl; (with_reducible repeat (first | refine blk_drewN ?_ _ | refine blk_drew ?_ | refine blk_alloc ?_ _)); exact BK230.out⟩, ⟨by repeat (first | (with_reducible first | exact HB.out | apply below_alloc | apply pw_below_drewN | apply below_drew1 | refine below_set ?_ GE228.out | refine below_set ?_ GE229.out | refine below_set ?_ GE230.out) | exact HB.out)⟩⟩
                    · rw [if_neg c39] at H
                      exact absurd H (by simp)
                  · rw [if_neg c37] at H
                    exact absurd H (by simp)
                · rw [if_neg c36] at H
                  exact absurd H (by simp)
              · rw [if_neg c35] at H
                exact absurd H (by simp)
            · rw [if_neg c34] at H
              exact absurd H (by simp)
          · rw [if_neg c33] at H
            have c33b0 : decide (x6_2 < (l1_3.length : Int)) = false := decide_eq_false c33
            clear c33
            have H' := Aside0.mk H
            clear H
            have hnb48 := NB228_229.out
            have hnc48 := NB229_228.out
            have hnb49 := NB228_230.out
            have hnc49 := NB230_228.out
            have hcz50_0 : wr.cell? ⟨gb228, 0, none⟩ = some (.int .i64 a1_0) := (blk_cell BK228.out 0).trans rfl
            have hcz50_1 : wr.cell? ⟨gb228, 1, none⟩ = some (.int .i64 a1_1) := (blk_cell BK228.out 1).trans rfl
            have hcz50_2 : wr.cell? ⟨gb228, 2, none⟩ = some (.int .i64 a1_2) := (blk_cell BK228.out 2).trans rfl
            have hcz50_3 : wr.cell? ⟨gb228, 3, none⟩ = some (.slice A1_3 l1_3.length c1_3) := (blk_cell BK228.out 3).trans rfl
            have hcz50_4 : wr.cell? ⟨gb228, 4, none⟩ = some (.slice A1_4 l1_4.length c1_4) := (blk_cell BK228.out 4).trans rfl
            have hfz50_0 := blk_frozen BK228.out 0
            have hfz50_1 := blk_frozen BK228.out 1
            have hfz50_2 := blk_frozen BK228.out 2
            have hfz50_3 := blk_frozen BK228.out 3
            have hfz50_4 := blk_frozen BK228.out 4
            go_wp2
            try simp only [Act.put, List.setIfInBounds_toArray, List.set_cons_succ, List.set_cons_zero]
            go_loopg [7] k2 (fun kq v7 w' => ∃ (x7_3 : Int) (x231003_3 : List (S36)) (u231003 : Value), v7 = .int .i64 x7_3 ∧ Aside0 (spec_Tree.l1 kq a0 x7_3 a1_0 a1_1 a1_2 l1_3 l1_4 a1_0 x231001_2 x231002_2 x231003_3 = some (r1, r2, r3, r4)) ∧ Aside0 (kq ≤ k2) ∧ Aside0 (Kd.R Kd.string 9 w' w.heap.size (fun _ => True) u231002 x231002_2) ∧ Aside0 (Kd.R k36 36 w' w.heap.size (fun k_ => some k_ ≠ (u231002 : Value).ownBlock ∧ k_ ≠ gb229 ∧ k_ ≠ gb230) u231003 x231003_3) ∧ Aside0 (w'.heap[gb228]? = some (.cells #[.int .i64 a1_0, .int .i64 a1_1, .int .i64 a1_2, (.slice A1_3 l1_3.length c1_3), (.slice A1_4 l1_4.length c1_4)] 56 (0, 0))) ∧ Aside0 (w'.heap[gb229]? = some (.cells #[.int .i64 0, .string (⟨#[]⟩ : ByteArray), (.slice none 0 0), (.slice none 0 0)] 36 (0, 0))) ∧ Aside0 (w'.heap[gb230]? = some (.cells #[.int .i64 a1_0, .string x231001_2, u231002, u231003] 36 (0, 0))) ∧ Aside0 (Below w.heap.size w w'))
            case atStart => exact ⟨(0), (([] : List (S36))), (.slice none 0 0), (by first | rfl | (simp; done) | (simp [*]; done)), H', ⟨Nat.le_refl _⟩, ⟨by (with_reducible repeat (first | apply Kd.R_alloc | apply Kd.R_drewN | apply Kd.R_drew)); exact HO_231002.out⟩, ⟨by first | exact Kd.R_nil _ _ _ _ _ | exact Kd.N_nil _ _ _ _ _ | exact Kd.V_nil _ _ _ _ _ | exact Kd.Q_nil _ _ _ _ _ | exact Kd.S_nil _ _ _ _ _⟩, ⟨by (with_reducible repeat (first | refine blk_drewN ?_ _ | refine blk_drew ?_ | refine blk_alloc ?_ _)); exact BK228.out⟩, ⟨by (with_reducible repeat (first | refine blk_drewN ?_ _ | refine blk_drew ?_ | refine blk_alloc ?_ _)); exact BK229.out⟩, ⟨by (with_reducible repeat (first | refine blk_drewN ?_ _ | refine blk_drew ?_ | refine blk_alloc ?_ _)); exact BK230.out⟩, ⟨by repeat (first | (with_reducible first | exact HB.out | apply below_alloc | apply pw_below_drewN | apply below_drew1 | refine below_set ?_ GE228.out | refine below_set ?_ GE229.out | refine below_set ?_ GE230.out) | exact HB.out)⟩⟩
            case round =>
              clear H'
              try clear c1
              try clear c2
              try clear p2
              try clear q2
              try clear hx2
              try clear c3
              try clear c4
              try clear c6
              try clear p6
              try clear c9
              try clear c10
              try clear c13
              try clear c13b0
              try clear c13b1
              try clear c14
              try clear c14b0
              try clear c14b1
              try clear c15
              try clear c15b0
              try clear c15b1
              try clear c16
              try clear c16b0
              try clear c16b1
              try clear c17
              try clear c18
              try clear c20
              try clear c22
              try clear c22b0
              try clear c22b1
              try clear c23
              try clear c23b0
              try clear c23b1
              try clear p23
              try clear q23
              try clear hx23
              try clear c24
              try clear c24b0
              try clear c24b1
              try clear c25
              try clear c25b0
              try clear c25b1
              try clear c27
              try clear c28
              try clear c30
              try clear c31
              try clear c33
              try clear c33b0
              try clear c34
              try clear c34b0
              try clear c35
              try clear c35b0
              try clear c35b1
              try clear c36
              try clear c36b0
              try clear c36b1
              try clear c37
              try clear c37b0
              try clear c37b1
              try clear c39
              try clear c40
              try clear c41
              try clear c48
              try clear c49
              try clear hcz11_0
              try clear hcz11_1
              try clear hcz11_2
              try clear hcz11_3
              try clear hcz12_0
              try clear hcz12_1
              try clear hcz12_2
              try clear hcz12_3
              try clear hcz12_4
              try clear hcz19_0
              try clear hcz19_1
              try clear hcz19_2
              try clear hcz19_3
              try clear hcz19_4
              try clear hcz21_0
              try clear hcz21_1
              try clear hcz21_2
              try clear hcz21_3
              try clear hcz29_0
              try clear hcz29_1
              try clear hcz29_2
              try clear hcz29_3
              try clear hcz29_4
              try clear hcz32_0
              try clear hcz32_1
              try clear hcz32_2
              try clear hcz32_3
              try clear hcz42_0
              try clear hcz42_1
              try clear hcz42_2
              try clear hcz42_3
              try clear hcz42_4
              try clear hcz50_0
              try clear hcz50_1
              try clear hcz50_2
              try clear hcz50_3
              try clear hcz50_4
              try clear hcz7_0
              try clear hcz7_1
              try clear hcz7_2
              try clear hcz7_3
              try clear hcz7_4
              try clear hfz11_0
              try clear hfz11_1
              try clear hfz11_2
              try clear hfz11_3
              try clear hfz12_0
              try clear hfz12_1
              try clear hfz12_2
              try clear hfz12_3
              try clear hfz12_4
              try clear hfz19_0
              try clear hfz19_1
              try clear hfz19_2
              try clear hfz19_3
              try clear hfz19_4
              try clear hfz21_0
              try clear hfz21_1
              try clear hfz21_2
              try clear hfz21_3
              try clear hfz29_0
              try clear hfz29_1
              try clear hfz29_2
              try clear hfz29_3
              try clear hfz29_4
              try clear hfz32_0
              try clear hfz32_1
              try clear hfz32_2
              try clear hfz32_3
              try clear hfz42_0
              try clear hfz42_1
              try clear hfz42_2
              try clear hfz42_3
              try clear hfz42_4
              try clear hfz50_0
              try clear hfz50_1
              try clear hfz50_2
              try clear hfz50_3
              try clear hfz50_4
              try clear hfz7_0
              try clear hfz7_1
              try clear hfz7_2
              try clear hfz7_3
              try clear hfz7_4
              try clear hx232_0
              try clear hx232_1
              try clear hx233_0
              try clear hx233_1
              try clear p2
              try clear p232
              try clear p233
              try clear q232
              try clear q233
              obtain ⟨x7_3, x231003_3, u231003, rfl, HA, HK3, HO_231002, HO_231003, BK228, BK229, BK230, HB⟩ := hrel
              cases gk with
              | zero => exact absurd HA.out (by simp [spec_Tree.l1])
              | succ k3 =>
                have H := HA.out
                clear HA
                simp only [spec_Tree.l1] at H
                by_cases c51 : x7_3 < (l1_4.length : Int)
                · rw [if_pos c51] at H
                  have c51b0 : decide (x7_3 < (l1_4.length : Int)) = true := decide_eq_true c51
                  clear c51
                  by_cases c52 : 0 ≤ x7_3
                  · rw [if_pos c52] at H
                    have c52b0 : decide (0 ≤ x7_3) = true := decide_eq_true c52
                    clear c52
                    replace H := Option.bind_eq_some_iff.mp H
                    obtain ⟨⟨t239, t240, t241, t244⟩, A530, H⟩ := H
                    replace H : (if x231003_3.length < 1954687338268 then (spec_Tree.l1 k3 a0 (wrap64 (x7_3 + 1)) a1_0 a1_1 a1_2 l1_3 l1_4 a1_0 x231001_2 x231002_2 (x231003_3 ++ [(⟨t239, t240, t241, t244⟩ : S36)])) else (none)) = some (r1, r2, r3, r4) := H
                    have A53 := Aside0.mk A530
                    clear A530
                    by_cases c54 : x231003_3.length < 1954687338268
                    · rw [if_pos c54] at H
                      have LMc54 := Aside0.mk c54
                      clear c54
                      obtain ⟨y247, hy247⟩ : ∃ y_ : List (S36), y_ = (x231003_3 ++ [(⟨t239, t240, t241, t244⟩ : S36)]) := ⟨_, rfl⟩
                      replace H : (spec_Tree.l1 k3 a0 (wrap64 (x7_3 + 1)) a1_0 a1_1 a1_2 l1_3 l1_4 a1_0 x231001_2 x231002_2 y247) = some (r1, r2, r3, r4) := by first | (rw [hy247]; with_reducible exact H) | (have H2_ := (Option.bind_some _ _).symm.trans H; rw [hy247]; with_reducible exact H2_) | (have H2_ := (Option.bind_some _ _).symm.trans H; with_reducible exact H2_) | with_reducible exact H | (rw [hy247]; exact H) | exact H
                      have Ny247 := Aside0.mk hy247
                      clear hy247
                      have H' := Aside0.mk H
                      clear H
                      have hnb55 := NB228_229.out
                      have hnc55 := NB229_228.out
                      have hnb56 := NB228_230.out
                      have hnc56 := NB230_228.out
                      have hcz57_0 : wr.cell? ⟨gb228, 0, none⟩ = some (.int .i64 a1_0) := (blk_cell BK228.out 0).trans rfl
                      have hcz57_1 : wr.cell? ⟨gb228, 1, none⟩ = some (.int .i64 a1_1) := (blk_cell BK228.out 1).trans rfl
                      have hcz57_2 : wr.cell? ⟨gb228, 2, none⟩ = some (.int .i64 a1_2) := (blk_cell BK228.out 2).trans rfl
                      have hcz57_3 : wr.cell? ⟨gb228, 3, none⟩ = some (.slice A1_3 l1_3.length c1_3) := (blk_cell BK228.out 3).trans rfl
                      have hcz57_4 : wr.cell? ⟨gb228, 4, none⟩ = some (.slice A1_4 l1_4.length c1_4) := (blk_cell BK228.out 4).trans rfl
                      have hfz57_0 := blk_frozen BK228.out 0
                      have hfz57_1 := blk_frozen BK228.out 1
                      have hfz57_2 := blk_frozen BK228.out 2
                      have hfz57_3 := blk_frozen BK228.out 3
                      have hfz57_4 := blk_frozen BK228.out 4
                      try go_wp2
                      have n0_ := Aside0.mk (Kd.R_drew HO_231002.out)
                      have n1_ := Aside0.mk (Kd.R_drew HO_231003.out)
                      have n2_ := Aside0.mk (blk_drew BK228.out)
                      have n3_ := Aside0.mk (blk_drew BK229.out)
                      have n4_ := Aside0.mk (blk_drew BK230.out)
                      have n5_ := Aside0.mk (below_drew1 HB.out)
                      clear HO_231002
                      clear HO_231003
                      clear BK228
                      clear BK229
                      clear BK230
                      clear HB
                      have HO_231002 := n0_
                      have HO_231003 := n1_
                      have BK228 := n2_
                      have BK229 := n3_
                      have BK230 := n4_
                      have HB := n5_
                      clear n0_ n1_ n2_ n3_ n4_ n5_
                      have p238 : 0 ≤ (x7_3 : Int) := of_decide_eq_true (by first | (with_reducible assumption) | assumption)
                      have q238 : x7_3 < (l1_4.length : Int) := of_decide_eq_true (by first | (with_reducible assumption) | assumption)
                      obtain ⟨ad238, A238_3, c238_3, A238_4, c238_4, e238, hx238_0, hx238_1, hx238_2, hx238_3, hx238_4, hl238_3, hi238_3, hl238_4, hi238_4⟩ := at_T56 HR1_4.out x7_3 p238 q238
                      have hw238_4 := hx238_4
                      have hw238_3 := hx238_3
                      have hw238_2 := hx238_2
                      have hw238_1 := hx238_1
                      have hw238_0 := hx238_0
                      cases e238
                      replace hx238_0 := (HB.out.cell (World.block_lt_of_cell? w _ hx238_0)).trans hx238_0
                      replace hx238_1 := (HB.out.cell (World.block_lt_of_cell? w _ hx238_1)).trans hx238_1
                      replace hx238_2 := (HB.out.cell (World.block_lt_of_cell? w _ hx238_2)).trans hx238_2
                      replace hx238_3 := (HB.out.cell (World.block_lt_of_cell? w _ hx238_3)).trans hx238_3
                      replace hx238_4 := (HB.out.cell (World.block_lt_of_cell? w _ hx238_4)).trans hx238_4
                      have HR238_3 := Aside0.mk hi238_3
                      have HC238_3 := Aside0.mk hl238_3
                      clear hi238_3 hl238_3
                      have HR238_4 := Aside0.mk hi238_4
                      have HC238_4 := Aside0.mk hl238_4
                      clear hi238_4 hl238_4
                      replace p238 := eq_true p238
                      replace q238 := eq_true q238
                      refine start_ (n := 13) (S := fun w' => w'.cell? ⟨gb230, 0, none⟩ = some (.int .i64 a1_0) ∧ w'.cell? ⟨gb230, 1, none⟩ = some (.string x231001_2) ∧ w'.cell? ⟨gb230, 2, none⟩ = some (u231002) ∧ w'.cell? ⟨gb230, 3, none⟩ = some (u231003) ∧ w'.cell? ⟨gb228, 0, none⟩ = some (.int .i64 a1_0) ∧ w'.cell? ⟨gb228, 1, none⟩ = some (.int .i64 a1_1) ∧ w'.cell? ⟨gb228, 2, none⟩ = some (.int .i64 a1_2) ∧ w'.cell? ⟨gb228, 3, none⟩ = some (.slice A1_3 l1_3.length c1_3) ∧ w'.cell? ⟨gb228, 4, none⟩ = some (.slice (some ad238) l1_4.length c1_4) ∧ w'.cell? (ad238.add ((x7_3).toNat * 5)) = some (.int .i64 ((rd_T56 l1_4 x7_3).f0)) ∧ w'.cell? ⟨(ad238.add ((x7_3).toNat * 5)).block, (ad238.add ((x7_3).toNat * 5)).off + 1, none⟩ = some (.int .i64 ((rd_T56 l1_4 x7_3).f1)) ∧ w'.cell? ⟨(ad238.add ((x7_3).toNat * 5)).block, (ad238.add ((x7_3).toNat * 5)).off + 2, none⟩ = some (.int .i64 ((rd_T56 l1_4 x7_3).f2)) ∧ w'.cell? ⟨(ad238.add ((x7_3).toNat * 5)).block, (ad238.add ((x7_3).toNat * 5)).off + 3, none⟩ = some (.slice A238_3 ((rd_T56 l1_4 x7_3).f3).length c238_3) ∧ w'.cell? ⟨(ad238.add ((x7_3).toNat * 5)).block, (ad238.add ((x7_3).toNat * 5)).off + 4, none⟩ = some (.slice A238_4 ((rd_T56 l1_4 x7_3).f4).length c238_4)) (ds := [12]) #[false, false, false, false, false, false, false, false, false, false, false, false, false] (by kernel_rfl) rfl rfl ⟨(blk_cell BK230.out 0).trans rfl, (blk_cell BK230.out 1).trans rfl, (blk_cell BK230.out 2).trans rfl, (blk_cell BK230.out 3).trans rfl, (blk_cell BK228.out 0).trans rfl, (blk_cell BK228.out 1).trans rfl, (blk_cell BK228.out 2).trans rfl, (blk_cell BK228.out 3).trans rfl, (blk_cell BK228.out 4).trans rfl, ((HB.out.cell (World.block_lt_of_cell? w _ hw238_0)).trans hw238_0), ((HB.out.cell (World.block_lt_of_cell? w _ hw238_1)).trans hw238_1), ((HB.out.cell (World.block_lt_of_cell? w _ hw238_2)).trans hw238_2), ((HB.out.cell (World.block_lt_of_cell? w _ hw238_3)).trans hw238_3), ((HB.out.cell (World.block_lt_of_cell? w _ hw238_4)).trans hw238_4)⟩ (fun hHeld => ?_); refine with_tabW spec_Tree.tab14 spec_Tree.bits14 (fun HT_ HW_ => ?_)
                      generalize wr.drew = w58 at HO_231002 HO_231003 BK228 BK229 BK230 HB HR238_3 HR238_4 hx238_0 hx238_1 hx238_2 hx238_3 hx238_4 hHeld ⊢
                      refine pure_ (i := 0) (N := some 66) (v := ?_) (a' := ?_) #[true, false, false, false, false, false, false, false, false, false, false, false, false] rfl rfl (any_of HT_.out (by kernel_rfl)) (fun _ _ _ h => h) (Or.inl ⟨by rfl, ?_⟩) ?_ ?_
                      rotate_left
                      · intro w'
                        go_simp
                        with_reducible rfl
                      rotate_left
                      · simp only [Act.put, List.setIfInBounds_toArray, List.set_cons_zero, List.set_cons_succ, i64_w, i32_w]
                        rfl
                      refine pure_ (i := 2) (N := some 68) (v := ?_) (a' := ?_) #[true, false, true, false, false, false, false, false, false, false, false, false, false] rfl rfl (any_of HT_.out (by kernel_rfl)) (fun _ _ _ h => h) (Or.inl ⟨by rfl, ?_⟩) ?_ ?_
                      rotate_left
                      · intro w'
                        go_simp
                        with_reducible rfl
                      rotate_left
                      · simp only [Act.put, List.setIfInBounds_toArray, List.set_cons_zero, List.set_cons_succ, i64_w, i32_w]
                        rfl
                      refine pure_ (i := 3) (N := some 69) (v := ?_) (a' := ?_) #[true, false, true, true, false, false, false, false, false, false, false, false, false] rfl rfl (any_of HT_.out (by kernel_rfl)) (fun _ _ _ h => h) (Or.inl ⟨by rfl, ?_⟩) ?_ ?_
                      rotate_left
                      · intro w'
                        go_simp
                        with_reducible rfl
                      rotate_left
                      · simp only [Act.put, List.setIfInBounds_toArray, List.set_cons_zero, List.set_cons_succ, i64_w, i32_w]
                        rfl
                      refine pure_ (i := 5) (N := some 71) (v := ?_) (a' := ?_) #[true, false, true, true, false, true, false, false, false, false, false, false, false] rfl rfl (any_of HT_.out (by kernel_rfl)) (fun _ _ _ h => h) (Or.inl ⟨by rfl, ?_⟩) ?_ ?_
                      rotate_left
                      · intro w'
                        go_simp
                        with_reducible rfl
                      rotate_left
                      · simp only [Act.put, List.setIfInBounds_toArray, List.set_cons_zero, List.set_cons_succ, i64_w, i32_w]
                        rfl
                      refine take_ (i := 1) (N := some 67) (v := ?_) (a' := ?_) #[true, true, true, true, false, true, false, false, false, false, false, false, false] rfl rfl (take_ofW HT_.out HW_.out (by kernel_rfl)) (fun _ _ _ h => h) (Or.inl ⟨by rfl, ?_⟩) hHeld ?_ ?_
                      rotate_left
                      · rintro w' ⟨s0, s1, s2, s3, s4, s5, s6, s7, s8, s9, s10, s11, s12, s13⟩
                        go_simp
                        with_reducible rfl
                      rotate_left
                      · simp only [Act.put, List.setIfInBounds_toArray, List.set_cons_zero, List.set_cons_succ, i64_w, i32_w]
                        rfl
                      refine take_ (i := 4) (N := some 70) (v := ?_) (a' := ?_) #[true, true, true, true, true, true, false, false, false, false, false, false, false] rfl rfl (take_ofW HT_.out HW_.out (by kernel_rfl)) (fun _ _ _ h => h) (Or.inl ⟨by rfl, ?_⟩) hHeld ?_ ?_
                      rotate_left
                      · rintro w' ⟨s0, s1, s2, s3, s4, s5, s6, s7, s8, s9, s10, s11, s12, s13⟩
                        go_simp
                        with_reducible rfl
                      rotate_left
                      · simp only [Act.put, List.setIfInBounds_toArray, List.set_cons_zero, List.set_cons_succ, i64_w, i32_w]
                        rfl
                      refine pure_ (i := 6) (N := some 72) (v := ?_) (a' := ?_) #[true, true, true, true, true, true, true, false, false, false, false, false, false] rfl rfl (any_of HT_.out (by kernel_rfl)) (fun _ _ _ h => h) (Or.inl ⟨by rfl, ?_⟩) ?_ ?_
                      rotate_left
                      · intro w'
                        go_simp
                        with_reducible rfl
                      rotate_left
                      · simp only [Act.put, List.setIfInBounds_toArray, List.set_cons_zero, List.set_cons_succ, i64_w, i32_w]
                        rfl
                      refine take_ (i := 7) (N := some 73) (v := ?_) (a' := ?_) #[true, true, true, true, true, true, true, true, false, false, false, false, false] rfl rfl (take_ofW HT_.out HW_.out (by kernel_rfl)) (fun _ _ _ h => h) (Or.inl ⟨by rfl, ?_⟩) hHeld ?_ ?_
                      rotate_left
                      · rintro w' ⟨s0, s1, s2, s3, s4, s5, s6, s7, s8, s9, s10, s11, s12, s13⟩
                        go_simp
                        with_reducible rfl
                      rotate_left
                      · simp only [Act.put, List.setIfInBounds_toArray, List.set_cons_zero, List.set_cons_succ, i64_w, i32_w]
                        rfl
                      refine one_ (i := 8) (N := some 74) #[true, true, true, true, true, true, true, true, true, false, false, false, false] rfl rfl (one_of HT_.out (by kernel_rfl)) (by decide) (fun K hK => ?_)
                      refine goes_ Tryd.func43 (by kernel_rfl) rfl #[.string a0, .agg #[.int .i64 ((rd_T56 l1_4 x7_3).f0), .int .i64 ((rd_T56 l1_4 x7_3).f1), .int .i64 ((rd_T56 l1_4 x7_3).f2), .slice A238_3 ((rd_T56 l1_4 x7_3).f3).length c238_3, .slice A238_4 ((rd_T56 l1_4 x7_3).f4).length c238_4]] (by rfl) rfl rfl (by (try simp only [List.map_toArray, List.map_cons, List.map_nil]); first | done | rfl | (simp only [List.length_drop, List.length_take]; rfl)) ?_
                      with_reducible refine (ih k3 (by have := HJ2.out; have := HK2.out; have := HK3.out; omega) a0 ((rd_T56 l1_4 x7_3).f0) ((rd_T56 l1_4 x7_3).f1) ((rd_T56 l1_4 x7_3).f2) _ _ ((rd_T56 l1_4 x7_3).f3) _ _ ((rd_T56 l1_4 x7_3).f4) t239 t240 t241 t244 _ ?side1 ?side2 ?side3 ?side4 A53.out).mono ?_
                      (case side1 => repeat (first | exact (Kd.C_below HR238_3.out HB.out) | (with_reducible refine Kd.C_alloc ?_ _) | (with_reducible refine Kd.C_drewN ?_ _) | (with_reducible refine Kd.C_drew ?_)))
                      (case side2 => exact HC238_3.out)
                      (case side3 => repeat (first | exact (Kd.C_below HR238_4.out HB.out) | (with_reducible refine Kd.C_alloc ?_ _) | (with_reducible refine Kd.C_drewN ?_ _) | (with_reducible refine Kd.C_drew ?_)))
                      (case side4 => exact HC238_4.out)
                      rintro e w59 ⟨v242, v245, rfl, ho0, ho1, hb⟩
                      refine ⟨_, rfl, ?_⟩
                      have n0_ := Aside0.mk (Kd.R_elder' (by (with_reducible repeat (first | apply Kd.R_alloc | apply Kd.R_drewN | apply Kd.R_drew)); exact HO_231002.out) (Kd.R_base ho0) hb)
                      have n1_ := Aside0.mk (Kd.R_mono (Kd.R_told (Kd.R_told (Kd.R_old (by (with_reducible repeat (first | apply Kd.R_alloc | apply Kd.R_drewN | apply Kd.R_drew)); exact HO_231003.out) hb) (Kd.R_base ho0)) (Kd.R_base ho1)) (fun _ h_ => h_.1))
                      have n2_ := Aside0.mk (Kd.R_lower (Kd.R_new' ho0 (Kd.R_lt (by (with_reducible repeat (first | apply Kd.R_alloc | apply Kd.R_drewN | apply Kd.R_drew)); exact HO_231002.out))) (below_size (by repeat (first | (with_reducible first | exact HB.out | apply below_alloc | apply pw_below_drewN | apply below_drew1 | refine below_set ?_ GE228.out | refine below_set ?_ GE229.out | refine below_set ?_ GE230.out) | exact HB.out))))
                      have n3_ := Aside0.mk (Kd.R_lower (Kd.R_newB (Kd.R_newB (Kd.R_new' (Kd.R_new' ho1 (Kd.R_lt (by (with_reducible repeat (first | apply Kd.R_alloc | apply Kd.R_drewN | apply Kd.R_drew)); exact HO_231002.out))) (Kd.R_lt (by (with_reducible repeat (first | apply Kd.R_alloc | apply Kd.R_drewN | apply Kd.R_drew)); exact HO_231003.out))) (g := gb229) (o := .cells #[.int .i64 0, .string (⟨#[]⟩ : ByteArray), .slice none 0 0, .slice none 0 0] 36 (0, 0)) (by (with_reducible repeat (first | refine blk_drewN ?_ _ | refine blk_drew ?_ | refine blk_alloc ?_ _)); exact BK229.out)) (g := gb230) (o := .cells #[.int .i64 a1_0, .string x231001_2, u231002, u231003] 36 (0, 0)) (by (with_reducible repeat (first | refine blk_drewN ?_ _ | refine blk_drew ?_ | refine blk_alloc ?_ _)); exact BK230.out)) (below_size (by repeat (first | (with_reducible first | exact HB.out | apply below_alloc | apply pw_below_drewN | apply below_drew1 | refine below_set ?_ GE228.out | refine below_set ?_ GE229.out | refine below_set ?_ GE230.out) | exact HB.out))))
                      have n4_ := Aside0.mk (blk_below (g := gb228) (o := .cells #[.int .i64 a1_0, .int .i64 a1_1, .int .i64 a1_2, .slice A1_3 l1_3.length c1_3, .slice (some ad238) l1_4.length c1_4] 56 (0, 0)) (by (with_reducible repeat (first | refine blk_drewN ?_ _ | refine blk_drew ?_ | refine blk_alloc ?_ _)); exact BK228.out) hb)
                      have n5_ := Aside0.mk (blk_below (g := gb229) (o := .cells #[.int .i64 0, .string (⟨#[]⟩ : ByteArray), .slice none 0 0, .slice none 0 0] 36 (0, 0)) (by (with_reducible repeat (first | refine blk_drewN ?_ _ | refine blk_drew ?_ | refine blk_alloc ?_ _)); exact BK229.out) hb)
                      have n6_ := Aside0.mk (blk_below (g := gb230) (o := .cells #[.int .i64 a1_0, .string x231001_2, u231002, u231003] 36 (0, 0)) (by (with_reducible repeat (first | refine blk_drewN ?_ _ | refine blk_drew ?_ | refine blk_alloc ?_ _)); exact BK230.out) hb)
                      have n7_ := Aside0.mk (below_step (by repeat (first | (with_reducible first | exact HB.out | apply below_alloc | apply pw_below_drewN | apply below_drew1 | refine below_set ?_ GE228.out | refine below_set ?_ GE229.out | refine below_set ?_ GE230.out) | exact HB.out)) hb)
                      clear HO_231002
                      clear HO_231003
                      clear BK228
                      clear BK229
                      clear BK230
                      clear HB
                      have HO_231002 := n0_
                      have HO_231003 := n1_
                      have HO243 := n2_
                      have HO246 := n3_
                      have BK228 := n4_
                      have BK229 := n5_
                      have BK230 := n6_
                      have HB := n7_
                      clear n0_ n1_ n2_ n3_ n4_ n5_ n6_ n7_
                      (try clear hb)
                      (try clear hb2)
                      (try clear hk)
                      (try clear hi)
                      (try clear ho0)
                      (try clear ho1)
                      obtain ⟨Ao61, co61, eo61⟩ := Kd.R_slice HO243.out
                      (first | subst eo61 | (injection eo61 with f1_ f2_ f3_; have f4_ := f1_.symm; have f5_ := f3_.symm; clear f1_ f2_ f3_; subst f4_; subst f5_))
                      obtain ⟨Ao62, co62, eo62⟩ := Kd.R_slice HO246.out
                      (first | subst eo62 | (injection eo62 with f1_ f2_ f3_; have f4_ := f1_.symm; have f5_ := f3_.symm; clear f1_ f2_ f3_; subst f4_; subst f5_))
                      refine hK.out _ _ ⟨(blk_cell BK230.out 0).trans rfl, (blk_cell BK230.out 1).trans rfl, (blk_cell BK230.out 2).trans rfl, (blk_cell BK230.out 3).trans rfl, (blk_cell BK228.out 0).trans rfl, (blk_cell BK228.out 1).trans rfl, (blk_cell BK228.out 2).trans rfl, (blk_cell BK228.out 3).trans rfl, (blk_cell BK228.out 4).trans rfl, ((HB.out.cell (World.block_lt_of_cell? w _ hw238_0)).trans hw238_0), ((HB.out.cell (World.block_lt_of_cell? w _ hw238_1)).trans hw238_1), ((HB.out.cell (World.block_lt_of_cell? w _ hw238_2)).trans hw238_2), ((HB.out.cell (World.block_lt_of_cell? w _ hw238_3)).trans hw238_3), ((HB.out.cell (World.block_lt_of_cell? w _ hw238_4)).trans hw238_4)⟩ (fun hHeld => ?_)
                      clear hK K
                      refine norm_ (a' := ?_) ?_ ?_
                      rotate_left
                      · show Act.put _ (some 74) _ = _
                        simp only [Act.put, List.setIfInBounds_toArray, List.set_cons_zero, List.set_cons_succ, i64_w, i32_w]
                        rfl
                      refine one_ (i := 9) (N := some 75) #[true, true, true, true, true, true, true, true, true, true, false, false, false] rfl rfl (one_of HT_.out (by kernel_rfl)) (by decide) (fun K hK => ?_)
                      refine value_ (w1 := ?_) (v := ?_) (by rfl) rfl ?_ ?_
                      rotate_left 2
                      · go_simp
                        constructor
                        · rfl
                        · rfl
                      refine hK.out _ _ ⟨(blk_cell (blk_alloc BK230.out _) 0).trans rfl, (blk_cell (blk_alloc BK230.out _) 1).trans rfl, (blk_cell (blk_alloc BK230.out _) 2).trans rfl, (blk_cell (blk_alloc BK230.out _) 3).trans rfl, (blk_cell (blk_alloc BK228.out _) 0).trans rfl, (blk_cell (blk_alloc BK228.out _) 1).trans rfl, (blk_cell (blk_alloc BK228.out _) 2).trans rfl, (blk_cell (blk_alloc BK228.out _) 3).trans rfl, (blk_cell (blk_alloc BK228.out _) 4).trans rfl, (World.cell?_alloc_lt _ _ _ (World.block_lt_of_cell? _ _ (((HB.out.cell (World.block_lt_of_cell? w _ hw238_0)).trans hw238_0)))).trans (((HB.out.cell (World.block_lt_of_cell? w _ hw238_0)).trans hw238_0)), (World.cell?_alloc_lt _ _ _ (World.block_lt_of_cell? _ _ (((HB.out.cell (World.block_lt_of_cell? w _ hw238_1)).trans hw238_1)))).trans (((HB.out.cell (World.block_lt_of_cell? w _ hw238_1)).trans hw238_1)), (World.cell?_alloc_lt _ _ _ (World.block_lt_of_cell? _ _ (((HB.out.cell (World.block_lt_of_cell? w _ hw238_2)).trans hw238_2)))).trans (((HB.out.cell (World.block_lt_of_cell? w _ hw238_2)).trans hw238_2)), (World.cell?_alloc_lt _ _ _ (World.block_lt_of_cell? _ _ (((HB.out.cell (World.block_lt_of_cell? w _ hw238_3)).trans hw238_3)))).trans (((HB.out.cell (World.block_lt_of_cell? w _ hw238_3)).trans hw238_3)), (World.cell?_alloc_lt _ _ _ (World.block_lt_of_cell? _ _ (((HB.out.cell (World.block_lt_of_cell? w _ hw238_4)).trans hw238_4)))).trans (((HB.out.cell (World.block_lt_of_cell? w _ hw238_4)).trans hw238_4))⟩ (fun hHeld => ?_)
                      clear hK K
                      refine norm_ (a' := ?_) ?_ ?_
                      rotate_left
                      · show Act.put _ (some 75) _ = _
                        simp only [Act.put, List.setIfInBounds_toArray, List.set_cons_zero, List.set_cons_succ, i64_w, i32_w]
                        rfl
                      refine one_ (i := 10) (N := some 76) #[true, true, true, true, true, true, true, true, true, true, true, false, false] rfl rfl (one_of HT_.out (by kernel_rfl)) (by decide) (fun K hK => ?_)
                      refine Kd.R_append_step k36 (w0 := w) w.heap.size (by rfl) (.tmp 67) (.tmp 75) 34 36 (.agg #[(.int .i64 0), (.string ⟨#[]⟩), (.slice none 0 0), (.slice none 0 0)]) 72 rfl Tryd.underlying34 info36 rfl (by decide) (by omega) u231003 x231003_3 (⟨t239, t240, t241, t244⟩ : S36) [.int .i64 t239, .string t240, .slice Ao61 t241.length co61, .slice Ao62 t244.length co62] (fun k_ => some k_ ≠ (u231002 : Value).ownBlock ∧ k_ ≠ gb229 ∧ k_ ≠ gb230) (fun k_ => ((fun k_ => some k_ ≠ (u231002 : Value).ownBlock ∧ k_ ≠ gb229 ∧ k_ ≠ gb230)) k_ ∧ some k_ ≠ (u231003 : Value).ownBlock) rfl rfl ?aP (fun _ hk => hk) ?aF ?aO ?aB ?aS ?aL ?_
                      (case aP => exact k36_mkM _ _ _ (⟨t239, t240, t241, t244⟩ : S36) (Kd.R_mono (Kd.R_types (Kd.R_types (Kd.R_apart' (HO243.out) (Kd.R_typed HO_231003.out) (by decide)) BK229.out (by decide)) BK230.out (by decide)) (fun k_ hk => ⟨⟨hk.1.1.1.2, ⟨hk.1.2, hk.2⟩⟩, hk.1.1.2⟩)) (Kd.R_mono (HO246.out) (fun k_ hk => ⟨⟨hk.1.1.1.2, ⟨hk.1.2, hk.2⟩⟩, hk.1.1.2⟩)))
                      (case aB => exact (by repeat (first | (with_reducible first | exact HB.out | apply below_alloc | apply pw_below_drewN | apply below_drew1 | refine below_set ?_ GE228.out | refine below_set ?_ GE229.out | refine below_set ?_ GE230.out) | exact HB.out)))
                      (case aF => exact (fun k_ hk => ⟨Kd.fresh' (Kd.R_lt (by (with_reducible repeat (first | apply Kd.R_alloc | apply Kd.R_drewN | apply Kd.R_drew)); exact HO_231002.out)) k_ hk, Kd.freshB (g := gb229) (o := .cells #[.int .i64 0, .string (⟨#[]⟩ : ByteArray), .slice none 0 0, .slice none 0 0] 36 (0, 0)) (by (with_reducible repeat (first | refine blk_drewN ?_ _ | refine blk_drew ?_ | refine blk_alloc ?_ _)); exact BK229.out) k_ hk, Kd.freshB (g := gb230) (o := .cells #[.int .i64 a1_0, .string x231001_2, u231002, u231003] 36 (0, 0)) (by (with_reducible repeat (first | refine blk_drewN ?_ _ | refine blk_drew ?_ | refine blk_alloc ?_ _)); exact BK230.out) k_ hk⟩))
                      (case aO => exact (by (with_reducible repeat (first | apply Kd.R_alloc | apply Kd.R_drewN | apply Kd.R_drew)); exact Kd.R_mono HO_231003.out (fun _ hk => ⟨hk.1.1.1, ⟨hk.1.1.2.1, hk.1.1.2.2⟩⟩)))
                      (case aS => exact (below_size (by repeat (first | (with_reducible first | exact HB.out | apply below_alloc | apply pw_below_drewN | apply below_drew1 | refine below_set ?_ GE228.out | refine below_set ?_ GE229.out | refine below_set ?_ GE230.out) | exact HB.out))))
                      (case aL => have := LMc54.out; omega)
                      intro v248 w60 ho hb hg hat
                      rw [← Ny247.out] at ho
                      have n0_ := Aside0.mk (Kd.R_over' (by (with_reducible repeat (first | apply Kd.R_alloc | apply Kd.R_drewN | apply Kd.R_drew)); exact HO_231002.out) (Kd.R_typed (by (with_reducible repeat (first | apply Kd.R_alloc | apply Kd.R_drewN | apply Kd.R_drew)); exact HO_231003.out)) (by decide) hg)
                      have n1_ := Aside0.mk (blk_grown (g := gb228) (o := .cells #[.int .i64 a1_0, .int .i64 a1_1, .int .i64 a1_2, .slice A1_3 l1_3.length c1_3, .slice (some ad238) l1_4.length c1_4] 56 (0, 0)) (by (with_reducible repeat (first | refine blk_drewN ?_ _ | refine blk_drew ?_ | refine blk_alloc ?_ _)); exact BK228.out) hg (Kd.R_ne HO_231003.out BK228.out (by decide)))
                      have n2_ := Aside0.mk (blk_grown (g := gb229) (o := .cells #[.int .i64 0, .string (⟨#[]⟩ : ByteArray), .slice none 0 0, .slice none 0 0] 36 (0, 0)) (by (with_reducible repeat (first | refine blk_drewN ?_ _ | refine blk_drew ?_ | refine blk_alloc ?_ _)); exact BK229.out) hg (Kd.R_away HO_231003.out (fun _ hk => hk.1.1.2.1)))
                      have n3_ := Aside0.mk (blk_grown (g := gb230) (o := .cells #[.int .i64 a1_0, .string x231001_2, u231002, u231003] 36 (0, 0)) (by (with_reducible repeat (first | refine blk_drewN ?_ _ | refine blk_drew ?_ | refine blk_alloc ?_ _)); exact BK230.out) hg (Kd.R_away HO_231003.out (fun _ hk => hk.1.1.2.2)))
                      have n4_ := Aside0.mk (hb)
                      have n5_ := Aside0.mk (ho)
                      clear HO_231002
                      clear BK228
                      clear BK229
                      clear BK230
                      clear HB
                      clear HO_231003
                      clear HO243
                      clear HO246
                      have HO_231002 := n0_
                      have BK228 := n1_
                      have BK229 := n2_
                      have BK230 := n3_
                      have HB := n4_
                      have HO249 := n5_
                      clear n0_ n1_ n2_ n3_ n4_ n5_
                      clear ho hb hg hat
                      obtain ⟨Ao63, co63, eo63⟩ := Kd.R_slice HO249.out
                      (first | subst eo63 | (injection eo63 with f1_ f2_ f3_; have f4_ := f1_.symm; have f5_ := f3_.symm; clear f1_ f2_ f3_; subst f4_; subst f5_))
                      refine hK.out _ _ ⟨(blk_cell BK230.out 0).trans rfl, (blk_cell BK230.out 1).trans rfl, (blk_cell BK230.out 2).trans rfl, (blk_cell BK230.out 3).trans rfl, (blk_cell BK228.out 0).trans rfl, (blk_cell BK228.out 1).trans rfl, (blk_cell BK228.out 2).trans rfl, (blk_cell BK228.out 3).trans rfl, (blk_cell BK228.out 4).trans rfl, ((HB.out.cell (World.block_lt_of_cell? w _ hw238_0)).trans hw238_0), ((HB.out.cell (World.block_lt_of_cell? w _ hw238_1)).trans hw238_1), ((HB.out.cell (World.block_lt_of_cell? w _ hw238_2)).trans hw238_2), ((HB.out.cell (World.block_lt_of_cell? w _ hw238_3)).trans hw238_3), ((HB.out.cell (World.block_lt_of_cell? w _ hw238_4)).trans hw238_4)⟩ (fun hHeld => ?_)
                      clear hK K
                      refine norm_ (a' := ?_) ?_ ?_
                      rotate_left
                      · show Act.put _ (some 76) _ = _
                        simp only [Act.put, List.setIfInBounds_toArray, List.set_cons_zero, List.set_cons_succ, i64_w, i32_w]
                        rfl
                      refine pure_ (i := 11) (N := some 77) (v := ?_) (a' := ?_) #[true, true, true, true, true, true, true, true, true, true, true, true, false] rfl rfl (any_of HT_.out (by kernel_rfl)) (fun _ _ _ h => h) (Or.inl ⟨by rfl, ?_⟩) ?_ ?_
                      rotate_left
                      · intro w'
                        go_simp
                        with_reducible rfl
                      rotate_left
                      · simp only [Act.put, List.setIfInBounds_toArray, List.set_cons_zero, List.set_cons_succ, i64_w, i32_w]
                        rfl
                      refine last_ (i := 12) (N := none) #[true, true, true, true, true, true, true, true, true, true, true, true, true] rfl rfl (one_of HT_.out (by kernel_rfl)) (by decide) (fun K hK => ?_)
                      have hs64 : w60.cell? ⟨gb230, 3, none⟩ = some (u231003) := (blk_cell BK230.out 3).trans rfl
                      have hfs64 := blk_frozen BK230.out 3
                      have hns64_0 := NB228_230.out
                      have hns64_1 := NB229_230.out
                      have hms64_0 := NB230_228.out
                      have hms64_1 := NB230_229.out
                      refine skip_ (w1 := ?_) (by rfl) rfl ?_ ?_
                      rotate_left
                      · go_simp
                        rfl
                      refine hK.out _ _ ?_
                      clear hK K
                      refine done_ (done_of HT_.out (by kernel_rfl)) ?_
                      try go_wp2
                      go_roundg k3
                      case measure => have := HJ2.out; have := HK2.out; have := HK3.out; omega
                      case rel => exact ⟨(wrap64 (x7_3 + 1)), (y247), (.slice Ao63 y247.length co63), (by first | rfl | (simp; done) | (simp [*]; done)), H', ⟨by have := HJ2.out; have := HK2.out; have := HK3.out; omega⟩, ⟨by (with_reducible repeat (first | apply Kd.R_alloc | apply Kd.R_drewN | apply Kd.R_drew)); exact Kd.R_mono (Kd.R_far (p := ⟨gb230, 3, none⟩) (Kd.R_types HO_231002.out BK230.out (by decide)) (fun _ hk => hk.2) (.slice Ao63 y247.length co63)) (fun _ hk => trivial)⟩, ⟨by (with_reducible repeat (first | apply Kd.R_alloc | apply Kd.R_drewN | apply Kd.R_drew)); exact Kd.R_mono (Kd.R_far (p := ⟨gb230, 3, none⟩) (Kd.R_mono HO249.out (fun k_ hk => (⟨hk, hk.2.2⟩ : _ ∧ k_ ≠ gb230))) (fun _ hk => hk.2) (.slice Ao63 y247.length co63)) (fun _ hk => ⟨hk.1.1, ⟨hk.1.2.1, hk.1.2.2⟩⟩)⟩, ⟨by (with_reducible repeat (first | refine blk_drewN ?_ _ | refine blk_drew ?_ | refine blk_alloc ?_ _)); refine blk_far ?_ NB228_230.out _; (with_reducible repeat (first | refine blk_drewN ?_ _ | refine blk_drew ?_ | refine blk_alloc ?_ _)); exact BK228.out⟩, ⟨by (with_reducible repeat (first | refine blk_drewN ?_ _ | refine blk_drew ?_ | refine blk_alloc ?_ _)); refine blk_far ?_ NB229_230.out _; (with_reducible repeat (first | refine blk_drewN ?_ _ | refine blk_drew ?_ | refine blk_alloc ?_ _)); exact BK229.out⟩, ⟨by (with_reducible repeat (first | refine blk_drewN ?_ _ | refine blk_drew ?_ | refine blk_alloc ?_ _)); refine blk_put (cs := #[.int .i64 a1_0, .string x231001_2, u231002, u231003]) ?_ 3 _ rfl; (with_reducible repeat (first | refine blk_drewN ?_ _ | refine blk_drew ?_ | refine blk_alloc ?_ _)); exact BK230.out⟩, ⟨by repeat (first | (with_reducible first | exact HB.out | apply below_alloc | apply pw_below_drewN | apply below_drew1 | refine below_set ?_ GE228.out | refine below_set ?_ GE229.out | refine below_set ?_ GE230.out) | exact HB.out)⟩⟩
                    · rw [if_neg c54] at H
                      exact absurd H (by simp)
                  · rw [if_neg c52] at H
                    exact absurd H (by simp)
                · rw [if_neg c51] at H
                  have c51b0 : decide (x7_3 < (l1_4.length : Int)) = false := decide_eq_false c51
                  clear c51
                  simp only [Option.some.injEq, Prod.mk.injEq] at H
                  obtain ⟨rfl, rfl, rfl, rfl⟩ := H
                  have hnb65 := NB228_229.out
                  have hnc65 := NB229_228.out
                  have hnb66 := NB228_230.out
                  have hnc66 := NB230_228.out
                  have hcz67_0 : wr.cell? ⟨gb228, 0, none⟩ = some (.int .i64 a1_0) := (blk_cell BK228.out 0).trans rfl
                  have hcz67_1 : wr.cell? ⟨gb228, 1, none⟩ = some (.int .i64 a1_1) := (blk_cell BK228.out 1).trans rfl
                  have hcz67_2 : wr.cell? ⟨gb228, 2, none⟩ = some (.int .i64 a1_2) := (blk_cell BK228.out 2).trans rfl
                  have hcz67_3 : wr.cell? ⟨gb228, 3, none⟩ = some (.slice A1_3 l1_3.length c1_3) := (blk_cell BK228.out 3).trans rfl
                  have hcz67_4 : wr.cell? ⟨gb228, 4, none⟩ = some (.slice A1_4 l1_4.length c1_4) := (blk_cell BK228.out 4).trans rfl
                  have hfz67_0 := blk_frozen BK228.out 0
                  have hfz67_1 := blk_frozen BK228.out 1
                  have hfz67_2 := blk_frozen BK228.out 2
                  have hfz67_3 := blk_frozen BK228.out 3
                  have hfz67_4 := blk_frozen BK228.out 4
                  have hnb68 := NB230_229.out
                  have hnc68 := NB229_230.out
                  have hcz69_0 : wr.cell? ⟨gb230, 0, none⟩ = some (.int .i64 a1_0) := (blk_cell BK230.out 0).trans rfl
                  have hcz69_1 : wr.cell? ⟨gb230, 1, none⟩ = some (.string x231001_2) := (blk_cell BK230.out 1).trans rfl
                  have hcz69_2 : wr.cell? ⟨gb230, 2, none⟩ = some (u231002) := (blk_cell BK230.out 2).trans rfl
                  have hcz69_3 : wr.cell? ⟨gb230, 3, none⟩ = some (u231003) := (blk_cell BK230.out 3).trans rfl
                  have hfz69_0 := blk_frozen BK230.out 0
                  have hfz69_1 := blk_frozen BK230.out 1
                  have hfz69_2 := blk_frozen BK230.out 2
                  have hfz69_3 := blk_frozen BK230.out 3
                  have hcz70_0 : wr.cell? ⟨gb229, 0, none⟩ = some (.int .i64 0) := (blk_cell BK229.out 0).trans rfl
                  have hcz70_1 : wr.cell? ⟨gb229, 1, none⟩ = some (.string (⟨#[]⟩ : ByteArray)) := (blk_cell BK229.out 1).trans rfl
                  have hcz70_2 : wr.cell? ⟨gb229, 2, none⟩ = some (.slice none 0 0) := (blk_cell BK229.out 2).trans rfl
                  have hcz70_3 : wr.cell? ⟨gb229, 3, none⟩ = some (.slice none 0 0) := (blk_cell BK229.out 3).trans rfl
                  have hfz70_0 := blk_frozen BK229.out 0
                  have hfz70_1 := blk_frozen BK229.out 1
                  have hfz70_2 := blk_frozen BK229.out 2
                  have hfz70_3 := blk_frozen BK229.out 3
                  obtain ⟨Ao71, co71, eo71⟩ := Kd.R_slice HO_231002.out
                  subst eo71
                  obtain ⟨Ao72, co72, eo72⟩ := Kd.R_slice HO_231003.out
                  subst eo72
                  go_wp2
                  refine bodyPost_ret (results_cell_row rfl _ _ gb229 36 #[.int .i64 a1_0, .string x231001_2, .slice Ao71 x231002_2.length co71, .slice Ao72 x231003_3.length co72] (0, 0) _ rfl (by (with_reducible repeat (first | refine blk_drewN ?_ _ | refine blk_drew ?_ | refine blk_alloc ?_ _)); refine blk_put (cs := #[.int .i64 a1_0, .string x231001_2, .slice Ao71 x231002_2.length co71, .slice none 0 0]) ?_ 3 _ rfl; (with_reducible repeat (first | refine blk_drewN ?_ _ | refine blk_drew ?_ | refine blk_alloc ?_ _)); refine blk_put (cs := #[.int .i64 a1_0, .string x231001_2, .slice none 0 0, .slice none 0 0]) ?_ 2 _ rfl; (with_reducible repeat (first | refine blk_drewN ?_ _ | refine blk_drew ?_ | refine blk_alloc ?_ _)); refine blk_put (cs := #[.int .i64 a1_0, .string (⟨#[]⟩ : ByteArray), .slice none 0 0, .slice none 0 0]) ?_ 1 _ rfl; (with_reducible repeat (first | refine blk_drewN ?_ _ | refine blk_drew ?_ | refine blk_alloc ?_ _)); refine blk_put (cs := #[.int .i64 0, .string (⟨#[]⟩ : ByteArray), .slice none 0 0, .slice none 0 0]) ?_ 0 _ rfl; (with_reducible repeat (first | refine blk_drewN ?_ _ | refine blk_drew ?_ | refine blk_alloc ?_ _)); exact BK229.out) Tryd.underlying36 rfl (by kernel_rfl)) rfl ?_
                  exact ⟨_, _, by first | rfl | (simp [errW_none, errW_some] <;> rfl) | (simp [*, errW_none, errW_some] <;> rfl), by (with_reducible repeat (first | apply Kd.R_alloc | apply Kd.R_drewN | apply Kd.R_drew)); exact Kd.R_mono (Kd.R_far (p := ⟨gb229, 3, none⟩) (Kd.R_far (p := ⟨gb229, 2, none⟩) (Kd.R_far (p := ⟨gb229, 1, none⟩) (Kd.R_far (p := ⟨gb229, 0, none⟩) (Kd.R_types HO_231002.out BK229.out (by decide)) (fun _ hk => hk.2) (.int .i64 a1_0)) (fun _ hk => hk.2) (.string x231001_2)) (fun _ hk => hk.2) (.slice Ao71 x231002_2.length co71)) (fun _ hk => hk.2) (.slice Ao72 x231003_3.length co72)) (fun _ hk => trivial), by (with_reducible repeat (first | apply Kd.R_alloc | apply Kd.R_drewN | apply Kd.R_drew)); exact Kd.R_mono (Kd.R_far (p := ⟨gb229, 3, none⟩) (Kd.R_far (p := ⟨gb229, 2, none⟩) (Kd.R_far (p := ⟨gb229, 1, none⟩) (Kd.R_far (p := ⟨gb229, 0, none⟩) (Kd.R_mono HO_231003.out (fun k_ hk => (⟨hk, hk.2.1⟩ : _ ∧ k_ ≠ gb229))) (fun _ hk => hk.2) (.int .i64 a1_0)) (fun _ hk => hk.2) (.string x231001_2)) (fun _ hk => hk.2) (.slice Ao71 x231002_2.length co71)) (fun _ hk => hk.2) (.slice Ao72 x231003_3.length co72)) (fun _ hk => hk.1.1), by repeat (first | (with_reducible first | exact HB.out | apply below_alloc | apply pw_below_drewN | apply below_drew1 | refine below_set ?_ GE228.out | refine below_set ?_ GE229.out | refine below_set ?_ GE230.out) | exact HB.out)⟩

end Go.Proofs.YtdllbnecbbggfaaDoor.XFnGjQuoteValid
