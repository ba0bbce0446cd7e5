/- Proved here: parts of the law FnJpGetUnsafe (the texts XFnJpGetUnsafex9 XFnJpGetUnsafex10), no conditions of their own beyond what each theorem says. -/
import Derived.Test.YtcfhnfjkiljigaaDoorPa10
import Derived.Test.YtcfhnfjkiljigaaDoorPa14
import Derived.Test.YtcfhnfjkiljigaaDoorPa15
import Derived.Test.YtcfhnfjkiljigaaDoorPa13
section
-- Written by xprint.py of this session (a program that runs the kit's print and adds to it); Lean checks it.
namespace Go.Proofs.YtcfhnfjkiljigaaDoor.XFnJpGetUnsafe
open Go.RowKit Go.Proofs.YtcfhnfjkiljigaaDoorW.PrintWords Go.Proofs.YtcfhnfjkiljigaaDoorW.PrintLast Go.Proofs.YtcfhnfjkiljigaaDoorW.PrintMore
attribute [local go_sem] max2_int min2_int max_two min_two max_three min_three max_four min_four   -- for this text's walks alone
set_option linter.unusedVariables false
set_option linter.unusedSimpArgs false
/-! ### spec_Once: function 16 -/
mutual
def spec_Once.l0 : Nat → ByteArray → List ByteArray → Int → Int → Int → Int → Int → List (S65) → List (S27) → Option (Bool)
 | 0, _, _, _, _, _, _, _, _, _ => none
 | k + 1, x0, x13, x14, x15, x368000, x368001, x368002, x368003, x368004 => if x15 < x14 then (if 0 ≤ x15 then (if x15 < (x13.length : Int) then (if x368000 = 6 then (spec_Once.l1 k x0 (rdOf ByteArray.empty x13 x15) 0 0 x13 x14 x15 x368000 x368001 x368002 x368003 x368004) else ((spec_Step.f k x0 x368000 x368001 x368002 x368003 x368004 (rdOf ByteArray.empty x13 x15)).bind fun bt383 => (if bt383.2.2.2.2.2 = true then (spec_Once.l0 k x0 x13 x14 (wrap64 (x15 + 1)) bt383.1 bt383.2.1 bt383.2.2.1 bt383.2.2.2.1 bt383.2.2.2.2.1) else (some true)))) else (none)) else (none)) else (some true)
def spec_Once.l1 : Nat → ByteArray → ByteArray → Int → Int → List ByteArray → Int → Int → Int → Int → Int → List (S65) → List (S27) → Option (Bool)
 | 0, _, _, _, _, _, _, _, _, _, _, _, _ => none
 | k + 1, x0, x8, x9, x10, x13, x14, x15, x368000, x368001, x368002, x368003, x368004 => if x10 < (x368003.length : Int) then (if 0 ≤ x10 then (if 0 ≤ ((rd_T65 x368003 x10).f0) then (if ((rd_T65 x368003 x10).f0) ≤ ((rd_T65 x368003 x10).f1) then (if ((rd_T65 x368003 x10).f1) ≤ (x0.size : Int) then ((spec_Unquote.f k (x0.extract (((rd_T65 x368003 x10).f0) : Int).toNat (((rd_T65 x368003 x10).f1) : Int).toNat)).bind fun t371 => (if t371.toList = x8.toList then (spec_Once.l1 k x0 x8 (wrap64 (x9 + 1)) (wrap64 (x10 + 1)) x13 x14 x15 x368000 x368001 x368002 x368003 x368004) else (spec_Once.l1 k x0 x8 x9 (wrap64 (x10 + 1)) x13 x14 x15 x368000 x368001 x368002 x368003 x368004))) else (none)) else (none)) else (none)) else (none)) else (if x9 > 1 then (some false) else ((spec_Step.f k x0 x368000 x368001 x368002 x368003 x368004 x8).bind fun bt372 => (if bt372.2.2.2.2.2 = true then (spec_Once.l0 k x0 x13 x14 (wrap64 (x15 + 1)) bt372.1 bt372.2.1 bt372.2.2.1 bt372.2.2.2.1 bt372.2.2.2.2.1) else (some true))))
end
def spec_Once.f (k : Nat) (a0 : ByteArray) (a1_0 : Int) (a1_1 : Int) (a1_2 : Int) (l1_3 : List (S65)) (l1_4 : List (S27)) (l2 : List ByteArray) : Option (Bool) := spec_Once.l0 k a0 l2 (l2.length : Int) 0 a1_0 a1_1 a1_2 l1_3 l1_4
def spec_Once.T9 : Bool × List (List Nat × List Nat) := (true, [([], []), ([], []), ([1], [1]), ([], []), ([2, 3], [2, 3]), ([4], [4]), ([5], [5]), ([], []), ([7], [7]), ([], []), ([8, 9], [8, 9]), ([10], [10]), ([11], [11]), ([0, 6, 12], [0, 6, 12]), ([13], [13]), ([], []), ([14, 15], [14, 15])])
def spec_Once.B9 : List Nat := [0, 0, 2, 0, 14, 30, 62, 0, 128, 0, 896, 1920, 3968, 8191, 16383, 0, 65535]
theorem spec_Once.tab9 : rtab .any (opsOf Tryd.f16 9) = spec_Once.T9 := by kernel_rfl
theorem spec_Once.bits9 : waitsOk spec_Once.T9.2 spec_Once.B9 = true := by kernel_rfl
set_option maxHeartbeats 8000000 in
set_option maxRecDepth 100000 in
theorem spec_Once.calls (k : Nat) (a0 : ByteArray) (a1_0 : Int) (a1_1 : Int) (a1_2 : Int) (P1_3_ : Nat → Prop) (A1_3 : Option Addr) (c1_3 : Nat) (l1_3 : List (S65)) (P1_4_ : Nat → Prop) (A1_4 : Option Addr) (c1_4 : Nat) (l1_4 : List (S27)) (A2 : Option Addr) (c2 : Nat) (l2 : List ByteArray) (r : Bool) (w : World) (hs1_3 : Kd.V k65 65 w w.heap.size (fun k_ => P1_3_ k_) (.slice A1_3 l1_3.length c1_3) l1_3) (hs1_4 : Kd.V k27 27 w w.heap.size (fun k_ => P1_4_ k_) (.slice A1_4 l1_4.length c1_4) l1_4) (hr2 : Kd.C Kd.string w A2 l2.length l2) (hc2 : l2.length ≤ c2) (h : spec_Once.f k a0 a1_0 a1_1 a1_2 l1_3 l1_4 l2 = some r) :
  Calls Tryd.prog 16 #[.string a0, .agg #[.int .i64 a1_0, .int .i64 a1_1, .int .i64 a1_2, .slice A1_3 l1_3.length c1_3, .slice A1_4 l1_4.length c1_4], .slice A2 l2.length c2] w fun e w' => e = .returned (.bool r) ∧ Below w.heap.size w w' := by
 have hu27 := Tryd.underlying27
 have HO1_3 := aj (show Kd.V k65 65 w w.heap.size (fun k_ => ((P1_3_ k_ ∨ P1_4_ k_) ∨ w.heap.size ≤ k_)) (.slice A1_3 l1_3.length c1_3) l1_3 from Kd.V_mono hs1_3 (fun k_ hk => .inl (.inl hk)))
 have HO1_4 := aj (show Kd.V k27 27 w w.heap.size (fun k_ => ((P1_3_ k_ ∨ P1_4_ k_) ∨ w.heap.size ≤ k_)) (.slice A1_4 l1_4.length c1_4) l1_4 from Kd.V_mono hs1_4 (fun k_ hk => .inl (.inr hk)))
 have HR2 := aj hr2
 have HC2 := aj hc2
 clear hr2 hc2
 have HB := aj (Below.refl w.heap.size w)
 have H : (spec_Once.l0 k a0 l2 (l2.length : Int) 0 a1_0 a1_1 a1_2 l1_3 l1_4) = some r := h
 clear h
 have H' := aj H
 clear H
 go_enter Tryd.func16, Tryd.ntmps16
 go_wp2_with ((((with_reducible refine gate_dst (N := 4) rfl ?_); refine box_event ?hg (N := 4) ?hd (cs := #[.int .i64 a1_0, .int .i64 a1_1, .int .i64 a1_2, .slice A1_3 l1_3.length c1_3, .slice A1_4 l1_4.length c1_4]) (t := 27) ?hr ?_; (case hd => rfl); (case hg => rfl); (case hr => ((go_simp; done))); intro gb367 hg w4 hbox hb; replace HO1_3 := aj (Kd.V_below (Kd.V_elderB HO1_3.out gb367 (Nat.le_of_eq hg.symm)) hb); replace HO1_4 := aj (Kd.V_below (Kd.V_elderB HO1_4.out gb367 (Nat.le_of_eq hg.symm)) hb); have BK367 := aj (hbox); have GW367 := aj ((by rw [hg]; exact (below_size HB.out) : w.heap.size ≤ gb367)); have GE367 := aj ((by rw [hg]; exact (below_size HB.out) : w.heap.size ≤ gb367)); replace HB := aj (below_step HB.out hb); clear hb hbox hg)))
 try simp only [Act.put, List.setIfInBounds_toArray, List.set_cons_succ, List.set_cons_zero]
 go_loopg [15] k (fun kq v15 w' => ∃ (x15_1 : Int) (x368000_1 : Int) (x368001_1 : Int) (x368002_1 : Int) (x368003_1 : List (S65)) (x368004_1 : List (S27)) (u368003 : Value) (u368004 : Value), v15 = .int .i64 x15_1 ∧ Aside0 (spec_Once.l0 kq a0 l2 (l2.length : Int) x15_1 x368000_1 x368001_1 x368002_1 x368003_1 x368004_1 = some r) ∧ Aside0 (kq ≤ k) ∧ Aside0 (Kd.V k65 65 w' w.heap.size (fun k_ => ((P1_3_ k_ ∨ P1_4_ k_) ∨ w.heap.size ≤ k_) ∧ k_ ≠ gb367) u368003 x368003_1) ∧ Aside0 (Kd.V k27 27 w' w.heap.size (fun k_ => ((P1_3_ k_ ∨ P1_4_ k_) ∨ w.heap.size ≤ k_) ∧ k_ ≠ gb367) u368004 x368004_1) ∧ Aside0 (w'.heap[gb367]? = some (.cells #[.int .i64 x368000_1, .int .i64 x368001_1, .int .i64 x368002_1, u368003, u368004] 27 (0, 0))) ∧ Aside0 (Below w.heap.size w w'))
 case atStart => exact ⟨(0), (a1_0), (a1_1), (a1_2), (l1_3), (l1_4), (.slice A1_3 l1_3.length c1_3), (.slice A1_4 l1_4.length c1_4), (by rfl), H', ⟨Nat.le_refl _⟩, ⟨HO1_3.out⟩, ⟨HO1_4.out⟩, ⟨BK367.out⟩, ⟨HB.out⟩⟩
 case round =>
  clear H'
  obtain ⟨x15_1, x368000_1, x368001_1, x368002_1, x368003_1, x368004_1, u368003, u368004, rfl, HA, HK1, HO_368003, HO_368004, BK367, HB⟩ := hrel
  cases gk with
  | zero => exact absurd HA.out (by simp [spec_Once.l0])
  | succ k1 =>
   have H := HA.out
   clear HA
   simp only [spec_Once.l0] at H
   by_cases c5 : x15_1 < (l2.length : Int)
   ·rw [if_pos c5] at H
    have c5b0 : decide (x15_1 < (l2.length : Int)) = true := decide_eq_true c5
    clear c5
    by_cases c6 : 0 ≤ x15_1
    ·rw [if_pos c6] at H
     have c6b0 : decide (0 ≤ x15_1) = true := decide_eq_true c6
     clear c6
     by_cases c7 : x15_1 < (l2.length : Int)
     ·rw [if_pos c7] at H
      have c7b0 : decide (x15_1 < (l2.length : Int)) = true := decide_eq_true c7
      clear c7
      by_cases c8 : x368000_1 = 6
      ·rw [if_pos c8] at H
       have c8b0 : (x368000_1 == 6) = true := beq_iff_eq.mpr c8
       have c8b1 : (x368000_1 != 6) = false := bne_eq_false_iff_eq.mpr c8
       clear c8
       have H' := aj H
       clear H
       have p368 : 0 ≤ (x15_1 : Int) := of_decide_eq_true (by (with_reducible assumption))
       have q368 : x15_1 < (l2.length : Int) := of_decide_eq_true (by (with_reducible assumption))
       obtain ⟨ad368, e368, hx368_0⟩ := Kd.at_string HR2.out x15_1 p368 q368
       cases e368
       replace hx368_0 := (HB.out.cell (World.block_lt_of_cell? w _ hx368_0)).trans hx368_0
       replace p368 := eq_true p368
       replace q368 := eq_true q368
       have hcz9_0 : wr.cell? ⟨gb367, 0, none⟩ = some (.int .i64 x368000_1) := (blk_cell BK367.out 0).trans rfl
       have hcz9_1 : wr.cell? ⟨gb367, 1, none⟩ = some (.int .i64 x368001_1) := (blk_cell BK367.out 1).trans rfl
       have hcz9_2 : wr.cell? ⟨gb367, 2, none⟩ = some (.int .i64 x368002_1) := (blk_cell BK367.out 2).trans rfl
       have hcz9_3 : wr.cell? ⟨gb367, 3, none⟩ = some (u368003) := (blk_cell BK367.out 3).trans rfl
       have hcz9_4 : wr.cell? ⟨gb367, 4, none⟩ = some (u368004) := (blk_cell BK367.out 4).trans rfl
       have hfz9_0 := blk_frozen BK367.out 0
       have hfz9_1 := blk_frozen BK367.out 1
       have hfz9_2 := blk_frozen BK367.out 2
       have hfz9_3 := blk_frozen BK367.out 3
       have hfz9_4 := blk_frozen BK367.out 4
       go_wp2
       try simp only [Act.put, List.setIfInBounds_toArray, List.set_cons_succ, List.set_cons_zero]
       go_loopg [9, 10] k1 (fun kq v9 v10 w' => ∃ (x9_2 : Int) (x10_2 : Int), v9 = .int .i64 x9_2 ∧ v10 = .int .i64 x10_2 ∧ Aside0 (spec_Once.l1 kq a0 (rdOf ByteArray.empty l2 x15_1) x9_2 x10_2 l2 (l2.length : Int) x15_1 x368000_1 x368001_1 x368002_1 x368003_1 x368004_1 = some r) ∧ Aside0 (kq ≤ k1) ∧ Aside0 (Kd.V k65 65 w' w.heap.size (fun k_ => ((P1_3_ k_ ∨ P1_4_ k_) ∨ w.heap.size ≤ k_) ∧ k_ ≠ gb367) u368003 x368003_1) ∧ Aside0 (Kd.V k27 27 w' w.heap.size (fun k_ => ((P1_3_ k_ ∨ P1_4_ k_) ∨ w.heap.size ≤ k_) ∧ k_ ≠ gb367) u368004 x368004_1) ∧ Aside0 (w'.heap[gb367]? = some (.cells #[.int .i64 x368000_1, .int .i64 x368001_1, .int .i64 x368002_1, u368003, u368004] 27 (0, 0))) ∧ Aside0 (Below w.heap.size w w'))
       case atStart => exact ⟨(0), (0), (by rfl), (by rfl), H', ⟨Nat.le_refl _⟩, ⟨HO_368003.out⟩, ⟨HO_368004.out⟩, ⟨BK367.out⟩, ⟨HB.out⟩⟩
       case round =>
        clear H' c5b0 c6b0 c7b0 c8b0 c8b1 hcz9_0 hcz9_1 hcz9_2 hcz9_3 hcz9_4 hfz9_0 hfz9_1 hfz9_2 hfz9_3 hfz9_4 hx368_0 p368 q368
        obtain ⟨x9_2, x10_2, rfl, rfl, HA, HK2, HO_368003, HO_368004, BK367, HB⟩ := hrel
        cases gk with
        | zero => exact absurd HA.out (by simp [spec_Once.l1])
        | succ k2 =>
         have H := HA.out
         clear HA
         simp only [spec_Once.l1] at H
         by_cases c10 : x10_2 < (x368003_1.length : Int)
         ·rw [if_pos c10] at H
          have c10b0 : decide (x10_2 < (x368003_1.length : Int)) = true := decide_eq_true c10
          clear c10
          by_cases c11 : 0 ≤ x10_2
          ·rw [if_pos c11] at H
           have c11b0 : decide (0 ≤ x10_2) = true := decide_eq_true c11
           clear c11
           by_cases c12 : 0 ≤ ((rd_T65 x368003_1 x10_2).f0)
           ·rw [if_pos c12] at H
            have c12b0 := eq_true c12
            have c12b1 : decide (0 ≤ ((rd_T65 x368003_1 x10_2).f0)) = true := decide_eq_true c12
            clear c12
            by_cases c13 : ((rd_T65 x368003_1 x10_2).f0) ≤ ((rd_T65 x368003_1 x10_2).f1)
            ·rw [if_pos c13] at H
             have c13b0 := eq_true c13
             have c13b1 : decide (((rd_T65 x368003_1 x10_2).f0) ≤ ((rd_T65 x368003_1 x10_2).f1)) = true := decide_eq_true c13
             clear c13
             by_cases c14 : ((rd_T65 x368003_1 x10_2).f1) ≤ (a0.size : Int)
             ·rw [if_pos c14] at H
              have c14b0 := eq_true c14
              have c14b1 : decide (((rd_T65 x368003_1 x10_2).f1) ≤ (a0.size : Int)) = true := decide_eq_true c14
              clear c14
              obtain ⟨t371, A150, H⟩ := Option.bind_eq_some_iff.mp H
              try dsimp only at H
              have A15 := aj A150
              clear A150
              by_cases c16 : t371.toList = (rdOf ByteArray.empty l2 x15_1).toList
              ·rw [if_pos c16] at H
               have c16b0 : (t371.toList == (rdOf ByteArray.empty l2 x15_1).toList) = true := beq_iff_eq.mpr c16
               have c16b1 : (t371.toList != (rdOf ByteArray.empty l2 x15_1).toList) = false := bne_eq_false_iff_eq.mpr c16
               clear c16
               have H' := aj H
               clear H
               have hcz17_0 : wr.cell? ⟨gb367, 0, none⟩ = some (.int .i64 x368000_1) := (blk_cell BK367.out 0).trans rfl
               have hcz17_1 : wr.cell? ⟨gb367, 1, none⟩ = some (.int .i64 x368001_1) := (blk_cell BK367.out 1).trans rfl
               have hcz17_2 : wr.cell? ⟨gb367, 2, none⟩ = some (.int .i64 x368002_1) := (blk_cell BK367.out 2).trans rfl
               have hcz17_3 : wr.cell? ⟨gb367, 3, none⟩ = some (u368003) := (blk_cell BK367.out 3).trans rfl
               have hcz17_4 : wr.cell? ⟨gb367, 4, none⟩ = some (u368004) := (blk_cell BK367.out 4).trans rfl
               have hfz17_0 := blk_frozen BK367.out 0
               have hfz17_1 := blk_frozen BK367.out 1
               have hfz17_2 := blk_frozen BK367.out 2
               have hfz17_3 := blk_frozen BK367.out 3
               have hfz17_4 := blk_frozen BK367.out 4
               obtain ⟨Ao18, co18, eo18⟩ := Kd.V_slice HO_368003.out
               subst eo18
               try go_wp2
               have n0_ := aj (Kd.V_drew HO_368003.out)
               have n1_ := aj (Kd.V_drew HO_368004.out)
               have n2_ := aj (blk_drew BK367.out)
               have n3_ := aj (below_drew1 HB.out)
               clear HO_368003 HO_368004 BK367 HB
               have HO_368003 := n0_
               have HO_368004 := n1_
               have BK367 := n2_
               have HB := n3_
               clear n0_ n1_ n2_ n3_
               have p369 : 0 ≤ (x10_2 : Int) := of_decide_eq_true (by (with_reducible assumption))
               have q369 : x10_2 < (x368003_1.length : Int) := of_decide_eq_true (by (with_reducible assumption))
               obtain ⟨ad369, e369, hx369_0, hx369_1⟩ := at_T65 (Kd.V_reads' HO_368003.out).2.2 x10_2 p369 q369
               cases e369
               replace p369 := eq_true p369
               replace q369 := eq_true q369
               have p370 : 0 ≤ (x10_2 : Int) := of_decide_eq_true (by (with_reducible assumption))
               have q370 : x10_2 < (x368003_1.length : Int) := of_decide_eq_true (by (with_reducible assumption))
               obtain ⟨ad370, e370, hx370_0, hx370_1⟩ := at_T65 (Kd.V_reads' HO_368003.out).2.2 x10_2 p370 q370
               obtain rfl : ad369 = ad370 := (by injection e370)
               replace p370 := eq_true p370
               replace q370 := eq_true q370
               refine start_ (n := 17) (S := fun w' => w'.cell? ⟨gb367, 0, none⟩ = some (.int .i64 x368000_1) ∧ w'.cell? ⟨gb367, 1, none⟩ = some (.int .i64 x368001_1) ∧ w'.cell? ⟨gb367, 2, none⟩ = some (.int .i64 x368002_1) ∧ w'.cell? ⟨gb367, 3, none⟩ = some (.slice (some ad369) x368003_1.length co18) ∧ w'.cell? ⟨gb367, 4, none⟩ = some (u368004) ∧ w'.cell? (ad369.add ((x10_2).toNat * 2)) = some (.int .i64 ((rd_T65 x368003_1 x10_2).f0)) ∧ w'.cell? ⟨(ad369.add ((x10_2).toNat * 2)).block, (ad369.add ((x10_2).toNat * 2)).off + 1, none⟩ = some (.int .i64 ((rd_T65 x368003_1 x10_2).f1)) ∧ w'.cell? (ad369.add ((x10_2).toNat * 2)) = some (.int .i64 ((rd_T65 x368003_1 x10_2).f0)) ∧ w'.cell? ⟨(ad369.add ((x10_2).toNat * 2)).block, (ad369.add ((x10_2).toNat * 2)).off + 1, none⟩ = some (.int .i64 ((rd_T65 x368003_1 x10_2).f1))) (ds := []) #[false, false, false, false, false, false, false, false, false, false, false, false, false, false, false, false, false] (by kernel_rfl) rfl rfl ⟨(blk_cell BK367.out 0).trans rfl, (blk_cell BK367.out 1).trans rfl, (blk_cell BK367.out 2).trans rfl, (blk_cell BK367.out 3).trans rfl, (blk_cell BK367.out 4).trans rfl, hx369_0, hx369_1, hx370_0, hx370_1⟩ (fun hHeld => ?_); refine with_tabW spec_Once.tab9 spec_Once.bits9 (fun HT_ HW_ => ?_)
               generalize wr.drew = w19 at HO_368003 HO_368004 BK367 HB hx369_0 hx369_1 hx370_0 hx370_1 hHeld ⊢
               refine pure_ (i := 0) (N := some 29) (v := ?_) (a' := ?_) #[true, false, false, false, false, false, false, false, false, false, false, false, false, false, false, false, false] rfl rfl (any_of HT_.out (by kernel_rfl)) (fun _ _ _ h => h) (Or.inl ⟨by rfl, ?_⟩) ?_ ?_
               rotate_left
               ·intro w'
                go_simp
                with_reducible rfl
               rotate_left
               ·simp only [Act.put, List.setIfInBounds_toArray, List.set_cons_zero, List.set_cons_succ, i64_w, i32_w]
                rfl
               refine pure_ (i := 1) (N := some 30) (v := ?_) (a' := ?_) #[true, true, false, false, false, false, false, false, false, false, false, false, false, false, false, false, false] rfl rfl (any_of HT_.out (by kernel_rfl)) (fun _ _ _ h => h) (Or.inl ⟨by rfl, ?_⟩) ?_ ?_
               rotate_left
               ·intro w'
                go_simp
                with_reducible rfl
               rotate_left
               ·simp only [Act.put, List.setIfInBounds_toArray, List.set_cons_zero, List.set_cons_succ, i64_w, i32_w]
                rfl
               refine pure_ (i := 3) (N := some 32) (v := ?_) (a' := ?_) #[true, true, false, true, false, false, false, false, false, false, false, false, false, false, false, false, false] rfl rfl (any_of HT_.out (by kernel_rfl)) (fun _ _ _ h => h) (Or.inl ⟨by rfl, ?_⟩) ?_ ?_
               rotate_left
               ·intro w'
                go_simp
                with_reducible rfl
               rotate_left
               ·simp only [Act.put, List.setIfInBounds_toArray, List.set_cons_zero, List.set_cons_succ, i64_w, i32_w]
                rfl
               refine pure_ (i := 7) (N := some 36) (v := ?_) (a' := ?_) #[true, true, false, true, false, false, false, true, false, false, false, false, false, false, false, false, false] rfl rfl (any_of HT_.out (by kernel_rfl)) (fun _ _ _ h => h) (Or.inl ⟨by rfl, ?_⟩) ?_ ?_
               rotate_left
               ·intro w'
                go_simp
                with_reducible rfl
               rotate_left
               ·simp only [Act.put, List.setIfInBounds_toArray, List.set_cons_zero, List.set_cons_succ, i64_w, i32_w]
                rfl
               refine pure_ (i := 9) (N := some 38) (v := ?_) (a' := ?_) #[true, true, false, true, false, false, false, true, false, true, false, false, false, false, false, false, false] rfl rfl (any_of HT_.out (by kernel_rfl)) (fun _ _ _ h => h) (Or.inl ⟨by rfl, ?_⟩) ?_ ?_
               rotate_left
               ·intro w'
                go_simp
                with_reducible rfl
               rotate_left
               ·simp only [Act.put, List.setIfInBounds_toArray, List.set_cons_zero, List.set_cons_succ, i64_w, i32_w]
                rfl
               refine pure_ (i := 15) (N := some 44) (v := ?_) (a' := ?_) #[true, true, false, true, false, false, false, true, false, true, false, false, false, false, false, true, false] rfl rfl (any_of HT_.out (by kernel_rfl)) (fun _ _ _ h => h) (Or.inl ⟨by rfl, ?_⟩) ?_ ?_
               rotate_left
               ·intro w'
                go_simp
                with_reducible rfl
               rotate_left
               ·simp only [Act.put, List.setIfInBounds_toArray, List.set_cons_zero, List.set_cons_succ, i64_w, i32_w]
                rfl
               refine take_ (i := 2) (N := some 31) (v := ?_) (a' := ?_) #[true, true, true, true, false, false, false, true, false, true, false, false, false, false, false, true, false] rfl rfl (take_ofW HT_.out HW_.out (by kernel_rfl)) (fun _ _ _ h => h) (Or.inl ⟨by rfl, ?_⟩) hHeld ?_ ?_
               rotate_left
               ·rintro w' ⟨s0, s1, s2, s3, s4, s5, s6, s7, s8⟩
                go_simp
                with_reducible rfl
               rotate_left
               ·simp only [Act.put, List.setIfInBounds_toArray, List.set_cons_zero, List.set_cons_succ, i64_w, i32_w]
                rfl
               refine pure_ (i := 4) (N := some 33) (v := ?_) (a' := ?_) #[true, true, true, true, true, false, false, true, false, true, false, false, false, false, false, true, false] rfl rfl (any_of HT_.out (by kernel_rfl)) (fun _ _ _ h => h) (Or.inl ⟨by rfl, ?_⟩) ?_ ?_
               rotate_left
               ·intro w'
                go_simp
                with_reducible rfl
               rotate_left
               ·simp only [Act.put, List.setIfInBounds_toArray, List.set_cons_zero, List.set_cons_succ, i64_w, i32_w]
                rfl
               refine pure_ (i := 5) (N := some 34) (v := ?_) (a' := ?_) #[true, true, true, true, true, true, false, true, false, true, false, false, false, false, false, true, false] rfl rfl (any_of HT_.out (by kernel_rfl)) (fun _ _ _ h => h) (Or.inl ⟨by rfl, ?_⟩) ?_ ?_
               rotate_left
               ·intro w'
                go_simp
                with_reducible rfl
               rotate_left
               ·simp only [Act.put, List.setIfInBounds_toArray, List.set_cons_zero, List.set_cons_succ, i64_w, i32_w]
                rfl
               refine take_ (i := 6) (N := some 35) (v := ?_) (a' := ?_) #[true, true, true, true, true, true, true, true, false, true, false, false, false, false, false, true, false] rfl rfl (take_ofW HT_.out HW_.out (by kernel_rfl)) (fun _ _ _ h => h) (Or.inl ⟨by rfl, ?_⟩) hHeld ?_ ?_
               rotate_left
               ·rintro w' ⟨s0, s1, s2, s3, s4, s5, s6, s7, s8⟩
                go_simp
                with_reducible rfl
               rotate_left
               ·simp only [Act.put, List.setIfInBounds_toArray, List.set_cons_zero, List.set_cons_succ, i64_w, i32_w]
                rfl
               refine take_ (i := 8) (N := some 37) (v := ?_) (a' := ?_) #[true, true, true, true, true, true, true, true, true, true, false, false, false, false, false, true, false] rfl rfl (take_ofW HT_.out HW_.out (by kernel_rfl)) (fun _ _ _ h => h) (Or.inl ⟨by rfl, ?_⟩) hHeld ?_ ?_
               rotate_left
               ·rintro w' ⟨s0, s1, s2, s3, s4, s5, s6, s7, s8⟩
                go_simp
                with_reducible rfl
               rotate_left
               ·simp only [Act.put, List.setIfInBounds_toArray, List.set_cons_zero, List.set_cons_succ, i64_w, i32_w]
                rfl
               refine pure_ (i := 10) (N := some 39) (v := ?_) (a' := ?_) #[true, true, true, true, true, true, true, true, true, true, true, false, false, false, false, true, false] rfl rfl (any_of HT_.out (by kernel_rfl)) (fun _ _ _ h => h) (Or.inl ⟨by rfl, ?_⟩) ?_ ?_
               rotate_left
               ·intro w'
                go_simp
                with_reducible rfl
               rotate_left
               ·simp only [Act.put, List.setIfInBounds_toArray, List.set_cons_zero, List.set_cons_succ, i64_w, i32_w]
                rfl
               refine pure_ (i := 11) (N := some 40) (v := ?_) (a' := ?_) #[true, true, true, true, true, true, true, true, true, true, true, true, false, false, false, true, false] rfl rfl (any_of HT_.out (by kernel_rfl)) (fun _ _ _ h => h) (Or.inl ⟨by rfl, ?_⟩) ?_ ?_
               rotate_left
               ·intro w'
                go_simp
                with_reducible rfl
               rotate_left
               ·simp only [Act.put, List.setIfInBounds_toArray, List.set_cons_zero, List.set_cons_succ, i64_w, i32_w]
                rfl
               refine take_ (i := 12) (N := some 41) (v := ?_) (a' := ?_) #[true, true, true, true, true, true, true, true, true, true, true, true, true, false, false, true, false] rfl rfl (take_ofW HT_.out HW_.out (by kernel_rfl)) (fun _ _ _ h => h) (Or.inl ⟨by rfl, ?_⟩) hHeld ?_ ?_
               rotate_left
               ·rintro w' ⟨s0, s1, s2, s3, s4, s5, s6, s7, s8⟩
                go_simp
                with_reducible rfl
               rotate_left
               ·simp only [Act.put, List.setIfInBounds_toArray, List.set_cons_zero, List.set_cons_succ, i64_w, i32_w]
                rfl
               refine pure_ (i := 13) (N := some 42) (v := ?_) (a' := ?_) #[true, true, true, true, true, true, true, true, true, true, true, true, true, true, false, true, false] rfl rfl (any_of HT_.out (by kernel_rfl)) (fun _ _ _ h => h) (Or.inl ⟨by rfl, ?_⟩) ?_ ?_
               rotate_left
               ·intro w'
                go_simp
                with_reducible rfl
               rotate_left
               ·simp only [Act.put, List.setIfInBounds_toArray, List.set_cons_zero, List.set_cons_succ, i64_w, i32_w]
                rfl
               refine one_ (i := 14) (N := some 43) #[true, true, true, true, true, true, true, true, true, true, true, true, true, true, true, true, false] rfl rfl (one_of HT_.out (by kernel_rfl)) (by decide) (fun K hK => ?_)
               refine goes_ Tryd.func26 (by kernel_rfl) rfl #[.string (a0.extract (((rd_T65 x368003_1 x10_2).f0) : Int).toNat (((rd_T65 x368003_1 x10_2).f1) : Int).toNat)] (by rfl) rfl rfl (by (try simp only [List.map_toArray, List.map_cons, List.map_nil]); rfl) ?_
               with_reducible refine (spec_Unquote.calls k2 (a0.extract (((rd_T65 x368003_1 x10_2).f0) : Int).toNat (((rd_T65 x368003_1 x10_2).f1) : Int).toNat) t371 _ A15.out).mono ?_
               rintro e w20 ⟨rfl, hb⟩
               have HS5_ := (hb.cell (World.block_lt_of_cell? _ _ (hHeld.2.2.2.2.2.1))).trans (hHeld.2.2.2.2.2.1)
               have HS6_ := (hb.cell (World.block_lt_of_cell? _ _ (hHeld.2.2.2.2.2.2.1))).trans (hHeld.2.2.2.2.2.2.1)
               have HS7_ := (hb.cell (World.block_lt_of_cell? _ _ (hHeld.2.2.2.2.2.2.2.1))).trans (hHeld.2.2.2.2.2.2.2.1)
               have HS8_ := (hb.cell (World.block_lt_of_cell? _ _ (hHeld.2.2.2.2.2.2.2.2))).trans (hHeld.2.2.2.2.2.2.2.2)
               refine ⟨_, rfl, ?_⟩
               have n0_ := aj (Kd.V_below HO_368003.out hb)
               have n1_ := aj (Kd.V_below HO_368004.out hb)
               have n2_ := aj (blk_below BK367.out hb)
               have n3_ := aj (below_step HB.out hb)
               clear HO_368003 HO_368004 BK367 HB
               have HO_368003 := n0_
               have HO_368004 := n1_
               have BK367 := n2_
               have HB := n3_
               clear n0_ n1_ n2_ n3_ hb
               refine hK.out _ _ ⟨(blk_cell BK367.out 0).trans rfl, (blk_cell BK367.out 1).trans rfl, (blk_cell BK367.out 2).trans rfl, (blk_cell BK367.out 3).trans rfl, (blk_cell BK367.out 4).trans rfl, HS5_, HS6_, HS7_, HS8_⟩ (fun hHeld => ?_)
               clear hK K
               refine norm_ (a' := ?_) ?_ ?_
               rotate_left
               ·show Act.put _ (some 43) _ = _
                simp only [Act.put, List.setIfInBounds_toArray, List.set_cons_zero, List.set_cons_succ, i64_w, i32_w]
                rfl
               refine pure_ (i := 16) (N := some 45) (v := ?_) (a' := ?_) #[true, true, true, true, true, true, true, true, true, true, true, true, true, true, true, true, true] rfl rfl (any_of HT_.out (by kernel_rfl)) (fun _ _ _ h => h) (Or.inl ⟨by rfl, ?_⟩) ?_ ?_
               rotate_left
               ·intro w'
                go_simp
                with_reducible rfl
               rotate_left
               ·simp only [Act.put, List.setIfInBounds_toArray, List.set_cons_zero, List.set_cons_succ, i64_w, i32_w]
                rfl
               refine done_ (done_of HT_.out (by kernel_rfl)) ?_
               try go_wp2
               go_roundg k2
               case measure => have := HK1.out; have := HK2.out; omega
               case rel => exact ⟨(wrap64 (x9_2 + 1)), (wrap64 (x10_2 + 1)), (by rfl), (by rfl), H', ⟨by have := HK1.out; have := HK2.out; omega⟩, ⟨HO_368003.out⟩, ⟨HO_368004.out⟩, ⟨BK367.out⟩, ⟨HB.out⟩⟩
              ·rw [if_neg c16] at H
               have c16b0 : (t371.toList == (rdOf ByteArray.empty l2 x15_1).toList) = false := beq_eq_false_iff_ne.mpr c16
               have c16b1 : (t371.toList != (rdOf ByteArray.empty l2 x15_1).toList) = true := bne_iff_ne.mpr c16
               have H' := aj H
               clear H
               have hcz21_0 : wr.cell? ⟨gb367, 0, none⟩ = some (.int .i64 x368000_1) := (blk_cell BK367.out 0).trans rfl
               have hcz21_1 : wr.cell? ⟨gb367, 1, none⟩ = some (.int .i64 x368001_1) := (blk_cell BK367.out 1).trans rfl
               have hcz21_2 : wr.cell? ⟨gb367, 2, none⟩ = some (.int .i64 x368002_1) := (blk_cell BK367.out 2).trans rfl
               have hcz21_3 : wr.cell? ⟨gb367, 3, none⟩ = some (u368003) := (blk_cell BK367.out 3).trans rfl
               have hcz21_4 : wr.cell? ⟨gb367, 4, none⟩ = some (u368004) := (blk_cell BK367.out 4).trans rfl
               have hfz21_0 := blk_frozen BK367.out 0
               have hfz21_1 := blk_frozen BK367.out 1
               have hfz21_2 := blk_frozen BK367.out 2
               have hfz21_3 := blk_frozen BK367.out 3
               have hfz21_4 := blk_frozen BK367.out 4
               obtain ⟨Ao22, co22, eo22⟩ := Kd.V_slice HO_368003.out
               subst eo22
               try go_wp2
               have n0_ := aj (Kd.V_drew HO_368003.out)
               have n1_ := aj (Kd.V_drew HO_368004.out)
               have n2_ := aj (blk_drew BK367.out)
               have n3_ := aj (below_drew1 HB.out)
               clear HO_368003 HO_368004 BK367 HB
               have HO_368003 := n0_
               have HO_368004 := n1_
               have BK367 := n2_
               have HB := n3_
               clear n0_ n1_ n2_ n3_
               have p369 : 0 ≤ (x10_2 : Int) := of_decide_eq_true (by (with_reducible assumption))
               have q369 : x10_2 < (x368003_1.length : Int) := of_decide_eq_true (by (with_reducible assumption))
               obtain ⟨ad369, e369, hx369_0, hx369_1⟩ := at_T65 (Kd.V_reads' HO_368003.out).2.2 x10_2 p369 q369
               cases e369
               replace p369 := eq_true p369
               replace q369 := eq_true q369
               have p370 : 0 ≤ (x10_2 : Int) := of_decide_eq_true (by (with_reducible assumption))
               have q370 : x10_2 < (x368003_1.length : Int) := of_decide_eq_true (by (with_reducible assumption))
               obtain ⟨ad370, e370, hx370_0, hx370_1⟩ := at_T65 (Kd.V_reads' HO_368003.out).2.2 x10_2 p370 q370
               obtain rfl : ad369 = ad370 := (by injection e370)
               replace p370 := eq_true p370
               replace q370 := eq_true q370
               refine start_ (n := 17) (S := fun w' => w'.cell? ⟨gb367, 0, none⟩ = some (.int .i64 x368000_1) ∧ w'.cell? ⟨gb367, 1, none⟩ = some (.int .i64 x368001_1) ∧ w'.cell? ⟨gb367, 2, none⟩ = some (.int .i64 x368002_1) ∧ w'.cell? ⟨gb367, 3, none⟩ = some (.slice (some ad369) x368003_1.length co22) ∧ w'.cell? ⟨gb367, 4, none⟩ = some (u368004) ∧ w'.cell? (ad369.add ((x10_2).toNat * 2)) = some (.int .i64 ((rd_T65 x368003_1 x10_2).f0)) ∧ w'.cell? ⟨(ad369.add ((x10_2).toNat * 2)).block, (ad369.add ((x10_2).toNat * 2)).off + 1, none⟩ = some (.int .i64 ((rd_T65 x368003_1 x10_2).f1)) ∧ w'.cell? (ad369.add ((x10_2).toNat * 2)) = some (.int .i64 ((rd_T65 x368003_1 x10_2).f0)) ∧ w'.cell? ⟨(ad369.add ((x10_2).toNat * 2)).block, (ad369.add ((x10_2).toNat * 2)).off + 1, none⟩ = some (.int .i64 ((rd_T65 x368003_1 x10_2).f1))) (ds := []) #[false, false, false, false, false, false, false, false, false, false, false, false, false, false, false, false, false] (by kernel_rfl) rfl rfl ⟨(blk_cell BK367.out 0).trans rfl, (blk_cell BK367.out 1).trans rfl, (blk_cell BK367.out 2).trans rfl, (blk_cell BK367.out 3).trans rfl, (blk_cell BK367.out 4).trans rfl, hx369_0, hx369_1, hx370_0, hx370_1⟩ (fun hHeld => ?_); refine with_tabW spec_Once.tab9 spec_Once.bits9 (fun HT_ HW_ => ?_)
               generalize wr.drew = w23 at HO_368003 HO_368004 BK367 HB hx369_0 hx369_1 hx370_0 hx370_1 hHeld ⊢
               refine pure_ (i := 0) (N := some 29) (v := ?_) (a' := ?_) #[true, false, false, false, false, false, false, false, false, false, false, false, false, false, false, false, false] rfl rfl (any_of HT_.out (by kernel_rfl)) (fun _ _ _ h => h) (Or.inl ⟨by rfl, ?_⟩) ?_ ?_
               rotate_left
               ·intro w'
                go_simp
                with_reducible rfl
               rotate_left
               ·simp only [Act.put, List.setIfInBounds_toArray, List.set_cons_zero, List.set_cons_succ, i64_w, i32_w]
                rfl
               refine pure_ (i := 1) (N := some 30) (v := ?_) (a' := ?_) #[true, true, false, false, false, false, false, false, false, false, false, false, false, false, false, false, false] rfl rfl (any_of HT_.out (by kernel_rfl)) (fun _ _ _ h => h) (Or.inl ⟨by rfl, ?_⟩) ?_ ?_
               rotate_left
               ·intro w'
                go_simp
                with_reducible rfl
               rotate_left
               ·simp only [Act.put, List.setIfInBounds_toArray, List.set_cons_zero, List.set_cons_succ, i64_w, i32_w]
                rfl
               refine pure_ (i := 3) (N := some 32) (v := ?_) (a' := ?_) #[true, true, false, true, false, false, false, false, false, false, false, false, false, false, false, false, false] rfl rfl (any_of HT_.out (by kernel_rfl)) (fun _ _ _ h => h) (Or.inl ⟨by rfl, ?_⟩) ?_ ?_
               rotate_left
               ·intro w'
                go_simp
                with_reducible rfl
               rotate_left
               ·simp only [Act.put, List.setIfInBounds_toArray, List.set_cons_zero, List.set_cons_succ, i64_w, i32_w]
                rfl
               refine pure_ (i := 7) (N := some 36) (v := ?_) (a' := ?_) #[true, true, false, true, false, false, false, true, false, false, false, false, false, false, false, false, false] rfl rfl (any_of HT_.out (by kernel_rfl)) (fun _ _ _ h => h) (Or.inl ⟨by rfl, ?_⟩) ?_ ?_
               rotate_left
               ·intro w'
                go_simp
                with_reducible rfl
               rotate_left
               ·simp only [Act.put, List.setIfInBounds_toArray, List.set_cons_zero, List.set_cons_succ, i64_w, i32_w]
                rfl
               refine pure_ (i := 9) (N := some 38) (v := ?_) (a' := ?_) #[true, true, false, true, false, false, false, true, false, true, false, false, false, false, false, false, false] rfl rfl (any_of HT_.out (by kernel_rfl)) (fun _ _ _ h => h) (Or.inl ⟨by rfl, ?_⟩) ?_ ?_
               rotate_left
               ·intro w'
                go_simp
                with_reducible rfl
               rotate_left
               ·simp only [Act.put, List.setIfInBounds_toArray, List.set_cons_zero, List.set_cons_succ, i64_w, i32_w]
                rfl
               refine pure_ (i := 15) (N := some 44) (v := ?_) (a' := ?_) #[true, true, false, true, false, false, false, true, false, true, false, false, false, false, false, true, false] rfl rfl (any_of HT_.out (by kernel_rfl)) (fun _ _ _ h => h) (Or.inl ⟨by rfl, ?_⟩) ?_ ?_
               rotate_left
               ·intro w'
                go_simp
                with_reducible rfl
               rotate_left
               ·simp only [Act.put, List.setIfInBounds_toArray, List.set_cons_zero, List.set_cons_succ, i64_w, i32_w]
                rfl
               refine take_ (i := 2) (N := some 31) (v := ?_) (a' := ?_) #[true, true, true, true, false, false, false, true, false, true, false, false, false, false, false, true, false] rfl rfl (take_ofW HT_.out HW_.out (by kernel_rfl)) (fun _ _ _ h => h) (Or.inl ⟨by rfl, ?_⟩) hHeld ?_ ?_
               rotate_left
               ·rintro w' ⟨s0, s1, s2, s3, s4, s5, s6, s7, s8⟩
                go_simp
                with_reducible rfl
               rotate_left
               ·simp only [Act.put, List.setIfInBounds_toArray, List.set_cons_zero, List.set_cons_succ, i64_w, i32_w]
                rfl
               refine pure_ (i := 4) (N := some 33) (v := ?_) (a' := ?_) #[true, true, true, true, true, false, false, true, false, true, false, false, false, false, false, true, false] rfl rfl (any_of HT_.out (by kernel_rfl)) (fun _ _ _ h => h) (Or.inl ⟨by rfl, ?_⟩) ?_ ?_
               rotate_left
               ·intro w'
                go_simp
                with_reducible rfl
               rotate_left
               ·simp only [Act.put, List.setIfInBounds_toArray, List.set_cons_zero, List.set_cons_succ, i64_w, i32_w]
                rfl
               refine pure_ (i := 5) (N := some 34) (v := ?_) (a' := ?_) #[true, true, true, true, true, true, false, true, false, true, false, false, false, false, false, true, false] rfl rfl (any_of HT_.out (by kernel_rfl)) (fun _ _ _ h => h) (Or.inl ⟨by rfl, ?_⟩) ?_ ?_
               rotate_left
               ·intro w'
                go_simp
                with_reducible rfl
               rotate_left
               ·simp only [Act.put, List.setIfInBounds_toArray, List.set_cons_zero, List.set_cons_succ, i64_w, i32_w]
                rfl
               refine take_ (i := 6) (N := some 35) (v := ?_) (a' := ?_) #[true, true, true, true, true, true, true, true, false, true, false, false, false, false, false, true, false] rfl rfl (take_ofW HT_.out HW_.out (by kernel_rfl)) (fun _ _ _ h => h) (Or.inl ⟨by rfl, ?_⟩) hHeld ?_ ?_
               rotate_left
               ·rintro w' ⟨s0, s1, s2, s3, s4, s5, s6, s7, s8⟩
                go_simp
                with_reducible rfl
               rotate_left
               ·simp only [Act.put, List.setIfInBounds_toArray, List.set_cons_zero, List.set_cons_succ, i64_w, i32_w]
                rfl
               refine take_ (i := 8) (N := some 37) (v := ?_) (a' := ?_) #[true, true, true, true, true, true, true, true, true, true, false, false, false, false, false, true, false] rfl rfl (take_ofW HT_.out HW_.out (by kernel_rfl)) (fun _ _ _ h => h) (Or.inl ⟨by rfl, ?_⟩) hHeld ?_ ?_
               rotate_left
               ·rintro w' ⟨s0, s1, s2, s3, s4, s5, s6, s7, s8⟩
                go_simp
                with_reducible rfl
               rotate_left
               ·simp only [Act.put, List.setIfInBounds_toArray, List.set_cons_zero, List.set_cons_succ, i64_w, i32_w]
                rfl
               refine pure_ (i := 10) (N := some 39) (v := ?_) (a' := ?_) #[true, true, true, true, true, true, true, true, true, true, true, false, false, false, false, true, false] rfl rfl (any_of HT_.out (by kernel_rfl)) (fun _ _ _ h => h) (Or.inl ⟨by rfl, ?_⟩) ?_ ?_
               rotate_left
               ·intro w'
                go_simp
                with_reducible rfl
               rotate_left
               ·simp only [Act.put, List.setIfInBounds_toArray, List.set_cons_zero, List.set_cons_succ, i64_w, i32_w]
                rfl
               refine pure_ (i := 11) (N := some 40) (v := ?_) (a' := ?_) #[true, true, true, true, true, true, true, true, true, true, true, true, false, false, false, true, false] rfl rfl (any_of HT_.out (by kernel_rfl)) (fun _ _ _ h => h) (Or.inl ⟨by rfl, ?_⟩) ?_ ?_
               rotate_left
               ·intro w'
                go_simp
                with_reducible rfl
               rotate_left
               ·simp only [Act.put, List.setIfInBounds_toArray, List.set_cons_zero, List.set_cons_succ, i64_w, i32_w]
                rfl
               refine take_ (i := 12) (N := some 41) (v := ?_) (a' := ?_) #[true, true, true, true, true, true, true, true, true, true, true, true, true, false, false, true, false] rfl rfl (take_ofW HT_.out HW_.out (by kernel_rfl)) (fun _ _ _ h => h) (Or.inl ⟨by rfl, ?_⟩) hHeld ?_ ?_
               rotate_left
               ·rintro w' ⟨s0, s1, s2, s3, s4, s5, s6, s7, s8⟩
                go_simp
                with_reducible rfl
               rotate_left
               ·simp only [Act.put, List.setIfInBounds_toArray, List.set_cons_zero, List.set_cons_succ, i64_w, i32_w]
                rfl
               refine pure_ (i := 13) (N := some 42) (v := ?_) (a' := ?_) #[true, true, true, true, true, true, true, true, true, true, true, true, true, true, false, true, false] rfl rfl (any_of HT_.out (by kernel_rfl)) (fun _ _ _ h => h) (Or.inl ⟨by rfl, ?_⟩) ?_ ?_
               rotate_left
               ·intro w'
                go_simp
                with_reducible rfl
               rotate_left
               ·simp only [Act.put, List.setIfInBounds_toArray, List.set_cons_zero, List.set_cons_succ, i64_w, i32_w]
                rfl
               refine one_ (i := 14) (N := some 43) #[true, true, true, true, true, true, true, true, true, true, true, true, true, true, true, true, false] rfl rfl (one_of HT_.out (by kernel_rfl)) (by decide) (fun K hK => ?_)
               refine goes_ Tryd.func26 (by kernel_rfl) rfl #[.string (a0.extract (((rd_T65 x368003_1 x10_2).f0) : Int).toNat (((rd_T65 x368003_1 x10_2).f1) : Int).toNat)] (by rfl) rfl rfl (by (try simp only [List.map_toArray, List.map_cons, List.map_nil]); rfl) ?_
               with_reducible refine (spec_Unquote.calls k2 (a0.extract (((rd_T65 x368003_1 x10_2).f0) : Int).toNat (((rd_T65 x368003_1 x10_2).f1) : Int).toNat) t371 _ A15.out).mono ?_
               rintro e w24 ⟨rfl, hb⟩
               have HS5_ := (hb.cell (World.block_lt_of_cell? _ _ (hHeld.2.2.2.2.2.1))).trans (hHeld.2.2.2.2.2.1)
               have HS6_ := (hb.cell (World.block_lt_of_cell? _ _ (hHeld.2.2.2.2.2.2.1))).trans (hHeld.2.2.2.2.2.2.1)
               have HS7_ := (hb.cell (World.block_lt_of_cell? _ _ (hHeld.2.2.2.2.2.2.2.1))).trans (hHeld.2.2.2.2.2.2.2.1)
               have HS8_ := (hb.cell (World.block_lt_of_cell? _ _ (hHeld.2.2.2.2.2.2.2.2))).trans (hHeld.2.2.2.2.2.2.2.2)
               refine ⟨_, rfl, ?_⟩
               have n0_ := aj (Kd.V_below HO_368003.out hb)
               have n1_ := aj (Kd.V_below HO_368004.out hb)
               have n2_ := aj (blk_below BK367.out hb)
               have n3_ := aj (below_step HB.out hb)
               clear HO_368003 HO_368004 BK367 HB
               have HO_368003 := n0_
               have HO_368004 := n1_
               have BK367 := n2_
               have HB := n3_
               clear n0_ n1_ n2_ n3_ hb
               refine hK.out _ _ ⟨(blk_cell BK367.out 0).trans rfl, (blk_cell BK367.out 1).trans rfl, (blk_cell BK367.out 2).trans rfl, (blk_cell BK367.out 3).trans rfl, (blk_cell BK367.out 4).trans rfl, HS5_, HS6_, HS7_, HS8_⟩ (fun hHeld => ?_)
               clear hK K
               refine norm_ (a' := ?_) ?_ ?_
               rotate_left
               ·show Act.put _ (some 43) _ = _
                simp only [Act.put, List.setIfInBounds_toArray, List.set_cons_zero, List.set_cons_succ, i64_w, i32_w]
                rfl
               refine pure_ (i := 16) (N := some 45) (v := ?_) (a' := ?_) #[true, true, true, true, true, true, true, true, true, true, true, true, true, true, true, true, true] rfl rfl (any_of HT_.out (by kernel_rfl)) (fun _ _ _ h => h) (Or.inl ⟨by rfl, ?_⟩) ?_ ?_
               rotate_left
               ·intro w'
                go_simp
                with_reducible rfl
               rotate_left
               ·simp only [Act.put, List.setIfInBounds_toArray, List.set_cons_zero, List.set_cons_succ, i64_w, i32_w]
                rfl
               refine done_ (done_of HT_.out (by kernel_rfl)) ?_
               try go_wp2
               go_roundg k2
               case measure => have := HK1.out; have := HK2.out; omega
               case rel => exact ⟨(x9_2), (wrap64 (x10_2 + 1)), (by rfl), (by rfl), H', ⟨by have := HK1.out; have := HK2.out; omega⟩, ⟨HO_368003.out⟩, ⟨HO_368004.out⟩, ⟨BK367.out⟩, ⟨HB.out⟩⟩
             ·rw [if_neg c14] at H
              exact absurd H (by simp)
            ·rw [if_neg c13] at H
             exact absurd H (by simp)
           ·rw [if_neg c12] at H
            exact absurd H (by simp)
          ·rw [if_neg c11] at H
           exact absurd H (by simp)
         ·rw [if_neg c10] at H
          have c10b0 : decide (x10_2 < (x368003_1.length : Int)) = false := decide_eq_false c10
          clear c10
          by_cases c25 : x9_2 > 1
          ·rw [if_pos c25] at H
           have c25b0 : decide (1 < x9_2) = true := decide_eq_true c25
           clear c25
           obtain rfl := Option.some.inj H
           have hcz26_0 : wr.cell? ⟨gb367, 0, none⟩ = some (.int .i64 x368000_1) := (blk_cell BK367.out 0).trans rfl
           have hcz26_1 : wr.cell? ⟨gb367, 1, none⟩ = some (.int .i64 x368001_1) := (blk_cell BK367.out 1).trans rfl
           have hcz26_2 : wr.cell? ⟨gb367, 2, none⟩ = some (.int .i64 x368002_1) := (blk_cell BK367.out 2).trans rfl
           have hcz26_3 : wr.cell? ⟨gb367, 3, none⟩ = some (u368003) := (blk_cell BK367.out 3).trans rfl
           have hcz26_4 : wr.cell? ⟨gb367, 4, none⟩ = some (u368004) := (blk_cell BK367.out 4).trans rfl
           have hfz26_0 := blk_frozen BK367.out 0
           have hfz26_1 := blk_frozen BK367.out 1
           have hfz26_2 := blk_frozen BK367.out 2
           have hfz26_3 := blk_frozen BK367.out 3
           have hfz26_4 := blk_frozen BK367.out 4
           obtain ⟨Ao27, co27, eo27⟩ := Kd.V_slice HO_368003.out
           subst eo27
           go_wp2
           go_ret
           exact ⟨by rfl, by exact HB.out⟩
          ·rw [if_neg c25] at H
           have c25b0 : decide (1 < x9_2) = false := decide_eq_false c25
           clear c25
           obtain ⟨⟨t372, t373, t374, t375, t378, t381⟩, A280, H⟩ := Option.bind_eq_some_iff.mp H
           try dsimp only at H
           have A28 := aj A280
           clear A280
           by_cases c29 : t381 = true
           ·subst c29
            rw [if_pos rfl] at H
            have H' := aj H
            clear H
            have hcz30_0 : wr.cell? ⟨gb367, 0, none⟩ = some (.int .i64 x368000_1) := (blk_cell BK367.out 0).trans rfl
            have hcz30_1 : wr.cell? ⟨gb367, 1, none⟩ = some (.int .i64 x368001_1) := (blk_cell BK367.out 1).trans rfl
            have hcz30_2 : wr.cell? ⟨gb367, 2, none⟩ = some (.int .i64 x368002_1) := (blk_cell BK367.out 2).trans rfl
            have hcz30_3 : wr.cell? ⟨gb367, 3, none⟩ = some (u368003) := (blk_cell BK367.out 3).trans rfl
            have hcz30_4 : wr.cell? ⟨gb367, 4, none⟩ = some (u368004) := (blk_cell BK367.out 4).trans rfl
            have hfz30_0 := blk_frozen BK367.out 0
            have hfz30_1 := blk_frozen BK367.out 1
            have hfz30_2 := blk_frozen BK367.out 2
            have hfz30_3 := blk_frozen BK367.out 3
            have hfz30_4 := blk_frozen BK367.out 4
            obtain ⟨Ao31, co31, eo31⟩ := Kd.V_slice HO_368003.out
            subst eo31
            obtain ⟨Ao32, co32, eo32⟩ := Kd.V_slice HO_368004.out
            subst eo32
            go_wp2_with (first | ((with_reducible refine gate_callee (f := 18) rfl ?_); refine goesL_ (some 54) rfl rfl Tryd.func18 (by kernel_rfl) rfl #[.string a0, .agg #[.int .i64 x368000_1, .int .i64 x368001_1, .int .i64 x368002_1, .slice Ao31 x368003_1.length co31, .slice Ao32 x368004_1.length co32], .string (rdOf ByteArray.empty l2 x15_1)] rfl (by (try simp only [List.map_toArray, List.map_cons, List.map_nil]); rfl) ?_; (with_reducible refine (spec_Step.calls k2 a0 x368000_1 x368001_1 x368002_1 _ _ x368003_1 (fun k_ => (((P1_3_ k_ ∨ P1_4_ k_) ∨ w.heap.size ≤ k_) ∧ k_ ≠ gb367)) _ _ x368004_1 (rdOf ByteArray.empty l2 x15_1) t372 t373 t374 t375 t378 true _ ?side1 ?side2 ?side3 A28.out).mono ?_); (case side1 => repeat (exact (Kd.V_reads' HO_368003.out).2.2)); (case side2 => exact (Kd.V_reads' HO_368003.out).2.1); (case side3 => exact HO_368004.out); rintro e w33 ⟨v376, v379, rfl, ho0, ho1, hb⟩; refine ⟨_, rfl, ?_⟩; replace HO_368003 := aj (Kd.V_below HO_368003.out hb); replace HO_368004 := aj (Kd.V_below HO_368004.out hb); have HO377 := aj (Kd.V_lower (Kd.V_mono (ok' := fun k_ => ((P1_3_ k_ ∨ P1_4_ k_) ∨ w.heap.size ≤ k_) ∧ k_ ≠ gb367) ho0 (fun k_ hk_ => ⟨Or.elim hk_ (fun hs_ => hs_.1) (fun hn_ => (.inr (Nat.le_trans (below_size HB.out) hn_))), Or.elim hk_ (fun hs_ => hs_.2) (fun hn_ => (Kd.freshB (g := gb367) (o := .cells #[.int .i64 x368000_1, .int .i64 x368001_1, .int .i64 x368002_1, .slice Ao31 x368003_1.length co31, .slice Ao32 x368004_1.length co32] 27 (0, 0)) BK367.out k_ hn_))⟩)) (below_size HB.out)); have HO380 := aj (Kd.V_lower (Kd.V_mono (ok' := fun k_ => ((P1_3_ k_ ∨ P1_4_ k_) ∨ w.heap.size ≤ k_) ∧ k_ ≠ gb367) ho1 (fun k_ hk_ => ⟨Or.elim hk_ (fun hs_ => hs_.1) (fun hn_ => (.inr (Nat.le_trans (below_size HB.out) hn_))), Or.elim hk_ (fun hs_ => hs_.2) (fun hn_ => (Kd.freshB (g := gb367) (o := .cells #[.int .i64 x368000_1, .int .i64 x368001_1, .int .i64 x368002_1, .slice Ao31 x368003_1.length co31, .slice Ao32 x368004_1.length co32] 27 (0, 0)) BK367.out k_ hn_))⟩)) (below_size HB.out)); replace BK367 := aj (blk_below BK367.out hb); replace HB := aj (below_step HB.out hb); clear hb ho0 ho1) | ((with_reducible refine gate_dst (N := 11) rfl ?_); refine box_event ?hg (N := 11) ?hd (cs := #[.int .i64 0, .int .i64 0, .int .i64 0, .slice none 0 0, .slice none 0 0]) (t := 27) ?hr ?_; (case hd => rfl); (case hg => rfl); (case hr => ((go_simp; done))); intro gb382 hg w34 hbox hb; replace HO_368003 := aj (Kd.V_below (Kd.V_elderB HO_368003.out gb382 (Nat.le_of_eq hg.symm)) hb); replace HO_368004 := aj (Kd.V_below (Kd.V_elderB HO_368004.out gb382 (Nat.le_of_eq hg.symm)) hb); replace HO377 := aj (Kd.V_below (Kd.V_elderB HO377.out gb382 (Nat.le_of_eq hg.symm)) hb); replace HO380 := aj (Kd.V_below (Kd.V_elderB HO380.out gb382 (Nat.le_of_eq hg.symm)) hb); have BK382 := aj (hbox); have GW382 := aj ((by rw [hg]; exact (below_size HB.out) : w.heap.size ≤ gb382)); have GE382 := aj ((by rw [hg]; exact (below_size HB.out) : w.heap.size ≤ gb382)); replace HB := aj (below_step HB.out hb); have NB367_382 := aj ((by rw [hg]; exact Nat.ne_of_lt (blk_lt BK367.out) : gb367 ≠ gb382)); have NB382_367 := aj ((by rw [hg]; exact Nat.ne_of_gt (blk_lt BK367.out) : gb382 ≠ gb367)); replace BK367 := aj (blk_below BK367.out hb); clear hb hbox hg; have hnb35 := NB382_367.out; have hnc35 := NB367_382.out; have hcz36_0 : w34.cell? ⟨gb382, 0, none⟩ = some (.int .i64 0) := (blk_cell BK382.out 0).trans rfl; have hcz36_1 : w34.cell? ⟨gb382, 1, none⟩ = some (.int .i64 0) := (blk_cell BK382.out 1).trans rfl; have hcz36_2 : w34.cell? ⟨gb382, 2, none⟩ = some (.int .i64 0) := (blk_cell BK382.out 2).trans rfl; have hcz36_3 : w34.cell? ⟨gb382, 3, none⟩ = some (.slice none 0 0) := (blk_cell BK382.out 3).trans rfl; have hcz36_4 : w34.cell? ⟨gb382, 4, none⟩ = some (.slice none 0 0) := (blk_cell BK382.out 4).trans rfl; have hfz36_0 := blk_frozen BK382.out 0; have hfz36_1 := blk_frozen BK382.out 1; have hfz36_2 := blk_frozen BK382.out 2; have hfz36_3 := blk_frozen BK382.out 3; have hfz36_4 := blk_frozen BK382.out 4; obtain ⟨Ao37, co37, eo37⟩ := Kd.V_slice HO377.out; subst eo37; obtain ⟨Ao38, co38, eo38⟩ := Kd.V_slice HO380.out; subst eo38; have hcz39_0 : w34.cell? ⟨gb367, 0, none⟩ = some (.int .i64 x368000_1) := (blk_cell BK367.out 0).trans rfl; have hcz39_1 : w34.cell? ⟨gb367, 1, none⟩ = some (.int .i64 x368001_1) := (blk_cell BK367.out 1).trans rfl; have hcz39_2 : w34.cell? ⟨gb367, 2, none⟩ = some (.int .i64 x368002_1) := (blk_cell BK367.out 2).trans rfl; have hcz39_3 : w34.cell? ⟨gb367, 3, none⟩ = some (.slice Ao31 x368003_1.length co31) := (blk_cell BK367.out 3).trans rfl; have hcz39_4 : w34.cell? ⟨gb367, 4, none⟩ = some (.slice Ao32 x368004_1.length co32) := (blk_cell BK367.out 4).trans rfl; have hfz39_0 := blk_frozen BK367.out 0; have hfz39_1 := blk_frozen BK367.out 1; have hfz39_2 := blk_frozen BK367.out 2; have hfz39_3 := blk_frozen BK367.out 3; have hfz39_4 := blk_frozen BK367.out 4))
            go_roundg k2
            case measure => have := HK1.out; have := HK2.out; omega
            case rel => exact ⟨(wrap64 (x15_1 + 1)), (t372), (t373), (t374), (t375), (t378), (.slice Ao37 t375.length co37), (.slice Ao38 t378.length co38), (by rfl), H', ⟨by have := HK1.out; have := HK2.out; omega⟩, ⟨by exact Kd.V_mono (Kd.V_far (p := ⟨gb367, 4, none⟩) (Kd.V_far (p := ⟨gb367, 3, none⟩) (Kd.V_far (p := ⟨gb367, 2, none⟩) (Kd.V_far (p := ⟨gb367, 1, none⟩) (Kd.V_far (p := ⟨gb367, 0, none⟩) (Kd.V_far (p := ⟨gb382, 4, none⟩) (Kd.V_far (p := ⟨gb382, 3, none⟩) (Kd.V_far (p := ⟨gb382, 2, none⟩) (Kd.V_far (p := ⟨gb382, 1, none⟩) (Kd.V_far (p := ⟨gb382, 0, none⟩) (Kd.V_mono (Kd.V_mono HO377.out (fun k_ hk => (⟨hk, hk.2⟩ : _ ∧ k_ ≠ gb382))) (fun k_ hk => (⟨hk, hk.1.1.2⟩ : _ ∧ k_ ≠ gb367))) (fun _ hk => hk.1.2) (.int .i64 t372)) (fun _ hk => hk.1.2) (.int .i64 t373)) (fun _ hk => hk.1.2) (.int .i64 t374)) (fun _ hk => hk.1.2) (.slice Ao37 t375.length co37)) (fun _ hk => hk.1.2) (.slice Ao38 t378.length co38)) (fun _ hk => hk.2) (.int .i64 t372)) (fun _ hk => hk.2) (.int .i64 t373)) (fun _ hk => hk.2) (.int .i64 t374)) (fun _ hk => hk.2) (.slice Ao37 t375.length co37)) (fun _ hk => hk.2) (.slice Ao38 t378.length co38)) (fun _ hk => ⟨hk.1.1.1.1, hk.1.1.1.2⟩)⟩, ⟨by exact Kd.V_mono (Kd.V_far (p := ⟨gb367, 4, none⟩) (Kd.V_far (p := ⟨gb367, 3, none⟩) (Kd.V_far (p := ⟨gb367, 2, none⟩) (Kd.V_far (p := ⟨gb367, 1, none⟩) (Kd.V_far (p := ⟨gb367, 0, none⟩) (Kd.V_far (p := ⟨gb382, 4, none⟩) (Kd.V_far (p := ⟨gb382, 3, none⟩) (Kd.V_far (p := ⟨gb382, 2, none⟩) (Kd.V_far (p := ⟨gb382, 1, none⟩) (Kd.V_far (p := ⟨gb382, 0, none⟩) (Kd.V_mono (Kd.V_mono HO380.out (fun k_ hk => (⟨hk, hk.2⟩ : _ ∧ k_ ≠ gb382))) (fun k_ hk => (⟨hk, hk.1.1.2⟩ : _ ∧ k_ ≠ gb367))) (fun _ hk => hk.1.2) (.int .i64 t372)) (fun _ hk => hk.1.2) (.int .i64 t373)) (fun _ hk => hk.1.2) (.int .i64 t374)) (fun _ hk => hk.1.2) (.slice Ao37 t375.length co37)) (fun _ hk => hk.1.2) (.slice Ao38 t378.length co38)) (fun _ hk => hk.2) (.int .i64 t372)) (fun _ hk => hk.2) (.int .i64 t373)) (fun _ hk => hk.2) (.int .i64 t374)) (fun _ hk => hk.2) (.slice Ao37 t375.length co37)) (fun _ hk => hk.2) (.slice Ao38 t378.length co38)) (fun _ hk => ⟨hk.1.1.1.1, hk.1.1.1.2⟩)⟩, ⟨by refine blk_put (cs := #[.int .i64 t372, .int .i64 t373, .int .i64 t374, .slice Ao37 t375.length co37, .slice Ao32 x368004_1.length co32]) ?_ 4 _ rfl; refine blk_put (cs := #[.int .i64 t372, .int .i64 t373, .int .i64 t374, .slice Ao31 x368003_1.length co31, .slice Ao32 x368004_1.length co32]) ?_ 3 _ rfl; refine blk_put (cs := #[.int .i64 t372, .int .i64 t373, .int .i64 x368002_1, .slice Ao31 x368003_1.length co31, .slice Ao32 x368004_1.length co32]) ?_ 2 _ rfl; refine blk_put (cs := #[.int .i64 t372, .int .i64 x368001_1, .int .i64 x368002_1, .slice Ao31 x368003_1.length co31, .slice Ao32 x368004_1.length co32]) ?_ 1 _ rfl; refine blk_put (cs := #[.int .i64 x368000_1, .int .i64 x368001_1, .int .i64 x368002_1, .slice Ao31 x368003_1.length co31, .slice Ao32 x368004_1.length co32]) ?_ 0 _ rfl; refine blk_far ?_ NB367_382.out _; refine blk_far ?_ NB367_382.out _; refine blk_far ?_ NB367_382.out _; refine blk_far ?_ NB367_382.out _; refine blk_far ?_ NB367_382.out _; exact BK367.out⟩, ⟨by repeat (with_reducible first | exact HB.out | refine below_set ?_ GE367.out | refine below_set ?_ GE382.out)⟩⟩
           ·replace c29 := Bool.eq_false_iff.mpr c29
            subst c29
            rw [if_neg (show ¬ (false = true) by decide)] at H
            obtain rfl := Option.some.inj H
            have hcz40_0 : wr.cell? ⟨gb367, 0, none⟩ = some (.int .i64 x368000_1) := (blk_cell BK367.out 0).trans rfl
            have hcz40_1 : wr.cell? ⟨gb367, 1, none⟩ = some (.int .i64 x368001_1) := (blk_cell BK367.out 1).trans rfl
            have hcz40_2 : wr.cell? ⟨gb367, 2, none⟩ = some (.int .i64 x368002_1) := (blk_cell BK367.out 2).trans rfl
            have hcz40_3 : wr.cell? ⟨gb367, 3, none⟩ = some (u368003) := (blk_cell BK367.out 3).trans rfl
            have hcz40_4 : wr.cell? ⟨gb367, 4, none⟩ = some (u368004) := (blk_cell BK367.out 4).trans rfl
            have hfz40_0 := blk_frozen BK367.out 0
            have hfz40_1 := blk_frozen BK367.out 1
            have hfz40_2 := blk_frozen BK367.out 2
            have hfz40_3 := blk_frozen BK367.out 3
            have hfz40_4 := blk_frozen BK367.out 4
            obtain ⟨Ao41, co41, eo41⟩ := Kd.V_slice HO_368003.out
            subst eo41
            obtain ⟨Ao42, co42, eo42⟩ := Kd.V_slice HO_368004.out
            subst eo42
            go_wp2_with (first | ((with_reducible refine gate_callee (f := 18) rfl ?_); refine goesL_ (some 54) rfl rfl Tryd.func18 (by kernel_rfl) rfl #[.string a0, .agg #[.int .i64 x368000_1, .int .i64 x368001_1, .int .i64 x368002_1, .slice Ao41 x368003_1.length co41, .slice Ao42 x368004_1.length co42], .string (rdOf ByteArray.empty l2 x15_1)] rfl (by (try simp only [List.map_toArray, List.map_cons, List.map_nil]); rfl) ?_; (with_reducible refine (spec_Step.calls k2 a0 x368000_1 x368001_1 x368002_1 _ _ x368003_1 (fun k_ => (((P1_3_ k_ ∨ P1_4_ k_) ∨ w.heap.size ≤ k_) ∧ k_ ≠ gb367)) _ _ x368004_1 (rdOf ByteArray.empty l2 x15_1) t372 t373 t374 t375 t378 false _ ?side1 ?side2 ?side3 A28.out).mono ?_); (case side1 => repeat (exact (Kd.V_reads' HO_368003.out).2.2)); (case side2 => exact (Kd.V_reads' HO_368003.out).2.1); (case side3 => exact HO_368004.out); rintro e w43 ⟨v376, v379, rfl, ho0, ho1, hb⟩; refine ⟨_, rfl, ?_⟩; replace HO_368003 := aj (Kd.V_below HO_368003.out hb); replace HO_368004 := aj (Kd.V_below HO_368004.out hb); have HO377 := aj (Kd.V_lower (Kd.V_mono (ok' := fun k_ => ((P1_3_ k_ ∨ P1_4_ k_) ∨ w.heap.size ≤ k_) ∧ k_ ≠ gb367) ho0 (fun k_ hk_ => ⟨Or.elim hk_ (fun hs_ => hs_.1) (fun hn_ => (.inr (Nat.le_trans (below_size HB.out) hn_))), Or.elim hk_ (fun hs_ => hs_.2) (fun hn_ => (Kd.freshB (g := gb367) (o := .cells #[.int .i64 x368000_1, .int .i64 x368001_1, .int .i64 x368002_1, .slice Ao41 x368003_1.length co41, .slice Ao42 x368004_1.length co42] 27 (0, 0)) BK367.out k_ hn_))⟩)) (below_size HB.out)); have HO380 := aj (Kd.V_lower (Kd.V_mono (ok' := fun k_ => ((P1_3_ k_ ∨ P1_4_ k_) ∨ w.heap.size ≤ k_) ∧ k_ ≠ gb367) ho1 (fun k_ hk_ => ⟨Or.elim hk_ (fun hs_ => hs_.1) (fun hn_ => (.inr (Nat.le_trans (below_size HB.out) hn_))), Or.elim hk_ (fun hs_ => hs_.2) (fun hn_ => (Kd.freshB (g := gb367) (o := .cells #[.int .i64 x368000_1, .int .i64 x368001_1, .int .i64 x368002_1, .slice Ao41 x368003_1.length co41, .slice Ao42 x368004_1.length co42] 27 (0, 0)) BK367.out k_ hn_))⟩)) (below_size HB.out)); replace BK367 := aj (blk_below BK367.out hb); replace HB := aj (below_step HB.out hb); clear hb ho0 ho1) | ((with_reducible refine gate_dst (N := 11) rfl ?_); refine box_event ?hg (N := 11) ?hd (cs := #[.int .i64 0, .int .i64 0, .int .i64 0, .slice none 0 0, .slice none 0 0]) (t := 27) ?hr ?_; (case hd => rfl); (case hg => rfl); (case hr => ((go_simp; done))); intro gb382 hg w44 hbox hb; replace HO_368003 := aj (Kd.V_below (Kd.V_elderB HO_368003.out gb382 (Nat.le_of_eq hg.symm)) hb); replace HO_368004 := aj (Kd.V_below (Kd.V_elderB HO_368004.out gb382 (Nat.le_of_eq hg.symm)) hb); replace HO377 := aj (Kd.V_below (Kd.V_elderB HO377.out gb382 (Nat.le_of_eq hg.symm)) hb); replace HO380 := aj (Kd.V_below (Kd.V_elderB HO380.out gb382 (Nat.le_of_eq hg.symm)) hb); have BK382 := aj (hbox); have GW382 := aj ((by rw [hg]; exact (below_size HB.out) : w.heap.size ≤ gb382)); have GE382 := aj ((by rw [hg]; exact (below_size HB.out) : w.heap.size ≤ gb382)); replace HB := aj (below_step HB.out hb); have NB367_382 := aj ((by rw [hg]; exact Nat.ne_of_lt (blk_lt BK367.out) : gb367 ≠ gb382)); have NB382_367 := aj ((by rw [hg]; exact Nat.ne_of_gt (blk_lt BK367.out) : gb382 ≠ gb367)); replace BK367 := aj (blk_below BK367.out hb); clear hb hbox hg; have hnb45 := NB382_367.out; have hnc45 := NB367_382.out; have hcz46_0 : w44.cell? ⟨gb382, 0, none⟩ = some (.int .i64 0) := (blk_cell BK382.out 0).trans rfl; have hcz46_1 : w44.cell? ⟨gb382, 1, none⟩ = some (.int .i64 0) := (blk_cell BK382.out 1).trans rfl; have hcz46_2 : w44.cell? ⟨gb382, 2, none⟩ = some (.int .i64 0) := (blk_cell BK382.out 2).trans rfl; have hcz46_3 : w44.cell? ⟨gb382, 3, none⟩ = some (.slice none 0 0) := (blk_cell BK382.out 3).trans rfl; have hcz46_4 : w44.cell? ⟨gb382, 4, none⟩ = some (.slice none 0 0) := (blk_cell BK382.out 4).trans rfl; have hfz46_0 := blk_frozen BK382.out 0; have hfz46_1 := blk_frozen BK382.out 1; have hfz46_2 := blk_frozen BK382.out 2; have hfz46_3 := blk_frozen BK382.out 3; have hfz46_4 := blk_frozen BK382.out 4; obtain ⟨Ao47, co47, eo47⟩ := Kd.V_slice HO377.out; subst eo47; obtain ⟨Ao48, co48, eo48⟩ := Kd.V_slice HO380.out; subst eo48))
            go_ret
            exact ⟨by rfl, by repeat (with_reducible first | exact HB.out | refine below_set ?_ GE382.out)⟩
      ·rw [if_neg c8] at H
       have c8b0 : (x368000_1 == 6) = false := beq_eq_false_iff_ne.mpr c8
       have c8b1 : (x368000_1 != 6) = true := bne_iff_ne.mpr c8
       obtain ⟨⟨t383, t384, t385, t386, t389, t392⟩, A490, H⟩ := Option.bind_eq_some_iff.mp H
       try dsimp only at H
       have A49 := aj A490
       clear A490
       by_cases c50 : t392 = true
       ·subst c50
        rw [if_pos rfl] at H
        have H' := aj H
        clear H
        have p368 : 0 ≤ (x15_1 : Int) := of_decide_eq_true (by (with_reducible assumption))
        have q368 : x15_1 < (l2.length : Int) := of_decide_eq_true (by (with_reducible assumption))
        obtain ⟨ad368, e368, hx368_0⟩ := Kd.at_string HR2.out x15_1 p368 q368
        cases e368
        replace hx368_0 := (HB.out.cell (World.block_lt_of_cell? w _ hx368_0)).trans hx368_0
        replace p368 := eq_true p368
        replace q368 := eq_true q368
        have hcz51_0 : wr.cell? ⟨gb367, 0, none⟩ = some (.int .i64 x368000_1) := (blk_cell BK367.out 0).trans rfl
        have hcz51_1 : wr.cell? ⟨gb367, 1, none⟩ = some (.int .i64 x368001_1) := (blk_cell BK367.out 1).trans rfl
        have hcz51_2 : wr.cell? ⟨gb367, 2, none⟩ = some (.int .i64 x368002_1) := (blk_cell BK367.out 2).trans rfl
        have hcz51_3 : wr.cell? ⟨gb367, 3, none⟩ = some (u368003) := (blk_cell BK367.out 3).trans rfl
        have hcz51_4 : wr.cell? ⟨gb367, 4, none⟩ = some (u368004) := (blk_cell BK367.out 4).trans rfl
        have hfz51_0 := blk_frozen BK367.out 0
        have hfz51_1 := blk_frozen BK367.out 1
        have hfz51_2 := blk_frozen BK367.out 2
        have hfz51_3 := blk_frozen BK367.out 3
        have hfz51_4 := blk_frozen BK367.out 4
        obtain ⟨Ao52, co52, eo52⟩ := Kd.V_slice HO_368003.out
        subst eo52
        obtain ⟨Ao53, co53, eo53⟩ := Kd.V_slice HO_368004.out
        subst eo53
        go_wp2_with (first | ((with_reducible refine gate_callee (f := 18) rfl ?_); refine goesL_ (some 54) rfl rfl Tryd.func18 (by kernel_rfl) rfl #[.string a0, .agg #[.int .i64 x368000_1, .int .i64 x368001_1, .int .i64 x368002_1, .slice Ao52 x368003_1.length co52, .slice Ao53 x368004_1.length co53], .string (rdOf ByteArray.empty l2 x15_1)] rfl (by (try simp only [List.map_toArray, List.map_cons, List.map_nil]); rfl) ?_; (with_reducible refine (spec_Step.calls k1 a0 x368000_1 x368001_1 x368002_1 _ _ x368003_1 (fun k_ => (((P1_3_ k_ ∨ P1_4_ k_) ∨ w.heap.size ≤ k_) ∧ k_ ≠ gb367)) _ _ x368004_1 (rdOf ByteArray.empty l2 x15_1) t383 t384 t385 t386 t389 true _ ?side1 ?side2 ?side3 A49.out).mono ?_); (case side1 => repeat (exact (Kd.V_reads' HO_368003.out).2.2)); (case side2 => exact (Kd.V_reads' HO_368003.out).2.1); (case side3 => exact HO_368004.out); rintro e w54 ⟨v387, v390, rfl, ho0, ho1, hb⟩; refine ⟨_, rfl, ?_⟩; replace HO_368003 := aj (Kd.V_below HO_368003.out hb); replace HO_368004 := aj (Kd.V_below HO_368004.out hb); have HO388 := aj (Kd.V_lower (Kd.V_mono (ok' := fun k_ => ((P1_3_ k_ ∨ P1_4_ k_) ∨ w.heap.size ≤ k_) ∧ k_ ≠ gb367) ho0 (fun k_ hk_ => ⟨Or.elim hk_ (fun hs_ => hs_.1) (fun hn_ => (.inr (Nat.le_trans (below_size HB.out) hn_))), Or.elim hk_ (fun hs_ => hs_.2) (fun hn_ => (Kd.freshB (g := gb367) (o := .cells #[.int .i64 x368000_1, .int .i64 x368001_1, .int .i64 x368002_1, .slice Ao52 x368003_1.length co52, .slice Ao53 x368004_1.length co53] 27 (0, 0)) BK367.out k_ hn_))⟩)) (below_size HB.out)); have HO391 := aj (Kd.V_lower (Kd.V_mono (ok' := fun k_ => ((P1_3_ k_ ∨ P1_4_ k_) ∨ w.heap.size ≤ k_) ∧ k_ ≠ gb367) ho1 (fun k_ hk_ => ⟨Or.elim hk_ (fun hs_ => hs_.1) (fun hn_ => (.inr (Nat.le_trans (below_size HB.out) hn_))), Or.elim hk_ (fun hs_ => hs_.2) (fun hn_ => (Kd.freshB (g := gb367) (o := .cells #[.int .i64 x368000_1, .int .i64 x368001_1, .int .i64 x368002_1, .slice Ao52 x368003_1.length co52, .slice Ao53 x368004_1.length co53] 27 (0, 0)) BK367.out k_ hn_))⟩)) (below_size HB.out)); replace BK367 := aj (blk_below BK367.out hb); replace HB := aj (below_step HB.out hb); clear hb ho0 ho1) | ((with_reducible refine gate_dst (N := 11) rfl ?_); refine box_event ?hg (N := 11) ?hd (cs := #[.int .i64 0, .int .i64 0, .int .i64 0, .slice none 0 0, .slice none 0 0]) (t := 27) ?hr ?_; (case hd => rfl); (case hg => rfl); (case hr => ((go_simp; done))); intro gb393 hg w55 hbox hb; replace HO_368003 := aj (Kd.V_below (Kd.V_elderB HO_368003.out gb393 (Nat.le_of_eq hg.symm)) hb); replace HO_368004 := aj (Kd.V_below (Kd.V_elderB HO_368004.out gb393 (Nat.le_of_eq hg.symm)) hb); replace HO388 := aj (Kd.V_below (Kd.V_elderB HO388.out gb393 (Nat.le_of_eq hg.symm)) hb); replace HO391 := aj (Kd.V_below (Kd.V_elderB HO391.out gb393 (Nat.le_of_eq hg.symm)) hb); have BK393 := aj (hbox); have GW393 := aj ((by rw [hg]; exact (below_size HB.out) : w.heap.size ≤ gb393)); have GE393 := aj ((by rw [hg]; exact (below_size HB.out) : w.heap.size ≤ gb393)); replace HB := aj (below_step HB.out hb); have NB367_393 := aj ((by rw [hg]; exact Nat.ne_of_lt (blk_lt BK367.out) : gb367 ≠ gb393)); have NB393_367 := aj ((by rw [hg]; exact Nat.ne_of_gt (blk_lt BK367.out) : gb393 ≠ gb367)); replace BK367 := aj (blk_below BK367.out hb); clear hb hbox hg; have hnb56 := NB393_367.out; have hnc56 := NB367_393.out; have hcz57_0 : w55.cell? ⟨gb393, 0, none⟩ = some (.int .i64 0) := (blk_cell BK393.out 0).trans rfl; have hcz57_1 : w55.cell? ⟨gb393, 1, none⟩ = some (.int .i64 0) := (blk_cell BK393.out 1).trans rfl; have hcz57_2 : w55.cell? ⟨gb393, 2, none⟩ = some (.int .i64 0) := (blk_cell BK393.out 2).trans rfl; have hcz57_3 : w55.cell? ⟨gb393, 3, none⟩ = some (.slice none 0 0) := (blk_cell BK393.out 3).trans rfl; have hcz57_4 : w55.cell? ⟨gb393, 4, none⟩ = some (.slice none 0 0) := (blk_cell BK393.out 4).trans rfl; have hfz57_0 := blk_frozen BK393.out 0; have hfz57_1 := blk_frozen BK393.out 1; have hfz57_2 := blk_frozen BK393.out 2; have hfz57_3 := blk_frozen BK393.out 3; have hfz57_4 := blk_frozen BK393.out 4; obtain ⟨Ao58, co58, eo58⟩ := Kd.V_slice HO388.out; subst eo58; obtain ⟨Ao59, co59, eo59⟩ := Kd.V_slice HO391.out; subst eo59; have hcz60_0 : w55.cell? ⟨gb367, 0, none⟩ = some (.int .i64 x368000_1) := (blk_cell BK367.out 0).trans rfl; have hcz60_1 : w55.cell? ⟨gb367, 1, none⟩ = some (.int .i64 x368001_1) := (blk_cell BK367.out 1).trans rfl; have hcz60_2 : w55.cell? ⟨gb367, 2, none⟩ = some (.int .i64 x368002_1) := (blk_cell BK367.out 2).trans rfl; have hcz60_3 : w55.cell? ⟨gb367, 3, none⟩ = some (.slice Ao52 x368003_1.length co52) := (blk_cell BK367.out 3).trans rfl; have hcz60_4 : w55.cell? ⟨gb367, 4, none⟩ = some (.slice Ao53 x368004_1.length co53) := (blk_cell BK367.out 4).trans rfl; have hfz60_0 := blk_frozen BK367.out 0; have hfz60_1 := blk_frozen BK367.out 1; have hfz60_2 := blk_frozen BK367.out 2; have hfz60_3 := blk_frozen BK367.out 3; have hfz60_4 := blk_frozen BK367.out 4))
        go_roundg k1
        case measure => have := HK1.out; omega
        case rel => exact ⟨(wrap64 (x15_1 + 1)), (t383), (t384), (t385), (t386), (t389), (.slice Ao58 t386.length co58), (.slice Ao59 t389.length co59), (by rfl), H', ⟨by have := HK1.out; omega⟩, ⟨by exact Kd.V_mono (Kd.V_far (p := ⟨gb367, 4, none⟩) (Kd.V_far (p := ⟨gb367, 3, none⟩) (Kd.V_far (p := ⟨gb367, 2, none⟩) (Kd.V_far (p := ⟨gb367, 1, none⟩) (Kd.V_far (p := ⟨gb367, 0, none⟩) (Kd.V_far (p := ⟨gb393, 4, none⟩) (Kd.V_far (p := ⟨gb393, 3, none⟩) (Kd.V_far (p := ⟨gb393, 2, none⟩) (Kd.V_far (p := ⟨gb393, 1, none⟩) (Kd.V_far (p := ⟨gb393, 0, none⟩) (Kd.V_mono (Kd.V_mono HO388.out (fun k_ hk => (⟨hk, hk.2⟩ : _ ∧ k_ ≠ gb393))) (fun k_ hk => (⟨hk, hk.1.1.2⟩ : _ ∧ k_ ≠ gb367))) (fun _ hk => hk.1.2) (.int .i64 t383)) (fun _ hk => hk.1.2) (.int .i64 t384)) (fun _ hk => hk.1.2) (.int .i64 t385)) (fun _ hk => hk.1.2) (.slice Ao58 t386.length co58)) (fun _ hk => hk.1.2) (.slice Ao59 t389.length co59)) (fun _ hk => hk.2) (.int .i64 t383)) (fun _ hk => hk.2) (.int .i64 t384)) (fun _ hk => hk.2) (.int .i64 t385)) (fun _ hk => hk.2) (.slice Ao58 t386.length co58)) (fun _ hk => hk.2) (.slice Ao59 t389.length co59)) (fun _ hk => ⟨hk.1.1.1.1, hk.1.1.1.2⟩)⟩, ⟨by exact Kd.V_mono (Kd.V_far (p := ⟨gb367, 4, none⟩) (Kd.V_far (p := ⟨gb367, 3, none⟩) (Kd.V_far (p := ⟨gb367, 2, none⟩) (Kd.V_far (p := ⟨gb367, 1, none⟩) (Kd.V_far (p := ⟨gb367, 0, none⟩) (Kd.V_far (p := ⟨gb393, 4, none⟩) (Kd.V_far (p := ⟨gb393, 3, none⟩) (Kd.V_far (p := ⟨gb393, 2, none⟩) (Kd.V_far (p := ⟨gb393, 1, none⟩) (Kd.V_far (p := ⟨gb393, 0, none⟩) (Kd.V_mono (Kd.V_mono HO391.out (fun k_ hk => (⟨hk, hk.2⟩ : _ ∧ k_ ≠ gb393))) (fun k_ hk => (⟨hk, hk.1.1.2⟩ : _ ∧ k_ ≠ gb367))) (fun _ hk => hk.1.2) (.int .i64 t383)) (fun _ hk => hk.1.2) (.int .i64 t384)) (fun _ hk => hk.1.2) (.int .i64 t385)) (fun _ hk => hk.1.2) (.slice Ao58 t386.length co58)) (fun _ hk => hk.1.2) (.slice Ao59 t389.length co59)) (fun _ hk => hk.2) (.int .i64 t383)) (fun _ hk => hk.2) (.int .i64 t384)) (fun _ hk => hk.2) (.int .i64 t385)) (fun _ hk => hk.2) (.slice Ao58 t386.length co58)) (fun _ hk => hk.2) (.slice Ao59 t389.length co59)) (fun _ hk => ⟨hk.1.1.1.1, hk.1.1.1.2⟩)⟩, ⟨by refine blk_put (cs := #[.int .i64 t383, .int .i64 t384, .int .i64 t385, .slice Ao58 t386.length co58, .slice Ao53 x368004_1.length co53]) ?_ 4 _ rfl; refine blk_put (cs := #[.int .i64 t383, .int .i64 t384, .int .i64 t385, .slice Ao52 x368003_1.length co52, .slice Ao53 x368004_1.length co53]) ?_ 3 _ rfl; refine blk_put (cs := #[.int .i64 t383, .int .i64 t384, .int .i64 x368002_1, .slice Ao52 x368003_1.length co52, .slice Ao53 x368004_1.length co53]) ?_ 2 _ rfl; refine blk_put (cs := #[.int .i64 t383, .int .i64 x368001_1, .int .i64 x368002_1, .slice Ao52 x368003_1.length co52, .slice Ao53 x368004_1.length co53]) ?_ 1 _ rfl; refine blk_put (cs := #[.int .i64 x368000_1, .int .i64 x368001_1, .int .i64 x368002_1, .slice Ao52 x368003_1.length co52, .slice Ao53 x368004_1.length co53]) ?_ 0 _ rfl; refine blk_far ?_ NB367_393.out _; refine blk_far ?_ NB367_393.out _; refine blk_far ?_ NB367_393.out _; refine blk_far ?_ NB367_393.out _; refine blk_far ?_ NB367_393.out _; exact BK367.out⟩, ⟨by repeat (with_reducible first | exact HB.out | refine below_set ?_ GE367.out | refine below_set ?_ GE393.out)⟩⟩
       ·replace c50 := Bool.eq_false_iff.mpr c50
        subst c50
        rw [if_neg (show ¬ (false = true) by decide)] at H
        obtain rfl := Option.some.inj H
        have p368 : 0 ≤ (x15_1 : Int) := of_decide_eq_true (by (with_reducible assumption))
        have q368 : x15_1 < (l2.length : Int) := of_decide_eq_true (by (with_reducible assumption))
        obtain ⟨ad368, e368, hx368_0⟩ := Kd.at_string HR2.out x15_1 p368 q368
        cases e368
        replace hx368_0 := (HB.out.cell (World.block_lt_of_cell? w _ hx368_0)).trans hx368_0
        replace p368 := eq_true p368
        replace q368 := eq_true q368
        have hcz61_0 : wr.cell? ⟨gb367, 0, none⟩ = some (.int .i64 x368000_1) := (blk_cell BK367.out 0).trans rfl
        have hcz61_1 : wr.cell? ⟨gb367, 1, none⟩ = some (.int .i64 x368001_1) := (blk_cell BK367.out 1).trans rfl
        have hcz61_2 : wr.cell? ⟨gb367, 2, none⟩ = some (.int .i64 x368002_1) := (blk_cell BK367.out 2).trans rfl
        have hcz61_3 : wr.cell? ⟨gb367, 3, none⟩ = some (u368003) := (blk_cell BK367.out 3).trans rfl
        have hcz61_4 : wr.cell? ⟨gb367, 4, none⟩ = some (u368004) := (blk_cell BK367.out 4).trans rfl
        have hfz61_0 := blk_frozen BK367.out 0
        have hfz61_1 := blk_frozen BK367.out 1
        have hfz61_2 := blk_frozen BK367.out 2
        have hfz61_3 := blk_frozen BK367.out 3
        have hfz61_4 := blk_frozen BK367.out 4
        obtain ⟨Ao62, co62, eo62⟩ := Kd.V_slice HO_368003.out
        subst eo62
        obtain ⟨Ao63, co63, eo63⟩ := Kd.V_slice HO_368004.out
        subst eo63
        go_wp2_with (first | ((with_reducible refine gate_callee (f := 18) rfl ?_); refine goesL_ (some 54) rfl rfl Tryd.func18 (by kernel_rfl) rfl #[.string a0, .agg #[.int .i64 x368000_1, .int .i64 x368001_1, .int .i64 x368002_1, .slice Ao62 x368003_1.length co62, .slice Ao63 x368004_1.length co63], .string (rdOf ByteArray.empty l2 x15_1)] rfl (by (try simp only [List.map_toArray, List.map_cons, List.map_nil]); rfl) ?_; (with_reducible refine (spec_Step.calls k1 a0 x368000_1 x368001_1 x368002_1 _ _ x368003_1 (fun k_ => (((P1_3_ k_ ∨ P1_4_ k_) ∨ w.heap.size ≤ k_) ∧ k_ ≠ gb367)) _ _ x368004_1 (rdOf ByteArray.empty l2 x15_1) t383 t384 t385 t386 t389 false _ ?side1 ?side2 ?side3 A49.out).mono ?_); (case side1 => repeat (exact (Kd.V_reads' HO_368003.out).2.2)); (case side2 => exact (Kd.V_reads' HO_368003.out).2.1); (case side3 => exact HO_368004.out); rintro e w64 ⟨v387, v390, rfl, ho0, ho1, hb⟩; refine ⟨_, rfl, ?_⟩; replace HO_368003 := aj (Kd.V_below HO_368003.out hb); replace HO_368004 := aj (Kd.V_below HO_368004.out hb); have HO388 := aj (Kd.V_lower (Kd.V_mono (ok' := fun k_ => ((P1_3_ k_ ∨ P1_4_ k_) ∨ w.heap.size ≤ k_) ∧ k_ ≠ gb367) ho0 (fun k_ hk_ => ⟨Or.elim hk_ (fun hs_ => hs_.1) (fun hn_ => (.inr (Nat.le_trans (below_size HB.out) hn_))), Or.elim hk_ (fun hs_ => hs_.2) (fun hn_ => (Kd.freshB (g := gb367) (o := .cells #[.int .i64 x368000_1, .int .i64 x368001_1, .int .i64 x368002_1, .slice Ao62 x368003_1.length co62, .slice Ao63 x368004_1.length co63] 27 (0, 0)) BK367.out k_ hn_))⟩)) (below_size HB.out)); have HO391 := aj (Kd.V_lower (Kd.V_mono (ok' := fun k_ => ((P1_3_ k_ ∨ P1_4_ k_) ∨ w.heap.size ≤ k_) ∧ k_ ≠ gb367) ho1 (fun k_ hk_ => ⟨Or.elim hk_ (fun hs_ => hs_.1) (fun hn_ => (.inr (Nat.le_trans (below_size HB.out) hn_))), Or.elim hk_ (fun hs_ => hs_.2) (fun hn_ => (Kd.freshB (g := gb367) (o := .cells #[.int .i64 x368000_1, .int .i64 x368001_1, .int .i64 x368002_1, .slice Ao62 x368003_1.length co62, .slice Ao63 x368004_1.length co63] 27 (0, 0)) BK367.out k_ hn_))⟩)) (below_size HB.out)); replace BK367 := aj (blk_below BK367.out hb); replace HB := aj (below_step HB.out hb); clear hb ho0 ho1) | ((with_reducible refine gate_dst (N := 11) rfl ?_); refine box_event ?hg (N := 11) ?hd (cs := #[.int .i64 0, .int .i64 0, .int .i64 0, .slice none 0 0, .slice none 0 0]) (t := 27) ?hr ?_; (case hd => rfl); (case hg => rfl); (case hr => ((go_simp; done))); intro gb393 hg w65 hbox hb; replace HO_368003 := aj (Kd.V_below (Kd.V_elderB HO_368003.out gb393 (Nat.le_of_eq hg.symm)) hb); replace HO_368004 := aj (Kd.V_below (Kd.V_elderB HO_368004.out gb393 (Nat.le_of_eq hg.symm)) hb); replace HO388 := aj (Kd.V_below (Kd.V_elderB HO388.out gb393 (Nat.le_of_eq hg.symm)) hb); replace HO391 := aj (Kd.V_below (Kd.V_elderB HO391.out gb393 (Nat.le_of_eq hg.symm)) hb); have BK393 := aj (hbox); have GW393 := aj ((by rw [hg]; exact (below_size HB.out) : w.heap.size ≤ gb393)); have GE393 := aj ((by rw [hg]; exact (below_size HB.out) : w.heap.size ≤ gb393)); replace HB := aj (below_step HB.out hb); have NB367_393 := aj ((by rw [hg]; exact Nat.ne_of_lt (blk_lt BK367.out) : gb367 ≠ gb393)); have NB393_367 := aj ((by rw [hg]; exact Nat.ne_of_gt (blk_lt BK367.out) : gb393 ≠ gb367)); replace BK367 := aj (blk_below BK367.out hb); clear hb hbox hg; have hnb66 := NB393_367.out; have hnc66 := NB367_393.out; have hcz67_0 : w65.cell? ⟨gb393, 0, none⟩ = some (.int .i64 0) := (blk_cell BK393.out 0).trans rfl; have hcz67_1 : w65.cell? ⟨gb393, 1, none⟩ = some (.int .i64 0) := (blk_cell BK393.out 1).trans rfl; have hcz67_2 : w65.cell? ⟨gb393, 2, none⟩ = some (.int .i64 0) := (blk_cell BK393.out 2).trans rfl; have hcz67_3 : w65.cell? ⟨gb393, 3, none⟩ = some (.slice none 0 0) := (blk_cell BK393.out 3).trans rfl; have hcz67_4 : w65.cell? ⟨gb393, 4, none⟩ = some (.slice none 0 0) := (blk_cell BK393.out 4).trans rfl; have hfz67_0 := blk_frozen BK393.out 0; have hfz67_1 := blk_frozen BK393.out 1; have hfz67_2 := blk_frozen BK393.out 2; have hfz67_3 := blk_frozen BK393.out 3; have hfz67_4 := blk_frozen BK393.out 4; obtain ⟨Ao68, co68, eo68⟩ := Kd.V_slice HO388.out; subst eo68; obtain ⟨Ao69, co69, eo69⟩ := Kd.V_slice HO391.out; subst eo69))
        go_ret
        exact ⟨by rfl, by repeat (with_reducible first | exact HB.out | refine below_set ?_ GE393.out)⟩
     ·rw [if_neg c7] at H
      exact absurd H (by simp)
    ·rw [if_neg c6] at H
     exact absurd H (by simp)
   ·rw [if_neg c5] at H
    have c5b0 : decide (x15_1 < (l2.length : Int)) = false := decide_eq_false c5
    clear c5
    obtain rfl := Option.some.inj H
    go_wp2
    go_ret
    exact ⟨by rfl, by exact HB.out⟩
/-! ### laws_jpIndex: function 17 -/
def laws_jpIndex.f (a0 : ByteArray) : Option (Bool) := if a0.toList = ([] : List UInt8) then (some false) else (if 0 < (a0.size : Int) then (some ((bt a0 0) == 91)) else (none))
set_option maxHeartbeats 8000000 in
set_option maxRecDepth 100000 in
theorem laws_jpIndex.calls (a0 : ByteArray) (r : Bool) (w : World) (h : laws_jpIndex.f a0 = some r) :
  Calls Tryd.prog 17 #[.string a0] w fun e w' => e = .returned (.bool r) ∧ Drawn0 w w' := by
 have H : (if a0.toList = ([] : List UInt8) then (some false) else (if 0 < (a0.size : Int) then (some ((bt a0 0) == 91)) else (none))) = some r := h
 clear h
 by_cases c2 : a0.toList = ([] : List UInt8)
 ·rw [if_pos c2] at H
  have c2b0 : (a0.toList == ([] : List UInt8)) = true := beq_iff_eq.mpr c2
  have c2b1 : (a0.toList != ([] : List UInt8)) = false := bne_eq_false_iff_eq.mpr c2
  clear c2
  obtain rfl := Option.some.inj H
  go_enter Tryd.func17, Tryd.ntmps17
  go_wp2
  go_ret
  exact ⟨by rfl, by repeat (exact Drawn0.refl _)⟩
 ·rw [if_neg c2] at H
  have c2b0 : (a0.toList == ([] : List UInt8)) = false := beq_eq_false_iff_ne.mpr c2
  have c2b1 : (a0.toList != ([] : List UInt8)) = true := bne_iff_ne.mpr c2
  by_cases c3 : 0 < (a0.size : Int)
  ·rw [if_pos c3] at H
   have c3b0 : decide (0 < (a0.size : Int)) = true := decide_eq_true c3
   have c3b1 : decide (0 < a0.size) = true := decide_eq_true (by omega)
   clear c3
   obtain rfl := Option.some.inj H
   have p4 : 0 ≤ (0 : Int) := (by omega)
   have q4 : 0 < a0.size := (by have : (0 : Int) < (a0.size : Int) := of_decide_eq_true (by (with_reducible assumption)); omega)
   have hx4 : ∀ h : 0 < a0.size, ((a0[0]'h).toNat : Int) = bt a0 0 := bt_at a0 0
   clear p4
   have qi4 : (0 < (a0.size : Int)) = True := eq_true (of_decide_eq_true (by (with_reducible assumption)))
   replace q4 := eq_true q4
   go_enter Tryd.func17, Tryd.ntmps17
   go_wp2
   go_ret
   exact ⟨by rfl, by repeat (exact Drawn0.refl _)⟩
  ·rw [if_neg c3] at H
   exact absurd H (by simp)
end Go.Proofs.YtcfhnfjkiljigaaDoor.XFnJpGetUnsafe
end
section
-- Written by xprint.py of this session (a program that runs the kit's print and adds to it); Lean checks it.
namespace Go.Proofs.YtcfhnfjkiljigaaDoor.XFnJpGetUnsafe
open Go.RowKit Go.Proofs.YtcfhnfjkiljigaaDoorW.PrintWords Go.Proofs.YtcfhnfjkiljigaaDoorW.PrintLast Go.Proofs.YtcfhnfjkiljigaaDoorW.PrintMore
attribute [local go_sem] max2_int min2_int max_two min_two max_three min_three max_four min_four   -- for this text's walks alone
set_option linter.unusedVariables false
set_option linter.unusedSimpArgs false
--EXT
/-! ### laws_jpFound: function 7 (by hand) -/
/-- The loop over the keys: from a place on. -/
def laws_jpFound.l0 : Nat → ByteArray → List ByteArray → Nat → Int → Int → Int → List (S65) → List (S27) → Option (Int × Int × Int × (List (S65)) × (List (S27)) × Bool)
 | 0, _, _, _, _, _, _, _, _ => none
 | k + 1, a0, ks, i, p0, p1, p2, p3, p4 => if i < ks.length then ((if p0 = 6 then laws_jpIndex.f (ks.getD i ByteArray.empty) else some false).bind fun b => if b = true then some (0, 0, 0, [], [], false) else
   (spec_Step.f k a0 p0 p1 p2 p3 p4 (ks.getD i ByteArray.empty)).bind fun t => if t.2.2.2.2.2 = true then laws_jpFound.l0 k a0 ks (i + 1) t.1 t.2.1 t.2.2.1 t.2.2.2.1 t.2.2.2.2.1 else some (0, 0, 0, [], [], false))
  else some (p0, p1, p2, p3, p4, true)
def laws_jpFound.f (k : Nat) (a0 : ByteArray) (ks : List ByteArray) : Option (Int × Int × Int × (List (S65)) × (List (S27)) × Bool) :=
 if ks.length ≤ 9000000000000000000 then (laws_jpPlaces.f k a0).bind fun t => if t.2.2.2.2.2 = true then (spec_Once.f k a0 t.1 t.2.1 t.2.2.1 t.2.2.2.1 t.2.2.2.2.1 ks).bind fun b => if b = true then laws_jpFound.l0 k a0 ks 0 t.1 t.2.1 t.2.2.1 t.2.2.2.1 t.2.2.2.2.1 else some (0, 0, 0, [], [], false) else some (0, 0, 0, [], [], false) else none
/-- What the walk keeps: p lies in gb, the result in rb. -/
structure laws_jpFound.PS (w : World) (rb gb : Nat) (W : World) (p0 p1 p2 : Int) (u3 u4 : Value) (p3 : List (S65)) (p4 : List (S27)) : Prop where
 bel : Below w.heap.size w W
 gr : w.heap.size ≤ rb ∧ w.heap.size ≤ gb ∧ rb ≠ gb
 bp : W.heap[gb]? = some (.cells #[.int .i64 p0, .int .i64 p1, .int .i64 p2, u3, u4] 27 (0, 0))
 br : W.heap[rb]? = some (.cells #[.int .i64 0, .int .i64 0, .int .i64 0, .slice none 0 0, .slice none 0 0] 27 (0, 0))
 v3 : Kd.V k65 65 W w.heap.size (fun k_ => w.heap.size ≤ k_ ∧ k_ ≠ gb ∧ k_ ≠ rb) u3 p3
 v4 : Kd.V k27 27 W w.heap.size (fun k_ => w.heap.size ≤ k_ ∧ k_ ≠ gb ∧ k_ ≠ rb) u4 p4
theorem laws_jpFound.PS.below {w : World} {rb gb : Nat} {W W' : World} {p0 p1 p2 : Int} {u3 u4 : Value} {p3 : List (S65)} {p4 : List (S27)} (h : laws_jpFound.PS w rb gb W p0 p1 p2 u3 u4 p3 p4) (hb : Below W.heap.size W W') : laws_jpFound.PS w rb gb W' p0 p1 p2 u3 u4 p3 p4 :=
 ⟨below_step h.bel hb, h.gr, blk_below h.bp hb, blk_below h.br hb, Kd.V_below h.v3 hb, Kd.V_below h.v4 hb⟩
/-- Five cells that are written anew. -/
theorem laws_jpFound.put5 {W : World} {g : Nat} {t : TypeId} {a0 a1 a2 a3 a4 : Value} (h : W.heap[g]? = some (.cells #[a0, a1, a2, a3, a4] t (0, 0))) (b0 b1 b2 b3 b4 : Value) : (((((W.setCell ⟨g, 0, none⟩ b0).setCell ⟨g, 1, none⟩ b1).setCell ⟨g, 2, none⟩ b2).setCell ⟨g, 3, none⟩ b3).setCell ⟨g, 4, none⟩ b4).heap[g]? = some (.cells #[b0, b1, b2, b3, b4] t (0, 0)) :=
 blk_put (blk_put (blk_put (blk_put (blk_put h 0 b0 rfl) 1 b1 rfl) 2 b2 rfl) 3 b3 rfl) 4 b4 rfl
theorem laws_jpFound.far5 {W : World} {g g' : Nat} (hne : g' ≠ g) (b0 b1 b2 b3 b4 : Value) : (((((W.setCell ⟨g, 0, none⟩ b0).setCell ⟨g, 1, none⟩ b1).setCell ⟨g, 2, none⟩ b2).setCell ⟨g, 3, none⟩ b3).setCell ⟨g, 4, none⟩ b4).heap[g']? = W.heap[g']? := by
 rw [Below.heap_setCell _ ⟨g, 4, none⟩ _ g' hne, Below.heap_setCell _ ⟨g, 3, none⟩ _ g' hne, Below.heap_setCell _ ⟨g, 2, none⟩ _ g' hne, Below.heap_setCell _ ⟨g, 1, none⟩ _ g' hne, Below.heap_setCell _ ⟨g, 0, none⟩ _ g' hne]
theorem laws_jpFound.bel5 {w W : World} {g : Nat} (h : Below w.heap.size w W) (hg : w.heap.size ≤ g) (b0 b1 b2 b3 b4 : Value) : Below w.heap.size w (((((W.setCell ⟨g, 0, none⟩ b0).setCell ⟨g, 1, none⟩ b1).setCell ⟨g, 2, none⟩ b2).setCell ⟨g, 3, none⟩ b3).setCell ⟨g, 4, none⟩ b4) :=
 below_set (below_set (below_set (below_set (below_set h hg) hg) hg) hg) hg
theorem laws_jpFound.v5 {α : Type} {d : Kd α} {e base g : Nat} {ok : Nat → Prop} {W : World} {v : Value} {xs : List α} (h : Kd.V d e W base ok v xs) (hok : ∀ k, ok k → k ≠ g) (b0 b1 b2 b3 b4 : Value) : Kd.V d e (((((W.setCell ⟨g, 0, none⟩ b0).setCell ⟨g, 1, none⟩ b1).setCell ⟨g, 2, none⟩ b2).setCell ⟨g, 3, none⟩ b3).setCell ⟨g, 4, none⟩ b4) base ok v xs :=
 Kd.V_far (p := ⟨g, 4, none⟩) (Kd.V_far (p := ⟨g, 3, none⟩) (Kd.V_far (p := ⟨g, 2, none⟩) (Kd.V_far (p := ⟨g, 1, none⟩) (Kd.V_far (p := ⟨g, 0, none⟩) h hok b0) hok b1) hok b2) hok b3) hok b4
/-- p is another value now. -/
theorem laws_jpFound.PS.put {w : World} {rb gb : Nat} {W : World} {p0 p1 p2 q0 q1 q2 : Int} {u3 u4 x3 x4 : Value} {p3 q3 : List (S65)} {p4 q4 : List (S27)} (h : laws_jpFound.PS w rb gb W p0 p1 p2 u3 u4 p3 p4) (h3 : Kd.V k65 65 W w.heap.size (fun k_ => w.heap.size ≤ k_ ∧ k_ ≠ gb ∧ k_ ≠ rb) x3 q3) (h4 : Kd.V k27 27 W w.heap.size (fun k_ => w.heap.size ≤ k_ ∧ k_ ≠ gb ∧ k_ ≠ rb) x4 q4) :
  laws_jpFound.PS w rb gb (((((W.setCell ⟨gb, 0, none⟩ (.int .i64 q0)).setCell ⟨gb, 1, none⟩ (.int .i64 q1)).setCell ⟨gb, 2, none⟩ (.int .i64 q2)).setCell ⟨gb, 3, none⟩ x3).setCell ⟨gb, 4, none⟩ x4) q0 q1 q2 x3 x4 q3 q4 :=
 ⟨laws_jpFound.bel5 h.bel h.gr.2.1 _ _ _ _ _, h.gr, laws_jpFound.put5 h.bp _ _ _ _ _, (laws_jpFound.far5 h.gr.2.2 _ _ _ _ _).trans h.br, laws_jpFound.v5 h3 (fun _ hk => hk.2.1) _ _ _ _ _, laws_jpFound.v5 h4 (fun _ hk => hk.2.1) _ _ _ _ _⟩
/-- What is asked of the answer. -/
def laws_jpFound.Ans (w : World) (r1 r2 r3 : Int) (r4 : List (S65)) (r5 : List (S27)) (r6 : Bool) : Ending → World → Prop := fun e w' => ∃ v3_ v4_ : Value, e = .returned (.tuple #[.agg #[.int .i64 r1, .int .i64 r2, .int .i64 r3, v3_, v4_], .bool r6]) ∧ Kd.V k65 65 w' w.heap.size (fun k_ => (w.heap.size ≤ k_)) v3_ r4 ∧ Kd.V k27 27 w' w.heap.size (fun k_ => (w.heap.size ≤ k_)) v4_ r5 ∧ Below w.heap.size w w'
set_option maxHeartbeats 16000000 in
set_option maxRecDepth 100000 in
theorem laws_jpFound.calls0 (k : Nat) (a0 : ByteArray) (A1 : Option Addr) (c1 : Nat) (l1 : List ByteArray) (r1 : Int) (r2 : Int) (r3 : Int) (r4 : List (S65)) (r5 : List (S27)) (r6 : Bool) (w : World) (hr1 : Kd.C Kd.string w A1 l1.length l1) (hc1 : l1.length ≤ c1) (h : laws_jpFound.f k a0 l1 = some (r1, r2, r3, r4, r5, r6)) :
  Calls Tryd.prog 7 #[.string a0, .slice A1 l1.length c1] w (laws_jpFound.Ans w r1 r2 r3 r4 r5 r6) := by
 unfold laws_jpFound.f at h
 have hl : l1.length ≤ 9000000000000000000 := by
  by_cases hl : l1.length ≤ 9000000000000000000
  ·exact hl
  ·rw [if_neg hl] at h; cases h
 rw [if_pos hl] at h
 obtain ⟨⟨t0, t1, t2, t3, t4, t5⟩, hpl, h⟩ := Option.bind_eq_some_iff.mp h
 simp only [] at h
 obtain ⟨rb, hrb⟩ : ∃ rb, w.heap.size = rb := ⟨_, rfl⟩
 have hb0 := XWords.below_alloc0 (Nat.le_refl _) (Below.refl w.heap.size w) (.cells #[.int .i64 0, .int .i64 0, .int .i64 0, .slice none 0 0, .slice none 0 0] 27)
 have HPL := aj (laws_jpPlaces.calls k a0 t0 t1 t2 t3 t4 t5 (w.alloc (.cells #[.int .i64 0, .int .i64 0, .int .i64 0, .slice none 0 0, .slice none 0 0] 27)) hpl)
 have HB0 := aj hb0
 have HR0 : Aside0 ((w.alloc (.cells #[.int .i64 0, .int .i64 0, .int .i64 0, .slice none 0 0, .slice none 0 0] 27)).heap[rb]? = some (.cells #[.int .i64 0, .int .i64 0, .int .i64 0, .slice none 0 0, .slice none 0 0] 27 (0, 0))) := ⟨by rw [← hrb]; exact blk_new _ _⟩
 have HRB := aj hrb
 have HR1 := aj hr1
 have HC1 := aj hc1
 have HH := aj h
 clear hb0 hpl hr1 hc1 h
 go_enter Tryd.func7, Tryd.ntmps7
 go_upto_region 2 with (((go_at_call 15; refine HPL.out.mono ?_; rintro e w1 ⟨v3, v4, rfl, h3, h4, hb1⟩; obtain ⟨A3, c3, rfl⟩ := Kd.R_slice h3; obtain ⟨A4, c4, rfl⟩ := Kd.R_slice h4; obtain ⟨gb, hgb⟩ : ∃ gb, w1.heap.size = gb := ⟨_, rfl⟩; have H3 := aj h3; have H4 := aj h4; have HB1 := aj hb1; clear h3 h4 hb1)))
 have HGB := aj hgb
 clear hgb hrb
 generalize hW2 : w1.alloc (.cells #[.int .i64 t0, .int .i64 t1, .int .i64 t2, .slice A3 t3.length c3, .slice A4 t4.length c4] 27) = W2
 have hsz1 : w.heap.size + 1 ≤ gb := by
  have := HB1.out.size
  rw [World.size_alloc, HGB.out] at this
  exact this
 have HPS : Aside0 (laws_jpFound.PS w rb gb W2 t0 t1 t2 (.slice A3 t3.length c3) (.slice A4 t4.length c4) t3 t4) := ⟨by
  rw [← hW2]
  have hr := HRB.out
  have hg := HGB.out
  refine ⟨below_alloc (below_step HB0.out HB1.out) _, ⟨by omega, by omega, by omega⟩, by rw [← hg]; exact blk_new _ _, blk_alloc (blk_below HR0.out HB1.out) _, Kd.V_alloc (Kd.V_mono (Kd.R_V (Kd.R_bound H3.out)) (fun k_ hk => ?_)) _, Kd.V_alloc (Kd.V_mono (Kd.R_V (Kd.R_bound H4.out)) (fun k_ hk => ?_)) _⟩
  all_goals
   obtain ⟨-, h1, h2, -⟩ := hk
   rw [World.size_alloc] at h1
   omega⟩
 clear hW2 H3 H4 HB1 HB0 HR0 HPL hsz1 HGB
 have hx0 := blk_cell HPS.out.bp 0
 have hx1 := blk_cell HPS.out.bp 1
 have hx2 := blk_cell HPS.out.bp 2
 have hx3 := blk_cell HPS.out.bp 3
 have hx4 := blk_cell HPS.out.bp 4
 have hfr : ∀ j, W2.frozen? ⟨rb, j, none⟩ = false := fun j => blk_frozen HPS.out.br j
 have hfr0 := hfr 0
 have hfr1 := hfr 1
 have hfr2 := hfr 2
 have hfr3 := hfr 3
 have hfr4 := hfr 4
 have hy0 := blk_cell HPS.out.br 0
 have hy1 := blk_cell HPS.out.br 1
 have hy2 := blk_cell HPS.out.br 2
 have hy3 := blk_cell HPS.out.br 3
 have hy4 := blk_cell HPS.out.br 4
 clear hfr
 by_cases ht : t5 = true
 ·subst ht
  obtain ⟨b, ho, h⟩ := Option.bind_eq_some_iff.mp ((if_pos rfl).symm.trans HH.out)
  have HO := aj (spec_Once.calls k a0 t0 t1 t2 _ A3 c3 t3 _ A4 c4 t4 A1 c1 l1 b W2 HPS.out.v3 HPS.out.v4 (Kd.C_below HR1.out HPS.out.bel) HC1.out ho)
  have HH2 := aj h
  clear h ho HH hfr0 hfr1 hfr2 hfr3 hfr4 hy0 hy1 hy2 hy3 hy4
  go_upto_if 23 with (((go_at_call 16; refine HO.out.mono ?_; rintro e w3 ⟨rfl, hb3⟩; have HPS3 := aj (HPS.out.below hb3); clear hb3 hx0 hx1 hx2 hx3 hx4)))
  cases b with
  | false =>
   have h := (if_neg (by decide)).symm.trans HH2.out
   simp only [Option.some.injEq, Prod.mk.injEq] at h
   obtain ⟨rfl, rfl, rfl, rfl, rfl, rfl⟩ := h
   clear HH2 HO HPS
   have hfr0 := blk_frozen HPS3.out.br 0
   have hfr1 := blk_frozen HPS3.out.br 1
   have hfr2 := blk_frozen HPS3.out.br 2
   have hfr3 := blk_frozen HPS3.out.br 3
   have hfr4 := blk_frozen HPS3.out.br 4
   have hy0 := blk_cell HPS3.out.br 0
   have hy1 := blk_cell HPS3.out.br 1
   have hy2 := blk_cell HPS3.out.br 2
   have hy3 := blk_cell HPS3.out.br 3
   have hy4 := blk_cell HPS3.out.br 4
   go_wp2
   refine bodyPost_ret (results_ct rfl _ _ rb 27 #[.int .i64 0, .int .i64 0, .int .i64 0, .slice none 0 0, .slice none 0 0] (0, 0) _ rfl (laws_jpFound.put5 HPS3.out.br _ _ _ _ _) Tryd.underlying27 rfl (by kernel_rfl)) rfl ?_
   exact ⟨_, _, rfl, Kd.V_nil _ 0 _ 0 _, Kd.V_nil _ 0 _ 0 _, laws_jpFound.bel5 HPS3.out.bel HPS3.out.gr.1 _ _ _ _ _⟩
  | true =>
   have h := (if_pos rfl).symm.trans HH2.out
   have HH3 := aj h
   clear h HH2 HO HPS
   have hl1 : (l1.length : Int) ≤ 9000000000000000000 := by omega
   go_wp2
   try simp only [Act.put, List.setIfInBounds_toArray, List.set_cons_succ, List.set_cons_zero]
   go_loopg [27] k (fun kq v27 wr => ∃ (i : Nat) (p0 p1 p2 : Int) (u3 u4 : Value) (p3 : List (S65)) (p4 : List (S27)), v27 = .int .i64 (i : Int) ∧ i ≤ l1.length ∧ Aside0 (laws_jpFound.l0 kq a0 l1 i p0 p1 p2 p3 p4 = some (r1, r2, r3, r4, r5, r6)) ∧ Aside0 (laws_jpFound.PS w rb gb wr p0 p1 p2 u3 u4 p3 p4))
   case atStart => exact ⟨0, t0, t1, t2, _, _, t3, t4, rfl, Nat.zero_le _, HH3, HPS3⟩
   case round =>
    clear HPS3 HH3
    obtain ⟨i, p0, p1, p2, u3, u4, p3, p4, rfl, hil, HA, HPS⟩ := hrel
    cases gk with
    | zero => exact absurd HA.out (by simp [laws_jpFound.l0])
    | succ k1 =>
     have h := HA.out
     rw [laws_jpFound.l0] at h
     obtain ⟨A3', c3', rfl⟩ := Kd.V_slice HPS.out.v3
     obtain ⟨A4', c4', rfl⟩ := Kd.V_slice HPS.out.v4
     by_cases hi : i < l1.length
     ·rw [if_pos hi] at h
      have i1 : decide ((i : Int) < (l1.length : Int)) = true := decide_eq_true (by omega)
      have i2 : decide (i < l1.length) = true := decide_eq_true hi
      obtain ⟨ad, rfl, hky⟩ := Kd.at_string (Kd.C_below HR1.out HPS.out.bel) (i : Int) (by omega) (by omega)
      obtain ⟨ky, hkk⟩ : ∃ ky, l1.getD i ByteArray.empty = ky := ⟨_, rfl⟩
      have hkr : rdOf ByteArray.empty l1 (i : Int) = ky := by unfold rdOf; rw [Int.toNat_natCast]; exact hkk
      rw [hkr, Int.toNat_natCast] at hky
      rw [hkk] at h
      have i3 : ((i : Int) < (l1.length : Int)) = True := eq_true (by omega)
      have i4 : (i < l1.length) = True := eq_true hi
      obtain ⟨b, hb, h⟩ := Option.bind_eq_some_iff.mp h
      have HKK := aj hkk
      have HB := aj hb
      have HH := aj h
      clear h hb hkk hkr HA hi
      have hgr0 := blk_frozen HPS.out.bp 0
      have hgr1 := blk_frozen HPS.out.bp 1
      have hgr2 := blk_frozen HPS.out.bp 2
      have hgr3 := blk_frozen HPS.out.bp 3
      have hgr4 := blk_frozen HPS.out.bp 4
      have hx0 := blk_cell HPS.out.bp 0
      have hx1 := blk_cell HPS.out.bp 1
      have hx2 := blk_cell HPS.out.bp 2
      have hx3 := blk_cell HPS.out.bp 3
      have hx4 := blk_cell HPS.out.bp 4
      by_cases h6 : p0 = 6
      ·have e6 : (p0 == 6) = true := beq_iff_eq.mpr h6
       have hji := HB.out
       rw [if_pos h6] at hji
       have HJI : Aside0 (∀ W, Calls Tryd.prog 17 #[.string ky] W fun e w' => e = .returned (.bool b) ∧ Drawn0 W w') := ⟨fun W => laws_jpIndex.calls ky b W hji⟩
       clear hji h6 HB
       go_upto_if 37 with (((go_at_call 17; refine (HJI.out _).mono ?_; rintro e w4 ⟨rfl, nd, rfl⟩)))
       have HPD := aj (HPS.out.below (pw_below_drewN (Below.refl _ _) nd))
       clear HJI hgr0 hx0 hgr1 hx1 hgr2 hx2 hgr3 hx3 hgr4 hx4
       cases b with
       | true =>
        have h := (if_pos rfl).symm.trans HH.out
        simp only [Option.some.injEq, Prod.mk.injEq] at h
        obtain ⟨rfl, rfl, rfl, rfl, rfl, rfl⟩ := h
        clear HH HPS
        have hfr0 := blk_frozen HPD.out.br 0
        have hfr1 := blk_frozen HPD.out.br 1
        have hfr2 := blk_frozen HPD.out.br 2
        have hfr3 := blk_frozen HPD.out.br 3
        have hfr4 := blk_frozen HPD.out.br 4
        have hy0 := blk_cell HPD.out.br 0
        have hy1 := blk_cell HPD.out.br 1
        have hy2 := blk_cell HPD.out.br 2
        have hy3 := blk_cell HPD.out.br 3
        have hy4 := blk_cell HPD.out.br 4
        go_wp2
        refine bodyPost_ret (results_ct rfl _ _ rb 27 #[.int .i64 0, .int .i64 0, .int .i64 0, .slice none 0 0, .slice none 0 0] (0, 0) _ rfl (laws_jpFound.put5 HPD.out.br _ _ _ _ _) Tryd.underlying27 rfl (by kernel_rfl)) rfl ?_
        exact ⟨_, _, rfl, Kd.V_nil _ 0 _ 0 _, Kd.V_nil _ 0 _ 0 _, laws_jpFound.bel5 HPD.out.bel HPD.out.gr.1 _ _ _ _ _⟩
       | false =>
        clear HPS
        have hgr0 := blk_frozen HPD.out.bp 0
        have hgr1 := blk_frozen HPD.out.bp 1
        have hgr2 := blk_frozen HPD.out.bp 2
        have hgr3 := blk_frozen HPD.out.bp 3
        have hgr4 := blk_frozen HPD.out.bp 4
        have hx0 := blk_cell HPD.out.bp 0
        have hx1 := blk_cell HPD.out.bp 1
        have hx2 := blk_cell HPD.out.bp 2
        have hx3 := blk_cell HPD.out.bp 3
        have hx4 := blk_cell HPD.out.bp 4
        obtain ⟨⟨q0, q1, q2, q3, q4, qk⟩, hs, h⟩ := Option.bind_eq_some_iff.mp ((if_neg (by decide)).symm.trans HH.out)
        have HS := aj (spec_Step.calls k1 a0 p0 p1 p2 A3' c3' p3 _ A4' c4' p4 ky q0 q1 q2 q3 q4 qk (wr.drewN nd) (Kd.V_reads' HPD.out.v3).2.2 (Kd.V_reads' HPD.out.v3).2.1 HPD.out.v4 hs)
        have HH2 := aj h
        have HLT : Aside0 (w.heap.size ≤ (wr.drewN nd).heap.size ∧ gb < (wr.drewN nd).heap.size ∧ rb < (wr.drewN nd).heap.size) := ⟨HPD.out.bel.size, blk_lt HPD.out.bp, blk_lt HPD.out.br⟩
        clear h hs HH
        go_upto_if 47 with (((go_at_call 18; refine HS.out.mono ?_; rintro e w5 ⟨y3, y4, rfl, g3, g4, hb5⟩; obtain ⟨A5, c5, rfl⟩ := Kd.V_slice g3; obtain ⟨A6, c6, rfl⟩ := Kd.V_slice g4; have HP5 := aj (HPD.out.below hb5); have G3 := aj g3; have G4 := aj g4; clear g3 g4 hb5; clear hgr0 hx0 hgr1 hx1 hgr2 hx2 hgr3 hx3 hgr4 hx4; have hgr0 := blk_frozen HP5.out.bp 0; have hgr1 := blk_frozen HP5.out.bp 1; have hgr2 := blk_frozen HP5.out.bp 2; have hgr3 := blk_frozen HP5.out.bp 3; have hgr4 := blk_frozen HP5.out.bp 4; have hx0 := blk_cell HP5.out.bp 0; have hx1 := blk_cell HP5.out.bp 1; have hx2 := blk_cell HP5.out.bp 2; have hx3 := blk_cell HP5.out.bp 3; have hx4 := blk_cell HP5.out.bp 4)))
        clear hgr0 hx0 hgr1 hx1 hgr2 hx2 hgr3 hx3 hgr4 hx4
        have HP6 := aj (HP5.out.put (q0 := q0) (q1 := q1) (q2 := q2) (Kd.V_mono G3.out (fun k_ hk => hk.elim id (fun hk => ⟨by have := HLT.out; omega, by have := HLT.out; omega, by have := HLT.out; omega⟩))) (Kd.V_mono G4.out (fun k_ hk => hk.elim id (fun hk => ⟨by have := HLT.out; omega, by have := HLT.out; omega, by have := HLT.out; omega⟩))))
        generalize (((((w5.setCell ⟨gb, 0, none⟩ (.int .i64 q0)).setCell ⟨gb, 1, none⟩ (.int .i64 q1)).setCell ⟨gb, 2, none⟩ (.int .i64 q2)).setCell ⟨gb, 3, none⟩ (.slice A5 q3.length c5)).setCell ⟨gb, 4, none⟩ (.slice A6 q4.length c6)) = W6 at *
        clear HS G3 G4 HP5 HLT
        cases qk with
        | true =>
         have h := (if_pos rfl).symm.trans HH2.out
         have HH3 := aj h
         clear h HH2
         go_wp2
         go_roundg k1
         case measure => omega
         case rel => exact ⟨i + 1, q0, q1, q2, _, _, q3, q4, by go_num, Nat.succ_le_of_lt (of_eq_true i4), HH3, HP6⟩
        | false =>
         have h := (if_neg (by decide)).symm.trans HH2.out
         simp only [Option.some.injEq, Prod.mk.injEq] at h
         obtain ⟨rfl, rfl, rfl, rfl, rfl, rfl⟩ := h
         clear HH2
         have hfr0 := blk_frozen HP6.out.br 0
         have hfr1 := blk_frozen HP6.out.br 1
         have hfr2 := blk_frozen HP6.out.br 2
         have hfr3 := blk_frozen HP6.out.br 3
         have hfr4 := blk_frozen HP6.out.br 4
         have hy0 := blk_cell HP6.out.br 0
         have hy1 := blk_cell HP6.out.br 1
         have hy2 := blk_cell HP6.out.br 2
         have hy3 := blk_cell HP6.out.br 3
         have hy4 := blk_cell HP6.out.br 4
         go_wp2
         refine bodyPost_ret (results_ct rfl _ _ rb 27 #[.int .i64 0, .int .i64 0, .int .i64 0, .slice none 0 0, .slice none 0 0] (0, 0) _ rfl (laws_jpFound.put5 HP6.out.br _ _ _ _ _) Tryd.underlying27 rfl (by kernel_rfl)) rfl ?_
         exact ⟨_, _, rfl, Kd.V_nil _ 0 _ 0 _, Kd.V_nil _ 0 _ 0 _, laws_jpFound.bel5 HP6.out.bel HP6.out.gr.1 _ _ _ _ _⟩
      ·have e6 : (p0 == 6) = false := beq_eq_false_iff_ne.mpr h6
       have hbf : b = false := by
        have := HB.out
        rw [if_neg h6] at this
        exact (Option.some.inj this).symm
       clear h6 HB
       go_upto_if 37 with fail
       subst hbf
       clear hgr0 hx0 hgr1 hx1 hgr2 hx2 hgr3 hx3 hgr4 hx4
       have hgr0 := blk_frozen HPS.out.bp 0
       have hgr1 := blk_frozen HPS.out.bp 1
       have hgr2 := blk_frozen HPS.out.bp 2
       have hgr3 := blk_frozen HPS.out.bp 3
       have hgr4 := blk_frozen HPS.out.bp 4
       have hx0 := blk_cell HPS.out.bp 0
       have hx1 := blk_cell HPS.out.bp 1
       have hx2 := blk_cell HPS.out.bp 2
       have hx3 := blk_cell HPS.out.bp 3
       have hx4 := blk_cell HPS.out.bp 4
       obtain ⟨⟨q0, q1, q2, q3, q4, qk⟩, hs, h⟩ := Option.bind_eq_some_iff.mp ((if_neg (by decide)).symm.trans HH.out)
       have HS := aj (spec_Step.calls k1 a0 p0 p1 p2 A3' c3' p3 _ A4' c4' p4 ky q0 q1 q2 q3 q4 qk wr (Kd.V_reads' HPS.out.v3).2.2 (Kd.V_reads' HPS.out.v3).2.1 HPS.out.v4 hs)
       have HH2 := aj h
       have HLT : Aside0 (w.heap.size ≤ wr.heap.size ∧ gb < wr.heap.size ∧ rb < wr.heap.size) := ⟨HPS.out.bel.size, blk_lt HPS.out.bp, blk_lt HPS.out.br⟩
       clear h hs HH
       go_upto_if 47 with (((go_at_call 18; refine HS.out.mono ?_; rintro e w5 ⟨y3, y4, rfl, g3, g4, hb5⟩; obtain ⟨A5, c5, rfl⟩ := Kd.V_slice g3; obtain ⟨A6, c6, rfl⟩ := Kd.V_slice g4; have HP5 := aj (HPS.out.below hb5); have G3 := aj g3; have G4 := aj g4; clear g3 g4 hb5; clear hgr0 hx0 hgr1 hx1 hgr2 hx2 hgr3 hx3 hgr4 hx4; have hgr0 := blk_frozen HP5.out.bp 0; have hgr1 := blk_frozen HP5.out.bp 1; have hgr2 := blk_frozen HP5.out.bp 2; have hgr3 := blk_frozen HP5.out.bp 3; have hgr4 := blk_frozen HP5.out.bp 4; have hx0 := blk_cell HP5.out.bp 0; have hx1 := blk_cell HP5.out.bp 1; have hx2 := blk_cell HP5.out.bp 2; have hx3 := blk_cell HP5.out.bp 3; have hx4 := blk_cell HP5.out.bp 4)))
       clear hgr0 hx0 hgr1 hx1 hgr2 hx2 hgr3 hx3 hgr4 hx4
       have HP6 := aj (HP5.out.put (q0 := q0) (q1 := q1) (q2 := q2) (Kd.V_mono G3.out (fun k_ hk => hk.elim id (fun hk => ⟨by have := HLT.out; omega, by have := HLT.out; omega, by have := HLT.out; omega⟩))) (Kd.V_mono G4.out (fun k_ hk => hk.elim id (fun hk => ⟨by have := HLT.out; omega, by have := HLT.out; omega, by have := HLT.out; omega⟩))))
       generalize (((((w5.setCell ⟨gb, 0, none⟩ (.int .i64 q0)).setCell ⟨gb, 1, none⟩ (.int .i64 q1)).setCell ⟨gb, 2, none⟩ (.int .i64 q2)).setCell ⟨gb, 3, none⟩ (.slice A5 q3.length c5)).setCell ⟨gb, 4, none⟩ (.slice A6 q4.length c6)) = W6 at *
       clear HS G3 G4 HP5 HLT
       cases qk with
       | true =>
        have h := (if_pos rfl).symm.trans HH2.out
        have HH3 := aj h
        clear h HH2
        go_wp2
        go_roundg k1
        case measure => omega
        case rel => exact ⟨i + 1, q0, q1, q2, _, _, q3, q4, by go_num, Nat.succ_le_of_lt (of_eq_true i4), HH3, HP6⟩
       | false =>
        have h := (if_neg (by decide)).symm.trans HH2.out
        simp only [Option.some.injEq, Prod.mk.injEq] at h
        obtain ⟨rfl, rfl, rfl, rfl, rfl, rfl⟩ := h
        clear HH2
        have hfr0 := blk_frozen HP6.out.br 0
        have hfr1 := blk_frozen HP6.out.br 1
        have hfr2 := blk_frozen HP6.out.br 2
        have hfr3 := blk_frozen HP6.out.br 3
        have hfr4 := blk_frozen HP6.out.br 4
        have hy0 := blk_cell HP6.out.br 0
        have hy1 := blk_cell HP6.out.br 1
        have hy2 := blk_cell HP6.out.br 2
        have hy3 := blk_cell HP6.out.br 3
        have hy4 := blk_cell HP6.out.br 4
        go_wp2
        refine bodyPost_ret (results_ct rfl _ _ rb 27 #[.int .i64 0, .int .i64 0, .int .i64 0, .slice none 0 0, .slice none 0 0] (0, 0) _ rfl (laws_jpFound.put5 HP6.out.br _ _ _ _ _) Tryd.underlying27 rfl (by kernel_rfl)) rfl ?_
        exact ⟨_, _, rfl, Kd.V_nil _ 0 _ 0 _, Kd.V_nil _ 0 _ 0 _, laws_jpFound.bel5 HP6.out.bel HP6.out.gr.1 _ _ _ _ _⟩
     ·rw [if_neg hi] at h
      simp only [Option.some.injEq, Prod.mk.injEq] at h
      obtain ⟨rfl, rfl, rfl, rfl, rfl, rfl⟩ := h
      have i1 : decide ((i : Int) < (l1.length : Int)) = false := decide_eq_false (by omega)
      have i2 : decide (i < l1.length) = false := decide_eq_false hi
      have i3 : ((i : Int) < (l1.length : Int)) = False := eq_false (by omega)
      have i4 : (i < l1.length) = False := eq_false hi
      clear HA hi hil
      have hgr0 := blk_frozen HPS.out.bp 0
      have hgr1 := blk_frozen HPS.out.bp 1
      have hgr2 := blk_frozen HPS.out.bp 2
      have hgr3 := blk_frozen HPS.out.bp 3
      have hgr4 := blk_frozen HPS.out.bp 4
      have hx0 := blk_cell HPS.out.bp 0
      have hx1 := blk_cell HPS.out.bp 1
      have hx2 := blk_cell HPS.out.bp 2
      have hx3 := blk_cell HPS.out.bp 3
      have hx4 := blk_cell HPS.out.bp 4
      have hfr0 := blk_frozen HPS.out.br 0
      have hfr1 := blk_frozen HPS.out.br 1
      have hfr2 := blk_frozen HPS.out.br 2
      have hfr3 := blk_frozen HPS.out.br 3
      have hfr4 := blk_frozen HPS.out.br 4
      have hy0 := blk_cell HPS.out.br 0
      have hy1 := blk_cell HPS.out.br 1
      have hy2 := blk_cell HPS.out.br 2
      have hy3 := blk_cell HPS.out.br 3
      have hy4 := blk_cell HPS.out.br 4
      go_wp2
      refine bodyPost_ret (results_ct rfl _ _ rb 27 #[.int .i64 p0, .int .i64 p1, .int .i64 p2, .slice A3' p3.length c3', .slice A4' p4.length c4'] (0, 0) _ rfl (laws_jpFound.put5 HPS.out.br _ _ _ _ _) Tryd.underlying27 rfl (by kernel_rfl)) rfl ?_
      exact ⟨_, _, rfl, Kd.V_mono (laws_jpFound.v5 HPS.out.v3 (fun _ hk => hk.2.2) _ _ _ _ _) (fun _ hk => hk.1), Kd.V_mono (laws_jpFound.v5 HPS.out.v4 (fun _ hk => hk.2.2) _ _ _ _ _) (fun _ hk => hk.1), laws_jpFound.bel5 HPS.out.bel HPS.out.gr.1 _ _ _ _ _⟩
 ·have ht' : t5 = false := by cases t5 <;> simp_all
  subst ht'
  have h := (if_neg (by decide)).symm.trans HH.out
  simp only [Option.some.injEq, Prod.mk.injEq] at h
  obtain ⟨rfl, rfl, rfl, rfl, rfl, rfl⟩ := h
  go_wp2
  refine bodyPost_ret (results_ct rfl _ _ rb 27 #[.int .i64 0, .int .i64 0, .int .i64 0, .slice none 0 0, .slice none 0 0] (0, 0) _ rfl (laws_jpFound.put5 HPS.out.br _ _ _ _ _) Tryd.underlying27 rfl (by kernel_rfl)) rfl ?_
  exact ⟨_, _, rfl, Kd.V_nil _ 0 _ 0 _, Kd.V_nil _ 0 _ 0 _, laws_jpFound.bel5 HPS.out.bel HPS.out.gr.1 _ _ _ _ _⟩
theorem laws_jpFound.calls (k : Nat) (a0 : ByteArray) (A1 : Option Addr) (c1 : Nat) (l1 : List ByteArray) (r1 : Int) (r2 : Int) (r3 : Int) (r4 : List (S65)) (r5 : List (S27)) (r6 : Bool) (w : World) (hr1 : Kd.C Kd.string w A1 l1.length l1) (hc1 : l1.length ≤ c1) (h : laws_jpFound.f k a0 l1 = some (r1, r2, r3, r4, r5, r6)) :
  Calls Tryd.prog 7 #[.string a0, .slice A1 l1.length c1] w fun e w' => ∃ v3_ v4_ : Value, e = .returned (.tuple #[.agg #[.int .i64 r1, .int .i64 r2, .int .i64 r3, v3_, v4_], .bool r6]) ∧ Kd.V k65 65 w' w.heap.size (fun k_ => (w.heap.size ≤ k_)) v3_ r4 ∧ Kd.V k27 27 w' w.heap.size (fun k_ => (w.heap.size ≤ k_)) v4_ r5 ∧ Below w.heap.size w w' :=
 (laws_jpFound.calls0 k a0 A1 c1 l1 r1 r2 r3 r4 r5 r6 w hr1 hc1 h).mono fun _ _ h => h
end Go.Proofs.YtcfhnfjkiljigaaDoor.XFnJpGetUnsafe
end
