/- Proved here: parts of the law FnAlValid (the texts FpUesc FpNodes2 FpNodes3 FpNodes4 FpNodes5 FpNodes6 FpRd AlPlain AlSteady), no conditions of their own beyond what each theorem says. -/
import Derived.Test.YtlhaefblchpjhaaGreatDoorPa7
import Derived.Test.YtlhaefblchpjhaaGreatDoorPa4
section
namespace Go.Proofs.YtlhaefblchpjhaaGreatDoor.Fp
open Go.RowKit Go.Proofs.YtlhaefblchpjhaaGreatDoorW.PrintWords Go.Proofs.YtlhaefblchpjhaaGreatDoorW.PrintLast Go.Proofs.YtlhaefblchpjhaaGreatDoorW.PrintMore
open Go.Proofs.YtlhaefblchpjhaaGreatDoor.FjW (cut cut_cut cut_size cut_bytes cut_zero cut_bt bt_out D rd_D rd_D0 D_drop D_len D_nil D_cons ws_at skipWS errNew ixOf ixCall ix_or)
open Go.Proofs.YtlhaefblchpjhaaGreatDoor.FpX (hx4 hxv hexYes hexNo)
attribute [local go_sem] max2_int min2_int max_two min_two max_three min_three max_four min_four
set_option linter.unusedVariables false
set_option linter.unusedSimpArgs false
theorem wp_ub1 {ops : Array Oper} {rest : List Oper} {oo : Oper} {a : Act} {Q : Exit → Act → World → Prop} (w W : World) (g cap : Nat) (o : List Int) (c : Int) (hU : UR w W g cap o) (hr : o.length + 1 ≤ cap) (hgd : oo.guard = none) (sl y : Operand)
    (ho : oo.op = .call { callee := .builtin .append, args := #[sl, y], argTypes := #[61, 61] }) (hs : a.eval sl = .slice (some ⟨g, 0, none⟩) o.length cap) (hy : a.eval y = .slice (some ⟨W.heap.size, 0, none⟩) 1 1)
    (h : ∀ w', UR w w' g cap (o ++ [c]) → wpList Tryz.prog ops Q rest (a.put oo.dst (.slice (some ⟨g, 0, none⟩) (o.length + 1) cap)) w') :
    wpList Tryz.prog ops Q (oo :: rest) a (W.alloc (.cells #[.int .u8 c] 5)) := wp_ubytes w W g cap o [c] hU hr hgd sl y ho hs hy h
theorem wp_ub2 {ops : Array Oper} {rest : List Oper} {oo : Oper} {a : Act} {Q : Exit → Act → World → Prop} (w W : World) (g cap : Nat) (o : List Int) (c d : Int) (hU : UR w W g cap o) (hr : o.length + 2 ≤ cap) (hgd : oo.guard = none) (sl y : Operand)
    (ho : oo.op = .call { callee := .builtin .append, args := #[sl, y], argTypes := #[61, 61] }) (hs : a.eval sl = .slice (some ⟨g, 0, none⟩) o.length cap) (hy : a.eval y = .slice (some ⟨W.heap.size, 0, none⟩) 2 2)
    (h : ∀ w', UR w w' g cap (o ++ [c, d]) → wpList Tryz.prog ops Q rest (a.put oo.dst (.slice (some ⟨g, 0, none⟩) (o.length + 2) cap)) w') :
    wpList Tryz.prog ops Q (oo :: rest) a (W.alloc (.cells #[.int .u8 c, .int .u8 d] 5)) := wp_ubytes w W g cap o [c, d] hU hr hgd sl y ho hs hy h
/-- The row as a text. -/
theorem UR.conv {w W : World} {g cap : Nat} {o : List Int} (h : UR w W g cap o) (hc : o.length ≤ 100000000) : (convert 61 9 (.slice (some ⟨g, 0, none⟩) o.length cap)).run Tryz.prog W = .ok (.string (strOfNums o)) W := by
  obtain ⟨cur, h1, h2, h3⟩ := h.blk
  have hr := h.room
  refine string_of_reads (P := Tryz.prog) Tryz.underlying61 Tryz.underlying5 Tryz.underlying9 ⟨rfl, by omega, fun _ => ⟨_, rfl, fun j hj => ?_⟩⟩
  rw [add_plain, cell_in h1]
  have e : (cur.toList.take o.length)[j]? = (nums .u8 o)[j]? := by rw [h3]
  rw [List.getElem?_take, if_pos hj] at e
  rw [← Array.getElem?_toList, e]
  simp [nums, List.getD, hj]
set_option maxRecDepth 100000 in
/-- s2b, its row open to be written. -/
theorem s2bU (w : World) (s : ByteArray) (hs : s.size ≤ 1000000) :
    Calls Tryz.prog 144 #[.string s] w fun e w' => ∃ cap, e = .returned (.slice (some ⟨w.heap.size, 0, none⟩) s.size cap) ∧ s.size ≤ cap ∧ ∀ n, n ≤ s.size → UR w w' w.heap.size cap ((bytesOf s).take n) := by
  have hcv := Lib.run_convert_string_bytes (P := Tryz.prog) w 9 61 5 s (u := .string) Tryz.underlying9 Tryz.underlying61 Tryz.underlying5
  have HBW := Aside0.mk (bytes_below (Below.refl w.heap.size w) (Nat.le_refl _) 5 s)
  have HN := Aside0.mk (Lib.bytesWorld_at_new w 5 s)
  have HC : Aside0 (s.size ≤ grownCap w s.size 0 5 ∧ (Lib.bytesCells w 5 s).size = grownCap w s.size 0 5 ∧ (Lib.bytesCells w 5 s).toList.take s.size = nums .u8 (bytesOf s)) := ⟨by
    have h1 : s.size ≤ grownCap w s.size 0 5 := grownCap_ge _ _ _ _
    have h2 : s.data.size = s.size := rfl
    refine ⟨h1, by simp only [Lib.bytesCells, Array.size_append, Array.size_map, Array.size_replicate]; omega, ?_⟩
    simp only [Lib.bytesCells, Array.toList_append, Array.toList_map]
    rw [List.take_left' (by simp [h2])]
    unfold nums bytesOf
    rw [List.map_map]; rfl⟩
  obtain ⟨W1, hW1⟩ : ∃ W1, W1 = Lib.bytesWorld w 5 s := ⟨_, rfl⟩
  rw [← hW1] at hcv HBW HN
  clear hW1
  go_enter Tryz.func144, Tryz.ntmps144
  go_wp2
  go_ret
  refine ⟨_, rfl, HC.out.1, fun n hn => ⟨⟨_, by rw [HN.out, HC.out.2.1], HC.out.2.1, ?_⟩, by rw [List.length_take, bytesOf_length]; have := HC.out.1; omega, HBW.out, Nat.le_refl _⟩⟩
  have h := congrArg (List.take n) HC.out.2.2
  rw [List.take_take, Nat.min_eq_left hn] at h
  rw [List.length_take, bytesOf_length, Nat.min_eq_left hn, h]
  simp [nums, List.map_take]
theorem urel {s : ByteArray} {o E : List Int} {c : Int} {p k m : Nat} (HE : US s = strOfNums ((o ++ (uone c (D s (p + 1))).1) ++ utail k (D s (p + 1 + (uone c (D s (p + 1))).2)))) (HL : (uone c (D s (p + 1))).1.length ≤ (uone c (D s (p + 1))).2 + 2 ∧ p + 1 + (uone c (D s (p + 1))).2 ≤ s.size) (hop : o.length + 1 ≤ p) (HU : uone c (D s (p + 1)) = (E, m)) :
    p + 1 + m ≤ s.size ∧ p + 1 ≤ p + 1 + m ∧ (o ++ E).length ≤ p + 1 + m ∧ US s = strOfNums ((o ++ E) ++ utail k (D s (p + 1 + m))) := by
  rw [HU] at HE HL
  simp only at HE HL
  exact ⟨HL.2, Nat.le_add_right _ _, by rw [List.length_append]; omega, HE⟩
theorem lit2 : bytesOf ⟨#[92, 117]⟩ = [92, 117] := rfl
theorem ex46 (a : ByteArray) (i j : Nat) : bytesOf (a.extract i j) = ((bytesOf a).drop i).take (j - i) := by
  unfold bytesOf
  rw [ByteArray.data_extract, Array.toList_extract, List.extract_eq_take_drop, List.map_take, List.map_drop]
theorem take4 (y : ByteArray) : bytesOf (y.extract 0 4) = (bytesOf y).take 4 := take_ex y 4
set_option maxHeartbeats 16000000 in
set_option maxRecDepth 100000 in
theorem uesc_calls (s : ByteArray) (hs : s.size ≤ 1000000) (w : World) (hG : Glob w) :
    Calls Tryz.prog 141 #[.string s] w fun e w' => e = .returned (.string (US s)) ∧ Below w.heap.size w w' := by
  have HS := Aside0.mk hs
  have HGL := Aside0.mk hG
  rcases ix92_at s with ⟨h1, h2⟩ | ⟨n, h1, hn, h2⟩
  · have H1 := Aside0.mk h1
    have HU : Aside0 (US s = s) := ⟨by unfold US; rw [h2]⟩
    clear h1 h2 hs hG
    go_enter Tryz.func141, Tryz.ntmps141
    go_wp2_with (first | (go_at_call 131; (with_reducible refine (ixCall _ _ _ H1.out _).mono ?_); rintro e w' ⟨rfl, rfl⟩))
    go_ret
    exact ⟨by rw [HU.out]; rfl, Below.refl _ _⟩
  · have H1 := Aside0.mk h1
    have HU : Aside0 (US s = strOfNums ((bytesOf s).take n ++ uesc s.size (D s (n + 1)))) := ⟨by unfold US; rw [h2]⟩
    clear h1 h2 hG
    have HN := Aside0.mk hn
    go_enter Tryz.func141, Tryz.ntmps141
    go_wp2_with (first | (go_at_call 131; (with_reducible refine (ixCall _ _ _ H1.out _).mono ?_); rintro e w' ⟨rfl, rfl⟩) | (go_at_call 144; (with_reducible refine (s2bU _ s HS.out).mono ?_); rintro e w1 ⟨cap, rfl, hcap, hur⟩; have HUR := Aside0.mk (hur n (Nat.le_of_lt HN.out)); have HCP := Aside0.mk hcap; have hnc : n ≤ cap := Nat.le_trans (Nat.le_of_lt HN.out) hcap; clear hur hcap))
    clear hs
    go_loopg [0, 4] (s.size + 1) (fun kk v0 v4 wr => ∃ (p : Nat) (x : ByteArray) (o : List Int) (L : Nat), v0 = .string x ∧ v4 = .slice (some ⟨w.heap.size, 0, none⟩) L cap ∧ Aside0 (x = cut s p ∧ p ≤ s.size ∧ o.length + 1 ≤ p ∧ L = o.length ∧ s.size + 1 ≤ kk + p ∧ US s = strOfNums (o ++ uesc (kk - 1) (D s p))) ∧ Aside0 (UR w wr w.heap.size cap o))
    case atStart =>
      refine ⟨n + 1, _, (bytesOf s).take n, n, rfl, rfl, ⟨rfl, HN.out, ?_, ?_, by omega, HU.out⟩, HUR⟩
      · rw [List.length_take, bytesOf_length]; omega
      · rw [List.length_take, bytesOf_length]; have := HN.out; omega
    case round =>
      clear hnc
      obtain ⟨p, x, o, L, rfl, rfl, HR, HW⟩ := hrel
      have hxs : x.size = s.size - p := by rw [HR.out.1]; exact cut_size s p
      by_cases hz : x.size = 0
      · have e0 : decide (0 < (x.size : Int)) = false := decide_eq_false (by omega)
        have HE : Aside0 (US s = strOfNums o) := ⟨by
          rw [HR.out.2.2.2.2.2, D_nil s p (by omega)]
          cases gk - 1 <;> simp [uesc]⟩
        have HL : Aside0 (L = o.length) := ⟨HR.out.2.2.2.1⟩
        obtain rfl := HR.out.2.2.2.1
        have HCV := Aside0.mk (HW.out.conv (by have := HR.out.2.2.1; have := HR.out.2.1; have := HS.out; omega))
        clear hxs
        go_wp2_with (first | (go_at_call 71; (with_reducible refine (b2s _ _ _ _ _ HCV.out).mono ?_); rintro e w' ⟨rfl, rfl⟩))
        go_ret
        exact ⟨by rw [HE.out]; rfl, HW.out.bel⟩
      · obtain ⟨kk, rfl⟩ : ∃ j, gk = j + 1 := ⟨gk - 1, by have := HR.out.2.2.2.2.1; have := HR.out.2.1; omega⟩
        have hp : p < s.size := by omega
        have e0 : decide (0 < (x.size : Int)) = true := decide_eq_true (by omega)
        have hz1 : 0 < x.size := by omega
        have hx := first_bt s x p HR.out.1
        obtain ⟨c, hc⟩ : ∃ c, bt s (p : Int) = c := ⟨_, rfl⟩
        have hcr : 0 ≤ c ∧ c ≤ 255 := by rw [← hc]; exact bt_range s _
        rw [hc] at hx
        obtain ⟨y, hy⟩ : ∃ y, x.extract 1 x.size = y := ⟨_, rfl⟩
        have HY : Aside0 (y = cut s (p + 1)) := ⟨by rw [← hy, HR.out.1]; exact cut_cut s p 1⟩
        have HYS : Aside0 (y.size = s.size - (p + 1)) := ⟨by rw [HY.out]; exact cut_size s _⟩
        have hpl : p + 1 ≤ s.size := hp
        have HE : Aside0 (US s = strOfNums ((o ++ (uone c (D s (p + 1))).1) ++ utail (kk - 1) (D s (p + 1 + (uone c (D s (p + 1))).2)))) := ⟨by
          rw [HR.out.2.2.2.2.2, Nat.add_sub_cancel, D_cons s p hp, hc]
          obtain ⟨j, rfl⟩ : ∃ j, kk = j + 1 := ⟨kk - 1, by have := HR.out.2.2.2.2.1; omega⟩
          rw [uesc_cons, D_drop, Nat.add_sub_cancel, List.append_assoc]⟩
        have HUL : Aside0 ((uone c (D s (p + 1))).1.length ≤ (uone c (D s (p + 1))).2 + 2 ∧ p + 1 + (uone c (D s (p + 1))).2 ≤ s.size) := ⟨(uone_len _ _).1, by have := (uone_len c (D s (p + 1))).2; rw [D_len] at this; omega⟩
        have hop : o.length + 1 ≤ p := HR.out.2.2.1
        have hcp := HCP.out
        obtain rfl := HR.out.2.2.2.1
        clear hxs
        go_upto_block 2 with (fail)
        go_cut [0, 4] (fun v0 v4 wc => ∃ (q : Nat) (z : ByteArray) (o2 : List Int) (L2 : Nat), v0 = .string z ∧ v4 = .slice (some ⟨w.heap.size, 0, none⟩) L2 cap ∧ Aside0 (z = cut s q ∧ q ≤ s.size ∧ p + 1 ≤ q ∧ o2.length ≤ q ∧ L2 = o2.length ∧ US s = strOfNums (o2 ++ utail (kk - 1) (D s q))) ∧ Aside0 (UR w wc w.heap.size cap o2))
        case first =>
          by_cases d0 : c = 34
          · subst d0
            have HUO : Aside0 (uone 34 (D s (p + 1)) = ([34], 0)) := ⟨by unfold uone; simp⟩
            have HREL := Aside0.mk (urel HE.out HUL.out hop HUO.out)
            go_wp2_with (at_builtin; refine wp_ub1 w _ _ cap o 34 HW.out ?hr rfl _ _ rfl rfl rfl ?_; (case hr => omega); intro w2 hu; have HU2 := Aside0.mk hu; clear hu)
            go_meet
            case rel => exact ⟨p + 1 + 0, _, o ++ [34], _, rfl, rfl, ⟨HY.out, HREL.out.1, HREL.out.2.1, HREL.out.2.2.1, by simp, HREL.out.2.2.2⟩, HU2⟩
          have e1 : (c == 34) = false := beq_eq_false_iff_ne.mpr d0
          by_cases d1 : c = 92
          · subst d1
            have HUO : Aside0 (uone 92 (D s (p + 1)) = ([92], 0)) := ⟨by unfold uone; simp⟩
            have HREL := Aside0.mk (urel HE.out HUL.out hop HUO.out)
            go_wp2_with (at_builtin; refine wp_ub1 w _ _ cap o 92 HW.out ?hr rfl _ _ rfl rfl rfl ?_; (case hr => omega); intro w2 hu; have HU2 := Aside0.mk hu; clear hu)
            go_meet
            case rel => exact ⟨p + 1 + 0, _, o ++ [92], _, rfl, rfl, ⟨HY.out, HREL.out.1, HREL.out.2.1, HREL.out.2.2.1, by simp, HREL.out.2.2.2⟩, HU2⟩
          have e2 : (c == 92) = false := beq_eq_false_iff_ne.mpr d1
          by_cases d2 : c = 47
          · subst d2
            have HUO : Aside0 (uone 47 (D s (p + 1)) = ([47], 0)) := ⟨by unfold uone; simp⟩
            have HREL := Aside0.mk (urel HE.out HUL.out hop HUO.out)
            go_wp2_with (at_builtin; refine wp_ub1 w _ _ cap o 47 HW.out ?hr rfl _ _ rfl rfl rfl ?_; (case hr => omega); intro w2 hu; have HU2 := Aside0.mk hu; clear hu)
            go_meet
            case rel => exact ⟨p + 1 + 0, _, o ++ [47], _, rfl, rfl, ⟨HY.out, HREL.out.1, HREL.out.2.1, HREL.out.2.2.1, by simp, HREL.out.2.2.2⟩, HU2⟩
          have e3 : (c == 47) = false := beq_eq_false_iff_ne.mpr d2
          by_cases d3 : c = 98
          · subst d3
            have HUO : Aside0 (uone 98 (D s (p + 1)) = ([8], 0)) := ⟨by unfold uone; simp⟩
            have HREL := Aside0.mk (urel HE.out HUL.out hop HUO.out)
            go_wp2_with (at_builtin; refine wp_ub1 w _ _ cap o 8 HW.out ?hr rfl _ _ rfl rfl rfl ?_; (case hr => omega); intro w2 hu; have HU2 := Aside0.mk hu; clear hu)
            go_meet
            case rel => exact ⟨p + 1 + 0, _, o ++ [8], _, rfl, rfl, ⟨HY.out, HREL.out.1, HREL.out.2.1, HREL.out.2.2.1, by simp, HREL.out.2.2.2⟩, HU2⟩
          have e4 : (c == 98) = false := beq_eq_false_iff_ne.mpr d3
          by_cases d4 : c = 102
          · subst d4
            have HUO : Aside0 (uone 102 (D s (p + 1)) = ([12], 0)) := ⟨by unfold uone; simp⟩
            have HREL := Aside0.mk (urel HE.out HUL.out hop HUO.out)
            go_wp2_with (at_builtin; refine wp_ub1 w _ _ cap o 12 HW.out ?hr rfl _ _ rfl rfl rfl ?_; (case hr => omega); intro w2 hu; have HU2 := Aside0.mk hu; clear hu)
            go_meet
            case rel => exact ⟨p + 1 + 0, _, o ++ [12], _, rfl, rfl, ⟨HY.out, HREL.out.1, HREL.out.2.1, HREL.out.2.2.1, by simp, HREL.out.2.2.2⟩, HU2⟩
          have e5 : (c == 102) = false := beq_eq_false_iff_ne.mpr d4
          by_cases d5 : c = 110
          · subst d5
            have HUO : Aside0 (uone 110 (D s (p + 1)) = ([10], 0)) := ⟨by unfold uone; simp⟩
            have HREL := Aside0.mk (urel HE.out HUL.out hop HUO.out)
            go_wp2_with (at_builtin; refine wp_ub1 w _ _ cap o 10 HW.out ?hr rfl _ _ rfl rfl rfl ?_; (case hr => omega); intro w2 hu; have HU2 := Aside0.mk hu; clear hu)
            go_meet
            case rel => exact ⟨p + 1 + 0, _, o ++ [10], _, rfl, rfl, ⟨HY.out, HREL.out.1, HREL.out.2.1, HREL.out.2.2.1, by simp, HREL.out.2.2.2⟩, HU2⟩
          have e6 : (c == 110) = false := beq_eq_false_iff_ne.mpr d5
          by_cases d6 : c = 114
          · subst d6
            have HUO : Aside0 (uone 114 (D s (p + 1)) = ([13], 0)) := ⟨by unfold uone; simp⟩
            have HREL := Aside0.mk (urel HE.out HUL.out hop HUO.out)
            go_wp2_with (at_builtin; refine wp_ub1 w _ _ cap o 13 HW.out ?hr rfl _ _ rfl rfl rfl ?_; (case hr => omega); intro w2 hu; have HU2 := Aside0.mk hu; clear hu)
            go_meet
            case rel => exact ⟨p + 1 + 0, _, o ++ [13], _, rfl, rfl, ⟨HY.out, HREL.out.1, HREL.out.2.1, HREL.out.2.2.1, by simp, HREL.out.2.2.2⟩, HU2⟩
          have e7 : (c == 114) = false := beq_eq_false_iff_ne.mpr d6
          by_cases d7 : c = 116
          · subst d7
            have HUO : Aside0 (uone 116 (D s (p + 1)) = ([9], 0)) := ⟨by unfold uone; simp⟩
            have HREL := Aside0.mk (urel HE.out HUL.out hop HUO.out)
            go_wp2_with (at_builtin; refine wp_ub1 w _ _ cap o 9 HW.out ?hr rfl _ _ rfl rfl rfl ?_; (case hr => omega); intro w2 hu; have HU2 := Aside0.mk hu; clear hu)
            go_meet
            case rel => exact ⟨p + 1 + 0, _, o ++ [9], _, rfl, rfl, ⟨HY.out, HREL.out.1, HREL.out.2.1, HREL.out.2.2.1, by simp, HREL.out.2.2.2⟩, HU2⟩
          have e8 : (c == 116) = false := beq_eq_false_iff_ne.mpr d7
          by_cases d8 : c ≠ 117
          · have e9 : (c == 117) = false := beq_eq_false_iff_ne.mpr d8
            have HUO : Aside0 (uone c (D s (p + 1)) = ([92, c], 0)) := ⟨by unfold uone; rw [if_neg d0, if_neg d1, if_neg d2, if_neg d3, if_neg d4, if_neg d5, if_neg d6, if_neg d7, if_neg d8]⟩
            have HREL := Aside0.mk (urel HE.out HUL.out hop HUO.out)
            clear d0 d1 d2 d3 d4 d5 d6 d7 d8
            go_wp2_with (at_builtin; refine wp_ub2 w _ _ cap o 92 c HW.out ?hr rfl _ _ rfl rfl rfl ?_; (case hr => omega); intro w2 hu; have HU2 := Aside0.mk hu; clear hu)
            go_meet
            case rel => exact ⟨p + 1 + 0, _, o ++ [92, c], _, rfl, rfl, ⟨HY.out, HREL.out.1, HREL.out.2.1, HREL.out.2.2.1, by simp, HREL.out.2.2.2⟩, HU2⟩
          obtain rfl : c = 117 := Decidable.not_not.mp d8
          clear d0 d1 d2 d3 d4 d5 d6 d7 d8 e1 e2 e3 e4 e5 e6 e7 e8
          have HUD : Aside0 (uone 117 (D s (p + 1)) = if (D s (p + 1)).length < 4 ∨ h4 (D s (p + 1)) = false then ([92, 117], 0) else if sur (v4 (D s (p + 1))) = false then (uten (v4 (D s (p + 1))), 4) else if (D s (p + 1)).length - 4 < 6 ∨ rd (D s (p + 1)) 4 ≠ 92 ∨ rd (D s (p + 1)) 5 ≠ 117 ∨ h4 ((D s (p + 1)).drop 6) = false then ([92, 117] ++ (D s (p + 1)).take 4, 4) else (uten (upair (v4 (D s (p + 1))) (v4 ((D s (p + 1)).drop 6))), 10)) := ⟨rfl⟩
          have HDL : Aside0 ((D s (p + 1)).length = y.size) := ⟨by rw [D_len, HYS.out]⟩
          by_cases z1 : y.size < 4
          · have HUO : Aside0 (uone 117 (D s (p + 1)) = ([92, 117], 0)) := ⟨by rw [HUD.out, if_pos (.inl (by rw [HDL.out]; exact z1))]⟩
            have HREL := Aside0.mk (urel HE.out HUL.out hop HUO.out)
            have f1 : decide ((y.size : Int) < 4) = true := decide_eq_true (by omega)
            go_wp2_with (at_builtin; refine wp_ustr w _ _ cap o ⟨#[92, 117]⟩ HW.out ?hr rfl _ _ rfl rfl rfl ?_; (case hr => show o.length + 2 ≤ cap; omega); intro w2 hu; rw [lit2] at hu; have HU2 := Aside0.mk hu; clear hu)
            go_meet
            case rel => exact ⟨p + 1 + 0, _, o ++ [92, 117], _, rfl, rfl, ⟨HY.out, HREL.out.1, HREL.out.2.1, HREL.out.2.2.1, by simp, HREL.out.2.2.2⟩, HU2⟩
          have f1 : decide ((y.size : Int) < 4) = false := decide_eq_false (by omega)
          have f2 : (4 : Int) ≤ (y.size : Int) := by omega
          have f3 : 4 ≤ y.size := by omega
          have hxt := hx4_at s (p + 1) (by have := HYS.out; omega)
          have HTE : Aside0 (y.extract 0 4 = s.extract (p + 1) (p + 1 + 4)) := ⟨by rw [HY.out]; exact Base.bytes_inj (by rw [take_ex, cut_bytes]; unfold bytesOf; rw [ByteArray.data_extract, Array.toList_extract, List.extract_eq_take_drop, List.map_take, List.map_drop]; congr 1; omega)⟩
          have HTS : Aside0 ((y.extract 0 4).size = 4) := ⟨by simp [ByteArray.size_extract]; omega⟩
          have HTB : Aside0 (bytesOf (y.extract 0 4) = (D s (p + 1)).take 4) := ⟨by rw [take4, HY.out, cut_bytes]⟩
          rw [← HTE.out] at hxt
          clear z1
          cases hh : h4 (D s (p + 1)) with
          | false =>
            have HUO : Aside0 (uone 117 (D s (p + 1)) = ([92, 117], 0)) := ⟨by rw [HUD.out, if_pos (.inr hh)]⟩
            have HREL := Aside0.mk (urel HE.out HUL.out hop HUO.out)
            have HNO := Aside0.mk (hexNo (y.extract 0 4) HTS.out (hxt.1.trans hh) wr (Glob.bel HGL.out (Glob.lt HGL.out) HW.out.bel))
            clear hh hxt
            go_wp2_with (first | (go_at_call 165; (with_reducible refine HNO.out.mono ?_); rintro e w5 ⟨⟨v, T, u, rfl⟩, hb⟩; have HW5 := Aside0.mk (HW.out.below hb); clear hb) | (at_builtin; refine wp_ustr w _ _ cap o ⟨#[92, 117]⟩ HW5.out ?hr rfl _ _ rfl rfl rfl ?_; (case hr => show o.length + 2 ≤ cap; omega); intro w2 hu; rw [lit2] at hu; have HU2 := Aside0.mk hu; clear hu))
            go_meet
            case rel => exact ⟨p + 1 + 0, _, o ++ [92, 117], _, rfl, rfl, ⟨HY.out, HREL.out.1, HREL.out.2.1, HREL.out.2.2.1, by simp, HREL.out.2.2.2⟩, HU2⟩
          | true =>
            obtain ⟨v, hv⟩ : ∃ v, v4 (D s (p + 1)) = v := ⟨_, rfl⟩
            have hvr := v4_range s (p + 1) hh
            rw [hv] at hvr
            have hv0 := hvr.1
            have hv1 := hvr.2
            have HYES := Aside0.mk (hexYes (y.extract 0 4) HTS.out (hxt.1.trans hh) wr)
            rw [hxt.2, hv] at HYES
            have HSU := Aside0.mk (fun W => isSur v hv0 hv1 W)
            have hcv := runeStr v
            have hwr : IntKind.i32.wrap v = v := by simp only [IntKind.wrap, IntKind.bits, IntKind.signed]; simp; split <;> omega
            have HUD2 : Aside0 (uone 117 (D s (p + 1)) = if sur v = false then (uten v, 4) else if (D s (p + 1)).length - 4 < 6 ∨ rd (D s (p + 1)) 4 ≠ 92 ∨ rd (D s (p + 1)) 5 ≠ 117 ∨ h4 ((D s (p + 1)).drop 6) = false then ([92, 117] ++ (D s (p + 1)).take 4, 4) else (uten (upair v (v4 ((D s (p + 1)).drop 6))), 10)) := ⟨by rw [HUD.out, if_neg (by rw [hh, HDL.out]; simp; omega), hv]⟩
            obtain ⟨z4, hz4⟩ : ∃ z, y.extract 4 y.size = z := ⟨_, rfl⟩
            have HZ4 : Aside0 (z4 = cut s (p + 1 + 4)) := ⟨by rw [← hz4, HY.out]; exact cut_cut s (p + 1) 4⟩
            have HZ4E := Aside0.mk hz4
            have HZS : Aside0 (z4.size = y.size - 4) := ⟨by rw [HZ4.out, cut_size, HYS.out]; omega⟩
            clear hh hxt hvr hv hz4
            cases hsu : sur v with
            | false =>
              have HSV := Aside0.mk hsu
              have HUO : Aside0 (uone 117 (D s (p + 1)) = (uten v, 4)) := ⟨by rw [HUD2.out, if_pos hsu]⟩
              have HREL := Aside0.mk (urel HE.out HUL.out hop HUO.out)
              have HEL := Aside0.mk (enc_le v)
              clear hsu
              go_wp2_with (first | (go_at_call 165; (with_reducible refine HYES.out.mono ?_); rintro e w5 ⟨rfl, hb⟩; have HW5 := Aside0.mk (HW.out.below hb); clear hb) | (go_at_call 166; (with_reducible refine (HSU.out _).mono ?_); rintro e w6 ⟨rfl, rfl⟩; rw [HSV.out]) | (at_builtin; refine wp_ustr w _ _ cap o (Utf8.encode v) HW5.out ?hr rfl _ _ rfl rfl rfl ?_; (case hr => have := HEL.out; have := HYS.out; have := HCP.out; omega); intro w2 hu; have HU2 := Aside0.mk hu; clear hu))
              go_meet
              case rel => exact ⟨p + 1 + 4, _, o ++ uten v, _, rfl, rfl, ⟨HZ4E.out.trans HZ4.out, HREL.out.1, HREL.out.2.1, HREL.out.2.2.1, by rw [List.length_append]; unfold uten; rw [bytesOf_length], HREL.out.2.2.2⟩, HU2⟩
            | true =>
              have HSV := Aside0.mk hsu
              have hxa := first_bt s z4 (p + 1 + 4) HZ4.out
              have hxb : ∀ h : 1 < z4.size, ((z4[1]'h).toNat : Int) = bt s ((p + 1 + 5 : Nat) : Int) := fun h => by
                have h1 := bt_at z4 1 h
                have h2 := cut_bt s (p + 1 + 4) 1
                rw [← HZ4.out] at h2
                exact h1.trans h2
              have hr4 : rd (D s (p + 1)) 4 = bt s ((p + 1 + 4 : Nat) : Int) := rd_D s (p + 1) 4
              have hr5 : rd (D s (p + 1)) 5 = bt s ((p + 1 + 5 : Nat) : Int) := rd_D s (p + 1) 5
              have HUD3 : Aside0 (uone 117 (D s (p + 1)) = if z4.size < 6 ∨ bt s ((p + 1 + 4 : Nat) : Int) ≠ 92 ∨ bt s ((p + 1 + 5 : Nat) : Int) ≠ 117 ∨ h4 (D s (p + 1 + 6)) = false then ([92, 117] ++ (D s (p + 1)).take 4, 4) else (uten (upair v (v4 (D s (p + 1 + 6)))), 10)) := ⟨by rw [HUD2.out, if_neg (by rw [hsu]; decide), hr4, hr5, D_drop, HDL.out, HZS.out]⟩
              obtain ⟨ba, hba⟩ : ∃ x, bt s ((p + 1 + 4 : Nat) : Int) = x := ⟨_, rfl⟩
              obtain ⟨bb, hbb⟩ : ∃ x, bt s ((p + 1 + 5 : Nat) : Int) = x := ⟨_, rfl⟩
              rw [hba, hbb] at HUD3
              rw [hba] at hxa
              rw [hbb] at hxb
              clear hsu hr4 hr5 hba hbb
              go_upto_region 38 with (first | (go_at_call 165; (with_reducible refine HYES.out.mono ?_); rintro e w5 ⟨rfl, hb⟩; have HW5 := Aside0.mk (HW.out.below hb); clear hb) | (go_at_call 166; (with_reducible refine (HSU.out _).mono ?_); rintro e w6 ⟨rfl, rfl⟩; rw [HSV.out]))
              rw [HZ4E.out]
              by_cases z2 : z4.size < 6
              · have f4 : decide ((z4.size : Int) < 6) = true := decide_eq_true (by omega)
                have HUO : Aside0 (uone 117 (D s (p + 1)) = ([92, 117] ++ (D s (p + 1)).take 4, 4)) := ⟨by rw [HUD3.out, if_pos (.inl z2)]⟩
                have HREL := Aside0.mk (urel HE.out HUL.out hop HUO.out)
                go_wp2_with (first | (at_builtin; refine wp_ustr w _ _ cap o ⟨#[92, 117]⟩ HW5.out ?hr rfl _ _ rfl rfl rfl ?_; (case hr => show o.length + 2 ≤ cap; omega); intro w2 hu; rw [lit2] at hu; have HU2 := Aside0.mk hu; have HLN2 : Aside0 ((o ++ [92, 117]).length = o.length + 2) := ⟨by simp⟩; clear hu) | (at_builtin; refine wp_ustr w _ _ cap (o ++ [92, 117]) (y.extract 0 4) HU2.out ?hr rfl _ _ rfl ?hs rfl ?_; (case hr => have := HTS.out; have := HLN2.out; have := HYS.out; have := HCP.out; omega); (case hs => rw [HLN2.out]; rfl); intro w3 hu; rw [HTB.out] at hu; have HU3 := Aside0.mk hu; clear hu))
                go_meet
                case rel => exact ⟨p + 1 + 4, _, o ++ ([92, 117] ++ (D s (p + 1)).take 4), _, rfl, rfl, ⟨HZ4.out, HREL.out.1, HREL.out.2.1, HREL.out.2.2.1, by rw [← HTB.out, List.length_append, List.length_append, bytesOf_length, HTS.out]; simp, HREL.out.2.2.2⟩, ⟨by have := HU3.out; rwa [List.append_assoc] at this⟩⟩
              have f4 : decide ((z4.size : Int) < 6) = false := decide_eq_false (by omega)
              have f5 : 0 < z4.size := by omega
              have f6 : 1 < z4.size := by omega
              by_cases z3 : ba ≠ 92
              · have f7 : (ba != 92) = true := bne_iff_ne.mpr z3
                have HUO : Aside0 (uone 117 (D s (p + 1)) = ([92, 117] ++ (D s (p + 1)).take 4, 4)) := ⟨by rw [HUD3.out, if_pos (.inr (.inl z3))]⟩
                have HREL := Aside0.mk (urel HE.out HUL.out hop HUO.out)
                go_wp2_with (first | (at_builtin; refine wp_ustr w _ _ cap o ⟨#[92, 117]⟩ HW5.out ?hr rfl _ _ rfl rfl rfl ?_; (case hr => show o.length + 2 ≤ cap; omega); intro w2 hu; rw [lit2] at hu; have HU2 := Aside0.mk hu; have HLN2 : Aside0 ((o ++ [92, 117]).length = o.length + 2) := ⟨by simp⟩; clear hu) | (at_builtin; refine wp_ustr w _ _ cap (o ++ [92, 117]) (y.extract 0 4) HU2.out ?hr rfl _ _ rfl ?hs rfl ?_; (case hr => have := HTS.out; have := HLN2.out; have := HYS.out; have := HCP.out; omega); (case hs => rw [HLN2.out]; rfl); intro w3 hu; rw [HTB.out] at hu; have HU3 := Aside0.mk hu; clear hu))
                go_meet
                case rel => exact ⟨p + 1 + 4, _, o ++ ([92, 117] ++ (D s (p + 1)).take 4), _, rfl, rfl, ⟨HZ4.out, HREL.out.1, HREL.out.2.1, HREL.out.2.2.1, by rw [← HTB.out, List.length_append, List.length_append, bytesOf_length, HTS.out]; simp, HREL.out.2.2.2⟩, ⟨by have := HU3.out; rwa [List.append_assoc] at this⟩⟩
              have f7 : (ba != 92) = false := bne_eq_false_iff_eq.mpr (Decidable.not_not.mp z3)
              by_cases z5 : bb ≠ 117
              · have f8 : (bb != 117) = true := bne_iff_ne.mpr z5
                have HUO : Aside0 (uone 117 (D s (p + 1)) = ([92, 117] ++ (D s (p + 1)).take 4, 4)) := ⟨by rw [HUD3.out, if_pos (.inr (.inr (.inl z5)))]⟩
                have HREL := Aside0.mk (urel HE.out HUL.out hop HUO.out)
                go_wp2_with (first | (at_builtin; refine wp_ustr w _ _ cap o ⟨#[92, 117]⟩ HW5.out ?hr rfl _ _ rfl rfl rfl ?_; (case hr => show o.length + 2 ≤ cap; omega); intro w2 hu; rw [lit2] at hu; have HU2 := Aside0.mk hu; have HLN2 : Aside0 ((o ++ [92, 117]).length = o.length + 2) := ⟨by simp⟩; clear hu) | (at_builtin; refine wp_ustr w _ _ cap (o ++ [92, 117]) (y.extract 0 4) HU2.out ?hr rfl _ _ rfl ?hs rfl ?_; (case hr => have := HTS.out; have := HLN2.out; have := HYS.out; have := HCP.out; omega); (case hs => rw [HLN2.out]; rfl); intro w3 hu; rw [HTB.out] at hu; have HU3 := Aside0.mk hu; clear hu))
                go_meet
                case rel => exact ⟨p + 1 + 4, _, o ++ ([92, 117] ++ (D s (p + 1)).take 4), _, rfl, rfl, ⟨HZ4.out, HREL.out.1, HREL.out.2.1, HREL.out.2.2.1, by rw [← HTB.out, List.length_append, List.length_append, bytesOf_length, HTS.out]; simp, HREL.out.2.2.2⟩, ⟨by have := HU3.out; rwa [List.append_assoc] at this⟩⟩
              have f8 : (bb != 117) = false := bne_eq_false_iff_eq.mpr (Decidable.not_not.mp z5)
              have hy6 : p + 1 + 10 ≤ s.size := by have := HZS.out; have := HYS.out; omega
              have hxt := hx4_at s (p + 1 + 6) (by omega)
              have f9 : (6 : Int) ≤ (z4.size : Int) := by omega
              have HTE2 : Aside0 (z4.extract 2 6 = s.extract (p + 1 + 6) (p + 1 + 6 + 4)) := ⟨by rw [HZ4.out]; exact Base.bytes_inj (by rw [ex46 (cut s (p + 1 + 4)) 2 6, ex46 s (p + 1 + 6) (p + 1 + 6 + 4), cut_bytes, List.drop_drop]; congr 1; omega)⟩
              have HTS2 : Aside0 ((z4.extract 2 6).size = 4) := ⟨by simp [ByteArray.size_extract]; omega⟩
              rw [← HTE2.out] at hxt
              cases hh : h4 (D s (p + 1 + 6)) with
              | false =>
                have HUO : Aside0 (uone 117 (D s (p + 1)) = ([92, 117] ++ (D s (p + 1)).take 4, 4)) := ⟨by rw [HUD3.out, if_pos (.inr (.inr (.inr hh)))]⟩
                have HREL := Aside0.mk (urel HE.out HUL.out hop HUO.out)
                have HNO := Aside0.mk (fun W hW => hexNo (z4.extract 2 6) HTS2.out (hxt.1.trans hh) W hW)
                clear hh hxt
                go_wp2_with (first | (go_at_call 165; (with_reducible refine (HNO.out _ (Glob.bel HGL.out (Glob.lt HGL.out) HW5.out.bel)).mono ?_); rintro e w7 ⟨⟨v2, T2, u2, rfl⟩, hb⟩; have HW7 := Aside0.mk (HW5.out.below hb); clear hb) | (at_builtin; refine wp_ustr w _ _ cap o ⟨#[92, 117]⟩ HW7.out ?hr rfl _ _ rfl rfl rfl ?_; (case hr => show o.length + 2 ≤ cap; omega); intro w2 hu; rw [lit2] at hu; have HU2 := Aside0.mk hu; have HLN2 : Aside0 ((o ++ [92, 117]).length = o.length + 2) := ⟨by simp⟩; clear hu) | (at_builtin; refine wp_ustr w _ _ cap (o ++ [92, 117]) (y.extract 0 4) HU2.out ?hr rfl _ _ rfl ?hs rfl ?_; (case hr => have := HTS.out; have := HLN2.out; have := HYS.out; have := HCP.out; omega); (case hs => rw [HLN2.out]; rfl); intro w3 hu; rw [HTB.out] at hu; have HU3 := Aside0.mk hu; clear hu))
                go_meet
                case rel => exact ⟨p + 1 + 4, _, o ++ ([92, 117] ++ (D s (p + 1)).take 4), _, rfl, rfl, ⟨HZ4.out, HREL.out.1, HREL.out.2.1, HREL.out.2.2.1, by rw [← HTB.out, List.length_append, List.length_append, bytesOf_length, HTS.out]; simp, HREL.out.2.2.2⟩, ⟨by have := HU3.out; rwa [List.append_assoc] at this⟩⟩
              | true =>
                obtain ⟨v2, hv2⟩ : ∃ v, v4 (D s (p + 1 + 6)) = v := ⟨_, rfl⟩
                have hvr := v4_range s (p + 1 + 6) hh
                rw [hv2] at hvr
                have hg0 := hvr.1
                have hg1 := hvr.2
                have HYES2 := Aside0.mk (fun W => hexYes (z4.extract 2 6) HTS2.out (hxt.1.trans hh) W)
                rw [hxt.2, hv2] at HYES2
                have hwr2 : IntKind.i32.wrap v2 = v2 := by simp only [IntKind.wrap, IntKind.bits, IntKind.signed]; simp; split <;> omega
                have HDE := Aside0.mk (fun W => decRune v v2 hv0 hv1 hg0 hg1 W)
                obtain ⟨r, hr⟩ : ∃ r, upair v v2 = r := ⟨_, rfl⟩
                rw [hr] at HDE
                have hcv2 := runeStr r
                have HEL := Aside0.mk (enc_le r)
                have HUO : Aside0 (uone 117 (D s (p + 1)) = (uten r, 10)) := ⟨by rw [HUD3.out, if_neg (by rw [hh]; simp [Decidable.not_not.mp z3, Decidable.not_not.mp z5]; omega), hv2, hr]⟩
                have HREL := Aside0.mk (urel HE.out HUL.out hop HUO.out)
                have HZ10 : Aside0 (z4.extract 6 z4.size = cut s (p + 1 + 10)) := ⟨by rw [HZ4.out]; exact cut_cut s (p + 1 + 4) 6⟩
                clear hh hxt hvr hv2 hr z3 z5
                go_wp2_with (first | (go_at_call 165; (with_reducible refine (HYES2.out _).mono ?_); rintro e w7 ⟨rfl, hb⟩; have HW7 := Aside0.mk (HW5.out.below hb); clear hb) | (go_at_call 167; (with_reducible refine (HDE.out _).mono ?_); rintro e w8 ⟨rfl, rfl⟩) | (at_builtin; refine wp_ustr w _ _ cap o (Utf8.encode r) HW7.out ?hr rfl _ _ rfl rfl rfl ?_; (case hr => have := HEL.out; have := HYS.out; have := HCP.out; omega); intro w2 hu; have HU2 := Aside0.mk hu; clear hu))
                go_meet
                case rel => exact ⟨p + 1 + 10, _, o ++ uten r, _, rfl, rfl, ⟨HZ10.out, HREL.out.1, HREL.out.2.1, HREL.out.2.2.1, by rw [List.length_append]; unfold uten; rw [bytesOf_length], HREL.out.2.2.2⟩, HU2⟩
        case rest =>
          obtain ⟨q, z, o2, L2, rfl, rfl, HC, HU2⟩ := hcut
          obtain rfl := HC.out.2.2.2.2.1
          have HZS : Aside0 (z.size = s.size - q) := ⟨by rw [HC.out.1]; exact cut_size s q⟩
          have HZB : Aside0 (bytesOf z = D s q) := ⟨by rw [HC.out.1]; exact cut_bytes s q⟩
          rcases ix92_at z with ⟨k1, k2⟩ | ⟨m, k1, k3, k2⟩
          · have K1 := Aside0.mk k1
            have HF : Aside0 (US s = strOfNums (o2 ++ D s q)) := ⟨by rw [HC.out.2.2.2.2.2]; unfold utail; rw [← HZB.out, k2]⟩
            clear k1 k2 e0 hz1 hx hy
            go_wp2_with (first | (go_at_call 131; (with_reducible refine (ixCall _ _ _ K1.out _).mono ?_); rintro e w' ⟨rfl, rfl⟩) | (at_builtin; refine wp_ustr w _ _ cap o2 z HU2.out ?hr rfl _ _ rfl rfl rfl ?_; (case hr => have := HC.out.2.2.2.1; have := HC.out.2.1; have := HZS.out; have := HCP.out; omega); intro w3 hu; rw [HZB.out] at hu; have HU3 := Aside0.mk hu; clear hu; have HLQ : Aside0 ((o2 ++ D s q).length = o2.length + z.size) := (by rw [List.length_append, ← HZB.out, bytesOf_length]; exact ⟨rfl⟩); have HCV := Aside0.mk (HU3.out.conv (by rw [HLQ.out]; have := HC.out.2.2.2.1; have := HC.out.2.1; have := HZS.out; have := HS.out; omega)); rw [HLQ.out] at HCV) | (go_at_call 71; (with_reducible refine (b2s _ _ _ _ _ HCV.out).mono ?_); rintro e w' ⟨rfl, rfl⟩))
            go_ret
            exact ⟨by rw [HF.out]; rfl, HU3.out.bel⟩
          · have K1 := Aside0.mk k1
            have HF : Aside0 (US s = strOfNums ((o2 ++ (D s q).take m) ++ uesc (kk - 1) (D s (q + m + 1)))) := ⟨by rw [HC.out.2.2.2.2.2]; unfold utail; rw [← HZB.out, k2, HZB.out]; simp only []; rw [D_drop, List.append_assoc]; rfl⟩
            have K3 := Aside0.mk k3
            clear k1 k2 e0 hz1 hx hy
            have HTM : Aside0 (bytesOf (z.extract 0 m) = (D s q).take m) := ⟨by rw [take_ex, HZB.out]⟩
            have HTZ : Aside0 ((z.extract 0 m).size = m) := ⟨by simp [ByteArray.size_extract]; omega⟩
            have hz6 : z.size ≤ 1000000 := by have := HZS.out; have := HS.out; omega
            have HTL : Aside0 (((D s q).take m).length = m) := ⟨by rw [← HTM.out, bytesOf_length, HTZ.out]⟩
            have hmz : (m : Int) ≤ (z.size : Int) := by omega
            have hmz1 : (m : Int) + 1 ≤ (z.size : Int) := by omega
            go_wp2_with (first | (go_at_call 131; (with_reducible refine (ixCall _ _ _ K1.out _).mono ?_); rintro e w' ⟨rfl, rfl⟩) | (at_builtin; refine wp_ustr w _ _ cap o2 (z.extract 0 m) HU2.out ?hr rfl _ _ rfl rfl rfl ?_; (case hr => have := HC.out.2.2.2.1; have := HC.out.2.1; have := HZS.out; have := HTZ.out; have := K3.out; have := HCP.out; omega); intro w3 hu; rw [HTM.out] at hu; have HU3 := Aside0.mk hu; clear hu))
            go_roundg kk
            case measure => omega
            case rel => exact ⟨q + m + 1, _, o2 ++ (D s q).take m, _, rfl, rfl, ⟨by rw [HC.out.1]; exact cut_cut s q (m + 1), by have := K3.out; have := HZS.out; omega, by rw [List.length_append, HTL.out]; have := HC.out.2.2.2.1; omega, by rw [List.length_append, HTL.out]; have := K3.out; omega, by have := HR.out.2.2.2.2.1; have := HC.out.2.2.1; omega, HF.out⟩, HU3⟩
end Go.Proofs.YtlhaefblchpjhaaGreatDoor.Fp
end
section
namespace Go.Proofs.YtlhaefblchpjhaaGreatDoor.Fp
open Go.RowKit Go.Proofs.YtlhaefblchpjhaaGreatDoorW.PrintWords Go.Proofs.YtlhaefblchpjhaaGreatDoorW.PrintLast Go.Proofs.YtlhaefblchpjhaaGreatDoorW.PrintMore
open Go.Proofs.YtlhaefblchpjhaaGreatDoor.FjW (cut cut_cut cut_size cut_bytes cut_zero cut_bt bt_out D rd_D rd_D0 D_drop D_len D_nil D_cons ws_at skipWS errNew ixOf ixCall ix_or)
set_option linter.unusedVariables false
set_option linter.unusedSimpArgs false
/-- Behind the key. -/
theorem Bx.key {W W2 : World} {nb i : Nat} {kv kk A : Value} {xs ys xs' : List Value} (h : Bx W nb i i kv kk xs ys) (hR : W2.ownsRow (nb + 1) 9 1 A (i + 1) xs') (g : W.grownBy W2 kv.ownBlock) :
    Bx (W2.setCell ⟨nb, 2, none⟩ A) nb (i + 1) i A kk xs' ys := by
  have hne : kv.ownBlock ≠ some nb := fun e => by have := h.keys.lt nb e; omega
  have hb : W2.heap[nb]? = some (.cells #[.int .i64 6, emptyS, kv, kk] TN (0, 0)) := (g.block nb h.lt (Ne.symm hne)).trans h.box
  have hkk : kk.ownBlock = none ∨ kk.ownBlock ≠ kv.ownBlock := by
    rcases h.kids.2 with ⟨rfl, _⟩ | ⟨g1, c1, cur1, rfl, h1, h2, _⟩
    · exact .inl rfl
    · refine .inr fun e => ?_
      rcases h.keys.2 with ⟨rfl, _⟩ | ⟨g2, c2, cur2, rfl, h3, h4, _⟩
      · cases e
      · simp only [Value.ownBlock, Option.some.injEq] at e
        subst e
        rw [h2] at h4
        simp only [Option.some.injEq, Obj.cells.injEq] at h4
        exact absurd h4.2.1 (by decide)
  refine ⟨heap_set hb A, ownsRow_setCell_other hR (fun e => ?_) A, ownsRow_setCell_other (h.kids.kept g hkk) (fun e => ?_) A⟩
  · have := hR.lt nb e; omega
  · have := h.kids.lt nb e; omega
/-- Behind the element. -/
theorem Bx.kid {W W2 : World} {nb i m g c : Nat} {kv kk : Value} {xs ys ys' : List Value} (h : Bx W nb i m kv kk xs ys) (hR : W2.ownsRow (nb + 1) TN 4 (.slice (some ⟨g, 0, none⟩) (m + 1) c) (m + 1) ys') (gr : W.grownBy W2 kk.ownBlock) (a0 a1 a2 a3 : Value) :
    ∃ ys2, Bx (((((W2.setCell ⟨g, m * 4, none⟩ a0).setCell ⟨g, m * 4 + 1, none⟩ a1).setCell ⟨g, m * 4 + 2, none⟩ a2).setCell ⟨g, m * 4 + 3, none⟩ a3).setCell ⟨nb, 3, none⟩ (.slice (some ⟨g, 0, none⟩) (m + 1) c)) nb i (m + 1) kv (.slice (some ⟨g, 0, none⟩) (m + 1) c) xs ys2 := by
  have hne : kk.ownBlock ≠ some nb := fun e => by have := h.kids.lt nb e; omega
  have hb : W2.heap[nb]? = some (.cells #[.int .i64 6, emptyS, kv, kk] TN (0, 0)) := (gr.block nb h.lt (Ne.symm hne)).trans h.box
  have hg : nb + 1 ≤ g := (hR.lt g rfl).1
  have hkk : kv.ownBlock = none ∨ kv.ownBlock ≠ kk.ownBlock := by
    rcases h.kids.2 with ⟨rfl, _⟩ | ⟨g1, c1, cur1, rfl, h1, h2, _⟩
    · cases hk : kv.ownBlock with
      | none => exact .inl rfl
      | some y => exact .inr (by simp [Value.ownBlock])
    · rcases h.keys.2 with ⟨rfl, _⟩ | ⟨g2, c2, cur2, rfl, h3, h4, _⟩
      · exact .inl rfl
      · refine .inr fun e => ?_
        simp only [Value.ownBlock, Option.some.injEq] at e
        subst e
        rw [h2] at h4
        simp only [Option.some.injEq, Obj.cells.injEq] at h4
        exact absurd h4.2.1 (by decide)
  have hk2 := h.keys.kept gr hkk
  have hkg : kv.ownBlock ≠ some g := fun e => by
    rcases hR.2 with ⟨e1, _⟩ | ⟨g1, c1, cur1, e1, h1, h2, _⟩
    · cases e1
    · injection e1 with e1; injection e1 with e1; injection e1 with e1
      subst e1
      rcases hk2.2 with ⟨rfl, _⟩ | ⟨g2, c2, cur2, rfl, h3, h4, _⟩
      · cases e
      · simp only [Value.ownBlock, Option.some.injEq] at e
        subst e
        rw [h2] at h4
        simp only [Option.some.injEq, Obj.cells.injEq] at h4
        exact absurd h4.2.1 (by decide)
  have hkn : kv.ownBlock ≠ some nb := fun e => by have := h.keys.lt nb e; omega
  obtain ⟨r1, _⟩ := hR.stored (m * 4) a0
  obtain ⟨r2, _⟩ := r1.stored (m * 4 + 1) a1
  obtain ⟨r3, _⟩ := r2.stored (m * 4 + 2) a2
  obtain ⟨r4, _⟩ := r3.stored (m * 4 + 3) a3
  refine ⟨_, heap_set (((heap_other _ _ _ _ _ (by omega)).trans ((heap_other _ _ _ _ _ (by omega)).trans ((heap_other _ _ _ _ _ (by omega)).trans ((heap_other _ _ _ _ _ (by omega)).trans hb))))) _, ?_, ownsRow_setCell_other r4 (by simp [Value.ownBlock]; omega) _⟩
  exact ownsRow_setCell_other (ownsRow_setCell_other (ownsRow_setCell_other (ownsRow_setCell_other (ownsRow_setCell_other hk2 hkg _) hkg _) hkg _) hkg _) hkn _
theorem own_slice {w : World} {lo e size n : Nat} {v : Value} {xs : List Value} (h : w.ownsRow lo e size v n xs) : ∃ A c, v = .slice A n c := by
  rcases h.2 with ⟨rfl, rfl⟩ | ⟨g, cap, cur, rfl, _⟩
  · exact ⟨_, _, rfl⟩
  · exact ⟨_, _, rfl⟩
theorem own_at {w : World} {lo e size n g cap : Nat} {xs : List Value} (h : w.ownsRow lo e size (.slice (some ⟨g, 0, none⟩) n cap) n xs) (j : Nat) (hj : j < n * size) : ∃ y, w.cell? ⟨g, j, none⟩ = some y := by
  rw [h.cellAt j hj]
  exact ⟨xs[j]'(by rw [h.1]; exact hj), List.getElem?_eq_getElem _⟩
/-- The same, the slice stored first. -/
theorem Bx.kid2 {W W2 : World} {nb i m g c : Nat} {kv kk : Value} {xs ys ys' : List Value} (h : Bx W nb i m kv kk xs ys) (hR : W2.ownsRow (nb + 1) TN 4 (.slice (some ⟨g, 0, none⟩) (m + 1) c) (m + 1) ys') (gr : W.grownBy W2 kk.ownBlock) (a0 a1 a2 a3 : Value) :
    ∃ ys2, Bx (((((W2.setCell ⟨nb, 3, none⟩ (.slice (some ⟨g, 0, none⟩) (m + 1) c)).setCell ⟨g, m * 4, none⟩ a0).setCell ⟨g, m * 4 + 1, none⟩ a1).setCell ⟨g, m * 4 + 2, none⟩ a2).setCell ⟨g, m * 4 + 3, none⟩ a3) nb i (m + 1) kv (.slice (some ⟨g, 0, none⟩) (m + 1) c) xs ys2 := by
  have hg : nb + 1 ≤ g := (hR.lt g rfl).1
  obtain ⟨ys2, hb⟩ := h.kid hR gr a0 a1 a2 a3
  have hR2 : (W2.setCell ⟨nb, 3, none⟩ (.slice (some ⟨g, 0, none⟩) (m + 1) c)).ownsRow (nb + 1) TN 4 (.slice (some ⟨g, 0, none⟩) (m + 1) c) (m + 1) ys' := ownsRow_setCell_other hR (by simp [Value.ownBlock]; omega) _
  obtain ⟨r1, _⟩ := hR2.stored (m * 4) a0
  obtain ⟨r2, _⟩ := r1.stored (m * 4 + 1) a1
  obtain ⟨r3, _⟩ := r2.stored (m * 4 + 2) a2
  obtain ⟨r4, _⟩ := r3.stored (m * 4 + 3) a3
  have hkk := hb.keys
  have hne : kk.ownBlock ≠ some nb := fun e => by have := h.kids.lt nb e; omega
  have hbx : W2.heap[nb]? = some (.cells #[.int .i64 6, emptyS, kv, kk] TN (0, 0)) := (gr.block nb h.lt (Ne.symm hne)).trans h.box
  refine ⟨_, (heap_other _ _ _ _ _ (by omega)).trans ((heap_other _ _ _ _ _ (by omega)).trans ((heap_other _ _ _ _ _ (by omega)).trans ((heap_other _ _ _ _ _ (by omega)).trans (heap_set hbx _)))), ?_, r4⟩
  refine ⟨hkk.1, ?_⟩
  rcases hkk.2 with c' | ⟨g', cap, cur, rfl, h1, h2, rest⟩
  · exact .inl c'
  · refine .inr ⟨g', cap, cur, rfl, h1, ?_, rest⟩
    have hgg : g' ≠ g := by
      rintro rfl
      rcases hb.kids.2 with ⟨e1, _⟩ | ⟨g1, c1, cur1, e1, _, h3, _⟩
      · cases e1
      · injection e1 with e1
        injection e1 with e1
        injection e1 with e1
        subst e1
        rw [h2] at h3
        simp only [Option.some.injEq, Obj.cells.injEq] at h3
        exact absurd h3.2.1 (by decide)
    have hb2 : W2.heap[g']? = some (.cells cur 9 (0, 0)) := by
      rw [heap_other _ _ _ _ _ (by omega), heap_other _ _ _ _ _ hgg, heap_other _ _ _ _ _ hgg, heap_other _ _ _ _ _ hgg, heap_other _ _ _ _ _ hgg] at h2
      exact h2
    exact (heap_other _ _ _ _ _ hgg).trans ((heap_other _ _ _ _ _ hgg).trans ((heap_other _ _ _ _ _ hgg).trans ((heap_other _ _ _ _ _ hgg).trans ((heap_other _ _ _ _ _ (by omega)).trans hb2))))
theorem below_set {lo : Nat} {w W : World} (h : Below lo w W) {b j : Nat} (hb : lo ≤ b) (u : Value) : Below lo w (W.setCell ⟨b, j, none⟩ u) := h.setCell (p := ⟨b, j, none⟩) hb u
theorem far4 {w6 : World} {g nb m : Nat} {v : Value} (hx : w6.cell? ⟨nb, 3, none⟩ = some v) (hng : (nb = g) = False) (a0 a1 a2 a3 : Value) : ((((w6.setCell ⟨g, m * 4, none⟩ a0).setCell ⟨g, m * 4 + 1, none⟩ a1).setCell ⟨g, m * 4 + 2, none⟩ a2).setCell ⟨g, m * 4 + 3, none⟩ a3).cell? ⟨nb, 3, none⟩ = some v := by
  have hn : ∀ j, (⟨g, j, none⟩ : Addr) ≠ ⟨nb, 3, none⟩ := fun j e => by
    injection e with e _ _
    exact (hng.mp e.symm).elim
  rw [World.cell?_setCell_other _ _ _ _ (hn _), World.cell?_setCell_other _ _ _ _ (hn _), World.cell?_setCell_other _ _ _ _ (hn _), World.cell?_setCell_other _ _ _ _ (hn _)]
  exact hx
theorem cb_end {W w5 w6 : World} {F : Addr → Prop} {nb i m g c : Nat} {kv kk : Value} {xs ys ys' : List Value} (hL : FrL nb W w5 F) (h6 : ∃ V, Bx V nb i m kv kk xs ys ∧ Below nb w5 V ∧ V.grownBy w6 kk.ownBlock) (hk : w6.ownsRow (nb + 1) TN 4 (.slice (some ⟨g, 0, none⟩) (m + 1) c) (m + 1) ys') (a0 a1 a2 a3 : Value) :
    (∃ kv' kk' xs' ys', Bx (((((w6.setCell ⟨g, m * 4, none⟩ a0).setCell ⟨g, m * 4 + 1, none⟩ a1).setCell ⟨g, m * 4 + 2, none⟩ a2).setCell ⟨g, m * 4 + 3, none⟩ a3).setCell ⟨nb, 3, none⟩ (.slice (some ⟨g, 0, none⟩) (m + 1) c)) nb i (m + 1) kv' kk' xs' ys') ∧ FrL nb W (((((w6.setCell ⟨g, m * 4, none⟩ a0).setCell ⟨g, m * 4 + 1, none⟩ a1).setCell ⟨g, m * 4 + 2, none⟩ a2).setCell ⟨g, m * 4 + 3, none⟩ a3).setCell ⟨nb, 3, none⟩ (.slice (some ⟨g, 0, none⟩) (m + 1) c)) F := by
  obtain ⟨V, v1, v2, v3⟩ := h6
  obtain ⟨ys2, hb⟩ := v1.kid hk v3 a0 a1 a2 a3
  have hg : nb ≤ g := Nat.le_of_lt (hk.lt g rfl).1
  have b6 : Below nb V w6 := Below.grown (Below.refl _ _) v3 (Nat.le_of_lt v1.lt) (fun k e => by have := v1.kids.lt k e; omega)
  exact ⟨⟨_, _, _, _, hb⟩, (hL.bel v2).bel (below_set (below_set (below_set (below_set (below_set b6 hg _) hg _) hg _) hg _) (Nat.le_refl _) _)⟩
theorem cb_end2 {W w5 w6 : World} {F : Addr → Prop} {nb i m g c : Nat} {kv kk : Value} {xs ys ys' : List Value} (hL : FrL nb W w5 F) (h6 : ∃ V, Bx V nb i m kv kk xs ys ∧ Below nb w5 V ∧ V.grownBy w6 kk.ownBlock) (hk : w6.ownsRow (nb + 1) TN 4 (.slice (some ⟨g, 0, none⟩) (m + 1) c) (m + 1) ys') (a0 a1 a2 a3 : Value) :
    (∃ kv' kk' xs' ys', Bx (((((w6.setCell ⟨nb, 3, none⟩ (.slice (some ⟨g, 0, none⟩) (m + 1) c)).setCell ⟨g, m * 4, none⟩ a0).setCell ⟨g, m * 4 + 1, none⟩ a1).setCell ⟨g, m * 4 + 2, none⟩ a2).setCell ⟨g, m * 4 + 3, none⟩ a3) nb i (m + 1) kv' kk' xs' ys') ∧ FrL nb W (((((w6.setCell ⟨nb, 3, none⟩ (.slice (some ⟨g, 0, none⟩) (m + 1) c)).setCell ⟨g, m * 4, none⟩ a0).setCell ⟨g, m * 4 + 1, none⟩ a1).setCell ⟨g, m * 4 + 2, none⟩ a2).setCell ⟨g, m * 4 + 3, none⟩ a3) F := by
  obtain ⟨V, v1, v2, v3⟩ := h6
  obtain ⟨ys2, hb⟩ := v1.kid2 hk v3 a0 a1 a2 a3
  have hg : nb ≤ g := Nat.le_of_lt (hk.lt g rfl).1
  have b6 : Below nb V w6 := Below.grown (Below.refl _ _) v3 (Nat.le_of_lt v1.lt) (fun k e => by have := v1.kids.lt k e; omega)
  exact ⟨⟨_, _, _, _, hb⟩, (hL.bel v2).bel (below_set (below_set (below_set (below_set (below_set b6 (Nat.le_refl _) _) hg _) hg _) hg _) hg _)⟩
set_option maxHeartbeats 8000000 in
set_option maxRecDepth 100000 in
theorem cb (fv : FV) (hfv : NodeF fv) (W : World) (nb i : Nat) (kv kk : Value) (xs ys : List Value) (hi : i ≤ 999999) (hB : Bx W nb i i kv kk xs ys) (A : Option Addr) (n c : Nat) (s : ByteArray) (hcv : (convert 61 9 (.slice A n c)).run Tryz.prog W = .ok (.string s) W) (F : Addr → Prop) (p : Nat × Nat) (hR : Rep W F p.1 p.2 fv) (hF : ∀ x, F x → x.spot = none ∧ x.block < nb) (hG : Glob W) (hgn : gb < nb) (hFg : Far F) :
    Calls Tryz.prog 143 #[.slice A n c, ptr p, .pointer (some ⟨nb, 0, none⟩)] W fun e w' => e = .returned (.tuple #[]) ∧ (∃ kv' kk' xs' ys', Bx w' nb (i + 1) (i + 1) kv' kk' xs' ys') ∧ FrL nb W w' F := by
  obtain ⟨Ak, ck, rfl⟩ := own_slice hB.kids
  have HB := Aside0.mk hB
  have HF := Aside0.mk hF
  have hc2 : W.cell? ⟨nb, 2, none⟩ = some kv := by rw [cell_in hB.box]; rfl
  have HNB : Aside0 (nb + 1 ≤ W.heap.size) := ⟨hB.lt⟩
  have HI : Aside0 (i ≤ 1000000) := ⟨by omega⟩
  have hnil : kv.ownBlock ≠ some nb := fun e => by have := hB.keys.lt nb e; omega
  have HNIL := Aside0.mk hnil
  have HCALL : Aside0 (∀ V, Below nb W V → Calls Tryz.prog 50 #[ptr p] V fun e w' => NodeSaid e ∧ Fr V w' F) := ⟨fun V hV => by
    refine hfv V F p.1 p.2 (fun x hx => ⟨(hF x hx).1, Nat.lt_of_lt_of_le (hF x hx).2 (Nat.le_trans (Nat.le_of_lt hB.lt) hV.size)⟩) (Glob.bel hG hgn hV) hFg (hR.kept (fun x hx => ?_) fun _ h => h)
    have e := hV.block x.block (hF x hx).2
    exact ⟨World.cell?_of_block e, fun cur T h => ⟨cur, e.trans h⟩⟩⟩
  clear hB hF hfv hR hnil hi hG hgn hFg
  go_enter Tryz.func143, Tryz.ntmps143
  go_wp2_with (first
    | (at_builtin; refine wp_key _ (nb + 1) i kv xs s HB.out.keys HNB.out HI.out rfl _ _ rfl rfl rfl ?_; intro A1 c1 w1 k1 k2; have HX2 := Aside0.mk (HB.out.key k1 k2); have HBL : Aside0 (Below nb W (w1.setCell ⟨nb, 2, none⟩ (.slice A1 (i + 1) c1))) := ⟨below_set (Below.grown (Below.refl _ _) k2 (Nat.le_of_lt HB.out.lt) (fun k e => by have := HB.out.keys.lt k e; omega)) (Nat.le_refl _) _⟩; have hx2 : w1.cell? ⟨nb, 2, none⟩ = some kv := (World.cell?_of_block (a := ⟨nb, 2, none⟩) (k2.block nb HB.out.lt (Ne.symm HNIL.out))).trans hc2; have hx3 : w1.cell? ⟨nb, 3, none⟩ = some (.slice Ak i ck) := (World.cell?_of_block (a := ⟨nb, 3, none⟩) (k2.block nb HB.out.lt (Ne.symm HNIL.out))).trans (by rw [cell_in HB.out.box]; rfl); have hxf : w1.frozen? ⟨nb, 2, none⟩ = false := (by have := (k2.block nb HB.out.lt (Ne.symm HNIL.out)).trans HB.out.box; simp [World.frozen?, this]); clear k1 k2))
  have HV0 : Aside0 (Bx (World.drew (w1.setCell ⟨nb, 2, none⟩ (.slice A1 (i + 1) c1))) nb (i + 1) i (.slice A1 (i + 1) c1) (.slice Ak i ck) (xs ++ [.string s]) ys ∧ Below nb W (World.drew (w1.setCell ⟨nb, 2, none⟩ (.slice A1 (i + 1) c1)))) := ⟨HX2.out.kept fun _ _ _ h => h, below_drew HBL.out⟩
  have HV1 : Aside0 (Bx (World.drew (World.alloc (w1.setCell ⟨nb, 2, none⟩ (.slice A1 (i + 1) c1)) (.cells n0 TN))) nb (i + 1) i (.slice A1 (i + 1) c1) (.slice Ak i ck) (xs ++ [.string s]) ys ∧ Below nb W (World.drew (World.alloc (w1.setCell ⟨nb, 2, none⟩ (.slice A1 (i + 1) c1)) (.cells n0 TN)))) := ⟨(HX2.out.alloc _).kept fun _ _ _ h => h, below_drew (HBL.out.alloc (Nat.le_trans (Nat.le_of_lt HB.out.lt) HBL.out.size) _)⟩
  have HG1 : Aside0 ((World.drew (World.alloc (w1.setCell ⟨nb, 2, none⟩ (.slice A1 (i + 1) c1)) (.cells n0 TN))).heap[w1.heap.size]? = some (.cells n0 TN (0, 0))) := ⟨by have := heap_alloc_new (w1.setCell ⟨nb, 2, none⟩ (.slice A1 (i + 1) c1)) (.cells n0 TN); rw [set_size] at this; exact this⟩
  have hx3a : ∀ ob, (World.alloc (w1.setCell ⟨nb, 2, none⟩ (.slice A1 (i + 1) c1)) ob).cell? ⟨nb, 3, none⟩ = some (.slice Ak i ck) := fun ob => alloc_cell (by rw [cell_in HX2.out.box]; rfl) ob
  have hii : ((i : Int) < (i : Int) + 1) = True := eq_true (by omega)
  have HNW : Aside0 (nb ≤ w1.heap.size) := ⟨by have := HBL.out.size; rw [set_size] at this; have := HB.out.lt; omega⟩
  go_region_law (first
    | (refine step_go1 rfl 50 (.tmp 14) 67 rfl (ptr p) rfl nodeFn ?_; (with_reducible refine (HCALL.out _ HV0.out.2).mono ?_); rintro e w5 ⟨⟨k, t, A0, m0, c0, A2, n2, c2, rfl⟩, hfr⟩; refine ⟨_, rfl, ?_⟩; have HB5 := Aside0.mk (HV0.out.1.fr hfr (fun x hx => (HF.out x hx).2)); have hx5 : w5.cell? ⟨nb, 3, none⟩ = some (.slice Ak i ck) := (by rw [cell_in HB5.out.box]; rfl); have hx5a := alloc_cell hx5; have HL5 := Aside0.mk (((FrL.refl nb W F).bel HV0.out.2).trans (hfr.toL nb)); clear hfr)
    | (refine step_go1 rfl 50 (.tmp 14) 67 rfl (ptr p) rfl nodeFn ?_; (with_reducible refine (HCALL.out _ HV1.out.2).mono ?_); rintro e w5 ⟨⟨k, t, A0, m0, c0, A2, n2, c2, rfl⟩, hfr⟩; refine ⟨_, rfl, ?_⟩; have HB5 := Aside0.mk (HV1.out.1.fr hfr (fun x hx => (HF.out x hx).2)); have hx5 : w5.cell? ⟨nb, 3, none⟩ = some (.slice Ak i ck) := (by rw [cell_in HB5.out.box]; rfl); have hx5a := alloc_cell hx5; have HL5 := Aside0.mk (((FrL.refl nb W F).bel HV1.out.2).trans (hfr.toL nb)); have HG5 := Aside0.mk (hfr.block (fun x hx => by have := (HF.out x hx).2; have := HNW.out; omega) HG1.out); clear hfr)
    | (refine step_kid _ w1 (nb + 1) i _ (.slice Ak i ck) ys ?ho ?hlo HI.out rfl (.tmp 13) (.tmp 17) rfl rfl rfl ?hg ?_; (case ho => first | exact (HB5.out.alloc _).kids | exact HB5.out.kids); (case hlo => first | exact Nat.le_trans HB5.out.lt (World.grownBy_alloc w5 _ none).size | exact HB5.out.lt); (case hg => first | exact heap_alloc_new w5 _ | exact HG5.out); intro g c3 xs6 w6 k1 k2; obtain ⟨y0, hy0⟩ := own_at k1 (i * 4) (by omega); obtain ⟨y1, hy1⟩ := own_at k1 (i * 4 + 1) (by omega); obtain ⟨y2, hy2⟩ := own_at k1 (i * 4 + 2) (by omega); obtain ⟨y3, hy3⟩ := own_at k1 (i * 4 + 3) (by omega); have hyf := k1.frozenAt; have HK1 := Aside0.mk k1; have HK2 := Aside0.mk k2; have HB6 : Aside0 (∃ V, Bx V nb (i + 1) i (.slice A1 (i + 1) c1) (.slice Ak i ck) (xs ++ [.string s]) ys ∧ Below nb w5 V ∧ V.grownBy w6 (Value.slice Ak i ck).ownBlock) := (by first | exact ⟨⟨_, HB5.out.alloc _, (Below.refl nb w5).alloc (Nat.le_of_lt HB5.out.lt) _, k2⟩⟩ | exact ⟨⟨_, HB5.out, Below.refl nb w5, k2⟩⟩); have hng : (nb = g) = False := eq_false (fun e => by have := (HK1.out.lt g rfl).1; omega); have hx6 : w6.cell? ⟨nb, 3, none⟩ = some (.slice Ak i ck) := (by obtain ⟨V, v1, v2, v3⟩ := HB6.out; have e := (v3.block nb v1.lt (fun e => by have := v1.kids.lt nb e.symm; omega)).trans v1.box; rw [cell_in e]; rfl); have hx7 := far4 (m := i) hx6 hng; have hf6 : ∀ j, w6.frozen? ⟨nb, j, none⟩ = false := (fun j => by obtain ⟨V, v1, v2, v3⟩ := HB6.out; have e := (v3.block nb v1.lt (fun e => by have := v1.kids.lt nb e.symm; omega)).trans v1.box; simp [World.frozen?, e]); clear k1 k2))
  all_goals
    go_end0
    refine ⟨rfl, ?_⟩
    first
      | with_reducible exact cb_end (m := i) (g := g) (c := c3) HL5.out HB6.out HK1.out (.int .i64 k) (.string t) (.slice A0 m0 c0) (.slice A2 n2 c2)
      | with_reducible exact cb_end2 (m := i) (g := g) (c := c3) HL5.out HB6.out HK1.out (.int .i64 k) (.string t) (.slice A0 m0 c0) (.slice A2 n2 c2)
end Go.Proofs.YtlhaefblchpjhaaGreatDoor.Fp
end
section
namespace Go.Proofs.YtlhaefblchpjhaaGreatDoor.Fp
open Go.RowKit Go.Proofs.YtlhaefblchpjhaaGreatDoorW.PrintWords Go.Proofs.YtlhaefblchpjhaaGreatDoorW.PrintLast Go.Proofs.YtlhaefblchpjhaaGreatDoorW.PrintMore
open Go.Proofs.YtlhaefblchpjhaaGreatDoor.FjW (cut cut_cut cut_size cut_bytes cut_zero cut_bt bt_out D rd_D rd_D0 D_drop D_len D_nil D_cons ws_at skipWS errNew ixOf ixCall ix_or)
set_option linter.unusedVariables false
set_option linter.unusedSimpArgs false
/-- The places of the row. -/
def Rw (kv : Value) (x : Addr) : Prop := x.spot = none ∧ some x.block = kv.ownBlock
theorem KvIs.row {w : World} {F : Addr → Prop} {kv : Value} {ks : List (List Int)} {ps : List (Nat × Nat)} (h : KvIs w F kv ks ps) : KvIs w (Rw kv) kv ks ps := by
  rcases h with h | ⟨kb, cap, cur, rfl, h0, h1, h2, h3, h4⟩
  · exact .inl h
  · exact .inr ⟨kb, cap, cur, rfl, h0, h1, h2, h3, fun i hi => ⟨(h4 i hi).1, (h4 i hi).2.1, ⟨rfl, rfl⟩, ⟨rfl, rfl⟩⟩⟩
theorem KvIs.len {w : World} {F : Addr → Prop} {kv : Value} {ks : List (List Int)} {ps : List (Nat × Nat)} (h : KvIs w F kv ks ps) : ks.length = ps.length ∧ ∃ A c, kv = .slice A ps.length c := by
  rcases h with ⟨rfl, rfl, rfl⟩ | ⟨kb, cap, cur, rfl, h0, h1, h2, h3, h4⟩
  · exact ⟨rfl, _, _, rfl⟩
  · exact ⟨h2, _, _, rfl⟩
/-- The elements from the i-th on, in places of their own. -/
def Rest (w : World) (Fk : Addr → Prop) (ps : List (Nat × Nat)) (vs : List FV) (i : Nat) : Prop := ∃ F2, Reps w F2 (ps.drop i) (vs.drop i) ∧ ∀ x, F2 x → Fk x
theorem Reps.len {w : World} {F : Addr → Prop} : ∀ {ps : List (Nat × Nat)} {vs : List FV}, Reps w F ps vs → ps.length = vs.length
  | _, _, .nil _ => rfl
  | _, _, .cons _ _ _ _ _ _ _ _ h _ _ _ => by simp [h.len]
theorem Rest.next {w : World} {Fk : Addr → Prop} {ps : List (Nat × Nat)} {vs : List FV} {i : Nat} (h : Rest w Fk ps vs i) (hi : i < ps.length) : ∃ p v F1 F2, ps[i]? = some p ∧ vs[i]? = some v ∧ v ∈ vs ∧ Rep w F1 p.1 p.2 v ∧ Reps w F2 (ps.drop (i + 1)) (vs.drop (i + 1)) ∧ (∀ x, F1 x → Fk x) ∧ (∀ x, F2 x → Fk x) ∧ (∀ x, F1 x → F2 x → False) := by
  obtain ⟨F, h, hs⟩ := h
  have hl := h.len
  rw [List.length_drop, List.length_drop] at hl
  have hv : i < vs.length := by omega
  rw [List.drop_eq_getElem_cons hi, List.drop_eq_getElem_cons hv] at h
  cases h with
  | cons _ F1 F2 _ _ _ _ h1 h2 h3 h4 h5 =>
    exact ⟨_, _, F1, F2, List.getElem?_eq_getElem hi, List.getElem?_eq_getElem hv, List.getElem_mem hv, h1, h2, fun x hx => hs x (h3 x hx), fun x hx => hs x (h4 x hx), h5⟩
theorem below_keep {w w' : World} {F : Addr → Prop} (h : Below w.heap.size w w') (hp : ∀ x, F x → x.spot = none ∧ x.block < w.heap.size) : Keep w w' F := fun x hx => by
  have e := h.block x.block (hp x hx).2
  exact ⟨World.cell?_of_block e, fun cur T hc => ⟨cur, e.trans hc⟩⟩
theorem Bx.below {W W2 : World} {nb i m : Nat} {kv kk : Value} {xs ys : List Value} (h : Bx W nb i m kv kk xs ys) (g : Below W.heap.size W W2) : Bx W2 nb i m kv kk xs ys :=
  h.kept fun k _ ob e => (g.block k (heap_lt e)).trans e
/-- What Visit keeps while it goes. -/
structure Vis (w wr : World) (nb i : Nat) (F Fk : Addr → Prop) (kv : Value) (ks : List (List Int)) (ps : List (Nat × Nat)) (vs : List FV) : Prop where
  bx : ∃ kv' kk xs ys, Bx wr nb i i kv' kk xs ys
  fr : FrL nb w wr F
  rest : Rest wr Fk ps vs i
  row : KvIs wr (Rw kv) kv ks ps
  gl : Glob wr
theorem Vis.size {w wr : World} {nb i : Nat} {F Fk : Addr → Prop} {kv : Value} {ks : List (List Int)} {ps : List (Nat × Nat)} {vs : List FV} (h : Vis w wr nb i F Fk kv ks ps vs) : nb < wr.heap.size := by
  obtain ⟨_, _, _, _, hb⟩ := h.bx
  exact hb.lt
/-- One element on. -/
theorem Vis.step {w wr w2 w3 : World} {nb i : Nat} {F Fk F1 F2 : Addr → Prop} {kv : Value} {ks : List (List Int)} {ps : List (Nat × Nat)} {vs : List FV} (h : Vis w wr nb i F Fk kv ks ps vs) (hb : Below wr.heap.size wr w2) (h3 : FrL nb w2 w3 F1) (hbx : ∃ kv' kk xs ys, Bx w3 nb (i + 1) (i + 1) kv' kk xs ys)
    (hF : ∀ x, Fk x → F x ∧ some x.block ≠ kv.ownBlock) (hF1 : ∀ x, F1 x → Fk x) (hF2 : ∀ x, F2 x → Fk x) (hd : ∀ x, F1 x → F2 x → False) (hR : Reps wr F2 (ps.drop (i + 1)) (vs.drop (i + 1))) (hp : ∀ x, Fk x → x.spot = none ∧ x.block < nb) (hkv : ∀ k, kv.ownBlock = some k → k < nb) (hgn : gb < nb) (hFg : Far Fk) : Vis w w3 nb (i + 1) F Fk kv ks ps vs := by
  have hnb := h.size
  have hp2 : ∀ x, Fk x → x.spot = none ∧ x.block < wr.heap.size := fun x hx => ⟨(hp x hx).1, Nat.lt_trans (hp x hx).2 hnb⟩
  have hrw : ∀ x, Rw kv x → x.spot = none ∧ x.block < nb := fun x hx => ⟨hx.1, hkv _ hx.2.symm⟩
  have hs := hb.size
  refine ⟨hbx, ((h.fr).bel (hb.mono (Nat.le_of_lt hnb))).trans (h3.mono (fun x hx => (hF x (hF1 x hx)).1) (Nat.le_refl _)), ⟨F2, ?_, hF2⟩, ?_, h3.glob hgn (hFg.sub hF1) (Glob.bel h.gl hgn (hb.mono (Nat.le_of_lt hnb)))⟩
  · refine (hR.kept (below_keep hb fun x hx => hp2 x (hF2 x hx)) fun _ hx => hx).kept (h3.keep (fun x hx => ⟨(hp x (hF2 x hx)).1, ?_, (hp x (hF2 x hx)).2⟩) fun x a b => hd x b a) fun _ hx => hx
    have := (hp x (hF2 x hx)).2; omega
  · refine (h.row.kept (below_keep hb fun x hx => ⟨(hrw x hx).1, Nat.lt_trans (hrw x hx).2 hnb⟩) fun _ hx => hx).kept (h3.keep (fun x hx => ⟨(hrw x hx).1, ?_, (hrw x hx).2⟩) fun x a b => (hF x (hF1 x b)).2 a.2) fun _ hx => hx
    have := (hrw x hx).2; omega
theorem KvIs.cells {w : World} {F : Addr → Prop} {kb cap m : Nat} {ks : List (List Int)} {ps : List (Nat × Nat)} (h : KvIs w F (.slice (some ⟨kb, 0, none⟩) m cap) ks ps) {i : Nat} (hi : i < ps.length) {k : List Int} {p : Nat × Nat} (hk : ks[i]? = some k) (hp : ps[i]? = some p) : w.cell? ⟨kb, i * 2, none⟩ = some (.string (strOfNums k)) ∧ w.cell? ⟨kb, i * 2 + 1, none⟩ = some (ptr p) := by
  rcases h with ⟨_, _, h⟩ | ⟨kb', cap', cur, h, h0, h1, h2, h3, h4⟩
  · cases h
  · injection h with h _ _
    injection h with h
    injection h with h
    subst h
    refine ⟨(h4 i hi).1.trans (by rw [hk]; rfl), (h4 i hi).2.1.trans (by rw [hp]; rfl)⟩
theorem row_ne' {w : World} {F : Addr → Prop} {kv : Value} {ks : List (List Int)} {ps : List (Nat × Nat)} {b : Nat} (hb : ∃ cur, w.heap[b]? = some (.cells cur TV (0, 0))) (h : KvIs w F kv ks ps) : some b ≠ kv.ownBlock := fun e => by
  obtain ⟨c, hc⟩ := hb
  rcases h with ⟨_, _, rfl⟩ | ⟨kb, cap, cur, rfl, _, _, _, h3, _⟩
  · cases e
  · simp only [Value.ownBlock, Option.some.injEq] at e
    subst e
    rw [hc] at h3
    simp only [Option.some.injEq, Obj.cells.injEq] at h3
    exact absurd h3.2.1 (by decide)
set_option maxHeartbeats 8000000 in
set_option maxRecDepth 100000 in
theorem visit (U : ByteArray → ByteArray) (ms : List (List Int × FV)) (w : World) (nb : Nat) (F Fk : Addr → Prop) (b o : Nat) (kv : Value) (ps : List (Nat × Nat)) (hb : ∃ cur, w.heap[b]? = some (.cells cur TV (0, 0))) (h0 : w.cell? ⟨b, o, none⟩ = some kv) (h1 : w.cell? ⟨b, o + 1, none⟩ = some (.bool false)) (hk : KvIs w F kv (ms.map Prod.fst) ps) (hR : Reps w Fk ps (ms.map Prod.snd))
    (ha : ∀ x, Fk x → F x ∧ some x.block ≠ kv.ownBlock ∧ ∀ i, i < 5 → (⟨b, o + i, none⟩ : Addr) ≠ x) (hF : ∀ x, F x → x.spot = none ∧ x.block < nb) (hown : ∀ x, Own b o kv x → F x) (hU : ∀ m, m ∈ ms → UC U (strOfNums m.1)) (hN : ∀ m, m ∈ ms → NodeF m.2) (hB : Bx w nb 0 0 nilS nilS [] []) (hl : ms.length ≤ 999999) (hG : Glob w) (hgn : gb < nb) (hFg : Far F) :
    Calls Tryz.prog 142 #[.pointer (some ⟨b, o, none⟩), .func (.func 143) #[] #[.pointer (some ⟨nb, 0, none⟩)]] w fun e w' => e = .returned (.tuple #[]) ∧ (∃ kv' kk xs ys, Bx w' nb ps.length ps.length kv' kk xs ys) ∧ FrL nb w w' F := by
  have hpl := hk.len.1
  rw [List.length_map] at hpl
  have hbn : b < nb := (hF _ (hown ⟨b, o + 1, none⟩ (.inl rfl))).2
  have hkn : ∀ k, kv.ownBlock = some k → k < nb := fun k e => (hF _ (hown ⟨k, 0, none⟩ (.inr ⟨rfl, e.symm⟩))).2
  have HUN := Aside0.mk (unKeys U w F b o kv (ms.map Prod.fst) ps hb h0 h1 hk (fun k hk => by
    obtain ⟨m, hm, rfl⟩ := List.mem_map.1 hk
    exact hU m hm) (by omega) hG (hFg.sub hown))
  have HV : Aside0 (∀ w', Fr w w' (Own b o kv) → KvIs w' F kv ((ms.map Prod.fst).map (un U)) ps → Vis w w' nb 0 F Fk kv ((ms.map Prod.fst).map (un U)) ps (ms.map Prod.snd)) := ⟨fun w' hf hkv => ⟨⟨_, _, _, _, hB.fr hf fun x hx => (hF x (hown x hx)).2⟩, (hf.mono hown).toL nb, ⟨Fk, hR.kept (hf.keep (fun x hx => ⟨(hF x (ha x hx).1).1, Nat.lt_trans (hF x (ha x hx).1).2 hB.lt⟩) fun x a c => c.elim (fun c => (ha x a).2.2 1 (by omega) c.symm) (fun c => (ha x a).2.1 c.2)) fun _ hx => hx, fun _ hx => hx⟩, hkv.row, hf.glob (hFg.sub hown) hG⟩⟩
  have HNS := Aside0.mk hN
  have HUS := Aside0.mk hU
  have HFS := Aside0.mk hF
  have HAS := Aside0.mk ha
  have HBN := Aside0.mk hbn
  have HKN := Aside0.mk hkn
  have HBX := Aside0.mk hB
  have HBB := Aside0.mk hb
  have HML := Aside0.mk hpl
  have HGN := Aside0.mk hgn
  have HFG : Aside0 (Far Fk) := ⟨hFg.sub fun x hx => (ha x hx).1⟩
  have HLE : Aside0 (ps.length ≤ 999999) := ⟨by omega⟩
  have HCK : Aside0 (∀ w', Fr w w' (Own b o kv) → w'.cell? ⟨b, o, none⟩ = some kv) := ⟨fun w' hf => by
    rw [hf.cell (heap_lt hb.choose_spec) (fun c => by
      rcases c with c | c
      · injection c with _ c _; omega
      · exact row_ne' hb hk c.2), h0]⟩
  rcases hk with ⟨rfl, hm, rfl⟩ | ⟨kb, cap, cur, rfl, g0, g1, g2, g3, g4⟩
  · clear hb h1 hR ha hF hown hU hN hB hl hpl hbn hkn hG hgn hFg
    go_enter Tryz.func142, Tryz.ntmps142
    go_wp2_with (first | (go_at_call 132; (with_reducible refine HUN.out.mono ?_); rintro e w2 ⟨rfl, hf, hkv⟩; have hc2 := HCK.out w2 hf; have HV2 := Aside0.mk (HV.out w2 hf hkv); clear hf hkv))
    go_loop [17] (fun v => v = .int .i64 0) (fun _ => 0)
    case atStart => rfl
    case round =>
      obtain rfl := hrel
      go_wp2
      go_end0
      exact ⟨rfl, HV2.out.bx, HV2.out.fr⟩
  · obtain ⟨M, hM⟩ : ∃ M, ps.length = M := ⟨_, rfl⟩
    have HM := Aside0.mk hM
    have hM1 : M ≤ 999999 := by rw [← hM]; exact HLE.out
    have HCK2 : Aside0 (∀ w', Fr w w' (Own b o (.slice (some ⟨kb, 0, none⟩) ps.length cap)) → w'.cell? ⟨b, o, none⟩ = some (.slice (some ⟨kb, 0, none⟩) M cap)) := ⟨fun w' hf => by rw [← hM]; exact HCK.out w' hf⟩
    clear hb h0 h1 hR ha hF hown hU hN hB hl hpl hbn hkn g0 g1 g2 g3 g4 hM HCK hG hgn hFg
    go_enter Tryz.func142, Tryz.ntmps142
    go_wp2_with (first | (go_at_call 132; (with_reducible refine HUN.out.mono ?_); rintro e w2 ⟨rfl, hf, hkv⟩; have hc2 := HCK2.out w2 hf; have HV2 := Aside0.mk (HV.out w2 hf hkv); clear hf hkv))
    go_loopg [17] (M + 1) (fun kk v17 wr => ∃ i : Nat, v17 = .int .i64 (i : Int) ∧ i ≤ M ∧ kk + i = M + 1 ∧ Aside0 (Vis w wr nb i F Fk (.slice (some ⟨kb, 0, none⟩) ps.length cap) ((ms.map Prod.fst).map (un U)) ps (ms.map Prod.snd)))
    case atStart => exact ⟨0, rfl, Nat.zero_le _, by omega, HV2⟩
    case round =>
      clear hc2 HV2
      obtain ⟨i, rfl, hi, hk, HI⟩ := hrel
      by_cases hlt : i < M
      · obtain ⟨kk, rfl⟩ : ∃ j, gk = j + 1 := ⟨gk - 1, by omega⟩
        have hip : i < ps.length := by rw [HM.out]; exact hlt
        obtain ⟨p, v, F1, F2, hp, hv, hvm, hR1, hR2, hs1, hs2, hd⟩ := HI.out.rest.next hip
        obtain ⟨mm, hmm, rfl⟩ := List.mem_map.1 hvm
        obtain ⟨ky, hky⟩ : ∃ k, ms[i]? = some k := ⟨ms[i]'(by rw [HML.out]; exact hip), List.getElem?_eq_getElem _⟩
        have hkx : ((ms.map Prod.fst).map (un U))[i]? = some (un U ky.1) := by rw [List.getElem?_map, List.getElem?_map, hky]; rfl
        have hcc := HI.out.row.cells hip hkx hp
        have hUk := HUS.out ky (List.mem_of_getElem? hky)
        rw [str_un] at hcc
        obtain ⟨s, hs⟩ : ∃ s, U (strOfNums ky.1) = s := ⟨_, rfl⟩
        rw [hs] at hcc
        have HSS : Aside0 (s.size ≤ 1000000) := ⟨by rw [← hs]; exact Nat.le_trans hUk.1 hUk.2.1⟩
        have hck := hcc.1
        have hcp := hcc.2
        have HWS := Aside0.mk HI.out.size
        have HKB : Aside0 (kb < wr.heap.size) := ⟨Nat.lt_trans (HKN.out kb rfl) HI.out.size⟩
        have HCB : Aside0 (∀ w2 A n c, Below wr.heap.size wr w2 → (convert 61 9 (.slice A n c)).run Tryz.prog w2 = .ok (.string s) w2 → Calls Tryz.prog 143 #[.slice A n c, ptr p, .pointer (some ⟨nb, 0, none⟩)] w2 fun e w' => e = .returned (.tuple #[]) ∧ Vis w w' nb (i + 1) F Fk (.slice (some ⟨kb, 0, none⟩) ps.length cap) ((ms.map Prod.fst).map (un U)) ps (ms.map Prod.snd)) := ⟨fun w2 A n c hb hcv => by
          obtain ⟨kv', kk', xs', ys', hbx⟩ := HI.out.bx
          have hpf : ∀ x, Fk x → x.spot = none ∧ x.block < nb := fun x hx => HFS.out x (HAS.out x hx).1
          refine (cb mm.2 (HNS.out mm hmm) w2 nb i kv' kk' xs' ys' (by omega) (hbx.below hb) A n c s hcv F1 p (hR1.kept (below_keep hb fun x hx => ⟨(hpf x (hs1 x hx)).1, Nat.lt_trans (hpf x (hs1 x hx)).2 HI.out.size⟩) fun _ h => h) (fun x hx => hpf x (hs1 x hx)) (Glob.bel HI.out.gl HGN.out (hb.mono (Nat.le_of_lt HI.out.size))) HGN.out (HFG.out.sub hs1)).mono fun e w' h => ⟨h.1, ?_⟩
          exact HI.out.step hb h.2.2 h.2.1 (fun x hx => ⟨(HAS.out x hx).1, (HAS.out x hx).2.1⟩) hs1 hs2 hd hR2 hpf HKN.out HGN.out HFG.out⟩
        clear hp hv hvm hR1 hR2 hs1 hs2 hd hky hkx hcc hUk hs hip hmm
        go_wp2
        go_region_with (first
          | (go_at_call 144; (refine (s2b _ s HSS.out).mono ?_); rintro e w2 ⟨c, rfl, hcv, hb, hlt2⟩; have HB2 : Aside0 (Below wr.heap.size wr w2) := ⟨⟨hb.os, hb.tape, hb.output, hb.size, hb.block⟩⟩; have HCV := Aside0.mk hcv; have hcp2 := pw_cell_below HB2.out hcp; clear hb hcv hlt2)
          | (go_at_call 143; (refine (HCB.out _ _ _ _ ?hb ?hcv).mono ?_); (case hb => exact HB2.out); (case hcv => exact HCV.out); rintro e w3 ⟨rfl, hvis⟩; have HV3 := Aside0.mk hvis; clear hvis))
        all_goals
          go_wp2
          go_roundg kk
          case measure => omega
          case rel => exact ⟨i + 1, by go_num, by omega, by omega, HV3⟩
      · obtain rfl : i = M := by omega
        go_wp2
        go_end0
        exact ⟨rfl, by rw [HM.out]; exact HI.out.bx, HI.out.fr⟩
end Go.Proofs.YtlhaefblchpjhaaGreatDoor.Fp
end
section
namespace Go.Proofs.YtlhaefblchpjhaaGreatDoor.Fp
open Go.RowKit Go.Proofs.YtlhaefblchpjhaaGreatDoorW.PrintWords Go.Proofs.YtlhaefblchpjhaaGreatDoorW.PrintLast Go.Proofs.YtlhaefblchpjhaaGreatDoorW.PrintMore
open Go.Proofs.YtlhaefblchpjhaaGreatDoor.FjW (cut cut_cut cut_size cut_bytes cut_zero cut_bt bt_out D rd_D rd_D0 D_drop D_len D_nil D_cons ws_at skipWS errNew ixOf ixCall ix_or)
set_option linter.unusedVariables false
set_option linter.unusedSimpArgs false
/-- append(nodes, one). -/
theorem wp_node2 {ops : Array Oper} {rest : List Oper} {o : Oper} {a : Act} {Q : Exit → Act → World → Prop} (W : World) (lo m : Nat) (av : Value) (xs : List Value) (k : Int) (t : ByteArray) (A0 : Option Addr) (m0 c0 : Nat) (A : Option Addr) (n c : Nat) (hR : W.ownsRow lo TN 4 av m xs) (hlo : lo ≤ W.heap.size) (hm : m ≤ 1000000) (hgd : o.guard = none) (s x : Operand)
    (ho : o.op = .call { callee := .builtin .append, args := #[s, x], argTypes := #[24, 24] }) (hs : a.eval s = av) (hx : a.eval x = .slice (some ⟨W.heap.size, 0, none⟩) 1 1)
    (h : ∀ A' c' xs' w', w'.ownsRow lo TN 4 (.slice A' (m + 1) c') (m + 1) xs' → Below lo W w' → wpList Tryz.prog ops Q rest (a.put o.dst (.slice A' (m + 1) c')) w') :
    wpList Tryz.prog ops Q (o :: rest) a (W.alloc (.cells #[.int .i64 k, .string t, .slice A0 m0 c0, .slice A n c] TN)) := by
  obtain ⟨i0, z, hi, hz, hzc, hsz, hby⟩ := infoN
  have hnew : ∀ j v, [Value.int .i64 k, .string t, .slice A0 m0 c0, .slice A n c][j]? = some v → (W.alloc (.cells #[.int .i64 k, .string t, .slice A0 m0 c0, .slice A n c] TN)).cell? ((⟨W.heap.size, 0, none⟩ : Addr).add j) = some v := fun j v hj => by
    rw [add_plain, World.cell?_alloc_new]
    simpa using hj
  have hlo' : lo ≤ (W.alloc (.cells #[.int .i64 k, .string t, .slice A0 m0 c0, .slice A n c] TN)).heap.size := by show lo ≤ (W.heap.push _).size; rw [Array.size_push]; omega
  refine wpList_append_own_at (P := Tryz.prog) _ hgd s x _ ho lo TN i0 z 4 72 Tryz.underlying24 hi hz hsz hby hzc (by decide) av m xs hs (hR.alloc _) _ 1 1 _ hx rfl hnew (fun y hy => ?_) (by simp only [maxLen]; omega) (by omega) hlo' fun v' w' h1 h2 _ _ => ?_
  · simp only [List.mem_cons, List.not_mem_nil, or_false] at hy
    rcases hy with rfl | rfl | rfl | rfl <;> rfl
  · rcases h1.2 with ⟨_, h0⟩ | ⟨g, cap, cur, rfl, _⟩
    · omega
    · refine h _ _ _ w' h1 (((Below.refl lo W).alloc hlo _).grown h2 hlo' fun k hk => (hR.lt k hk).1)
abbrev n6 : Array Value := #[.int .i64 6, emptyS, nilS, nilS]
theorem FrL.block {lo : Nat} {w w' : World} {F : Addr → Prop} (g : FrL lo w w' F) {k : Nat} (hk : k < lo) (hF : ∀ x, F x → x.block ≠ k) {ob : Obj} (e : w.heap[k]? = some ob) : w'.heap[k]? = some ob := by
  cases ob with
  | cells cur T fz =>
    obtain ⟨c, a1, a2, a3⟩ := g.typ k cur T fz hk e
    rw [a1]
    congr 2
    exact Array.ext_getElem? fun j => a3 j fun x => hF _ x rfl
  | _ => exact g.oth k _ hk e (fun cur T fz hh => by cases hh)
/-- The world in which Visit is called. -/
theorem start_obj (w : World) : Bx ((w.alloc (.cells n0 TN)).alloc (.cells n6 TN)) (w.heap.size + 1) 0 0 nilS nilS [] [] ∧ Below w.heap.size w ((w.alloc (.cells n0 TN)).alloc (.cells n6 TN)) ∧ ((w.alloc (.cells n0 TN)).alloc (.cells n6 TN)).heap[w.heap.size]? = some (.cells n0 TN (0, 0)) := by
  have h1 := heap_alloc_new (w.alloc (.cells n0 TN)) (.cells n6 TN)
  rw [alloc_size] at h1
  have h2 : ((w.alloc (.cells n0 TN)).alloc (.cells n6 TN)).heap[w.heap.size]? = some (.cells n0 TN (0, 0)) := (heap_alloc_old _ _ (by rw [alloc_size]; omega)).trans (heap_alloc_new w _)
  exact ⟨⟨h1, World.ownsRow_nil _ _ _ _, World.ownsRow_nil _ _ _ _⟩, ((Below.refl _ _).alloc (Nat.le_refl _) _).alloc (by rw [alloc_size]; omega) _, h2⟩
/-- Four cells of the result's block are written behind. -/
theorem fr_result {w w5 : World} {F : Addr → Prop} (h : Fr w w5 F) (a0 a1 a2 a3 : Value) : Fr w ((((w5.setCell ⟨w.heap.size, 0, none⟩ a0).setCell ⟨w.heap.size, 1, none⟩ a1).setCell ⟨w.heap.size, 2, none⟩ a2).setCell ⟨w.heap.size, 3, none⟩ a3) F := by
  refine FrL.toFr (lo := w.heap.size) ((h.toL _).bel ?_) (Nat.le_refl _)
  exact below_set (below_set (below_set (below_set (Below.refl _ _) (Nat.le_refl _) _) (Nat.le_refl _) _) (Nat.le_refl _) _) (Nat.le_refl _) _
set_option maxHeartbeats 8000000 in
set_option maxRecDepth 100000 in
theorem object (U : ByteArray → ByteArray) (ms : List (List Int × FV)) (w : World) (F Fk : Addr → Prop) (b o : Nat) (kv : Value) (ps : List (Nat × Nat)) (hb : ∃ cur, w.heap[b]? = some (.cells cur TV (0, 0))) (h0 : w.cell? ⟨b, o, none⟩ = some kv) (h1 : w.cell? ⟨b, o + 1, none⟩ = some (.bool false)) (hk : KvIs w F kv (ms.map Prod.fst) ps) (hR : Reps w Fk ps (ms.map Prod.snd))
    (ha : ∀ x, Fk x → F x ∧ some x.block ≠ kv.ownBlock ∧ ∀ i, i < 5 → (⟨b, o + i, none⟩ : Addr) ≠ x) (hF : Pl w F) (hown : ∀ x, Own b o kv x → F x) (hU : ∀ m, m ∈ ms → UC U (strOfNums m.1)) (hN : ∀ m, m ∈ ms → NodeF m.2) (hl : ms.length ≤ 999999) (hG : Glob w) (hFg : Far F) :
    Calls Tryz.prog 92 #[.pointer (some ⟨b, o, none⟩)] w fun e w' => NodeSaid e ∧ Fr w w' F := by
  have HVIS : Aside0 (∀ W, Below w.heap.size w W → Bx W (w.heap.size + 1) 0 0 nilS nilS [] [] → Calls Tryz.prog 142 #[.pointer (some ⟨b, o, none⟩), .func (.func 143) #[] #[.pointer (some ⟨w.heap.size + 1, 0, none⟩)]] W fun e w' => e = .returned (.tuple #[]) ∧ (∃ kv' kk xs ys, Bx w' (w.heap.size + 1) ps.length ps.length kv' kk xs ys) ∧ FrL (w.heap.size + 1) W w' F) := ⟨fun W hW hB => by
    have hkp : Keep w W F := below_keep hW hF
    refine visit U ms W (w.heap.size + 1) F Fk b o kv ps ?_ (pw_cell_below hW h0) (pw_cell_below hW h1) (hk.kept hkp fun _ h => h) (hR.kept (hkp.sub fun x hx => (ha x hx).1) fun _ h => h) ha (fun x hx => ⟨(hF x hx).1, Nat.lt_succ_of_lt (hF x hx).2⟩) hown hU hN hB hl (Glob.bel hG (Glob.lt hG) hW) (Nat.lt_succ_of_lt (Glob.lt hG)) hFg
    obtain ⟨cur, e⟩ := hb
    exact ⟨cur, (hW.block b (heap_lt e)).trans e⟩⟩
  have HSO := Aside0.mk (start_obj w)
  have HF := Aside0.mk hF
  clear hb h0 h1 hk hR ha hF hown hU hN hl hG hFg
  go_enter Tryz.func92, Tryz.ntmps92
  go_wp2_with (first | (go_at_call 142; (with_reducible refine (HVIS.out _ HSO.out.2.1 HSO.out.1).mono ?_); rintro e w5 ⟨rfl, ⟨kv', kk', xs', ys', hbx⟩, hfr⟩; obtain ⟨A0, m0, rfl⟩ := own_slice hbx.keys; obtain ⟨A1, m1, rfl⟩ := own_slice hbx.kids; have HX5 := Aside0.mk hbx; have HS5 := Aside0.mk (hfr.block (Nat.lt_succ_self _) (fun x hx => by have := (HF.out x hx).2; omega) HSO.out.2.2); have HF5 := Aside0.mk (FrL.toFr (lo := w.heap.size) (((FrL.refl _ w F).bel HSO.out.2.1).trans (hfr.mono (fun _ h => h) (Nat.le_succ _))) (Nat.le_refl _)); obtain ⟨g0, g1, g2, g3, gf⟩ := cells4 HS5.out; obtain ⟨q0, q1, q2, q3, qf⟩ := cells4 HX5.out.box; clear hbx hfr))
  (try simp only [Exit.inBlock, Exit.then])
  refine bodyPost_ret (results_single rfl (.cell w.heap.size TN #[.int .i64 6, emptyS, .slice A0 ps.length m0, .slice A1 ps.length m1] (0, 0) _ rfl (set4 HS5.out _ _ _ _) Tryz.underlying26 rfl sizeN .nil)) rfl ?_
  exact ⟨⟨_, _, _, _, _, _, _, _, rfl⟩, fr_result HF5.out _ _ _ _⟩
end Go.Proofs.YtlhaefblchpjhaaGreatDoor.Fp
end
section
namespace Go.Proofs.YtlhaefblchpjhaaGreatDoor.Fp
open Go.RowKit Go.Proofs.YtlhaefblchpjhaaGreatDoorW.PrintWords Go.Proofs.YtlhaefblchpjhaaGreatDoorW.PrintLast Go.Proofs.YtlhaefblchpjhaaGreatDoorW.PrintMore
open Go.Proofs.YtlhaefblchpjhaaGreatDoor.FjW (cut cut_cut cut_size cut_bytes cut_zero cut_bt bt_out D rd_D rd_D0 D_drop D_len D_nil D_cons ws_at skipWS errNew ixOf ixCall ix_or)
set_option linter.unusedVariables false
set_option linter.unusedSimpArgs false
theorem RowIs.row {w : World} {F : Addr → Prop} {av : Value} {ps : List (Nat × Nat)} (h : RowIs w F av ps) : RowIs w (Rw av) av ps := by
  rcases h with h | ⟨ab, cap, rfl, h1, h2⟩
  · exact .inl h
  · exact .inr ⟨ab, cap, rfl, h1, fun i hi => ⟨(h2 i hi).1, ⟨rfl, rfl⟩⟩⟩
/-- What fjNodes keeps while it goes. -/
structure Nds (w wr : World) (i : Nat) (Fk : Addr → Prop) (av : Value) (ps : List (Nat × Nat)) (vs : List FV) (A : Option Addr) (c : Nat) : Prop where
  own : ∃ xs, wr.ownsRow w.heap.size TN 4 (.slice A i c) i xs
  fr : FrL w.heap.size w wr Fk
  rest : Rest wr Fk ps vs i
  row : RowIs wr (Rw av) av ps
  gl : Glob wr
theorem Nds.step {w wr w2 w3 : World} {i : Nat} {Fk F1 F2 : Addr → Prop} {av : Value} {ps : List (Nat × Nat)} {vs : List FV} {A A3 : Option Addr} {c c3 : Nat} {xs3 : List Value} (h : Nds w wr i Fk av ps vs A c) (h2 : Fr wr w2 F1) (hb : Below w.heap.size w2 w3) (h3 : w3.ownsRow w.heap.size TN 4 (.slice A3 (i + 1) c3) (i + 1) xs3)
    (hs1 : ∀ x, F1 x → Fk x) (hs2 : ∀ x, F2 x → Fk x) (hd : ∀ x, F1 x → F2 x → False) (hR : Reps wr F2 (ps.drop (i + 1)) (vs.drop (i + 1))) (hp : ∀ x, Fk x → x.spot = none ∧ x.block < w.heap.size) (ha : ∀ x, Fk x → some x.block ≠ av.ownBlock) (hk : ∀ k, av.ownBlock = some k → k < w.heap.size) (hgl : gb < w.heap.size) (hFg : Far Fk) : Nds w w3 (i + 1) Fk av ps vs A3 c3 := by
  have hs := h.fr.size
  have hs3 := h2.size
  have hrw : ∀ x, Rw av x → x.spot = none ∧ x.block < w.heap.size := fun x hx => ⟨hx.1, hk _ hx.2.symm⟩
  have hkb : ∀ {G : Addr → Prop}, (∀ x, G x → x.spot = none ∧ x.block < w.heap.size) → Keep w2 w3 G := fun hG x hx => by
    have e := hb.block x.block (hG x hx).2
    exact ⟨World.cell?_of_block e, fun cur T hc => ⟨cur, e.trans hc⟩⟩
  refine ⟨⟨_, h3⟩, (h.fr.trans ((h2.mono hs1).toL _)).bel hb, ⟨F2, ?_, hs2⟩, ?_, Glob.bel (h2.glob (hFg.sub hs1) h.gl) hgl hb⟩
  · exact (hR.kept (h2.keep (fun x hx => ⟨(hp x (hs2 x hx)).1, Nat.lt_of_lt_of_le (hp x (hs2 x hx)).2 hs⟩) fun x a b => hd x b a) fun _ hx => hx).kept (hkb fun x hx => hp x (hs2 x hx)) fun _ hx => hx
  · exact (h.row.kept (h2.keep (fun x hx => ⟨(hrw x hx).1, Nat.lt_of_lt_of_le (hrw x hx).2 hs⟩) fun x a b => ha x (hs1 x b) a.2) fun _ hx => hx).kept (hkb hrw) fun _ hx => hx
set_option maxHeartbeats 4000000 in
set_option maxRecDepth 100000 in
theorem nodesF (vs : List FV) (hl : vs.length ≤ 1000000) (hS : ∀ v, v ∈ vs → NodeF v) (w : World) (F Fk : Addr → Prop) (hF : Pl w Fk) (av : Value) (ps : List (Nat × Nat)) (hR : RowIs w F av ps) (hk : ∀ k, av.ownBlock = some k → k < w.heap.size) (ha : ∀ x, Fk x → some x.block ≠ av.ownBlock) (hK : Reps w Fk ps vs) (hG : Glob w) (hFg : Far Fk) :
    Calls Tryz.prog 38 #[av] w fun e w' => (∃ A n c, e = .returned (.slice A n c)) ∧ Fr w w' Fk := by
  have hlen := hK.len
  have HN0 : Aside0 (Nds w w 0 Fk av ps vs none 0) := ⟨⟨⟨[], World.ownsRow_nil _ _ _ _⟩, FrL.refl _ _ _, ⟨Fk, hK, fun _ h => h⟩, hR.row, hG⟩⟩
  rcases hR with ⟨rfl, rfl⟩ | ⟨ab, cap, rfl, h1, h2⟩
  · go_enter Tryz.func38, Tryz.ntmps38
    go_wp2
    go_loop [8, 3] (fun v8 v3 => v8 = .int .i64 0 ∧ v3 = nilS) (fun _ _ => 0)
    case atStart => exact ⟨rfl, rfl⟩
    case round =>
      obtain ⟨rfl, rfl⟩ := hrel
      go_wp2
      go_ret
      exact ⟨⟨_, _, _, rfl⟩, Fr.refl _ _⟩
  · obtain ⟨M, hM⟩ : ∃ M, ps.length = M := ⟨_, rfl⟩
    have hM1 : M ≤ 1000000 := by omega
    have HSS := Aside0.mk hS
    have HFF := Aside0.mk hF
    have HAA := Aside0.mk ha
    have HKK := Aside0.mk hk
    have HM := Aside0.mk hM
    have HGL : Aside0 (gb < w.heap.size) := ⟨Glob.lt hG⟩
    have HFG := Aside0.mk hFg
    have HN1 : Aside0 (Nds w w 0 Fk (.slice (some ⟨ab, 0, none⟩) M cap) ps vs none 0) := ⟨by rw [← hM]; exact HN0.out⟩
    rw [hM]
    rw [hM] at hk ha
    have HAA := Aside0.mk ha
    have HKK := Aside0.mk hk
    clear h2 hS hF hK hlen h1 hk ha hM HN0 hG hFg
    go_enter Tryz.func38, Tryz.ntmps38
    go_wp2
    go_loopg [8, 3] (M + 1) (fun kk v8 v3 wr => ∃ (i : Nat) (A : Option Addr) (c : Nat), v8 = .int .i64 (i : Int) ∧ v3 = .slice A i c ∧ i ≤ M ∧ kk + i = M + 1 ∧ Aside0 (Nds w wr i Fk (.slice (some ⟨ab, 0, none⟩) M cap) ps vs A c))
    case atStart => exact ⟨0, none, 0, rfl, rfl, Nat.zero_le _, by omega, HN1⟩
    case round =>
      obtain ⟨i, A, c, rfl, rfl, hi, hk, HI⟩ := hrel
      by_cases hlt : i < M
      · obtain ⟨kk, rfl⟩ : ∃ j, gk = j + 1 := ⟨gk - 1, by omega⟩
        have hip : i < ps.length := by rw [HM.out]; exact hlt
        obtain ⟨p, v, F1, F2, hp, hv, hvm, hR1, hR2, hs1, hs2, hd⟩ := HI.out.rest.next hip
        obtain ⟨xs, hxs⟩ := HI.out.own
        have HXS := Aside0.mk hxs
        have hc : wr.cell? ⟨ab, i, none⟩ = some (.pointer (some ⟨p.1, p.2, none⟩)) := by
          rcases HI.out.row with ⟨_, e⟩ | ⟨ab', cap', e, h1, h2⟩
          · cases e
          · injection e with e _ _
            injection e with e
            injection e with e
            subst e
            rw [(h2 i hip).1, hp]; rfl
        have hws := HI.out.fr.size
        have HWS := Aside0.mk hws
        have HC : Aside0 (Calls Tryz.prog 50 #[.pointer (some ⟨p.1, p.2, none⟩)] wr fun e w' => NodeSaid e ∧ Fr wr w' F1) := ⟨HSS.out v hvm wr F1 p.1 p.2 (fun x hx => ⟨(HFF.out x (hs1 x hx)).1, Nat.lt_of_lt_of_le (HFF.out x (hs1 x hx)).2 hws⟩) HI.out.gl (HFG.out.sub hs1) hR1⟩
        have HM1 : Aside0 (i ≤ 1000000) := ⟨by omega⟩
        have HST : Aside0 (∀ w2 w3 A3 c3 xs3, Fr wr w2 F1 → Below w.heap.size w2 w3 → w3.ownsRow w.heap.size TN 4 (.slice A3 (i + 1) c3) (i + 1) xs3 → Nds w w3 (i + 1) Fk (.slice (some ⟨ab, 0, none⟩) M cap) ps vs A3 c3) := ⟨fun w2 w3 A3 c3 xs3 a1 a2 a3 => HI.out.step a1 a2 a3 hs1 hs2 hd hR2 HFF.out HAA.out HKK.out HGL.out HFG.out⟩
        have HOW : Aside0 (∀ w2, Fr wr w2 F1 → w2.ownsRow w.heap.size TN 4 (.slice A i c) i xs) := ⟨fun w2 g => row_blocks hxs fun k hk ob e => g.block (fun x hx => by have := (HFF.out x (hs1 x hx)).2; omega) e⟩
        clear hp hv hvm hR1 hR2 hs1 hs2 hd hxs hip hws
        go_wp2_with (first
          | (go_at_call 50; (with_reducible refine HC.out.mono ?_); rintro e w2 ⟨⟨k, t, A0, m0, c0, A2, n2, c2, rfl⟩, hf⟩; have HF2 := Aside0.mk hf; clear hf)
          | (at_builtin; refine wp_node2 _ w.heap.size i _ xs k t A0 m0 c0 A2 n2 c2 (HOW.out _ HF2.out) (Nat.le_trans HWS.out HF2.out.size) HM1.out rfl _ _ rfl rfl rfl ?_; intro A3 c3 xs3 w3 k1 k2; have HI3 := Aside0.mk (HST.out _ _ _ _ _ HF2.out k2 k1); clear k1 k2))
        go_roundg kk
        case measure => omega
        case rel => exact ⟨i + 1, A3, c3, by go_num, rfl, by omega, by omega, HI3⟩
      · obtain rfl : i = M := by omega
        go_wp2
        go_ret
        exact ⟨⟨_, _, _, rfl⟩, HI.out.fr.toFr (Nat.le_refl _)⟩
end Go.Proofs.YtlhaefblchpjhaaGreatDoor.Fp
end
section
namespace Go.Proofs.YtlhaefblchpjhaaGreatDoor.Fp
open Go.RowKit Go.Proofs.YtlhaefblchpjhaaGreatDoorW.PrintWords Go.Proofs.YtlhaefblchpjhaaGreatDoorW.PrintLast Go.Proofs.YtlhaefblchpjhaaGreatDoorW.PrintMore
open Go.Proofs.YtlhaefblchpjhaaGreatDoor.FjW (cut cut_cut cut_size cut_bytes cut_zero cut_bt bt_out D rd_D rd_D0 D_drop D_len D_nil D_cons ws_at skipWS errNew ixOf ixCall ix_or)
set_option linter.unusedVariables false
set_option linter.unusedSimpArgs false
/-- The result's block is there, and four cells of it are written. -/
theorem fin4 {w w5 : World} {F : Addr → Prop} (h : Fr (w.alloc (.cells n0 TN)) w5 F) (hF : Pl w F) (a0 a1 a2 a3 : Value) :
    w5.heap[w.heap.size]? = some (.cells n0 TN (0, 0)) ∧ Fr w ((((w5.setCell ⟨w.heap.size, 0, none⟩ a0).setCell ⟨w.heap.size, 1, none⟩ a1).setCell ⟨w.heap.size, 2, none⟩ a2).setCell ⟨w.heap.size, 3, none⟩ a3) F := by
  refine ⟨h.block (fun x hx => by have := (hF x hx).2; omega) (heap_alloc_new w _), fr_result ?_ _ _ _ _⟩
  exact FrL.toFr (lo := w.heap.size) (((FrL.refl _ w F).bel ((Below.refl _ _).alloc (Nat.le_refl _) _)).trans (h.toL _)) (Nat.le_refl _)
theorem fr_new {w : World} {F : Addr → Prop} {ob : Obj} : Fr w (w.alloc ob) F := Fr.below ((Below.refl _ _).alloc (Nat.le_refl _) _)
set_option maxHeartbeats 4000000 in
set_option maxRecDepth 100000 in
theorem nodeLit (t : Int) (ht : t = 0 ∨ t = 5 ∨ t = 6) : NodeF (.lit t) := by
  intro w F b o hF hG hFg hR
  cases hR with
  | lit _ _ _ _ hc =>
    obtain ⟨⟨c0, c1, c2, c3, c4⟩, _, _⟩ := hc
    have H4 := Aside0.mk (alloc_cell c4)
    clear c0 c1 c2 c3 c4
    rcases ht with rfl | rfl | rfl
    · go_enter Tryz.func50, Tryz.ntmps50
      go_wp2_with (first
        | (go_at_call 91; (refine (typeOf _ b o 0 (by decide) (H4.out _)).mono ?_); rintro e w' ⟨rfl, rfl⟩))
      (try simp only [Exit.inBlock, Exit.then])
      refine bodyPost_ret (results_single rfl (.cell w.heap.size TN n0 (0, 0) _ rfl (heap_alloc_new w _) Tryz.underlying26 rfl sizeN .nil)) rfl ?_
      exact ⟨⟨_, _, _, _, _, _, _, _, rfl⟩, fr_new⟩
    · go_enter Tryz.func50, Tryz.ntmps50
      go_wp2_with (first
        | (go_at_call 91; (refine (typeOf _ b o 5 (by decide) (H4.out _)).mono ?_); rintro e w' ⟨rfl, rfl⟩))
      (try simp only [Exit.inBlock, Exit.then])
      refine bodyPost_ret (results_single rfl (.cell w.heap.size TN #[.int .i64 2, emptyS, nilS, nilS] (0, 0) _ rfl (heap_alloc_new w _) Tryz.underlying26 rfl sizeN .nil)) rfl ?_
      exact ⟨⟨_, _, _, _, _, _, _, _, rfl⟩, fr_new⟩
    · go_enter Tryz.func50, Tryz.ntmps50
      go_wp2_with (first
        | (go_at_call 91; (refine (typeOf _ b o 6 (by decide) (H4.out _)).mono ?_); rintro e w' ⟨rfl, rfl⟩))
      (try simp only [Exit.inBlock, Exit.then])
      refine bodyPost_ret (results_single rfl (.cell w.heap.size TN #[.int .i64 1, emptyS, nilS, nilS] (0, 0) _ rfl (heap_alloc_new w _) Tryz.underlying26 rfl sizeN .nil)) rfl ?_
      exact ⟨⟨_, _, _, _, _, _, _, _, rfl⟩, fr_new⟩
set_option maxHeartbeats 4000000 in
set_option maxRecDepth 100000 in
theorem nodeNumF (s : List Int) (hs : (strOfNums s).size ≤ 1000000) : NodeF (.num s) := by
  intro w F b o hF hG hFg hR
  cases hR with
  | num _ _ _ _ hc =>
    obtain ⟨⟨c0, c1, c2, c3, c4⟩, _, _⟩ := hc
    obtain ⟨x, hx⟩ : ∃ x, strOfNums s = x := ⟨_, rfl⟩
    rw [hx] at c3 hs
    have HX := Aside0.mk hs
    have H4 := Aside0.mk (alloc_cell c4)
    have H3 := Aside0.mk (alloc_cell c3)
    have HF := Aside0.mk hF
    clear c0 c1 c2 c3 c4 hs
    go_enter Tryz.func50, Tryz.ntmps50
    go_wp2_with (first
      | (go_at_call 91; (refine (typeOf _ b o 4 (by decide) (H4.out _)).mono ?_); rintro e w' ⟨rfl, rfl⟩)
      | (go_at_call 46; (refine (marshalNum _ b o x HX.out (H4.out _) (H3.out _)).mono ?_); rintro e w2 ⟨A, n, c, rfl, hcv, hb⟩; have HB := Aside0.mk (Fr.below (F := F) hb); obtain ⟨g0, g1, g2, g3, gf⟩ := cells4 (keep_new hb); clear hb))
    (try simp only [Exit.inBlock, Exit.then])
    have hfin := fin4 HB.out HF.out (.int .i64 3) (.string x) nilS nilS
    refine bodyPost_ret (results_single rfl (.cell w.heap.size TN #[.int .i64 3, .string x, nilS, nilS] (0, 0) _ rfl (set4 hfin.1 _ _ _ _) Tryz.underlying26 rfl sizeN .nil)) rfl ?_
    exact ⟨⟨_, _, _, _, _, _, _, _, rfl⟩, hfin.2⟩
set_option maxHeartbeats 4000000 in
set_option maxRecDepth 100000 in
theorem nodeStr (U : ByteArray → ByteArray) (s : List Int) (hU : UC U (strOfNums s)) : NodeF (.str s) := by
  intro w F b o hF hG hFg hR
  cases hR with
  | str _ _ _ _ hc =>
    obtain ⟨⟨c0, c1, c2, c3, c4⟩, ⟨f0, f1, f2, f3, f4⟩, hblk⟩ := hc
    obtain ⟨x, hx⟩ : ∃ x, strOfNums s = x := ⟨_, rfl⟩
    rw [hx] at c3 hU
    obtain ⟨y, hy⟩ : ∃ y, U x = y := ⟨_, rfl⟩
    have HTY : Aside0 (∀ ob, Calls Tryz.prog 91 #[.pointer (some ⟨b, o, none⟩)] (w.alloc ob) fun e w' => e = .returned (.int .i64 3) ∧ Fr (w.alloc ob) w' F ∧ w'.cell? ⟨b, o + 3, none⟩ = some (.string y) ∧ w'.cell? ⟨b, o + 4, none⟩ = some (.int .i64 3)) := ⟨fun ob => by
      obtain ⟨cur, hcur⟩ := hblk
      refine (typeR U _ b o x ⟨cur, (heap_alloc_old w ob (heap_lt hcur)).trans hcur⟩ (alloc_cell c4 ob) (alloc_cell c3 ob) hU (Glob.bel hG (Glob.lt hG) ((Below.refl _ _).alloc (Nat.le_refl _) ob))).mono fun e w' h => ⟨h.1, h.2.1.mono ?_, by rw [← hy]; exact h.2.2.1, h.2.2.2⟩
      rintro z ⟨i, hi, rfl⟩
      match i, hi with
      | 0, _ => exact f0
      | 1, _ => exact f1
      | 2, _ => exact f2
      | 3, _ => exact f3
      | 4, _ => exact f4⟩
    have HY : Aside0 (y.size ≤ 1000000) := ⟨by rw [← hy]; exact Nat.le_trans hU.1 hU.2.1⟩
    have HF := Aside0.mk hF
    clear c0 c1 c2 c3 c4 f0 f1 f2 f3 f4 hblk hU
    go_enter Tryz.func50, Tryz.ntmps50
    go_wp2_with (first
      | (go_at_call 91; (refine (HTY.out _).mono ?_); rintro e w2 ⟨rfl, hf, h3, h4⟩; have HF2 := Aside0.mk hf; have H3 := Aside0.mk h3; have H4 := Aside0.mk h4; clear hf h3 h4)
      | (go_at_call 94; (refine (getStr _ b o y HY.out H4.out H3.out).mono ?_); rintro e w3 ⟨A, n, c, rfl, hcv, hb⟩; have HB := Aside0.mk (HF2.out.trans (Fr.below hb)); have h5 := (fin4 HB.out HF.out nilS nilS nilS nilS).1; obtain ⟨g0, g1, g2, g3, gf⟩ := cells4 h5; clear hb h5))
    (try simp only [Exit.inBlock, Exit.then])
    have hfin := fin4 HB.out HF.out (.int .i64 4) (.string y) nilS nilS
    refine bodyPost_ret (results_single rfl (.cell w.heap.size TN #[.int .i64 4, .string y, nilS, nilS] (0, 0) _ rfl (set4 hfin.1 _ _ _ _) Tryz.underlying26 rfl sizeN .nil)) rfl ?_
    exact ⟨⟨_, _, _, _, _, _, _, _, rfl⟩, hfin.2⟩
set_option maxHeartbeats 4000000 in
set_option maxRecDepth 100000 in
theorem nodeArr (vs : List FV) (hl : vs.length ≤ 1000000) (hN : ∀ v, v ∈ vs → NodeF v) : NodeF (.arr vs) := by
  intro w F b o hF hG hFg hR
  cases hR with
  | arr _ Fk _ _ av ps _ hc hrow hreps hap hpl =>
    obtain ⟨⟨c0, c1, c2, c3, c4⟩, _, _⟩ := hc
    have H4 := Aside0.mk (alloc_cell c4)
    have H2 := Aside0.mk (alloc_cell c2)
    have hav : ∃ A n c, av = .slice A n c := by
      rcases hrow with ⟨_, rfl⟩ | ⟨ab, cap, rfl, _⟩
      · exact ⟨_, _, _, rfl⟩
      · exact ⟨_, _, _, rfl⟩
    have hkk : ∀ k, av.ownBlock = some k → k < w.heap.size := fun k e => (hF ⟨k, 0, none⟩ (hpl _ rfl e.symm)).2
    have hFk : Pl w Fk := fun x hx => hF x (hap x hx).1
    have hk : ∀ ob, Keep w (w.alloc ob) F := fun ob => grown_keep (World.grownBy_alloc w ob none) fun x hx => ⟨(hF x hx).2, by simp⟩
    have HN : Aside0 (∀ ob, Calls Tryz.prog 38 #[av] (w.alloc ob) fun e w' => (∃ A n c, e = .returned (.slice A n c)) ∧ Fr (w.alloc ob) w' F) :=
      ⟨fun ob => (nodesF vs hl hN (w.alloc ob) F Fk (hFk.fr (fr_new (F := F))) av ps (hrow.kept (hk ob) fun _ h => h) (fun k e => Nat.lt_of_lt_of_le (hkk k e) (by rw [alloc_size]; omega)) (fun x hx => (hap x hx).2.1) (hreps.kept ((hk ob).sub fun x hx => (hap x hx).1) fun _ h => h) (Glob.bel hG (Glob.lt hG) ((Below.refl _ _).alloc (Nat.le_refl _) ob)) (hFg.sub fun x hx => (hap x hx).1)).mono fun e w' h => ⟨h.1, h.2.mono fun x hx => (hap x hx).1⟩⟩
    have HAV := Aside0.mk hav
    have HF := Aside0.mk hF
    obtain ⟨A0, m0, c0', rfl⟩ := hav
    clear c0 c1 c2 c3 c4 hk hrow hreps hap hFk hkk hpl
    go_enter Tryz.func50, Tryz.ntmps50
    go_wp2_with (first
      | (go_at_call 91; (refine (typeOf _ b o 2 (by decide) (H4.out _)).mono ?_); rintro e w' ⟨rfl, rfl⟩)
      | (go_at_call 39; (refine (getArr _ b o _ HAV.out (H4.out _) (H2.out _)).mono ?_); rintro e w' ⟨rfl, rfl⟩)
      | (go_at_call 38; (refine (HN.out _).mono ?_); rintro e w2 ⟨⟨A, n, c, rfl⟩, hb⟩; have HB := Aside0.mk hb; have h5 := (fin4 HB.out HF.out nilS nilS nilS nilS).1; obtain ⟨g0, g1, g2, g3, gf⟩ := cells4 h5; clear hb h5))
    (try simp only [Exit.inBlock, Exit.then])
    have hfin := fin4 HB.out HF.out (.int .i64 5) emptyS nilS (.slice A n c)
    refine bodyPost_ret (results_single rfl (.cell w.heap.size TN #[.int .i64 5, emptyS, nilS, .slice A n c] (0, 0) _ rfl (set4 hfin.1 _ _ _ _) Tryz.underlying26 rfl sizeN .nil)) rfl ?_
    exact ⟨⟨_, _, _, _, _, _, _, _, rfl⟩, hfin.2⟩
set_option maxHeartbeats 4000000 in
set_option maxRecDepth 100000 in
theorem nodeObj (U : ByteArray → ByteArray) (ms : List (List Int × FV)) (hl : ms.length ≤ 999999) (hU : ∀ m, m ∈ ms → UC U (strOfNums m.1)) (hN : ∀ m, m ∈ ms → NodeF m.2) : NodeF (.obj ms) := by
  intro w F b o hF hG hFg hR
  cases hR with
  | obj _ Fk _ _ kv ps _ hc hrow hreps hap hpl =>
    obtain ⟨⟨c0, c1, c2, c3, c4⟩, ⟨f0, f1, f2, f3, f4⟩, hblk⟩ := hc
    have H4 := Aside0.mk (alloc_cell c4)
    have hown : ∀ x, Own b o kv x → F x := fun x hx => by
      rcases hx with rfl | ⟨hs, hx⟩
      · exact f1
      · exact hpl x hs hx
    have hk : ∀ ob, Keep w (w.alloc ob) F := fun ob => grown_keep (World.grownBy_alloc w ob none) fun x hx => ⟨(hF x hx).2, by simp⟩
    have HN : Aside0 (∀ ob, Calls Tryz.prog 92 #[.pointer (some ⟨b, o, none⟩)] (w.alloc ob) fun e w' => NodeSaid e ∧ Fr (w.alloc ob) w' F) :=
      ⟨fun ob => by
        obtain ⟨cur, hcur⟩ := hblk
        exact object U ms (w.alloc ob) F Fk b o kv ps ⟨cur, (heap_alloc_old w ob (heap_lt hcur)).trans hcur⟩ (alloc_cell c0 ob) (alloc_cell c1 ob) (hrow.kept (hk ob) fun _ h => h) (hreps.kept ((hk ob).sub fun x hx => (hap x hx).1) fun _ h => h) hap (hF.fr (fr_new (F := F))) hown hU hN hl (Glob.bel hG (Glob.lt hG) ((Below.refl _ _).alloc (Nat.le_refl _) ob)) hFg⟩
    have HF := Aside0.mk hF
    clear c0 c1 c2 c3 c4 f0 f1 f2 f3 f4 hblk hk hrow hreps hap hown hpl
    go_enter Tryz.func50, Tryz.ntmps50
    go_wp2_with (first
      | (go_at_call 91; (refine (typeOf _ b o 1 (by decide) (H4.out _)).mono ?_); rintro e w' ⟨rfl, rfl⟩)
      | (go_at_call 93; (refine (getObj _ b o (H4.out _)).mono ?_); rintro e w' ⟨rfl, rfl⟩)
      | (go_at_call 92; (refine (HN.out _).mono ?_); rintro e w2 ⟨⟨k, t, A0, m0, c0, A, n, c, rfl⟩, hb⟩; have HB := Aside0.mk hb; have h5 := (fin4 HB.out HF.out nilS nilS nilS nilS).1; obtain ⟨g0, g1, g2, g3, gf⟩ := cells4 h5; clear hb h5))
    (try simp only [Exit.inBlock, Exit.then])
    have hfin := fin4 HB.out HF.out (.int .i64 k) (.string t) (.slice A0 m0 c0) (.slice A n c)
    refine bodyPost_ret (results_single rfl (.cell w.heap.size TN #[.int .i64 k, .string t, .slice A0 m0 c0, .slice A n c] (0, 0) _ rfl (set4 hfin.1 _ _ _ _) Tryz.underlying26 rfl sizeN .nil)) rfl ?_
    exact ⟨⟨_, _, _, _, _, _, _, _, rfl⟩, hfin.2⟩
theorem nodeF {U : ByteArray → ByteArray} {fv : FV} (h : Good U fv) : NodeF fv := by
  induction h with
  | lit t ht => exact nodeLit t ht
  | str s hs => exact nodeStr U s hs
  | num s hs => exact nodeNumF s hs
  | arr vs hl _ ih => exact nodeArr vs hl ih
  | obj ms hl hu _ ih => exact nodeObj U ms hl hu ih
end Go.Proofs.YtlhaefblchpjhaaGreatDoor.Fp
end
section
namespace Go.Proofs.YtlhaefblchpjhaaGreatDoor.Fp
open Go.RowKit Go.Proofs.YtlhaefblchpjhaaGreatDoorW.PrintWords Go.Proofs.YtlhaefblchpjhaaGreatDoorW.PrintLast Go.Proofs.YtlhaefblchpjhaaGreatDoorW.PrintMore
open Go.Proofs.YtlhaefblchpjhaaGreatDoor.FjW (cut cut_cut cut_size cut_bytes cut_zero cut_bt bt_out D rd_D rd_D0 D_drop D_len D_nil D_cons ws_at skipWS errNew)
set_option linter.unusedVariables false
set_option linter.unusedSimpArgs false
def RSaid (b : ByteArray) (e : Ending) : Prop := ∃ k t A0 m0 c0 A n c, e = .returned (.tuple #[.agg #[.int .i64 k, .string t, .slice A0 m0 c0, .slice A n c], .bool (okP b).isSome])
theorem rsaid {b : ByteArray} {e : Ending} {x : Bool} (h : (okP b).isSome = x) (k : Int) (t : ByteArray) (A0 : Option Addr) (m0 c0 : Nat) (A : Option Addr) (n c : Nat) (he : e = .returned (.tuple #[.agg #[.int .i64 k, .string t, .slice A0 m0 c0, .slice A n c], .bool x])) : RSaid b e := by subst h; exact ⟨k, t, A0, m0, c0, A, n, c, he⟩
abbrev p0 : Obj := .cells #[nilS, nilS] 66
abbrev r0 : Obj := .cells n0 TN
theorem below_in {w w2 : World} (h : Below (w.heap.size + 1) ((w.alloc r0).alloc p0) w2) : Below w.heap.size w w2 := ((below_alloc (Below.refl _ _) r0).trans (below_alloc (Below.refl _ _) p0 |>.mono (by rw [alloc_size]; omega))).trans (h.mono (by omega))
theorem row_in2 {w w2 : World} (h : Below (w.heap.size + 1) ((w.alloc r0).alloc p0) w2) : w2.heap[w.heap.size]? = some r0 :=
  (h.block _ (by omega)).trans ((heap_alloc_old (w.alloc r0) p0 (by rw [alloc_size]; omega)).trans (heap_alloc_new w r0))
set_option maxHeartbeats 8000000 in
set_option maxRecDepth 100000 in
theorem read (U : ByteArray → ByteArray) (w : World) (a b : ByteArray) (hs : a.size ≤ 400000) (hb : b = cut a (nx a 0)) (hS : ∀ fv, okP b = some fv → Good U fv) (hG : Glob w) :
    Calls Tryz.prog 20 #[.string a] w fun e w' => RSaid b e ∧ Below w.heap.size w w' := by
  have HQ : Aside0 (Calls Tryz.prog 37 #[.pointer (some ⟨w.heap.size + 1, 0, none⟩), .string a] ((w.alloc r0).alloc p0) fun e w' => PSaid (w.heap.size + 1) b e w' ∧ Below (w.heap.size + 1) ((w.alloc r0).alloc p0) w') :=
    ⟨parse All vcA ((w.alloc r0).alloc p0) (w.heap.size + 1) (by have := heap_alloc_new (w.alloc r0) p0; rw [alloc_size] at this; exact this) a b hs hb trivial⟩
  cases ho : okP b with
  | none =>
    have HO := Aside0.mk ho
    have HC1 : Aside0 ((okP b).isSome = false) := ⟨by rw [ho]; rfl⟩
    clear hs hb hS ho hG
    go_enter Tryz.func20, Tryz.ntmps20
    go_wp2_with (first
      | (go_at_call 37; (refine HQ.out.mono ?_); rintro e w2 ⟨h, hb⟩; unfold PSaid at h; rw [HO.out] at h; obtain ⟨T, u, rfl⟩ := h; have HB := Aside0.mk hb; obtain ⟨g0, g1, g2, g3, gf⟩ := cells4 (row_in2 hb); clear hb))
    (try simp only [Exit.inBlock, Exit.then])
    refine bodyPost_ret (results_ct rfl _ _ w.heap.size TN n0 (0, 0) _ rfl (set4 (row_in2 HB.out) _ _ _ _) Tryz.underlying26 rfl sizeN) rfl ?_
    exact ⟨rsaid HC1.out _ _ _ _ _ _ _ _ rfl, below4 (Nat.le_refl _) (below_in HB.out) _ _ _ _⟩
  | some fv =>
    have HO := Aside0.mk ho
    have HC1 : Aside0 ((okP b).isSome = true) := ⟨by rw [ho]; rfl⟩
    have HND := Aside0.mk (nodeF (hS fv ho))
    have HGL := Aside0.mk hG
    clear hs hb hS ho hG
    go_enter Tryz.func20, Tryz.ntmps20
    go_wp2_with (first
      | (go_at_call 37; (refine HQ.out.mono ?_); rintro e w2 ⟨h, hb⟩; unfold PSaid at h; rw [HO.out] at h; obtain ⟨bb, o, F, rfl, hR, hF⟩ := h; have HB := Aside0.mk hb; have HR := Aside0.mk hR; have HF := Aside0.mk hF; clear hb hR hF)
      | (go_at_call 50; (refine (HND.out w2 F bb o (fun x hx => ⟨(HF.out x hx).1, (HF.out x hx).2.1⟩) (Glob.bel HGL.out (Glob.lt HGL.out) (below_in HB.out)) (fun x hx => by have := (HF.out x hx).2.2; have := Glob.lt HGL.out; omega) HR.out).mono ?_); rintro e w3 ⟨⟨k, t, A0, m0, c0, A, n, c, rfl⟩, hb⟩; have HB2 : Aside0 (Below (w.heap.size + 1) ((w.alloc r0).alloc p0) w3) := ⟨HB.out.trans (hb.bel (fun x hx => (HF.out x hx).2.2) (by have := HB.out.size; rw [alloc_size, alloc_size] at this; omega))⟩; obtain ⟨g0, g1, g2, g3, gf⟩ := cells4 (row_in2 HB2.out); clear hb))
    (try simp only [Exit.inBlock, Exit.then])
    refine bodyPost_ret (results_ct rfl _ _ w.heap.size TN #[.int .i64 k, .string t, .slice A0 m0 c0, .slice A n c] (0, 0) _ rfl (set4 (row_in2 HB2.out) _ _ _ _) Tryz.underlying26 rfl sizeN) rfl ?_
    exact ⟨rsaid HC1.out _ _ _ _ _ _ _ _ rfl, below4 (Nat.le_refl _) (below_in HB2.out) _ _ _ _⟩
end Go.Proofs.YtlhaefblchpjhaaGreatDoor.Fp
end
section
namespace Go.Proofs.YtlhaefblchpjhaaGreatDoor.Fp
open Go.RowKit Go.Proofs.YtlhaefblchpjhaaGreatDoorW.PrintWords Go.Proofs.YtlhaefblchpjhaaGreatDoorW.PrintLast Go.Proofs.YtlhaefblchpjhaaGreatDoorW.PrintMore
set_option linter.unusedVariables false
set_option linter.unusedSimpArgs false
/-- How many bytes open an array or an object. -/
def opens : List Int → Nat
  | [] => 0
  | c :: r => (if c = 91 ∨ c = 123 then 1 else 0) + opens r
theorem opens_app : ∀ a b : List Int, opens (a ++ b) = opens a + opens b
  | [], b => by simp [opens]
  | c :: a, b => by rw [List.cons_append, opens, opens, opens_app a b]; omega
theorem opens_add (l : List Int) (m n : Nat) : opens (l.take (m + n)) = opens (l.take m) + opens ((l.drop m).take n) := by rw [List.take_add, opens_app]
theorem opens_mono (l : List Int) {m n : Nat} (h : m ≤ n) : opens (l.take m) ≤ opens (l.take n) := by
  obtain ⟨k, rfl⟩ : ∃ k, n = m + k := ⟨n - m, by omega⟩
  rw [opens_add]; omega
theorem opens_all (l : List Int) (m : Nat) : opens (l.take m) ≤ opens l := by
  have h : opens l = opens (l.take m) + opens (l.drop m) := by rw [← opens_app, List.take_append_drop]
  omega
theorem quo_qend : ∀ (n : Nat) (l : List Int) (q : Nat), l.length ≤ n → Fj.quo l = some q → ∃ j, Fj.qend l = some j ∧ q = j + 1
  | n, [], q, _, h => by simp [Fj.quo] at h
  | 0, c :: r, q, hl, _ => by simp at hl
  | n + 1, c :: r, q, hl, h => by
    rw [Fj.quo.eq_def] at h
    dsimp only at h
    simp only [List.length_cons] at hl
    by_cases c1 : c = 34
    · subst c1
      rw [if_pos rfl] at h
      exact ⟨0, Fj.qend_34 r, (Option.some.inj h).symm⟩
    rw [if_neg c1] at h
    by_cases c2 : c < 32
    · rw [if_pos c2] at h; cases h
    rw [if_neg c2] at h
    by_cases c3 : c = 92
    · subst c3
      rw [if_pos rfl] at h
      match r, hl, h with
      | [], _, h => cases h
      | d :: r2, hl, h =>
        simp only [List.length_cons] at hl
        dsimp only at h
        by_cases d1 : Fj.simple8 d = true
        · rw [if_pos d1] at h
          obtain ⟨x, hx, rfl⟩ := Option.map_eq_some_iff.mp h
          obtain ⟨j, hj, rfl⟩ := quo_qend n r2 x (by omega) hx
          exact ⟨j + 2, by rw [Fj.qend_92, hj]; rfl, by omega⟩
        rw [if_neg d1] at h
        by_cases d2 : d = 117
        · subst d2
          rw [if_pos rfl] at h
          match r2, hl, h with
          | a :: b :: e :: f :: r3, hl, h =>
            simp only [List.length_cons] at hl
            dsimp only at h
            by_cases d3 : (Fj.hexd a && (Fj.hexd b && (Fj.hexd e && Fj.hexd f))) = true
            · rw [if_pos d3] at h
              obtain ⟨x, hx, rfl⟩ := Option.map_eq_some_iff.mp h
              obtain ⟨j, hj, rfl⟩ := quo_qend n r3 x (by omega) hx
              simp only [Bool.and_eq_true] at d3
              have ha := Fj.hexd_not d3.1
              have hb := Fj.hexd_not d3.2.1
              have he := Fj.hexd_not d3.2.2.1
              have hf := Fj.hexd_not d3.2.2.2
              exact ⟨j + 6, by rw [Fj.qend_92, Fj.qend_other ha.1 ha.2, Fj.qend_other hb.1 hb.2, Fj.qend_other he.1 he.2, Fj.qend_other hf.1 hf.2, hj]; rfl, by omega⟩
            · rw [if_neg d3] at h; cases h
          | [], _, h => cases h
          | [_], _, h => cases h
          | [_, _], _, h => cases h
          | [_, _, _], _, h => cases h
        · rw [if_neg d2] at h; cases h
    · rw [if_neg c3] at h
      obtain ⟨x, hx, rfl⟩ := Option.map_eq_some_iff.mp h
      obtain ⟨j, hj, rfl⟩ := quo_qend n r x (by omega) hx
      exact ⟨j + 1, by rw [Fj.qend_other c1 c3, hj]; rfl, by omega⟩
theorem rd_cons (c : Int) (r : List Int) (i : Nat) : rd (c :: r) ((i + 1 : Nat) : Int) = rd r (i : Int) := by
  unfold rd
  simp [List.getD_eq_getElem?_getD]
theorem rd_dr (l : List Int) (s i : Nat) : rd (l.drop s) (i : Int) = rd l ((s + i : Nat) : Int) := by
  unfold rd
  simp only [Int.toNat_natCast, List.getD_eq_getElem?_getD, List.getElem?_drop]
theorem nlen_of : ∀ (l : List Int) (m : Nat), (∀ i : Nat, i < m → nb (rd l (i : Int)) = true) → nb (rd l (m : Int)) = false → nlen l = m
  | [], 0, _, _ => rfl
  | [], m + 1, h, _ => by exact absurd (h 0 (by omega)) (by show ¬ nb 0 = true; decide)
  | c :: r, 0, _, h => by
    have h' : nb c = false := h
    rw [nlen, if_neg (by rw [h']; decide)]
  | c :: r, m + 1, h, h2 => by
    have h0 : nb c = true := h 0 (by omega)
    rw [nlen, if_pos h0, nlen_of r m (fun i hi => by rw [← rd_cons c r i]; exact h (i + 1) (by omega)) (by rw [← rd_cons c r m]; exact h2)]
/-- Bytes of numbers all along. -/
def NB (l : List Int) (a b : Nat) : Prop := a ≤ b ∧ ∀ i : Nat, a ≤ i → i < b → nb (rd l (i : Int)) = true
theorem NB.trans {l : List Int} {a b c : Nat} (h : NB l a b) (g : NB l b c) : NB l a c := ⟨Nat.le_trans h.1 g.1, fun i h1 h2 => by
  by_cases x : i < b
  · exact h.2 i h1 x
  · exact g.2 i (by omega) h2⟩
theorem NB.refl (l : List Int) (a : Nat) : NB l a a := ⟨Nat.le_refl _, fun i h1 h2 => by omega⟩
theorem NB.one {l : List Int} {a : Nat} (h : nb (rd l (a : Int)) = true) : NB l a (a + 1) := ⟨by omega, fun i h1 h2 => by
  obtain rfl : i = a := by omega
  exact h⟩
theorem digs_at' : ∀ (l : List Int) (i : Nat), i < Fj.digs l → 48 ≤ rd l (i : Int) ∧ rd l (i : Int) ≤ 57
  | [], i, h => by simp [Fj.digs] at h
  | c :: r, i, h => by
    rw [Fj.digs] at h
    split at h
    · rename_i hc
      cases i with
      | zero => exact hc
      | succ i => rw [rd_cons]; exact digs_at' r i (by omega)
    · omega
theorem nb_digit {c : Int} (h : 48 ≤ c ∧ c ≤ 57) : nb c = true := by unfold nb; rw [decide_eq_true h]; rfl
theorem NB.digs (l : List Int) (s : Nat) : NB l s (s + Fj.digs (l.drop s)) := ⟨by omega, fun i h1 h2 => by
  obtain ⟨j, rfl⟩ : ∃ j, i = s + j := ⟨i - s, by omega⟩
  rw [← rd_dr]
  exact nb_digit (digs_at' _ j (by omega))⟩
theorem expo_nb {l : List Int} {m k : Nat} (h : Fj.expo l m = some k) : NB l m k := by
  unfold Fj.expo at h
  split at h
  · rename_i hc
    have h1 : NB l m (m + 1) := NB.one (by rcases hc with c | c <;> rw [c] <;> rfl)
    split at h
    · rename_i hs
      have h2 : NB l (m + 1) (m + 2) := NB.one (by rcases hs with c | c <;> rw [c] <;> rfl)
      split at h
      · cases h
      · obtain rfl := Option.some.inj h
        exact (h1.trans h2).trans (NB.digs l (m + 2))
    · split at h
      · cases h
      · obtain rfl := Option.some.inj h
        exact h1.trans (NB.digs l (m + 1))
  · obtain rfl := Option.some.inj h
    exact NB.refl _ _
theorem frac_nb {l : List Int} {m k : Nat} (h : Fj.frac l m = some k) : NB l m k := by
  unfold Fj.frac at h
  split at h
  · rename_i hc
    have h1 : NB l m (m + 1) := NB.one (by rw [hc]; rfl)
    split at h
    · cases h
    · exact (h1.trans (NB.digs l (m + 1))).trans (expo_nb h)
  · exact expo_nb h
theorem whole_nb {l : List Int} {s k : Nat} (h : Fj.whole l s = some k) : NB l s k ∧ s < k := by
  unfold Fj.whole at h
  split at h
  · cases h
  · rename_i hc
    split at h
    · cases h
    · have h2 := frac_nb h
      have h1 := NB.digs l s
      exact ⟨h1.trans h2, by have := h2.1; omega⟩
theorem num_raw {l : List Int} {m : Nat} (h : Fj.num l = some m) (hn : nb (rd l (m : Int)) = false) : rawNum l = some m ∧ 0 < m := by
  have key : NB l 0 m ∧ 0 < m ∧ ¬ (m = 1 ∧ (rd l 0 = 45 ∨ rd l 0 = 43)) := by
    unfold Fj.num at h
    split at h
    · rename_i hc
      have h1 := whole_nb h
      exact ⟨(NB.one (a := 0) (by show nb (rd l 0) = true; rw [hc]; rfl)).trans h1.1, by omega, fun x => by omega⟩
    · rename_i hc
      have h1 := whole_nb h
      refine ⟨h1.1, h1.2, fun x => ?_⟩
      unfold Fj.whole at h
      split at h
      · cases h
      · rename_i hd
        have := digs_at' l 0 (by rw [List.drop_zero] at hd; omega)
        have e : rd l ((0 : Nat) : Int) = rd l 0 := rfl
        rw [e] at this
        omega
  have e := nlen_of l m (fun i hi => key.1.2 i (by omega) hi) hn
  refine ⟨?_, key.2.1⟩
  unfold rawNum
  rw [e]
  split
  · rename_i x; rw [x]
  · rw [if_neg]
    rintro (x | x)
    · omega
    · exact key.2.2 x
theorem blank_nb {c : Int} (h : Fj.blank c = true) : nb c = false := by
  unfold Fj.blank at h
  simp only [Bool.or_eq_true, beq_iff_eq] at h
  rcases h with rfl | rfl | rfl | rfl <;> rfl
/-- Behind a value stands a blank, or what is behind the blanks. -/
theorem behind_nb {l : List Int} {m : Nat} (h : nb (rd l ((m + Fj.ws (l.drop m) : Nat) : Int)) = false) : nb (rd l (m : Int)) = false := by
  cases hd : l.drop m with
  | nil =>
    have : rd l (m : Int) = 0 := by
      rw [show (m : Int) = ((m + 0 : Nat) : Int) by omega, ← rd_dr, hd]; rfl
    rw [this]; rfl
  | cons c r =>
    have e : rd l (m : Int) = c := by
      rw [show (m : Int) = ((m + 0 : Nat) : Int) by omega, ← rd_dr, hd]; rfl
    by_cases b : Fj.blank c = true
    · rw [e]; exact blank_nb b
    · rw [hd, Fj.ws, if_neg b] at h
      exact h
theorem vals (k : Nat) :
    (∀ (l : List Int) (m d k' : Nat), Fj.val k l = some m → nb (rd l (m : Int)) = false → d + opens (l.take m) < 300 → 2 * m + 1 ≤ k' → ∃ fv, pval k' d l = some (fv, m)) ∧
    (∀ (l : List Int) (m d k' : Nat), Fj.elems k l = some m → d + opens (l.take m) < 300 → 2 * m + 2 ≤ k' → ∃ vs, pels k' d l = some (vs, m)) ∧
    (∀ (l : List Int) (m d k' : Nat), Fj.mems k l = some m → d + opens (l.take m) < 300 → 2 * m + 2 ≤ k' → ∃ vs, pmems k' d l = some (vs, m)) := by
  induction k with
  | zero => exact ⟨fun l m d k' h => by simp [Fj.val] at h, fun l m d k' h => by simp [Fj.elems] at h, fun l m d k' h => by simp [Fj.mems] at h⟩
  | succ k ih =>
    obtain ⟨hV, hE, hM⟩ := ih
    refine ⟨fun l m d k' h hn ho hk => ?_, fun l m d k' h ho hk => ?_, fun l m d k' h ho hk => ?_⟩
    · obtain ⟨k', rfl⟩ : ∃ i, k' = i + 1 := ⟨k' - 1, by omega⟩
      rw [Fj.val] at h
      rw [pval]
      by_cases c0 : l = []
      · rw [if_pos c0] at h; cases h
      rw [if_neg c0] at h
      rw [if_neg c0, if_neg (by omega)]
      obtain ⟨c, r, rfl⟩ : ∃ c r, l = c :: r := by
        cases l with
        | nil => exact absurd rfl c0
        | cons c r => exact ⟨c, r, rfl⟩
      have e0 : rd (c :: r) 0 = c := rfl
      have e1 : (c :: r).drop 1 = r := rfl
      rw [e0, e1] at h
      rw [e0, e1]
      by_cases c1 : c = 123
      · rw [if_pos c1] at h
        rw [if_pos c1]
        split at h
        · rename_i hc
          rw [if_pos hc]
          obtain rfl := Option.some.inj h
          exact ⟨_, rfl⟩
        · rename_i hc
          rw [if_neg hc]
          obtain ⟨x, hx, rfl⟩ := Option.map_eq_some_iff.mp h
          have ho' : opens ((c :: r).take (x + 1)) = 1 + opens (r.take x) := by rw [List.take_succ_cons, opens, if_pos (.inr c1)]
          obtain ⟨vs, hvs⟩ := hM r x (d + 1) k' hx (by omega) (by omega)
          exact ⟨_, by rw [hvs]; rfl⟩
      rw [if_neg c1] at h
      rw [if_neg c1]
      by_cases c2 : c = 91
      · rw [if_pos c2] at h
        rw [if_pos c2]
        split at h
        · rename_i hc
          rw [if_pos hc]
          obtain rfl := Option.some.inj h
          exact ⟨_, rfl⟩
        · rename_i hc
          rw [if_neg hc]
          obtain ⟨x, hx, rfl⟩ := Option.map_eq_some_iff.mp h
          have ho' : opens ((c :: r).take (x + 1)) = 1 + opens (r.take x) := by rw [List.take_succ_cons, opens, if_pos (.inl c2)]
          obtain ⟨vs, hvs⟩ := hE r x (d + 1) k' hx (by omega) (by omega)
          exact ⟨_, by rw [hvs]; rfl⟩
      rw [if_neg c2] at h
      rw [if_neg c2]
      by_cases c3 : c = 34
      · rw [if_pos c3] at h
        rw [if_pos c3]
        obtain ⟨x, hx, rfl⟩ := Option.map_eq_some_iff.mp h
        obtain ⟨j, hj, rfl⟩ := quo_qend r.length r x (Nat.le_refl _) hx
        exact ⟨_, by rw [hj]; rfl⟩
      rw [if_neg c3] at h
      rw [if_neg c3]
      by_cases c4 : c = 116
      · rw [if_pos c4] at h
        rw [if_pos c4]
        split at h
        · rename_i hc
          rw [if_pos hc]
          obtain rfl := Option.some.inj h
          exact ⟨_, rfl⟩
        · cases h
      rw [if_neg c4] at h
      rw [if_neg c4]
      by_cases c5 : c = 102
      · rw [if_pos c5] at h
        rw [if_pos c5]
        split at h
        · rename_i hc
          rw [if_pos hc]
          obtain rfl := Option.some.inj h
          exact ⟨_, rfl⟩
        · cases h
      rw [if_neg c5] at h
      rw [if_neg c5]
      by_cases c6 : c = 110
      · rw [if_pos c6] at h
        rw [if_pos c6]
        split at h
        · rename_i hc
          rw [if_pos hc]
          obtain rfl := Option.some.inj h
          exact ⟨_, rfl⟩
        · cases h
      rw [if_neg c6] at h
      rw [if_neg c6]
      exact ⟨_, by rw [(num_raw h hn).1]; rfl⟩
    · obtain ⟨k', rfl⟩ : ∃ i, k' = i + 1 := ⟨k' - 1, by omega⟩
      rw [Fj.elems] at h
      rw [pels]
      cases hv : Fj.val k (l.drop (Fj.ws l)) with
      | none => rw [hv] at h; cases h
      | some v =>
        rw [hv] at h
        dsimp only at h
        obtain ⟨n, hn⟩ : ∃ n, n = Fj.ws l + v + Fj.ws (l.drop (Fj.ws l + v)) := ⟨_, rfl⟩
        rw [← hn] at h
        have h1 := opens_add l (Fj.ws l) v
        by_cases c1 : rd l (n : Int) = 44
        · rw [if_pos c1] at h
          obtain ⟨x, hx, rfl⟩ := Option.map_eq_some_iff.mp h
          have hb : nb (rd (l.drop (Fj.ws l)) (v : Int)) = false := by
            rw [rd_dr]
            refine behind_nb ?_
            rw [← hn, c1]; rfl
          have h2 := opens_add l (n + 1) x
          rw [show n + 1 + x = x + (n + 1) by omega] at h2
          have h3 := opens_mono l (show Fj.ws l + v ≤ n + 1 by omega)
          obtain ⟨fv, hfv⟩ := hV _ v d k' hv hb (by omega) (by omega)
          obtain ⟨vs, hvs⟩ := hE _ x d k' hx (by omega) (by omega)
          rw [hfv]
          dsimp only
          rw [← hn, if_pos c1, hvs]
          exact ⟨_, rfl⟩
        · rw [if_neg c1] at h
          by_cases c2 : rd l (n : Int) = 93
          · rw [if_pos c2] at h
            obtain rfl := Option.some.inj h
            have hb : nb (rd (l.drop (Fj.ws l)) (v : Int)) = false := by
              rw [rd_dr]
              refine behind_nb ?_
              rw [← hn, c2]; rfl
            have h3 := opens_mono l (show Fj.ws l + v ≤ n + 1 by omega)
            obtain ⟨fv, hfv⟩ := hV _ v d k' hv hb (by omega) (by omega)
            rw [hfv]
            dsimp only
            rw [← hn, if_neg c1, if_pos c2]
            exact ⟨_, rfl⟩
          · rw [if_neg c2] at h; cases h
    · obtain ⟨k', rfl⟩ : ∃ i, k' = i + 1 := ⟨k' - 1, by omega⟩
      rw [Fj.mems] at h
      rw [pmems]
      dsimp only at h ⊢
      by_cases c0 : rd l (Fj.ws l : Int) = 34
      · rw [if_pos c0] at h
        rw [if_pos c0]
        cases hq : Fj.quo (l.drop (Fj.ws l + 1)) with
        | none => rw [hq] at h; cases h
        | some q =>
          obtain ⟨j, hj, rfl⟩ := quo_qend _ _ q (Nat.le_refl _) hq
          rw [hq] at h
          rw [hj]
          dsimp only at h ⊢
          obtain ⟨b, hb⟩ : ∃ b, b = Fj.ws l + 1 + (j + 1) := ⟨_, rfl⟩
          rw [← hb] at h ⊢
          obtain ⟨c, hc⟩ : ∃ c, c = b + Fj.ws (l.drop b) := ⟨_, rfl⟩
          rw [← hc] at h ⊢
          by_cases c3 : rd l (c : Int) = 58
          · rw [if_pos c3] at h
            rw [if_pos c3]
            cases hv : Fj.val k ((l.drop (c + 1)).drop (Fj.ws (l.drop (c + 1)))) with
            | none => rw [hv] at h; cases h
            | some v =>
              rw [hv] at h
              dsimp only at h
              rw [List.drop_drop] at hv
              obtain ⟨a, ha⟩ : ∃ a, a = c + 1 + Fj.ws (l.drop (c + 1)) := ⟨_, rfl⟩
              rw [List.drop_drop]
              rw [← ha] at h hv ⊢
              obtain ⟨n, hn⟩ : ∃ n, n = a + v + Fj.ws (l.drop (a + v)) := ⟨_, rfl⟩
              rw [← hn] at h
              have h1 := opens_add l a v
              by_cases c1 : rd l (n : Int) = 44
              · rw [if_pos c1] at h
                obtain ⟨x, hx, rfl⟩ := Option.map_eq_some_iff.mp h
                have hb : nb (rd (l.drop a) (v : Int)) = false := by
                  rw [rd_dr]
                  refine behind_nb ?_
                  rw [← hn, c1]; rfl
                have h2 := opens_add l (n + 1) x
                rw [show n + 1 + x = x + (n + 1) by omega] at h2
                have h3 := opens_mono l (show a + v ≤ n + 1 by omega)
                obtain ⟨fv, hfv⟩ := hV _ v d k' hv hb (by omega) (by omega)
                obtain ⟨vs, hvs⟩ := hM _ x d k' hx (by omega) (by omega)
                rw [hfv]
                dsimp only
                rw [← hn, if_pos c1, hvs]
                exact ⟨_, rfl⟩
              · rw [if_neg c1] at h
                by_cases c2 : rd l (n : Int) = 125
                · rw [if_pos c2] at h
                  obtain rfl := Option.some.inj h
                  have hb : nb (rd (l.drop a) (v : Int)) = false := by
                    rw [rd_dr]
                    refine behind_nb ?_
                    rw [← hn, c2]; rfl
                  have h3 := opens_mono l (show a + v ≤ n + 1 by omega)
                  obtain ⟨fv, hfv⟩ := hV _ v d k' hv hb (by omega) (by omega)
                  rw [hfv]
                  dsimp only
                  rw [← hn, if_neg c1, if_pos c2]
                  exact ⟨_, rfl⟩
                · rw [if_neg c2] at h; cases h
          · rw [if_neg c3] at h; cases h
      · rw [if_neg c0] at h; cases h
theorem ix92_lt : ∀ (l : List Int) (n : Nat), ix92 l = some n → n < l.length
  | [], n, h => by cases h
  | c :: r, n, h => by
    rw [ix92] at h
    split at h
    · obtain rfl := Option.some.inj h; simp
    · obtain ⟨x, hx, rfl⟩ := Option.map_eq_some_iff.mp h
      have := ix92_lt r x hx
      simp; omega
theorem uesc_len : ∀ (k : Nat) (l : List Int), (uesc k l).length ≤ l.length + 1
  | 0, l => by simp [uesc]
  | k + 1, [] => by simp [uesc]
  | k + 1, c :: r => by
    rw [uesc_cons, List.length_append]
    have h1 := uone_len c r
    have h2 : (utail k (r.drop (uone c r).2)).length ≤ r.length - (uone c r).2 := by
      unfold utail
      split
      · rw [List.length_drop]
        omega
      · rename_i n hn
        have h3 := ix92_lt _ _ hn
        have h4 := uesc_len k ((r.drop (uone c r).2).drop (n + 1))
        rw [List.length_drop, List.length_drop] at h4
        rw [List.length_drop] at h3
        rw [List.length_append, List.length_take, List.length_drop]
        omega
    rw [List.length_cons]
    omega
theorem size_nums (l : List Int) : (strOfNums l).size = l.length := by
  unfold strOfNums
  show (Array.size _) = _
  simp
theorem US_size (s : ByteArray) : (US s).size ≤ s.size := by
  unfold US
  split
  · exact Nat.le_refl _
  · rename_i n hn
    have h3 := ix92_lt _ _ hn
    have h4 := uesc_len s.size ((bytesOf s).drop (n + 1))
    rw [bytesOf_length] at h3
    rw [List.length_drop, bytesOf_length] at h4
    rw [size_nums, List.length_append, List.length_take, bytesOf_length]
    omega
theorem UC_US (s : ByteArray) (hs : s.size ≤ 1000000) : UC US s := ⟨US_size s, hs, fun w hG => uesc_calls s hs w hG⟩
/-- Whatever is read is good. -/
theorem goods (k : Nat) :
    (∀ (l : List Int) (d m : Nat) (fv : FV), pval k d l = some (fv, m) → l.length ≤ 900000 → Good US fv) ∧
    (∀ (l : List Int) (d m : Nat) (vs : List FV), pels k d l = some (vs, m) → l.length ≤ 900000 → (∀ v, v ∈ vs → Good US v) ∧ vs.length ≤ m ∧ m ≤ l.length) ∧
    (∀ (l : List Int) (d m : Nat) (ms : List (List Int × FV)), pmems k d l = some (ms, m) → l.length ≤ 900000 → (∀ v, v ∈ ms → UC US (strOfNums v.1)) ∧ (∀ v, v ∈ ms → Good US v.2) ∧ ms.length ≤ m ∧ m ≤ l.length) := by
  have nzl : ∀ (l : List Int) (n : Nat), rd l (n : Int) ≠ 0 → n < l.length := fun l n h => by
    refine Nat.lt_of_not_le fun hle => h ?_
    unfold rd
    simp only [Int.toNat_natCast, List.getD_eq_getElem?_getD, List.getElem?_eq_none hle]
    rfl
  have hsz : ∀ (l : List Int) (q : Nat), l.length ≤ 900000 → (strOfNums (l.take q)).size ≤ 1000000 := fun l q h => by rw [size_nums, List.length_take]; omega
  induction k with
  | zero => exact ⟨fun l d m fv h => by simp [pval] at h, fun l d m fv h => by simp [pels] at h, fun l d m fv h => by simp [pmems] at h⟩
  | succ k ih =>
    obtain ⟨hV, hE, hM⟩ := ih
    refine ⟨fun l d m fv h hl => ?_, fun l d m vs h hl => ?_, fun l d m vs h hl => ?_⟩
    · have hl1 : (l.drop 1).length ≤ 900000 := by rw [List.length_drop]; omega
      rw [pval] at h
      split at h
      · cases h
      split at h
      · cases h
      split at h
      · split at h
        · obtain ⟨rfl, rfl⟩ := Prod.mk.inj (Option.some.inj h)
          exact .obj _ (by simp) (fun m hm => by cases hm) (fun m hm => by cases hm)
        · obtain ⟨x, hx, hy⟩ := Option.map_eq_some_iff.mp h
          obtain ⟨rfl, rfl⟩ := Prod.mk.inj hy
          obtain ⟨h1, h2, h3, h4⟩ := hM _ _ x.2 x.1 hx hl1
          exact .obj _ (by omega) h1 h2
      split at h
      · split at h
        · obtain ⟨rfl, rfl⟩ := Prod.mk.inj (Option.some.inj h)
          exact .arr _ (by simp) (fun m hm => by cases hm)
        · obtain ⟨x, hx, hy⟩ := Option.map_eq_some_iff.mp h
          obtain ⟨rfl, rfl⟩ := Prod.mk.inj hy
          obtain ⟨h1, h3, h4⟩ := hE _ _ x.2 x.1 hx hl1
          exact .arr _ (by omega) h1
      split at h
      · obtain ⟨x, hx, hy⟩ := Option.map_eq_some_iff.mp h
        obtain ⟨rfl, rfl⟩ := Prod.mk.inj hy
        exact .str _ (UC_US _ (hsz _ _ hl1))
      split at h
      · split at h
        · obtain ⟨rfl, rfl⟩ := Prod.mk.inj (Option.some.inj h)
          exact .lit _ (by decide)
        · cases h
      split at h
      · split at h
        · obtain ⟨rfl, rfl⟩ := Prod.mk.inj (Option.some.inj h)
          exact .lit _ (by decide)
        · cases h
      split at h
      · split at h
        · obtain ⟨rfl, rfl⟩ := Prod.mk.inj (Option.some.inj h)
          exact .lit _ (by decide)
        split at h
        · obtain ⟨rfl, rfl⟩ := Prod.mk.inj (Option.some.inj h)
          exact .num _ (hsz _ _ hl)
        · cases h
      · obtain ⟨x, hx, hy⟩ := Option.map_eq_some_iff.mp h
        obtain ⟨rfl, rfl⟩ := Prod.mk.inj hy
        exact .num _ (hsz _ _ hl)
    · rw [pels] at h
      split at h
      · cases h
      · rename_i v hv
        obtain ⟨fv, vm⟩ := v
        have g := hV _ d vm fv hv (by rw [List.length_drop]; omega)
        dsimp only at h
        generalize hn : Fj.ws l + vm + Fj.ws (l.drop (Fj.ws l + vm)) = n at h
        split at h
        · rename_i hc
          have := nzl l n (by rw [hc]; decide)
          obtain ⟨x, hx, hy⟩ := Option.map_eq_some_iff.mp h
          obtain ⟨rfl, rfl⟩ := Prod.mk.inj hy
          obtain ⟨h1, h3, h4⟩ := hE _ _ x.2 x.1 hx (by rw [List.length_drop]; omega)
          rw [List.length_drop] at h4
          refine ⟨fun v hv => ?_, by rw [List.length_cons]; omega, by omega⟩
          rcases List.mem_cons.mp hv with rfl | hv
          · exact g
          · exact h1 v hv
        split at h
        · rename_i hc
          have := nzl l n (by rw [hc]; decide)
          obtain ⟨rfl, rfl⟩ := Prod.mk.inj (Option.some.inj h)
          refine ⟨fun v hv => ?_, by simp, by omega⟩
          rcases List.mem_singleton.mp hv with rfl
          exact g
        · cases h
    · rw [pmems] at h
      dsimp only at h
      split at h
      · split at h
        · cases h
        · rename_i q hq
          generalize hb : Fj.ws l + 1 + (q + 1) = b at h
          generalize hc : b + Fj.ws (l.drop b) = c at h
          split at h
          · split at h
            · cases h
            · rename_i v hv
              obtain ⟨fv, vm⟩ := v
              have g := hV _ d vm fv hv (by rw [List.length_drop, List.length_drop]; omega)
              have gk : UC US (strOfNums ((l.drop (Fj.ws l + 1)).take q)) := UC_US _ (hsz _ _ (by rw [List.length_drop]; omega))
              dsimp only at h
              generalize hn : c + 1 + Fj.ws (l.drop (c + 1)) + vm + Fj.ws (l.drop (c + 1 + Fj.ws (l.drop (c + 1)) + vm)) = n at h
              split at h
              · rename_i hc
                have := nzl l n (by rw [hc]; decide)
                obtain ⟨x, hx, hy⟩ := Option.map_eq_some_iff.mp h
                obtain ⟨rfl, rfl⟩ := Prod.mk.inj hy
                obtain ⟨h1, h2, h3, h4⟩ := hM _ _ x.2 x.1 hx (by rw [List.length_drop]; omega)
                rw [List.length_drop] at h4
                refine ⟨fun v hv => ?_, fun v hv => ?_, by rw [List.length_cons]; omega, by omega⟩
                · rcases List.mem_cons.mp hv with rfl | hv
                  · exact gk
                  · exact h1 v hv
                · rcases List.mem_cons.mp hv with rfl | hv
                  · exact g
                  · exact h2 v hv
              split at h
              · rename_i hc
                have := nzl l n (by rw [hc]; decide)
                obtain ⟨rfl, rfl⟩ := Prod.mk.inj (Option.some.inj h)
                refine ⟨fun v hv => ?_, fun v hv => ?_, by simp, by omega⟩
                · rcases List.mem_singleton.mp hv with rfl
                  exact gk
                · rcases List.mem_singleton.mp hv with rfl
                  exact g
              · cases h
          · cases h
      · cases h
/-- What is read of any text is good. -/
theorem okP_good {b : ByteArray} (hb : b.size ≤ 400000) {fv : FV} (h : okP b = some fv) : Good US fv := by
  unfold okP at h
  split at h
  · cases h
  · rename_i r hr
    split at h
    · obtain rfl := Option.some.inj h
      exact (goods _).1 _ 0 r.2 r.1 hr (by rw [bytesOf_length]; omega)
    · cases h
/-- A JSON value, blanks behind it, few brackets: it is read. -/
theorem okP_val {b : ByteArray} {k m : Nat} (h : Fj.val k (bytesOf b) = some m) (hm : m ≤ b.size) (he : b.size ≤ nx b m) (ho : opens (bytesOf b) < 300) : (okP b).isSome = true := by
  have hn : nb (rd (bytesOf b) (m : Int)) = false := by
    refine behind_nb ?_
    have : (bytesOf b).length ≤ m + Fj.ws ((bytesOf b).drop m) := by rw [bytesOf_length]; exact he
    unfold rd
    simp only [Int.toNat_natCast, List.getD_eq_getElem?_getD, List.getElem?_eq_none this]
    rfl
  obtain ⟨fv, hfv⟩ := (vals k).1 (bytesOf b) m 0 (2 * b.size + 1) h hn (by have := opens_all (bytesOf b) m; omega) (by omega)
  unfold okP
  rw [hfv]
  dsimp only
  rw [if_pos he]
  rfl
end Go.Proofs.YtlhaefblchpjhaaGreatDoor.Fp
end
section
namespace Go.Proofs.YtlhaefblchpjhaaGreatDoor.Fj
open Go.RowKit Go.Proofs.YtlhaefblchpjhaaGreatDoorW.PrintWords Go.Proofs.YtlhaefblchpjhaaGreatDoorW.PrintLast
set_option linter.unusedVariables false
set_option linter.unusedSimpArgs false
/-- Steady, as the program asks it: 'low' a byte below 32 has been met and no quotation mark since. -/
def std : Bool → List Int → Bool
  | _, [] => true
  | low, c :: r => if c = 34 then std false r else if c = 92 then (if low = true then false else std low r) else if c < 32 then std true r else std low r
theorem std_low : ∀ l : List Int, std true l = true → (∀ x y : List Int, l = x ++ 92 :: y → (34 : Int) ∈ x) ∧ std false l = true
  | [], _ => ⟨(fun x y e => by cases x <;> cases e), rfl⟩
  | c :: r, h => by
    rw [std] at h
    by_cases c1 : c = 34
    · rw [if_pos c1] at h
      refine ⟨fun x y e => ?_, by rw [std, if_pos c1]; exact h⟩
      cases x with
      | nil => simp only [List.nil_append, List.cons.injEq] at e; omega
      | cons a x => simp only [List.cons_append, List.cons.injEq] at e; rw [← e.1, c1]; exact List.mem_cons_self ..
    · rw [if_neg c1] at h
      by_cases c2 : c = 92
      · rw [if_pos c2, if_pos rfl] at h; cases h
      · rw [if_neg c2] at h
        have h' : std true r = true := by
          by_cases c3 : c < 32
          · rw [if_pos c3] at h; exact h
          · rw [if_neg c3] at h; exact h
        obtain ⟨g1, g2⟩ := std_low r h'
        refine ⟨fun x y e => ?_, ?_⟩
        · cases x with
          | nil => simp only [List.nil_append, List.cons.injEq] at e; exact absurd e.1 c2
          | cons a x => simp only [List.cons_append, List.cons.injEq] at e; exact List.mem_cons_of_mem _ (g1 x y e.2)
        · rw [std, if_neg c1, if_neg c2]
          by_cases c3 : c < 32
          · rw [if_pos c3]; exact h'
          · rw [if_neg c3]; exact g2
theorem std_steady : ∀ l : List Int, std false l = true → Fj.Steady l
  | [], _ => trivial
  | c :: r, h => by
    rw [std] at h
    by_cases c1 : c = 34
    · rw [if_pos c1] at h
      exact ⟨fun h32 => by omega, std_steady r h⟩
    · rw [if_neg c1] at h
      by_cases c2 : c = 92
      · rw [if_pos c2, if_neg (by decide)] at h
        exact ⟨fun h32 => by omega, std_steady r h⟩
      · rw [if_neg c2] at h
        by_cases c3 : c < 32
        · rw [if_pos c3] at h
          obtain ⟨g1, g2⟩ := std_low r h
          exact ⟨fun _ => g1, std_steady r g2⟩
        · rw [if_neg c3] at h
          exact ⟨fun h32 => absurd h32 c3, std_steady r h⟩
end Go.Proofs.YtlhaefblchpjhaaGreatDoor.Fj
end
