/- fastjson's parseValue, of every text. -/
import Derived.Test.YtjfofbgnppdlgaaDoorFpOb2
namespace Go.Proofs.YtjfofbgnppdlgaaDoor.Fp
open Go.RowKit Go.Proofs.YtjfofbgnppdlgaaDoorW.PrintWords Go.Proofs.YtjfofbgnppdlgaaDoorW.PrintLast Go.Proofs.YtjfofbgnppdlgaaDoorW.PrintMore
open Go.Proofs.YtjfofbgnppdlgaaDoor.FjW (cut cut_cut cut_size cut_bytes cut_zero cut_bt bt_out D rd_D rd_D0 D_drop D_len D_nil D_cons ws_at skipWS errNew SaidR)
set_option linter.unusedVariables false
set_option linter.unusedSimpArgs false

theorem pval_obj (k d : Nat) (a : ByteArray) (hz : 0 < a.size) (hd : d < 300) (h : bt a 0 = 123) : pval (k + 1) d (bytesOf a) = (objO (cut a 1) k (d + 1)).map fun r => (r.1, r.2 + 1) := by
  have hne : bytesOf a ≠ [] := fun e => by have := bytesOf_length a; rw [e] at this; simp at this; omega
  rw [pval, if_neg hne, if_neg (by omega), rd_bytesOf, h, if_pos rfl]
  have e1 : (bytesOf a).drop 1 = bytesOf (cut a 1) := (cut_bytes a 1).symm
  have e2 : nx (cut a 1) 0 = Fj.ws (bytesOf (cut a 1)) := Nat.zero_add _
  rw [e1, rd_bytesOf]
  unfold objO
  rw [e2]
  by_cases c : bt (cut a 1) (Fj.ws (bytesOf (cut a 1)) : Int) = 125
  · rw [if_pos c, if_pos c]; rfl
  · rw [if_neg c, if_neg c]
    unfold oP
    show _ = Option.map _ (Option.map _ (Option.map _ (pmems k (d + 1) (bytesOf (cut a 1)))))
    cases pmems k (d + 1) (bytesOf (cut a 1)) with
    | none => rfl
    | some r => simp only [Option.map_some, Nat.zero_add]
theorem pval_str (k d : Nat) (a : ByteArray) (hz : 0 < a.size) (hd : d < 300) (h : bt a 0 = 34) : pval (k + 1) d (bytesOf a) = (Fj.qend (bytesOf (cut a 1))).map fun q => (.str ((bytesOf (cut a 1)).take q), q + 2) := by
  have hne : bytesOf a ≠ [] := fun e => by have := bytesOf_length a; rw [e] at this; simp at this; omega
  rw [pval, if_neg hne, if_neg (by omega), rd_bytesOf, h, if_neg (by decide), if_neg (by decide), if_pos rfl, cut_bytes]
theorem pval_word (k d : Nat) (a : ByteArray) (hz : 0 < a.size) (hd : d < 300) : (bt a 0 = 116 → pval (k + 1) d (bytesOf a) = if Fj.begins [116, 114, 117, 101] (bytesOf a) = true then some (.lit 5, 4) else none) ∧
    (bt a 0 = 102 → pval (k + 1) d (bytesOf a) = if Fj.begins [102, 97, 108, 115, 101] (bytesOf a) = true then some (.lit 6, 5) else none) ∧
    (bt a 0 = 110 → pval (k + 1) d (bytesOf a) = if Fj.begins [110, 117, 108, 108] (bytesOf a) = true then some (.lit 0, 4) else if fold3 (bytesOf a) 110 97 110 = true then some (.num ((bytesOf a).take 3), 3) else none) := by
  have hne : bytesOf a ≠ [] := fun e => by have := bytesOf_length a; rw [e] at this; simp at this; omega
  refine ⟨fun h => ?_, fun h => ?_, fun h => ?_⟩
  · rw [pval, if_neg hne, if_neg (by omega), rd_bytesOf, h, if_neg (by decide), if_neg (by decide), if_neg (by decide), if_pos rfl]
  · rw [pval, if_neg hne, if_neg (by omega), rd_bytesOf, h, if_neg (by decide), if_neg (by decide), if_neg (by decide), if_neg (by decide), if_pos rfl]
  · rw [pval, if_neg hne, if_neg (by omega), rd_bytesOf, h, if_neg (by decide), if_neg (by decide), if_neg (by decide), if_neg (by decide), if_neg (by decide), if_pos rfl]
theorem begins_eq (a : ByteArray) (U : List UInt8) (n : Nat) (hn : U.length = n) : ((a.extract 0 n).toList == U) = Fj.begins (U.map fun b => (b.toNat : Int)) (bytesOf a) := by
  rw [Bool.eq_iff_iff, beq_iff_eq, Base.toList_bytes, take_ex]
  unfold Fj.begins
  rw [beq_iff_eq, List.length_map, hn]
theorem begins_short {l W : List Int} (h : l.length < W.length) : Fj.begins W l = false := by
  unfold Fj.begins
  rw [beq_eq_false_iff_ne]
  intro e
  have := congrArg List.length e
  rw [List.length_take] at this
  omega
theorem cell_in {W : World} {b j : Nat} {arr : Array Value} {T : TypeId} {fz : Nat × Nat} (h : W.heap[b]? = some (.cells arr T fz)) : W.cell? ⟨b, j, none⟩ = arr[j]? := by simp [World.cell?, h]
/-- A word's value, in a box of its own. -/
theorem out_lit {pb n : Nat} {bv v : Value} {w : World} (hP : Pb w pb bv v) (hC : Ca w pb n v) {a t : ByteArray} {k : Int} {r : Option (FV × Nat)} {m : Nat} (hr : r = some (.lit k, m)) (hm : m ≤ a.size) (ht : t = cut a m) {e : Ending} (he : e = .returned (.tuple #[.pointer (some ⟨w.heap.size, 0, none⟩), .string t, .nilIface])) :
    Out pb n bv v w a 0 r e (w.alloc (.cells #[nilS, .bool false, nilS, emptyS, .int .i64 k] TV)) := by
  have g := World.grownBy_alloc w (.cells #[nilS, .bool false, nilS, emptyS, .int .i64 k] TV) none
  have hf := (Fine.refl hP hC).grown g (fun k e => by cases e)
  have hn : (w.alloc (.cells #[nilS, .bool false, nilS, emptyS, .int .i64 k] TV)).heap[w.heap.size]? = some (.cells #[nilS, .bool false, nilS, emptyS, .int .i64 k] TV (0, 0)) := heap_alloc_new w _
  have hs : (w.alloc (.cells #[nilS, .bool false, nilS, emptyS, .int .i64 k] TV)).heap.size = w.heap.size + 1 := by show (w.heap.push _).size = _; rw [Array.size_push]
  refine out_some hr n v hf (by omega) hm ht w.heap.size 0 (fun y => y.spot = none ∧ y.block = w.heap.size) he ?_ ?_
  · exact .lit _ _ _ _ ⟨⟨cell_in hn, cell_in hn, cell_in hn, cell_in hn, cell_in hn⟩, ⟨⟨rfl, rfl⟩, ⟨rfl, rfl⟩, ⟨rfl, rfl⟩, ⟨rfl, rfl⟩, ⟨rfl, rfl⟩⟩, _, hn⟩
  · intro y hy
    refine ⟨.inl (by rw [hy.2]; exact Nat.le_refl _), hy.1, by rw [hs, hy.2]; omega, fun e => ?_, fun e => ?_⟩
    · have := hP.lt; omega
    · have := (hC.lt e.symm).1; omega
set_option maxHeartbeats 8000000 in
set_option maxRecDepth 100000 in
theorem valO (P : List Int → Prop) (hPd : ∀ l m, P l → P (l.drop m)) (k : Nat) (hV : ∀ j, j < k → VC P j) (pb n : Nat) (bv v : Value) (w : World) (a : ByteArray) (d : Nat) (hP : Pb w pb bv v) (hC : Ca w pb n v) (hn : n + a.size ≤ 1000000) (hk : 2 * a.size + 1 ≤ k) (ha : P (bytesOf a)) (hd : d < 300) (hq : bt a 0 = 123) (hz : 0 < a.size) :
    Calls Tryd.prog 10 #[.pointer (some ⟨pb, 1, none⟩), .string a, .int .i64 (d : Int)] w fun e w' => Out pb n bv v w a 0 (pval k d (bytesOf a)) e w' := by
  obtain ⟨k, rfl⟩ : ∃ j, k = j + 1 := ⟨k - 1, by omega⟩
  have e0 : ((a.size : Int) == 0) = false := beq_eq_false_iff_ne.mpr (by omega)
  have hx : ∀ h : 0 < a.size, ((a[0]'h).toNat : Int) = bt a 0 := bt_at a 0
  rw [hq] at hx
  have q1 : decide (300 < (d : Int) + 1) = false := decide_eq_false (by omega)
  have b1 : (d : Int) ≤ 300 := by omega
  have HPV : Aside0 (pval (k + 1) d (bytesOf a) = (objO (cut a 1) k (d + 1)).map fun r => (r.1, r.2 + 1)) := ⟨pval_obj k d a hz hd hq⟩
  obtain ⟨t, ht⟩ : ∃ t, cut a 1 = t := ⟨_, rfl⟩
  have hts : t.size = a.size - 1 := by rw [← ht]; exact cut_size a 1
  have HTS := Aside0.mk hts
  have HA : Aside0 (Calls Tryd.prog 22 #[.pointer (some ⟨pb, 1, none⟩), .string t, .int .i64 ((d : Int) + 1)] w fun e w' => Out pb n bv v w t 1 (objO t k (d + 1)) e w') := ⟨by
    have := obj P hPd k (fun j hj => hV j (by omega)) pb n bv v w t (d + 1) hP hC (by omega) (by omega) (by rw [← ht, cut_bytes]; exact hPd _ _ ha) (by omega)
    rw [show ((d + 1 : Nat) : Int) = (d : Int) + 1 by omega] at this
    exact this⟩
  have HT : Aside0 (a.extract 1 a.size = t) := ⟨ht⟩
  rw [ht] at HPV
  clear hP hC hV hk ha hq hd ht hts
  cases hr : objO t k (d + 1) with
  | none =>
    have HRR := Aside0.mk hr
    have HC1 : Aside0 (pval (k + 1) d (bytesOf a) = none) := ⟨by rw [HPV.out, hr]; rfl⟩
    clear hr
    go_enter Tryd.func10, Tryd.ntmps10
    go_wp2_with (first
      | (go_at_call 22; go_loud (rw [HT.out]); (with_reducible refine HA.out.mono ?_); rintro e w2 ⟨n2, v2, hf, h⟩; rw [HRR.out] at h; obtain ⟨hn2, t2, T2, u2, rfl⟩ := h; have HF2 := Aside0.mk hf; have HN2 := Aside0.mk hn2; clear hf hn2)
      | (go_at_call 12; (with_reducible refine (errNew _ _).mono ?_); rintro e w' ⟨⟨T, u, rfl⟩, hb⟩))
    go_ret3
    exact out_none HC1.out _ _ (HF2.out.below hb) (by have := HN2.out; have := HTS.out; omega) _ T u rfl
  | some r =>
    obtain ⟨fv, m⟩ := r
    have HRR := Aside0.mk hr
    have HC1 : Aside0 (pval (k + 1) d (bytesOf a) = some (fv, m + 1)) := ⟨by rw [HPV.out, hr]; rfl⟩
    clear hr
    go_enter Tryd.func10, Tryd.ntmps10
    go_wp2_with (first
      | (go_at_call 22; go_loud (rw [HT.out]); (with_reducible refine HA.out.mono ?_); rintro e w2 ⟨n2, v2, hf, h⟩; rw [HRR.out] at h; obtain ⟨hn2, hm2, b2, o2, F, rfl, hR, hF⟩ := h; simp only [] at hR hF hn2 hm2 ⊢; have HF2 := Aside0.mk hf; have HN2 := Aside0.mk hn2; have HM2 := Aside0.mk hm2; have HR2 := Aside0.mk hR; have HFF := Aside0.mk hF; clear hf hn2 hm2 hR hF))
    go_ret3
    exact out_some HC1.out n2 v2 HF2.out (by have := HN2.out; omega) (by have := HM2.out; have := HTS.out; omega) (by rw [← HT.out]; exact (cut_cut a 1 m).trans (by rw [Nat.add_comm])) b2 o2 F rfl HR2.out HFF.out
set_option maxHeartbeats 8000000 in
set_option maxRecDepth 100000 in
theorem valS (k : Nat) (pb n : Nat) (bv v : Value) (w : World) (a : ByteArray) (d : Nat) (hP : Pb w pb bv v) (hC : Ca w pb n v) (hn : n + a.size ≤ 1000000) (hd : d < 300) (hq : bt a 0 = 34) (hz : 0 < a.size) :
    Calls Tryd.prog 10 #[.pointer (some ⟨pb, 1, none⟩), .string a, .int .i64 (d : Int)] w fun e w' => Out pb n bv v w a 0 (pval (k + 1) d (bytesOf a)) e w' := by
  have HP := Aside0.mk hP
  have HC := Aside0.mk hC
  have HN0 : Aside0 (n ≤ 1000000) := ⟨by omega⟩
  have e0 : ((a.size : Int) == 0) = false := beq_eq_false_iff_ne.mpr (by omega)
  have hx : ∀ h : 0 < a.size, ((a[0]'h).toNat : Int) = bt a 0 := bt_at a 0
  rw [hq] at hx
  have q1 : decide (300 < (d : Int) + 1) = false := decide_eq_false (by omega)
  have b1 : (d : Int) ≤ 300 := by omega
  have HPV := Aside0.mk (pval_str k d a hz hd hq)
  obtain ⟨t, ht⟩ : ∃ t, cut a 1 = t := ⟨_, rfl⟩
  have hts : t.size = a.size - 1 := by rw [← ht]; exact cut_size a 1
  have HRAW := Aside0.mk (fun W => FjW.raw t (by omega) W)
  have HT : Aside0 (a.extract 1 a.size = t) := ⟨ht⟩
  have HLEN : Aside0 ((bytesOf t).length = t.size) := ⟨bytesOf_length t⟩
  have HQL : Aside0 (∀ q, Fj.qend (bytesOf t) = some q → q < t.size) := ⟨fun q h => by rw [← HLEN.out]; exact Fj.qend_lt _ _ _ (Nat.le_refl _) h⟩
  have HTS := Aside0.mk hts
  rw [ht] at HPV
  clear hP hC hq hd ht hts
  cases hr : Fj.qend (bytesOf t) with
  | none =>
    have HRR := Aside0.mk hr
    have HC1 : Aside0 (pval (k + 1) d (bytesOf a) = none) := ⟨by rw [HPV.out, hr]; rfl⟩
    clear hr
    go_enter Tryd.func10, Tryd.ntmps10
    go_wp2_with (first
      | (go_at_call 24; go_loud (rw [HT.out]); (with_reducible refine (HRAW.out _).mono ?_); rintro e w2 ⟨h, hb2⟩; rw [HRR.out] at h; obtain ⟨x2, y2, T2, u2, rfl⟩ := h; have HF2 := Aside0.mk ((Fine.refl HP.out HC.out).below hb2); clear hb2)
      | (go_at_call 12; (with_reducible refine (errNew _ _).mono ?_); rintro e w' ⟨⟨T, u, rfl⟩, hb⟩))
    go_ret3
    exact out_none HC1.out _ _ (HF2.out.below hb) (by omega) _ T u rfl
  | some q =>
    have HRR := Aside0.mk hr
    have HC1 : Aside0 (pval (k + 1) d (bytesOf a) = some (.str ((bytesOf t).take q), q + 2)) := ⟨by rw [HPV.out, hr]; rfl⟩
    have HM : Aside0 (q + 2 ≤ a.size) := ⟨by have := HQL.out q hr; have := HTS.out; omega⟩
    clear hr
    go_enter Tryd.func10, Tryd.ntmps10
    go_wp2_with (first
      | (go_at_call 24; go_loud (rw [HT.out]); (with_reducible refine (HRAW.out _).mono ?_); rintro e w2 ⟨h, hb2⟩; rw [HRR.out] at h; have h : e = _ := h; subst h; have HF2 := Aside0.mk ((Fine.refl HP.out HC.out).below hb2); clear hb2)
      | (go_at_call 25; (with_reducible refine (getValue _ pb n bv v HF2.out.pbs HF2.out.ca HN0.out).mono ?_); rintro e w1 ⟨b, v1, rfl, hg⟩; have HG := Aside0.mk hg; have hz4 := hg.zero 4 (by omega); have hz3 : ∀ u, (w1.setCell ⟨b, n * 5 + 4, none⟩ u).cell? ⟨b, n * 5 + 3, none⟩ = some emptyS := (fun u => (World.cell?_setCell_other _ _ _ _ (fun e => by injection e with _ e _; omega)).trans (hg.zero 3 (by omega))); have hfr := free_of hg.blt; clear hg))
    go_ret3
    refine Out.pre HC.out HF2.out (out_leaf HG.out HC1.out HM.out (by omega) ?_ (.inl ⟨?_, rfl⟩) rfl)
    · rw [← HT.out]; exact (cut_cut a 1 (q + 1)).trans (by rw [show 1 + (q + 1) = q + 2 by omega])
    · rw [take_ex]
set_option maxHeartbeats 8000000 in
set_option maxRecDepth 100000 in
theorem valT (k : Nat) (pb n : Nat) (bv v : Value) (w : World) (a : ByteArray) (d : Nat) (hP : Pb w pb bv v) (hC : Ca w pb n v) (hn : n + a.size ≤ 1000000) (hd : d < 300) (hq : bt a 0 = 116) (hz : 0 < a.size) :
    Calls Tryd.prog 10 #[.pointer (some ⟨pb, 1, none⟩), .string a, .int .i64 (d : Int)] w fun e w' => Out pb n bv v w a 0 (pval (k + 1) d (bytesOf a)) e w' := by
  have HP := Aside0.mk hP
  have HC := Aside0.mk hC
  have e0 : ((a.size : Int) == 0) = false := beq_eq_false_iff_ne.mpr (by omega)
  have hx : ∀ h : 0 < a.size, ((a[0]'h).toNat : Int) = bt a 0 := bt_at a 0
  rw [hq] at hx
  have q1 : decide (300 < (d : Int) + 1) = false := decide_eq_false (by omega)
  have b1 : (d : Int) ≤ 300 := by omega
  have HPV := Aside0.mk ((pval_word k d a hz hd).1 hq)
  have hb := begins_eq a [116, 114, 117, 101] 4 rfl
  by_cases h4 : a.size < 4
  · have HN : Aside0 (pval (k + 1) d (bytesOf a) = none) := ⟨by rw [HPV.out, begins_short (by rw [bytesOf_length]; exact h4)]; rfl⟩
    clear hb hP hC hq hd
    go_enter Tryd.func10, Tryd.ntmps10
    go_wp2_with (go_at_call 12; (with_reducible refine (errNew _ _).mono ?_); rintro e w' ⟨⟨T, u, rfl⟩, hb⟩)
    go_ret3
    exact out_none HN.out n v ((Fine.refl HP.out HC.out).below hb) (by omega) _ T u rfl
  · have h4' : 4 ≤ a.size := by omega
    clear h4 hP hC hq hd
    cases hB : Fj.begins [116, 114, 117, 101] (bytesOf a) with
    | true =>
      have HN : Aside0 (pval (k + 1) d (bytesOf a) = some (.lit 5, 4)) := ⟨by rw [HPV.out, if_pos hB]⟩
      have e1 : ((a.extract 0 4).toList == [116, 114, 117, 101]) = true := hb.trans hB
      have q2 : (4 : Int) ≤ (a.size : Int) := by omega
      clear hB hb
      go_enter Tryd.func10, Tryd.ntmps10
      go_wp2
      go_region
      all_goals
        go_wp2
        go_ret3
        exact (out_lit HP.out HC.out HN.out h4' rfl rfl).same rfl ⟨rfl, rfl, rfl⟩
    | false =>
      have HN : Aside0 (pval (k + 1) d (bytesOf a) = none) := ⟨by rw [HPV.out, if_neg (by rw [hB]; decide)]⟩
      have e1 : ((a.extract 0 4).toList == [116, 114, 117, 101]) = false := hb.trans hB
      clear hB hb
      go_enter Tryd.func10, Tryd.ntmps10
      go_wp2_with (go_at_call 12; (with_reducible refine (errNew _ _).mono ?_); rintro e w' ⟨⟨T, u, rfl⟩, hb⟩)
      go_ret3
      exact out_none HN.out n v ((Fine.refl HP.out HC.out).below hb) (by omega) _ T u rfl
set_option maxHeartbeats 8000000 in
set_option maxRecDepth 100000 in
theorem valF (k : Nat) (pb n : Nat) (bv v : Value) (w : World) (a : ByteArray) (d : Nat) (hP : Pb w pb bv v) (hC : Ca w pb n v) (hn : n + a.size ≤ 1000000) (hd : d < 300) (hq : bt a 0 = 102) (hz : 0 < a.size) :
    Calls Tryd.prog 10 #[.pointer (some ⟨pb, 1, none⟩), .string a, .int .i64 (d : Int)] w fun e w' => Out pb n bv v w a 0 (pval (k + 1) d (bytesOf a)) e w' := by
  have HP := Aside0.mk hP
  have HC := Aside0.mk hC
  have e0 : ((a.size : Int) == 0) = false := beq_eq_false_iff_ne.mpr (by omega)
  have hx : ∀ h : 0 < a.size, ((a[0]'h).toNat : Int) = bt a 0 := bt_at a 0
  rw [hq] at hx
  have q1 : decide (300 < (d : Int) + 1) = false := decide_eq_false (by omega)
  have b1 : (d : Int) ≤ 300 := by omega
  have HPV := Aside0.mk ((pval_word k d a hz hd).2.1 hq)
  have hb := begins_eq a [102, 97, 108, 115, 101] 5 rfl
  by_cases h4 : a.size < 5
  · have HN : Aside0 (pval (k + 1) d (bytesOf a) = none) := ⟨by rw [HPV.out, begins_short (by rw [bytesOf_length]; exact h4)]; rfl⟩
    clear hb hP hC hq hd
    go_enter Tryd.func10, Tryd.ntmps10
    go_wp2_with (go_at_call 12; (with_reducible refine (errNew _ _).mono ?_); rintro e w' ⟨⟨T, u, rfl⟩, hb⟩)
    go_ret3
    exact out_none HN.out n v ((Fine.refl HP.out HC.out).below hb) (by omega) _ T u rfl
  · have h4' : 5 ≤ a.size := by omega
    clear h4 hP hC hq hd
    cases hB : Fj.begins [102, 97, 108, 115, 101] (bytesOf a) with
    | true =>
      have HN : Aside0 (pval (k + 1) d (bytesOf a) = some (.lit 6, 5)) := ⟨by rw [HPV.out, if_pos hB]⟩
      have e1 : ((a.extract 0 5).toList == [102, 97, 108, 115, 101]) = true := hb.trans hB
      have q2 : (5 : Int) ≤ (a.size : Int) := by omega
      clear hB hb
      go_enter Tryd.func10, Tryd.ntmps10
      go_wp2
      go_region
      all_goals
        go_wp2
        go_ret3
        exact (out_lit HP.out HC.out HN.out h4' rfl rfl).same rfl ⟨rfl, rfl, rfl⟩
    | false =>
      have HN : Aside0 (pval (k + 1) d (bytesOf a) = none) := ⟨by rw [HPV.out, if_neg (by rw [hB]; decide)]⟩
      have e1 : ((a.extract 0 5).toList == [102, 97, 108, 115, 101]) = false := hb.trans hB
      clear hB hb
      go_enter Tryd.func10, Tryd.ntmps10
      go_wp2_with (go_at_call 12; (with_reducible refine (errNew _ _).mono ?_); rintro e w' ⟨⟨T, u, rfl⟩, hb⟩)
      go_ret3
      exact out_none HN.out n v ((Fine.refl HP.out HC.out).below hb) (by omega) _ T u rfl
end Go.Proofs.YtjfofbgnppdlgaaDoor.Fp
