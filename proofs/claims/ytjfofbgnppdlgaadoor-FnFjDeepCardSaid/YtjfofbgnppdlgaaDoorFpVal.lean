/- fastjson's parseValue: the texts that are empty, too deep, an array, or a number. -/
import Derived.Test.YtjfofbgnppdlgaaDoorFpNum
namespace Go.Proofs.YtjfofbgnppdlgaaDoor.Fp
open Go.RowKit Go.Proofs.YtjfofbgnppdlgaaDoorW.PrintWords Go.Proofs.YtjfofbgnppdlgaaDoorW.PrintLast Go.Proofs.YtjfofbgnppdlgaaDoorW.PrintMore
open Go.Proofs.YtjfofbgnppdlgaaDoor.FjW (cut cut_cut cut_size cut_bytes cut_zero cut_bt bt_out D rd_D rd_D0 D_drop D_len D_nil D_cons ws_at skipWS errNew)
set_option linter.unusedVariables false
set_option linter.unusedSimpArgs false

theorem pval_arr (k d : Nat) (a : ByteArray) (hz : 0 < a.size) (hd : d < 300) (h : bt a 0 = 91) : pval (k + 1) d (bytesOf a) = (arrO (cut a 1) k (d + 1)).map fun r => (r.1, r.2 + 1) := by
  have hne : bytesOf a ≠ [] := fun e => by have := bytesOf_length a; rw [e] at this; simp at this; omega
  rw [pval, if_neg hne, if_neg (by omega), rd_bytesOf, h, if_neg (by decide), if_pos rfl]
  have e1 : (bytesOf a).drop 1 = bytesOf (cut a 1) := (cut_bytes a 1).symm
  have e2 : nx (cut a 1) 0 = Fj.ws (bytesOf (cut a 1)) := Nat.zero_add _
  rw [e1, rd_bytesOf]
  unfold arrO
  rw [e2]
  by_cases c : bt (cut a 1) (Fj.ws (bytesOf (cut a 1)) : Int) = 93
  · rw [if_pos c, if_pos c]; rfl
  · rw [if_neg c, if_neg c]
    unfold eP
    show _ = Option.map _ (Option.map _ (Option.map _ (pels k (d + 1) (bytesOf (cut a 1)))))
    cases pels k (d + 1) (bytesOf (cut a 1)) with
    | none => rfl
    | some r => simp only [Option.map_some, Nat.zero_add]
theorem pval_num (k d : Nat) (a : ByteArray) (hz : 0 < a.size) (hd : d < 300) (h : bt a 0 ≠ 123 ∧ bt a 0 ≠ 91 ∧ bt a 0 ≠ 34 ∧ bt a 0 ≠ 116 ∧ bt a 0 ≠ 102 ∧ bt a 0 ≠ 110) : pval (k + 1) d (bytesOf a) = (rawNum (bytesOf a)).map fun n => (.num ((bytesOf a).take n), n) := by
  have hne : bytesOf a ≠ [] := fun e => by have := bytesOf_length a; rw [e] at this; simp at this; omega
  rw [pval, if_neg hne, if_neg (by omega), rd_bytesOf, if_neg h.1, if_neg h.2.1, if_neg h.2.2.1, if_neg h.2.2.2.1, if_neg h.2.2.2.2.1, if_neg h.2.2.2.2.2]
theorem nlen_le : ∀ l : List Int, nlen l ≤ l.length
  | [] => Nat.le_refl _
  | c :: r => by
    have := nlen_le r
    rw [nlen]
    split <;> simp <;> omega
theorem rawNum_le {l : List Int} {m : Nat} (h : rawNum l = some m) : m ≤ l.length := by
  have h0 := nlen_le l
  unfold rawNum at h
  split at h
  · injection h with h; omega
  · split at h
    · split at h
      · rename_i hf
        injection h with h
        rw [Bool.or_eq_true] at hf
        have : 3 ≤ (l.drop (nlen l)).length := by
          rcases hf with hf | hf <;>
          · unfold fold3 at hf
            rw [Bool.and_eq_true] at hf
            exact of_decide_eq_true hf.1
        rw [List.length_drop] at this
        omega
      · cases h
    · injection h with h; omega
theorem rawNum_pos {l : List Int} {m : Nat} (hl : l ≠ []) (h : rawNum l = some m) : 0 < m := by
  have := List.length_pos_iff.2 hl
  unfold rawNum at h
  split at h
  · injection h with h; omega
  · split at h
    · split at h
      · injection h with h; omega
      · cases h
    · rename_i h1
      injection h with h; omega
/-- A value that is laid in the cache, with its kind and its text. -/
theorem out_leaf {pb n b : Nat} {bv v v1 : Value} {w w1 : World} (G : Got pb n bv v w b v1 w1) {a t x : ByteArray} {kind : Int} {fv : FV} {r : Option (FV × Nat)} {m : Nat} (hr : r = some (fv, m)) (hm : m ≤ a.size) (h0 : 0 < m) (ht : t = cut a m)
    (hfv : (fv = .str (bytesOf x) ∧ kind = 7) ∨ (fv = .num (bytesOf x) ∧ kind = 4)) {e : Ending} (he : e = .returned (.tuple #[.pointer (some ⟨b, n * 5, none⟩), .string t, .nilIface])) :
    Out pb n bv v w a 0 r e ((w1.setCell ⟨b, n * 5 + 4, none⟩ (.int .i64 kind)).setCell ⟨b, n * 5 + 3, none⟩ (.string x)) := by
  subst hr ht
  have hp := G.place
  have f1 := G.fine.set (hp 4 (by omega)).1 (hp 4 (by omega)).2 (.int .i64 kind)
  have f2 := f1.set (hp 3 (by omega)).1 ((hp 3 (by omega)).2.set _) (.string x)
  obtain ⟨cur, hcur⟩ := G.blt
  have hz := G.zero
  have ho : ∀ i j, i ≠ j → ∀ (W : World) (u : Value), (W.setCell ⟨b, n * 5 + j, none⟩ u).cell? ⟨b, n * 5 + i, none⟩ = W.cell? ⟨b, n * 5 + i, none⟩ := fun i j hij W u => World.cell?_setCell_other _ _ _ _ (fun e => by injection e with _ e _; omega)
  have hx : (strOfNums (bytesOf x)) = x := XWords.strOfNums_bytesOf x
  have hc : Cells ((w1.setCell ⟨b, n * 5 + 4, none⟩ (.int .i64 kind)).setCell ⟨b, n * 5 + 3, none⟩ (.string x)) (fun y => ∃ i, i < 5 ∧ y = ⟨b, n * 5 + i, none⟩) b (n * 5) nilS (.bool false) nilS (.string (strOfNums (bytesOf x))) (.int .i64 kind) := by
    refine ⟨⟨?_, ?_, ?_, ?_, ?_⟩, ⟨⟨0, by omega, rfl⟩, ⟨1, by omega, rfl⟩, ⟨2, by omega, rfl⟩, ⟨3, by omega, rfl⟩, ⟨4, by omega, rfl⟩⟩, ⟨_, heap_set (heap_set hcur _) _⟩⟩
    · exact ((ho 0 3 (by omega) _ _).trans (ho 0 4 (by omega) _ _)).trans (hz 0 (by omega))
    · exact ((ho 1 3 (by omega) _ _).trans (ho 1 4 (by omega) _ _)).trans (hz 1 (by omega))
    · exact ((ho 2 3 (by omega) _ _).trans (ho 2 4 (by omega) _ _)).trans (hz 2 (by omega))
    · rw [hx]
      exact World.cell?_setCell_same _ _ _ ((ho 3 4 (by omega) _ _).trans (hz 3 (by omega)))
    · exact (ho 4 3 (by omega) _ _).trans (World.cell?_setCell_same _ _ _ (hz 4 (by omega)))
  refine ⟨n + 1, v1, f2, ?_, hm, b, n * 5, (fun y => ∃ i, i < 5 ∧ y = ⟨b, n * 5 + i, none⟩), he, ?_, fun y hy => ?_⟩
  · simp only []; omega
  · rcases hfv with ⟨rfl, rfl⟩ | ⟨rfl, rfl⟩
    · exact .str _ _ _ _ hc
    · exact .num _ _ _ _ hc
  · obtain ⟨i, hi, rfl⟩ := hy
    exact ⟨(hp i hi).1, ((hp i hi).2.set _).set _⟩
theorem Out.pre {pb n : Nat} {bv v : Value} {w w2 : World} {a : ByteArray} {x : Nat} {r : Option (FV × Nat)} {e : Ending} {w' : World} (hC : Ca w pb n v) (g : Fine pb n bv v w n v w2) (h : Out pb n bv v w2 a x r e w') : Out pb n bv v w a x r e w' := by
  obtain ⟨n', v', hf, h⟩ := h
  refine ⟨n', v', g.trans hC hf, ?_⟩
  cases r with
  | none => exact h
  | some r =>
    obtain ⟨h1, h2, b, o, F, h3, h4, h5⟩ := h
    exact ⟨h1, h2, b, o, F, h3, h4, fun y hy => ⟨(h5 y hy).1.up g, (h5 y hy).2⟩⟩
theorem take_ex (a : ByteArray) (m : Nat) : bytesOf (a.extract 0 m) = (bytesOf a).take m := by
  unfold bytesOf
  rw [ByteArray.data_extract, Array.toList_extract, List.extract_eq_take_drop, List.drop_zero, ← List.map_take]
  rfl
theorem out_some {pb n : Nat} {bv v : Value} {w : World} {a t : ByteArray} {x : Nat} {r : Option (FV × Nat)} {e : Ending} {w' : World} {fv : FV} {m : Nat} (h : r = some (fv, m)) (n' : Nat) (v' : Value) (hf : Fine pb n bv v w n' v' w') (hn : n' ≤ n + m + x) (hm : m ≤ a.size) (ht : t = cut a m) (b o : Nat) (F : Addr → Prop) (he : e = .returned (.tuple #[.pointer (some ⟨b, o, none⟩), .string t, .nilIface])) (hR : Rep w' F b o fv) (hF : ∀ y, F y → New n v w y ∧ In pb n' v' w' y) : Out pb n bv v w a x r e w' := by
  subst h ht; exact ⟨n', v', hf, hn, hm, b, o, F, he, hR, hF⟩
set_option maxHeartbeats 8000000 in
set_option maxRecDepth 100000 in
/-- parseValue, where the first byte, if any, is a bracket or a number's. -/
theorem valP (P : List Int → Prop) (hPd : ∀ l m, P l → P (l.drop m)) (k : Nat) (hV : ∀ j, j < k → VC P j) (pb n : Nat) (bv v : Value) (w : World) (a : ByteArray) (d : Nat) (hP : Pb w pb bv v) (hC : Ca w pb n v) (hn : n + a.size ≤ 1000000) (hk : 2 * a.size + 1 ≤ k) (ha : P (bytesOf a)) (hd : d ≤ 300) (hq : bt a 0 ≠ 123 ∧ bt a 0 ≠ 34 ∧ bt a 0 ≠ 116 ∧ bt a 0 ≠ 102 ∧ bt a 0 ≠ 110) :
    Calls Tryd.prog 10 #[.pointer (some ⟨pb, 1, none⟩), .string a, .int .i64 (d : Int)] w fun e w' => Out pb n bv v w a 0 (pval k d (bytesOf a)) e w' := by
  obtain ⟨k, rfl⟩ : ∃ j, k = j + 1 := ⟨k - 1, by omega⟩
  have HP := Aside0.mk hP
  have HC := Aside0.mk hC
  have HN0 : Aside0 (n ≤ 1000000) := ⟨by omega⟩
  have HS : Aside0 (a.size ≤ 1000000) := ⟨by omega⟩
  by_cases h0 : a.size = 0
  · have HC1 : Aside0 (pval (k + 1) d (bytesOf a) = none) := ⟨by
      have : bytesOf a = [] := List.eq_nil_of_length_eq_zero (by rw [bytesOf_length]; exact h0)
      rw [this]; exact pval_nil _ _⟩
    have e0 : ((a.size : Int) == 0) = true := beq_iff_eq.mpr (by omega)
    clear hP hC hV hk ha hq h0
    go_enter Tryd.func10, Tryd.ntmps10
    go_wp2_with (first | (go_at_call 12; (with_reducible refine (errNew _ _).mono ?_); rintro e w' ⟨⟨T, u, rfl⟩, hb⟩))
    go_ret3
    exact out_none HC1.out n v ((Fine.refl HP.out HC.out).below hb) (by omega) _ T u rfl
  · have e0 : ((a.size : Int) == 0) = false := beq_eq_false_iff_ne.mpr (by omega)
    have hz : 0 < a.size := by omega
    have hx : ∀ h : 0 < a.size, ((a[0]'h).toNat : Int) = bt a 0 := bt_at a 0
    clear h0
    by_cases c : d = 300
    · subst c
      have HC1 : Aside0 (pval (k + 1) 300 (bytesOf a) = none) := ⟨by
        have hne : bytesOf a ≠ [] := fun e => by have := bytesOf_length a; rw [e] at this; simp at this; omega
        rw [pval, if_neg hne, if_pos (by omega)]⟩
      clear hP hC hV hk ha hq hx hd
      go_enter Tryd.func10, Tryd.ntmps10
      go_wp2_with (first | (go_at_call 12; (with_reducible refine (errNew _ _).mono ?_); rintro e w' ⟨⟨T, u, rfl⟩, hb⟩))
      go_ret3
      exact out_none HC1.out n v ((Fine.refl HP.out HC.out).below hb) (by omega) _ T u rfl
    · have hd1 : d < 300 := by omega
      have q1 : decide (300 < (d : Int) + 1) = false := decide_eq_false (by omega)
      have b1 : (d : Int) ≤ 300 := by omega
      have e1 : (bt a 0 == 123) = false := beq_eq_false_iff_ne.mpr hq.1
      by_cases c1 : bt a 0 = 91
      · have e2 : (bt a 0 == 91) = true := beq_iff_eq.mpr c1
        have HPV : Aside0 (pval (k + 1) d (bytesOf a) = (arrO (cut a 1) k (d + 1)).map fun r => (r.1, r.2 + 1)) := ⟨pval_arr k d a hz hd1 c1⟩
        obtain ⟨t, ht⟩ : ∃ t, cut a 1 = t := ⟨_, rfl⟩
        have hts : t.size = a.size - 1 := by rw [← ht]; exact cut_size a 1
        have HTS := Aside0.mk hts
        have HA : Aside0 (Calls Tryd.prog 23 #[.pointer (some ⟨pb, 1, none⟩), .string t, .int .i64 ((d : Int) + 1)] w fun e w' => Out pb n bv v w t 1 (arrO t k (d + 1)) e w') := ⟨by
          have := arr P hPd k (fun j hj => hV j (by omega)) pb n bv v w t (d + 1) hP hC (by omega) (by omega) (by rw [← ht, cut_bytes]; exact hPd _ _ ha) (by omega)
          rw [show ((d + 1 : Nat) : Int) = (d : Int) + 1 by omega] at this
          exact this⟩
        have HT : Aside0 (a.extract 1 a.size = t) := ⟨ht⟩
        rw [ht] at HPV
        clear hP hC hV hk ha hq c1 hd hd1 c ht hts
        cases hr : arrO t k (d + 1) with
        | none =>
          have HRR := Aside0.mk hr
          have HC1 : Aside0 (pval (k + 1) d (bytesOf a) = none) := ⟨by rw [HPV.out, hr]; rfl⟩
          clear hr
          go_enter Tryd.func10, Tryd.ntmps10
          go_wp2_with (first
            | (go_at_call 23; go_loud (rw [HT.out]); (with_reducible refine HA.out.mono ?_); rintro e w2 ⟨n2, v2, hf, h⟩; rw [HRR.out] at h; obtain ⟨hn2, t2, T2, u2, rfl⟩ := h; have HF2 := Aside0.mk hf; have HN2 := Aside0.mk hn2; clear hf hn2)
            | (go_at_call 12; (with_reducible refine (errNew _ _).mono ?_); rintro e w' ⟨⟨T, u, rfl⟩, hb⟩))
          go_ret3
          exact out_none HC1.out _ _ (HF2.out.below hb) (by have := HN2.out; have := HTS.out; omega) _ T u rfl
        | some r =>
          obtain ⟨fv, m⟩ := r
          have HRR := Aside0.mk hr
          have HC1 : Aside0 (pval (k + 1) d (bytesOf a) = some (fv, m + 1)) := ⟨by rw [HPV.out, hr]; rfl⟩
          clear hr
          go_enter Tryd.func10, Tryd.ntmps10
          go_wp2_with (first
            | (go_at_call 23; go_loud (rw [HT.out]); (with_reducible refine HA.out.mono ?_); rintro e w2 ⟨n2, v2, hf, h⟩; rw [HRR.out] at h; obtain ⟨hn2, hm2, b2, o2, F, rfl, hR, hF⟩ := h; simp only [] at hR hF hn2 hm2 ⊢; have HF2 := Aside0.mk hf; have HN2 := Aside0.mk hn2; have HM2 := Aside0.mk hm2; have HR2 := Aside0.mk hR; have HFF := Aside0.mk hF; clear hf hn2 hm2 hR hF))
          go_ret3
          exact out_some HC1.out n2 v2 HF2.out (by have := HN2.out; omega) (by have := HM2.out; have := HTS.out; omega) (by rw [← HT.out]; exact (cut_cut a 1 m).trans (by rw [Nat.add_comm])) b2 o2 F rfl HR2.out HFF.out
      · have e2 : (bt a 0 == 91) = false := beq_eq_false_iff_ne.mpr c1
        have e3 : (bt a 0 == 34) = false := beq_eq_false_iff_ne.mpr hq.2.1
        have e4 : (bt a 0 == 116) = false := beq_eq_false_iff_ne.mpr hq.2.2.1
        have e5 : (bt a 0 == 102) = false := beq_eq_false_iff_ne.mpr hq.2.2.2.1
        have e6 : (bt a 0 == 110) = false := beq_eq_false_iff_ne.mpr hq.2.2.2.2
        have HPV : Aside0 (pval (k + 1) d (bytesOf a) = (rawNum (bytesOf a)).map fun n => (.num ((bytesOf a).take n), n)) := ⟨pval_num k d a hz hd1 ⟨hq.1, c1, hq.2⟩⟩
        have HNE : Aside0 (bytesOf a ≠ []) := ⟨fun e => by have := bytesOf_length a; rw [e] at this; simp at this; omega⟩
        clear hP hC hV hk ha hq c1 hd hd1 c
        cases hr : rawNum (bytesOf a) with
        | none =>
          have HRR := Aside0.mk hr
          have HC1 : Aside0 (pval (k + 1) d (bytesOf a) = none) := ⟨by rw [HPV.out, hr]; rfl⟩
          clear hr
          go_enter Tryd.func10, Tryd.ntmps10
          go_wp2_with (first
            | (go_at_call 27; (with_reducible refine (rawNumber a HS.out _).mono ?_); rintro e w2 ⟨h, hb2⟩; rw [HRR.out] at h; obtain ⟨x2, y2, T2, u2, rfl⟩ := h; have HF2 := Aside0.mk ((Fine.refl HP.out HC.out).below hb2); clear hb2)
            | (go_at_call 12; (with_reducible refine (errNew _ _).mono ?_); rintro e w' ⟨⟨T, u, rfl⟩, hb⟩))
          go_ret3
          exact out_none HC1.out _ _ (HF2.out.below hb) (by omega) _ T u rfl
        | some m =>
          have HRR := Aside0.mk hr
          have HC1 : Aside0 (pval (k + 1) d (bytesOf a) = some (.num ((bytesOf a).take m), m)) := ⟨by rw [HPV.out, hr]; rfl⟩
          have HM : Aside0 (0 < m ∧ m ≤ a.size) := ⟨rawNum_pos HNE.out hr, by have := rawNum_le hr; rwa [bytesOf_length] at this⟩
          clear hr
          go_enter Tryd.func10, Tryd.ntmps10
          go_wp2_with (first
            | (go_at_call 27; (with_reducible refine (rawNumber a HS.out _).mono ?_); rintro e w2 ⟨h, hb2⟩; rw [HRR.out] at h; have h : e = _ := h; subst h; have HF2 := Aside0.mk ((Fine.refl HP.out HC.out).below hb2); have HBB := Aside0.mk hb2; clear hb2)
            | (go_at_call 25; (with_reducible refine (getValue _ pb n bv v HF2.out.pbs HF2.out.ca HN0.out).mono ?_); rintro e w1 ⟨b, v1, rfl, hg⟩; have HG := Aside0.mk hg; have hz4 := hg.zero 4 (by omega); have hz3 : ∀ u, (w1.setCell ⟨b, n * 5 + 4, none⟩ u).cell? ⟨b, n * 5 + 3, none⟩ = some emptyS := (fun u => (World.cell?_setCell_other _ _ _ _ (fun e => by injection e with _ e _; omega)).trans (hg.zero 3 (by omega))); have hfr := free_of hg.blt; clear hg))
          go_ret3
          refine Out.pre HC.out HF2.out (out_leaf HG.out HC1.out HM.out.2 HM.out.1 rfl (.inr ⟨?_, rfl⟩) rfl)
          rw [take_ex]
theorem val (P : List Int → Prop) (hPd : ∀ l m, P l → P (l.drop m)) (hP0 : ∀ l, P l → rd l 0 ≠ 123 ∧ rd l 0 ≠ 34 ∧ rd l 0 ≠ 116 ∧ rd l 0 ≠ 102 ∧ rd l 0 ≠ 110) (k : Nat) (hV : ∀ j, j < k → VC P j) : VC P k := by
  intro pb n bv v w a d hP hC hn hk ha hd
  have hq := hP0 _ ha
  rw [rd_bytesOf] at hq
  exact valP P hPd k hV pb n bv v w a d hP hC hn hk ha hd hq
end Go.Proofs.YtjfofbgnppdlgaaDoor.Fp
