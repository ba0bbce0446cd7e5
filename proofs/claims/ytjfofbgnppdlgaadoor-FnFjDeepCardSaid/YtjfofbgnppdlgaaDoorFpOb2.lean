/- fastjson's parseObject, walked, where parseValue is known for less fuel. (printed by wip/ext/mk_fpobj.py) -/
import Derived.Test.YtjfofbgnppdlgaaDoorFpOb
namespace Go.Proofs.YtjfofbgnppdlgaaDoor.Fp
open Go.RowKit Go.Proofs.YtjfofbgnppdlgaaDoorW.PrintWords Go.Proofs.YtjfofbgnppdlgaaDoorW.PrintLast Go.Proofs.YtjfofbgnppdlgaaDoorW.PrintMore
open Go.Proofs.YtjfofbgnppdlgaaDoor.FjW (cut cut_cut cut_size cut_bytes cut_zero cut_bt bt_out D rd_D rd_D0 D_drop D_len D_nil D_cons ws_at skipWS errNew SaidR)
set_option linter.unusedVariables false
set_option linter.unusedSimpArgs false

def oP (a : ByteArray) (k d p : Nat) : Option (List (List Int × FV) × Nat) := (pmems k d (D a p)).map fun r => (r.1, p + r.2)
theorem oP_succ (a : ByteArray) (k d p : Nat) : oP a (k + 1) d p = if bt a (nx a p : Int) = 34 then (match Fj.qend (D a (nx a p + 1)) with
    | none => none
    | some q => if bt a (nx a (nx a p + 1 + (q + 1)) : Int) = 58 then (match vP a k d (nx a (nx a (nx a p + 1 + (q + 1)) + 1)) with
      | none => none
      | some v => if bt a (nx a v.2 : Int) = 44 then (oP a k d (nx a v.2 + 1)).map fun t => (((D a (nx a p + 1)).take q, v.1) :: t.1, t.2) else if bt a (nx a v.2 : Int) = 125 then some ([((D a (nx a p + 1)).take q, v.1)], nx a v.2 + 1) else none)
      else none) else none := by
  unfold oP vP
  rw [pmems]
  simp only []
  rw [rd_D]
  have e0 : p + Fj.ws (D a p) = nx a p := rfl
  rw [e0]
  by_cases c : bt a (nx a p : Int) = 34
  · rw [if_pos c, if_pos c, D_drop, show p + (Fj.ws (D a p) + 1) = nx a p + 1 from by unfold nx; omega]
    cases hq : Fj.qend (D a (nx a p + 1)) with
    | none => rfl
    | some q =>
      simp only []
      rw [D_drop, rd_D]
      have e1 : p + (Fj.ws (D a p) + 1 + (q + 1)) = nx a p + 1 + (q + 1) := by unfold nx; omega
      rw [e1]
      have e2 : p + (Fj.ws (D a p) + 1 + (q + 1) + Fj.ws (D a (nx a p + 1 + (q + 1)))) = nx a (nx a p + 1 + (q + 1)) := by unfold nx; omega
      rw [e2]
      by_cases c2 : bt a (nx a (nx a p + 1 + (q + 1)) : Int) = 58
      · rw [if_pos c2, if_pos c2, D_drop, D_drop]
        have e3 : p + (Fj.ws (D a p) + 1 + (q + 1) + Fj.ws (D a (nx a p + 1 + (q + 1))) + 1) = nx a (nx a p + 1 + (q + 1)) + 1 := by omega
        rw [e3]
        have e4 : nx a (nx a p + 1 + (q + 1)) + 1 + Fj.ws (D a (nx a (nx a p + 1 + (q + 1)) + 1)) = nx a (nx a (nx a p + 1 + (q + 1)) + 1) := rfl
        rw [e4]
        cases hv : pval k d (D a (nx a (nx a (nx a p + 1 + (q + 1)) + 1))) with
        | none => rfl
        | some v =>
          simp only [Option.map_some]
          rw [rd_D, D_drop, D_drop]
          have e5 : p + (Fj.ws (D a p) + 1 + (q + 1) + Fj.ws (D a (nx a p + 1 + (q + 1))) + 1 + Fj.ws (D a (nx a (nx a p + 1 + (q + 1)) + 1)) + v.2) = nx a (nx a (nx a p + 1 + (q + 1)) + 1) + v.2 := by rw [← e4]; omega
          rw [e5]
          obtain ⟨Y, hY⟩ : ∃ Y, nx a (nx a (nx a p + 1 + (q + 1)) + 1) + v.2 = Y := ⟨_, rfl⟩
          rw [hY] at e5 ⊢
          have e6 : p + (Fj.ws (D a p) + 1 + (q + 1) + Fj.ws (D a (nx a p + 1 + (q + 1))) + 1 + Fj.ws (D a (nx a (nx a p + 1 + (q + 1)) + 1)) + v.2 + Fj.ws (D a Y)) = nx a Y := by
            have : nx a Y = Y + Fj.ws (D a Y) := rfl
            omega
          obtain ⟨X, hX⟩ : ∃ X, Fj.ws (D a p) + 1 + (q + 1) + Fj.ws (D a (nx a p + 1 + (q + 1))) + 1 + Fj.ws (D a (nx a (nx a p + 1 + (q + 1)) + 1)) + v.2 + Fj.ws (D a Y) = X := ⟨_, rfl⟩
          rw [hX] at e6 ⊢
          rw [e6, show p + (X + 1) = nx a Y + 1 by omega]
          by_cases c3 : bt a (nx a Y : Int) = 44
          · rw [if_pos c3, if_pos c3]
            cases pmems k d (D a (nx a Y + 1)) with
            | none => rfl
            | some r => simp only [Option.map_some]; congr 2; omega
          · rw [if_neg c3, if_neg c3]
            by_cases c4 : bt a (nx a Y : Int) = 125
            · rw [if_pos c4, if_pos c4]; simp only [Option.map_some]; congr 2; omega
            · rw [if_neg c4, if_neg c4]; rfl
      · rw [if_neg c2, if_neg c2]; rfl
  · rw [if_neg c, if_neg c]; rfl
theorem oP_nx (a : ByteArray) (k d p : Nat) : oP a (k + 1) d (nx a p) = oP a (k + 1) d p := by rw [oP_succ, oP_succ, nx_nx]
/-- An object's rest, behind the brace that opens it. -/
def objO (a : ByteArray) (k d : Nat) : Option (FV × Nat) := if bt a (nx a 0 : Int) = 125 then some (.obj [], nx a 0 + 1) else (oP a k d 0).map fun r => (.obj r.1, r.2)
theorem kvc_set {xs : List Value} {ks : List (List Int)} {ps : List (Nat × Nat)} (k : List Int) (p : Nat × Nat) (hl : xs.length = (ps.length + 1) * 2) (ht : xs.take (ps.length * 2) = kvc ks ps) (hk : ks.length = ps.length) :
    (xs.set (ps.length * 2) (.string (strOfNums k))).set (ps.length * 2 + 1) (ptr p) = kvc (ks ++ [k]) (ps ++ [p]) := by
  rw [kvc_snoc k p ks ps hk, ← ht]
  have hd : (xs.drop (ps.length * 2)).length = 2 := by rw [List.length_drop, hl]; omega
  obtain ⟨x, y, hxy⟩ : ∃ x y, xs.drop (ps.length * 2) = [x, y] := by
    match h : xs.drop (ps.length * 2), hd with
    | [x, y], _ => exact ⟨x, y, rfl⟩
  have hx : xs = xs.take (ps.length * 2) ++ [x, y] := by rw [← hxy, List.take_append_drop]
  have hlt : (xs.take (ps.length * 2)).length = ps.length * 2 := by rw [List.length_take, hl]; omega
  generalize xs.take (ps.length * 2) = T at hx hlt
  subst hx
  rw [List.set_append_right _ _ (by omega), List.set_append_right _ _ (by omega)]
  congr 1
  rw [hlt, Nat.sub_self, show ps.length * 2 + 1 - ps.length * 2 = 1 by omega]
  rfl
theorem out_obj {pb n b nn m : Nat} {bv v vv kv : Value} {w W : World} {F : Addr → Prop} {xs : List Value} {ps : List (Nat × Nat)} {ms : List (List Int × FV)} {a t : ByteArray} {r : Option (FV × Nat)} {mm : Nat} (h : Ob pb n bv v w b nn vv W F kv m xs ps (ms.map Prod.snd)) (hm : m = ps.length) (hl : ms.length = ps.length) (hx : xs = kvc (ms.map Prod.fst) ps) (h0 : 0 < ps.length ∨ kv = nilS)
    (hr : r = some (.obj ms, mm)) (hn : nn ≤ n + mm + 1) (hmm : mm ≤ a.size) (ht : t = cut a mm) {e : Ending} (he : e = .returned (.tuple #[.pointer (some ⟨b, n * 5, none⟩), .string t, .nilIface])) : Out pb n bv v w a 1 r e W := by
  subst hr ht
  obtain ⟨G, h1, h2⟩ := h.rep hm hl hx h0
  exact ⟨nn, vv, h.fine, hn, hmm, b, n * 5, G, he, h1, h2⟩
/-- A cell of the row, to be written. -/
theorem Ob.room {pb n b nn m g c j : Nat} {bv v vv : Value} {w W : World} {F : Addr → Prop} {xs : List Value} {ps : List (Nat × Nat)} {vs : List FV} (h : Ob pb n bv v w b nn vv W F (.slice (some ⟨g, 0, none⟩) m c) m xs ps vs) (hj : j < m * 2) : ∃ y, W.cell? ⟨g, j, none⟩ = some y := by
  rw [h.own.cellAt j hj]
  exact ⟨xs[j]'(by rw [h.own.1]; exact hj), List.getElem?_eq_getElem _⟩
theorem key_str (t : ByteArray) (q : Nat) : strOfNums ((bytesOf t).take q) = t.extract 0 q := by rw [← take_ex, XWords.strOfNums_bytesOf]
theorem nil_at {kv : Value} {lo m : Nat} {xs : List Value} {W : World} (h : W.ownsRow lo TK 2 kv m xs) (h0 : m = 0) (hz : 0 < m ∨ kv = nilS) : kv = nilS := by
  rcases hz with h1 | h1
  · omega
  · exact h1
theorem snd_snoc (ms : List (List Int × FV)) (k : List Int) (f : FV) : (ms ++ [(k, f)]).map Prod.snd = ms.map Prod.snd ++ [f] := by simp
theorem fst_snoc (ms : List (List Int × FV)) (k : List Int) (f : FV) : (ms ++ [(k, f)]).map Prod.fst = ms.map Prod.fst ++ [k] := by simp
set_option maxHeartbeats 8000000 in
set_option maxRecDepth 100000 in
theorem obj (P : List Int → Prop) (hPd : ∀ l m, P l → P (l.drop m)) (k : Nat) (hV : ∀ j, j < k → VC P j) (pb n : Nat) (bv v : Value) (w : World) (a : ByteArray) (d : Nat) (hP : Pb w pb bv v) (hC : Ca w pb n v) (hn : n + a.size + 1 ≤ 1000000) (hk : 2 * a.size + 2 ≤ k) (ha : P (bytesOf a)) (hd : d ≤ 300) :
    Calls Tryd.prog 22 #[.pointer (some ⟨pb, 1, none⟩), .string a, .int .i64 (d : Int)] w fun e w' => Out pb n bv v w a 1 (objO a k d) e w' := by
  obtain ⟨k, rfl⟩ : ∃ j, k = j + 1 := ⟨k - 1, by omega⟩
  have HP := Aside0.mk hP
  have HC := Aside0.mk hC
  have HV := Aside0.mk hV
  have HNA := Aside0.mk hn
  have HK := Aside0.mk hk
  have HA := Aside0.mk ha
  have HD := Aside0.mk hd
  have HS : Aside0 (a.size ≤ 1000000) := ⟨by omega⟩
  have HN0 : Aside0 (n ≤ 1000000) := ⟨by omega⟩
  obtain ⟨b0, hb0⟩ : ∃ b, b = cut a (nx a 0) := ⟨_, rfl⟩
  have HB0 := Aside0.mk hb0
  have hx := first_bt a b0 _ hb0
  have HA0 : Aside0 (a = cut a 0) := ⟨(cut_zero a).symm⟩
  clear hP hC hV hn hk ha hd
  by_cases h0 : b0.size = 0
  · have HN : Aside0 (objO a (k + 1) d = none) := ⟨by
        unfold objO
        rw [if_neg (by rw [cut_out hb0 h0]; decide), oP_succ, if_neg (by rw [cut_out hb0 h0]; decide)]; rfl⟩
    have e0 : ((b0.size : Int) == 0) = true := beq_iff_eq.mpr (by omega)
    clear h0 hb0 hx
    go_enter Tryd.func22, Tryd.ntmps22
    go_wp2_with (first
      | (go_at_call 8; (with_reducible refine (skipTo a _ b0 0 HS.out HA0.out HB0.out _).mono ?_); rintro e w' ⟨rfl, rfl⟩)
      | (go_at_call 12; (with_reducible refine (errNew _ _).mono ?_); rintro e w' ⟨⟨T, u, rfl⟩, hb⟩))
    go_ret3
    exact out_none HN.out n v ((Fine.refl HP.out HC.out).below hb) (by omega) _ T u rfl
  · have e0 : ((b0.size : Int) == 0) = false := beq_eq_false_iff_ne.mpr (by omega)
    have hz : 0 < b0.size := by omega
    have HSZ : Aside0 (nx a 0 + 1 ≤ a.size) := ⟨by rw [hb0, cut_size] at hz; omega⟩
    clear h0
    by_cases c : bt a (nx a 0 : Int) = 125
    · have HN : Aside0 (objO a (k + 1) d = some (.obj [], nx a 0 + 1)) := ⟨by unfold objO; rw [if_pos c]⟩
      have e1 : (bt a (nx a 0 : Int) == 125) = true := beq_iff_eq.mpr c
      have HX : Aside0 (b0.extract 1 b0.size = cut a (nx a 0 + 1)) := ⟨by rw [hb0]; exact cut_cut a _ 1⟩
      clear hb0 c
      go_enter Tryd.func22, Tryd.ntmps22
      go_wp2_with (first
        | (go_at_call 8; (with_reducible refine (skipTo a _ b0 0 HS.out HA0.out HB0.out _).mono ?_); rintro e w' ⟨rfl, rfl⟩)
        | (go_at_call 25; (with_reducible refine (getValue _ pb n bv v HP.out HC.out HN0.out).mono ?_); rintro e w1 ⟨b, v1, rfl, hg⟩; have HGT := Aside0.mk hg; have hz4 := hg.zero 4 (by omega); have hfr := free_of hg.blt; clear hg)
        | (go_at_call 35; (refine (objReset _ b (n * 5) (by exact (World.cell?_setCell_other _ _ _ _ (fun e => by injection e with _ e _; omega)).trans (HGT.out.zero 0 (by omega))) (by exact (World.cell?_setCell_other _ _ _ _ (fun e => by injection e with _ e _; omega)).trans (HGT.out.zero 1 (by omega))) (by exact fun j => (World.frozen?_setCell _ _ _ _).trans (free_of HGT.out.blt j))).mono ?_); rintro e w4 ⟨rfl, hw4⟩; have HOB : Aside0 (Ob pb n bv v w b (n + 1) v1 w4 (fun _ => False) nilS 0 [] [] []) := ⟨by rw [hw4]; exact Ob.start HGT.out⟩; clear hw4 hz4 hfr))
      go_quiet (fail)
      go_wp2
      go_ret3
      exact (out_obj (ms := []) HOB.out rfl rfl rfl (.inr rfl) HN.out (by omega) HSZ.out HX.out rfl).same rfl ⟨rfl, rfl, rfl⟩
    · have e1 : (bt a (nx a 0 : Int) == 125) = false := beq_eq_false_iff_ne.mpr c
      have HE : Aside0 (objO a (k + 1) d = (oP a (k + 1) d (nx a 0)).map fun r => (.obj ([] ++ r.1), r.2)) := ⟨by unfold objO; rw [if_neg c, oP_nx]; rfl⟩
      clear hb0 c
      go_enter Tryd.func22, Tryd.ntmps22
      go_wp2_with (first
        | (go_at_call 8; (with_reducible refine (skipTo a _ b0 0 HS.out HA0.out HB0.out _).mono ?_); rintro e w' ⟨rfl, rfl⟩)
        | (go_at_call 25; (with_reducible refine (getValue _ pb n bv v HP.out HC.out HN0.out).mono ?_); rintro e w1 ⟨b, v1, rfl, hg⟩; have HGT := Aside0.mk hg; have hz4 := hg.zero 4 (by omega); have hfr := free_of hg.blt; clear hg)
        | (go_at_call 35; (refine (objReset _ b (n * 5) (by exact (World.cell?_setCell_other _ _ _ _ (fun e => by injection e with _ e _; omega)).trans (HGT.out.zero 0 (by omega))) (by exact (World.cell?_setCell_other _ _ _ _ (fun e => by injection e with _ e _; omega)).trans (HGT.out.zero 1 (by omega))) (by exact fun j => (World.frozen?_setCell _ _ _ _).trans (free_of HGT.out.blt j))).mono ?_); rintro e w4 ⟨rfl, hw4⟩; have HOB : Aside0 (Ob pb n bv v w b (n + 1) v1 w4 (fun _ => False) nilS 0 [] [] []) := ⟨by rw [hw4]; exact Ob.start HGT.out⟩; clear hw4 hz4 hfr))
      go_loopg [1] (k + 1) (fun kk x1 wr => ∃ (c : ByteArray) (p nn : Nat) (vv : Value) (F : Addr → Prop) (kv : Value) (ps : List (Nat × Nat)) (ms : List (List Int × FV)), x1 = .string c ∧ Aside0 (c = cut a p ∧ p ≤ a.size ∧ 2 * (a.size - p) + 2 ≤ kk ∧ kk ≤ k + 1 ∧ nn ≤ n + 1 + p ∧ ps.length ≤ p ∧ ms.length = ps.length ∧ objO a (k + 1) d = (oP a kk d p).map fun r => (.obj (ms ++ r.1), r.2)) ∧ Aside0 (Ob pb n bv v w b nn vv wr F kv ps.length (kvc (ms.map Prod.fst) ps) ps (ms.map Prod.snd)))
      case atStart => exact ⟨b0, nx a 0, n + 1, v1, _, _, [], [], rfl, ⟨HB0.out, by have := HSZ.out; omega, by have := HK.out; omega, Nat.le_refl _, by omega, Nat.zero_le _, rfl, HE.out⟩, HOB⟩
      case round =>
        clear HE hx hz e1 e0
        obtain ⟨c, p, nn, vv, F, kv, ps, ms, rfl, HR, HOb⟩ := hrel
        obtain ⟨kk, rfl⟩ : ∃ j, gk = j + 1 := ⟨gk - 1, by have := HR.out.2.2.1; omega⟩
        obtain ⟨q0, hq0⟩ : ∃ q, nx a p = q := ⟨_, rfl⟩
        have hpq : p ≤ q0 := by rw [← hq0]; exact nx_ge a p
        have hqa : q0 ≤ a.size := by rw [← hq0]; exact nx_le a p HR.out.2.1
        obtain ⟨c0, hc0⟩ : ∃ c0, c0 = cut a q0 := ⟨_, rfl⟩
        have HC0Q : Aside0 (c0 = cut a (nx a p)) := ⟨by rw [hq0]; exact hc0⟩
        have hcs0 : c0.size = a.size - q0 := by rw [hc0]; exact cut_size a q0
        have HPL : Aside0 (ps.length ≤ 1000000) := ⟨by have := HR.out.2.2.2.2.2.1; have := HR.out.2.1; have := HS.out; omega⟩
        have HB1 : Aside0 (nn ≤ n + a.size + 1) := ⟨by have := HR.out.2.2.2.2.1; have := HR.out.2.1; omega⟩
        have hx0 := first_bt a c0 _ hc0
        have hlt0 : ps.length * 2 < (ps.length + 1) * 2 := by omega
        have HE := HR.out.2.2.2.2.2.2.2
        rw [oP_succ, hq0] at HE
        replace HE := Aside0.mk HE
        by_cases y : c0.size = 0
        · have HN : Aside0 (objO a (k + 1) d = none) := ⟨by rw [HE.out, if_neg (by rw [cut_out hc0 y]; decide)]; rfl⟩
          have e0 : ((c0.size : Int) == 0) = true := beq_iff_eq.mpr (by omega)
          clear y hx0 hc0 hcs0 hq0 hpq hqa
          go_wp2_with (first
            | (go_at_call 36; (with_reducible refine (getKV _ w.heap.size ps.length b (n * 5) kv _ HOb.out.fine.step.size HPL.out HOb.out.blk HOb.out.cel.1 HOb.out.own).mono ?_); rintro e w2 ⟨g, cc, xs', W', rfl, k1, k2, k3, k4, k5, k6⟩; have HG := Aside0.mk (HOb.out.grow HC.out k1 k3 k4 k5 k6); have HTK := Aside0.mk k2; clear k1 k2 k3 k4 k5 k6)
            | (go_at_call_of 8 c; (with_reducible refine (skipTo a _ c0 p HS.out HR.out.1 HC0Q.out _).mono ?_); rintro e w' ⟨rfl, rfl⟩)
            | (go_at_call 12; (with_reducible refine (errNew _ _).mono ?_); rintro e w' ⟨⟨T, u, rfl⟩, hb⟩))
          go_ret3
          exact out_none HN.out _ _ (HG.out.fine.below hb) (by have := HB1.out; omega) _ T u rfl
        have e0 : ((c0.size : Int) == 0) = false := beq_eq_false_iff_ne.mpr (by omega)
        have hz0 : 0 < c0.size := by omega
        have hq0s : q0 < a.size := by omega
        clear y
        by_cases y : bt a (q0 : Int) ≠ 34
        · have HN : Aside0 (objO a (k + 1) d = none) := ⟨by rw [HE.out, if_neg y]; rfl⟩
          have e1 : (bt a (q0 : Int) != 34) = true := bne_iff_ne.mpr y
          clear y hc0 hcs0 hq0 hpq hqa hq0s
          go_wp2_with (first
            | (go_at_call 36; (with_reducible refine (getKV _ w.heap.size ps.length b (n * 5) kv _ HOb.out.fine.step.size HPL.out HOb.out.blk HOb.out.cel.1 HOb.out.own).mono ?_); rintro e w2 ⟨g, cc, xs', W', rfl, k1, k2, k3, k4, k5, k6⟩; have HG := Aside0.mk (HOb.out.grow HC.out k1 k3 k4 k5 k6); have HTK := Aside0.mk k2; clear k1 k2 k3 k4 k5 k6)
            | (go_at_call_of 8 c; (with_reducible refine (skipTo a _ c0 p HS.out HR.out.1 HC0Q.out _).mono ?_); rintro e w' ⟨rfl, rfl⟩)
            | (go_at_call 12; (with_reducible refine (errNew _ _).mono ?_); rintro e w' ⟨⟨T, u, rfl⟩, hb⟩))
          go_ret3
          exact out_none HN.out _ _ (HG.out.fine.below hb) (by have := HB1.out; omega) _ T u rfl
        have y' : bt a (q0 : Int) = 34 := Decidable.not_not.mp y
        have e1 : (bt a (q0 : Int) != 34) = false := bne_eq_false_iff_eq.mpr y'
        rw [if_pos y'] at HE
        clear y y'
        obtain ⟨t, ht⟩ : ∃ t, c0.extract 1 c0.size = t := ⟨_, rfl⟩
        have HT := Aside0.mk ht
        have hta : t = cut a (q0 + 1) := by rw [← ht, hc0]; exact cut_cut a q0 1
        have HTA := Aside0.mk hta
        have hts : t.size ≤ 1000000 := by rw [hta, cut_size]; have := HS.out; omega
        have htb : bytesOf t = D a (q0 + 1) := by rw [hta]; exact cut_bytes a _
        have HKEY0 := Aside0.mk (fun W => rawKeyA t hts W)
        cases hq : Fj.qend (bytesOf t) with
        | none =>
          have HKEY : Aside0 (∀ W, Calls Tryd.prog 37 #[.string t] W fun e w' => (∃ x y T u, e = .returned (.tuple #[.string x, .string y, .iface T u])) ∧ Below W.heap.size W w') := ⟨fun W => (HKEY0.out W).mono fun e w' h => ⟨by have := h.1; rw [hq] at this; exact this, h.2⟩⟩
          have HN : Aside0 (objO a (k + 1) d = none) := ⟨by rw [HE.out, ← htb, hq]; rfl⟩
          clear hq hc0 hcs0 hq0 hpq hqa hq0s ht hta hts htb HKEY0
          go_wp2_with (first
            | (go_at_call 36; (with_reducible refine (getKV _ w.heap.size ps.length b (n * 5) kv _ HOb.out.fine.step.size HPL.out HOb.out.blk HOb.out.cel.1 HOb.out.own).mono ?_); rintro e w2 ⟨g, cc, xs', W', rfl, k1, k2, k3, k4, k5, k6⟩; have HG := Aside0.mk (HOb.out.grow HC.out k1 k3 k4 k5 k6); have HTK := Aside0.mk k2; clear k1 k2 k3 k4 k5 k6)
            | (go_at_call_of 8 c; (with_reducible refine (skipTo a _ c0 p HS.out HR.out.1 HC0Q.out _).mono ?_); rintro e w' ⟨rfl, rfl⟩)
            | (go_at_call 37; go_loud (rw [HT.out]); (with_reducible refine (HKEY.out _).mono ?_); rintro e w3 ⟨⟨x3, y3, T3, u3, rfl⟩, hb3⟩; have HG3 := Aside0.mk (HG.out.below HC.out hb3); obtain ⟨y0, hy0⟩ := HG3.out.room (j := ps.length * 2) (by omega); have hfr := HG3.out.own.frozenAt; have HG4 := Aside0.mk (HG3.out.store (j := ps.length * 2) (.string x3)); clear hb3)
            | (go_at_call 12; (with_reducible refine (errNew _ _).mono ?_); rintro e w' ⟨⟨T, u, rfl⟩, hb⟩))
          go_ret3
          exact out_none HN.out _ _ (HG4.out.fine.below hb) (by have := HB1.out; omega) _ T u rfl
        | some q =>
          obtain ⟨kk0, hkk0⟩ : ∃ x, t.extract 0 q = x := ⟨_, rfl⟩
          obtain ⟨r0, hr0⟩ : ∃ x, cut t (q + 1) = x := ⟨_, rfl⟩
          have HKEY : Aside0 (∀ W, Calls Tryd.prog 37 #[.string t] W fun e w' => e = .returned (.tuple #[.string kk0, .string r0, .nilIface]) ∧ Below W.heap.size W w') := ⟨fun W => (HKEY0.out W).mono fun e w' h => ⟨by have := h.1; rw [hq] at this; rw [← hkk0, ← hr0]; exact this, h.2⟩⟩
          have HKS : Aside0 (kk0 = strOfNums ((D a (q0 + 1)).take q)) := ⟨by rw [← hkk0, ← htb, key_str]⟩
          have HR0 : Aside0 (r0 = cut a (q0 + 1 + (q + 1))) := ⟨by rw [← hr0, hta]; exact cut_cut a (q0 + 1) (q + 1)⟩
          rw [← htb, hq] at HE
          simp only [] at HE
          rw [htb] at HE
          obtain ⟨q1, hq1⟩ : ∃ x, nx a (q0 + 1 + (q + 1)) = x := ⟨_, rfl⟩
          have hq1g : q0 + 1 + (q + 1) ≤ q1 := by rw [← hq1]; exact nx_ge a _
          obtain ⟨c1, hc1⟩ : ∃ x, x = cut a q1 := ⟨_, rfl⟩
          have HC1Q : Aside0 (c1 = cut a (nx a (q0 + 1 + (q + 1)))) := ⟨by rw [hq1]; exact hc1⟩
          have hcs1 : c1.size = a.size - q1 := by rw [hc1]; exact cut_size a q1
          have hx1 := first_bt a c1 _ hc1
          rw [hq1] at HE
          clear hq hc0 hcs0 hq0 ht hta hts htb HKEY0 hkk0 hr0 hq1
          by_cases y : c1.size = 0
          · have HN : Aside0 (objO a (k + 1) d = none) := ⟨by rw [HE.out, if_neg (by rw [cut_out hc1 y]; decide)]; rfl⟩
            have e2 : ((c1.size : Int) == 0) = true := beq_iff_eq.mpr (by omega)
            clear y hx1 hc1 hcs1 hpq hqa hq1g hq0s
            go_wp2_with (first
              | (go_at_call 36; (with_reducible refine (getKV _ w.heap.size ps.length b (n * 5) kv _ HOb.out.fine.step.size HPL.out HOb.out.blk HOb.out.cel.1 HOb.out.own).mono ?_); rintro e w2 ⟨g, cc, xs', W', rfl, k1, k2, k3, k4, k5, k6⟩; have HG := Aside0.mk (HOb.out.grow HC.out k1 k3 k4 k5 k6); have HTK := Aside0.mk k2; clear k1 k2 k3 k4 k5 k6)
              | (go_at_call_of 8 c; (with_reducible refine (skipTo a _ c0 p HS.out HR.out.1 HC0Q.out _).mono ?_); rintro e w' ⟨rfl, rfl⟩)
              | (go_at_call 37; go_loud (rw [HT.out]); (with_reducible refine (HKEY.out _).mono ?_); rintro e w3 ⟨rfl, hb3⟩; have HG3 := Aside0.mk (HG.out.below HC.out hb3); obtain ⟨y0, hy0⟩ := HG3.out.room (j := ps.length * 2) (by omega); have hfr := HG3.out.own.frozenAt; have HG4 := Aside0.mk (HG3.out.store (j := ps.length * 2) (.string kk0)); clear hb3)
              | (go_at_call_of 8 r0; (with_reducible refine (skipTo a _ c1 (q0 + 1 + (q + 1)) HS.out HR0.out HC1Q.out _).mono ?_); rintro e w' ⟨rfl, rfl⟩)
              | (go_at_call 12; (with_reducible refine (errNew _ _).mono ?_); rintro e w' ⟨⟨T, u, rfl⟩, hb⟩))
            go_ret3
            exact out_none HN.out _ _ (HG4.out.fine.below hb) (by have := HB1.out; omega) _ T u rfl
          have e2 : ((c1.size : Int) == 0) = false := beq_eq_false_iff_ne.mpr (by omega)
          have hz1 : 0 < c1.size := by omega
          have hq1s : q1 < a.size := by omega
          clear y
          by_cases y : bt a (q1 : Int) ≠ 58
          · have HN : Aside0 (objO a (k + 1) d = none) := ⟨by rw [HE.out, if_neg y]; rfl⟩
            have e3 : (bt a (q1 : Int) != 58) = true := bne_iff_ne.mpr y
            clear y hc1 hcs1 hpq hqa hq1g hq0s hq1s
            go_wp2_with (first
              | (go_at_call 36; (with_reducible refine (getKV _ w.heap.size ps.length b (n * 5) kv _ HOb.out.fine.step.size HPL.out HOb.out.blk HOb.out.cel.1 HOb.out.own).mono ?_); rintro e w2 ⟨g, cc, xs', W', rfl, k1, k2, k3, k4, k5, k6⟩; have HG := Aside0.mk (HOb.out.grow HC.out k1 k3 k4 k5 k6); have HTK := Aside0.mk k2; clear k1 k2 k3 k4 k5 k6)
              | (go_at_call_of 8 c; (with_reducible refine (skipTo a _ c0 p HS.out HR.out.1 HC0Q.out _).mono ?_); rintro e w' ⟨rfl, rfl⟩)
              | (go_at_call 37; go_loud (rw [HT.out]); (with_reducible refine (HKEY.out _).mono ?_); rintro e w3 ⟨rfl, hb3⟩; have HG3 := Aside0.mk (HG.out.below HC.out hb3); obtain ⟨y0, hy0⟩ := HG3.out.room (j := ps.length * 2) (by omega); have hfr := HG3.out.own.frozenAt; have HG4 := Aside0.mk (HG3.out.store (j := ps.length * 2) (.string kk0)); clear hb3)
              | (go_at_call_of 8 r0; (with_reducible refine (skipTo a _ c1 (q0 + 1 + (q + 1)) HS.out HR0.out HC1Q.out _).mono ?_); rintro e w' ⟨rfl, rfl⟩)
              | (go_at_call 12; (with_reducible refine (errNew _ _).mono ?_); rintro e w' ⟨⟨T, u, rfl⟩, hb⟩))
            go_ret3
            exact out_none HN.out _ _ (HG4.out.fine.below hb) (by have := HB1.out; omega) _ T u rfl
          have y' : bt a (q1 : Int) = 58 := Decidable.not_not.mp y
          have e3 : (bt a (q1 : Int) != 58) = false := bne_eq_false_iff_eq.mpr y'
          rw [if_pos y'] at HE
          clear y y'
          have HX1 : Aside0 (c1.extract 1 c1.size = cut a (q1 + 1)) := ⟨by rw [hc1]; exact cut_cut a q1 1⟩
          obtain ⟨q2, hq2⟩ : ∃ x, nx a (q1 + 1) = x := ⟨_, rfl⟩
          have hq2g : q1 + 1 ≤ q2 := by rw [← hq2]; exact nx_ge a _
          have hq2a : q2 ≤ a.size := by rw [← hq2]; exact nx_le a _ (by omega)
          obtain ⟨c2, hc2⟩ : ∃ x, x = cut a q2 := ⟨_, rfl⟩
          have HC2Q : Aside0 (c2 = cut a (nx a (q1 + 1))) := ⟨by rw [hq2]; exact hc2⟩
          have hcs2 : c2.size = a.size - q2 := by rw [hc2]; exact cut_size a q2
          rw [hq2] at HE
          have HVC : Aside0 (∀ W, Pb W pb bv vv → Ca W pb nn vv → Calls Tryd.prog 10 #[.pointer (some ⟨pb, 1, none⟩), .string c2, .int .i64 (d : Int)] W fun e w' => Out pb nn bv vv W c2 0 (pval kk d (bytesOf c2)) e w') := ⟨fun W h1 h2 => HV.out kk (by have := HR.out.2.2.2.1; omega) pb nn bv vv W c2 d h1 h2 (by have := HR.out.2.2.2.2.1; have := HNA.out; omega) (by have := HR.out.2.2.1; omega) (by rw [hc2, cut_bytes]; exact hPd _ _ HA.out) HD.out⟩
          have HBV : Aside0 (nn + c2.size ≤ n + a.size + 1) := ⟨by have := HR.out.2.2.2.2.1; omega⟩
          have hlt1 : ps.length * 2 + 1 < (ps.length + 1) * 2 := by omega
          cases hv : pval kk d (bytesOf c2) with
          | none =>
            have HVV := Aside0.mk hv
            have HN : Aside0 (objO a (k + 1) d = none) := ⟨by
              rw [HE.out]
              have : vP a kk d q2 = none := by unfold vP; rw [hc2, cut_bytes] at hv; rw [hv]; rfl
              rw [this]; rfl⟩
            clear hv hc1 hcs1 hpq hqa hq1g hq0s hq1s hq2 hq2g hq2a hc2 hcs2
            go_wp2_with (first
              | (go_at_call 36; (with_reducible refine (getKV _ w.heap.size ps.length b (n * 5) kv _ HOb.out.fine.step.size HPL.out HOb.out.blk HOb.out.cel.1 HOb.out.own).mono ?_); rintro e w2 ⟨g, cc, xs', W', rfl, k1, k2, k3, k4, k5, k6⟩; have HG := Aside0.mk (HOb.out.grow HC.out k1 k3 k4 k5 k6); have HTK := Aside0.mk k2; clear k1 k2 k3 k4 k5 k6)
              | (go_at_call_of 8 c; (with_reducible refine (skipTo a _ c0 p HS.out HR.out.1 HC0Q.out _).mono ?_); rintro e w' ⟨rfl, rfl⟩)
              | (go_at_call 37; go_loud (rw [HT.out]); (with_reducible refine (HKEY.out _).mono ?_); rintro e w3 ⟨rfl, hb3⟩; have HG3 := Aside0.mk (HG.out.below HC.out hb3); obtain ⟨y0, hy0⟩ := HG3.out.room (j := ps.length * 2) (by omega); have hfr := HG3.out.own.frozenAt; have HG4 := Aside0.mk (HG3.out.store (j := ps.length * 2) (.string kk0)); clear hb3)
              | (go_at_call_of 8 r0; (with_reducible refine (skipTo a _ c1 (q0 + 1 + (q + 1)) HS.out HR0.out HC1Q.out _).mono ?_); rintro e w' ⟨rfl, rfl⟩)
              | (go_at_call_of 8 (c1.extract 1 c1.size); (with_reducible refine (skipTo a _ c2 (q1 + 1) HS.out HX1.out HC2Q.out _).mono ?_); rintro e w' ⟨rfl, rfl⟩)
              | (go_at_call 10; (with_reducible refine (HVC.out _ HG4.out.fine.pbs HG4.out.fine.ca).mono ?_); rintro e w5 ⟨n2, v2, hf, h⟩; rw [HVV.out] at h; obtain ⟨hn2, t5, T5, u5, rfl⟩ := h; have HG5 := Aside0.mk (HG4.out.child HC.out hf); obtain ⟨y1, hy1⟩ := HG5.out.room (j := ps.length * 2 + 1) (by omega); have hfr5 := HG5.out.own.frozenAt; have HG6 := Aside0.mk (HG5.out.store (j := ps.length * 2 + 1) (.pointer none)); have HN2 := Aside0.mk hn2; clear hf hn2)
              | (go_at_call 12; (with_reducible refine (errNew _ _).mono ?_); rintro e w' ⟨⟨T, u, rfl⟩, hb⟩))
            go_ret3
            exact out_none HN.out _ _ (HG6.out.fine.below hb) (by have := HN2.out; have := HBV.out; omega) _ T u rfl
          | some r =>
            obtain ⟨fv, m⟩ := r
            have HVV := Aside0.mk hv
            have hvp : vP a kk d q2 = some (fv, q2 + m) := by unfold vP; rw [hc2, cut_bytes] at hv; rw [hv]; rfl
            obtain ⟨dd, hd⟩ : ∃ x, x = cut a (q2 + m) := ⟨_, rfl⟩
            have HDV : Aside0 (cut c2 m = dd) := ⟨by rw [hc2, hd]; exact cut_cut a q2 m⟩
            have HD0 := Aside0.mk hd
            obtain ⟨z, hzz⟩ : ∃ x, nx a (q2 + m) = x := ⟨_, rfl⟩
            have hrm : q2 + m ≤ z := by rw [← hzz]; exact nx_ge a _
            obtain ⟨f, hf⟩ : ∃ x, x = cut a z := ⟨_, rfl⟩
            have HFQ : Aside0 (f = cut a (nx a (q2 + m))) := ⟨by rw [hzz]; exact hf⟩
            have hxf := first_bt a f _ hf
            have HXF : Aside0 (f.extract 1 f.size = cut a (z + 1)) := ⟨by rw [hf]; exact cut_cut a z 1⟩
            have hfs : f.size = a.size - z := by rw [hf]; exact cut_size a z
            have HF0 := Aside0.mk hf
            rw [hvp] at HE
            simp only [] at HE
            rw [hzz] at HE
            have HNN : Aside0 (nn + m ≤ n + 1 + z ∧ ps.length + 1 ≤ z ∧ kk ≤ k + 1) := ⟨by have := HR.out.2.2.2.2.1; omega, by have := HR.out.2.2.2.2.2.1; omega, by have := HR.out.2.2.2.1; omega⟩
            have HNE : Aside0 (2 * (a.size - (z + 1)) + 2 ≤ kk ∨ a.size ≤ z) := ⟨by have := HR.out.2.2.1; omega⟩
            have HML : Aside0 (ms.length = ps.length) := ⟨HR.out.2.2.2.2.2.2.1⟩
            clear hv hvp hc1 hcs1 hpq hqa hq1g hq0s hq1s hq2 hq2g hq2a hc2 hcs2 hd hzz hf hrm
            by_cases y : f.size = 0
            · have HN : Aside0 (objO a (k + 1) d = none) := ⟨by rw [HE.out, cut_out HF0.out y]; rfl⟩
              have e4 : ((f.size : Int) == 0) = true := beq_iff_eq.mpr (by omega)
              clear y hxf hfs
              go_wp2_with (first
                | (go_at_call 36; (with_reducible refine (getKV _ w.heap.size ps.length b (n * 5) kv _ HOb.out.fine.step.size HPL.out HOb.out.blk HOb.out.cel.1 HOb.out.own).mono ?_); rintro e w2 ⟨g, cc, xs', W', rfl, k1, k2, k3, k4, k5, k6⟩; have HG := Aside0.mk (HOb.out.grow HC.out k1 k3 k4 k5 k6); have HTK := Aside0.mk k2; clear k1 k2 k3 k4 k5 k6)
                | (go_at_call_of 8 c; (with_reducible refine (skipTo a _ c0 p HS.out HR.out.1 HC0Q.out _).mono ?_); rintro e w' ⟨rfl, rfl⟩)
                | (go_at_call 37; go_loud (rw [HT.out]); (with_reducible refine (HKEY.out _).mono ?_); rintro e w3 ⟨rfl, hb3⟩; have HG3 := Aside0.mk (HG.out.below HC.out hb3); obtain ⟨y0, hy0⟩ := HG3.out.room (j := ps.length * 2) (by omega); have hfr := HG3.out.own.frozenAt; have HG4 := Aside0.mk (HG3.out.store (j := ps.length * 2) (.string kk0)); clear hb3)
                | (go_at_call_of 8 r0; (with_reducible refine (skipTo a _ c1 (q0 + 1 + (q + 1)) HS.out HR0.out HC1Q.out _).mono ?_); rintro e w' ⟨rfl, rfl⟩)
                | (go_at_call_of 8 (c1.extract 1 c1.size); (with_reducible refine (skipTo a _ c2 (q1 + 1) HS.out HX1.out HC2Q.out _).mono ?_); rintro e w' ⟨rfl, rfl⟩)
                | (go_at_call_of 8 dd; (with_reducible refine (skipTo a _ f (q2 + m) HS.out HD0.out HFQ.out _).mono ?_); rintro e w' ⟨rfl, rfl⟩)
                | (go_at_call 10; (with_reducible refine (HVC.out _ HG4.out.fine.pbs HG4.out.fine.ca).mono ?_); rintro e w5 ⟨n2, v2, hf, h⟩; rw [HVV.out] at h; obtain ⟨hn2, hm2, b2, o2, G, rfl, hrep, hG⟩ := h; simp only [] at hrep hG hn2 hm2 ⊢; rw [HDV.out]; have HG5 := Aside0.mk (HG4.out.child HC.out hf); obtain ⟨y1, hy1⟩ := HG5.out.room (j := ps.length * 2 + 1) (by omega); have hfr5 := HG5.out.own.frozenAt; have HG6 := Aside0.mk (HG4.out.snoc (j := ps.length * 2 + 1) (p := (b2, o2)) HC.out hf hrep hG); have HN2 := Aside0.mk hn2; have HM2 := Aside0.mk hm2; clear hf hn2 hm2 hrep hG)
                | (go_at_call 12; (with_reducible refine (errNew _ _).mono ?_); rintro e w' ⟨⟨T, u, rfl⟩, hb⟩))
              go_ret3
              exact out_none HN.out _ _ (HG6.out.fine.below hb) (by have := HN2.out; have := HM2.out; have := HBV.out; omega) _ T u rfl
            have e4 : ((f.size : Int) == 0) = false := beq_eq_false_iff_ne.mpr (by omega)
            have hzf : 0 < f.size := by omega
            have HZA : Aside0 (z + 1 ≤ a.size) := ⟨by omega⟩
            have HNE2 : Aside0 (2 * (a.size - (z + 1)) + 2 ≤ kk) := ⟨by have := HNE.out; omega⟩
            clear y hfs
            by_cases y : bt a (z : Int) = 44
            · have e5 : (bt a (z : Int) == 44) = true := beq_iff_eq.mpr y
              have HN : Aside0 (objO a (k + 1) d = (oP a kk d (z + 1)).map fun r => (.obj ((ms ++ [((D a (q0 + 1)).take q, fv)]) ++ r.1), r.2)) := ⟨by rw [HE.out, if_pos y, Option.map_map]; congr 1; funext r; simp⟩
              clear y HE
              go_wp2_with (first
                | (go_at_call 36; (with_reducible refine (getKV _ w.heap.size ps.length b (n * 5) kv _ HOb.out.fine.step.size HPL.out HOb.out.blk HOb.out.cel.1 HOb.out.own).mono ?_); rintro e w2 ⟨g, cc, xs', W', rfl, k1, k2, k3, k4, k5, k6⟩; have HG := Aside0.mk (HOb.out.grow HC.out k1 k3 k4 k5 k6); have HTK := Aside0.mk k2; clear k1 k2 k3 k4 k5 k6)
                | (go_at_call_of 8 c; (with_reducible refine (skipTo a _ c0 p HS.out HR.out.1 HC0Q.out _).mono ?_); rintro e w' ⟨rfl, rfl⟩)
                | (go_at_call 37; go_loud (rw [HT.out]); (with_reducible refine (HKEY.out _).mono ?_); rintro e w3 ⟨rfl, hb3⟩; have HG3 := Aside0.mk (HG.out.below HC.out hb3); obtain ⟨y0, hy0⟩ := HG3.out.room (j := ps.length * 2) (by omega); have hfr := HG3.out.own.frozenAt; have HG4 := Aside0.mk (HG3.out.store (j := ps.length * 2) (.string kk0)); clear hb3)
                | (go_at_call_of 8 r0; (with_reducible refine (skipTo a _ c1 (q0 + 1 + (q + 1)) HS.out HR0.out HC1Q.out _).mono ?_); rintro e w' ⟨rfl, rfl⟩)
                | (go_at_call_of 8 (c1.extract 1 c1.size); (with_reducible refine (skipTo a _ c2 (q1 + 1) HS.out HX1.out HC2Q.out _).mono ?_); rintro e w' ⟨rfl, rfl⟩)
                | (go_at_call_of 8 dd; (with_reducible refine (skipTo a _ f (q2 + m) HS.out HD0.out HFQ.out _).mono ?_); rintro e w' ⟨rfl, rfl⟩)
                | (go_at_call 10; (with_reducible refine (HVC.out _ HG4.out.fine.pbs HG4.out.fine.ca).mono ?_); rintro e w5 ⟨n2, v2, hf, h⟩; rw [HVV.out] at h; obtain ⟨hn2, hm2, b2, o2, G, rfl, hrep, hG⟩ := h; simp only [] at hrep hG hn2 hm2 ⊢; rw [HDV.out]; have HG5 := Aside0.mk (HG4.out.child HC.out hf); obtain ⟨y1, hy1⟩ := HG5.out.room (j := ps.length * 2 + 1) (by omega); have hfr5 := HG5.out.own.frozenAt; have HG6 := Aside0.mk (HG4.out.snoc (j := ps.length * 2 + 1) (p := (b2, o2)) HC.out hf hrep hG); have HN2 := Aside0.mk hn2; have HM2 := Aside0.mk hm2; clear hf hn2 hm2 hrep hG))
              have HXS : Aside0 ((xs'.set (ps.length * 2) (.string kk0)).set (ps.length * 2 + 1) (ptr (b2, o2)) = kvc ((ms ++ [((D a (q0 + 1)).take q, fv)]).map Prod.fst) (ps ++ [(b2, o2)])) := ⟨by rw [HKS.out, fst_snoc]; exact kvc_set _ _ HG.out.own.1 HTK.out (by rw [List.length_map]; exact HML.out)⟩
              have HON : Aside0 (Ob pb n bv v w b n2 v2 _ _ _ (ps ++ [(b2, o2)]).length (kvc ((ms ++ [((D a (q0 + 1)).take q, fv)]).map Prod.fst) (ps ++ [(b2, o2)])) (ps ++ [(b2, o2)]) ((ms ++ [((D a (q0 + 1)).take q, fv)]).map Prod.snd)) := ⟨by have h6 := HG6.out; rw [HXS.out, ← snd_snoc ms ((D a (q0 + 1)).take q) fv] at h6; rw [List.length_append]; exact h6⟩
              go_roundg kk
              case measure => omega
              case rel => exact ⟨_, z + 1, n2, v2, _, _, _, _, rfl, ⟨HXF.out, HZA.out, HNE2.out, HNN.out.2.2, by have := HN2.out; have := HNN.out.1; omega, by have := HNN.out.2.1; simp; omega, by simp [HML.out], HN.out⟩, HON⟩
            have e5 : (bt a (z : Int) == 44) = false := beq_eq_false_iff_ne.mpr y
            by_cases y2 : bt a (z : Int) = 125
            · have e6 : (bt a (z : Int) == 125) = true := beq_iff_eq.mpr y2
              have HN : Aside0 (objO a (k + 1) d = some (.obj (ms ++ [((D a (q0 + 1)).take q, fv)]), z + 1)) := ⟨by rw [HE.out, if_neg y, if_pos y2]; rfl⟩
              clear y y2 HE
              go_wp2_with (first
                | (go_at_call 36; (with_reducible refine (getKV _ w.heap.size ps.length b (n * 5) kv _ HOb.out.fine.step.size HPL.out HOb.out.blk HOb.out.cel.1 HOb.out.own).mono ?_); rintro e w2 ⟨g, cc, xs', W', rfl, k1, k2, k3, k4, k5, k6⟩; have HG := Aside0.mk (HOb.out.grow HC.out k1 k3 k4 k5 k6); have HTK := Aside0.mk k2; clear k1 k2 k3 k4 k5 k6)
                | (go_at_call_of 8 c; (with_reducible refine (skipTo a _ c0 p HS.out HR.out.1 HC0Q.out _).mono ?_); rintro e w' ⟨rfl, rfl⟩)
                | (go_at_call 37; go_loud (rw [HT.out]); (with_reducible refine (HKEY.out _).mono ?_); rintro e w3 ⟨rfl, hb3⟩; have HG3 := Aside0.mk (HG.out.below HC.out hb3); obtain ⟨y0, hy0⟩ := HG3.out.room (j := ps.length * 2) (by omega); have hfr := HG3.out.own.frozenAt; have HG4 := Aside0.mk (HG3.out.store (j := ps.length * 2) (.string kk0)); clear hb3)
                | (go_at_call_of 8 r0; (with_reducible refine (skipTo a _ c1 (q0 + 1 + (q + 1)) HS.out HR0.out HC1Q.out _).mono ?_); rintro e w' ⟨rfl, rfl⟩)
                | (go_at_call_of 8 (c1.extract 1 c1.size); (with_reducible refine (skipTo a _ c2 (q1 + 1) HS.out HX1.out HC2Q.out _).mono ?_); rintro e w' ⟨rfl, rfl⟩)
                | (go_at_call_of 8 dd; (with_reducible refine (skipTo a _ f (q2 + m) HS.out HD0.out HFQ.out _).mono ?_); rintro e w' ⟨rfl, rfl⟩)
                | (go_at_call 10; (with_reducible refine (HVC.out _ HG4.out.fine.pbs HG4.out.fine.ca).mono ?_); rintro e w5 ⟨n2, v2, hf, h⟩; rw [HVV.out] at h; obtain ⟨hn2, hm2, b2, o2, G, rfl, hrep, hG⟩ := h; simp only [] at hrep hG hn2 hm2 ⊢; rw [HDV.out]; have HG5 := Aside0.mk (HG4.out.child HC.out hf); obtain ⟨y1, hy1⟩ := HG5.out.room (j := ps.length * 2 + 1) (by omega); have hfr5 := HG5.out.own.frozenAt; have HG6 := Aside0.mk (HG4.out.snoc (j := ps.length * 2 + 1) (p := (b2, o2)) HC.out hf hrep hG); have HN2 := Aside0.mk hn2; have HM2 := Aside0.mk hm2; clear hf hn2 hm2 hrep hG))
              have HXS : Aside0 ((xs'.set (ps.length * 2) (.string kk0)).set (ps.length * 2 + 1) (ptr (b2, o2)) = kvc ((ms ++ [((D a (q0 + 1)).take q, fv)]).map Prod.fst) (ps ++ [(b2, o2)])) := ⟨by rw [HKS.out, fst_snoc]; exact kvc_set _ _ HG.out.own.1 HTK.out (by rw [List.length_map]; exact HML.out)⟩
              have HON : Aside0 (Ob pb n bv v w b n2 v2 _ _ _ (ps ++ [(b2, o2)]).length (kvc ((ms ++ [((D a (q0 + 1)).take q, fv)]).map Prod.fst) (ps ++ [(b2, o2)])) (ps ++ [(b2, o2)]) ((ms ++ [((D a (q0 + 1)).take q, fv)]).map Prod.snd)) := ⟨by have h6 := HG6.out; rw [HXS.out, ← snd_snoc ms ((D a (q0 + 1)).take q) fv] at h6; rw [List.length_append]; exact h6⟩
              go_quiet (fail)
              go_wp2
              go_ret3
              exact (out_obj HON.out rfl (by simp [HML.out]) rfl (.inl (by simp)) HN.out (by have := HN2.out; have := HNN.out.1; omega) HZA.out HXF.out rfl).same rfl ⟨rfl, rfl, rfl⟩
            · have e6 : (bt a (z : Int) == 125) = false := beq_eq_false_iff_ne.mpr y2
              have HN : Aside0 (objO a (k + 1) d = none) := ⟨by rw [HE.out, if_neg y, if_neg y2]; rfl⟩
              clear y y2 HE
              go_wp2_with (first
                | (go_at_call 36; (with_reducible refine (getKV _ w.heap.size ps.length b (n * 5) kv _ HOb.out.fine.step.size HPL.out HOb.out.blk HOb.out.cel.1 HOb.out.own).mono ?_); rintro e w2 ⟨g, cc, xs', W', rfl, k1, k2, k3, k4, k5, k6⟩; have HG := Aside0.mk (HOb.out.grow HC.out k1 k3 k4 k5 k6); have HTK := Aside0.mk k2; clear k1 k2 k3 k4 k5 k6)
                | (go_at_call_of 8 c; (with_reducible refine (skipTo a _ c0 p HS.out HR.out.1 HC0Q.out _).mono ?_); rintro e w' ⟨rfl, rfl⟩)
                | (go_at_call 37; go_loud (rw [HT.out]); (with_reducible refine (HKEY.out _).mono ?_); rintro e w3 ⟨rfl, hb3⟩; have HG3 := Aside0.mk (HG.out.below HC.out hb3); obtain ⟨y0, hy0⟩ := HG3.out.room (j := ps.length * 2) (by omega); have hfr := HG3.out.own.frozenAt; have HG4 := Aside0.mk (HG3.out.store (j := ps.length * 2) (.string kk0)); clear hb3)
                | (go_at_call_of 8 r0; (with_reducible refine (skipTo a _ c1 (q0 + 1 + (q + 1)) HS.out HR0.out HC1Q.out _).mono ?_); rintro e w' ⟨rfl, rfl⟩)
                | (go_at_call_of 8 (c1.extract 1 c1.size); (with_reducible refine (skipTo a _ c2 (q1 + 1) HS.out HX1.out HC2Q.out _).mono ?_); rintro e w' ⟨rfl, rfl⟩)
                | (go_at_call_of 8 dd; (with_reducible refine (skipTo a _ f (q2 + m) HS.out HD0.out HFQ.out _).mono ?_); rintro e w' ⟨rfl, rfl⟩)
                | (go_at_call 10; (with_reducible refine (HVC.out _ HG4.out.fine.pbs HG4.out.fine.ca).mono ?_); rintro e w5 ⟨n2, v2, hf, h⟩; rw [HVV.out] at h; obtain ⟨hn2, hm2, b2, o2, G, rfl, hrep, hG⟩ := h; simp only [] at hrep hG hn2 hm2 ⊢; rw [HDV.out]; have HG5 := Aside0.mk (HG4.out.child HC.out hf); obtain ⟨y1, hy1⟩ := HG5.out.room (j := ps.length * 2 + 1) (by omega); have hfr5 := HG5.out.own.frozenAt; have HG6 := Aside0.mk (HG4.out.snoc (j := ps.length * 2 + 1) (p := (b2, o2)) HC.out hf hrep hG); have HN2 := Aside0.mk hn2; have HM2 := Aside0.mk hm2; clear hf hn2 hm2 hrep hG)
                | (go_at_call 12; (with_reducible refine (errNew _ _).mono ?_); rintro e w' ⟨⟨T, u, rfl⟩, hb⟩))
              go_ret3
              exact out_none HN.out _ _ (HG6.out.fine.below hb) (by have := HN2.out; have := HM2.out; have := HBV.out; omega) _ T u rfl
end Go.Proofs.YtjfofbgnppdlgaaDoor.Fp
