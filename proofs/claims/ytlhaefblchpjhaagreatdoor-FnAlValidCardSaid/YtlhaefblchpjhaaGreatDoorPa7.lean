/- Proved here: parts of the law FnAlValid (the texts FpOb2 FpVal2 FpVal3 FpUrow ToErr FpHex FpParse FpUdef FpFr FpNodes), no conditions of their own beyond what each theorem says. -/
import Derived.Test.YtlhaefblchpjhaaGreatDoorPa6
import Derived.Lib.FrozenHead
import Derived.Lib.ConvBytes
import Derived.Shelf.Strconv.ToError
import Derived.Shelf.Strconv.Lower
import Derived.Test.YtlhaefblchpjhaaGreatDoorProg
import Derived.Test.YtlhaefblchpjhaaGreatDoorPa1
import Derived.BigGuard
import Derived.Lib.EndianBits
import Derived.Deep.RegionLaw
section
namespace Go.Proofs.YtlhaefblchpjhaaGreatDoor.Fp
open Go.RowKit Go.Proofs.YtlhaefblchpjhaaGreatDoorW.PrintWords Go.Proofs.YtlhaefblchpjhaaGreatDoorW.PrintLast Go.Proofs.YtlhaefblchpjhaaGreatDoorW.PrintMore
open Go.Proofs.YtlhaefblchpjhaaGreatDoor.FjW (cut cut_cut cut_size cut_bytes cut_zero cut_bt bt_out D rd_D rd_D0 D_drop D_len D_nil D_cons ws_at skipWS errNew SaidR)
set_option linter.unusedVariables false
set_option linter.unusedSimpArgs false
def oP (a : ByteArray) (k d p : Nat) : Option (List (List Int × FV) × Nat) := (pmems k d (D a p)).map fun r => (r.1, p + r.2)
theorem oP_succ (a : ByteArray) (k d p : Nat) : oP a (k + 1) d p = if bt a (nx a p : Int) = 34 then (match Fj.qend (D a (nx a p + 1)) with
    | none => none
    | some q => if bt a (nx a (nx a p + 1 + (q + 1)) : Int) = 58 then (match vP a k d (nx a (nx a (nx a p + 1 + (q + 1)) + 1)) with
      | none => none
      | some v => if bt a (nx a v.2 : Int) = 44 then (oP a k d (nx a v.2 + 1)).map fun t => (((D a (nx a p + 1)).take q, v.1) :: t.1, t.2) else if bt a (nx a v.2 : Int) = 125 then some ([((D a (nx a p + 1)).take q, v.1)], nx a v.2 + 1) else none)
      else none) else none := by
  unfold oP vP
  rw [pmems]
  simp only []
  rw [rd_D]
  have e0 : p + Fj.ws (D a p) = nx a p := rfl
  rw [e0]
  by_cases c : bt a (nx a p : Int) = 34
  · rw [if_pos c, if_pos c, D_drop, show p + (Fj.ws (D a p) + 1) = nx a p + 1 from by unfold nx; omega]
    cases hq : Fj.qend (D a (nx a p + 1)) with
    | none => rfl
    | some q =>
      simp only []
      rw [D_drop, rd_D]
      have e1 : p + (Fj.ws (D a p) + 1 + (q + 1)) = nx a p + 1 + (q + 1) := by unfold nx; omega
      rw [e1]
      have e2 : p + (Fj.ws (D a p) + 1 + (q + 1) + Fj.ws (D a (nx a p + 1 + (q + 1)))) = nx a (nx a p + 1 + (q + 1)) := by unfold nx; omega
      rw [e2]
      by_cases c2 : bt a (nx a (nx a p + 1 + (q + 1)) : Int) = 58
      · rw [if_pos c2, if_pos c2, D_drop, D_drop]
        have e3 : p + (Fj.ws (D a p) + 1 + (q + 1) + Fj.ws (D a (nx a p + 1 + (q + 1))) + 1) = nx a (nx a p + 1 + (q + 1)) + 1 := by omega
        rw [e3]
        have e4 : nx a (nx a p + 1 + (q + 1)) + 1 + Fj.ws (D a (nx a (nx a p + 1 + (q + 1)) + 1)) = nx a (nx a (nx a p + 1 + (q + 1)) + 1) := rfl
        rw [e4]
        cases hv : pval k d (D a (nx a (nx a (nx a p + 1 + (q + 1)) + 1))) with
        | none => rfl
        | some v =>
          simp only [Option.map_some]
          rw [rd_D, D_drop, D_drop]
          have e5 : p + (Fj.ws (D a p) + 1 + (q + 1) + Fj.ws (D a (nx a p + 1 + (q + 1))) + 1 + Fj.ws (D a (nx a (nx a p + 1 + (q + 1)) + 1)) + v.2) = nx a (nx a (nx a p + 1 + (q + 1)) + 1) + v.2 := by rw [← e4]; omega
          rw [e5]
          obtain ⟨Y, hY⟩ : ∃ Y, nx a (nx a (nx a p + 1 + (q + 1)) + 1) + v.2 = Y := ⟨_, rfl⟩
          rw [hY] at e5 ⊢
          have e6 : p + (Fj.ws (D a p) + 1 + (q + 1) + Fj.ws (D a (nx a p + 1 + (q + 1))) + 1 + Fj.ws (D a (nx a (nx a p + 1 + (q + 1)) + 1)) + v.2 + Fj.ws (D a Y)) = nx a Y := by
            have : nx a Y = Y + Fj.ws (D a Y) := rfl
            omega
          obtain ⟨X, hX⟩ : ∃ X, Fj.ws (D a p) + 1 + (q + 1) + Fj.ws (D a (nx a p + 1 + (q + 1))) + 1 + Fj.ws (D a (nx a (nx a p + 1 + (q + 1)) + 1)) + v.2 + Fj.ws (D a Y) = X := ⟨_, rfl⟩
          rw [hX] at e6 ⊢
          rw [e6, show p + (X + 1) = nx a Y + 1 by omega]
          by_cases c3 : bt a (nx a Y : Int) = 44
          · rw [if_pos c3, if_pos c3]
            cases pmems k d (D a (nx a Y + 1)) with
            | none => rfl
            | some r => simp only [Option.map_some]; congr 2; omega
          · rw [if_neg c3, if_neg c3]
            by_cases c4 : bt a (nx a Y : Int) = 125
            · rw [if_pos c4, if_pos c4]; simp only [Option.map_some]; congr 2; omega
            · rw [if_neg c4, if_neg c4]; rfl
      · rw [if_neg c2, if_neg c2]; rfl
  · rw [if_neg c, if_neg c]; rfl
theorem oP_nx (a : ByteArray) (k d p : Nat) : oP a (k + 1) d (nx a p) = oP a (k + 1) d p := by rw [oP_succ, oP_succ, nx_nx]
/-- An object's rest, behind the brace that opens it. -/
def objO (a : ByteArray) (k d : Nat) : Option (FV × Nat) := if bt a (nx a 0 : Int) = 125 then some (.obj [], nx a 0 + 1) else (oP a k d 0).map fun r => (.obj r.1, r.2)
theorem kvc_set {xs : List Value} {ks : List (List Int)} {ps : List (Nat × Nat)} (k : List Int) (p : Nat × Nat) (hl : xs.length = (ps.length + 1) * 2) (ht : xs.take (ps.length * 2) = kvc ks ps) (hk : ks.length = ps.length) :
    (xs.set (ps.length * 2) (.string (strOfNums k))).set (ps.length * 2 + 1) (ptr p) = kvc (ks ++ [k]) (ps ++ [p]) := by
  rw [kvc_snoc k p ks ps hk, ← ht]
  have hd : (xs.drop (ps.length * 2)).length = 2 := by rw [List.length_drop, hl]; omega
  obtain ⟨x, y, hxy⟩ : ∃ x y, xs.drop (ps.length * 2) = [x, y] := by
    match h : xs.drop (ps.length * 2), hd with
    | [x, y], _ => exact ⟨x, y, rfl⟩
  have hx : xs = xs.take (ps.length * 2) ++ [x, y] := by rw [← hxy, List.take_append_drop]
  have hlt : (xs.take (ps.length * 2)).length = ps.length * 2 := by rw [List.length_take, hl]; omega
  generalize xs.take (ps.length * 2) = T at hx hlt
  subst hx
  rw [List.set_append_right _ _ (by omega), List.set_append_right _ _ (by omega)]
  congr 1
  rw [hlt, Nat.sub_self, show ps.length * 2 + 1 - ps.length * 2 = 1 by omega]
  rfl
theorem out_obj {pb n b nn m : Nat} {bv v vv kv : Value} {w W : World} {F : Addr → Prop} {xs : List Value} {ps : List (Nat × Nat)} {ms : List (List Int × FV)} {a t : ByteArray} {r : Option (FV × Nat)} {mm : Nat} (h : Ob pb n bv v w b nn vv W F kv m xs ps (ms.map Prod.snd)) (hm : m = ps.length) (hl : ms.length = ps.length) (hx : xs = kvc (ms.map Prod.fst) ps) (h0 : 0 < ps.length ∨ kv = nilS)
    (hr : r = some (.obj ms, mm)) (hn : nn ≤ n + mm + 1) (hmm : mm ≤ a.size) (ht : t = cut a mm) {e : Ending} (he : e = .returned (.tuple #[.pointer (some ⟨b, n * 5, none⟩), .string t, .nilIface])) : Out pb n bv v w a 1 r e W := by
  subst hr ht
  obtain ⟨G, h1, h2⟩ := h.rep hm hl hx h0
  exact ⟨nn, vv, h.fine, hn, hmm, b, n * 5, G, he, h1, h2⟩
/-- A cell of the row, to be written. -/
theorem Ob.room {pb n b nn m g c j : Nat} {bv v vv : Value} {w W : World} {F : Addr → Prop} {xs : List Value} {ps : List (Nat × Nat)} {vs : List FV} (h : Ob pb n bv v w b nn vv W F (.slice (some ⟨g, 0, none⟩) m c) m xs ps vs) (hj : j < m * 2) : ∃ y, W.cell? ⟨g, j, none⟩ = some y := by
  rw [h.own.cellAt j hj]
  exact ⟨xs[j]'(by rw [h.own.1]; exact hj), List.getElem?_eq_getElem _⟩
theorem key_str (t : ByteArray) (q : Nat) : strOfNums ((bytesOf t).take q) = t.extract 0 q := by rw [← take_ex, XWords.strOfNums_bytesOf]
theorem snd_snoc (ms : List (List Int × FV)) (k : List Int) (f : FV) : (ms ++ [(k, f)]).map Prod.snd = ms.map Prod.snd ++ [f] := by simp
theorem fst_snoc (ms : List (List Int × FV)) (k : List Int) (f : FV) : (ms ++ [(k, f)]).map Prod.fst = ms.map Prod.fst ++ [k] := by simp
set_option maxHeartbeats 8000000 in
set_option maxRecDepth 100000 in
theorem obj (P : List Int → Prop) (hPd : ∀ l m, P l → P (l.drop m)) (k : Nat) (hV : ∀ j, j < k → VC P j) (pb n : Nat) (bv v : Value) (w : World) (a : ByteArray) (d : Nat) (hP : Pb w pb bv v) (hC : Ca w pb n v) (hn : n + a.size + 1 ≤ 1000000) (hk : 2 * a.size + 2 ≤ k) (ha : P (bytesOf a)) (hd : d ≤ 300) :
    Calls Tryz.prog 121 #[.pointer (some ⟨pb, 1, none⟩), .string a, .int .i64 (d : Int)] w fun e w' => Out pb n bv v w a 1 (objO a k d) e w' := by
  obtain ⟨k, rfl⟩ : ∃ j, k = j + 1 := ⟨k - 1, by omega⟩
  have HP := Aside0.mk hP
  have HC := Aside0.mk hC
  have HV := Aside0.mk hV
  have HNA := Aside0.mk hn
  have HK := Aside0.mk hk
  have HA := Aside0.mk ha
  have HD := Aside0.mk hd
  have HS : Aside0 (a.size ≤ 1000000) := ⟨by omega⟩
  have HN0 : Aside0 (n ≤ 1000000) := ⟨by omega⟩
  obtain ⟨b0, hb0⟩ : ∃ b, b = cut a (nx a 0) := ⟨_, rfl⟩
  have HB0 := Aside0.mk hb0
  have hx := first_bt a b0 _ hb0
  have HA0 : Aside0 (a = cut a 0) := ⟨(cut_zero a).symm⟩
  clear hP hC hV hn hk ha hd
  by_cases h0 : b0.size = 0
  · have HN : Aside0 (objO a (k + 1) d = none) := ⟨by
        unfold objO
        rw [if_neg (by rw [cut_out hb0 h0]; decide), oP_succ, if_neg (by rw [cut_out hb0 h0]; decide)]; rfl⟩
    have e0 : ((b0.size : Int) == 0) = true := beq_iff_eq.mpr (by omega)
    clear h0 hb0 hx
    go_enter Tryz.func121, Tryz.ntmps121
    go_wp2_with (first
      | (go_at_call 68; (with_reducible refine (skipTo a _ b0 0 HS.out HA0.out HB0.out _).mono ?_); rintro e w' ⟨rfl, rfl⟩)
      | (go_at_call 72; (with_reducible refine (errNew _ _).mono ?_); rintro e w' ⟨⟨T, u, rfl⟩, hb⟩))
    go_ret3
    exact out_none HN.out n v ((Fine.refl HP.out HC.out).below hb) (by omega) _ T u rfl
  · have e0 : ((b0.size : Int) == 0) = false := beq_eq_false_iff_ne.mpr (by omega)
    have hz : 0 < b0.size := by omega
    have HSZ : Aside0 (nx a 0 + 1 ≤ a.size) := ⟨by rw [hb0, cut_size] at hz; omega⟩
    clear h0
    by_cases c : bt a (nx a 0 : Int) = 125
    · have HN : Aside0 (objO a (k + 1) d = some (.obj [], nx a 0 + 1)) := ⟨by unfold objO; rw [if_pos c]⟩
      have e1 : (bt a (nx a 0 : Int) == 125) = true := beq_iff_eq.mpr c
      have HX : Aside0 (b0.extract 1 b0.size = cut a (nx a 0 + 1)) := ⟨by rw [hb0]; exact cut_cut a _ 1⟩
      clear hb0 c
      go_enter Tryz.func121, Tryz.ntmps121
      go_wp2_with (first
        | (go_at_call 68; (with_reducible refine (skipTo a _ b0 0 HS.out HA0.out HB0.out _).mono ?_); rintro e w' ⟨rfl, rfl⟩)
        | (go_at_call 124; (with_reducible refine (getValue _ pb n bv v HP.out HC.out HN0.out).mono ?_); rintro e w1 ⟨b, v1, rfl, hg⟩; have HGT := Aside0.mk hg; have hz4 := hg.zero 4 (by omega); have hfr := free_of hg.blt; clear hg)
        | (go_at_call 151; (refine (objReset _ b (n * 5) (by exact (World.cell?_setCell_other _ _ _ _ (fun e => by injection e with _ e _; omega)).trans (HGT.out.zero 0 (by omega))) (by exact (World.cell?_setCell_other _ _ _ _ (fun e => by injection e with _ e _; omega)).trans (HGT.out.zero 1 (by omega))) (by exact fun j => (World.frozen?_setCell _ _ _ _).trans (free_of HGT.out.blt j))).mono ?_); rintro e w4 ⟨rfl, hw4⟩; have HOB : Aside0 (Ob pb n bv v w b (n + 1) v1 w4 (fun _ => False) nilS 0 [] [] []) := ⟨by rw [hw4]; exact Ob.start HGT.out⟩; clear hw4 hz4 hfr))
      go_quiet (fail)
      go_wp2
      go_ret3
      exact (out_obj (ms := []) HOB.out rfl rfl rfl (.inr rfl) HN.out (by omega) HSZ.out HX.out rfl).same rfl ⟨rfl, rfl, rfl⟩
    · have e1 : (bt a (nx a 0 : Int) == 125) = false := beq_eq_false_iff_ne.mpr c
      have HE : Aside0 (objO a (k + 1) d = (oP a (k + 1) d (nx a 0)).map fun r => (.obj ([] ++ r.1), r.2)) := ⟨by unfold objO; rw [if_neg c, oP_nx]; rfl⟩
      clear hb0 c
      go_enter Tryz.func121, Tryz.ntmps121
      go_wp2_with (first
        | (go_at_call 68; (with_reducible refine (skipTo a _ b0 0 HS.out HA0.out HB0.out _).mono ?_); rintro e w' ⟨rfl, rfl⟩)
        | (go_at_call 124; (with_reducible refine (getValue _ pb n bv v HP.out HC.out HN0.out).mono ?_); rintro e w1 ⟨b, v1, rfl, hg⟩; have HGT := Aside0.mk hg; have hz4 := hg.zero 4 (by omega); have hfr := free_of hg.blt; clear hg)
        | (go_at_call 151; (refine (objReset _ b (n * 5) (by exact (World.cell?_setCell_other _ _ _ _ (fun e => by injection e with _ e _; omega)).trans (HGT.out.zero 0 (by omega))) (by exact (World.cell?_setCell_other _ _ _ _ (fun e => by injection e with _ e _; omega)).trans (HGT.out.zero 1 (by omega))) (by exact fun j => (World.frozen?_setCell _ _ _ _).trans (free_of HGT.out.blt j))).mono ?_); rintro e w4 ⟨rfl, hw4⟩; have HOB : Aside0 (Ob pb n bv v w b (n + 1) v1 w4 (fun _ => False) nilS 0 [] [] []) := ⟨by rw [hw4]; exact Ob.start HGT.out⟩; clear hw4 hz4 hfr))
      go_loopg [1] (k + 1) (fun kk x1 wr => ∃ (c : ByteArray) (p nn : Nat) (vv : Value) (F : Addr → Prop) (kv : Value) (ps : List (Nat × Nat)) (ms : List (List Int × FV)), x1 = .string c ∧ Aside0 (c = cut a p ∧ p ≤ a.size ∧ 2 * (a.size - p) + 2 ≤ kk ∧ kk ≤ k + 1 ∧ nn ≤ n + 1 + p ∧ ps.length ≤ p ∧ ms.length = ps.length ∧ objO a (k + 1) d = (oP a kk d p).map fun r => (.obj (ms ++ r.1), r.2)) ∧ Aside0 (Ob pb n bv v w b nn vv wr F kv ps.length (kvc (ms.map Prod.fst) ps) ps (ms.map Prod.snd)))
      case atStart => exact ⟨b0, nx a 0, n + 1, v1, _, _, [], [], rfl, ⟨HB0.out, by have := HSZ.out; omega, by have := HK.out; omega, Nat.le_refl _, by omega, Nat.zero_le _, rfl, HE.out⟩, HOB⟩
      case round =>
        clear HE hx hz e1 e0
        obtain ⟨c, p, nn, vv, F, kv, ps, ms, rfl, HR, HOb⟩ := hrel
        obtain ⟨kk, rfl⟩ : ∃ j, gk = j + 1 := ⟨gk - 1, by have := HR.out.2.2.1; omega⟩
        obtain ⟨q0, hq0⟩ : ∃ q, nx a p = q := ⟨_, rfl⟩
        have hpq : p ≤ q0 := by rw [← hq0]; exact nx_ge a p
        have hqa : q0 ≤ a.size := by rw [← hq0]; exact nx_le a p HR.out.2.1
        obtain ⟨c0, hc0⟩ : ∃ c0, c0 = cut a q0 := ⟨_, rfl⟩
        have HC0Q : Aside0 (c0 = cut a (nx a p)) := ⟨by rw [hq0]; exact hc0⟩
        have hcs0 : c0.size = a.size - q0 := by rw [hc0]; exact cut_size a q0
        have HPL : Aside0 (ps.length ≤ 1000000) := ⟨by have := HR.out.2.2.2.2.2.1; have := HR.out.2.1; have := HS.out; omega⟩
        have HB1 : Aside0 (nn ≤ n + a.size + 1) := ⟨by have := HR.out.2.2.2.2.1; have := HR.out.2.1; omega⟩
        have hx0 := first_bt a c0 _ hc0
        have hlt0 : ps.length * 2 < (ps.length + 1) * 2 := by omega
        have HE := HR.out.2.2.2.2.2.2.2
        rw [oP_succ, hq0] at HE
        replace HE := Aside0.mk HE
        by_cases y : c0.size = 0
        · have HN : Aside0 (objO a (k + 1) d = none) := ⟨by rw [HE.out, if_neg (by rw [cut_out hc0 y]; decide)]; rfl⟩
          have e0 : ((c0.size : Int) == 0) = true := beq_iff_eq.mpr (by omega)
          clear y hx0 hc0 hcs0 hq0 hpq hqa
          go_wp2_with (first
            | (go_at_call 153; (with_reducible refine (getKV _ w.heap.size ps.length b (n * 5) kv _ HOb.out.fine.step.size HPL.out HOb.out.blk HOb.out.cel.1 HOb.out.own).mono ?_); rintro e w2 ⟨g, cc, xs', W', rfl, k1, k2, k3, k4, k5, k6⟩; have HG := Aside0.mk (HOb.out.grow HC.out k1 k3 k4 k5 k6); have HTK := Aside0.mk k2; clear k1 k2 k3 k4 k5 k6)
            | (go_at_call_of 68 c; (with_reducible refine (skipTo a _ c0 p HS.out HR.out.1 HC0Q.out _).mono ?_); rintro e w' ⟨rfl, rfl⟩)
            | (go_at_call 72; (with_reducible refine (errNew _ _).mono ?_); rintro e w' ⟨⟨T, u, rfl⟩, hb⟩))
          go_ret3
          exact out_none HN.out _ _ (HG.out.fine.below hb) (by have := HB1.out; omega) _ T u rfl
        have e0 : ((c0.size : Int) == 0) = false := beq_eq_false_iff_ne.mpr (by omega)
        have hz0 : 0 < c0.size := by omega
        have hq0s : q0 < a.size := by omega
        clear y
        by_cases y : bt a (q0 : Int) ≠ 34
        · have HN : Aside0 (objO a (k + 1) d = none) := ⟨by rw [HE.out, if_neg y]; rfl⟩
          have e1 : (bt a (q0 : Int) != 34) = true := bne_iff_ne.mpr y
          clear y hc0 hcs0 hq0 hpq hqa hq0s
          go_wp2_with (first
            | (go_at_call 153; (with_reducible refine (getKV _ w.heap.size ps.length b (n * 5) kv _ HOb.out.fine.step.size HPL.out HOb.out.blk HOb.out.cel.1 HOb.out.own).mono ?_); rintro e w2 ⟨g, cc, xs', W', rfl, k1, k2, k3, k4, k5, k6⟩; have HG := Aside0.mk (HOb.out.grow HC.out k1 k3 k4 k5 k6); have HTK := Aside0.mk k2; clear k1 k2 k3 k4 k5 k6)
            | (go_at_call_of 68 c; (with_reducible refine (skipTo a _ c0 p HS.out HR.out.1 HC0Q.out _).mono ?_); rintro e w' ⟨rfl, rfl⟩)
            | (go_at_call 72; (with_reducible refine (errNew _ _).mono ?_); rintro e w' ⟨⟨T, u, rfl⟩, hb⟩))
          go_ret3
          exact out_none HN.out _ _ (HG.out.fine.below hb) (by have := HB1.out; omega) _ T u rfl
        have y' : bt a (q0 : Int) = 34 := Decidable.not_not.mp y
        have e1 : (bt a (q0 : Int) != 34) = false := bne_eq_false_iff_eq.mpr y'
        rw [if_pos y'] at HE
        clear y y'
        obtain ⟨t, ht⟩ : ∃ t, c0.extract 1 c0.size = t := ⟨_, rfl⟩
        have HT := Aside0.mk ht
        have hta : t = cut a (q0 + 1) := by rw [← ht, hc0]; exact cut_cut a q0 1
        have HTA := Aside0.mk hta
        have hts : t.size ≤ 1000000 := by rw [hta, cut_size]; have := HS.out; omega
        have htb : bytesOf t = D a (q0 + 1) := by rw [hta]; exact cut_bytes a _
        have HKEY0 := Aside0.mk (fun W => rawKeyA t hts W)
        cases hq : Fj.qend (bytesOf t) with
        | none =>
          have HKEY : Aside0 (∀ W, Calls Tryz.prog 155 #[.string t] W fun e w' => (∃ x y T u, e = .returned (.tuple #[.string x, .string y, .iface T u])) ∧ Below W.heap.size W w') := ⟨fun W => (HKEY0.out W).mono fun e w' h => ⟨by have := h.1; rw [hq] at this; exact this, h.2⟩⟩
          have HN : Aside0 (objO a (k + 1) d = none) := ⟨by rw [HE.out, ← htb, hq]; rfl⟩
          clear hq hc0 hcs0 hq0 hpq hqa hq0s ht hta hts htb HKEY0
          go_wp2_with (first
            | (go_at_call 153; (with_reducible refine (getKV _ w.heap.size ps.length b (n * 5) kv _ HOb.out.fine.step.size HPL.out HOb.out.blk HOb.out.cel.1 HOb.out.own).mono ?_); rintro e w2 ⟨g, cc, xs', W', rfl, k1, k2, k3, k4, k5, k6⟩; have HG := Aside0.mk (HOb.out.grow HC.out k1 k3 k4 k5 k6); have HTK := Aside0.mk k2; clear k1 k2 k3 k4 k5 k6)
            | (go_at_call_of 68 c; (with_reducible refine (skipTo a _ c0 p HS.out HR.out.1 HC0Q.out _).mono ?_); rintro e w' ⟨rfl, rfl⟩)
            | (go_at_call 155; go_loud (rw [HT.out]); (with_reducible refine (HKEY.out _).mono ?_); rintro e w3 ⟨⟨x3, y3, T3, u3, rfl⟩, hb3⟩; have HG3 := Aside0.mk (HG.out.below HC.out hb3); obtain ⟨y0, hy0⟩ := HG3.out.room (j := ps.length * 2) (by omega); have hfr := HG3.out.own.frozenAt; have HG4 := Aside0.mk (HG3.out.store (j := ps.length * 2) (.string x3)); clear hb3)
            | (go_at_call 72; (with_reducible refine (errNew _ _).mono ?_); rintro e w' ⟨⟨T, u, rfl⟩, hb⟩))
          go_ret3
          exact out_none HN.out _ _ (HG4.out.fine.below hb) (by have := HB1.out; omega) _ T u rfl
        | some q =>
          obtain ⟨kk0, hkk0⟩ : ∃ x, t.extract 0 q = x := ⟨_, rfl⟩
          obtain ⟨r0, hr0⟩ : ∃ x, cut t (q + 1) = x := ⟨_, rfl⟩
          have HKEY : Aside0 (∀ W, Calls Tryz.prog 155 #[.string t] W fun e w' => e = .returned (.tuple #[.string kk0, .string r0, .nilIface]) ∧ Below W.heap.size W w') := ⟨fun W => (HKEY0.out W).mono fun e w' h => ⟨by have := h.1; rw [hq] at this; rw [← hkk0, ← hr0]; exact this, h.2⟩⟩
          have HKS : Aside0 (kk0 = strOfNums ((D a (q0 + 1)).take q)) := ⟨by rw [← hkk0, ← htb, key_str]⟩
          have HR0 : Aside0 (r0 = cut a (q0 + 1 + (q + 1))) := ⟨by rw [← hr0, hta]; exact cut_cut a (q0 + 1) (q + 1)⟩
          rw [← htb, hq] at HE
          simp only [] at HE
          rw [htb] at HE
          obtain ⟨q1, hq1⟩ : ∃ x, nx a (q0 + 1 + (q + 1)) = x := ⟨_, rfl⟩
          have hq1g : q0 + 1 + (q + 1) ≤ q1 := by rw [← hq1]; exact nx_ge a _
          obtain ⟨c1, hc1⟩ : ∃ x, x = cut a q1 := ⟨_, rfl⟩
          have HC1Q : Aside0 (c1 = cut a (nx a (q0 + 1 + (q + 1)))) := ⟨by rw [hq1]; exact hc1⟩
          have hcs1 : c1.size = a.size - q1 := by rw [hc1]; exact cut_size a q1
          have hx1 := first_bt a c1 _ hc1
          rw [hq1] at HE
          clear hq hc0 hcs0 hq0 ht hta hts htb HKEY0 hkk0 hr0 hq1
          by_cases y : c1.size = 0
          · have HN : Aside0 (objO a (k + 1) d = none) := ⟨by rw [HE.out, if_neg (by rw [cut_out hc1 y]; decide)]; rfl⟩
            have e2 : ((c1.size : Int) == 0) = true := beq_iff_eq.mpr (by omega)
            clear y hx1 hc1 hcs1 hpq hqa hq1g hq0s
            go_wp2_with (first
              | (go_at_call 153; (with_reducible refine (getKV _ w.heap.size ps.length b (n * 5) kv _ HOb.out.fine.step.size HPL.out HOb.out.blk HOb.out.cel.1 HOb.out.own).mono ?_); rintro e w2 ⟨g, cc, xs', W', rfl, k1, k2, k3, k4, k5, k6⟩; have HG := Aside0.mk (HOb.out.grow HC.out k1 k3 k4 k5 k6); have HTK := Aside0.mk k2; clear k1 k2 k3 k4 k5 k6)
              | (go_at_call_of 68 c; (with_reducible refine (skipTo a _ c0 p HS.out HR.out.1 HC0Q.out _).mono ?_); rintro e w' ⟨rfl, rfl⟩)
              | (go_at_call 155; go_loud (rw [HT.out]); (with_reducible refine (HKEY.out _).mono ?_); rintro e w3 ⟨rfl, hb3⟩; have HG3 := Aside0.mk (HG.out.below HC.out hb3); obtain ⟨y0, hy0⟩ := HG3.out.room (j := ps.length * 2) (by omega); have hfr := HG3.out.own.frozenAt; have HG4 := Aside0.mk (HG3.out.store (j := ps.length * 2) (.string kk0)); clear hb3)
              | (go_at_call_of 68 r0; (with_reducible refine (skipTo a _ c1 (q0 + 1 + (q + 1)) HS.out HR0.out HC1Q.out _).mono ?_); rintro e w' ⟨rfl, rfl⟩)
              | (go_at_call 72; (with_reducible refine (errNew _ _).mono ?_); rintro e w' ⟨⟨T, u, rfl⟩, hb⟩))
            go_ret3
            exact out_none HN.out _ _ (HG4.out.fine.below hb) (by have := HB1.out; omega) _ T u rfl
          have e2 : ((c1.size : Int) == 0) = false := beq_eq_false_iff_ne.mpr (by omega)
          have hz1 : 0 < c1.size := by omega
          have hq1s : q1 < a.size := by omega
          clear y
          by_cases y : bt a (q1 : Int) ≠ 58
          · have HN : Aside0 (objO a (k + 1) d = none) := ⟨by rw [HE.out, if_neg y]; rfl⟩
            have e3 : (bt a (q1 : Int) != 58) = true := bne_iff_ne.mpr y
            clear y hc1 hcs1 hpq hqa hq1g hq0s hq1s
            go_wp2_with (first
              | (go_at_call 153; (with_reducible refine (getKV _ w.heap.size ps.length b (n * 5) kv _ HOb.out.fine.step.size HPL.out HOb.out.blk HOb.out.cel.1 HOb.out.own).mono ?_); rintro e w2 ⟨g, cc, xs', W', rfl, k1, k2, k3, k4, k5, k6⟩; have HG := Aside0.mk (HOb.out.grow HC.out k1 k3 k4 k5 k6); have HTK := Aside0.mk k2; clear k1 k2 k3 k4 k5 k6)
              | (go_at_call_of 68 c; (with_reducible refine (skipTo a _ c0 p HS.out HR.out.1 HC0Q.out _).mono ?_); rintro e w' ⟨rfl, rfl⟩)
              | (go_at_call 155; go_loud (rw [HT.out]); (with_reducible refine (HKEY.out _).mono ?_); rintro e w3 ⟨rfl, hb3⟩; have HG3 := Aside0.mk (HG.out.below HC.out hb3); obtain ⟨y0, hy0⟩ := HG3.out.room (j := ps.length * 2) (by omega); have hfr := HG3.out.own.frozenAt; have HG4 := Aside0.mk (HG3.out.store (j := ps.length * 2) (.string kk0)); clear hb3)
              | (go_at_call_of 68 r0; (with_reducible refine (skipTo a _ c1 (q0 + 1 + (q + 1)) HS.out HR0.out HC1Q.out _).mono ?_); rintro e w' ⟨rfl, rfl⟩)
              | (go_at_call 72; (with_reducible refine (errNew _ _).mono ?_); rintro e w' ⟨⟨T, u, rfl⟩, hb⟩))
            go_ret3
            exact out_none HN.out _ _ (HG4.out.fine.below hb) (by have := HB1.out; omega) _ T u rfl
          have y' : bt a (q1 : Int) = 58 := Decidable.not_not.mp y
          have e3 : (bt a (q1 : Int) != 58) = false := bne_eq_false_iff_eq.mpr y'
          rw [if_pos y'] at HE
          clear y y'
          have HX1 : Aside0 (c1.extract 1 c1.size = cut a (q1 + 1)) := ⟨by rw [hc1]; exact cut_cut a q1 1⟩
          obtain ⟨q2, hq2⟩ : ∃ x, nx a (q1 + 1) = x := ⟨_, rfl⟩
          have hq2g : q1 + 1 ≤ q2 := by rw [← hq2]; exact nx_ge a _
          have hq2a : q2 ≤ a.size := by rw [← hq2]; exact nx_le a _ (by omega)
          obtain ⟨c2, hc2⟩ : ∃ x, x = cut a q2 := ⟨_, rfl⟩
          have HC2Q : Aside0 (c2 = cut a (nx a (q1 + 1))) := ⟨by rw [hq2]; exact hc2⟩
          have hcs2 : c2.size = a.size - q2 := by rw [hc2]; exact cut_size a q2
          rw [hq2] at HE
          have HVC : Aside0 (∀ W, Pb W pb bv vv → Ca W pb nn vv → Calls Tryz.prog 70 #[.pointer (some ⟨pb, 1, none⟩), .string c2, .int .i64 (d : Int)] W fun e w' => Out pb nn bv vv W c2 0 (pval kk d (bytesOf c2)) e w') := ⟨fun W h1 h2 => HV.out kk (by have := HR.out.2.2.2.1; omega) pb nn bv vv W c2 d h1 h2 (by have := HR.out.2.2.2.2.1; have := HNA.out; omega) (by have := HR.out.2.2.1; omega) (by rw [hc2, cut_bytes]; exact hPd _ _ HA.out) HD.out⟩
          have HBV : Aside0 (nn + c2.size ≤ n + a.size + 1) := ⟨by have := HR.out.2.2.2.2.1; omega⟩
          have hlt1 : ps.length * 2 + 1 < (ps.length + 1) * 2 := by omega
          cases hv : pval kk d (bytesOf c2) with
          | none =>
            have HVV := Aside0.mk hv
            have HN : Aside0 (objO a (k + 1) d = none) := ⟨by
              rw [HE.out]
              have : vP a kk d q2 = none := by unfold vP; rw [hc2, cut_bytes] at hv; rw [hv]; rfl
              rw [this]; rfl⟩
            clear hv hc1 hcs1 hpq hqa hq1g hq0s hq1s hq2 hq2g hq2a hc2 hcs2
            go_wp2_with (first
              | (go_at_call 153; (with_reducible refine (getKV _ w.heap.size ps.length b (n * 5) kv _ HOb.out.fine.step.size HPL.out HOb.out.blk HOb.out.cel.1 HOb.out.own).mono ?_); rintro e w2 ⟨g, cc, xs', W', rfl, k1, k2, k3, k4, k5, k6⟩; have HG := Aside0.mk (HOb.out.grow HC.out k1 k3 k4 k5 k6); have HTK := Aside0.mk k2; clear k1 k2 k3 k4 k5 k6)
              | (go_at_call_of 68 c; (with_reducible refine (skipTo a _ c0 p HS.out HR.out.1 HC0Q.out _).mono ?_); rintro e w' ⟨rfl, rfl⟩)
              | (go_at_call 155; go_loud (rw [HT.out]); (with_reducible refine (HKEY.out _).mono ?_); rintro e w3 ⟨rfl, hb3⟩; have HG3 := Aside0.mk (HG.out.below HC.out hb3); obtain ⟨y0, hy0⟩ := HG3.out.room (j := ps.length * 2) (by omega); have hfr := HG3.out.own.frozenAt; have HG4 := Aside0.mk (HG3.out.store (j := ps.length * 2) (.string kk0)); clear hb3)
              | (go_at_call_of 68 r0; (with_reducible refine (skipTo a _ c1 (q0 + 1 + (q + 1)) HS.out HR0.out HC1Q.out _).mono ?_); rintro e w' ⟨rfl, rfl⟩)
              | (go_at_call_of 68 (c1.extract 1 c1.size); (with_reducible refine (skipTo a _ c2 (q1 + 1) HS.out HX1.out HC2Q.out _).mono ?_); rintro e w' ⟨rfl, rfl⟩)
              | (go_at_call 70; (with_reducible refine (HVC.out _ HG4.out.fine.pbs HG4.out.fine.ca).mono ?_); rintro e w5 ⟨n2, v2, hf, h⟩; rw [HVV.out] at h; obtain ⟨hn2, t5, T5, u5, rfl⟩ := h; have HG5 := Aside0.mk (HG4.out.child HC.out hf); obtain ⟨y1, hy1⟩ := HG5.out.room (j := ps.length * 2 + 1) (by omega); have hfr5 := HG5.out.own.frozenAt; have HG6 := Aside0.mk (HG5.out.store (j := ps.length * 2 + 1) (.pointer none)); have HN2 := Aside0.mk hn2; clear hf hn2)
              | (go_at_call 72; (with_reducible refine (errNew _ _).mono ?_); rintro e w' ⟨⟨T, u, rfl⟩, hb⟩))
            go_ret3
            exact out_none HN.out _ _ (HG6.out.fine.below hb) (by have := HN2.out; have := HBV.out; omega) _ T u rfl
          | some r =>
            obtain ⟨fv, m⟩ := r
            have HVV := Aside0.mk hv
            have hvp : vP a kk d q2 = some (fv, q2 + m) := by unfold vP; rw [hc2, cut_bytes] at hv; rw [hv]; rfl
            obtain ⟨dd, hd⟩ : ∃ x, x = cut a (q2 + m) := ⟨_, rfl⟩
            have HDV : Aside0 (cut c2 m = dd) := ⟨by rw [hc2, hd]; exact cut_cut a q2 m⟩
            have HD0 := Aside0.mk hd
            obtain ⟨z, hzz⟩ : ∃ x, nx a (q2 + m) = x := ⟨_, rfl⟩
            have hrm : q2 + m ≤ z := by rw [← hzz]; exact nx_ge a _
            obtain ⟨f, hf⟩ : ∃ x, x = cut a z := ⟨_, rfl⟩
            have HFQ : Aside0 (f = cut a (nx a (q2 + m))) := ⟨by rw [hzz]; exact hf⟩
            have hxf := first_bt a f _ hf
            have HXF : Aside0 (f.extract 1 f.size = cut a (z + 1)) := ⟨by rw [hf]; exact cut_cut a z 1⟩
            have hfs : f.size = a.size - z := by rw [hf]; exact cut_size a z
            have HF0 := Aside0.mk hf
            rw [hvp] at HE
            simp only [] at HE
            rw [hzz] at HE
            have HNN : Aside0 (nn + m ≤ n + 1 + z ∧ ps.length + 1 ≤ z ∧ kk ≤ k + 1) := ⟨by have := HR.out.2.2.2.2.1; omega, by have := HR.out.2.2.2.2.2.1; omega, by have := HR.out.2.2.2.1; omega⟩
            have HNE : Aside0 (2 * (a.size - (z + 1)) + 2 ≤ kk ∨ a.size ≤ z) := ⟨by have := HR.out.2.2.1; omega⟩
            have HML : Aside0 (ms.length = ps.length) := ⟨HR.out.2.2.2.2.2.2.1⟩
            clear hv hvp hc1 hcs1 hpq hqa hq1g hq0s hq1s hq2 hq2g hq2a hc2 hcs2 hd hzz hf hrm
            by_cases y : f.size = 0
            · have HN : Aside0 (objO a (k + 1) d = none) := ⟨by rw [HE.out, cut_out HF0.out y]; rfl⟩
              have e4 : ((f.size : Int) == 0) = true := beq_iff_eq.mpr (by omega)
              clear y hxf hfs
              go_wp2_with (first
                | (go_at_call 153; (with_reducible refine (getKV _ w.heap.size ps.length b (n * 5) kv _ HOb.out.fine.step.size HPL.out HOb.out.blk HOb.out.cel.1 HOb.out.own).mono ?_); rintro e w2 ⟨g, cc, xs', W', rfl, k1, k2, k3, k4, k5, k6⟩; have HG := Aside0.mk (HOb.out.grow HC.out k1 k3 k4 k5 k6); have HTK := Aside0.mk k2; clear k1 k2 k3 k4 k5 k6)
                | (go_at_call_of 68 c; (with_reducible refine (skipTo a _ c0 p HS.out HR.out.1 HC0Q.out _).mono ?_); rintro e w' ⟨rfl, rfl⟩)
                | (go_at_call 155; go_loud (rw [HT.out]); (with_reducible refine (HKEY.out _).mono ?_); rintro e w3 ⟨rfl, hb3⟩; have HG3 := Aside0.mk (HG.out.below HC.out hb3); obtain ⟨y0, hy0⟩ := HG3.out.room (j := ps.length * 2) (by omega); have hfr := HG3.out.own.frozenAt; have HG4 := Aside0.mk (HG3.out.store (j := ps.length * 2) (.string kk0)); clear hb3)
                | (go_at_call_of 68 r0; (with_reducible refine (skipTo a _ c1 (q0 + 1 + (q + 1)) HS.out HR0.out HC1Q.out _).mono ?_); rintro e w' ⟨rfl, rfl⟩)
                | (go_at_call_of 68 (c1.extract 1 c1.size); (with_reducible refine (skipTo a _ c2 (q1 + 1) HS.out HX1.out HC2Q.out _).mono ?_); rintro e w' ⟨rfl, rfl⟩)
                | (go_at_call_of 68 dd; (with_reducible refine (skipTo a _ f (q2 + m) HS.out HD0.out HFQ.out _).mono ?_); rintro e w' ⟨rfl, rfl⟩)
                | (go_at_call 70; (with_reducible refine (HVC.out _ HG4.out.fine.pbs HG4.out.fine.ca).mono ?_); rintro e w5 ⟨n2, v2, hf, h⟩; rw [HVV.out] at h; obtain ⟨hn2, hm2, b2, o2, G, rfl, hrep, hG⟩ := h; simp only [] at hrep hG hn2 hm2 ⊢; rw [HDV.out]; have HG5 := Aside0.mk (HG4.out.child HC.out hf); obtain ⟨y1, hy1⟩ := HG5.out.room (j := ps.length * 2 + 1) (by omega); have hfr5 := HG5.out.own.frozenAt; have HG6 := Aside0.mk (HG4.out.snoc (j := ps.length * 2 + 1) (p := (b2, o2)) HC.out hf hrep hG); have HN2 := Aside0.mk hn2; have HM2 := Aside0.mk hm2; clear hf hn2 hm2 hrep hG)
                | (go_at_call 72; (with_reducible refine (errNew _ _).mono ?_); rintro e w' ⟨⟨T, u, rfl⟩, hb⟩))
              go_ret3
              exact out_none HN.out _ _ (HG6.out.fine.below hb) (by have := HN2.out; have := HM2.out; have := HBV.out; omega) _ T u rfl
            have e4 : ((f.size : Int) == 0) = false := beq_eq_false_iff_ne.mpr (by omega)
            have hzf : 0 < f.size := by omega
            have HZA : Aside0 (z + 1 ≤ a.size) := ⟨by omega⟩
            have HNE2 : Aside0 (2 * (a.size - (z + 1)) + 2 ≤ kk) := ⟨by have := HNE.out; omega⟩
            clear y hfs
            by_cases y : bt a (z : Int) = 44
            · have e5 : (bt a (z : Int) == 44) = true := beq_iff_eq.mpr y
              have HN : Aside0 (objO a (k + 1) d = (oP a kk d (z + 1)).map fun r => (.obj ((ms ++ [((D a (q0 + 1)).take q, fv)]) ++ r.1), r.2)) := ⟨by rw [HE.out, if_pos y, Option.map_map]; congr 1; funext r; simp⟩
              clear y HE
              go_wp2_with (first
                | (go_at_call 153; (with_reducible refine (getKV _ w.heap.size ps.length b (n * 5) kv _ HOb.out.fine.step.size HPL.out HOb.out.blk HOb.out.cel.1 HOb.out.own).mono ?_); rintro e w2 ⟨g, cc, xs', W', rfl, k1, k2, k3, k4, k5, k6⟩; have HG := Aside0.mk (HOb.out.grow HC.out k1 k3 k4 k5 k6); have HTK := Aside0.mk k2; clear k1 k2 k3 k4 k5 k6)
                | (go_at_call_of 68 c; (with_reducible refine (skipTo a _ c0 p HS.out HR.out.1 HC0Q.out _).mono ?_); rintro e w' ⟨rfl, rfl⟩)
                | (go_at_call 155; go_loud (rw [HT.out]); (with_reducible refine (HKEY.out _).mono ?_); rintro e w3 ⟨rfl, hb3⟩; have HG3 := Aside0.mk (HG.out.below HC.out hb3); obtain ⟨y0, hy0⟩ := HG3.out.room (j := ps.length * 2) (by omega); have hfr := HG3.out.own.frozenAt; have HG4 := Aside0.mk (HG3.out.store (j := ps.length * 2) (.string kk0)); clear hb3)
                | (go_at_call_of 68 r0; (with_reducible refine (skipTo a _ c1 (q0 + 1 + (q + 1)) HS.out HR0.out HC1Q.out _).mono ?_); rintro e w' ⟨rfl, rfl⟩)
                | (go_at_call_of 68 (c1.extract 1 c1.size); (with_reducible refine (skipTo a _ c2 (q1 + 1) HS.out HX1.out HC2Q.out _).mono ?_); rintro e w' ⟨rfl, rfl⟩)
                | (go_at_call_of 68 dd; (with_reducible refine (skipTo a _ f (q2 + m) HS.out HD0.out HFQ.out _).mono ?_); rintro e w' ⟨rfl, rfl⟩)
                | (go_at_call 70; (with_reducible refine (HVC.out _ HG4.out.fine.pbs HG4.out.fine.ca).mono ?_); rintro e w5 ⟨n2, v2, hf, h⟩; rw [HVV.out] at h; obtain ⟨hn2, hm2, b2, o2, G, rfl, hrep, hG⟩ := h; simp only [] at hrep hG hn2 hm2 ⊢; rw [HDV.out]; have HG5 := Aside0.mk (HG4.out.child HC.out hf); obtain ⟨y1, hy1⟩ := HG5.out.room (j := ps.length * 2 + 1) (by omega); have hfr5 := HG5.out.own.frozenAt; have HG6 := Aside0.mk (HG4.out.snoc (j := ps.length * 2 + 1) (p := (b2, o2)) HC.out hf hrep hG); have HN2 := Aside0.mk hn2; have HM2 := Aside0.mk hm2; clear hf hn2 hm2 hrep hG))
              have HXS : Aside0 ((xs'.set (ps.length * 2) (.string kk0)).set (ps.length * 2 + 1) (ptr (b2, o2)) = kvc ((ms ++ [((D a (q0 + 1)).take q, fv)]).map Prod.fst) (ps ++ [(b2, o2)])) := ⟨by rw [HKS.out, fst_snoc]; exact kvc_set _ _ HG.out.own.1 HTK.out (by rw [List.length_map]; exact HML.out)⟩
              have HON : Aside0 (Ob pb n bv v w b n2 v2 _ _ _ (ps ++ [(b2, o2)]).length (kvc ((ms ++ [((D a (q0 + 1)).take q, fv)]).map Prod.fst) (ps ++ [(b2, o2)])) (ps ++ [(b2, o2)]) ((ms ++ [((D a (q0 + 1)).take q, fv)]).map Prod.snd)) := ⟨by have h6 := HG6.out; rw [HXS.out, ← snd_snoc ms ((D a (q0 + 1)).take q) fv] at h6; rw [List.length_append]; exact h6⟩
              go_roundg kk
              case measure => omega
              case rel => exact ⟨_, z + 1, n2, v2, _, _, _, _, rfl, ⟨HXF.out, HZA.out, HNE2.out, HNN.out.2.2, by have := HN2.out; have := HNN.out.1; omega, by have := HNN.out.2.1; simp; omega, by simp [HML.out], HN.out⟩, HON⟩
            have e5 : (bt a (z : Int) == 44) = false := beq_eq_false_iff_ne.mpr y
            by_cases y2 : bt a (z : Int) = 125
            · have e6 : (bt a (z : Int) == 125) = true := beq_iff_eq.mpr y2
              have HN : Aside0 (objO a (k + 1) d = some (.obj (ms ++ [((D a (q0 + 1)).take q, fv)]), z + 1)) := ⟨by rw [HE.out, if_neg y, if_pos y2]; rfl⟩
              clear y y2 HE
              go_wp2_with (first
                | (go_at_call 153; (with_reducible refine (getKV _ w.heap.size ps.length b (n * 5) kv _ HOb.out.fine.step.size HPL.out HOb.out.blk HOb.out.cel.1 HOb.out.own).mono ?_); rintro e w2 ⟨g, cc, xs', W', rfl, k1, k2, k3, k4, k5, k6⟩; have HG := Aside0.mk (HOb.out.grow HC.out k1 k3 k4 k5 k6); have HTK := Aside0.mk k2; clear k1 k2 k3 k4 k5 k6)
                | (go_at_call_of 68 c; (with_reducible refine (skipTo a _ c0 p HS.out HR.out.1 HC0Q.out _).mono ?_); rintro e w' ⟨rfl, rfl⟩)
                | (go_at_call 155; go_loud (rw [HT.out]); (with_reducible refine (HKEY.out _).mono ?_); rintro e w3 ⟨rfl, hb3⟩; have HG3 := Aside0.mk (HG.out.below HC.out hb3); obtain ⟨y0, hy0⟩ := HG3.out.room (j := ps.length * 2) (by omega); have hfr := HG3.out.own.frozenAt; have HG4 := Aside0.mk (HG3.out.store (j := ps.length * 2) (.string kk0)); clear hb3)
                | (go_at_call_of 68 r0; (with_reducible refine (skipTo a _ c1 (q0 + 1 + (q + 1)) HS.out HR0.out HC1Q.out _).mono ?_); rintro e w' ⟨rfl, rfl⟩)
                | (go_at_call_of 68 (c1.extract 1 c1.size); (with_reducible refine (skipTo a _ c2 (q1 + 1) HS.out HX1.out HC2Q.out _).mono ?_); rintro e w' ⟨rfl, rfl⟩)
                | (go_at_call_of 68 dd; (with_reducible refine (skipTo a _ f (q2 + m) HS.out HD0.out HFQ.out _).mono ?_); rintro e w' ⟨rfl, rfl⟩)
                | (go_at_call 70; (with_reducible refine (HVC.out _ HG4.out.fine.pbs HG4.out.fine.ca).mono ?_); rintro e w5 ⟨n2, v2, hf, h⟩; rw [HVV.out] at h; obtain ⟨hn2, hm2, b2, o2, G, rfl, hrep, hG⟩ := h; simp only [] at hrep hG hn2 hm2 ⊢; rw [HDV.out]; have HG5 := Aside0.mk (HG4.out.child HC.out hf); obtain ⟨y1, hy1⟩ := HG5.out.room (j := ps.length * 2 + 1) (by omega); have hfr5 := HG5.out.own.frozenAt; have HG6 := Aside0.mk (HG4.out.snoc (j := ps.length * 2 + 1) (p := (b2, o2)) HC.out hf hrep hG); have HN2 := Aside0.mk hn2; have HM2 := Aside0.mk hm2; clear hf hn2 hm2 hrep hG))
              have HXS : Aside0 ((xs'.set (ps.length * 2) (.string kk0)).set (ps.length * 2 + 1) (ptr (b2, o2)) = kvc ((ms ++ [((D a (q0 + 1)).take q, fv)]).map Prod.fst) (ps ++ [(b2, o2)])) := ⟨by rw [HKS.out, fst_snoc]; exact kvc_set _ _ HG.out.own.1 HTK.out (by rw [List.length_map]; exact HML.out)⟩
              have HON : Aside0 (Ob pb n bv v w b n2 v2 _ _ _ (ps ++ [(b2, o2)]).length (kvc ((ms ++ [((D a (q0 + 1)).take q, fv)]).map Prod.fst) (ps ++ [(b2, o2)])) (ps ++ [(b2, o2)]) ((ms ++ [((D a (q0 + 1)).take q, fv)]).map Prod.snd)) := ⟨by have h6 := HG6.out; rw [HXS.out, ← snd_snoc ms ((D a (q0 + 1)).take q) fv] at h6; rw [List.length_append]; exact h6⟩
              go_quiet (fail)
              go_wp2
              go_ret3
              exact (out_obj HON.out rfl (by simp [HML.out]) rfl (.inl (by simp)) HN.out (by have := HN2.out; have := HNN.out.1; omega) HZA.out HXF.out rfl).same rfl ⟨rfl, rfl, rfl⟩
            · have e6 : (bt a (z : Int) == 125) = false := beq_eq_false_iff_ne.mpr y2
              have HN : Aside0 (objO a (k + 1) d = none) := ⟨by rw [HE.out, if_neg y, if_neg y2]; rfl⟩
              clear y y2 HE
              go_wp2_with (first
                | (go_at_call 153; (with_reducible refine (getKV _ w.heap.size ps.length b (n * 5) kv _ HOb.out.fine.step.size HPL.out HOb.out.blk HOb.out.cel.1 HOb.out.own).mono ?_); rintro e w2 ⟨g, cc, xs', W', rfl, k1, k2, k3, k4, k5, k6⟩; have HG := Aside0.mk (HOb.out.grow HC.out k1 k3 k4 k5 k6); have HTK := Aside0.mk k2; clear k1 k2 k3 k4 k5 k6)
                | (go_at_call_of 68 c; (with_reducible refine (skipTo a _ c0 p HS.out HR.out.1 HC0Q.out _).mono ?_); rintro e w' ⟨rfl, rfl⟩)
                | (go_at_call 155; go_loud (rw [HT.out]); (with_reducible refine (HKEY.out _).mono ?_); rintro e w3 ⟨rfl, hb3⟩; have HG3 := Aside0.mk (HG.out.below HC.out hb3); obtain ⟨y0, hy0⟩ := HG3.out.room (j := ps.length * 2) (by omega); have hfr := HG3.out.own.frozenAt; have HG4 := Aside0.mk (HG3.out.store (j := ps.length * 2) (.string kk0)); clear hb3)
                | (go_at_call_of 68 r0; (with_reducible refine (skipTo a _ c1 (q0 + 1 + (q + 1)) HS.out HR0.out HC1Q.out _).mono ?_); rintro e w' ⟨rfl, rfl⟩)
                | (go_at_call_of 68 (c1.extract 1 c1.size); (with_reducible refine (skipTo a _ c2 (q1 + 1) HS.out HX1.out HC2Q.out _).mono ?_); rintro e w' ⟨rfl, rfl⟩)
                | (go_at_call_of 68 dd; (with_reducible refine (skipTo a _ f (q2 + m) HS.out HD0.out HFQ.out _).mono ?_); rintro e w' ⟨rfl, rfl⟩)
                | (go_at_call 70; (with_reducible refine (HVC.out _ HG4.out.fine.pbs HG4.out.fine.ca).mono ?_); rintro e w5 ⟨n2, v2, hf, h⟩; rw [HVV.out] at h; obtain ⟨hn2, hm2, b2, o2, G, rfl, hrep, hG⟩ := h; simp only [] at hrep hG hn2 hm2 ⊢; rw [HDV.out]; have HG5 := Aside0.mk (HG4.out.child HC.out hf); obtain ⟨y1, hy1⟩ := HG5.out.room (j := ps.length * 2 + 1) (by omega); have hfr5 := HG5.out.own.frozenAt; have HG6 := Aside0.mk (HG4.out.snoc (j := ps.length * 2 + 1) (p := (b2, o2)) HC.out hf hrep hG); have HN2 := Aside0.mk hn2; have HM2 := Aside0.mk hm2; clear hf hn2 hm2 hrep hG)
                | (go_at_call 72; (with_reducible refine (errNew _ _).mono ?_); rintro e w' ⟨⟨T, u, rfl⟩, hb⟩))
              go_ret3
              exact out_none HN.out _ _ (HG6.out.fine.below hb) (by have := HN2.out; have := HM2.out; have := HBV.out; omega) _ T u rfl
end Go.Proofs.YtlhaefblchpjhaaGreatDoor.Fp
end
section
namespace Go.Proofs.YtlhaefblchpjhaaGreatDoor.Fp
open Go.RowKit Go.Proofs.YtlhaefblchpjhaaGreatDoorW.PrintWords Go.Proofs.YtlhaefblchpjhaaGreatDoorW.PrintLast Go.Proofs.YtlhaefblchpjhaaGreatDoorW.PrintMore
open Go.Proofs.YtlhaefblchpjhaaGreatDoor.FjW (cut cut_cut cut_size cut_bytes cut_zero cut_bt bt_out D rd_D rd_D0 D_drop D_len D_nil D_cons ws_at skipWS errNew SaidR)
set_option linter.unusedVariables false
set_option linter.unusedSimpArgs false
theorem pval_obj (k d : Nat) (a : ByteArray) (hz : 0 < a.size) (hd : d < 300) (h : bt a 0 = 123) : pval (k + 1) d (bytesOf a) = (objO (cut a 1) k (d + 1)).map fun r => (r.1, r.2 + 1) := by
  have hne : bytesOf a ≠ [] := fun e => by have := bytesOf_length a; rw [e] at this; simp at this; omega
  rw [pval, if_neg hne, if_neg (by omega), rd_bytesOf, h, if_pos rfl]
  have e1 : (bytesOf a).drop 1 = bytesOf (cut a 1) := (cut_bytes a 1).symm
  have e2 : nx (cut a 1) 0 = Fj.ws (bytesOf (cut a 1)) := Nat.zero_add _
  rw [e1, rd_bytesOf]
  unfold objO
  rw [e2]
  by_cases c : bt (cut a 1) (Fj.ws (bytesOf (cut a 1)) : Int) = 125
  · rw [if_pos c, if_pos c]; rfl
  · rw [if_neg c, if_neg c]
    unfold oP
    show _ = Option.map _ (Option.map _ (Option.map _ (pmems k (d + 1) (bytesOf (cut a 1)))))
    cases pmems k (d + 1) (bytesOf (cut a 1)) with
    | none => rfl
    | some r => simp only [Option.map_some, Nat.zero_add]
theorem pval_str (k d : Nat) (a : ByteArray) (hz : 0 < a.size) (hd : d < 300) (h : bt a 0 = 34) : pval (k + 1) d (bytesOf a) = (Fj.qend (bytesOf (cut a 1))).map fun q => (.str ((bytesOf (cut a 1)).take q), q + 2) := by
  have hne : bytesOf a ≠ [] := fun e => by have := bytesOf_length a; rw [e] at this; simp at this; omega
  rw [pval, if_neg hne, if_neg (by omega), rd_bytesOf, h, if_neg (by decide), if_neg (by decide), if_pos rfl, cut_bytes]
theorem pval_word (k d : Nat) (a : ByteArray) (hz : 0 < a.size) (hd : d < 300) : (bt a 0 = 116 → pval (k + 1) d (bytesOf a) = if Fj.begins [116, 114, 117, 101] (bytesOf a) = true then some (.lit 5, 4) else none) ∧
    (bt a 0 = 102 → pval (k + 1) d (bytesOf a) = if Fj.begins [102, 97, 108, 115, 101] (bytesOf a) = true then some (.lit 6, 5) else none) ∧
    (bt a 0 = 110 → pval (k + 1) d (bytesOf a) = if Fj.begins [110, 117, 108, 108] (bytesOf a) = true then some (.lit 0, 4) else if fold3 (bytesOf a) 110 97 110 = true then some (.num ((bytesOf a).take 3), 3) else none) := by
  have hne : bytesOf a ≠ [] := fun e => by have := bytesOf_length a; rw [e] at this; simp at this; omega
  refine ⟨fun h => ?_, fun h => ?_, fun h => ?_⟩
  · rw [pval, if_neg hne, if_neg (by omega), rd_bytesOf, h, if_neg (by decide), if_neg (by decide), if_neg (by decide), if_pos rfl]
  · rw [pval, if_neg hne, if_neg (by omega), rd_bytesOf, h, if_neg (by decide), if_neg (by decide), if_neg (by decide), if_neg (by decide), if_pos rfl]
  · rw [pval, if_neg hne, if_neg (by omega), rd_bytesOf, h, if_neg (by decide), if_neg (by decide), if_neg (by decide), if_neg (by decide), if_neg (by decide), if_pos rfl]
theorem begins_eq (a : ByteArray) (U : List UInt8) (n : Nat) (hn : U.length = n) : ((a.extract 0 n).toList == U) = Fj.begins (U.map fun b => (b.toNat : Int)) (bytesOf a) := by
  rw [Bool.eq_iff_iff, beq_iff_eq, Base.toList_bytes, take_ex]
  unfold Fj.begins
  rw [beq_iff_eq, List.length_map, hn]
theorem begins_short {l W : List Int} (h : l.length < W.length) : Fj.begins W l = false := by
  unfold Fj.begins
  rw [beq_eq_false_iff_ne]
  intro e
  have := congrArg List.length e
  rw [List.length_take] at this
  omega
theorem cell_in {W : World} {b j : Nat} {arr : Array Value} {T : TypeId} {fz : Nat × Nat} (h : W.heap[b]? = some (.cells arr T fz)) : W.cell? ⟨b, j, none⟩ = arr[j]? := by simp [World.cell?, h]
/-- A word's value, in a box of its own. -/
theorem out_lit {pb n : Nat} {bv v : Value} {w : World} (hP : Pb w pb bv v) (hC : Ca w pb n v) {a t : ByteArray} {k : Int} {r : Option (FV × Nat)} {m : Nat} (hr : r = some (.lit k, m)) (hm : m ≤ a.size) (ht : t = cut a m) {e : Ending} (he : e = .returned (.tuple #[.pointer (some ⟨w.heap.size, 0, none⟩), .string t, .nilIface])) :
    Out pb n bv v w a 0 r e (w.alloc (.cells #[nilS, .bool false, nilS, emptyS, .int .i64 k] TV)) := by
  have g := World.grownBy_alloc w (.cells #[nilS, .bool false, nilS, emptyS, .int .i64 k] TV) none
  have hf := (Fine.refl hP hC).grown g (fun k e => by cases e)
  have hn : (w.alloc (.cells #[nilS, .bool false, nilS, emptyS, .int .i64 k] TV)).heap[w.heap.size]? = some (.cells #[nilS, .bool false, nilS, emptyS, .int .i64 k] TV (0, 0)) := heap_alloc_new w _
  have hs : (w.alloc (.cells #[nilS, .bool false, nilS, emptyS, .int .i64 k] TV)).heap.size = w.heap.size + 1 := by show (w.heap.push _).size = _; rw [Array.size_push]
  refine out_some hr n v hf (by omega) hm ht w.heap.size 0 (fun y => y.spot = none ∧ y.block = w.heap.size) he ?_ ?_
  · exact .lit _ _ _ _ ⟨⟨cell_in hn, cell_in hn, cell_in hn, cell_in hn, cell_in hn⟩, ⟨⟨rfl, rfl⟩, ⟨rfl, rfl⟩, ⟨rfl, rfl⟩, ⟨rfl, rfl⟩, ⟨rfl, rfl⟩⟩, _, hn⟩
  · intro y hy
    refine ⟨.inl (by rw [hy.2]; exact Nat.le_refl _), hy.1, by rw [hs, hy.2]; omega, fun e => ?_, fun e => ?_⟩
    · have := hP.lt; omega
    · have := (hC.lt e.symm).1; omega
set_option maxHeartbeats 8000000 in
set_option maxRecDepth 100000 in
theorem valO (P : List Int → Prop) (hPd : ∀ l m, P l → P (l.drop m)) (k : Nat) (hV : ∀ j, j < k → VC P j) (pb n : Nat) (bv v : Value) (w : World) (a : ByteArray) (d : Nat) (hP : Pb w pb bv v) (hC : Ca w pb n v) (hn : n + a.size ≤ 1000000) (hk : 2 * a.size + 1 ≤ k) (ha : P (bytesOf a)) (hd : d < 300) (hq : bt a 0 = 123) (hz : 0 < a.size) :
    Calls Tryz.prog 70 #[.pointer (some ⟨pb, 1, none⟩), .string a, .int .i64 (d : Int)] w fun e w' => Out pb n bv v w a 0 (pval k d (bytesOf a)) e w' := by
  obtain ⟨k, rfl⟩ : ∃ j, k = j + 1 := ⟨k - 1, by omega⟩
  have e0 : ((a.size : Int) == 0) = false := beq_eq_false_iff_ne.mpr (by omega)
  have hx : ∀ h : 0 < a.size, ((a[0]'h).toNat : Int) = bt a 0 := bt_at a 0
  rw [hq] at hx
  have q1 : decide (300 < (d : Int) + 1) = false := decide_eq_false (by omega)
  have b1 : (d : Int) ≤ 300 := by omega
  have HPV : Aside0 (pval (k + 1) d (bytesOf a) = (objO (cut a 1) k (d + 1)).map fun r => (r.1, r.2 + 1)) := ⟨pval_obj k d a hz hd hq⟩
  obtain ⟨t, ht⟩ : ∃ t, cut a 1 = t := ⟨_, rfl⟩
  have hts : t.size = a.size - 1 := by rw [← ht]; exact cut_size a 1
  have HTS := Aside0.mk hts
  have HA : Aside0 (Calls Tryz.prog 121 #[.pointer (some ⟨pb, 1, none⟩), .string t, .int .i64 ((d : Int) + 1)] w fun e w' => Out pb n bv v w t 1 (objO t k (d + 1)) e w') := ⟨by
    have := obj P hPd k (fun j hj => hV j (by omega)) pb n bv v w t (d + 1) hP hC (by omega) (by omega) (by rw [← ht, cut_bytes]; exact hPd _ _ ha) (by omega)
    rw [show ((d + 1 : Nat) : Int) = (d : Int) + 1 by omega] at this
    exact this⟩
  have HT : Aside0 (a.extract 1 a.size = t) := ⟨ht⟩
  rw [ht] at HPV
  clear hP hC hV hk ha hq hd ht hts
  cases hr : objO t k (d + 1) with
  | none =>
    have HRR := Aside0.mk hr
    have HC1 : Aside0 (pval (k + 1) d (bytesOf a) = none) := ⟨by rw [HPV.out, hr]; rfl⟩
    clear hr
    go_enter Tryz.func70, Tryz.ntmps70
    go_wp2_with (first
      | (go_at_call 121; go_loud (rw [HT.out]); (with_reducible refine HA.out.mono ?_); rintro e w2 ⟨n2, v2, hf, h⟩; rw [HRR.out] at h; obtain ⟨hn2, t2, T2, u2, rfl⟩ := h; have HF2 := Aside0.mk hf; have HN2 := Aside0.mk hn2; clear hf hn2)
      | (go_at_call 72; (with_reducible refine (errNew _ _).mono ?_); rintro e w' ⟨⟨T, u, rfl⟩, hb⟩))
    go_ret3
    exact out_none HC1.out _ _ (HF2.out.below hb) (by have := HN2.out; have := HTS.out; omega) _ T u rfl
  | some r =>
    obtain ⟨fv, m⟩ := r
    have HRR := Aside0.mk hr
    have HC1 : Aside0 (pval (k + 1) d (bytesOf a) = some (fv, m + 1)) := ⟨by rw [HPV.out, hr]; rfl⟩
    clear hr
    go_enter Tryz.func70, Tryz.ntmps70
    go_wp2_with (first
      | (go_at_call 121; go_loud (rw [HT.out]); (with_reducible refine HA.out.mono ?_); rintro e w2 ⟨n2, v2, hf, h⟩; rw [HRR.out] at h; obtain ⟨hn2, hm2, b2, o2, F, rfl, hR, hF⟩ := h; simp only [] at hR hF hn2 hm2 ⊢; have HF2 := Aside0.mk hf; have HN2 := Aside0.mk hn2; have HM2 := Aside0.mk hm2; have HR2 := Aside0.mk hR; have HFF := Aside0.mk hF; clear hf hn2 hm2 hR hF))
    go_ret3
    exact out_some HC1.out n2 v2 HF2.out (by have := HN2.out; omega) (by have := HM2.out; have := HTS.out; omega) (by rw [← HT.out]; exact (cut_cut a 1 m).trans (by rw [Nat.add_comm])) b2 o2 F rfl HR2.out HFF.out
set_option maxHeartbeats 8000000 in
set_option maxRecDepth 100000 in
theorem valS (k : Nat) (pb n : Nat) (bv v : Value) (w : World) (a : ByteArray) (d : Nat) (hP : Pb w pb bv v) (hC : Ca w pb n v) (hn : n + a.size ≤ 1000000) (hd : d < 300) (hq : bt a 0 = 34) (hz : 0 < a.size) :
    Calls Tryz.prog 70 #[.pointer (some ⟨pb, 1, none⟩), .string a, .int .i64 (d : Int)] w fun e w' => Out pb n bv v w a 0 (pval (k + 1) d (bytesOf a)) e w' := by
  have HP := Aside0.mk hP
  have HC := Aside0.mk hC
  have HN0 : Aside0 (n ≤ 1000000) := ⟨by omega⟩
  have e0 : ((a.size : Int) == 0) = false := beq_eq_false_iff_ne.mpr (by omega)
  have hx : ∀ h : 0 < a.size, ((a[0]'h).toNat : Int) = bt a 0 := bt_at a 0
  rw [hq] at hx
  have q1 : decide (300 < (d : Int) + 1) = false := decide_eq_false (by omega)
  have b1 : (d : Int) ≤ 300 := by omega
  have HPV := Aside0.mk (pval_str k d a hz hd hq)
  obtain ⟨t, ht⟩ : ∃ t, cut a 1 = t := ⟨_, rfl⟩
  have hts : t.size = a.size - 1 := by rw [← ht]; exact cut_size a 1
  have HRAW := Aside0.mk (fun W => FjW.raw t (by omega) W)
  have HT : Aside0 (a.extract 1 a.size = t) := ⟨ht⟩
  have HLEN : Aside0 ((bytesOf t).length = t.size) := ⟨bytesOf_length t⟩
  have HQL : Aside0 (∀ q, Fj.qend (bytesOf t) = some q → q < t.size) := ⟨fun q h => by rw [← HLEN.out]; exact Fj.qend_lt _ _ _ (Nat.le_refl _) h⟩
  have HTS := Aside0.mk hts
  rw [ht] at HPV
  clear hP hC hq hd ht hts
  cases hr : Fj.qend (bytesOf t) with
  | none =>
    have HRR := Aside0.mk hr
    have HC1 : Aside0 (pval (k + 1) d (bytesOf a) = none) := ⟨by rw [HPV.out, hr]; rfl⟩
    clear hr
    go_enter Tryz.func70, Tryz.ntmps70
    go_wp2_with (first
      | (go_at_call 123; go_loud (rw [HT.out]); (with_reducible refine (HRAW.out _).mono ?_); rintro e w2 ⟨h, hb2⟩; rw [HRR.out] at h; obtain ⟨x2, y2, T2, u2, rfl⟩ := h; have HF2 := Aside0.mk ((Fine.refl HP.out HC.out).below hb2); clear hb2)
      | (go_at_call 72; (with_reducible refine (errNew _ _).mono ?_); rintro e w' ⟨⟨T, u, rfl⟩, hb⟩))
    go_ret3
    exact out_none HC1.out _ _ (HF2.out.below hb) (by omega) _ T u rfl
  | some q =>
    have HRR := Aside0.mk hr
    have HC1 : Aside0 (pval (k + 1) d (bytesOf a) = some (.str ((bytesOf t).take q), q + 2)) := ⟨by rw [HPV.out, hr]; rfl⟩
    have HM : Aside0 (q + 2 ≤ a.size) := ⟨by have := HQL.out q hr; have := HTS.out; omega⟩
    clear hr
    go_enter Tryz.func70, Tryz.ntmps70
    go_wp2_with (first
      | (go_at_call 123; go_loud (rw [HT.out]); (with_reducible refine (HRAW.out _).mono ?_); rintro e w2 ⟨h, hb2⟩; rw [HRR.out] at h; have h : e = _ := h; subst h; have HF2 := Aside0.mk ((Fine.refl HP.out HC.out).below hb2); clear hb2)
      | (go_at_call 124; (with_reducible refine (getValue _ pb n bv v HF2.out.pbs HF2.out.ca HN0.out).mono ?_); rintro e w1 ⟨b, v1, rfl, hg⟩; have HG := Aside0.mk hg; have hz4 := hg.zero 4 (by omega); have hz3 : ∀ u, (w1.setCell ⟨b, n * 5 + 4, none⟩ u).cell? ⟨b, n * 5 + 3, none⟩ = some emptyS := (fun u => (World.cell?_setCell_other _ _ _ _ (fun e => by injection e with _ e _; omega)).trans (hg.zero 3 (by omega))); have hfr := free_of hg.blt; clear hg))
    go_ret3
    refine Out.pre HC.out HF2.out (out_leaf HG.out HC1.out HM.out (by omega) ?_ (.inl ⟨?_, rfl⟩) rfl)
    · rw [← HT.out]; exact (cut_cut a 1 (q + 1)).trans (by rw [show 1 + (q + 1) = q + 2 by omega])
    · rw [take_ex]
set_option maxHeartbeats 8000000 in
set_option maxRecDepth 100000 in
theorem valT (k : Nat) (pb n : Nat) (bv v : Value) (w : World) (a : ByteArray) (d : Nat) (hP : Pb w pb bv v) (hC : Ca w pb n v) (hn : n + a.size ≤ 1000000) (hd : d < 300) (hq : bt a 0 = 116) (hz : 0 < a.size) :
    Calls Tryz.prog 70 #[.pointer (some ⟨pb, 1, none⟩), .string a, .int .i64 (d : Int)] w fun e w' => Out pb n bv v w a 0 (pval (k + 1) d (bytesOf a)) e w' := by
  have HP := Aside0.mk hP
  have HC := Aside0.mk hC
  have e0 : ((a.size : Int) == 0) = false := beq_eq_false_iff_ne.mpr (by omega)
  have hx : ∀ h : 0 < a.size, ((a[0]'h).toNat : Int) = bt a 0 := bt_at a 0
  rw [hq] at hx
  have q1 : decide (300 < (d : Int) + 1) = false := decide_eq_false (by omega)
  have b1 : (d : Int) ≤ 300 := by omega
  have HPV := Aside0.mk ((pval_word k d a hz hd).1 hq)
  have hb := begins_eq a [116, 114, 117, 101] 4 rfl
  by_cases h4 : a.size < 4
  · have HN : Aside0 (pval (k + 1) d (bytesOf a) = none) := ⟨by rw [HPV.out, begins_short (by rw [bytesOf_length]; exact h4)]; rfl⟩
    clear hb hP hC hq hd
    go_enter Tryz.func70, Tryz.ntmps70
    go_wp2_with (go_at_call 72; (with_reducible refine (errNew _ _).mono ?_); rintro e w' ⟨⟨T, u, rfl⟩, hb⟩)
    go_ret3
    exact out_none HN.out n v ((Fine.refl HP.out HC.out).below hb) (by omega) _ T u rfl
  · have h4' : 4 ≤ a.size := by omega
    clear h4 hP hC hq hd
    cases hB : Fj.begins [116, 114, 117, 101] (bytesOf a) with
    | true =>
      have HN : Aside0 (pval (k + 1) d (bytesOf a) = some (.lit 5, 4)) := ⟨by rw [HPV.out, if_pos hB]⟩
      have e1 : ((a.extract 0 4).toList == [116, 114, 117, 101]) = true := hb.trans hB
      have q2 : (4 : Int) ≤ (a.size : Int) := by omega
      clear hB hb
      go_enter Tryz.func70, Tryz.ntmps70
      go_wp2
      go_region
      all_goals
        go_wp2
        go_ret3
        exact (out_lit HP.out HC.out HN.out h4' rfl rfl).same rfl ⟨rfl, rfl, rfl⟩
    | false =>
      have HN : Aside0 (pval (k + 1) d (bytesOf a) = none) := ⟨by rw [HPV.out, if_neg (by rw [hB]; decide)]⟩
      have e1 : ((a.extract 0 4).toList == [116, 114, 117, 101]) = false := hb.trans hB
      clear hB hb
      go_enter Tryz.func70, Tryz.ntmps70
      go_wp2_with (go_at_call 72; (with_reducible refine (errNew _ _).mono ?_); rintro e w' ⟨⟨T, u, rfl⟩, hb⟩)
      go_ret3
      exact out_none HN.out n v ((Fine.refl HP.out HC.out).below hb) (by omega) _ T u rfl
set_option maxHeartbeats 8000000 in
set_option maxRecDepth 100000 in
theorem valF (k : Nat) (pb n : Nat) (bv v : Value) (w : World) (a : ByteArray) (d : Nat) (hP : Pb w pb bv v) (hC : Ca w pb n v) (hn : n + a.size ≤ 1000000) (hd : d < 300) (hq : bt a 0 = 102) (hz : 0 < a.size) :
    Calls Tryz.prog 70 #[.pointer (some ⟨pb, 1, none⟩), .string a, .int .i64 (d : Int)] w fun e w' => Out pb n bv v w a 0 (pval (k + 1) d (bytesOf a)) e w' := by
  have HP := Aside0.mk hP
  have HC := Aside0.mk hC
  have e0 : ((a.size : Int) == 0) = false := beq_eq_false_iff_ne.mpr (by omega)
  have hx : ∀ h : 0 < a.size, ((a[0]'h).toNat : Int) = bt a 0 := bt_at a 0
  rw [hq] at hx
  have q1 : decide (300 < (d : Int) + 1) = false := decide_eq_false (by omega)
  have b1 : (d : Int) ≤ 300 := by omega
  have HPV := Aside0.mk ((pval_word k d a hz hd).2.1 hq)
  have hb := begins_eq a [102, 97, 108, 115, 101] 5 rfl
  by_cases h4 : a.size < 5
  · have HN : Aside0 (pval (k + 1) d (bytesOf a) = none) := ⟨by rw [HPV.out, begins_short (by rw [bytesOf_length]; exact h4)]; rfl⟩
    clear hb hP hC hq hd
    go_enter Tryz.func70, Tryz.ntmps70
    go_wp2_with (go_at_call 72; (with_reducible refine (errNew _ _).mono ?_); rintro e w' ⟨⟨T, u, rfl⟩, hb⟩)
    go_ret3
    exact out_none HN.out n v ((Fine.refl HP.out HC.out).below hb) (by omega) _ T u rfl
  · have h4' : 5 ≤ a.size := by omega
    clear h4 hP hC hq hd
    cases hB : Fj.begins [102, 97, 108, 115, 101] (bytesOf a) with
    | true =>
      have HN : Aside0 (pval (k + 1) d (bytesOf a) = some (.lit 6, 5)) := ⟨by rw [HPV.out, if_pos hB]⟩
      have e1 : ((a.extract 0 5).toList == [102, 97, 108, 115, 101]) = true := hb.trans hB
      have q2 : (5 : Int) ≤ (a.size : Int) := by omega
      clear hB hb
      go_enter Tryz.func70, Tryz.ntmps70
      go_wp2
      go_region
      all_goals
        go_wp2
        go_ret3
        exact (out_lit HP.out HC.out HN.out h4' rfl rfl).same rfl ⟨rfl, rfl, rfl⟩
    | false =>
      have HN : Aside0 (pval (k + 1) d (bytesOf a) = none) := ⟨by rw [HPV.out, if_neg (by rw [hB]; decide)]⟩
      have e1 : ((a.extract 0 5).toList == [102, 97, 108, 115, 101]) = false := hb.trans hB
      clear hB hb
      go_enter Tryz.func70, Tryz.ntmps70
      go_wp2_with (go_at_call 72; (with_reducible refine (errNew _ _).mono ?_); rintro e w' ⟨⟨T, u, rfl⟩, hb⟩)
      go_ret3
      exact out_none HN.out n v ((Fine.refl HP.out HC.out).below hb) (by omega) _ T u rfl
end Go.Proofs.YtlhaefblchpjhaaGreatDoor.Fp
end
section
namespace Go.Proofs.YtlhaefblchpjhaaGreatDoor.Fp
open Go.RowKit Go.Proofs.YtlhaefblchpjhaaGreatDoorW.PrintWords Go.Proofs.YtlhaefblchpjhaaGreatDoorW.PrintLast Go.Proofs.YtlhaefblchpjhaaGreatDoorW.PrintMore
open Go.Proofs.YtlhaefblchpjhaaGreatDoor.FjW (cut cut_cut cut_size cut_bytes cut_zero cut_bt bt_out D rd_D rd_D0 D_drop D_len D_nil D_cons ws_at skipWS errNew SaidR)
set_option linter.unusedVariables false
set_option linter.unusedSimpArgs false
set_option maxHeartbeats 8000000 in
set_option maxRecDepth 100000 in
theorem valN (k : Nat) (pb n : Nat) (bv v : Value) (w : World) (a : ByteArray) (d : Nat) (hP : Pb w pb bv v) (hC : Ca w pb n v) (hn : n + a.size ≤ 1000000) (hd : d < 300) (hq : bt a 0 = 110) (hz : 0 < a.size) :
    Calls Tryz.prog 70 #[.pointer (some ⟨pb, 1, none⟩), .string a, .int .i64 (d : Int)] w fun e w' => Out pb n bv v w a 0 (pval (k + 1) d (bytesOf a)) e w' := by
  have HP := Aside0.mk hP
  have HC := Aside0.mk hC
  have HN0 : Aside0 (n ≤ 1000000) := ⟨by omega⟩
  have e0 : ((a.size : Int) == 0) = false := beq_eq_false_iff_ne.mpr (by omega)
  have hx : ∀ h : 0 < a.size, ((a[0]'h).toNat : Int) = bt a 0 := bt_at a 0
  rw [hq] at hx
  have q1 : decide (300 < (d : Int) + 1) = false := decide_eq_false (by omega)
  have b1 : (d : Int) ≤ 300 := by omega
  have HPV := Aside0.mk ((pval_word k d a hz hd).2.2 hq)
  have HB := Aside0.mk (begins_eq a [110, 117, 108, 108] 4 rfl)
  clear hP hC hq hd
  by_cases h3 : a.size < 3
  · have HN : Aside0 (pval (k + 1) d (bytesOf a) = none) := ⟨by
      rw [HPV.out, begins_short (by rw [bytesOf_length]; exact Nat.lt_of_lt_of_le h3 (by decide)), if_neg (by decide), if_neg]
      unfold fold3
      rw [decide_eq_false (by rw [bytesOf_length]; omega), Bool.false_and]
      decide⟩
    go_enter Tryz.func70, Tryz.ntmps70
    go_wp2_with (go_at_call 72; (with_reducible refine (errNew _ _).mono ?_); rintro e w' ⟨⟨T, u, rfl⟩, hb⟩)
    go_ret3
    exact out_none HN.out n v ((Fine.refl HP.out HC.out).below hb) (by omega) _ T u rfl
  · have h3' : 3 ≤ a.size := by omega
    have q3 : (3 : Int) ≤ (a.size : Int) := by omega
    have HZ : Aside0 (∀ W, Calls Tryz.prog 125 #[.string (a.extract 0 3), .string ⟨#[110, 97, 110]⟩] W fun e w' => e = .returned (.bool (fold3 (bytesOf a) 110 97 110)) ∧ W = w') := ⟨fun W => zzw a 0 (by omega) 110 97 110 _ rfl W⟩
    clear h3
    have hbr : (4 ≤ a.size ∧ Fj.begins [110, 117, 108, 108] (bytesOf a) = true) ∨ (Fj.begins [110, 117, 108, 108] (bytesOf a) = false ∧ (a.size = 3 ∨ (4 ≤ a.size ∧ ((a.extract 0 4).toList == [110, 117, 108, 108]) = false))) := by
      by_cases h4 : a.size < 4
      · exact .inr ⟨begins_short (by rw [bytesOf_length]; exact h4), .inl (by omega)⟩
      · cases hB : Fj.begins [110, 117, 108, 108] (bytesOf a) with
        | true => exact .inl ⟨by omega, rfl⟩
        | false => exact .inr ⟨rfl, .inr ⟨by omega, HB.out.trans hB⟩⟩
    rcases hbr with ⟨h4, hB⟩ | ⟨hB, hbr⟩
    · have HN : Aside0 (pval (k + 1) d (bytesOf a) = some (.lit 0, 4)) := ⟨by rw [HPV.out, if_pos hB]⟩
      have e1 : ((a.extract 0 4).toList == [110, 117, 108, 108]) = true := HB.out.trans hB
      have q2 : (4 : Int) ≤ (a.size : Int) := by omega
      clear hB
      go_enter Tryz.func70, Tryz.ntmps70
      go_wp2
      go_region
      all_goals
        go_wp2
        go_ret3
        exact (out_lit HP.out HC.out HN.out h4 rfl rfl).same rfl ⟨rfl, rfl, rfl⟩
    · cases hf : fold3 (bytesOf a) 110 97 110 with
      | true =>
        have HN : Aside0 (pval (k + 1) d (bytesOf a) = some (.num ((bytesOf a).take 3), 3)) := ⟨by rw [HPV.out, hB, if_neg (by decide), if_pos hf]⟩
        have HF := Aside0.mk hf
        clear hB hf
        rcases hbr with h4 | ⟨h4, e1⟩
        all_goals
          go_enter Tryz.func70, Tryz.ntmps70
          go_wp2_with (first
            | (go_at_call 125; (with_reducible refine (HZ.out _).mono ?_); rintro e w2 ⟨rfl, rfl⟩; rw [HF.out])
            | (go_at_call 124; (with_reducible refine (getValue _ pb n bv v HP.out HC.out HN0.out).mono ?_); rintro e w1 ⟨b, v1, rfl, hg⟩; have HG := Aside0.mk hg; have hz4 := hg.zero 4 (by omega); have hz3 : ∀ u, (w1.setCell ⟨b, n * 5 + 4, none⟩ u).cell? ⟨b, n * 5 + 3, none⟩ = some emptyS := (fun u => (World.cell?_setCell_other _ _ _ _ (fun e => by injection e with _ e _; omega)).trans (hg.zero 3 (by omega))); have hfr := free_of hg.blt; clear hg))
          go_quiet (fail)
          go_wp2
          go_ret3
          refine (out_leaf HG.out HN.out h3' (by omega) ?ht (.inr ⟨?hx, rfl⟩) rfl).same rfl ⟨rfl, rfl, rfl⟩
          case ht => first | rfl | exact (FjW.cut_end a 3 (by omega)).symm
          case hx => rw [take_ex]
      | false =>
        have HN : Aside0 (pval (k + 1) d (bytesOf a) = none) := ⟨by rw [HPV.out, hB, if_neg (by decide), if_neg (by rw [hf]; decide)]⟩
        have HF := Aside0.mk hf
        clear hB hf
        rcases hbr with h4 | ⟨h4, e1⟩
        all_goals
          go_enter Tryz.func70, Tryz.ntmps70
          go_wp2_with (first
            | (go_at_call 125; (with_reducible refine (HZ.out _).mono ?_); rintro e w2 ⟨rfl, rfl⟩; rw [HF.out])
            | (go_at_call 72; (with_reducible refine (errNew _ _).mono ?_); rintro e w' ⟨⟨T, u, rfl⟩, hb⟩))
          go_ret3
          exact out_none HN.out n v ((Fine.refl HP.out HC.out).below hb) (by omega) _ T u rfl
/-- Every text. -/
def All (_ : List Int) : Prop := True
set_option maxHeartbeats 8000000 in
set_option maxRecDepth 100000 in
theorem valDeep (k : Nat) (pb n : Nat) (bv v : Value) (w : World) (a : ByteArray) (hP : Pb w pb bv v) (hC : Ca w pb n v) (hz : 0 < a.size) (hs : n + a.size ≤ 1000000) :
    Calls Tryz.prog 70 #[.pointer (some ⟨pb, 1, none⟩), .string a, .int .i64 ((300 : Nat) : Int)] w fun e w' => Out pb n bv v w a 0 (pval (k + 1) 300 (bytesOf a)) e w' := by
  have HP := Aside0.mk hP
  have HC := Aside0.mk hC
  have e0 : ((a.size : Int) == 0) = false := beq_eq_false_iff_ne.mpr (by omega)
  have HC1 : Aside0 (pval (k + 1) 300 (bytesOf a) = none) := ⟨by
    have hne : bytesOf a ≠ [] := fun e => by have := bytesOf_length a; rw [e] at this; simp at this; omega
    rw [pval, if_neg hne, if_pos (by omega)]⟩
  clear hP hC
  go_enter Tryz.func70, Tryz.ntmps70
  go_wp2_with (first | (go_at_call 72; (with_reducible refine (errNew _ _).mono ?_); rintro e w' ⟨⟨T, u, rfl⟩, hb⟩))
  go_ret3
  exact out_none HC1.out n v ((Fine.refl HP.out HC.out).below hb) (by omega) _ T u rfl
theorem valA (k : Nat) (hV : ∀ j, j < k → VC All j) : VC All k := by
  intro pb n bv v w a d hP hC hn hk ha hd
  obtain ⟨k, rfl⟩ : ∃ j, k = j + 1 := ⟨k - 1, by omega⟩
  by_cases hz : a.size = 0
  · have hb : bt a 0 = 0 := bt_out a 0 (by omega)
    exact valP All (fun _ _ h => h) (k + 1) hV pb n bv v w a d hP hC hn hk ha hd (by rw [hb]; decide)
  have hz : 0 < a.size := by omega
  by_cases hdd : d = 300
  · subst hdd
    exact valDeep k pb n bv v w a hP hC hz hn
  have hd' : d < 300 := by omega
  by_cases c1 : bt a 0 = 123
  · exact valO All (fun _ _ h => h) (k + 1) hV pb n bv v w a d hP hC hn hk ha hd' c1 hz
  by_cases c2 : bt a 0 = 34
  · exact valS k pb n bv v w a d hP hC hn hd' c2 hz
  by_cases c3 : bt a 0 = 116
  · exact valT k pb n bv v w a d hP hC hn hd' c3 hz
  by_cases c4 : bt a 0 = 102
  · exact valF k pb n bv v w a d hP hC hn hd' c4 hz
  by_cases c5 : bt a 0 = 110
  · exact valN k pb n bv v w a d hP hC hn hd' c5 hz
  exact valP All (fun _ _ h => h) (k + 1) hV pb n bv v w a d hP hC hn hk ha hd ⟨c1, c2, c3, c4, c5⟩
theorem vcA (k : Nat) : VC All k := by
  induction k using Nat.strongRecOn with
  | _ k ih => exact valA k ih
end Go.Proofs.YtlhaefblchpjhaaGreatDoor.Fp
end
section
namespace Go.Proofs.YtlhaefblchpjhaaGreatDoor.Fp
open Go.RowKit Go.Proofs.YtlhaefblchpjhaaGreatDoorW.PrintWords Go.Proofs.YtlhaefblchpjhaaGreatDoorW.PrintLast Go.Proofs.YtlhaefblchpjhaaGreatDoorW.PrintMore
set_option linter.unusedVariables false
set_option linter.unusedSimpArgs false
/-- Cells are stored one by one, ahead of the row's frozen range. -/
theorem run_storeCells_atL (P : Program) (g o : Nat) (t : TypeId) (fz : Nat × Nat) : ∀ (vs : List Value) (i : Nat) (cur : Array Value) (w : World), w.heap[g]? = some (.cells cur t fz) → o + i + vs.length ≤ fz.1 → o + i + vs.length ≤ cur.size → (∀ v ∈ vs, v.oneCell' = true) →
    (storeCells ⟨g, o, none⟩ vs i).run P w = .ok () (w.setRow g (cur.toList.take (o + i) ++ vs ++ cur.toList.drop (o + i + vs.length)).toArray)
  | [], i, cur, w, hg, _, _, _ => by
    simp only [storeCells, List.append_nil, List.length_nil, Nat.add_zero, List.take_append_drop, Array.toArray_toList]
    rw [setRow_self w g cur t fz hg]
    rfl
  | v :: rest, i, cur, w, hg, hfz, hl, h1 => by
    have hi : o + i < cur.size := by simp at hl; omega
    have hadd : (⟨g, o, none⟩ : Addr).add i = ⟨g, o + i, none⟩ := by unfold Addr.add; split <;> simp_all
    have hcell : w.cell? ⟨g, o + i, none⟩ = some cur[o + i] := by simp [World.cell?, hg, hi]
    have hfro : w.frozen? ⟨g, o + i, none⟩ = false := by
      obtain ⟨lo, hi'⟩ := fz
      simp only [World.frozen?, hg, Bool.and_eq_false_iff, decide_eq_false_iff_not]
      left
      simp at hfz
      omega
    have hst : (store ((⟨g, o, none⟩ : Addr).add i) v).run P w = .ok () (w.setRow g (cur.setIfInBounds (o + i) v)) := by
      rw [hadd, run_store P w _ v _ (h1 v (by simp)), hcell]
      simp [hfro, setCell_eq_setRow w g (o + i) cur t fz v hg]
    have ih := run_storeCells_atL P g o t fz rest (i + 1) (cur.setIfInBounds (o + i) v) (w.setRow g (cur.setIfInBounds (o + i) v)) (setRow_heap w g cur _ t _ hg) (by simp at hfz ⊢; omega) (by simp at hl ⊢; omega) (fun x hx => h1 x (by simp [hx]))
    simp only [storeCells, Sem.run_bind, hst, Result.andThen_ok, ih, setRow_setRow]
    congr 3
    have e := list_seg_step cur.toList (o + i) v rest (by simp at hl ⊢; omega)
    simpa [Array.toList_setIfInBounds, Nat.add_assoc] using e
/-- Block g holds the bytes o, and room for cap in all; it is new since w. -/
structure UR (w W : World) (g cap : Nat) (o : List Int) : Prop where
  blk : ∃ cur : Array Value, W.heap[g]? = some (.cells cur 5 (cap, cap + 1)) ∧ cur.size = cap ∧ cur.toList.take o.length = nums .u8 o
  room : o.length ≤ cap
  bel : Below w.heap.size w W
  ge : w.heap.size ≤ g
theorem UR.below {w W W' : World} {g cap : Nat} {o : List Int} (h : UR w W g cap o) (hb : Below W.heap.size W W') : UR w W' g cap o := by
  obtain ⟨cur, h1, h2, h3⟩ := h.blk
  exact ⟨⟨cur, (hb.block _ (heap_lt h1)).trans h1, h2, h3⟩, h.room, h.bel.trans (hb.mono h.bel.size), h.ge⟩
theorem UR.alloc {w W : World} {g cap : Nat} {o : List Int} (h : UR w W g cap o) (ob : Obj) : UR w (W.alloc ob) g cap o := h.below (below_alloc (Below.refl _ _) ob)
/-- append of a text. -/
theorem wp_ustr {ops : Array Oper} {rest : List Oper} {oo : Oper} {a : Act} {Q : Exit → Act → World → Prop} (w W : World) (g cap : Nat) (o : List Int) (x : ByteArray) (hU : UR w W g cap o) (hr : o.length + x.size ≤ cap) (hgd : oo.guard = none) (sl y : Operand)
    (ho : oo.op = .call { callee := .builtin .append, args := #[sl, y], argTypes := #[61, 9] }) (hs : a.eval sl = .slice (some ⟨g, 0, none⟩) o.length cap) (hy : a.eval y = .string x)
    (h : ∀ w', UR w w' g cap (o ++ bytesOf x) → wpList Tryz.prog ops Q rest (a.put oo.dst (.slice (some ⟨g, 0, none⟩) (o.length + x.size) cap)) w') :
    wpList Tryz.prog ops Q (oo :: rest) a W := by
  obtain ⟨i0, hi, hz, hsz, hby⟩ := info8
  obtain ⟨cur, h1, h2, h3⟩ := hU.blk
  have hf := Lib.run_firstCells_string (P := Tryz.prog) W 1 x
  have hst := run_storeCells_atL Tryz.prog g o.length 5 (cap, cap + 1) (Lib.strCells x) 0 cur W h1 (by simpa [Lib.strCells_length] using hr) (by rw [h2]; simpa [Lib.strCells_length] using hr) (Lib.strCells_oneCell x)
  simp only [Nat.add_zero, Lib.strCells_length] at hst
  have hrun : (Builtin.append_ #[61, 9] oo.type #[.slice (some ⟨g, 0, none⟩) o.length cap, .string x]).run Tryz.prog W = .ok (.slice (some ⟨g, 0, none⟩) (o.length + x.size) cap) (W.setRow g (cur.toList.take o.length ++ Lib.strCells x ++ cur.toList.drop (o.length + x.size)).toArray) := by
    simp [Builtin.append_, run_underlying Tryz.underlying61, run_underlying Tryz.underlying9, sizeOf, typeInfo, hi, hsz, Builtin.lenOf, hr, hf, Addr.add_lit, hst]
  refine Lib.wpList_append_run _ hgd sl y _ _ ho _ _ hs hy _ _ hrun (h _ ⟨⟨_, setRow_heap W g cur _ _ _ h1, ?_, ?_⟩, ?_, ?_, hU.ge⟩)
  · simp only [List.size_toArray, List.length_append, List.length_take, List.length_drop, Array.length_toList, Lib.strCells_length, h2]
    omega
  · have e : (nums IntKind.u8 o ++ Lib.strCells x).length = (o ++ bytesOf x).length := by simp [nums, Lib.strCells_length, bytesOf_length]
    rw [List.toList_toArray, h3, ← e, List.take_left, strCells_nums]
    simp [nums]
  · rw [List.length_append, bytesOf_length]; exact hr
  · exact ⟨hU.bel.os, hU.bel.tape, hU.bel.output, by simpa using hU.bel.size, fun k hk => (setRow_other W g k _ (by have := hU.ge; omega)).trans (hU.bel.block k hk)⟩
/-- append of one byte or two. -/
theorem wp_ubytes {ops : Array Oper} {rest : List Oper} {oo : Oper} {a : Act} {Q : Exit → Act → World → Prop} (w W : World) (g cap : Nat) (o : List Int) (cs : List Int) (hU : UR w W g cap o) (hr : o.length + cs.length ≤ cap) (hgd : oo.guard = none) (sl y : Operand)
    (ho : oo.op = .call { callee := .builtin .append, args := #[sl, y], argTypes := #[61, 61] }) (hs : a.eval sl = .slice (some ⟨g, 0, none⟩) o.length cap) (hy : a.eval y = .slice (some ⟨W.heap.size, 0, none⟩) cs.length cs.length)
    (h : ∀ w', UR w w' g cap (o ++ cs) → wpList Tryz.prog ops Q rest (a.put oo.dst (.slice (some ⟨g, 0, none⟩) (o.length + cs.length) cap)) w') :
    wpList Tryz.prog ops Q (oo :: rest) a (W.alloc (.cells (nums .u8 cs).toArray 5)) := by
  obtain ⟨i0, hi, hz, hsz, hby⟩ := info8
  have hU2 := hU.alloc (.cells (nums .u8 cs).toArray 5)
  obtain ⟨cur, h1, h2, h3⟩ := hU2.blk
  have hl : (nums .u8 cs).length = cs.length := by simp [nums]
  have hnew : ∀ j v, (nums .u8 cs)[j]? = some v → (W.alloc (.cells (nums .u8 cs).toArray 5)).cell? ((⟨W.heap.size, 0, none⟩ : Addr).add j) = some v := fun j v hj => by
    rw [add_plain, World.cell?_alloc_new]
    simpa using hj
  have hone : ∀ v ∈ nums .u8 cs, v.oneCell' = true := fun v hv => by
    simp only [nums, List.mem_map] at hv
    obtain ⟨c, _, rfl⟩ := hv
    rfl
  have hf := run_firstCells_some (P := Tryz.prog) (W.alloc (.cells (nums .u8 cs).toArray 5)) i0.size cs.length ⟨W.heap.size, 0, none⟩ cs.length cs.length (nums .u8 cs) (by rw [hsz, hl, Nat.mul_one]) hnew
  have hst := run_storeCells_atL Tryz.prog g o.length 5 (cap, cap + 1) (nums .u8 cs) 0 cur _ h1 (by rw [hl]; exact hr) (by rw [h2, hl]; exact hr) hone
  simp only [Nat.add_zero, hl] at hst
  have hrun : (Builtin.append_ #[61, 61] oo.type #[.slice (some ⟨g, 0, none⟩) o.length cap, .slice (some ⟨W.heap.size, 0, none⟩) cs.length cs.length]).run Tryz.prog (W.alloc (.cells (nums .u8 cs).toArray 5)) = .ok (.slice (some ⟨g, 0, none⟩) (o.length + cs.length) cap) ((W.alloc (.cells (nums .u8 cs).toArray 5)).setRow g (cur.toList.take o.length ++ nums .u8 cs ++ cur.toList.drop (o.length + cs.length)).toArray) := by
    rw [hsz] at hf
    simp [Builtin.append_, run_underlying Tryz.underlying61, sizeOf, typeInfo, hi, hsz, Builtin.lenOf, hr, hf, Addr.add_lit, hst]
  refine Lib.wpList_append_run _ hgd sl y _ _ ho _ _ hs hy _ _ hrun (h _ ⟨⟨_, setRow_heap _ g cur _ _ _ h1, ?_, ?_⟩, ?_, ?_, hU.ge⟩)
  · simp only [List.size_toArray, List.length_append, List.length_take, List.length_drop, Array.length_toList, hl, h2]
    omega
  · have e : (nums IntKind.u8 o ++ nums IntKind.u8 cs).length = (o ++ cs).length := by simp [nums]
    rw [List.toList_toArray, h3, ← e, List.take_left]
    simp [nums]
  · rw [List.length_append]; exact hr
  · exact ⟨hU2.bel.os, hU2.bel.tape, hU2.bel.output, by simpa using hU2.bel.size, fun k hk => (setRow_other _ g k _ (by have := hU.ge; omega)).trans (hU2.bel.block k hk)⟩
end Go.Proofs.YtlhaefblchpjhaaGreatDoor.Fp
end
section
namespace Go.Proofs
open Go.Shelf
def Tryz.laysC245_ren : Go.Shelf.Ren := ⟨fun | 245 => 134 | 279 => 159 | 280 => 160 | 281 => 161 | 282 => 162 | 316 => 181 | 171 => 182 | 205 => 72 | 243 => 190 | 246 => 196 | 283 => 200 | 284 => 201 | 285 => 202 | 286 => 203 | 129 => 205 | 317 => 204 | 318 => 206 | 319 => 207 | 320 => 208 | 337 => 209 | 338 => 210 | n => n, fun | 9 => 9 | 3 => 3 | 75 => 69 | 167 => 162 | 4 => 4 | 168 => 165 | 210 => 180 | 37 => 61 | 0 => 0 | 127 => 186 | 145 => 146 | 143 => 144 | 2 => 2 | 171 => 199 | 53 => 170 | 5 => 5 | 173 => 202 | 212 => 206 | 51 => 196 | 20 => 20 | 213 => 207 | 46 => 161 | 232 => 210 | 233 => 211 | 80 => 40 | n => n, fun | 15 => 0 | 16 => 1 | 17 => 10 | 18 => 11 | 19 => 12 | n => n⟩
theorem Tryz.laysC245 : Go.Proofs.LaysC.n245 Tryz.prog Tryz.laysC245_ren := {
  mixed := by kernel_rfl
  f129 := Tryz.func205.trans (congrArg some (by kernel_rfl))
  f171 := Tryz.func182.trans (congrArg some (by kernel_rfl))
  f205 := Tryz.func72.trans (congrArg some (by kernel_rfl))
  f243 := Tryz.func190.trans (congrArg some (by kernel_rfl))
  f245 := Tryz.func134.trans (congrArg some (by kernel_rfl))
  f246 := Tryz.func196.trans (congrArg some (by kernel_rfl))
  f279 := Tryz.func159.trans (congrArg some (by kernel_rfl))
  f280 := Tryz.func160.trans (congrArg some (by kernel_rfl))
  f281 := Tryz.func161.trans (congrArg some (by kernel_rfl))
  f282 := Tryz.func162.trans (congrArg some (by kernel_rfl))
  f283 := Tryz.func200.trans (congrArg some (by kernel_rfl))
  f284 := Tryz.func201.trans (congrArg some (by kernel_rfl))
  f285 := Tryz.func202.trans (congrArg some (by kernel_rfl))
  f286 := Tryz.func203.trans (congrArg some (by kernel_rfl))
  f316 := Tryz.func181.trans (congrArg some (by kernel_rfl))
  f317 := Tryz.func204.trans (congrArg some (by kernel_rfl))
  f318 := Tryz.func206.trans (congrArg some (by kernel_rfl))
  f319 := Tryz.func207.trans (congrArg some (by kernel_rfl))
  f320 := Tryz.func208.trans (congrArg some (by kernel_rfl))
  f337 := Tryz.func209.trans (congrArg some (by kernel_rfl))
  f338 := Tryz.func210.trans (congrArg some (by kernel_rfl))
  t0 := Tryz.underlying0
  a0 := Tryz.isAgg0
  z0 := Tryz.sizeOf0
  v0 := Tryz.zeroValue0
  t2 := Tryz.underlying2
  a2 := Tryz.isAgg2
  z2 := Tryz.sizeOf2
  v2 := Tryz.zeroValue2
  t3 := Tryz.underlying3
  a3 := Tryz.isAgg3
  z3 := Tryz.sizeOf3
  v3 := Tryz.zeroValue3
  t4 := Tryz.underlying4
  a4 := Tryz.isAgg4
  z4 := Tryz.sizeOf4
  v4 := Tryz.zeroValue4
  t5 := Tryz.underlying5
  a5 := Tryz.isAgg5
  z5 := Tryz.sizeOf5
  v5 := Tryz.zeroValue5
  t9 := Tryz.underlying9
  a9 := Tryz.isAgg9
  z9 := Tryz.sizeOf9
  v9 := Tryz.zeroValue9
  t20 := Tryz.underlying20
  a20 := Tryz.isAgg20
  z20 := Tryz.sizeOf20
  v20 := Tryz.zeroValue20
  t37 := Tryz.underlying61
  a37 := Tryz.isAgg61
  z37 := Tryz.sizeOf61
  v37 := Tryz.zeroValue61
  t46 := Tryz.underlying161
  a46 := Tryz.isAgg161
  z46 := Tryz.sizeOf161
  v46 := Tryz.zeroValue161
  t51 := Tryz.underlying196
  a51 := Tryz.isAgg196
  z51 := Tryz.sizeOf196
  v51 := Tryz.zeroValue196
  t53 := Tryz.underlying170
  a53 := Tryz.isAgg170
  z53 := Tryz.sizeOf170
  v53 := Tryz.zeroValue170
  t75 := Tryz.underlying69
  a75 := Tryz.isAgg69
  z75 := Tryz.sizeOf69
  v75 := Tryz.zeroValue69
  t127 := Tryz.underlying186
  a127 := Tryz.isAgg186
  z127 := Tryz.sizeOf186
  v127 := Tryz.zeroValue186
  t143 := Tryz.underlying144
  a143 := Tryz.isAgg144
  z143 := Tryz.sizeOf144
  v143 := Tryz.zeroValue144
  t145 := Tryz.underlying146
  a145 := Tryz.isAgg146
  z145 := Tryz.sizeOf146
  v145 := Tryz.zeroValue146
  t167 := Tryz.underlying162
  a167 := Tryz.isAgg162
  z167 := Tryz.sizeOf162
  v167 := Tryz.zeroValue162
  t168 := Tryz.underlying165
  a168 := Tryz.isAgg165
  z168 := Tryz.sizeOf165
  v168 := Tryz.zeroValue165
  t171 := Tryz.underlying199
  a171 := Tryz.isAgg199
  z171 := Tryz.sizeOf199
  v171 := Tryz.zeroValue199
  t173 := Tryz.underlying202
  a173 := Tryz.isAgg202
  z173 := Tryz.sizeOf202
  v173 := Tryz.zeroValue202
  t210 := Tryz.underlying180
  a210 := Tryz.isAgg180
  z210 := Tryz.sizeOf180
  v210 := Tryz.zeroValue180
  t212 := Tryz.underlying206
  a212 := Tryz.isAgg206
  z212 := Tryz.sizeOf206
  v212 := Tryz.zeroValue206
  t213 := Tryz.underlying207
  a213 := Tryz.isAgg207
  z213 := Tryz.sizeOf207
  t232 := Tryz.underlying210
  a232 := Tryz.isAgg210
  z232 := Tryz.sizeOf210
  v232 := Tryz.zeroValue210
  t233 := Tryz.underlying211
  a233 := Tryz.isAgg211
  z233 := Tryz.sizeOf211
  v233 := Tryz.zeroValue211
  g15 := by kernel_rfl
  g16 := by kernel_rfl
  g17 := by kernel_rfl
  g18 := by kernel_rfl
  g19 := by kernel_rfl
  t80 := Tryz.underlying40
  a80 := Tryz.isAgg40
  z80 := Tryz.sizeOf40
  v80 := Tryz.zeroValue40
  i0 := by kernel_rfl
  i2 := by kernel_rfl
  i3 := by kernel_rfl
  i4 := by kernel_rfl
  i5 := by kernel_rfl
  i9 := by kernel_rfl
  i20 := by kernel_rfl
  i37 := by kernel_rfl
  i46 := by kernel_rfl
  i51 := by kernel_rfl
  i53 := by kernel_rfl
  i75 := by kernel_rfl
  i80 := by kernel_rfl
  i127 := by kernel_rfl
  i143 := by kernel_rfl
  i145 := by kernel_rfl
  i167 := by kernel_rfl
  i168 := by kernel_rfl
  i171 := by kernel_rfl
  i173 := by kernel_rfl
  i210 := by kernel_rfl
  i212 := by kernel_rfl
  i232 := by kernel_rfl
  i233 := by kernel_rfl
  m15 := by kernel_rfl
  m16 := by kernel_rfl
  m17 := by kernel_rfl
  m18 := by kernel_rfl
  m19 := by kernel_rfl
  c0 := by kernel_rfl
  c2 := by kernel_rfl
  c3 := by kernel_rfl
  c4 := by kernel_rfl
  c5 := by kernel_rfl
  c9 := by kernel_rfl
  c20 := by kernel_rfl
  c37 := by kernel_rfl
  c46 := by kernel_rfl
  c51 := by kernel_rfl
  c53 := by kernel_rfl
  c75 := by kernel_rfl
  c80 := by kernel_rfl
  c127 := by kernel_rfl
  c143 := by kernel_rfl
  c145 := by kernel_rfl
  c167 := by kernel_rfl
  c168 := by kernel_rfl
  c171 := by kernel_rfl
  c173 := by kernel_rfl
  c210 := by kernel_rfl
  c212 := by kernel_rfl
  c213 := by kernel_rfl
  c232 := by kernel_rfl
  c233 := by kernel_rfl }
open Go.RowKit in
/-- strconv.toError, at the inner package's ErrSyntax: 'syntaxError(fn, s)' as an error: A *NumError IN A NEW BLOCK. (LAID: no walk: one application.) -/
theorem Tryz.strconv_toError_syntax (fn s : ByteArray) (base bits : Int) (ev : Value) (w : World) (hlim : s.size ≤ 281474976710656) (hv : w.cell? ⟨0, 0, none⟩ = some ev) (hev : ev = .nilIface ∨ ∃ te pe, ev = .iface te pe) :
    Calls Tryz.prog 134 #[.string fn, .string s, .int .i64 base, .int .i64 bits, .iface 162 (.int .i64 2)] w fun e w' => ∃ N, e = .returned (.iface 165 (.pointer (some ⟨N, 0, none⟩))) ∧ w.heap.size ≤ N ∧ w'.heap[N]? = some (.cells #[.string fn, .string s, ev] 180 (0, 0)) ∧ Below w.heap.size w w' := Any.strconv_toError_syntax Tryz.laysC245 fn s base bits ev w hlim hv hev
def Tryz.lays321_ren : Go.Shelf.Ren := ⟨fun | 321 => 188 | n => n, fun | 5 => 5 | n => n, fun | n => n⟩
theorem Tryz.lays321 : Go.Proofs.Lays.n321 Tryz.prog Tryz.lays321_ren := {
  mixed := by kernel_rfl
  f321 := Tryz.func188.trans (congrArg some (by kernel_rfl))
  t5 := Tryz.underlying5
  a5 := Tryz.isAgg5
  z5 := Tryz.sizeOf5
  v5 := Tryz.zeroValue5 }
open Go.RowKit in
/-- internal/strconv.lower: 'c | ('x' - 'X')': the bit 32 set. The world is as it was. (LAID: no walk: one application.) -/
theorem Tryz.internal_strconv_lower (c : Int) (w : World) :
    Calls Tryz.prog 188 #[.int .u8 c] w fun e w' => e = .returned (.int .u8 (bits .or .u8 c 32)) ∧ w' = w := Any.internal_strconv_lower Tryz.lays321 c w
end Go.Proofs
end
section
namespace Go.Proofs.YtlhaefblchpjhaaGreatDoor.FpX
open Go.Proofs.YtlhaefblchpjhaaGreatDoor.FjW
open Go.RowKit Go.Proofs.YtlhaefblchpjhaaGreatDoorW.PrintWords Go.Proofs.YtlhaefblchpjhaaGreatDoorW.PrintLast Go.Proofs.YtlhaefblchpjhaaGreatDoorW.PrintMore
attribute [local go_sem] max2_int min2_int max_two min_two max_three min_three max_four min_four
set_option linter.unusedVariables false
set_option linter.unusedSimpArgs false
/-- The first byte's bit 32 set: a letter's small form. -/
theorem low_or : ∀ n : Fin 256, (48 ≤ n.val ∧ n.val ≤ 57 ∧ Fj.hexd (n.val : Int) = true) ∨
    (¬ (48 ≤ n.val ∧ n.val ≤ 57) ∧ 97 ≤ bits .or .u8 (n.val : Int) 32 ∧ bits .or .u8 (n.val : Int) 32 ≤ 102 ∧ Fj.hexd (n.val : Int) = true) ∨
    (¬ (48 ≤ n.val ∧ n.val ≤ 57) ∧ (bits .or .u8 (n.val : Int) 32 < 97 ∨ 102 < bits .or .u8 (n.val : Int) 32) ∧ Fj.hexd (n.val : Int) = false) := by
  decide +kernel
theorem low_cases (c : Int) (h0 : 0 ≤ c) (h1 : c ≤ 255) : (48 ≤ c ∧ c ≤ 57 ∧ Fj.hexd c = true) ∨
    (¬ (48 ≤ c ∧ c ≤ 57) ∧ 97 ≤ bits .or .u8 c 32 ∧ bits .or .u8 c 32 ≤ 102 ∧ Fj.hexd c = true) ∨
    (¬ (48 ≤ c ∧ c ≤ 57) ∧ (bits .or .u8 c 32 < 97 ∨ 102 < bits .or .u8 c 32) ∧ Fj.hexd c = false) := by
  obtain ⟨n, rfl⟩ : ∃ n : Nat, c = (n : Int) := ⟨c.toNat, by omega⟩
  have := low_or ⟨n, by omega⟩
  simp only [] at this
  rcases this with ⟨a, b, c⟩ | ⟨a, b, c, d⟩ | ⟨a, b, c⟩
  · exact .inl ⟨by omega, by omega, c⟩
  · exact .inr (.inl ⟨by omega, b, c, d⟩)
  · exact .inr (.inr ⟨by omega, b, c⟩)
/-- Four hexadecimal digits. -/
def hx4 (t : ByteArray) : Bool := Fj.hexd (bt t 0) && (Fj.hexd (bt t 1) && (Fj.hexd (bt t 2) && Fj.hexd (bt t 3)))
/-- A hexadecimal digit's number. -/
def hd (c : Int) : Int := if 48 ≤ c ∧ c ≤ 57 then c - 48 else bits .or .u8 c 32 - 97 + 10
def hxv (t : ByteArray) : Nat → Int
  | 0 => 0
  | k + 1 => hxv t k * 16 + hd (bt t (k : Int))
def Hx (t : ByteArray) (E : TypeId) (e : Ending) : Prop := if hx4 t = true then e = .returned (.tuple #[.int .u64 (hxv t 4), .nilIface]) else e = .returned (.tuple #[.int .u64 0, .iface E (.int .i64 2)])
theorem hx_yes {t : ByteArray} {E : TypeId} {e : Ending} (h : ∀ j : Nat, j < 4 → Fj.hexd (bt t (j : Int)) = true) (v : Int) (hv : v = hxv t 4) (he : e = .returned (.tuple #[.int .u64 v, .nilIface])) : Hx t E e := by
  have h0 := h 0 (by decide); have h1 := h 1 (by decide); have h2 := h 2 (by decide); have h3 := h 3 (by decide)
  subst hv
  unfold Hx
  rw [if_pos (by unfold hx4; simp only [Bool.and_eq_true]; exact ⟨h0, h1, h2, h3⟩)]
  exact he
theorem hx_no {t : ByteArray} {E : TypeId} {e : Ending} (j : Nat) (hj : j < 4) (h : Fj.hexd (bt t (j : Int)) = false) (he : e = .returned (.tuple #[.int .u64 0, .iface E (.int .i64 2)])) : Hx t E e := by
  unfold Hx
  rw [if_neg]
  · exact he
  · unfold hx4
    simp only [Bool.and_eq_true]
    rintro ⟨a, b, c, d⟩
    match j, hj with
    | 0, _ => rw [show Fj.hexd (bt t 0) = false from h] at a; cases a
    | 1, _ => rw [show Fj.hexd (bt t 1) = false from h] at b; cases b
    | 2, _ => rw [show Fj.hexd (bt t 2) = false from h] at c; cases c
    | 3, _ => rw [show Fj.hexd (bt t 3) = false from h] at d; cases d
set_option maxHeartbeats 8000000 in
set_option maxRecDepth 100000 in
theorem hexIn (t : ByteArray) (ht : t.size = 4) (w : World) :
    Calls Tryz.prog 180 #[.string t, .int .i64 16, .int .i64 16] w fun e w' => Hx t 162 e ∧ Below w.heap.size w w' := by
  have hemp : t.toList.isEmpty = false := by
    rw [← decide_eq_emptyBytes]
    exact decide_eq_false (fun h => by rw [h] at ht; cases ht)
  have hcv := Lib.run_convert_string_bytes (P := Tryz.prog) w 9 61 5 t (u := .string) Tryz.underlying9 Tryz.underlying61 Tryz.underlying5
  have hB0 : ∀ j, j < t.size → (Lib.bytesWorld w 5 t).cell? ⟨w.heap.size, j, none⟩ = some (.int .u8 (bt t (j : Int))) := fun j hj => by
    rw [Lib.bytesWorld_cell w 5 t j hj, ← rd_bytesOf]
    unfold rd
    have h' : j < t.data.toList.length := by rw [data_length]; exact hj
    simp [bytesOf, List.getD_eq_getElem?_getD, List.getElem?_eq_getElem h']
  have HBW := Aside0.mk (bytes_below (Below.refl w.heap.size w) (Nat.le_refl _) 5 t)
  obtain ⟨W1, hW1⟩ : ∃ W1, W1 = Lib.bytesWorld w 5 t := ⟨_, rfl⟩
  rw [← hW1] at hcv hB0 HBW
  have HB := Aside0.mk hB0
  clear hB0 hW1
  rw [ht] at hcv
  have HT := Aside0.mk ht
  go_enter Tryz.func180, Tryz.ntmps180
  go_wp2
  go_loop [12, 13, 101] (fun vu vn vi => ∃ (k : Nat) (a : Int), vu = .bool false ∧ vn = .int .u64 a ∧ vi = .int .i64 (k : Int) ∧ k ≤ 4 ∧ 0 ≤ a ∧ Aside0 (a + 1 ≤ (16 : Int) ^ k) ∧ Aside0 (a = hxv t k) ∧ Aside0 (∀ j : Nat, j < k → Fj.hexd (bt t (j : Int)) = true)) (fun _ _ vi => 4 - (intOf vi).toNat)
  case atStart => exact ⟨0, 0, rfl, rfl, rfl, by omega, Int.le_refl _, ⟨by decide⟩, ⟨rfl⟩, ⟨fun j hj => absurd hj (Nat.not_lt_zero _)⟩⟩
  case round =>
    obtain ⟨k, a, rfl, rfl, rfl, hk, ha0, HA, HV, HH⟩ := hrel
    by_cases hlt : k < 4
    · have hc := HB.out k (by rw [HT.out]; exact hlt)
      have ha1 : a ≤ 4095 := by
        have := HA.out
        match k, hlt with
        | 0, _ => simp at this; omega
        | 1, _ => simp at this; omega
        | 2, _ => simp at this; omega
        | 3, _ => simp at this; omega
      obtain ⟨c, hcb⟩ : ∃ c, bt t (k : Int) = c := ⟨_, rfl⟩
      have hr := bt_range t (k : Int)
      rw [hcb] at hc hr
      obtain ⟨hr0, hr1⟩ := hr
      rcases low_cases c hr0 hr1 with ⟨g1, g2, g3⟩ | ⟨g1, g2, g3, g4⟩ | ⟨g1, g2, g3⟩
      · have HV' : Aside0 (a * 16 + (c - 48) = hxv t (k + 1)) := ⟨by rw [hxv, ← HV.out, hcb]; unfold hd; rw [if_pos ⟨g1, g2⟩]⟩
        have HN : Aside0 (a * 16 + (c - 48) + 1 ≤ (16 : Int) ^ (k + 1)) := ⟨by have := HA.out; rw [Int.pow_succ]; omega⟩
        have HH' : Aside0 (∀ j : Nat, j < k + 1 → Fj.hexd (bt t (j : Int)) = true) := ⟨fun j hj => by
          by_cases e : j = k
          · rw [e, hcb]; exact g3
          · exact HH.out j (by omega)⟩
        clear HA HH g3 hcb
        go_wp2
        go_round
        case rel => exact ⟨k + 1, a * 16 + (c - 48), rfl, by go_num, by go_num, by omega, by omega, HN, HV', HH'⟩
        case measure => simp [intOf]; omega
      · obtain ⟨L, hL⟩ : ∃ L, bits .or .u8 c 32 = L := ⟨_, rfl⟩
        have HL := Aside0.mk hL
        rw [hL] at g2 g3
        have h95 : (c == 95) = false := beq_eq_false_iff_ne.mpr (fun h => by rw [h] at g4; revert g4; decide)
        have HV' : Aside0 (a * 16 + (L - 97 + 10) = hxv t (k + 1)) := ⟨by rw [hxv, ← HV.out, hcb]; unfold hd; rw [if_neg g1, HL.out]⟩
        have HN : Aside0 (a * 16 + (L - 97 + 10) + 1 ≤ (16 : Int) ^ (k + 1)) := ⟨by have := HA.out; rw [Int.pow_succ]; omega⟩
        have HH' : Aside0 (∀ j : Nat, j < k + 1 → Fj.hexd (bt t (j : Int)) = true) := ⟨fun j hj => by
          by_cases e : j = k
          · rw [e, hcb]; exact g4
          · exact HH.out j (by omega)⟩
        clear HA HH g4 hcb hL
        go_wp2_with (go_at_call 188; (with_reducible refine (Tryz.internal_strconv_lower _ _).mono ?_); rw [HL.out]; rintro e w' ⟨rfl, rfl⟩)
        all_goals
          go_round
          case rel => exact ⟨k + 1, a * 16 + (L - 97 + 10), rfl, by go_num, by go_num, by omega, by omega, HN, HV', HH'⟩
          case measure => simp [intOf]; omega
      · obtain ⟨L, hL⟩ : ∃ L, bits .or .u8 c 32 = L := ⟨_, rfl⟩
        have HL := Aside0.mk hL
        have hL0 := bits_lo_u8 .or c 32
        have hL1 := bits_hi_u8 .or c 32
        rw [hL] at g2 hL0 hL1
        have HJ : Aside0 (Fj.hexd (bt t (k : Int)) = false) := ⟨by rw [hcb]; exact g3⟩
        clear HA HH g3 hcb hL
        by_cases h95 : c = 95
        · subst h95
          obtain rfl : L = 127 := by rw [← HL.out]; decide
          clear g1 g2 hL0 hL1
          go_wp2_with (go_at_call 188; (with_reducible refine (Tryz.internal_strconv_lower _ _).mono ?_); rw [HL.out]; rintro e w' ⟨rfl, rfl⟩)
          go_ret2
          exact ⟨hx_no k hlt HJ.out rfl, HBW.out⟩
        replace h95 : (c == 95) = false := beq_eq_false_iff_ne.mpr h95
        rcases g2 with g2 | g2
        · go_wp2_with (go_at_call 188; (with_reducible refine (Tryz.internal_strconv_lower _ _).mono ?_); rw [HL.out]; rintro e w' ⟨rfl, rfl⟩)
          all_goals
            go_ret2
            exact ⟨hx_no k hlt HJ.out rfl, HBW.out⟩
        · by_cases g5 : L ≤ 122
          all_goals
            go_wp2_with (go_at_call 188; (with_reducible refine (Tryz.internal_strconv_lower _ _).mono ?_); rw [HL.out]; rintro e w' ⟨rfl, rfl⟩)
          all_goals
            go_ret2
            exact ⟨hx_no k hlt HJ.out rfl, HBW.out⟩
    · have hd4 : decide ((k : Int) < 4) = false := decide_eq_false (by omega)
      have HK : Aside0 (∀ j : Nat, j < 4 → Fj.hexd (bt t (j : Int)) = true) := ⟨fun j hj => HH.out j (by omega)⟩
      have HK4 : Aside0 (k = 4) := ⟨by omega⟩
      clear hlt
      go_wp2
      go_ret2
      exact ⟨hx_yes HK.out _ (HV.out.trans (by rw [HK4.out])) rfl, HBW.out⟩
set_option maxHeartbeats 2000000 in
theorem hexYes (t : ByteArray) (ht : t.size = 4) (hx : hx4 t = true) (w : World) :
    Calls Tryz.prog 165 #[.string t, .int .i64 16, .int .i64 16] w fun e w' => e = .returned (.tuple #[.int .u64 (hxv t 4), .nilIface]) ∧ Below w.heap.size w w' := by
  have HT := Aside0.mk ht
  have HX := Aside0.mk hx
  clear ht hx
  go_enter Tryz.func165, Tryz.ntmps165
  go_wp2_with (go_at_call 180; (with_reducible refine (hexIn _ HT.out _).mono ?_); rintro e w' ⟨h, hb⟩; unfold Hx at h; rw [if_pos HX.out] at h; subst h; have HB := Aside0.mk hb; clear hb)
  go_ret2
  exact ⟨rfl, HB.out⟩
set_option maxHeartbeats 2000000 in
theorem hexNo (t : ByteArray) (ht : t.size = 4) (hx : hx4 t = false) (w : World) (hG : Glob w) :
    Calls Tryz.prog 165 #[.string t, .int .i64 16, .int .i64 16] w fun e w' => (∃ v T u, e = .returned (.tuple #[.int .u64 v, .iface T u])) ∧ Below w.heap.size w w' := by
  have HT := Aside0.mk ht
  have HX := Aside0.mk hx
  have HG := Aside0.mk hG
  clear ht hx hG
  go_enter Tryz.func165, Tryz.ntmps165
  go_wp2_with (first
    | (go_at_call 180; (with_reducible refine (hexIn _ HT.out _).mono ?_); rintro e w' ⟨h, hb⟩; unfold Hx at h; rw [if_neg (by rw [HX.out]; decide)] at h; subst h; have HB := Aside0.mk hb; have HV := Aside0.mk (HG.out.below hb); clear hb)
    | (go_at_call 134; obtain ⟨te, pe, hv⟩ := HV.out; (with_reducible refine (Tryz.strconv_toError_syntax _ _ _ _ _ _ (by rw [HT.out]; decide) hv (.inr ⟨te, pe, rfl⟩)).mono ?_); clear hv; rintro e w2 ⟨N, rfl, _, _, hb⟩; have HB2 := Aside0.mk hb; clear hb))
  go_ret2
  exact ⟨⟨_, _, _, rfl⟩, HB.out.trans (HB2.out.mono HB.out.size)⟩
end Go.Proofs.YtlhaefblchpjhaaGreatDoor.FpX
end
section
namespace Go.Proofs.YtlhaefblchpjhaaGreatDoor.Fp
open Go.RowKit Go.Proofs.YtlhaefblchpjhaaGreatDoorW.PrintWords Go.Proofs.YtlhaefblchpjhaaGreatDoorW.PrintLast Go.Proofs.YtlhaefblchpjhaaGreatDoorW.PrintMore
open Go.Proofs.YtlhaefblchpjhaaGreatDoor.FjW (cut cut_cut cut_size cut_bytes cut_zero cut_bt bt_out D rd_D rd_D0 D_drop D_len D_nil D_cons ws_at skipWS errNew)
set_option linter.unusedVariables false
set_option linter.unusedSimpArgs false
theorem reset0 (w : World) (pb : Nat) (bv : Value) (h : Pb w pb bv nilS) :
    Calls Tryz.prog 69 #[.pointer (some ⟨pb, 1, none⟩)] w fun e w' => e = .returned (.tuple #[]) ∧ w' = w.setCell ⟨pb, 1, none⟩ nilS := by
  have h1 := h.cell
  have h2 := h.free 1
  clear h
  go_enter Tryz.func69, Tryz.ntmps69
  go_wp2
  go_loop [10] (fun v => v = .int .i64 0) (fun _ => 0)
  case atStart => rfl
  case round =>
    obtain rfl := hrel
    go_wp2
    go_end0
    exact ⟨rfl, rfl⟩
theorem b2s (w : World) (A : Option Addr) (n c : Nat) (s : ByteArray) (h : (convert 61 9 (.slice A n c)).run Tryz.prog w = .ok (.string s) w) :
    Calls Tryz.prog 71 #[.slice A n c] w fun e w' => e = .returned (.string s) ∧ w = w' := by
  go_enter Tryz.func71, Tryz.ntmps71
  go_wp2
  go_ret
  exact ⟨rfl, rfl⟩
/-- What is read of a text without blanks ahead. -/
def okP (b : ByteArray) : Option FV := match pval (2 * b.size + 1) 0 (bytesOf b) with
  | none => none
  | some r => if b.size ≤ nx b r.2 then some r.1 else none
def PSaid (lo : Nat) (b : ByteArray) (e : Ending) (w' : World) : Prop := match okP b with
  | none => ∃ T u, e = .returned (.tuple #[.pointer none, .iface T u])
  | some fv => ∃ bb o F, e = .returned (.tuple #[.pointer (some ⟨bb, o, none⟩), .nilIface]) ∧ Rep w' F bb o fv ∧ ∀ x, F x → x.spot = none ∧ x.block < w'.heap.size ∧ lo ≤ x.block
theorem Pb.below {w w' : World} {pb : Nat} {bv v : Value} (h : Pb w pb bv v) (g : Below w.heap.size w w') : Pb w' pb bv v := (g.block pb h.lt).trans h
theorem Pb.set0 {w : World} {pb : Nat} {bv cv : Value} (h : Pb w pb bv cv) (v : Value) : Pb (w.setCell ⟨pb, 0, none⟩ v) pb v cv := by
  unfold Pb
  rw [heap_set h v]
  rfl
theorem Pb.heap {w w' : World} {pb : Nat} {bv v : Value} (h : Pb w pb bv v) (g : w'.heap = w.heap) : Pb w' pb bv v := by unfold Pb; rw [g]; exact h
theorem own_heap {w w' : World} {lo e n : Nat} {v : Value} {xs : List Value} (h : w.ownsRow lo e 1 v n xs) (g : ∀ k, v.ownBlock = some k → w'.heap[k]? = w.heap[k]?) : w'.ownsRow lo e 1 v n xs := by
  refine ⟨h.1, h.2.imp id ?_⟩
  rintro ⟨g', cap, cur, rfl, h1, h2, rest⟩
  exact ⟨g', cap, cur, rfl, h1, (g g' rfl).trans h2, rest⟩
theorem fine_below {pb n' : Nat} {bv v' : Value} {w w' : World} (h : Fine pb 0 bv nilS w n' v' w') (hp : pb < w.heap.size) : Below pb w w' := ⟨h.step.out.1, h.step.out.2.1, h.step.out.2.2, h.step.size, fun k hk => h.step.blk k (by omega) (by omega) (by simp [Value.ownBlock])⟩
theorem conv_at {W : World} {lo n c : Nat} {A : Option Addr} {s : ByteArray} (h : W.ownsRow lo 5 1 (.slice A n c) n (Lib.strCells s)) : (convert 61 9 (.slice A n c)).run Tryz.prog W = .ok (.string s) W := by
  obtain ⟨A', c', e, h2⟩ := conv_own h
  have e' : Value.slice A n c = Value.slice A' n c' := e
  rw [e']
  exact h2
theorem psaid_no {lo : Nat} {b : ByteArray} {e : Ending} {w' : World} (h : okP b = none) (T : TypeId) (u : Value) (he : e = .returned (.tuple #[.pointer none, .iface T u])) : PSaid lo b e w' := by unfold PSaid; rw [h]; exact ⟨T, u, he⟩
theorem psaid_yes {lo : Nat} {b : ByteArray} {e : Ending} {w' : World} {fv : FV} (h : okP b = some fv) (bb o : Nat) (F : Addr → Prop) (he : e = .returned (.tuple #[.pointer (some ⟨bb, o, none⟩), .nilIface])) (hR : Rep w' F bb o fv) (hF : ∀ x, F x → x.spot = none ∧ x.block < w'.heap.size ∧ lo ≤ x.block) : PSaid lo b e w' := by unfold PSaid; rw [h]; exact ⟨bb, o, F, he, hR, hF⟩
set_option maxHeartbeats 8000000 in
set_option maxRecDepth 100000 in
theorem parse (P : List Int → Prop) (hVC : ∀ k, VC P k) (w : World) (pb : Nat) (hP : Pb w pb nilS nilS) (a b : ByteArray) (hs : a.size ≤ 400000) (hb : b = cut a (nx a 0)) (ha : P (bytesOf b)) :
    Calls Tryz.prog 37 #[.pointer (some ⟨pb, 0, none⟩), .string a] w fun e w' => PSaid pb b e w' ∧ Below pb w w' := by
  have hbs : b.size ≤ 400000 := by rw [hb, cut_size]; omega
  have HS : Aside0 (a.size ≤ 1000000) := ⟨by omega⟩
  have HBS : Aside0 (b.size ≤ 1000000) := ⟨by omega⟩
  have HA0 : Aside0 (a = cut a 0) := ⟨(cut_zero a).symm⟩
  have HB0 := Aside0.mk hb
  have HP := Aside0.mk hP
  have HV : Aside0 (∀ (W : World) (bv : Value), Pb W pb bv nilS → Calls Tryz.prog 70 #[.pointer (some ⟨pb, 1, none⟩), .string b, .int .i64 0] W fun e w' => Out pb 0 bv nilS W b 0 (pval (2 * b.size + 1) 0 (bytesOf b)) e w') :=
    ⟨fun W bv h => hVC (2 * b.size + 1) pb 0 bv nilS W b 0 h (.inl ⟨rfl, rfl⟩) (by omega) (Nat.le_refl _) ha (Nat.zero_le _)⟩
  cases hr : pval (2 * b.size + 1) 0 (bytesOf b) with
  | none =>
    have HRR := Aside0.mk hr
    have HC1 : Aside0 (okP b = none) := ⟨by unfold okP; rw [hr]⟩
    have hc0 := hP.cell0
    have hf0 := hP.free 0
    clear hs hb hP ha hbs hr
    go_enter Tryz.func37, Tryz.ntmps37
    go_wp2_with (first
      | (go_at_call 68; (with_reducible refine (skipTo a _ b 0 HS.out HA0.out HB0.out _).mono ?_); rintro e w' ⟨rfl, rfl⟩)
      | (at_builtin; refine wp_bytes _ b HBS.out rfl _ _ rfl rfl rfl ?_; intro A c w1 k1 k2 k3; have K1 := Aside0.mk k1; have K3 := Aside0.mk k3; have hc1 := (HP.out.below k3).cell0; have hf1 := (HP.out.below k3).free 0; clear k1 k2 k3 hc0 hf0)
      | (go_at_call 69; (refine (reset0 _ pb _ ((HP.out.below K3.out).set0 _)).mono ?_); rintro e w3 ⟨rfl, hw3⟩; have P3 : Aside0 (Pb w3 pb (.slice A b.size c) nilS) := ⟨by rw [hw3]; exact ((HP.out.below K3.out).set0 _).set _⟩; have hc3 := P3.out.cell0; have K4 : Aside0 (w3.ownsRow w.heap.size 5 1 (.slice A b.size c) b.size (Lib.strCells b)) := ⟨own_heap K1.out fun k hk => by have := K1.out.lt k hk; have hl := HP.out.lt; rw [hw3, heap_other _ _ _ _ _ (by omega), heap_other _ _ _ _ _ (by omega)]⟩; have HB3 : Aside0 (Below pb w w3) := ⟨by rw [hw3]; exact ((K3.out.mono (Nat.le_of_lt HP.out.lt)).setCell (p := ⟨pb, 0, none⟩) (Nat.le_refl _) _).setCell (p := ⟨pb, 1, none⟩) (Nat.le_refl _) _⟩; clear hw3 hc1 hf1))
    go_region_with (first
      | (go_at_call 71; (refine (b2s _ A b.size c b (by exact conv_at (own_heap K4.out fun _ _ => rfl))).mono ?_); rintro e w4 ⟨rfl, rfl⟩)
      | (go_at_call 70; (refine (HV.out _ (.slice A b.size c) (by exact P3.out.heap rfl)).mono ?_); rintro e w4 ⟨n4, v4, hf, h⟩; rw [HRR.out] at h; obtain ⟨hn2, t2, T2, u2, rfl⟩ := h; have HF2 := Aside0.mk hf; have HB4 : Aside0 (Below pb w w4) := ⟨by have h2 := fine_below HF2.out (by exact Nat.lt_of_lt_of_le HP.out.lt HB3.out.size); exact Below.trans (by exact ⟨HB3.out.os, HB3.out.tape, HB3.out.output, HB3.out.size, HB3.out.block⟩) h2⟩; clear hf hn2))
    all_goals
      go_wp2_with (first | (go_at_call 72; (with_reducible refine (errNew _ _).mono ?_); rintro e w' ⟨⟨T, u, rfl⟩, hb⟩))
      go_ret2
      exact ⟨psaid_no HC1.out T u rfl, (HB4.out.trans (hb.mono (Nat.le_trans (Nat.le_of_lt HP.out.lt) HB4.out.size)))⟩
  | some r =>
    obtain ⟨fv, m⟩ := r
    have HRR := Aside0.mk hr
    obtain ⟨t0, ht0⟩ : ∃ t, cut b m = t := ⟨_, rfl⟩
    obtain ⟨t1, ht1⟩ : ∃ t, t = cut b (nx b m) := ⟨_, rfl⟩
    have HT0 := Aside0.mk ht0
    have HT1 := Aside0.mk ht1
    have hts : t1.size = b.size - nx b m := by rw [ht1]; exact cut_size b _
    have hc0 := hP.cell0
    have hf0 := hP.free 0
    by_cases z : b.size ≤ nx b m
    · have HC1 : Aside0 (okP b = some fv) := ⟨by unfold okP; rw [hr]; simp only []; rw [if_pos z]⟩
      have q1 : decide (0 < (t1.size : Int)) = false := decide_eq_false (by omega)
      have q0 : t1.size = 0 := by omega
      clear hs hb hP ha hbs hr ht0 ht1 hts z
      go_enter Tryz.func37, Tryz.ntmps37
      go_wp2_with (first
        | (go_at_call 68; (with_reducible refine (skipTo a _ b 0 HS.out HA0.out HB0.out _).mono ?_); rintro e w' ⟨rfl, rfl⟩)
        | (at_builtin; refine wp_bytes _ b HBS.out rfl _ _ rfl rfl rfl ?_; intro A c w1 k1 k2 k3; have K1 := Aside0.mk k1; have K3 := Aside0.mk k3; have hc1 := (HP.out.below k3).cell0; have hf1 := (HP.out.below k3).free 0; clear k1 k2 k3 hc0 hf0)
        | (go_at_call 69; (refine (reset0 _ pb _ ((HP.out.below K3.out).set0 _)).mono ?_); rintro e w3 ⟨rfl, hw3⟩; have P3 : Aside0 (Pb w3 pb (.slice A b.size c) nilS) := ⟨by rw [hw3]; exact ((HP.out.below K3.out).set0 _).set _⟩; have hc3 := P3.out.cell0; have K4 : Aside0 (w3.ownsRow w.heap.size 5 1 (.slice A b.size c) b.size (Lib.strCells b)) := ⟨own_heap K1.out fun k hk => by have := K1.out.lt k hk; have hl := HP.out.lt; rw [hw3, heap_other _ _ _ _ _ (by omega), heap_other _ _ _ _ _ (by omega)]⟩; have HB3 : Aside0 (Below pb w w3) := ⟨by rw [hw3]; exact ((K3.out.mono (Nat.le_of_lt HP.out.lt)).setCell (p := ⟨pb, 0, none⟩) (Nat.le_refl _) _).setCell (p := ⟨pb, 1, none⟩) (Nat.le_refl _) _⟩; clear hw3 hc1 hf1))
      go_region_with (first
        | (go_at_call 71; (refine (b2s _ A b.size c b (by exact conv_at (own_heap K4.out fun _ _ => rfl))).mono ?_); rintro e w4 ⟨rfl, rfl⟩)
        | (go_at_call 70; (refine (HV.out _ (.slice A b.size c) (by exact P3.out.heap rfl)).mono ?_); rintro e w4 ⟨n4, v4, hf, h⟩; rw [HRR.out] at h; obtain ⟨hn2, hm2, b2, o2, F, rfl, hR, hF⟩ := h; simp only [] at hR hF ⊢; have HR2 := Aside0.mk hR; have HFF : Aside0 (∀ x, F x → x.spot = none ∧ x.block < w4.heap.size ∧ pb ≤ x.block) := ⟨fun x hx => ⟨(hF x hx).2.1, (hF x hx).2.2.1, by have := HP.out.lt; have := HB3.out.size; rcases (hF x hx).1 with c | ⟨c, _⟩; exact Nat.le_trans (Nat.le_trans (Nat.le_of_lt HP.out.lt) HB3.out.size) c; cases c⟩⟩; have HF2 := Aside0.mk hf; have HB4 : Aside0 (Below pb w w4) := ⟨by have h2 := fine_below HF2.out (by exact Nat.lt_of_lt_of_le HP.out.lt HB3.out.size); exact Below.trans (by exact ⟨HB3.out.os, HB3.out.tape, HB3.out.output, HB3.out.size, HB3.out.block⟩) h2⟩; clear hf hn2 hm2 hR hF; try rw [HT0.out]))
      all_goals
        go_wp2_with (first | (go_at_call 68; (with_reducible refine (skipTo b t0 t1 m HBS.out HT0.out.symm HT1.out _).mono ?_); rintro e w' ⟨rfl, rfl⟩))
        go_ret2
        exact ⟨psaid_yes HC1.out b2 o2 F rfl HR2.out HFF.out, HB4.out⟩
    · have HC1 : Aside0 (okP b = none) := ⟨by unfold okP; rw [hr]; simp only []; rw [if_neg z]⟩
      have q1 : decide (0 < (t1.size : Int)) = true := decide_eq_true (by omega)
      have q0 : 0 < t1.size := by omega
      clear hs hb hP ha hbs hr ht0 ht1 hts z
      go_enter Tryz.func37, Tryz.ntmps37
      go_wp2_with (first
        | (go_at_call 68; (with_reducible refine (skipTo a _ b 0 HS.out HA0.out HB0.out _).mono ?_); rintro e w' ⟨rfl, rfl⟩)
        | (at_builtin; refine wp_bytes _ b HBS.out rfl _ _ rfl rfl rfl ?_; intro A c w1 k1 k2 k3; have K1 := Aside0.mk k1; have K3 := Aside0.mk k3; have hc1 := (HP.out.below k3).cell0; have hf1 := (HP.out.below k3).free 0; clear k1 k2 k3 hc0 hf0)
        | (go_at_call 69; (refine (reset0 _ pb _ ((HP.out.below K3.out).set0 _)).mono ?_); rintro e w3 ⟨rfl, hw3⟩; have P3 : Aside0 (Pb w3 pb (.slice A b.size c) nilS) := ⟨by rw [hw3]; exact ((HP.out.below K3.out).set0 _).set _⟩; have hc3 := P3.out.cell0; have K4 : Aside0 (w3.ownsRow w.heap.size 5 1 (.slice A b.size c) b.size (Lib.strCells b)) := ⟨own_heap K1.out fun k hk => by have := K1.out.lt k hk; have hl := HP.out.lt; rw [hw3, heap_other _ _ _ _ _ (by omega), heap_other _ _ _ _ _ (by omega)]⟩; have HB3 : Aside0 (Below pb w w3) := ⟨by rw [hw3]; exact ((K3.out.mono (Nat.le_of_lt HP.out.lt)).setCell (p := ⟨pb, 0, none⟩) (Nat.le_refl _) _).setCell (p := ⟨pb, 1, none⟩) (Nat.le_refl _) _⟩; clear hw3 hc1 hf1))
      go_region_with (first
        | (go_at_call 71; (refine (b2s _ A b.size c b (by exact conv_at (own_heap K4.out fun _ _ => rfl))).mono ?_); rintro e w4 ⟨rfl, rfl⟩)
        | (go_at_call 70; (refine (HV.out _ (.slice A b.size c) (by exact P3.out.heap rfl)).mono ?_); rintro e w4 ⟨n4, v4, hf, h⟩; rw [HRR.out] at h; obtain ⟨hn2, hm2, b2, o2, F, rfl, hR, hF⟩ := h; simp only [] at hR hF ⊢; have HR2 := Aside0.mk hR; have HFF : Aside0 (∀ x, F x → x.spot = none ∧ x.block < w4.heap.size ∧ pb ≤ x.block) := ⟨fun x hx => ⟨(hF x hx).2.1, (hF x hx).2.2.1, by have := HP.out.lt; have := HB3.out.size; rcases (hF x hx).1 with c | ⟨c, _⟩; exact Nat.le_trans (Nat.le_trans (Nat.le_of_lt HP.out.lt) HB3.out.size) c; cases c⟩⟩; have HF2 := Aside0.mk hf; have HB4 : Aside0 (Below pb w w4) := ⟨by have h2 := fine_below HF2.out (by exact Nat.lt_of_lt_of_le HP.out.lt HB3.out.size); exact Below.trans (by exact ⟨HB3.out.os, HB3.out.tape, HB3.out.output, HB3.out.size, HB3.out.block⟩) h2⟩; clear hf hn2 hm2 hR hF; try rw [HT0.out]))
      all_goals
        go_wp2_with (first | (go_at_call 68; (with_reducible refine (skipTo b t0 t1 m HBS.out HT0.out.symm HT1.out _).mono ?_); rintro e w' ⟨rfl, rfl⟩) | (go_at_call 72; (with_reducible refine (errNew _ _).mono ?_); rintro e w' ⟨⟨T, u, rfl⟩, hb⟩))
        go_ret2
        exact ⟨psaid_no HC1.out T u rfl, (HB4.out.trans (hb.mono (Nat.le_trans (Nat.le_of_lt HP.out.lt) HB4.out.size)))⟩
end Go.Proofs.YtlhaefblchpjhaaGreatDoor.Fp
end
section
namespace Go.Proofs.YtlhaefblchpjhaaGreatDoor.Fp
open Go.RowKit Go.Proofs.YtlhaefblchpjhaaGreatDoorW.PrintWords Go.Proofs.YtlhaefblchpjhaaGreatDoorW.PrintLast Go.Proofs.YtlhaefblchpjhaaGreatDoorW.PrintMore
open Go.Proofs.YtlhaefblchpjhaaGreatDoor.FjW (cut cut_cut cut_size cut_bytes cut_zero cut_bt bt_out D rd_D rd_D0 D_drop D_len D_nil D_cons ws_at skipWS errNew ixOf ixCall ix_or mem_take bt_get)
open Go.Proofs.YtlhaefblchpjhaaGreatDoor.FpX (hx4 hxv hd hexYes hexNo)
set_option linter.unusedVariables false
set_option linter.unusedSimpArgs false
def ix92 : List Int → Option Nat
  | [] => none
  | c :: r => if c = 92 then some 0 else (ix92 r).map (· + 1)
theorem ix92_none : ∀ l : List Int, (92 : Int) ∉ l → ix92 l = none
  | [], _ => rfl
  | c :: r, h => by
    rw [ix92, if_neg (fun e => h (by simp [e])), ix92_none r (fun e => h (by simp [e]))]; rfl
theorem ix92_some : ∀ (l : List Int) (n : Nat), l[n]? = some 92 → (92 : Int) ∉ l.take n → ix92 l = some n
  | [], n, h, _ => by simp at h
  | c :: r, 0, h, _ => by simp at h; rw [ix92, if_pos h]
  | c :: r, n + 1, h, h2 => by
    simp only [List.take_succ_cons, List.mem_cons, not_or] at h2
    rw [ix92, if_neg (fun e => h2.1 e.symm), ix92_some r n (by simpa using h) h2.2]; rfl
def uten (r : Int) : List Int := bytesOf (Utf8.encode r)
theorem enc_le (r : Int) : (Utf8.encode r).size ≤ 4 := by
  unfold Utf8.encode
  simp only []
  repeat' split
  all_goals first | decide | exact (by show _ ≤ _; decide) | (show (Array.size _) ≤ 4; simp)
def sur (x : Int) : Bool := decide (55296 ≤ x) && decide (x < 57344)
def upair (x y : Int) : Int := if 55296 ≤ x ∧ x < 56320 ∧ 56320 ≤ y ∧ y < 57344 then (x - 55296) * 1024 + (y - 56320) + 65536 else 65533
def h4 (l : List Int) : Bool := Fj.hexd (rd l 0) && (Fj.hexd (rd l 1) && (Fj.hexd (rd l 2) && Fj.hexd (rd l 3)))
def v4 (l : List Int) : Int := ((((0 * 16 + hd (rd l 0)) * 16 + hd (rd l 1)) * 16) + hd (rd l 2)) * 16 + hd (rd l 3)
/-- The bytes that an escape gives (c: its letter, r: what is behind it), and how many bytes behind the letter it takes. -/
def uone (c : Int) (r : List Int) : List Int × Nat :=
  if c = 34 then ([34], 0) else if c = 92 then ([92], 0) else if c = 47 then ([47], 0) else if c = 98 then ([8], 0) else if c = 102 then ([12], 0) else if c = 110 then ([10], 0) else if c = 114 then ([13], 0) else if c = 116 then ([9], 0)
  else if c = 117 then
    if r.length < 4 ∨ h4 r = false then ([92, 117], 0)
    else if sur (v4 r) = false then (uten (v4 r), 4)
    else if r.length - 4 < 6 ∨ rd r 4 ≠ 92 ∨ rd r 5 ≠ 117 ∨ h4 (r.drop 6) = false then ([92, 117] ++ r.take 4, 4)
    else (uten (upair (v4 r) (v4 (r.drop 6))), 10)
  else ([92, c], 0)
/-- Behind a backslash. -/
def uesc : Nat → List Int → List Int
  | 0, _ => []
  | _ + 1, [] => []
  | k + 1, c :: r => (uone c r).1 ++ (match ix92 (r.drop (uone c r).2) with
      | none => r.drop (uone c r).2
      | some n => (r.drop (uone c r).2).take n ++ uesc k ((r.drop (uone c r).2).drop (n + 1)))
def utail (k : Nat) (l : List Int) : List Int := match ix92 l with
  | none => l
  | some n => l.take n ++ uesc k (l.drop (n + 1))
theorem uesc_cons (k : Nat) (c : Int) (r : List Int) : uesc (k + 1) (c :: r) = (uone c r).1 ++ utail k (r.drop (uone c r).2) := rfl
def US (s : ByteArray) : ByteArray := match ix92 (bytesOf s) with
  | none => s
  | some n => strOfNums ((bytesOf s).take n ++ uesc s.size ((bytesOf s).drop (n + 1)))
theorem ix92_at (a : ByteArray) : (ixOf a 92 = -1 ∧ ix92 (bytesOf a) = none) ∨ ∃ n : Nat, ixOf a 92 = (n : Int) ∧ n < a.size ∧ ix92 (bytesOf a) = some n := by
  rcases ix_or a 92 (by decide) (by decide) with ⟨h1, h2⟩ | ⟨n, h1, h2, h3, h4⟩
  · exact .inl ⟨h1, ix92_none _ h2⟩
  · exact .inr ⟨n, h1, h2, ix92_some _ n (by rw [bt_get a n h2, h3]) h4⟩
theorem ex_bt4 (a : ByteArray) (j i : Nat) (h : j + 4 ≤ a.size) (hi : i < 4) : bt (a.extract j (j + 4)) (i : Int) = bt a ((j + i : Nat) : Int) := by
  have e1 : bytesOf (a.extract j (j + 4)) = ((bytesOf a).drop j).take 4 := by
    unfold bytesOf
    rw [ByteArray.data_extract, Array.toList_extract, List.extract_eq_take_drop, List.map_take, List.map_drop]
    congr 1
    omega
  rw [← rd_bytesOf, e1, ← rd_D]
  unfold rd
  simp only [Int.toNat_natCast, List.getD_eq_getElem?_getD, List.getElem?_take]
  rw [if_pos hi]
theorem hx4_at (a : ByteArray) (j : Nat) (h : j + 4 ≤ a.size) : hx4 (a.extract j (j + 4)) = h4 (D a j) ∧ hxv (a.extract j (j + 4)) 4 = v4 (D a j) := by
  have r0 : bt (a.extract j (j + 4)) 0 = rd (D a j) 0 := (ex_bt4 a j 0 h (by omega)).trans (rd_D a j 0).symm
  have r1 : bt (a.extract j (j + 4)) 1 = rd (D a j) 1 := (ex_bt4 a j 1 h (by omega)).trans (rd_D a j 1).symm
  have r2 : bt (a.extract j (j + 4)) 2 = rd (D a j) 2 := (ex_bt4 a j 2 h (by omega)).trans (rd_D a j 2).symm
  have r3 : bt (a.extract j (j + 4)) 3 = rd (D a j) 3 := (ex_bt4 a j 3 h (by omega)).trans (rd_D a j 3).symm
  refine ⟨by unfold hx4 h4; rw [r0, r1, r2, r3], ?_⟩
  unfold v4
  show ((((0 * 16 + hd (bt (a.extract j (j + 4)) 0)) * 16 + hd (bt (a.extract j (j + 4)) 1)) * 16 + hd (bt (a.extract j (j + 4)) 2)) * 16 + hd (bt (a.extract j (j + 4)) 3)) = _
  rw [r0, r1, r2, r3]
theorem hd_range {c : Int} (h : Fj.hexd c = true) (h0 : 0 ≤ c) (h1 : c ≤ 255) : 0 ≤ hd c ∧ hd c ≤ 15 := by
  rcases FpX.low_cases c h0 h1 with ⟨a, b, _⟩ | ⟨a, b, d, _⟩ | ⟨_, _, e⟩
  · unfold hd; rw [if_pos ⟨a, b⟩]; omega
  · unfold hd; rw [if_neg a]; omega
  · rw [e] at h; cases h
theorem v4_range (a : ByteArray) (j : Nat) (h : h4 (D a j) = true) : 0 ≤ v4 (D a j) ∧ v4 (D a j) ≤ 65535 := by
  unfold h4 at h
  simp only [Bool.and_eq_true] at h
  have e : ∀ i : Nat, rd (D a j) (i : Int) = bt a ((j + i : Nat) : Int) := fun i => rd_D a j i
  have b := fun i : Nat => bt_range a ((j + i : Nat) : Int)
  have g0 := hd_range h.1 (by rw [show (0 : Int) = ((0 : Nat) : Int) from rfl, e]; exact (b 0).1) (by rw [show (0 : Int) = ((0 : Nat) : Int) from rfl, e]; exact (b 0).2)
  have g1 := hd_range h.2.1 (by rw [show (1 : Int) = ((1 : Nat) : Int) from rfl, e]; exact (b 1).1) (by rw [show (1 : Int) = ((1 : Nat) : Int) from rfl, e]; exact (b 1).2)
  have g2 := hd_range h.2.2.1 (by rw [show (2 : Int) = ((2 : Nat) : Int) from rfl, e]; exact (b 2).1) (by rw [show (2 : Int) = ((2 : Nat) : Int) from rfl, e]; exact (b 2).2)
  have g3 := hd_range h.2.2.2 (by rw [show (3 : Int) = ((3 : Nat) : Int) from rfl, e]; exact (b 3).1) (by rw [show (3 : Int) = ((3 : Nat) : Int) from rfl, e]; exact (b 3).2)
  unfold v4
  omega
/-- What an escape gives is no longer than it is. -/
theorem uone_len (c : Int) (r : List Int) : (uone c r).1.length ≤ (uone c r).2 + 2 ∧ (uone c r).2 ≤ r.length := by
  unfold uone
  by_cases a1 : c = 34
  · rw [if_pos a1]; simp
  rw [if_neg a1]
  by_cases a2 : c = 92
  · rw [if_pos a2]; simp
  rw [if_neg a2]
  by_cases a3 : c = 47
  · rw [if_pos a3]; simp
  rw [if_neg a3]
  by_cases a4 : c = 98
  · rw [if_pos a4]; simp
  rw [if_neg a4]
  by_cases a5 : c = 102
  · rw [if_pos a5]; simp
  rw [if_neg a5]
  by_cases a6 : c = 110
  · rw [if_pos a6]; simp
  rw [if_neg a6]
  by_cases a7 : c = 114
  · rw [if_pos a7]; simp
  rw [if_neg a7]
  by_cases a8 : c = 116
  · rw [if_pos a8]; simp
  rw [if_neg a8]
  by_cases a9 : c = 117
  · rw [if_pos a9]
    by_cases b1 : r.length < 4 ∨ h4 r = false
    · rw [if_pos b1]; simp
    rw [if_neg b1]
    have hl : 4 ≤ r.length := by have := fun h => b1 (.inl h); omega
    by_cases b2 : sur (v4 r) = false
    · rw [if_pos b2]
      refine ⟨?_, hl⟩
      show (bytesOf (Utf8.encode (v4 r))).length ≤ 6
      rw [bytesOf_length]
      have := enc_le (v4 r)
      omega
    rw [if_neg b2]
    by_cases b3 : r.length - 4 < 6 ∨ rd r 4 ≠ 92 ∨ rd r 5 ≠ 117 ∨ h4 (r.drop 6) = false
    · rw [if_pos b3]
      refine ⟨?_, hl⟩
      simp; omega
    rw [if_neg b3]
    have hl2 : 10 ≤ r.length := by have := fun h => b3 (.inl h); omega
    refine ⟨?_, hl2⟩
    show (bytesOf (Utf8.encode _)).length ≤ 12
    rw [bytesOf_length]
    have := enc_le (upair (v4 r) (v4 (r.drop 6)))
    omega
  · rw [if_neg a9]; simp
theorem isSur (x : Int) (h0 : 0 ≤ x) (h1 : x ≤ 65535) (w : World) : Calls Tryz.prog 166 #[.int .i32 x] w fun e w' => e = .returned (.bool (sur x)) ∧ w = w' := by
  obtain ⟨b1, hb1⟩ : ∃ b, decide (55296 ≤ x) = b := ⟨_, rfl⟩
  obtain ⟨b2, hb2⟩ : ∃ b, decide (x < 57344) = b := ⟨_, rfl⟩
  have HS : Aside0 (sur x = (b1 && b2)) := ⟨by unfold sur; rw [hb1, hb2]⟩
  cases b1 <;> cases b2
  all_goals
    go_enter Tryz.func166, Tryz.ntmps166
    go_wp2
    go_ret
    exact ⟨by rw [HS.out]; rfl, rfl⟩
theorem or_join (x y : Int) (hx : 0 ≤ x) (hx1 : x < 1024) (hy : 0 ≤ y) (hy1 : y < 1024) : bits .or .i32 (x * 1024) y = x * 1024 + y :=
  bits_join .i32 21 (by decide) (fun n a b => by
    have b' : n < 2097152 := b
    simp only [IntKind.wrap, IntKind.bits, IntKind.signed]
    simp
    split <;> omega) 10 (x * 1024) y (by omega) (by omega) (by omega) hy (by omega) (by omega)
theorem decRune (x y : Int) (h0 : 0 ≤ x) (h1 : x ≤ 65535) (g0 : 0 ≤ y) (g1 : y ≤ 65535) (w : World) : Calls Tryz.prog 167 #[.int .i32 x, .int .i32 y] w fun e w' => e = .returned (.int .i32 (upair x y)) ∧ w = w' := by
  by_cases c : 55296 ≤ x ∧ x < 56320 ∧ 56320 ≤ y ∧ y < 57344
  · have HU : Aside0 (upair x y = (x - 55296) * 1024 + (y - 56320) + 65536) := ⟨by unfold upair; rw [if_pos c]⟩
    obtain ⟨c1, c2, c3, c4⟩ := c
    have q1 : decide (55296 ≤ x) = true := decide_eq_true c1
    have q2 : decide (x < 56320) = true := decide_eq_true c2
    have q3 : decide (56320 ≤ y) = true := decide_eq_true c3
    have q4 : decide (y < 57344) = true := decide_eq_true c4
    have hor := or_join (x - 55296) (y - 56320) (by omega) (by omega) (by omega) (by omega)
    go_enter Tryz.func167, Tryz.ntmps167
    go_wp2
    go_ret
    exact ⟨by rw [HU.out]; rfl, rfl⟩
  · have HU : Aside0 (upair x y = 65533) := ⟨by unfold upair; rw [if_neg c]⟩
    obtain ⟨b1, hb1⟩ : ∃ b, decide (55296 ≤ x) = b := ⟨_, rfl⟩
    obtain ⟨b2, hb2⟩ : ∃ b, decide (x < 56320) = b := ⟨_, rfl⟩
    obtain ⟨b3, hb3⟩ : ∃ b, decide (56320 ≤ y) = b := ⟨_, rfl⟩
    obtain ⟨b4, hb4⟩ : ∃ b, decide (y < 57344) = b := ⟨_, rfl⟩
    have HB : Aside0 ((b1 && (b2 && (b3 && b4))) = false) := ⟨by
      rw [← hb1, ← hb2, ← hb3, ← hb4, ← Bool.not_eq_true]
      simp only [Bool.and_eq_true, decide_eq_true_eq]
      exact c⟩
    clear c
    cases b1 <;> cases b2 <;> cases b3 <;> cases b4
    all_goals first
      | (exact absurd HB.out (by decide))
      | (go_enter Tryz.func167, Tryz.ntmps167
         go_wp2
         go_ret
         exact ⟨by rw [HU.out]; rfl, rfl⟩)
theorem runeStr (r : Int) (W : World) : (convert 21 9 (.int .i32 r)).run Tryz.prog W = .ok (.string (Utf8.encode r)) W := by
  simp [convert, run_underlying Tryz.underlying21, run_underlying Tryz.underlying9, Conv.intToString]
end Go.Proofs.YtlhaefblchpjhaaGreatDoor.Fp
end
section
namespace Go.Proofs.YtlhaefblchpjhaaGreatDoor.Fp
open Go.RowKit Go.Proofs.YtlhaefblchpjhaaGreatDoorW.PrintWords Go.Proofs.YtlhaefblchpjhaaGreatDoorW.PrintLast Go.Proofs.YtlhaefblchpjhaaGreatDoorW.PrintMore
open Go.Proofs.YtlhaefblchpjhaaGreatDoor.FjW (cut cut_cut cut_size cut_bytes cut_zero cut_bt bt_out D rd_D rd_D0 D_drop D_len D_nil D_cons ws_at skipWS errNew ixOf ixCall ix_or)
set_option linter.unusedVariables false
set_option linter.unusedSimpArgs false
/-- Nothing that was there is changed but places of F. -/
structure Fr (w w' : World) (F : Addr → Prop) : Prop where
  out : w'.os = w.os ∧ w'.tape = w.tape ∧ w'.output = w.output
  size : w.heap.size ≤ w'.heap.size
  typ : ∀ k cur T fz, w.heap[k]? = some (.cells cur T fz) → ∃ cur', w'.heap[k]? = some (.cells cur' T fz) ∧ cur'.size = cur.size ∧ ∀ j, ¬ F ⟨k, j, none⟩ → cur'[j]? = cur[j]?
  oth : ∀ (k : Nat) (o : Obj), w.heap[k]? = some o → (∀ cur T fz, o ≠ Obj.cells cur T fz) → w'.heap[k]? = some o
theorem Fr.refl (w : World) (F : Addr → Prop) : Fr w w F := ⟨⟨rfl, rfl, rfl⟩, Nat.le_refl _, fun k cur T fz h => ⟨cur, h, rfl, fun _ _ => rfl⟩, fun k o h _ => h⟩
theorem Fr.trans {w w1 w2 : World} {F : Addr → Prop} (h : Fr w w1 F) (g : Fr w1 w2 F) : Fr w w2 F := by
  refine ⟨⟨g.out.1.trans h.out.1, g.out.2.1.trans h.out.2.1, g.out.2.2.trans h.out.2.2⟩, Nat.le_trans h.size g.size, fun k cur T fz e => ?_, fun k o e hn => g.oth k o (h.oth k o e hn) hn⟩
  obtain ⟨c1, a1, a2, a3⟩ := h.typ k cur T fz e
  obtain ⟨c2, b1, b2, b3⟩ := g.typ k c1 T fz a1
  exact ⟨c2, b1, b2.trans a2, fun j hj => (b3 j hj).trans (a3 j hj)⟩
theorem Fr.mono {w w' : World} {F G : Addr → Prop} (h : Fr w w' F) (hg : ∀ x, F x → G x) : Fr w w' G :=
  ⟨h.out, h.size, fun k cur T fz e => by obtain ⟨c, a1, a2, a3⟩ := h.typ k cur T fz e; exact ⟨c, a1, a2, fun j hj => a3 j fun x => hj (hg _ x)⟩, h.oth⟩
theorem Fr.below {w w' : World} {F : Addr → Prop} (h : Below w.heap.size w w') : Fr w w' F :=
  ⟨⟨h.os, h.tape, h.output⟩, h.size, fun k cur T fz e => ⟨cur, (h.block k (heap_lt e)).trans e, rfl, fun _ _ => rfl⟩, fun k o e _ => (h.block k (heap_lt e)).trans e⟩
theorem Fr.set {w w1 : World} {F : Addr → Prop} (h : Fr w w1 F) {b o : Nat} (hx : F ⟨b, o, none⟩) (u : Value) : Fr w (w1.setCell ⟨b, o, none⟩ u) F := by
  refine h.trans ⟨⟨rfl, rfl, rfl⟩, by rw [set_size]; exact Nat.le_refl _, fun k cur T fz e => ?_, fun k ob e hn => ?_⟩
  · by_cases hk : k = b
    · subst hk
      refine ⟨_, heap_set e u, by rw [Array.size_setIfInBounds], fun j hj => ?_⟩
      rw [Array.getElem?_setIfInBounds_ne]
      rintro rfl; exact hj hx
    · exact ⟨cur, (heap_other _ _ _ _ _ hk).trans e, rfl, fun _ _ => rfl⟩
  · by_cases hk : k = b
    · subst hk
      cases ob with
      | cells cur T fz => exact absurd rfl (hn cur T fz)
      | _ => simp [World.setCell, Array.getElem?_modify, e]
    · exact (heap_other _ _ _ _ _ hk).trans e
/-- Places of blocks that are there. -/
def Pl (w : World) (F : Addr → Prop) : Prop := ∀ x, F x → x.spot = none ∧ x.block < w.heap.size
theorem Pl.fr {w w' : World} {F G : Addr → Prop} (h : Pl w F) (g : Fr w w' G) : Pl w' F := fun x hx => ⟨(h x hx).1, Nat.lt_of_lt_of_le (h x hx).2 g.size⟩
theorem Fr.cell {w w' : World} {F : Addr → Prop} (h : Fr w w' F) {b o : Nat} (hb : b < w.heap.size) (hx : ¬ F ⟨b, o, none⟩) : w'.cell? ⟨b, o, none⟩ = w.cell? ⟨b, o, none⟩ := by
  obtain ⟨ob, e⟩ : ∃ ob, w.heap[b]? = some ob := ⟨w.heap[b], Array.getElem?_eq_getElem hb⟩
  cases ob with
  | cells cur T fz =>
    obtain ⟨c, a1, _, a3⟩ := h.typ b cur T fz e
    rw [cell_in a1, cell_in e, a3 o hx]
  | _ =>
    have := h.oth b _ e (fun cur T fz hh => by cases hh)
    exact World.cell?_of_block (a := ⟨b, o, none⟩) (this.trans e.symm)
theorem Fr.keep {w w' : World} {F G : Addr → Prop} (h : Fr w w' F) (hp : Pl w G) (hd : ∀ x, G x → F x → False) : Keep w w' G := fun x hx => by
  obtain ⟨xb, xo, xs⟩ := x
  obtain ⟨h1, h2⟩ := hp _ hx
  simp only at h1 h2
  subst h1
  refine ⟨h.cell h2 (hd _ hx), fun cur T e => ?_⟩
  obtain ⟨c, a1, _⟩ := h.typ xb cur T _ e
  exact ⟨c, a1⟩
theorem Fr.bel {w w' : World} {F : Addr → Prop} {lo : Nat} (h : Fr w w' F) (hf : ∀ x, F x → lo ≤ x.block) (hl : lo ≤ w.heap.size) : Below lo w w' := by
  refine ⟨h.out.1, h.out.2.1, h.out.2.2, h.size, fun k hk => ?_⟩
  obtain ⟨ob, e⟩ : ∃ ob, w.heap[k]? = some ob := ⟨w.heap[k], Array.getElem?_eq_getElem (by omega)⟩
  rw [e]
  cases ob with
  | cells cur T fz =>
    obtain ⟨c, a1, a2, a3⟩ := h.typ k cur T fz e
    rw [a1]
    congr 2
    refine Array.ext_getElem? fun j => a3 j fun x => ?_
    have := hf _ x
    simp only at this
    omega
  | _ => exact h.oth k _ e (fun cur T fz hh => by cases hh)
theorem Fr.blkTV {w w' : World} {F : Addr → Prop} (h : Fr w w' F) {b : Nat} {T : TypeId} (hb : ∃ cur, w.heap[b]? = some (.cells cur T (0, 0))) : ∃ cur, w'.heap[b]? = some (.cells cur T (0, 0)) := by
  obtain ⟨cur, e⟩ := hb
  obtain ⟨c, a1, _⟩ := h.typ b cur T _ e
  exact ⟨c, a1⟩
/-- strconv's variable ErrSyntax. -/
abbrev gb : Nat := 0
theorem Glob.lt {w : World} (h : Glob w) : gb < w.heap.size := by
  obtain ⟨te, pe, h⟩ := h
  exact World.block_lt_of_cell? w _ h
theorem Glob.of {w w' : World} (h : Glob w) (e : w'.cell? ⟨gb, 0, none⟩ = w.cell? ⟨gb, 0, none⟩) : Glob w' := by
  obtain ⟨te, pe, h⟩ := h
  exact ⟨te, pe, e.trans h⟩
/-- A footprint that leaves the variable alone. -/
def Far (F : Addr → Prop) : Prop := ∀ x, F x → x.block ≠ gb
theorem Far.sub {F G : Addr → Prop} (h : Far F) (g : ∀ x, G x → F x) : Far G := fun x hx => h x (g x hx)
theorem Fr.glob {w w' : World} {F : Addr → Prop} (h : Fr w w' F) (hF : Far F) (hG : Glob w) : Glob w' := Glob.of hG (h.cell (Glob.lt hG) fun x => hF _ x rfl)
/-- What unescapeStringBestEffort makes of a text. -/
def UC (U : ByteArray → ByteArray) (s : ByteArray) : Prop := (U s).size ≤ s.size ∧ s.size ≤ 1000000 ∧ ∀ w, Glob w → Calls Tryz.prog 141 #[.string s] w fun e w' => e = .returned (.string (U s)) ∧ Below w.heap.size w w'
/-- The places that unescapeKeys changes: the flag, the row. -/
def Own (b o : Nat) (kv : Value) (x : Addr) : Prop := x = ⟨b, o + 1, none⟩ ∨ (x.spot = none ∧ some x.block = kv.ownBlock)
/-- A name, unescaped. -/
def un (U : ByteArray → ByteArray) (k : List Int) : List Int := bytesOf (U (strOfNums k))
theorem str_un (U : ByteArray → ByteArray) (k : List Int) : strOfNums (un U k) = U (strOfNums k) := XWords.strOfNums_bytesOf _
/-- The row of members, of which the first i names are unescaped. -/
def KvAt (w : World) (U : ByteArray → ByteArray) (kb : Nat) (ks : List (List Int)) (ps : List (Nat × Nat)) (i : Nat) : Prop :=
  ∀ j, j < ps.length → w.cell? ⟨kb, j * 2, none⟩ = (ks[j]?).map (fun k => .string (if j < i then U (strOfNums k) else strOfNums k)) ∧ w.cell? ⟨kb, j * 2 + 1, none⟩ = (ps[j]?).map ptr
set_option maxHeartbeats 4000000 in
set_option maxRecDepth 100000 in
theorem unKeys (U : ByteArray → ByteArray) (w : World) (F : Addr → Prop) (b o : Nat) (kv : Value) (ks : List (List Int)) (ps : List (Nat × Nat)) (hb : ∃ cur, w.heap[b]? = some (.cells cur TV (0, 0))) (h0 : w.cell? ⟨b, o, none⟩ = some kv) (h1 : w.cell? ⟨b, o + 1, none⟩ = some (.bool false)) (hk : KvIs w F kv ks ps) (hU : ∀ k, k ∈ ks → UC U (strOfNums k)) (hl : ps.length ≤ 1000000) (hG : Glob w) (hO : Far (Own b o kv)) :
    Calls Tryz.prog 132 #[.pointer (some ⟨b, o, none⟩)] w fun e w' => e = .returned (.tuple #[]) ∧ Fr w w' (Own b o kv) ∧ KvIs w' F kv (ks.map (un U)) ps := by
  have HB := Aside0.mk hb
  have hfb := free_of hb
  rcases hk with ⟨rfl, rfl, rfl⟩ | ⟨kb, cap, cur, rfl, k0, k1, k2, k3, k4⟩
  · clear hU
    go_enter Tryz.func132, Tryz.ntmps132
    go_wp2
    go_loop [15] (fun v => v = .int .i64 0) (fun _ => 0)
    case atStart => rfl
    case round =>
      obtain rfl := hrel
      go_wp2
      go_end0
      exact ⟨rfl, (Fr.refl _ _).set (.inl rfl) _, .inl ⟨rfl, rfl, rfl⟩⟩
  · obtain ⟨m, hm⟩ : ∃ m, ps.length = m := ⟨_, rfl⟩
    have hbk : b ≠ kb := fun e => by
      obtain ⟨c, hc⟩ := hb
      rw [e, k3] at hc
      simp only [Option.some.injEq, Obj.cells.injEq] at hc
      exact absurd hc.2.1 (by decide)
    have HBK := Aside0.mk hbk
    have HU := Aside0.mk hU
    have HK3 : Aside0 (∃ cur, w.heap[kb]? = some (.cells cur TK (0, 0))) := ⟨⟨cur, k3⟩⟩
    have HK4 := Aside0.mk k4
    have HKL := Aside0.mk k2
    have HCAP := Aside0.mk k1
    have HB1 := Aside0.mk (heap_lt hb.choose_spec)
    have H0 : Aside0 (w.cell? ⟨b, o, none⟩ = some (.slice (some ⟨kb, 0, none⟩) ps.length cap)) := ⟨h0⟩
    have hl2 : m ≤ 1000000 := by omega
    have HGL := Aside0.mk hG
    have HO := Aside0.mk hO
    have HM := Aside0.mk hm
    rw [hm] at h0
    have HAT : Aside0 (KvAt w U kb ks ps 0) := ⟨fun j hj => ⟨(k4 j hj).1, (k4 j hj).2.1⟩⟩
    have hm0 : 0 < m := by omega
    clear hb k0 k1 k2 k3 k4 hU hbk hm hl hG hO
    go_enter Tryz.func132, Tryz.ntmps132
    go_wp2
    go_loopg [15] (m + 1) (fun kk v15 wr => ∃ i : Nat, v15 = .int .i64 (i : Int) ∧ i ≤ m ∧ kk + i = m + 1 ∧ Aside0 (Fr w wr (Own b o (.slice (some ⟨kb, 0, none⟩) ps.length cap)) ∧ KvAt wr U kb ks ps i ∧ wr.cell? ⟨b, o + 1, none⟩ = some (.bool false)))
    case atStart => exact ⟨0, rfl, Nat.zero_le _, by omega, ⟨Fr.refl _ _, HAT.out, h1⟩⟩
    case round =>
      clear h0 h1 hfb
      obtain ⟨i, rfl, hi, hk, HI⟩ := hrel
      by_cases hlt : i < m
      · obtain ⟨kk, rfl⟩ : ∃ j, gk = j + 1 := ⟨gk - 1, by omega⟩
        have hip : i < ps.length := by rw [HM.out]; exact hlt
        obtain ⟨x, hx⟩ : ∃ x, ks[i]? = some x := ⟨ks[i]'(by rw [HKL.out]; exact hip), List.getElem?_eq_getElem _⟩
        have hc : wr.cell? ⟨kb, i * 2, none⟩ = some (.string (strOfNums x)) := by
          have := (HI.out.2.1 i hip).1
          rw [hx] at this
          simpa using this
        have hfk : ∀ j, wr.frozen? ⟨kb, j, none⟩ = false := fun j => by
          obtain ⟨c, e⟩ := HI.out.1.blkTV HK3.out
          simp [World.frozen?, e]
        have HUC : Aside0 (Calls Tryz.prog 141 #[.string (strOfNums x)] wr fun e w' => e = .returned (.string (U (strOfNums x))) ∧ Below wr.heap.size wr w') := ⟨(HU.out x (List.mem_of_getElem? hx)).2.2 wr (HI.out.1.glob HO.out HGL.out)⟩
        have HX := Aside0.mk hx
        have HKB : Aside0 (kb < wr.heap.size) := ⟨by obtain ⟨c, e⟩ := HI.out.1.blkTV HK3.out; exact heap_lt e⟩
        clear hx hip
        go_wp2_with (first | (go_at_call 141; (with_reducible refine HUC.out.mono ?_); rintro e w2 ⟨rfl, hb2⟩; have HB2 := Aside0.mk hb2; have hc2 := pw_cell_below hb2 hc; have hfk2 : (∀ j, w2.frozen? ⟨kb, j, none⟩ = false) := (fun j => (World.frozen?_of_block (a := ⟨kb, j, none⟩) (hb2.block kb HKB.out)).trans (hfk j)); clear hb2))
        go_roundg kk
        case measure => omega
        case rel =>
          refine ⟨i + 1, by go_num, by omega, by omega, ⟨(HI.out.1.trans (Fr.below HB2.out)).set (b := kb) (o := i * 2) (.inr ⟨rfl, rfl⟩) _, fun j hj => ⟨?_, ?_⟩, ?_⟩⟩
          · by_cases e : j = i
            · subst e
              rw [World.cell?_setCell_same _ _ _ hc2, HX.out]
              simp
            · rw [World.cell?_setCell_other _ _ _ _ (fun h => by injection h with _ h _; omega), HB2.out.cell (p := ⟨kb, j * 2, none⟩) HKB.out, (HI.out.2.1 j hj).1]
              cases ks[j]? with
              | none => rfl
              | some y =>
                simp only [Option.map_some]
                by_cases e2 : j < i
                · rw [if_pos e2, if_pos (by omega)]
                · rw [if_neg e2, if_neg (by omega)]
          · rw [World.cell?_setCell_other _ _ _ _ (fun h => by injection h with _ h _; omega), HB2.out.cell (p := ⟨kb, j * 2 + 1, none⟩) HKB.out]
            exact (HI.out.2.1 j hj).2
          · rw [World.cell?_setCell_other _ _ _ _ (fun h => by injection h with h _ _; exact HBK.out h.symm)]
            exact pw_cell_below HB2.out HI.out.2.2
      · obtain rfl : i = m := by omega
        have hf := HI.out.2.2
        have hfb : ∀ j, wr.frozen? ⟨b, j, none⟩ = false := free_of (HI.out.1.blkTV HB.out)
        clear hlt
        go_wp2
        go_end0
        have hfr := HI.out.1.set (b := b) (o := o + 1) (.inl rfl) (.bool true)
        refine ⟨rfl, hfr, .inr ?_⟩
        obtain ⟨c, e⟩ := hfr.blkTV HK3.out
        refine ⟨kb, cap, c, rfl, by rw [HM.out]; exact hm0, ?_, by rw [List.length_map]; exact HKL.out, e, fun j hj => ?_⟩
        · exact HCAP.out
        · have hne : ∀ q, (⟨b, o + 1, none⟩ : Addr) ≠ ⟨kb, q, none⟩ := fun q h => by injection h with h _ _; exact HBK.out h
          rw [World.cell?_setCell_other _ _ _ _ (hne _), World.cell?_setCell_other _ _ _ _ (hne _), (HI.out.2.1 j hj).1, (HI.out.2.1 j hj).2, List.getElem?_map]
          refine ⟨?_, rfl, (HK4.out j hj).2.2⟩
          cases ks[j]? with
          | none => rfl
          | some y => simp only [Option.map_some, str_un]; rw [if_pos (by rw [← HM.out]; exact hj)]
end Go.Proofs.YtlhaefblchpjhaaGreatDoor.Fp
end
section
namespace Go.Proofs.YtlhaefblchpjhaaGreatDoor.Fp
open Go.RowKit Go.Proofs.YtlhaefblchpjhaaGreatDoorW.PrintWords Go.Proofs.YtlhaefblchpjhaaGreatDoorW.PrintLast Go.Proofs.YtlhaefblchpjhaaGreatDoorW.PrintMore
open Go.Proofs.YtlhaefblchpjhaaGreatDoor.FjW (cut cut_cut cut_size cut_bytes cut_zero cut_bt bt_out D rd_D rd_D0 D_drop D_len D_nil D_cons ws_at skipWS errNew ixOf ixCall ix_or)
set_option linter.unusedVariables false
set_option linter.unusedSimpArgs false
/-- A call of a Go function of one argument, within a region that draws its order. -/
theorem step_go1 {P : Program} {ops : Array Oper} {o : Oper} {a : Act} {w : World} {K : Act → World → Prop} {Q : Exit → Act → World → Prop} {E : Prop}
    (hg : o.guard = none) (f : FuncId) (x : Operand) (T : TypeId) (hop : o.op = Op.call { callee := .value (.func f), args := #[x], argTypes := #[T] }) (vx : Value) (hx : a.eval x = vx)
    (hF : ∀ args W, (callFunc f args).run P W = .ok (.enter f args) W) (hc : Calls P f #[vx] w fun e w' => ∃ v, e = .returned v ∧ K (a.put o.dst v) w') :
    if Region.wanted o (yielded ops a.tmps) = true then Oper.wp P o a w K Q else E := by
  have hw : Region.wanted o (yielded ops a.tmps) = true := by simp [Region.wanted, hg]
  rw [if_pos hw]
  have hr : (execOp a.eval o).run P w = .ok (.enter f #[vx]) w := by
    have hfn : a.eval (.func f) = .func (.func f) #[] #[] := rfl
    simp [execOp, hop, resolve, invoke, hx, hF, hfn, Deferred.ofValue]
  unfold Oper.wp
  rw [hr, Oper.upon_enter]
  refine hc.mono fun e w' h => ?_
  obtain ⟨v, rfl, h⟩ := h
  exact h
theorem call_func (f : FuncId) (F : Func) (h : Tryz.prog.funcs[f]? = some F) (h1 : (F.name = "runtime.NumGoroutine") = False) (h2 : F.body.isNone = false) (args : Array Value) (W : World) : (callFunc f args).run Tryz.prog W = .ok (.enter f args) W := by
  have h3 : (F.body = none) = False := eq_false (fun e => by rw [e] at h2; cases h2)
  simp [callFunc, go_sem, h, h1, h3]
theorem nodeFn (args : Array Value) (W : World) : (callFunc 50 args).run Tryz.prog W = .ok (.enter 50 args) W := call_func _ _ Tryz.func50 (eq_false (by decide)) rfl args W
set_option maxRecDepth 100000 in
theorem s2b (w : World) (s : ByteArray) (hs : s.size ≤ 1000000) :
    Calls Tryz.prog 144 #[.string s] w fun e w' => ∃ c, e = .returned (.slice (some ⟨w.heap.size, 0, none⟩) s.size c) ∧ (convert 61 9 (.slice (some ⟨w.heap.size, 0, none⟩) s.size c)).run Tryz.prog w' = .ok (.string s) w' ∧ Below w.heap.size w w' ∧ w.heap.size < w'.heap.size := by
  have hcv := Lib.run_convert_string_bytes (P := Tryz.prog) w 9 61 5 s (u := .string) Tryz.underlying9 Tryz.underlying61 Tryz.underlying5
  have HBW := Aside0.mk (bytes_below (Below.refl w.heap.size w) (Nat.le_refl _) 5 s)
  have HR : Aside0 (∀ c, (convert 61 9 (.slice (some ⟨w.heap.size, 0, none⟩) s.size c)).run Tryz.prog (Lib.bytesWorld w 5 s) = .ok (.string s) (Lib.bytesWorld w 5 s)) := ⟨fun c => by
    have := string_of_reads (P := Tryz.prog) Tryz.underlying61 Tryz.underlying5 Tryz.underlying9 (c := c) (bytes_reads w 5 s (by omega))
    rwa [XWords.strOfNums_bytesOf] at this⟩
  have HSZ : Aside0 (w.heap.size < (Lib.bytesWorld w 5 s).heap.size) := ⟨by rw [Lib.bytesWorld_size]; omega⟩
  obtain ⟨W1, hW1⟩ : ∃ W1, W1 = Lib.bytesWorld w 5 s := ⟨_, rfl⟩
  rw [← hW1] at hcv HBW HR HSZ
  clear hW1
  go_enter Tryz.func144, Tryz.ntmps144
  go_wp2
  go_ret
  exact ⟨_, rfl, HR.out _, HBW.out, HSZ.out⟩
/-- The five places of a value. -/
def Five (b o : Nat) (x : Addr) : Prop := ∃ i, i < 5 ∧ x = ⟨b, o + i, none⟩
theorem five {b o : Nat} (i : Nat) (hi : i < 5) : Five b o ⟨b, o + i, none⟩ := ⟨i, hi, rfl⟩
set_option maxRecDepth 100000 in
/-- Type of a raw string: it is unescaped in its place. -/
theorem typeR (U : ByteArray → ByteArray) (w : World) (b o : Nat) (x : ByteArray) (hb : ∃ cur, w.heap[b]? = some (.cells cur TV (0, 0))) (h4 : w.cell? ⟨b, o + 4, none⟩ = some (.int .i64 7)) (h3 : w.cell? ⟨b, o + 3, none⟩ = some (.string x)) (hU : UC U x) (hG : Glob w) :
    Calls Tryz.prog 91 #[.pointer (some ⟨b, o, none⟩)] w fun e w' => e = .returned (.int .i64 3) ∧ Fr w w' (Five b o) ∧ w'.cell? ⟨b, o + 3, none⟩ = some (.string (U x)) ∧ w'.cell? ⟨b, o + 4, none⟩ = some (.int .i64 3) := by
  have HUC : Aside0 (Calls Tryz.prog 141 #[.string x] w fun e w' => e = .returned (.string (U x)) ∧ Below w.heap.size w w') := ⟨hU.2.2 w hG⟩
  have hf := free_of hb
  have HB : Aside0 (b < w.heap.size) := ⟨heap_lt hb.choose_spec⟩
  clear hb hU hG
  go_enter Tryz.func91, Tryz.ntmps91
  go_wp2_with (first | (go_at_call 141; (with_reducible refine HUC.out.mono ?_); rintro e w2 ⟨rfl, hb2⟩; have HB2 := Aside0.mk hb2; have h32 := pw_cell_below hb2 h3; have h42 := pw_cell_below hb2 h4; have h42' : (∀ u, (w2.setCell ⟨b, o + 3, none⟩ u).cell? ⟨b, o + 4, none⟩ = some (.int .i64 7)) := (fun u => (World.cell?_setCell_other _ _ _ _ (fun e => by injection e with _ e _; omega)).trans h42); have hf2 : (∀ j, w2.frozen? ⟨b, j, none⟩ = false) := (fun j => (World.frozen?_of_block (a := ⟨b, j, none⟩) (hb2.block b HB.out)).trans (hf j)); clear hb2))
  go_ret
  refine ⟨rfl, ((Fr.below HB2.out).set (five 3 (by omega)) _).set (five 4 (by omega)) _, ?_, ?_⟩
  · rw [World.cell?_setCell_other _ _ _ _ (fun e => by injection e with _ e _; omega)]
    exact World.cell?_setCell_same _ _ _ h32
  · exact World.cell?_setCell_same _ _ _ (h42' _)
set_option maxRecDepth 100000 in
theorem getStr (w : World) (b o : Nat) (x : ByteArray) (hx : x.size ≤ 1000000) (h4 : w.cell? ⟨b, o + 4, none⟩ = some (.int .i64 3)) (h3 : w.cell? ⟨b, o + 3, none⟩ = some (.string x)) :
    Calls Tryz.prog 94 #[.pointer (some ⟨b, o, none⟩), .slice none 0 0] w fun e w' => ∃ A n c, e = .returned (.slice A n c) ∧ (convert 61 9 (.slice A n c)).run Tryz.prog w' = .ok (.string x) w' ∧ Below w.heap.size w w' := by
  have HX := Aside0.mk hx
  have H4 := Aside0.mk h4
  go_enter Tryz.func94, Tryz.ntmps94
  go_wp2_with (first
    | (go_at_call 45; (with_reducible refine (get0 _ b o).mono ?_); rintro e w' ⟨rfl, rfl⟩)
    | (go_at_call 91; (refine (typeOf _ b o 3 (by decide) H4.out).mono ?_); rintro e w' ⟨rfl, rfl⟩)
    | (go_at_call 144; (with_reducible refine (s2b _ x HX.out).mono ?_); rintro e w2 ⟨c, rfl, hcv, hb, _⟩; have HB := Aside0.mk hb; have HCV := Aside0.mk hcv; clear hb hcv))
  go_ret
  exact ⟨_, _, _, rfl, HCV.out, HB.out⟩
theorem getObj (w : World) (b o : Nat) (h4 : w.cell? ⟨b, o + 4, none⟩ = some (.int .i64 1)) :
    Calls Tryz.prog 93 #[.pointer (some ⟨b, o, none⟩), .slice none 0 0] w fun e w' => e = .returned (.pointer (some ⟨b, o, none⟩)) ∧ w = w' := by
  go_enter Tryz.func93, Tryz.ntmps93
  go_wp2_with (first | (go_at_call 45; (with_reducible refine (get0 _ b o).mono ?_); rintro e w' ⟨rfl, rfl⟩))
  go_ret
  exact ⟨rfl, rfl⟩
/-- Strings all of which unescapeStringBestEffort is known of; lengths. -/
inductive Good (U : ByteArray → ByteArray) : FV → Prop
  | lit (t : Int) : t = 0 ∨ t = 5 ∨ t = 6 → Good U (.lit t)
  | str (s : List Int) : UC U (strOfNums s) → Good U (.str s)
  | num (s : List Int) : (strOfNums s).size ≤ 1000000 → Good U (.num s)
  | arr (vs : List FV) : vs.length ≤ 1000000 → (∀ v, v ∈ vs → Good U v) → Good U (.arr vs)
  | obj (ms : List (List Int × FV)) : ms.length ≤ 999999 → (∀ m, m ∈ ms → UC U (strOfNums m.1)) → (∀ m, m ∈ ms → Good U m.2) → Good U (.obj ms)
/-- What fjNode does of a value. -/
def NodeF (fv : FV) : Prop := ∀ (w : World) (F : Addr → Prop) (b o : Nat), Pl w F → Glob w → Far F → Rep w F b o fv →
    Calls Tryz.prog 50 #[.pointer (some ⟨b, o, none⟩)] w fun e w' => NodeSaid e ∧ Fr w w' F
/-- The same, of the blocks below lo alone. -/
structure FrL (lo : Nat) (w w' : World) (F : Addr → Prop) : Prop where
  out : w'.os = w.os ∧ w'.tape = w.tape ∧ w'.output = w.output
  size : w.heap.size ≤ w'.heap.size
  typ : ∀ k cur T fz, k < lo → w.heap[k]? = some (.cells cur T fz) → ∃ cur', w'.heap[k]? = some (.cells cur' T fz) ∧ cur'.size = cur.size ∧ ∀ j, ¬ F ⟨k, j, none⟩ → cur'[j]? = cur[j]?
  oth : ∀ (k : Nat) (o : Obj), k < lo → w.heap[k]? = some o → (∀ cur T fz, o ≠ Obj.cells cur T fz) → w'.heap[k]? = some o
theorem FrL.refl (lo : Nat) (w : World) (F : Addr → Prop) : FrL lo w w F := ⟨⟨rfl, rfl, rfl⟩, Nat.le_refl _, fun k cur T fz _ h => ⟨cur, h, rfl, fun _ _ => rfl⟩, fun k o _ h _ => h⟩
theorem Fr.toL {w w' : World} {F : Addr → Prop} (h : Fr w w' F) (lo : Nat) : FrL lo w w' F := ⟨h.out, h.size, fun k cur T fz _ e => h.typ k cur T fz e, fun k o _ e hn => h.oth k o e hn⟩
theorem FrL.toFr {lo : Nat} {w w' : World} {F : Addr → Prop} (h : FrL lo w w' F) (hl : w.heap.size ≤ lo) : Fr w w' F := ⟨h.out, h.size, fun k cur T fz e => h.typ k cur T fz (Nat.lt_of_lt_of_le (heap_lt e) hl) e, fun k o e hn => h.oth k o (Nat.lt_of_lt_of_le (heap_lt e) hl) e hn⟩
theorem FrL.trans {lo : Nat} {w w1 w2 : World} {F : Addr → Prop} (h : FrL lo w w1 F) (g : FrL lo w1 w2 F) : FrL lo w w2 F := by
  refine ⟨⟨g.out.1.trans h.out.1, g.out.2.1.trans h.out.2.1, g.out.2.2.trans h.out.2.2⟩, Nat.le_trans h.size g.size, fun k cur T fz hk e => ?_, fun k o hk e hn => g.oth k o hk (h.oth k o hk e hn) hn⟩
  obtain ⟨c1, a1, a2, a3⟩ := h.typ k cur T fz hk e
  obtain ⟨c2, b1, b2, b3⟩ := g.typ k c1 T fz hk a1
  exact ⟨c2, b1, b2.trans a2, fun j hj => (b3 j hj).trans (a3 j hj)⟩
theorem FrL.mono {lo lo' : Nat} {w w' : World} {F G : Addr → Prop} (h : FrL lo w w' F) (hg : ∀ x, F x → G x) (hl : lo' ≤ lo) : FrL lo' w w' G :=
  ⟨h.out, h.size, fun k cur T fz hk e => by obtain ⟨c, a1, a2, a3⟩ := h.typ k cur T fz (by omega) e; exact ⟨c, a1, a2, fun j hj => a3 j fun x => hj (hg _ x)⟩, fun k o hk => h.oth k o (by omega)⟩
theorem FrL.bel {lo : Nat} {w w1 w2 : World} {F : Addr → Prop} (h : FrL lo w w1 F) (g : Below lo w1 w2) : FrL lo w w2 F :=
  ⟨⟨g.os.trans h.out.1, g.tape.trans h.out.2.1, g.output.trans h.out.2.2⟩, Nat.le_trans h.size g.size, fun k cur T fz hk e => by obtain ⟨c, a1, a2, a3⟩ := h.typ k cur T fz hk e; exact ⟨c, (g.block k hk).trans a1, a2, a3⟩, fun k o hk e hn => (g.block k hk).trans (h.oth k o hk e hn)⟩
theorem FrL.keep {lo : Nat} {w w' : World} {F G : Addr → Prop} (h : FrL lo w w' F) (hp : ∀ x, G x → x.spot = none ∧ x.block < w.heap.size ∧ x.block < lo) (hd : ∀ x, G x → F x → False) : Keep w w' G := fun x hx => by
  obtain ⟨xb, xo, xs⟩ := x
  obtain ⟨h1, h2, h3⟩ := hp _ hx
  simp only at h1 h2 h3
  subst h1
  obtain ⟨ob, e⟩ : ∃ ob, w.heap[xb]? = some ob := ⟨w.heap[xb], Array.getElem?_eq_getElem h2⟩
  refine ⟨?_, fun cur T e => by obtain ⟨c, a1, _⟩ := h.typ xb cur T _ h3 e; exact ⟨c, a1⟩⟩
  cases ob with
  | cells cur T fz =>
    obtain ⟨c, a1, _, a3⟩ := h.typ xb cur T fz h3 e
    rw [cell_in a1, cell_in e, a3 xo (hd _ hx)]
  | _ =>
    have := h.oth xb _ h3 e (fun cur T fz hh => by cases hh)
    exact World.cell?_of_block (a := ⟨xb, xo, none⟩) (this.trans e.symm)
theorem FrL.cell {lo : Nat} {w w' : World} {F : Addr → Prop} (h : FrL lo w w' F) {b o : Nat} (hb : b < w.heap.size) (hl : b < lo) (hx : ¬ F ⟨b, o, none⟩) : w'.cell? ⟨b, o, none⟩ = w.cell? ⟨b, o, none⟩ :=
  (h.keep (G := fun x => x = ⟨b, o, none⟩) (fun x e => by subst e; exact ⟨rfl, hb, hl⟩) (fun x e => by subst e; exact hx) _ rfl).1
theorem FrL.glob {lo : Nat} {w w' : World} {F : Addr → Prop} (h : FrL lo w w' F) (hl : gb < lo) (hF : Far F) (hG : Glob w) : Glob w' := Glob.of hG (h.cell (Glob.lt hG) hl fun x => hF _ x rfl)
theorem Glob.bel {lo : Nat} {w w' : World} (hG : Glob w) (hl : gb < lo) (h : Below lo w w') : Glob w' := Glob.of hG (World.cell?_of_block (a := ⟨gb, 0, none⟩) (h.block gb hl))
/-- A block of which no place is in F. -/
theorem Fr.block {w w' : World} {F : Addr → Prop} (g : Fr w w' F) {k : Nat} (hF : ∀ x, F x → x.block ≠ k) {ob : Obj} (e : w.heap[k]? = some ob) : w'.heap[k]? = some ob := by
  cases ob with
  | cells cur T fz =>
    obtain ⟨c, a1, a2, a3⟩ := g.typ k cur T fz e
    rw [a1]
    congr 2
    exact Array.ext_getElem? fun j => a3 j fun x => hF _ x rfl
  | _ => exact g.oth k _ e (fun cur T fz hh => by cases hh)
theorem infoS : ∃ i0 z, Tryz.prog.info? 9 = some i0 ∧ i0.zero = some z ∧ z.cells.size = 1 ∧ i0.size = 1 ∧ i0.bytes = 16 := by
  have h : (Tryz.prog.info? 9).map (fun i => (i.zero.map (·.cells.size), i.size, i.bytes)) = some (some 1, 1, 16) := by kernel_rfl
  cases hi : Tryz.prog.info? 9 with
  | none => rw [hi] at h; cases h
  | some i0 =>
    rw [hi] at h
    simp only [Option.map_some, Option.some.injEq, Prod.mk.injEq] at h
    cases hz : i0.zero with
    | none => rw [hz] at h; simp at h
    | some z => rw [hz] at h; exact ⟨i0, z, rfl, hz, Option.some.inj h.1, h.2.1, h.2.2⟩
/-- append(keys, one). -/
theorem wp_key {ops : Array Oper} {rest : List Oper} {o : Oper} {a : Act} {Q : Exit → Act → World → Prop} (W : World) (lo m : Nat) (av : Value) (xs : List Value) (t : ByteArray) (hR : W.ownsRow lo 9 1 av m xs) (hlo : lo ≤ W.heap.size) (hm : m ≤ 1000000) (hgd : o.guard = none) (s x : Operand)
    (ho : o.op = .call { callee := .builtin .append, args := #[s, x], argTypes := #[22, 22] }) (hs : a.eval s = av) (hx : a.eval x = .slice (some ⟨W.heap.size, 0, none⟩) 1 1)
    (h : ∀ A c w', w'.ownsRow lo 9 1 (.slice A (m + 1) c) (m + 1) (xs ++ [.string t]) → W.grownBy w' av.ownBlock → wpList Tryz.prog ops Q rest (a.put o.dst (.slice A (m + 1) c)) w') :
    wpList Tryz.prog ops Q (o :: rest) a (W.alloc (.cells #[.string t] 9)) := by
  obtain ⟨i0, z, hi, hz, hzc, hsz, hby⟩ := infoS
  have hlo' : lo ≤ (W.alloc (.cells #[.string t] 9)).heap.size := by rw [alloc_size]; omega
  refine wpList_append_own_at (P := Tryz.prog) _ hgd s x _ ho lo 9 i0 z 1 16 Tryz.underlying22 hi hz hsz hby hzc (by decide) av m xs hs (hR.alloc _) _ 1 1 [.string t] hx rfl (cell_one_new _ _ _) (fun y hy => by simp at hy; rw [hy]; rfl) (by simp only [maxLen]; omega) (by omega) hlo' fun v' w' h1 h2 _ h3 => ?_
  rcases h1.2 with ⟨_, h0⟩ | ⟨g, cap, cur, rfl, _⟩
  · omega
  · refine h _ _ w' h1 ⟨h2.os, h2.tape, h2.output, ?_, fun k hk hr => ?_⟩
    · have := h2.size; rw [alloc_size] at this; omega
    · exact (h2.block k (by rw [alloc_size]; omega) hr).trans (heap_alloc_old W _ hk)
/-- append(nodes, one), within a region that draws its order. -/
theorem step_kid {ops : Array Oper} {o : Oper} {a : Act} {K : Act → World → Prop} {Q : Exit → Act → World → Prop} {E : Prop} (W W0 : World) (lo m g0 : Nat) (av : Value) (xs : List Value) (hR : W.ownsRow lo TN 4 av m xs) (hlo : lo ≤ W.heap.size) (hm : m ≤ 1000000) (hgd : o.guard = none) (s x : Operand)
    (ho : o.op = .call { callee := .builtin .append, args := #[s, x], argTypes := #[24, 24] }) (hs : a.eval s = av) (hx : a.eval x = .slice (some ⟨g0, 0, none⟩) 1 1) (hg0 : W.heap[g0]? = some (.cells n0 TN (0, 0)))
    (h : ∀ g c xs' w', w'.ownsRow lo TN 4 (.slice (some ⟨g, 0, none⟩) (m + 1) c) (m + 1) xs' → W.grownBy w' av.ownBlock → K (a.put o.dst (.slice (some ⟨g, 0, none⟩) (m + 1) c)) w') :
    if Region.wanted o (yielded ops a.tmps) = true then Oper.wp Tryz.prog o a W K Q else E := by
  have hw : Region.wanted o (yielded ops a.tmps) = true := by simp [Region.wanted, hgd]
  rw [if_pos hw]
  obtain ⟨i0, z, hi, hz, hzc, hsz, hby⟩ := infoN
  have hnew : ∀ j v, [Value.int .i64 0, .string ⟨#[]⟩, nilS, nilS][j]? = some v → W.cell? ((⟨g0, 0, none⟩ : Addr).add j) = some v := fun j v hj => by
    rw [add_plain, cell_in hg0]
    simpa using hj
  obtain ⟨v', w', hrun, r1, r2, _⟩ := run_append_own (P := Tryz.prog) W lo 24 o.type TN i0 z 4 72 Tryz.underlying24 hi hz hsz hby hzc (by decide) av m xs hR ⟨g0, 0, none⟩ 1 1 _ rfl hnew (fun y hy => by
    simp only [List.mem_cons, List.not_mem_nil, or_false] at hy
    rcases hy with rfl | rfl | rfl | rfl <;> rfl) (by simp only [maxLen]; omega) (by omega) hlo
  rcases r1.2 with ⟨_, h0⟩ | ⟨g, cap, cur, rfl, _⟩
  · omega
  unfold Oper.wp
  simp [execOp, ho, resolve, invoke, builtin, hs, hx, hrun, Result.andThen]
  exact h g cap _ w' r1 r2
/-- The closure's Node, in the block nb: its rows of names and of elements. -/
structure Bx (W : World) (nb i m : Nat) (kv kk : Value) (xs ys : List Value) : Prop where
  box : W.heap[nb]? = some (.cells #[.int .i64 6, emptyS, kv, kk] TN (0, 0))
  keys : W.ownsRow (nb + 1) 9 1 kv i xs
  kids : W.ownsRow (nb + 1) TN 4 kk m ys
theorem row_blocks {W W2 : World} {lo e size m : Nat} {v : Value} {zs : List Value} (h : W.ownsRow lo e size v m zs) (hb : ∀ k, lo ≤ k → ∀ ob, W.heap[k]? = some ob → W2.heap[k]? = some ob) : W2.ownsRow lo e size v m zs := ⟨h.1, h.2.imp id (by
    rintro ⟨g', cap, cur, rfl, h1, h2, rest⟩
    exact ⟨g', cap, cur, rfl, h1, hb g' h1 _ h2, rest⟩)⟩
theorem Bx.kept {W W2 : World} {nb i m : Nat} {kv kk : Value} {xs ys : List Value} (h : Bx W nb i m kv kk xs ys) (hb : ∀ k, nb ≤ k → ∀ ob, W.heap[k]? = some ob → W2.heap[k]? = some ob) : Bx W2 nb i m kv kk xs ys :=
  ⟨hb nb (Nat.le_refl _) _ h.box, row_blocks h.keys fun k hk => hb k (by omega), row_blocks h.kids fun k hk => hb k (by omega)⟩
theorem Bx.fr {W W2 : World} {F : Addr → Prop} {nb i m : Nat} {kv kk : Value} {xs ys : List Value} (h : Bx W nb i m kv kk xs ys) (g : Fr W W2 F) (hF : ∀ x, F x → x.block < nb) : Bx W2 nb i m kv kk xs ys :=
  h.kept fun k hk ob e => g.block (fun x hx => by have := hF x hx; omega) e
theorem Bx.alloc {W : World} {nb i m : Nat} {kv kk : Value} {xs ys : List Value} (h : Bx W nb i m kv kk xs ys) (o : Obj) : Bx (W.alloc o) nb i m kv kk xs ys :=
  h.kept fun k _ ob e => (heap_alloc_old W o (heap_lt e)).trans e
theorem Bx.lt {W : World} {nb i m : Nat} {kv kk : Value} {xs ys : List Value} (h : Bx W nb i m kv kk xs ys) : nb < W.heap.size := heap_lt h.box
end Go.Proofs.YtlhaefblchpjhaaGreatDoor.Fp
end
