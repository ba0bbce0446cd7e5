/- Proved here: parts of the law FnJpGetUnsafe (the texts JpSwS), no conditions of their own beyond what each theorem says. -/
import Derived.Test.YtcfhnfjkiljigaaDoorPa5
section
namespace Go.Proofs.YtcfhnfjkiljigaaDoor.Jp
open Go.RowKit Go.Proofs.YtcfhnfjkiljigaaDoorW.PrintWords Go.Proofs.YtcfhnfjkiljigaaDoorW.PrintLast Go.Proofs.YtcfhnfjkiljigaaDoorW.PrintMore
attribute [local go_sem] max2_int min2_int max_two min_two max_three min_three max_four min_four
set_option linter.unusedVariables false
set_option linter.unusedSimpArgs false
set_option maxHeartbeats 64000000 in
set_option maxRecDepth 100000 in
theorem arm_str (UK : KeyRel) (b2 : Bool) (n3 : Int) (g o c : Nat) (l : List Int) (gk ok ck : Nat) (K : List ByteArray) (r : Int) (w : World) (hrow : Row w g o l) (hby : ∀ x ∈ l, 0 ≤ x ∧ x ≤ 255) (hl : l.length ≤ 1000000) (hc : l.length ≤ c) (hgw : g < w.heap.size) (hkeys : Keys w gk ok K) (hgk : gk < w.heap.size) (hK : K.length ≤ 1000000) (hck : K.length ≤ ck)
  (wr : World) (hSW : SW w g o c l b2 n3 wr) (a : Act) (hfr : Fr (.slice (some ⟨gk, ok, none⟩) K.length ck) (.pointer (some ⟨w.heap.size, 0, none⟩)) (.pointer (some ⟨w.heap.size + 1, 0, none⟩)) (.int .i64 (l.length : Int)) (.int .i64 (K.length : Int)) (.pointer (some ⟨w.heap.size + 2, 0, none⟩)) a) (kl : Nat) (b lm : Bool) (i : Nat) (h7 : a.tmps.getD 7 undef = .int .i64 (kl : Int)) (h8 : a.tmps.getD 8 undef = .int .i64 ((kl + bn b : Nat) : Int)) (h9 : a.tmps.getD 9 undef = .int .i64 (i : Int)) (h12 : a.tmps.getD 12 undef = .bool lm) (hil : i < l.length)
  (h73 : a.tmps.getD 73 undef = .int .u8 34) (hUK : UKOk UK b2 n3 w) (hd : StrStep UK l K kl b lm i r)
  (N R : Act → World → Prop) (hn : ∀ (a' : Act) (w' : World) (kl' : Nat) (b' lm' : Bool) (i' : Nat), i < i' → Fr (.slice (some ⟨gk, ok, none⟩) K.length ck) (.pointer (some ⟨w.heap.size, 0, none⟩)) (.pointer (some ⟨w.heap.size + 1, 0, none⟩)) (.int .i64 (l.length : Int)) (.int .i64 (K.length : Int)) (.pointer (some ⟨w.heap.size + 2, 0, none⟩)) a' → a'.tmps.getD 7 undef = .int .i64 (kl' : Int) → a'.tmps.getD 8 undef = .int .i64 ((kl' + bn b' : Nat) : Int) → a'.tmps.getD 9 undef = .int .i64 ((i' : Int) - 1) → a'.tmps.getD 12 undef = .bool lm' → Trace UK l K kl' b' lm' i' r → SW w g o c l b2 n3 w' → N a' w') (hr : ∀ (a' : Act) (w' : World), a'.tmps.size = 283 → a'.defers = [] → a'.tmps.getD 6 undef = .int .i64 r → Below w.heap.size w w' → R a' w') :
  sw4.wp Tryd.prog (Exit.inBlock 4 (QS N R)) a wr := by
 have HROW := Aside0.mk hrow
 have HBY := Aside0.mk hby
 have HKEY := Aside0.mk hkeys
 have HSW := Aside0.mk hSW
 have HN := Aside0.mk hn
 have HR := Aside0.mk hr
 obtain ⟨f, hf, ha⟩ := frame_lit a hfr.size hfr.defers
 have e2_ := (hf 2).trans hfr.e2
 have e3_ := (hf 3).trans hfr.e3
 have e4_ := (hf 4).trans hfr.e4
 have e10_ := (hf 10).trans hfr.e10
 have e11_ := (hf 11).trans hfr.e11
 have e13_ := (hf 13).trans hfr.e13
 have e7_ := (hf 7).trans h7
 have e8_ := (hf 8).trans h8
 have e9_ := (hf 9).trans h9
 have e12_ := (hf 12).trans h12
 have e73_ := (hf 73).trans h73
 rw [e2_, e3_, e4_, e10_, e11_, e13_, e7_, e8_, e9_, e12_, e73_] at ha
 subst ha
 clear hf e2_ e3_ e4_ e10_ e11_ e13_ e7_ e8_ e9_ e12_ e73_ hfr h7 h8 h9 h12 h73 hrow hby hkeys hSW hn hr
 unfold sw4
 conv => arg 2; whnf
 have d0 := HSW.out.d0
 have d1 := HSW.out.d1
 have d2 := HSW.out.d2
 have d3 := HSW.out.d3
 have xi := HROW.out.below HSW.out.bel i hil
 obtain ⟨q, j, hs, hdis⟩ := hd
 have hle := hs.le
 have hjl := hs.jlt
 rw [hs.quote] at xi
 obtain ⟨S, hS⟩ : ∃ S, S = i + 1 := ⟨_, rfl⟩
 obtain ⟨m, hm⟩ : ∃ m, m = q + 1 := ⟨_, rfl⟩
 obtain ⟨T, hT⟩ : ∃ T, T = i + q + 2 := ⟨_, rfl⟩
 obtain ⟨E, hE⟩ : ∃ E, E = i + q + 1 := ⟨_, rfl⟩
 obtain ⟨kv, hkv⟩ : ∃ kv, Fj.ws (l.drop T) = kv := ⟨_, rfl⟩
 have hnx := hs.next
 rw [← hT, hkv] at hnx
 have HSE : Aside0 (∀ W1, Row W1 g o l → Calls Tryd.prog 57 #[.agg #[.bool false, .bool b2, .int .i64 n3], .slice (some ⟨g, o + S, none⟩) (l.length - S) (c - S), .int .u8 34] W1 fun e w' => e = .returned (.tuple #[.int .i64 (m : Int), .bool (StrEnd.bsl (l.drop S) q)]) ∧ Below W1.heap.size W1 w') := ⟨fun W1 hr1 => by
  have := strEnd34.calls false b2 n3 g (o + S) (c - S) (l.drop S) q W1 (hr1.drop S) (fun x hx => HBY.out x (List.mem_of_mem_drop hx)) (by rw [List.length_drop]; omega) (by rw [List.length_drop]; omega) (by rw [hS]; exact hs.ends)
  rw [List.length_drop, ← hm] at this
  exact this⟩
 have HNX : Aside0 (∀ W1, Row W1 g o l → Calls Tryd.prog 44 #[.agg #[.bool false, .bool b2, .int .i64 n3], .slice (some ⟨g, o + T, none⟩) (l.length - T) (c - T)] W1 fun e w' => e = .returned (.int .i64 (kv : Int)) ∧ Below W1.heap.size W1 w') := ⟨fun W1 hr => next_at b2 n3 g o c l T kv W1 hr hl hkv (by omega)⟩
 have HSE1 := Aside0.mk (HSE.out wr.drew ((HROW.out.below HSW.out.bel).below (below_drew (Below.refl _ _))))
 have iS : (i : Int) + 1 = (S : Int) := by omega
 have iT : (S : Int) + (m : Int) = (T : Int) := by omega
 have iE : (T : Int) - 1 = (E : Int) := by omega
 have iJ : (T : Int) + (kv : Int) = (j : Int) := by omega
 have y1 : ((m : Int) == -1) = false := beq_eq_false_iff_ne.mpr (by omega)
 have y2 : ((kv : Int) == -1) = false := beq_eq_false_iff_ne.mpr (by omega)
 have y6 : (i : Int) ≤ 1000000 := by omega
 have y7 : (m : Int) ≤ 1000000 := by omega
 have y8 : (S : Int) ≤ 1000000 := by omega
 have y9 : (T : Int) ≤ 1000000 := by omega
 have y10 : (kv : Int) ≤ 1000000 := by omega
 have y11 : (j : Int) ≤ 1000000 := by omega
 have y12 : (0 : Int) < (T : Int) := by omega
 have y13 : (0 : Int) < (j : Int) := by omega
 have zi1 : ((i : Int) ≤ (l.length : Int)) = True := eq_true (by omega)
 have zi2 : (i ≤ l.length) = True := eq_true (by omega)
 have zi3 : (c = i) = False := eq_false (by omega)
 have zi4 : (c - i = 0) = False := eq_false (by omega)
 have zi5 : (c ≤ i) = False := eq_false (by omega)
 have zi6 : (i ≤ c) = True := eq_true (by omega)
 have zi7 : (i < l.length) = True := eq_true (by omega)
 have zi8 : ((i : Int) < (l.length : Int)) = True := eq_true (by omega)
 have zs1 : ((S : Int) ≤ (l.length : Int)) = True := eq_true (by omega)
 have zs2 : (S ≤ l.length) = True := eq_true (by omega)
 have zs3 : (c = S) = False := eq_false (by omega)
 have zs4 : (c - S = 0) = False := eq_false (by omega)
 have zs5 : (c ≤ S) = False := eq_false (by omega)
 have zs6 : (S ≤ c) = True := eq_true (by omega)
 have zs7 : (S < l.length) = True := eq_true (by omega)
 have zs8 : ((S : Int) < (l.length : Int)) = True := eq_true (by omega)
 have zt1 : ((T : Int) ≤ (l.length : Int)) = True := eq_true (by omega)
 have zt2 : (T ≤ l.length) = True := eq_true (by omega)
 have zt3 : (c = T) = False := eq_false (by omega)
 have zt4 : (c - T = 0) = False := eq_false (by omega)
 have zt5 : (c ≤ T) = False := eq_false (by omega)
 have zt6 : (T ≤ c) = True := eq_true (by omega)
 have zt7 : (T < l.length) = True := eq_true (by omega)
 have zt8 : ((T : Int) < (l.length : Int)) = True := eq_true (by omega)
 have zj1 : ((j : Int) ≤ (l.length : Int)) = True := eq_true (by omega)
 have zj2 : (j ≤ l.length) = True := eq_true (by omega)
 have zj3 : (c = j) = False := eq_false (by omega)
 have zj4 : (c - j = 0) = False := eq_false (by omega)
 have zj5 : (c ≤ j) = False := eq_false (by omega)
 have zj6 : (j ≤ c) = True := eq_true (by omega)
 have zj7 : (j < l.length) = True := eq_true (by omega)
 have zj8 : ((j : Int) < (l.length : Int)) = True := eq_true (by omega)
 generalize hsb : StrEnd.bsl (l.drop S) q = sb at *
 have HSB := Aside0.mk hsb
 have HIJ : Aside0 (i < j) := ⟨by omega⟩
 have hraw : ((l.drop (i + 1)).take q).length = q := by rw [List.length_take, List.length_drop]; omega
 have HRAW : Aside0 ((l.drop (i + 1)).take q = (l.drop S).take q ∧ ((l.drop S).take q).length = q) := ⟨by rw [hS], by rw [hS]; exact hraw⟩
 have HDIS := Aside0.mk hdis
 have HPOS : Aside0 (S + q = E ∧ S = i + 1 ∧ q ≤ 1000000 ∧ E ≤ c) := ⟨by omega, hS, by omega, by omega⟩
 clear hs hle hjl hS hm hT hE hkv hnx HSE hsb hraw hdis
 go_upto_region 25 with fail
 go_cut [17, 18] from 91 to 99 (fun v17 v18 wc => v17 = .int .i64 (m : Int) ∧ v18 = .bool sb ∧ Aside0 (SW w g o c l b2 n3 wc))
 case first =>
  go_region_with (go_at_call 57; refine HSE1.out.mono ?_; rintro e w4 ⟨rfl, hb4⟩; have hbb := below_step (below_drew (Below.refl _ _)) hb4; have HS4 := Aside0.mk (HSW.out.step hbb); clear hb4 hbb d0 d1 d2 d3)
  all_goals (go_wp2_with fail; go_meet; exact ⟨rfl, rfl, HS4⟩)
 case rest =>
  obtain ⟨rfl, rfl, HS4⟩ := hcut
  clear d0 d1 d2 d3 HSE1 HSW
  have d0 := HS4.out.d0
  have d1 := HS4.out.d1
  have d2 := HS4.out.d2
  have d3 := HS4.out.d3
  have HNX1 := Aside0.mk (HNX.out wc.drew ((HROW.out.below HS4.out.bel).below (below_drew (Below.refl _ _))))
  go_upto_region 30 with fail
  go_cut [20] from 107 to 111 (fun v20 wd => v20 = .int .i64 (kv : Int) ∧ Aside0 (SW w g o c l b2 n3 wd))
  case first =>
   go_region_with (go_at_call 44; refine HNX1.out.mono ?_; rintro e w5 ⟨rfl, hb5⟩; have hbb := below_step (below_drew (Below.refl _ _)) hb5; have HS5 := Aside0.mk (HS4.out.step hbb); clear hb5 hbb d0 d1 d2 d3)
   all_goals (go_wp2_with fail; go_meet; exact ⟨rfl, HS5⟩)
  case rest =>
   obtain ⟨rfl, HS5⟩ := hcut
   clear d0 d1 d2 d3 HNX1 HNX HS4
   have d0 := HS5.out.d0
   have d1 := HS5.out.d1
   have d2 := HS5.out.d2
   have d3 := HS5.out.d3
   have xj := (HROW.out.below HS5.out.bel) j (of_eq_true zj7)
   rcases HDIS.out with ⟨hc58, hT2⟩ | ⟨hc58, rfl, hkl, u, hu, hcase⟩
   ·have y58 : (rd l (j : Int) == 58) = false := beq_eq_false_iff_ne.mpr hc58
    have HT2 := Aside0.mk hT2
    clear hc58 hT2 HDIS
    go_wp2
    exact HN.out _ _ kl b lm j HIJ.out ⟨rfl, rfl, rfl, rfl, rfl, rfl, rfl, rfl⟩ rfl rfl rfl rfl HT2.out HS5.out
   ·rw [hc58] at xj
    have HU := Aside0.mk hu
    have HCASE := Aside0.mk hcase
    have hp := HPOS.out
    have k1 : ((kl : Int) + 1 < 1) = False := eq_false (by omega)
    have k2 : ((kl : Int) + 1 ≤ (K.length : Int)) = True := eq_true (by omega)
    have k3 : (kl + 1 ≤ K.length) = True := eq_true (by omega)
    have k4 : (kl : Int) ≤ 1000000 := by omega
    have k5 : (kl : Int) + 1 - 1 = (kl : Int) := by omega
    have k6 : (kl < K.length) = True := eq_true hkl
    have k7 : ((kl : Int) < (K.length : Int)) = True := eq_true (by omega)
    have xk := (HKEY.out.below HS5.out.bel hgk) kl hkl
    have pS : (S : Int) ≤ (E : Int) := by omega
    have pS1 : ((S : Int) ≤ (E : Int)) = True := eq_true pS
    have pS2 : (S ≤ E) = True := eq_true (by omega)
    have pE1 : ((E : Int) ≤ (c : Int)) = True := eq_true (by omega)
    have pE2 : (E ≤ c) = True := eq_true (by omega)
    have pE3 : E - S = q := by omega
    have pE4 : (E : Int) ≤ 1000000 := by omega
    clear hu hcase HDIS hkl hp
    rw [show ((bn true : Nat) : Int) = 1 from rfl]
    obtain ⟨bx, hbx⟩ : ∃ bx, wc.heap.size = bx := ⟨_, rfl⟩
    have hbw : w.heap.size + 3 ≤ bx := by rw [← hbx]; exact HS5.out.size
    have HBX := Aside0.mk hbx
    have HBW := Aside0.mk hbw
    have HRK := Aside0.mk ((HROW.out.below HS5.out.bel).drop S)
    clear hbw
    go_upto_if 129 with fail
    clear hbx
    go_cut [] from 130 to 139 (fun wd => ∃ (g' o' c' : Nat), Aside0 (Row wd g' o' u ∧ u.length ≤ 1000000) ∧ Aside0 (SW w g o c l b2 n3 wd) ∧ wd.cell? ⟨bx, 0, none⟩ = some (.slice (some ⟨g', o', none⟩) u.length c'))
    case first =>
     cases hsb2 : sb with
     | false =>
      have HU1 : Aside0 (u = (l.drop S).take q) := ⟨by
       have h1 := HRAW.out
       rw [← h1.1]
       refine hUK.2.1 _ _ HU.out ?_
       have h2 := HSB.out
       rw [h1.1, h1.2, bsl_take q (Nat.le_refl _)]
       exact h2.trans hsb2⟩
      subst hsb2
      have HS7 := Aside0.mk (HS5.out.step (XWords.below_alloc0 (Nat.le_refl _) (Below.refl _ _) (.cells #[.slice none 0 0] 53)))
      have hone : (wc.alloc (.cells #[.slice none 0 0] 53)).heap[bx]? = some (.cells #[.slice none 0 0] 53 (0, 0)) := by rw [← HBX.out]; exact heap_alloc_new _ _
      have x8 := cell_of_one hone
      have f8 := free_of_one hone
      have HONE := Aside0.mk hone
      clear hone
      go_wp2
      go_meet
      have hul : u.length = q := by rw [HU1.out]; exact HRAW.out.2
      have hrow7 : Row (wc.alloc (.cells #[.slice none 0 0] 53)) g (o + S) u := by rw [HU1.out]; exact Row.take ((HROW.out.below HS7.out.bel).drop S) q
      refine ⟨g, o + S, c - S, ⟨fun jj hjj => (cell_set_ne _ ?_).trans (hrow7 jj hjj), by rw [hul]; exact HPOS.out.2.2.1⟩, ⟨HS7.out.set HBW.out _⟩, ?_⟩
      ·show g ≠ bx
       have := HBW.out
       omega
      ·rw [hul]
       exact cell_of_one (one_setCell HONE.out)
     | true =>
      have HU1 : Aside0 (StrEnd.bsl ((l.drop S).take q) ((l.drop S).take q).length = true) := ⟨by
       have h1 := HRAW.out
       rw [h1.2, bsl_take q (Nat.le_refl _)]
       exact HSB.out.trans hsb2⟩
      subst hsb2
      have HS7 := Aside0.mk (HS5.out.step (XWords.below_alloc0 (Nat.le_refl _) (Below.refl _ _) (.cells #[.slice none 0 0] 53)))
      have d0 := HS7.out.d0
      have d1 := HS7.out.d1
      have d2 := HS7.out.d2
      have HUC : Aside0 (∀ W1, Below wc.heap.size wc W1 → wc.heap.size < W1.heap.size → SW w g o c l b2 n3 W1 → Calls Tryd.prog 35 #[.agg #[.bool false, .bool b2, .int .i64 n3], .slice (some ⟨g, o + S, none⟩) q (c - S), .slice (some ⟨w.heap.size + 2, 0, none⟩) 64 64] W1 fun e w' => ∃ g' o' c', e = .returned (.tuple #[.slice (some ⟨g', o', none⟩) u.length c', .nilIface]) ∧ Row w' g' o' u ∧ (g' = w.heap.size + 2 ∨ W1.heap.size ≤ g') ∧ Below (w.heap.size + 2) W1 w' ∧ (∀ b, b < W1.heap.size → b ≠ w.heap.size + 2 → w'.heap[b]? = W1.heap[b]?) ∧ (∃ cur : List Value, w'.heap[w.heap.size + 2]? = some (.cells cur.toArray 76 (0, 0)) ∧ cur.length = 64)) := ⟨fun W1 h1 h2 h3 => by
       have hq := HRAW.out.2
       have := hUK.2.2 g (o + S) (c - S) ((l.drop S).take q) u (w.heap.size + 2) W1 h3.bel (by omega) (by rw [← HRAW.out.1]; exact HU.out) HU1.out (Row.take ((HROW.out.below h3.bel).drop S) q) (fun x hx => HBY.out x (List.mem_of_mem_drop (List.mem_of_mem_take hx))) (by rw [hq]; have := HPOS.out; omega) (by rw [hq]; have := HPOS.out; omega) (by omega) (by have := h3.size; omega) h3.st
       rw [hq] at this
       exact this⟩
      have HUC1 := Aside0.mk (HUC.out (wc.alloc (.cells #[.slice none 0 0] 53)).drew (below_drew (XWords.below_alloc0 (Nat.le_refl _) (Below.refl _ _) _)) (by show _ < (wc.alloc _).heap.size; rw [World.size_alloc]; omega) (HS7.out.step (below_drew (Below.refl _ _))))
      have hone : (wc.alloc (.cells #[.slice none 0 0] 53)).heap[bx]? = some (.cells #[.slice none 0 0] 53 (0, 0)) := by rw [← HBX.out]; exact heap_alloc_new _ _
      have hsz : (wc.alloc (.cells #[.slice none 0 0] 53)).heap.size = bx + 1 := by rw [World.size_alloc, HBX.out]
      have HONE := Aside0.mk hone
      have HSZ := Aside0.mk hsz
      clear hone hsz HUC
      go_upto_region 41 with fail
      go_region_with (go_at_call 35; refine HUC1.out.mono ?_; rintro e w7 ⟨g7, o7, c7, rfl, h1, h2, h3, h4, h5⟩; have HR7 := Aside0.mk h1; have HG7 : Aside0 (g7 = w.heap.size + 2 ∨ bx + 1 ≤ g7) := ⟨by have h9 := HSZ.out; rcases h2 with h2 | h2; exact Or.inl h2; exact Or.inr (by rw [← h9]; exact h2)⟩; have HS8 := Aside0.mk ((HS7.out.step (below_drew (Below.refl _ _))).uk h3 h5); have hb7 : w7.heap[bx]? = some (.cells #[.slice none 0 0] 53 (0, 0)) := (h4 bx (by show bx < (wc.alloc _).heap.size; rw [HSZ.out]; omega) (by have := HBW.out; omega)).trans HONE.out; have HB7 := Aside0.mk hb7; clear h1 h2 h3 h4 h5 hb7 d0 d1 d2)
      all_goals
       have x7 := cell_of_one HB7.out
       have f7 := free_of_one HB7.out
       go_wp2
       go_meet
       refine ⟨g7, o7, c7, ⟨fun jj hjj => (cell_set_ne _ ?_).trans (HR7.out jj hjj), Nat.le_trans (hUK.1 _ _ HU.out) (by rw [HRAW.out.1, HRAW.out.2]; exact HPOS.out.2.2.1)⟩, ⟨HS8.out.set HBW.out _⟩, cell_of_one (one_setCell HB7.out)⟩
       show g7 ≠ bx
       have := HBW.out
       rcases HG7.out with h | h <;> omega
    case rest =>
     obtain ⟨g2, o2, c2, HRU, HS6, hbox⟩ := hcut
     clear d0 d1 d2 d3 xj xk HS5 HRK HBX HBW
     obtain ⟨ky, hky⟩ : ∃ ky, K.getD kl ByteArray.empty = ky := ⟨_, rfl⟩
     have xk := (HKEY.out.below HS6.out.bel hgk) kl (of_eq_true k6)
     rw [hky] at xk
     have HKY := Aside0.mk hky
     clear hky
     rcases HCASE.out with ⟨hne, h2⟩ | ⟨he, ⟨hk, h2⟩ | ⟨hk, hr2⟩⟩
     ·rw [HKY.out] at hne
      have HEQ := Aside0.mk (equal_box bx g2 o2 c2 wc u ky hbox HRU.out.1 HRU.out.2 false (beq_eq_false_iff_ne.mpr fun h => hne (Base.toList_inj h)))
      have HT2 := Aside0.mk h2
      clear hne h2 HCASE
      go_wp2_with (go_at_call 58; refine HEQ.out.mono ?_; rintro e w9 ⟨rfl, rfl⟩)
      exact HN.out _ _ kl true false (j + 1) (by have := HIJ.out; omega) ⟨rfl, rfl, rfl, rfl, rfl, rfl, rfl, rfl⟩ rfl (vint (bn_true kl).symm) (vint (by omega)) rfl HT2.out HS6.out
     ·rw [HKY.out] at he
      have HEQ := Aside0.mk (equal_box bx g2 o2 c2 wc u ky hbox HRU.out.1 HRU.out.2 true (by rw [he]; simp))
      have HT2 := Aside0.mk h2
      have l1 : ((kl : Int) + 1 == (K.length : Int)) = false := beq_eq_false_iff_ne.mpr (by omega)
      clear he h2 HCASE
      go_wp2_with (go_at_call 58; refine HEQ.out.mono ?_; rintro e w9 ⟨rfl, rfl⟩)
      exact HN.out _ _ (kl + 1) false true (j + 1) (by have := HIJ.out; omega) ⟨rfl, rfl, rfl, rfl, rfl, rfl, rfl, rfl⟩ (vint (by omega)) (vint (by rw [bn_false]; omega)) (vint (by omega)) rfl HT2.out HS6.out
     ·rw [HKY.out] at he
      have HEQ := Aside0.mk (equal_box bx g2 o2 c2 wc u ky hbox HRU.out.1 HRU.out.2 true (by rw [he]; simp))
      have HR2 := Aside0.mk hr2
      have l1 : ((kl : Int) + 1 == (K.length : Int)) = true := beq_iff_eq.mpr (by omega)
      clear he hr2 HCASE
      go_wp2_with (go_at_call 58; refine HEQ.out.mono ?_; rintro e w9 ⟨rfl, rfl⟩)
      refine HR.out _ _ ?_ ?_ (vint (by rw [HR2.out]; omega)) HS6.out.bel <;> rfl
end Go.Proofs.YtcfhnfjkiljigaaDoor.Jp
end
