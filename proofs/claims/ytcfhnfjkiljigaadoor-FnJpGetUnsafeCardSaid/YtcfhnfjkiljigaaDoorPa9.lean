/- Proved here: parts of the law FnJpGetUnsafe (the texts JpSwB), no conditions of their own beyond what each theorem says. -/
import Derived.Test.YtcfhnfjkiljigaaDoorPa8
section
namespace Go.Proofs.YtcfhnfjkiljigaaDoor.Jp
open Go.RowKit Go.Proofs.YtcfhnfjkiljigaaDoorW.PrintWords Go.Proofs.YtcfhnfjkiljigaaDoorW.PrintLast Go.Proofs.YtcfhnfjkiljigaaDoorW.PrintMore
attribute [local go_sem] max2_int min2_int max_two min_two max_three min_three max_four min_four
set_option linter.unusedVariables false
set_option linter.unusedSimpArgs false
set_option maxHeartbeats 64000000 in
set_option maxRecDepth 100000 in
theorem arm_arr1 (UK : KeyRel) (b2 : Bool) (n3 : Int) (g o c : Nat) (l : List Int) (gk ok ck : Nat) (K : List ByteArray) (r : Int) (w : World) (hrow : Row w g o l) (hby : ∀ x ∈ l, 0 ≤ x ∧ x ≤ 255) (hl : l.length ≤ 1000000) (hc : l.length ≤ c) (hgw : g < w.heap.size) (hkeys : Keys w gk ok K) (hgk : gk < w.heap.size) (hK : K.length ≤ 1000000) (hck : K.length ≤ ck)
  (wr : World) (hSW : SW w g o c l b2 n3 wr) (a : Act) (hfr : Fr (.slice (some ⟨gk, ok, none⟩) K.length ck) (.pointer (some ⟨w.heap.size, 0, none⟩)) (.pointer (some ⟨w.heap.size + 1, 0, none⟩)) (.int .i64 (l.length : Int)) (.int .i64 (K.length : Int)) (.pointer (some ⟨w.heap.size + 2, 0, none⟩)) a) (kl : Nat) (b lm : Bool) (i : Nat) (h7 : a.tmps.getD 7 undef = .int .i64 (kl : Int)) (h8 : a.tmps.getD 8 undef = .int .i64 ((kl + bn b : Nat) : Int)) (h9 : a.tmps.getD 9 undef = .int .i64 (i : Int)) (h12 : a.tmps.getD 12 undef = .bool lm) (hil : i < l.length)
  (h73 : a.tmps.getD 73 undef = .int .u8 91) (h91 : rd l (i : Int) = 91) (hUK : UKOk UK b2 n3 w) (hrec : SearchAt UK b2 n3 K.length) (hb : b = false) (hd : kl < K.length ∧ ∃ p1 t, IdxKey (K.getD kl ByteArray.empty) t ∧ p1 = 1 + Fj.ws (l.drop (i + 1)) ∧ (rd (l.drop i) (p1 : Int) ≠ 93 ∧ ∃ ef es, Els (l.drop i) p1 es ef ∧ ∃ a n ty s, es[t]? = some (a, n, ty) ∧ ((kl + 1 = K.length ∧ s = 0) ∨ (kl + 1 < K.length ∧ Trace UK ((l.drop (i + a)).take n) (K.drop (kl + 1)) 0 false true 0 s)) ∧ r = if s < 0 then -1 else ((i + a : Nat) : Int) + s))
  (N R : Act → World → Prop) (hn : ∀ (a' : Act) (w' : World) (kl' : Nat) (b' lm' : Bool) (i' : Nat), i < i' → Fr (.slice (some ⟨gk, ok, none⟩) K.length ck) (.pointer (some ⟨w.heap.size, 0, none⟩)) (.pointer (some ⟨w.heap.size + 1, 0, none⟩)) (.int .i64 (l.length : Int)) (.int .i64 (K.length : Int)) (.pointer (some ⟨w.heap.size + 2, 0, none⟩)) a' → a'.tmps.getD 7 undef = .int .i64 (kl' : Int) → a'.tmps.getD 8 undef = .int .i64 ((kl' + bn b' : Nat) : Int) → a'.tmps.getD 9 undef = .int .i64 ((i' : Int) - 1) → a'.tmps.getD 12 undef = .bool lm' → Trace UK l K kl' b' lm' i' r → SW w g o c l b2 n3 w' → N a' w') (hr : ∀ (a' : Act) (w' : World), a'.tmps.size = 283 → a'.defers = [] → a'.tmps.getD 6 undef = .int .i64 r → Below w.heap.size w w' → R a' w') :
  sw4.wp Tryd.prog (Exit.inBlock 4 (QS N R)) a wr := by
 have HROW := Aside0.mk hrow
 have HBY := Aside0.mk hby
 have HKEY := Aside0.mk hkeys
 have HSW := Aside0.mk hSW
 have HN := Aside0.mk hn
 have HR := Aside0.mk hr
 obtain ⟨f, hf, ha⟩ := frame_lit a hfr.size hfr.defers
 have e2_ := (hf 2).trans hfr.e2
 have e3_ := (hf 3).trans hfr.e3
 have e4_ := (hf 4).trans hfr.e4
 have e10_ := (hf 10).trans hfr.e10
 have e11_ := (hf 11).trans hfr.e11
 have e13_ := (hf 13).trans hfr.e13
 have e7_ := (hf 7).trans h7
 have e8_ := (hf 8).trans h8
 have e9_ := (hf 9).trans h9
 have e12_ := (hf 12).trans h12
 have e73_ := (hf 73).trans h73
 rw [e2_, e3_, e4_, e10_, e11_, e13_, e7_, e8_, e9_, e12_, e73_] at ha
 subst ha
 clear hf e2_ e3_ e4_ e10_ e11_ e13_ e7_ e8_ e9_ e12_ e73_ hfr h7 h8 h9 h12 h73 hrow hby hkeys hSW hn hr
 unfold sw4
 conv => arg 2; whnf
 have d0 := HSW.out.d0
 have d1 := HSW.out.d1
 have d2 := HSW.out.d2
 have d3 := HSW.out.d3
 have xi := HROW.out.below HSW.out.bel i hil
 subst hb
 obtain ⟨hkl, p1, t, hidx, hp1, hdis⟩ := hd
 obtain ⟨ky, hky⟩ : ∃ ky, K.getD kl ByteArray.empty = ky := ⟨_, rfl⟩
 have xk := (HKEY.out.below HSW.out.bel hgk) kl hkl
 rw [hky] at xk hidx
 have hix := idx_is hidx
 have IS := Aside0.mk hix
 have ks1 : 3 ≤ ky.size := hix.size.1
 have ks2 : ky.size ≤ 20 := hix.size.2
 have kf := hix.first
 obtain ⟨n1, hn1⟩ : ∃ n1, ky.size - 1 = n1 := ⟨_, rfl⟩
 have kl9 := hix.last
 rw [hn1] at kl9
 have v1 : (ky.size : Int) - 1 = (n1 : Int) := by omega
 have v2 : ((n1 : Int) ≤ (ky.size : Int)) = True := eq_true (by omega)
 have v3 : (n1 ≤ ky.size) = True := eq_true (by omega)
 have v4 : ((1 : Int) ≤ (n1 : Int)) = True := eq_true (by omega)
 have v5 : (1 ≤ n1) = True := eq_true (by omega)
 have v6 : (n1 : Int) ≤ 20 := by omega
 have v7 : ((n1 : Int) < (ky.size : Int)) = True := eq_true (by omega)
 have v8 : (n1 < ky.size) = True := eq_true (by omega)
 have k1 : ((kl : Int) == (kl : Int)) = true := beq_self_eq_true _
 have k4 : (kl : Int) ≤ 1000000 := by omega
 have k6 : (kl < K.length) = True := eq_true hkl
 have k7 : ((kl : Int) < (K.length : Int)) = True := eq_true (by omega)
 have HDIS := Aside0.mk hdis
 have HP1 := Aside0.mk hp1
 clear hidx hix hky hdis hp1
 rw [bn_false]
 have H91 : Aside0 (rd l (i : Int) = 91) := ⟨h91⟩
 clear h91
 rw [H91.out] at xi
 have HAT : Aside0 (∀ W1 : World, Calls Tryd.prog 60 #[.string (ky.extract 1 (ky.size - 1))] W1 fun e w' => e = .returned (.tuple #[.int .i64 (t : Int), .nilIface]) ∧ ∃ tt, w' = Lib.bytesWorld W1 5 tt) := ⟨fun W1 => Tryd.strconv_Atoi (ky.extract 1 (ky.size - 1)) t IS.out.len IS.out.num W1⟩
 rw [hn1] at HAT
 clear hn1
 go_upto_region 71 with fail
 clear k1 kf kl9
 go_wp2_with (go_at_call 60; refine (HAT.out _).mono ?_; rintro e W5 ⟨rfl, tt, hW5⟩; have hb5 : Below wr.heap.size wr W5 := (by rw [hW5]; exact bytes_below (Below.refl _ _) (Nat.le_refl _) _ _); have HS5 := Aside0.mk (HSW.out.step hb5); obtain ⟨s, hs5⟩ : ∃ s, W5.heap.size = s := ⟨_, rfl⟩; clear hb5 hW5)
 have hfive := five_at W5 (.cells #[.int .i64 (t : Int)] 3) (.cells #[.int .i64 0] 3) (.cells #[.slice none 0 0] 53) (.cells #[.int .i64 0] 3) (.cells #[.int .i64 (i : Int)] 3)
 generalize hW6 : (((((W5.alloc (.cells #[.int .i64 (t : Int)] 3)).alloc (.cells #[.int .i64 0] 3)).alloc (.cells #[.slice none 0 0] 53)).alloc (.cells #[.int .i64 0] 3)).alloc (.cells #[.int .i64 (i : Int)] 3)) = W6 at *
 rw [hs5] at hfive
 have HS6 := Aside0.mk (HS5.out.step (by rw [hs5]; exact hfive.2.2.2.2.2.2))
 have hs3 : w.heap.size + 3 ≤ s := by rw [← hs5]; exact HS5.out.size
 have HF := Aside0.mk hfive
 have HS3 := Aside0.mk hs3
 have H5 := Aside0.mk hs5
 clear hfive hs3 hs5 hW6 d0 d1 d2 d3 xi xk
 have d0 := HS6.out.d0
 have d1 := HS6.out.d1
 have d2 := HS6.out.d2
 have d3 := HS6.out.d3
 have HCB0 : Aside0 (∀ a n cp, CbW W5 g o c l i t a n cp s (w.heap.size + 1) 0 W6) := ⟨fun a n cp => by
  obtain ⟨f0, f1, f2, f3, f4, f5, f6⟩ := HF.out
  exact ⟨f6, HROW.out.below HS6.out.bel, by omega, f0, f1, by rw [if_pos (Nat.zero_le _)]; exact f2, by rw [if_pos (Nat.zero_le _)]; exact f3, f4, HS6.out.d3⟩⟩
 have y6 : (i : Int) ≤ 1000000 := by omega
 have za1 : ((i : Int) ≤ (l.length : Int)) = True := eq_true (by omega)
 have za2 : (i ≤ l.length) = True := eq_true (by omega)
 have za3 : (c = i) = False := eq_false (by omega)
 have za4 : (c - i = 0) = False := eq_false (by omega)
 have za5 : (c ≤ i) = False := eq_false (by omega)
 have za6 : (i ≤ c) = True := eq_true (by omega)
 have za7 : (i < l.length) = True := eq_true (by omega)
 have za8 : ((i : Int) < (l.length : Int)) = True := eq_true (by omega)
 have HZ0 : Aside0 (Fj.ws (l.drop i) = 0) := ⟨ws_zero hil H91.out rfl⟩
 have HZ1 : Aside0 (p1 = 0 + 1 + Fj.ws ((l.drop i).drop (0 + 1)) ∧ (l.drop i).length = l.length - i ∧ rd (l.drop i) ((0 : Nat) : Int) = 91) := ⟨by rw [HP1.out, List.drop_drop], List.length_drop, by rw [rd_dropN]; exact H91.out⟩
 obtain ⟨q1, ef, es, hE, a, n, ty, s9, q2, q3, hr9⟩ := HDIS.out
 clear HDIS
 have hT := hE.mem a n ty (List.mem_of_getElem? q2)
 have hTl := hT.lt
 rw [HZ1.out.2.1] at hTl
 have hesl : es.length ≤ 1000000 := by have := hE.len; rw [HZ1.out.2.1] at this; omega
 have htl : t < es.length := (List.getElem?_eq_some_iff.mp q2).1
 obtain ⟨cp, hcp⟩ : ∃ cp, cpOf ty n c (i + a) = cp := ⟨_, rfl⟩
 have hncp : n ≤ cp := by rw [← hcp]; unfold cpOf; split <;> omega
 have hok := cb_ok W5 g o c l i t a n s (w.heap.size + 1) W6.drew.heap.size ty es (by have := HS3.out; omega) (by have := HS3.out; omega) (by have := HF.out.2.2.2.2.2.1; show s + 5 ≤ W6.heap.size; omega) q2 hesl (fun a n ty h => hE.mem a n ty h) hl hc
 rw [hcp] at hok
 have HEA : Aside0 (Calls Tryd.prog 29 #[.agg #[.bool false, .bool b2, .int .i64 n3], .slice (some ⟨g, o + i, none⟩) (l.length - i) (c - i), .func (.func 61) #[] #[.pointer (some ⟨s + 1, 0, none⟩), .pointer (some ⟨s, 0, none⟩), .pointer (some ⟨s + 2, 0, none⟩), .pointer (some ⟨s + 3, 0, none⟩), .pointer (some ⟨w.heap.size + 1, 0, none⟩), .pointer (some ⟨s + 4, 0, none⟩)], .slice none 0 0] W6.drew fun e w' => ∃ j : Int, e = .returned (.tuple #[.int .i64 j, .nilIface]) ∧ CbW W5 g o c l i t a n cp s (w.heap.size + 1) es.length w') := ⟨by
  have := each_calls b2 n3 g (o + i) (c - i) (l.drop i) 61 (cbCap s (w.heap.size + 1)) 0 p1 ef es W6.drew (fun k W => CbW W5 g o c l i t a n cp s (w.heap.size + 1) k W) (CbW.below (HCB0.out a n cp) (below_drew (Below.refl _ _))) (fun k W W' h hb => h.below hb) (fun k W h => h.row.drop i) hok cb_func (fun x hx => HBY.out x (List.mem_of_mem_drop hx)) (by rw [HZ1.out.2.1]; omega) (by rw [HZ1.out.2.1]; omega) HZ0.out (by rw [HZ1.out.2.1]; omega) HZ1.out.2.2 _ rfl HZ1.out.1 (beq_eq_false_iff_ne.mpr q1) hE
  unfold cbCap at this
  rw [HZ1.out.2.1] at this
  exact this.mono fun e w' h => ⟨_, h.1, h.2⟩⟩
 have HQ3 := Aside0.mk q3
 have HR9 := Aside0.mk hr9
 have HTL := Aside0.mk htl
 obtain ⟨kn, hkn⟩ : ∃ kn, kn = kl + 1 := ⟨_, rfl⟩
 obtain ⟨P, hP⟩ : ∃ P, P = i + a := ⟨_, rfl⟩
 have kn1 : (kl : Int) + 1 = (kn : Int) := by omega
 have kn2 : IntKind.i64.wrap ((kl : Int) + 1) = (kn : Int) := by rw [IntWalk.i64_in _ (by omega)]; omega
 have kn3 : IntKind.i64.wrap (kn : Int) = (kn : Int) := IntWalk.i64_in _ (by omega)
 have hPl : P + n ≤ l.length ∧ 0 < n := by omega
 have HPP := Aside0.mk hP
 have HKN := Aside0.mk hkn
 have ya : (a : Int) ≤ 1000000 := by omega
 clear q1 q2 q3 hr9 hE hesl hok hT hTl hcp htl hkn
 go_upto_region 78 with fail
 go_cut [] from 245 to 251 (fun wd => Aside0 (CbW W5 g o c l i t a n cp s (w.heap.size + 1) es.length wd))
 case first =>
  go_region_with (go_at_call 29; refine HEA.out.mono ?_; rintro e w7 ⟨jv, rfl, h1⟩; have HC7 := Aside0.mk h1; clear h1 d0 d1 d2 d3)
  all_goals (go_wp2_with fail; go_meet; exact HC7)
 case rest =>
  have hcv := cell_of_one hcut.out.cv
  have hco := cell_of_one hcut.out.co
  rw [if_neg (Nat.not_le_of_lt HTL.out), ← hP] at hcv
  rw [if_neg (Nat.not_le_of_lt HTL.out)] at hco
  have HS7 := Aside0.mk (HS5.out.step (by rw [H5.out]; exact hcut.out.bel))
  have HSZ7 : Aside0 (s + 5 ≤ wc.heap.size) := ⟨hcut.out.size⟩
  clear hcut d0 d1 d2 d3 HCB0 HEA hP
  have d0 := HS7.out.d0
  have d1 := HS7.out.d1
  have d2 := HS7.out.d2
  have HROW7 := Aside0.mk (Row.take ((HROW.out.below HS7.out.bel).drop P) n)
  have HLEN : Aside0 (((l.drop P).take n).length = n ∧ ∀ x ∈ (l.drop P).take n, 0 ≤ x ∧ x ≤ 255) := ⟨by rw [List.length_take, List.length_drop]; omega, fun x hx => HBY.out x (List.mem_of_mem_drop (List.mem_of_mem_take hx))⟩
  have HS9 : Aside0 (s9 ≤ 1000000) := ⟨by
   rcases HQ3.out with ⟨-, h⟩ | ⟨-, h⟩
   ·omega
   ·rw [← HPP.out] at h
    have := h.res
    rw [HLEN.out.1] at this
    omega⟩
  have HSUB : Aside0 (∃ oz cz : Nat, (∀ W1, Below wc.heap.size wc W1 → Calls Tryd.prog 45 #[.agg #[.bool false, .bool b2, .int .i64 n3], .slice (some ⟨g, o + P, none⟩) n cp, .slice (some ⟨gk, oz, none⟩) (K.length - kn) cz] W1 fun e w' => e = .returned (.int .i64 s9) ∧ Below W1.heap.size W1 w') ∧ ((ck = kn ∧ oz = ok ∧ cz = 0) ∨ (kn < ck ∧ oz = ok + kn ∧ cz = ck - kn))) := ⟨by
   rcases HQ3.out with ⟨h1, h2⟩ | ⟨h1, h2⟩
   ·have hz : K.length - kn = 0 := by have := HKN.out; omega
    rw [hz]
    by_cases hck1 : ck = kn
    ·exact ⟨ok, 0, fun W1 _ => by rw [h2]; exact search_nil b2 n3 _ n cp _ _ W1, Or.inl ⟨hck1, rfl, rfl⟩⟩
    ·exact ⟨ok + kn, ck - kn, fun W1 _ => by rw [h2]; exact search_nil b2 n3 _ n cp _ _ W1, Or.inr ⟨by have := HKN.out; omega, rfl, rfl⟩⟩
   ·rw [← HPP.out, ← HKN.out] at h2
    refine ⟨ok + kn, ck - kn, fun W1 hb => ?_, Or.inr ⟨by have := HKN.out; omega, rfl, rfl⟩⟩
    have hb2 : Below w.heap.size w W1 := HS7.out.bel.trans (hb.mono (by have := HS7.out.size; omega))
    have := hrec g (o + P) cp ((l.drop P).take n) gk (ok + kn) (ck - kn) (K.drop kn) s9 W1 (by rw [List.length_drop]; have := HKN.out; omega) (Row.take ((HROW.out.below hb2).drop P) n) HLEN.out.2 (by rw [HLEN.out.1]; omega) (by rw [HLEN.out.1]; exact hncp) (Nat.lt_of_lt_of_le hgw hb2.size) (Keys.drop (HKEY.out.below hb2 hgk) kn) (Nat.lt_of_lt_of_le hgk hb2.size) (by rw [List.length_drop]; omega) (by rw [List.length_drop]; omega) (hUK.below hb2) h2
    rw [HLEN.out.1, List.length_drop] at this
    exact this⟩
  obtain ⟨oz, cz, hsub, hoz⟩ := HSUB.out
  have HSUB1 := Aside0.mk (hsub wc.drew (below_drew (Below.refl _ _)))
  clear hsub HSUB
  have w1 : ((kn : Int) ≤ (K.length : Int)) = True := eq_true (by have := HKN.out; omega)
  have w2 : (kn ≤ K.length) = True := eq_true (by have := HKN.out; omega)
  have w6 : (kn ≤ ck) = True := eq_true (by have := HKN.out; omega)
  have w7 : (kn : Int) ≤ 1000001 := by have := HKN.out; omega
  have hnl : ∀ W, (binOp .eql 53 (.slice (some ⟨g, o + P, none⟩) n cp) (.slice none 0 0)).run Tryd.prog W = .ok (.bool false) W := some_nil _ _ _
  have HHH : Aside0 (Below w.heap.size w wc ∧ w.heap.size + 3 ≤ wc.heap.size) := ⟨HS7.out.bel, HS7.out.size⟩
  go_upto_region 81 with fail
  go_cut [33] from 254 to 260 (fun v33 wd => v33 = .int .i64 s9 ∧ Aside0 (Below w.heap.size w wd) ∧ wd.cell? ⟨s + 3, 0, none⟩ = some (.int .i64 (a : Int)))
  case first =>
   rcases hoz with ⟨h1, rfl, rfl⟩ | ⟨h1, rfl, rfl⟩
   ·have w3 : (ck = kn) = True := eq_true h1
    have w4 : (ck - kn = 0) = True := eq_true (by omega)
    have w5 : (ck ≤ kn) = True := eq_true (by omega)
    clear h1
    go_region_with (go_at_call 45; refine HSUB1.out.mono ?_; rintro e w8 ⟨rfl, hb8⟩; have hbb := below_step (below_drew (Below.refl _ _)) hb8; have HB8 := Aside0.mk (HHH.out.1.trans (hbb.mono (by have := HHH.out.2; omega))); have x8 := pw_cell_below hbb hco; clear hb8 hbb d0 d1 d2 hco hcv)
    all_goals (go_wp2_with fail; go_meet; exact ⟨rfl, HB8, x8⟩)
   ·have w3 : (ck = kn) = False := eq_false (by omega)
    have w4 : (ck - kn = 0) = False := eq_false (by omega)
    have w5 : (ck ≤ kn) = False := eq_false (by omega)
    clear h1
    go_region_with (go_at_call 45; refine HSUB1.out.mono ?_; rintro e w8 ⟨rfl, hb8⟩; have hbb := below_step (below_drew (Below.refl _ _)) hb8; have HB8 := Aside0.mk (HHH.out.1.trans (hbb.mono (by have := HHH.out.2; omega))); have x8 := pw_cell_below hbb hco; clear hb8 hbb d0 d1 d2 hco hcv)
    all_goals (go_wp2_with fail; go_meet; exact ⟨rfl, HB8, x8⟩)
  case rest =>
   obtain ⟨rfl, HB9, x9⟩ := hcut
   have h9b := HS9.out
   by_cases h9 : s9 < 0
   ·have y9 : (s9 < 0) = True := eq_true h9
    have HRF : Aside0 (r = -1) := ⟨by rw [HR9.out, if_pos h9]⟩
    clear d0 d1 d2 hco hcv h9
    go_wp2
    refine HR.out _ _ ?_ ?_ ?_ HB9.out
    ·rfl
    ·rfl
    ·rw [HRF.out]; rfl
   ·have y9 : (s9 < 0) = False := eq_false h9
    have h90 : 0 ≤ s9 := by omega
    have HRF : Aside0 (r = (i : Int) + (a : Int) + s9) := ⟨by rw [HR9.out, if_neg h9]; omega⟩
    clear d0 d1 d2 hco hcv h9
    go_wp2
    refine HR.out _ _ ?_ ?_ ?_ HB9.out
    ·rfl
    ·rfl
    ·exact vint HRF.out.symm
end Go.Proofs.YtcfhnfjkiljigaaDoor.Jp
end
