/- Proved here: parts of the law FnJpGetUnsafe (the texts JpSwA), no conditions of their own beyond what each theorem says. -/
import Derived.Test.YtcfhnfjkiljigaaDoorPa5
section
namespace Go.Proofs.YtcfhnfjkiljigaaDoor.Jp
open Go.RowKit Go.Proofs.YtcfhnfjkiljigaaDoorW.PrintWords Go.Proofs.YtcfhnfjkiljigaaDoorW.PrintLast Go.Proofs.YtcfhnfjkiljigaaDoorW.PrintMore
attribute [local go_sem] max2_int min2_int max_two min_two max_three min_three max_four min_four
set_option linter.unusedVariables false
set_option linter.unusedSimpArgs false
/-- The search for fewer keys. -/
def SearchAt (UK : KeyRel) (b2 : Bool) (n3 : Int) (M : Nat) : Prop := ∀ (g o c : Nat) (l : List Int) (gk ok ck : Nat) (K : List ByteArray) (r : Int) (w : World), K.length < M → Row w g o l → (∀ x ∈ l, 0 ≤ x ∧ x ≤ 255) → l.length ≤ 1000000 → l.length ≤ c → g < w.heap.size → Keys w gk ok K → gk < w.heap.size → K.length ≤ 1000000 → K.length ≤ ck → UKOk UK b2 n3 w → Trace UK l K 0 false true 0 r →
  Calls Tryd.prog 45 #[.agg #[.bool false, .bool b2, .int .i64 n3], .slice (some ⟨g, o, none⟩) l.length c, .slice (some ⟨gk, ok, none⟩) K.length ck] w (Ans r w)
theorem Keys.drop {w : World} {g o : Nat} {K : List ByteArray} (h : Keys w g o K) (m : Nat) : Keys w g (o + m) (K.drop m) := fun j hj => by
 rw [List.length_drop] at hj
 have := h (m + j) (by omega)
 rw [← Nat.add_assoc] at this
 rw [this]
 congr 2
 rw [List.getD_eq_getElem?_getD, List.getD_eq_getElem?_getD, List.getElem?_drop]
set_option maxHeartbeats 16000000 in
set_option maxRecDepth 100000 in
theorem search_nil (b2 : Bool) (n3 : Int) (da : Option Addr) (n c : Nat) (ka : Option Addr) (ck : Nat) (w : World) :
  Calls Tryd.prog 45 #[.agg #[.bool false, .bool b2, .int .i64 n3], .slice da n c, .slice ka 0 ck] w (Ans 0 w) := by
 go_enter Tryd.func45, Tryd.ntmps45
 go_wp2
 go_ret
 exact ⟨rfl, below_alloc (below_alloc (Below.refl _ _) _) _⟩
/-- What an index key is, as the walk wants it. -/
structure IdxIs (ky : ByteArray) (t : Nat) : Prop where
 size : 3 ≤ ky.size ∧ ky.size ≤ 20
 first : ∀ h : 0 < ky.size, ((ky[0]'h).toNat : Int) = 91
 last : ∀ h : ky.size - 1 < ky.size, ((ky[ky.size - 1]'h).toNat : Int) = 93
 num : Lib.atoi (ky.extract 1 (ky.size - 1)).data.toList = some (t : Int)
 len : (ky.extract 1 (ky.size - 1)).size ≤ 18
set_option maxRecDepth 100000 in
theorem nil_nil (W : World) : (binOp .eql 53 (.slice none 0 0) (.slice none 0 0)).run Tryd.prog W = .ok (.bool true) W := by rfl
set_option maxRecDepth 100000 in
theorem some_nil (p : Addr) (n c : Nat) (W : World) : (binOp .eql 53 (.slice (some p) n c) (.slice none 0 0)).run Tryd.prog W = .ok (.bool false) W := by rfl
theorem five_at (w : World) (x0 x1 x2 x3 x4 : Obj) : (((((w.alloc x0).alloc x1).alloc x2).alloc x3).alloc x4).heap[w.heap.size]? = some x0 ∧ (((((w.alloc x0).alloc x1).alloc x2).alloc x3).alloc x4).heap[w.heap.size + 1]? = some x1 ∧ (((((w.alloc x0).alloc x1).alloc x2).alloc x3).alloc x4).heap[w.heap.size + 2]? = some x2 ∧ (((((w.alloc x0).alloc x1).alloc x2).alloc x3).alloc x4).heap[w.heap.size + 3]? = some x3 ∧ (((((w.alloc x0).alloc x1).alloc x2).alloc x3).alloc x4).heap[w.heap.size + 4]? = some x4 ∧ (((((w.alloc x0).alloc x1).alloc x2).alloc x3).alloc x4).heap.size = w.heap.size + 5 ∧ Below w.heap.size w (((((w.alloc x0).alloc x1).alloc x2).alloc x3).alloc x4) := by
 have hb : Below w.heap.size w (((((w.alloc x0).alloc x1).alloc x2).alloc x3).alloc x4) := below_alloc (below_alloc (below_alloc (below_alloc (below_alloc (Below.refl _ _) _) _) _) _) _
 refine ⟨?_, ?_, ?_, ?_, ?_, ?_, hb⟩
 all_goals
  first
  | show (((((w.heap.push x0).push x1).push x2).push x3).push x4)[_]? = _
  | show (((((w.heap.push x0).push x1).push x2).push x3).push x4).size = _
  simp only [Array.getElem?_push, Array.size_push]
  repeat (first | rw [if_neg (by omega)] | rw [if_pos (by omega)])
  try simp
theorem ws_zero {l : List Int} {i : Nat} {x : Int} (hi : i < l.length) (hx : rd l (i : Int) = x) (hb : Fj.blank x = false) : Fj.ws (l.drop i) = 0 := by
 rw [drop_cons hi, Fj.ws, hx, hb]; rfl
theorem idx_is {ky : ByteArray} {t : Nat} (h : IdxKey ky t) : IdxIs ky t := by
 obtain ⟨ds, h1, h2, h3, h4⟩ := h
 rw [ByteArray.toList_eq] at h1
 have hs : ky.size = ds.length + 2 := by
  rw [ByteArray.size, ← Array.length_toList, h1]; simp
 have hg : ∀ (j : Nat) (h : j < ky.size), ky[j]'h = (91 :: ds ++ [93]).getD j 0 := fun j h => by
  rw [← h1, List.getD_eq_getElem?_getD, List.getElem?_eq_getElem (by rw [Array.length_toList]; exact h)]
  rfl
 have he : (ky.extract 1 (ky.size - 1)).data.toList = ds := by
  rw [ByteArray.data_extract, Array.toList_extract, h1, hs]
  simp
 refine ⟨by omega, fun h => by rw [hg]; rfl, fun h => ?_, by rw [he]; exact h4, by rw [ByteArray.size_extract]; omega⟩
 rw [hg, hs]
 simp
set_option maxHeartbeats 64000000 in
set_option maxRecDepth 100000 in
theorem arm_arr0 (UK : KeyRel) (b2 : Bool) (n3 : Int) (g o c : Nat) (l : List Int) (gk ok ck : Nat) (K : List ByteArray) (r : Int) (w : World) (hrow : Row w g o l) (hby : ∀ x ∈ l, 0 ≤ x ∧ x ≤ 255) (hl : l.length ≤ 1000000) (hc : l.length ≤ c) (hgw : g < w.heap.size) (hkeys : Keys w gk ok K) (hgk : gk < w.heap.size) (hK : K.length ≤ 1000000) (hck : K.length ≤ ck)
  (wr : World) (hSW : SW w g o c l b2 n3 wr) (a : Act) (hfr : Fr (.slice (some ⟨gk, ok, none⟩) K.length ck) (.pointer (some ⟨w.heap.size, 0, none⟩)) (.pointer (some ⟨w.heap.size + 1, 0, none⟩)) (.int .i64 (l.length : Int)) (.int .i64 (K.length : Int)) (.pointer (some ⟨w.heap.size + 2, 0, none⟩)) a) (kl : Nat) (b lm : Bool) (i : Nat) (h7 : a.tmps.getD 7 undef = .int .i64 (kl : Int)) (h8 : a.tmps.getD 8 undef = .int .i64 ((kl + bn b : Nat) : Int)) (h9 : a.tmps.getD 9 undef = .int .i64 (i : Int)) (h12 : a.tmps.getD 12 undef = .bool lm) (hil : i < l.length)
  (h73 : a.tmps.getD 73 undef = .int .u8 91) (h91 : rd l (i : Int) = 91) (hUK : UKOk UK b2 n3 w) (hrec : SearchAt UK b2 n3 K.length) (hb : b = false) (hd : kl < K.length ∧ ∃ p1 t, IdxKey (K.getD kl ByteArray.empty) t ∧ p1 = 1 + Fj.ws (l.drop (i + 1)) ∧ ((p1 < (l.drop i).length ∧ rd (l.drop i) (p1 : Int) = 93 ∧ r = -1) ∨ (rd (l.drop i) (p1 : Int) ≠ 93 ∧ ∃ ef es, Els (l.drop i) p1 es ef ∧ es.length ≤ t ∧ r = -1)))
  (N R : Act → World → Prop) (hn : ∀ (a' : Act) (w' : World) (kl' : Nat) (b' lm' : Bool) (i' : Nat), i < i' → Fr (.slice (some ⟨gk, ok, none⟩) K.length ck) (.pointer (some ⟨w.heap.size, 0, none⟩)) (.pointer (some ⟨w.heap.size + 1, 0, none⟩)) (.int .i64 (l.length : Int)) (.int .i64 (K.length : Int)) (.pointer (some ⟨w.heap.size + 2, 0, none⟩)) a' → a'.tmps.getD 7 undef = .int .i64 (kl' : Int) → a'.tmps.getD 8 undef = .int .i64 ((kl' + bn b' : Nat) : Int) → a'.tmps.getD 9 undef = .int .i64 ((i' : Int) - 1) → a'.tmps.getD 12 undef = .bool lm' → Trace UK l K kl' b' lm' i' r → SW w g o c l b2 n3 w' → N a' w') (hr : ∀ (a' : Act) (w' : World), a'.tmps.size = 283 → a'.defers = [] → a'.tmps.getD 6 undef = .int .i64 r → Below w.heap.size w w' → R a' w') :
  sw4.wp Tryd.prog (Exit.inBlock 4 (QS N R)) a wr := by
 have HROW := Aside0.mk hrow
 have HBY := Aside0.mk hby
 have HKEY := Aside0.mk hkeys
 have HSW := Aside0.mk hSW
 have HN := Aside0.mk hn
 have HR := Aside0.mk hr
 obtain ⟨f, hf, ha⟩ := frame_lit a hfr.size hfr.defers
 have e2_ := (hf 2).trans hfr.e2
 have e3_ := (hf 3).trans hfr.e3
 have e4_ := (hf 4).trans hfr.e4
 have e10_ := (hf 10).trans hfr.e10
 have e11_ := (hf 11).trans hfr.e11
 have e13_ := (hf 13).trans hfr.e13
 have e7_ := (hf 7).trans h7
 have e8_ := (hf 8).trans h8
 have e9_ := (hf 9).trans h9
 have e12_ := (hf 12).trans h12
 have e73_ := (hf 73).trans h73
 rw [e2_, e3_, e4_, e10_, e11_, e13_, e7_, e8_, e9_, e12_, e73_] at ha
 subst ha
 clear hf e2_ e3_ e4_ e10_ e11_ e13_ e7_ e8_ e9_ e12_ e73_ hfr h7 h8 h9 h12 h73 hrow hby hkeys hSW hn hr
 unfold sw4
 conv => arg 2; whnf
 have d0 := HSW.out.d0
 have d1 := HSW.out.d1
 have d2 := HSW.out.d2
 have d3 := HSW.out.d3
 have xi := HROW.out.below HSW.out.bel i hil
 subst hb
 obtain ⟨hkl, p1, t, hidx, hp1, hdis⟩ := hd
 obtain ⟨ky, hky⟩ : ∃ ky, K.getD kl ByteArray.empty = ky := ⟨_, rfl⟩
 have xk := (HKEY.out.below HSW.out.bel hgk) kl hkl
 rw [hky] at xk hidx
 have hix := idx_is hidx
 have IS := Aside0.mk hix
 have ks1 : 3 ≤ ky.size := hix.size.1
 have ks2 : ky.size ≤ 20 := hix.size.2
 have kf := hix.first
 obtain ⟨n1, hn1⟩ : ∃ n1, ky.size - 1 = n1 := ⟨_, rfl⟩
 have kl9 := hix.last
 rw [hn1] at kl9
 have v1 : (ky.size : Int) - 1 = (n1 : Int) := by omega
 have v2 : ((n1 : Int) ≤ (ky.size : Int)) = True := eq_true (by omega)
 have v3 : (n1 ≤ ky.size) = True := eq_true (by omega)
 have v4 : ((1 : Int) ≤ (n1 : Int)) = True := eq_true (by omega)
 have v5 : (1 ≤ n1) = True := eq_true (by omega)
 have v6 : (n1 : Int) ≤ 20 := by omega
 have v7 : ((n1 : Int) < (ky.size : Int)) = True := eq_true (by omega)
 have v8 : (n1 < ky.size) = True := eq_true (by omega)
 have k1 : ((kl : Int) == (kl : Int)) = true := beq_self_eq_true _
 have k4 : (kl : Int) ≤ 1000000 := by omega
 have k6 : (kl < K.length) = True := eq_true hkl
 have k7 : ((kl : Int) < (K.length : Int)) = True := eq_true (by omega)
 have HDIS := Aside0.mk hdis
 have HP1 := Aside0.mk hp1
 clear hidx hix hky hdis hp1
 rw [bn_false]
 have H91 : Aside0 (rd l (i : Int) = 91) := ⟨h91⟩
 clear h91
 rw [H91.out] at xi
 have HAT : Aside0 (∀ W1 : World, Calls Tryd.prog 60 #[.string (ky.extract 1 (ky.size - 1))] W1 fun e w' => e = .returned (.tuple #[.int .i64 (t : Int), .nilIface]) ∧ ∃ tt, w' = Lib.bytesWorld W1 5 tt) := ⟨fun W1 => Tryd.strconv_Atoi (ky.extract 1 (ky.size - 1)) t IS.out.len IS.out.num W1⟩
 rw [hn1] at HAT
 clear hn1
 go_upto_region 71 with fail
 clear k1 kf kl9
 go_wp2_with (go_at_call 60; refine (HAT.out _).mono ?_; rintro e W5 ⟨rfl, tt, hW5⟩; have hb5 : Below wr.heap.size wr W5 := (by rw [hW5]; exact bytes_below (Below.refl _ _) (Nat.le_refl _) _ _); have HS5 := Aside0.mk (HSW.out.step hb5); obtain ⟨s, hs5⟩ : ∃ s, W5.heap.size = s := ⟨_, rfl⟩; clear hb5 hW5)
 have hfive := five_at W5 (.cells #[.int .i64 (t : Int)] 3) (.cells #[.int .i64 0] 3) (.cells #[.slice none 0 0] 53) (.cells #[.int .i64 0] 3) (.cells #[.int .i64 (i : Int)] 3)
 generalize hW6 : (((((W5.alloc (.cells #[.int .i64 (t : Int)] 3)).alloc (.cells #[.int .i64 0] 3)).alloc (.cells #[.slice none 0 0] 53)).alloc (.cells #[.int .i64 0] 3)).alloc (.cells #[.int .i64 (i : Int)] 3)) = W6 at *
 rw [hs5] at hfive
 have HS6 := Aside0.mk (HS5.out.step (by rw [hs5]; exact hfive.2.2.2.2.2.2))
 have hs3 : w.heap.size + 3 ≤ s := by rw [← hs5]; exact HS5.out.size
 have HF := Aside0.mk hfive
 have HS3 := Aside0.mk hs3
 have H5 := Aside0.mk hs5
 clear hfive hs3 hs5 hW6 d0 d1 d2 d3 xi xk
 have d0 := HS6.out.d0
 have d1 := HS6.out.d1
 have d2 := HS6.out.d2
 have d3 := HS6.out.d3
 have HCB0 : Aside0 (∀ a n cp, CbW W5 g o c l i t a n cp s (w.heap.size + 1) 0 W6) := ⟨fun a n cp => by
  obtain ⟨f0, f1, f2, f3, f4, f5, f6⟩ := HF.out
  exact ⟨f6, HROW.out.below HS6.out.bel, by omega, f0, f1, by rw [if_pos (Nat.zero_le _)]; exact f2, by rw [if_pos (Nat.zero_le _)]; exact f3, f4, HS6.out.d3⟩⟩
 have y6 : (i : Int) ≤ 1000000 := by omega
 have za1 : ((i : Int) ≤ (l.length : Int)) = True := eq_true (by omega)
 have za2 : (i ≤ l.length) = True := eq_true (by omega)
 have za3 : (c = i) = False := eq_false (by omega)
 have za4 : (c - i = 0) = False := eq_false (by omega)
 have za5 : (c ≤ i) = False := eq_false (by omega)
 have za6 : (i ≤ c) = True := eq_true (by omega)
 have za7 : (i < l.length) = True := eq_true (by omega)
 have za8 : ((i : Int) < (l.length : Int)) = True := eq_true (by omega)
 have HZ0 : Aside0 (Fj.ws (l.drop i) = 0) := ⟨ws_zero hil H91.out rfl⟩
 have HZ1 : Aside0 (p1 = 0 + 1 + Fj.ws ((l.drop i).drop (0 + 1)) ∧ (l.drop i).length = l.length - i ∧ rd (l.drop i) ((0 : Nat) : Int) = 91) := ⟨by rw [HP1.out, List.drop_drop], List.length_drop, by rw [rd_dropN]; exact H91.out⟩
 rcases HDIS.out with ⟨q1, q2, rfl⟩ | ⟨q1, ef, es, hE, q2, rfl⟩
 ·-- no elements
  have HEA : Aside0 (Calls Tryd.prog 29 #[.agg #[.bool false, .bool b2, .int .i64 n3], .slice (some ⟨g, o + i, none⟩) (l.length - i) (c - i), .func (.func 61) #[] #[.pointer (some ⟨s + 1, 0, none⟩), .pointer (some ⟨s, 0, none⟩), .pointer (some ⟨s + 2, 0, none⟩), .pointer (some ⟨s + 3, 0, none⟩), .pointer (some ⟨w.heap.size + 1, 0, none⟩), .pointer (some ⟨s + 4, 0, none⟩)], .slice none 0 0] W6.drew fun e w' => ∃ j : Int, e = .returned (.tuple #[.int .i64 j, .nilIface]) ∧ CbW W5 g o c l i t 0 0 0 s (w.heap.size + 1) 0 w') := ⟨by
   have := each_empty b2 n3 g (o + i) (c - i) (l.drop i) 61 (cbCap s (w.heap.size + 1)) 0 p1 W6.drew (fun k W => CbW W5 g o c l i t 0 0 0 s (w.heap.size + 1) k W) (CbW.below (HCB0.out 0 0 0) (below_drew (Below.refl _ _))) (fun k W W' h hb => h.below hb) (fun k W h => h.row.drop i) (fun x hx => HBY.out x (List.mem_of_mem_drop hx)) (by rw [HZ1.out.2.1]; omega) (by rw [HZ1.out.2.1]; omega) HZ0.out (by rw [HZ1.out.2.1]; omega) HZ1.out.2.2 _ rfl HZ1.out.1 (by rw [q2]; rfl) q1
   unfold cbCap at this
   rw [HZ1.out.2.1] at this
   exact this.mono fun e w' h => ⟨_, h.1, h.2⟩⟩
  clear q1 q2
  go_upto_region 78 with fail
  go_cut [] from 245 to 251 (fun wd => Aside0 (CbW W5 g o c l i t 0 0 0 s (w.heap.size + 1) 0 wd))
  case first =>
   go_region_with (go_at_call 29; refine HEA.out.mono ?_; rintro e w7 ⟨jv, rfl, h1⟩; have HC7 := Aside0.mk h1; clear h1 d0 d1 d2 d3)
   all_goals (go_wp2_with fail; go_meet; exact HC7)
  case rest =>
   have hcv := cell_of_one hcut.out.cv
   rw [if_pos (Nat.zero_le _)] at hcv
   have HB := Aside0.mk (HS5.out.step (by rw [H5.out]; exact hcut.out.bel)).bel
   have hnl : ∀ W, (binOp .eql 53 (.slice none 0 0) (.slice none 0 0)).run Tryd.prog W = .ok (.bool true) W := nil_nil
   clear hcut d0 d1 d2 d3 HCB0
   go_wp2
   refine HR.out _ _ ?_ ?_ ?_ HB.out <;> rfl
 ·-- no element of that number
  have hesl : es.length ≤ 1000000 := by have := hE.len; rw [HZ1.out.2.1] at this; omega
  have HEA : Aside0 (Calls Tryd.prog 29 #[.agg #[.bool false, .bool b2, .int .i64 n3], .slice (some ⟨g, o + i, none⟩) (l.length - i) (c - i), .func (.func 61) #[] #[.pointer (some ⟨s + 1, 0, none⟩), .pointer (some ⟨s, 0, none⟩), .pointer (some ⟨s + 2, 0, none⟩), .pointer (some ⟨s + 3, 0, none⟩), .pointer (some ⟨w.heap.size + 1, 0, none⟩), .pointer (some ⟨s + 4, 0, none⟩)], .slice none 0 0] W6.drew fun e w' => ∃ j : Int, e = .returned (.tuple #[.int .i64 j, .nilIface]) ∧ CbW W5 g o c l i t 0 0 0 s (w.heap.size + 1) es.length w') := ⟨by
   have := each_calls b2 n3 g (o + i) (c - i) (l.drop i) 61 (cbCap s (w.heap.size + 1)) 0 p1 ef es W6.drew (fun k W => CbW W5 g o c l i t 0 0 0 s (w.heap.size + 1) k W) (CbW.below (HCB0.out 0 0 0) (below_drew (Below.refl _ _))) (fun k W W' h hb => h.below hb) (fun k W h => h.row.drop i) (cb_none W5 g o c l i t s (w.heap.size + 1) W6.drew.heap.size es (by have := HS3.out; omega) (by have := HS3.out; omega) (by have := HF.out.2.2.2.2.2.1; show s + 5 ≤ W6.heap.size; omega) q2 hesl) cb_func (fun x hx => HBY.out x (List.mem_of_mem_drop hx)) (by rw [HZ1.out.2.1]; omega) (by rw [HZ1.out.2.1]; omega) HZ0.out (by rw [HZ1.out.2.1]; omega) HZ1.out.2.2 _ rfl HZ1.out.1 (beq_eq_false_iff_ne.mpr q1) hE
   unfold cbCap at this
   rw [HZ1.out.2.1] at this
   exact this.mono fun e w' h => ⟨_, h.1, h.2⟩⟩
  have HQ2 := Aside0.mk q2
  clear q1 q2 hE hesl
  go_upto_region 78 with fail
  go_cut [] from 245 to 251 (fun wd => Aside0 (CbW W5 g o c l i t 0 0 0 s (w.heap.size + 1) es.length wd))
  case first =>
   go_region_with (go_at_call 29; refine HEA.out.mono ?_; rintro e w7 ⟨jv, rfl, h1⟩; have HC7 := Aside0.mk h1; clear h1 d0 d1 d2 d3)
   all_goals (go_wp2_with fail; go_meet; exact HC7)
  case rest =>
   have hcv := cell_of_one hcut.out.cv
   rw [if_pos HQ2.out] at hcv
   have HB := Aside0.mk (HS5.out.step (by rw [H5.out]; exact hcut.out.bel)).bel
   have hnl : ∀ W, (binOp .eql 53 (.slice none 0 0) (.slice none 0 0)).run Tryd.prog W = .ok (.bool true) W := nil_nil
   clear hcut d0 d1 d2 d3 HCB0
   go_wp2
   refine HR.out _ _ ?_ ?_ ?_ HB.out <;> rfl
end Go.Proofs.YtcfhnfjkiljigaaDoor.Jp
end
