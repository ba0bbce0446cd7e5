/- Proved here: parts of the law FnJpGetUnsafe (the texts JpSearch JpInner0 JpGet XFnJpGetUnsafex0 XFnJpGetUnsafex1), no conditions of their own beyond what each theorem says. -/
import Derived.Test.YtcfhnfjkiljigaaDoorPa5
import Derived.Test.YtcfhnfjkiljigaaDoorPa6
import Derived.Test.YtcfhnfjkiljigaaDoorPa7
import Derived.Test.YtcfhnfjkiljigaaDoorPa9
import Derived.Deep.CutBlock
import Derived.Test.YtcfhnfjkiljigaaDoorPa3
import Derived.Test.YtcfhnfjkiljigaaDoorPa2
import Derived.Test.YtcfhnfjkiljigaaDoorProg
import Derived.Below
import Derived.Deep.Draws
import Derived.Deep.AppendLies
import Derived.Maps.AppendAt
import Derived.OwnWalk
import Derived.Laws.BytesArg
import Derived.Laws.MakeOwn
import Derived.Laws.OwnMore
import Derived.Deep.OwnRows
import Derived.Tactics
import Derived.Lib.ConvBytes
import Derived.Laws.Slices
import Derived.WalkKit
import Derived.KernelRfl
import Derived.RowKit3
import Derived.Deep.LoopGhost
import Derived.Deep.QuietTactic
import Derived.BigQuiet
import Derived.WideLaws
import Derived.Deep.DeepCutAuto
import Derived.Deep.RegionHeld3
import Derived.Laws.Rows
import Derived.Lib.AppendStr
import Derived.ArgAppend
import Derived.Laws.IdiomCopy
import Derived.OrdersHeld
import Derived.Laws.BitsLemmas
import Derived.RowKit
import Derived.Test.YtcfhnfjkiljigaaDoorPa0
import Derived.Test.YtcfhnfjkiljigaaDoorPa1
section
namespace Go.Proofs.YtcfhnfjkiljigaaDoor.Jp
open Go.RowKit Go.Proofs.YtcfhnfjkiljigaaDoorW.PrintWords Go.Proofs.YtcfhnfjkiljigaaDoorW.PrintLast Go.Proofs.YtcfhnfjkiljigaaDoorW.PrintMore
attribute [local go_sem] max2_int min2_int max_two min_two max_three min_three max_four min_four
set_option linter.unusedVariables false
set_option linter.unusedSimpArgs false
theorem Trace.klt {UK : KeyRel} {l : List Int} {K : List ByteArray} {kl : Nat} {b lm : Bool} {i : Nat} {r : Int} (h : Trace UK l K kl b lm i r) : kl < K.length := by
 induction h with
 | skip _ _ _ ih => exact ih
 | str _ _ _ ih => exact ih
 | keyNo _ _ hk _ _ _ _ => exact hk
 | keyYes _ _ hk _ _ _ _ => omega
 | keyLast _ _ hk _ _ => omega
 | objSkip _ _ _ _ ih => exact ih
 | objIn _ _ hk _ _ => exact hk
 | arrSkip _ _ _ _ ih => exact ih
 | arrEmpty _ _ hk => exact hk
 | arrNone _ _ hk => exact hk
 | arrLast _ _ hk => omega
 | arrMore _ _ hk => omega
theorem search_round (UK : KeyRel) (b2 : Bool) (n3 : Int) (g o c : Nat) (l : List Int) (gk ok ck : Nat) (K : List ByteArray) (r : Int) (w : World) (hrow : Row w g o l) (hby : ∀ x ∈ l, 0 ≤ x ∧ x ≤ 255) (hl : l.length ≤ 1000000) (hc : l.length ≤ c) (hgw : g < w.heap.size) (hkeys : Keys w gk ok K) (hgk : gk < w.heap.size) (hK : K.length ≤ 1000000) (hck : K.length ≤ ck)
  (wr : World) (hSW : SW w g o c l b2 n3 wr) (a : Act) (hfr : Fr (.slice (some ⟨gk, ok, none⟩) K.length ck) (.pointer (some ⟨w.heap.size, 0, none⟩)) (.pointer (some ⟨w.heap.size + 1, 0, none⟩)) (.int .i64 (l.length : Int)) (.int .i64 (K.length : Int)) (.pointer (some ⟨w.heap.size + 2, 0, none⟩)) a) (kl : Nat) (b lm : Bool) (i : Nat) (h7 : a.tmps.getD 7 undef = .int .i64 (kl : Int)) (h8 : a.tmps.getD 8 undef = .int .i64 ((kl + bn b : Nat) : Int)) (h9 : a.tmps.getD 9 undef = .int .i64 (i : Int)) (h12 : a.tmps.getD 12 undef = .bool lm) (hil : i < l.length)
  (h73 : a.tmps.getD 73 undef = .int .u8 (rd l (i : Int))) (hUK : UKOk UK b2 n3 w) (hrec : SearchAt UK b2 n3 K.length) (hT : Trace UK l K kl b lm i r)
  (N R : Act → World → Prop) (hn : ∀ (a' : Act) (w' : World) (kl' : Nat) (b' lm' : Bool) (i' : Nat), i < i' → Fr (.slice (some ⟨gk, ok, none⟩) K.length ck) (.pointer (some ⟨w.heap.size, 0, none⟩)) (.pointer (some ⟨w.heap.size + 1, 0, none⟩)) (.int .i64 (l.length : Int)) (.int .i64 (K.length : Int)) (.pointer (some ⟨w.heap.size + 2, 0, none⟩)) a' → a'.tmps.getD 7 undef = .int .i64 (kl' : Int) → a'.tmps.getD 8 undef = .int .i64 ((kl' + bn b' : Nat) : Int) → a'.tmps.getD 9 undef = .int .i64 ((i' : Int) - 1) → a'.tmps.getD 12 undef = .bool lm' → Trace UK l K kl' b' lm' i' r → SW w g o c l b2 n3 w' → N a' w') (hr : ∀ (a' : Act) (w' : World), a'.tmps.size = 283 → a'.defers = [] → a'.tmps.getD 6 undef = .int .i64 r → Below w.heap.size w w' → R a' w') :
  sw4.wp Tryd.prog (Exit.inBlock 4 (QS N R)) a wr := by
 rcases hT.step with ⟨hp, h2⟩ | ⟨h34, hs⟩ | ⟨h123, hd⟩ | ⟨h91, ⟨hb, hd⟩ | ⟨hb, hk, p1, t, hx, hp1, hd⟩⟩
 ·exact arm_plain UK b2 n3 g o c l gk ok ck K r w hrow hby hl hc hgw hkeys hgk hK hck wr hSW a hfr kl b lm i h7 h8 h9 h12 hil h73 hp h2 N R hn hr
 ·exact arm_str UK b2 n3 g o c l gk ok ck K r w hrow hby hl hc hgw hkeys hgk hK hck wr hSW a hfr kl b lm i h7 h8 h9 h12 hil (by rw [h73, h34]) hUK hs N R hn hr
 ·exact arm_obj UK b2 n3 g o c l gk ok ck K r w hrow hby hl hc hgw hkeys hgk hK hck wr hSW a hfr kl b lm i h7 h8 h9 h12 hil (by rw [h73, h123]) hd N R hn hr
 ·exact arm_arrSkip UK b2 n3 g o c l gk ok ck K r w hrow hby hl hc hgw hkeys hgk hK hck wr hSW a hfr kl b lm i h7 h8 h9 h12 hil (by rw [h73, h91]) hb hd N R hn hr
 ·rcases hd with h1 | ⟨h1, ef, es, hE, h2 | h2⟩
  ·exact arm_arr0 UK b2 n3 g o c l gk ok ck K r w hrow hby hl hc hgw hkeys hgk hK hck wr hSW a hfr kl b lm i h7 h8 h9 h12 hil (by rw [h73, h91]) h91 hUK hrec hb ⟨hk, p1, t, hx, hp1, Or.inl h1⟩ N R hn hr
  ·exact arm_arr0 UK b2 n3 g o c l gk ok ck K r w hrow hby hl hc hgw hkeys hgk hK hck wr hSW a hfr kl b lm i h7 h8 h9 h12 hil (by rw [h73, h91]) h91 hUK hrec hb ⟨hk, p1, t, hx, hp1, Or.inr ⟨h1, ef, es, hE, h2⟩⟩ N R hn hr
  ·exact arm_arr1 UK b2 n3 g o c l gk ok ck K r w hrow hby hl hc hgw hkeys hgk hK hck wr hSW a hfr kl b lm i h7 h8 h9 h12 hil (by rw [h73, h91]) h91 hUK hrec hb ⟨hk, p1, t, hx, hp1, h1, ef, es, hE, h2⟩ N R hn hr
set_option maxHeartbeats 64000000 in
set_option maxRecDepth 100000 in
theorem search_main (UK : KeyRel) (b2 : Bool) (n3 : Int) (g o c : Nat) (l : List Int) (gk ok ck : Nat) (K : List ByteArray) (r : Int) (w : World) (hrow : Row w g o l) (hby : ∀ x ∈ l, 0 ≤ x ∧ x ≤ 255) (hl : l.length ≤ 1000000) (hc : l.length ≤ c) (hgw : g < w.heap.size) (hkeys : Keys w gk ok K) (hgk : gk < w.heap.size) (hK : K.length ≤ 1000000) (hck : K.length ≤ ck) (hUK : UKOk UK b2 n3 w) (hrec : SearchAt UK b2 n3 K.length) (hT : Trace UK l K 0 false true 0 r) :
  Calls Tryd.prog 45 #[.agg #[.bool false, .bool b2, .int .i64 n3], .slice (some ⟨g, o, none⟩) l.length c, .slice (some ⟨gk, ok, none⟩) K.length ck] w (Ans r w) := by
 have hK0 := hT.klt
 have HROW := Aside0.mk hrow
 have HBY := Aside0.mk hby
 have HKEY := Aside0.mk hkeys
 have HT := Aside0.mk hT
 have HUK := Aside0.mk hUK
 have HREC := Aside0.mk hrec
 clear hrow hby hkeys hT hUK hrec
 have z1 : ((K.length : Int) == 0) = false := beq_eq_false_iff_ne.mpr (by omega)
 have z2 : (K.length == 0) = false := beq_eq_false_iff_ne.mpr (by omega)
 have z3 : (K.length = 0) = False := eq_false (by omega)
 have z4 : (K = []) = False := eq_false (by rintro rfl; simp at hK0)
 go_enter Tryd.func45, Tryd.ntmps45
 go_wp2
 generalize hW : World.alloc (World.alloc (World.alloc w _) _) _ = W
 have hSW : SW w g o c l b2 n3 W := by
  rw [← hW]
  exact ⟨three_below w _ _ _, by rw [three_size]; exact Nat.le_refl _, three_a w _ _ _ _ 0 _ rfl, three_a w _ _ _ _ 1 _ rfl, three_a w _ _ _ _ 2 _ rfl, three_b w _ _ _ _ 0 _ rfl, three_c w _ _ _ _ rfl⟩
 have HSW := Aside0.mk hSW
 clear hSW hW z1 z2 z3 z4
 refine wp_loop_ghost_k (fun kq a' w' => ∃ (kl : Nat) (b lm : Bool) (i : Nat), i + kq = l.length ∧ Fr (.slice (some ⟨gk, ok, none⟩) K.length ck) (.pointer (some ⟨w.heap.size, 0, none⟩)) (.pointer (some ⟨w.heap.size + 1, 0, none⟩)) (.int .i64 (l.length : Int)) (.int .i64 (K.length : Int)) (.pointer (some ⟨w.heap.size + 2, 0, none⟩)) a' ∧ a'.tmps.getD 7 undef = .int .i64 (kl : Int) ∧ a'.tmps.getD 8 undef = .int .i64 ((kl + bn b : Nat) : Int) ∧ a'.tmps.getD 9 undef = .int .i64 (i : Int) ∧ a'.tmps.getD 12 undef = .bool lm ∧ Aside0 (Trace UK l K kl b lm i r) ∧ Aside0 (SW w g o c l b2 n3 w')) l.length ?_ ?_
 ·exact ⟨0, false, true, 0, by omega, ⟨rfl, rfl, rfl, rfl, rfl, rfl, rfl, rfl⟩, rfl, rfl, rfl, rfl, HT, HSW⟩
 rintro n a2 wr ⟨kl, b, lm, i0, hn, hfr, h7, h8, h9, h12, HT0, HSWr⟩ J2 K2 hJ2 hK2
 clear HT HSW
 obtain ⟨f1, hf, ha⟩ := frame_lit a2 hfr.size hfr.defers
 have e2_ := (hf 2).trans hfr.e2
 have e3_ := (hf 3).trans hfr.e3
 have e4_ := (hf 4).trans hfr.e4
 have e10_ := (hf 10).trans hfr.e10
 have e11_ := (hf 11).trans hfr.e11
 have e13_ := (hf 13).trans hfr.e13
 have e7_ := (hf 7).trans h7
 have e8_ := (hf 8).trans h8
 have e9_ := (hf 9).trans h9
 have e12_ := (hf 12).trans h12
 rw [e2_, e3_, e4_, e10_, e11_, e13_, e7_, e8_, e9_, e12_] at ha
 subst ha
 clear hf e2_ e3_ e4_ e10_ e11_ e13_ e7_ e8_ e9_ e12_ hfr h7 h8 h9 h12
 have HN := Aside0.mk hn
 clear hn
 have hil0 : i0 < l.length := HT0.out.lt
 have z5 : ((i0 : Int) < (l.length : Int)) = True := eq_true (by omega)
 have z6 : (i0 < l.length) = True := eq_true hil0
 have d3 := HSWr.out.d3
 go_wp2
 refine wp_cut_block (fun a' w' => ∃ i : Nat, i0 ≤ i ∧ Fr (.slice (some ⟨gk, ok, none⟩) K.length ck) (.pointer (some ⟨w.heap.size, 0, none⟩)) (.pointer (some ⟨w.heap.size + 1, 0, none⟩)) (.int .i64 (l.length : Int)) (.int .i64 (K.length : Int)) (.pointer (some ⟨w.heap.size + 2, 0, none⟩)) a' ∧ a'.tmps.getD 7 undef = .int .i64 (kl : Int) ∧ a'.tmps.getD 8 undef = .int .i64 ((kl + bn b : Nat) : Int) ∧ a'.tmps.getD 9 undef = .int .i64 (i : Int) ∧ a'.tmps.getD 12 undef = .bool lm ∧ Aside0 (Trace UK l K kl b lm i r ∧ ¬ fast (rd l (i : Int))) ∧ w' = wr) ?_ ?_
 rotate_left
 ·intro J1 K1 hJ1 hK1
  refine wp_loop_ghost_k (fun kq a' w' => ∃ i : Nat, i + kq = l.length ∧ i0 ≤ i ∧ Fr (.slice (some ⟨gk, ok, none⟩) K.length ck) (.pointer (some ⟨w.heap.size, 0, none⟩)) (.pointer (some ⟨w.heap.size + 1, 0, none⟩)) (.int .i64 (l.length : Int)) (.int .i64 (K.length : Int)) (.pointer (some ⟨w.heap.size + 2, 0, none⟩)) a' ∧ a'.tmps.getD 7 undef = .int .i64 (kl : Int) ∧ a'.tmps.getD 8 undef = .int .i64 ((kl + bn b : Nat) : Int) ∧ a'.tmps.getD 9 undef = .int .i64 (i : Int) ∧ a'.tmps.getD 12 undef = .bool lm ∧ Aside0 (Trace UK l K kl b lm i r) ∧ w' = wr) (l.length - i0) ?_ ?_
  ·exact ⟨i0, by omega, Nat.le_refl _, ⟨rfl, rfl, rfl, rfl, rfl, rfl, rfl, rfl⟩, rfl, rfl, rfl, rfl, HT0, rfl⟩
  rintro n3 a4 w4 ⟨i, hk, hij, hfr, h7, h8, h9, h12, HTi, rfl⟩ J4 K4 hJ4 hK4
  obtain ⟨f2, hf, ha⟩ := frame_lit a4 hfr.size hfr.defers
  have e2_ := (hf 2).trans hfr.e2
  have e3_ := (hf 3).trans hfr.e3
  have e4_ := (hf 4).trans hfr.e4
  have e10_ := (hf 10).trans hfr.e10
  have e11_ := (hf 11).trans hfr.e11
  have e13_ := (hf 13).trans hfr.e13
  have e7_ := (hf 7).trans h7
  have e8_ := (hf 8).trans h8
  have e9_ := (hf 9).trans h9
  have e12_ := (hf 12).trans h12
  rw [e2_, e3_, e4_, e10_, e11_, e13_, e7_, e8_, e9_, e12_] at ha
  subst ha
  clear hf e2_ e3_ e4_ e10_ e11_ e13_ e7_ e8_ e9_ e12_ hfr h7 h8 h9 h12
  have HKK : Aside0 (i + n3 = l.length ∧ i0 ≤ i ∧ i < l.length) := ⟨hk, hij, HTi.out.lt⟩
  have hil : i < l.length := HTi.out.lt
  clear z5 z6 hk hij
  have z5 : ((i : Int) < (l.length : Int)) = True := eq_true (by omega)
  have z6 : (i < l.length) = True := eq_true hil
  have hx := HROW.out.below HSWr.out.bel i hil
  obtain ⟨x, hxx⟩ : ∃ x, rd l (i : Int) = x := ⟨_, rfl⟩
  rw [hxx] at hx
  have HXX := Aside0.mk hxx
  clear hxx
  have y6 : (i : Int) ≤ 1000000 := by omega
  have hgo : Aside0 (fast x → Trace UK l K kl b lm (i + 1) r) := ⟨fun h => HTi.out.fast (by rw [HXX.out]; exact h)⟩
  by_cases c1 : x ≤ 32
  ·have HS' : Aside0 (Trace UK l K kl b lm (i + 1) r) := ⟨hgo.out (Or.inl c1)⟩
   clear hgo HTi
   go_wp2
   refine Handed.intro (n3 - 1) (by have := HKK.out; omega) (hJ4 _ _ _ ?_)
   exact ⟨i + 1, by have := HKK.out; omega, by have := HKK.out; omega, ⟨rfl, rfl, rfl, rfl, rfl, rfl, rfl, rfl⟩, rfl, rfl, vint (by omega), rfl, HS', rfl⟩
  ·by_cases c2 : 92 < x ∧ x ≠ 123 ∧ x ≠ 125
   ·have HS' : Aside0 (Trace UK l K kl b lm (i + 1) r) := ⟨hgo.out (Or.inr c2)⟩
    have e2 : decide (92 < x) = true := decide_eq_true c2.1
    have e3 : (x != 123) = true := bne_iff_ne.mpr c2.2.1
    have e4 : (x != 125) = true := bne_iff_ne.mpr c2.2.2
    clear hgo HTi c2
    go_wp2
    refine Handed.intro (n3 - 1) (by have := HKK.out; omega) (hJ4 _ _ _ ?_)
    exact ⟨i + 1, by have := HKK.out; omega, by have := HKK.out; omega, ⟨rfl, rfl, rfl, rfl, rfl, rfl, rfl, rfl⟩, rfl, rfl, vint (by omega), rfl, HS', rfl⟩
   ·have HF : Aside0 (Trace UK l K kl b lm i r ∧ ¬ fast (rd l (i : Int))) := ⟨HTi.out, fun h => by rw [HXX.out] at h; exact h.elim c1 c2⟩
    clear hgo HTi
    rcases (show (decide (92 < x) = false) ∨ (decide (92 < x) = true ∧ (x != 123) = false) ∨ (decide (92 < x) = true ∧ (x != 123) = true ∧ (x != 125) = false) by
     by_cases a1 : 92 < x
     ·by_cases a2 : x = 123
      ·exact Or.inr (Or.inl ⟨decide_eq_true a1, bne_eq_false_iff_eq.mpr a2⟩)
      ·exact Or.inr (Or.inr ⟨decide_eq_true a1, bne_iff_ne.mpr a2, bne_eq_false_iff_eq.mpr (by by_cases a3 : x = 125; exact a3; exact absurd ⟨a1, a2, a3⟩ c2)⟩)
     ·exact Or.inl (decide_eq_false a1)) with e2 | ⟨e2, e3⟩ | ⟨e2, e3, e4⟩
    all_goals
     clear c2
     go_wp2
     exact Met.intro (hJ1 _ _ ⟨i, HKK.out.2.1, ⟨rfl, rfl, rfl, rfl, rfl, rfl, rfl, rfl⟩, rfl, rfl, rfl, rfl, HF, rfl⟩)
 ·rintro a3 w3 ⟨i, hii, hfr, h7, h8, h9, h12, HTF, rfl⟩
  obtain ⟨f3, hf, ha⟩ := frame_lit a3 hfr.size hfr.defers
  have e2_ := (hf 2).trans hfr.e2
  have e3_ := (hf 3).trans hfr.e3
  have e4_ := (hf 4).trans hfr.e4
  have e10_ := (hf 10).trans hfr.e10
  have e11_ := (hf 11).trans hfr.e11
  have e13_ := (hf 13).trans hfr.e13
  have e7_ := (hf 7).trans h7
  have e8_ := (hf 8).trans h8
  have e9_ := (hf 9).trans h9
  have e12_ := (hf 12).trans h12
  rw [e2_, e3_, e4_, e10_, e11_, e13_, e7_, e8_, e9_, e12_] at ha
  subst ha
  clear hf e2_ e3_ e4_ e10_ e11_ e13_ e7_ e8_ e9_ e12_ hfr h7 h8 h9 h12
  have hil : i < l.length := HTF.out.1.lt
  have HII : Aside0 (i0 ≤ i ∧ i < l.length) := ⟨hii, hil⟩
  clear z5 z6 hii
  have z5 : ((i : Int) < (l.length : Int)) = True := eq_true (by omega)
  have z6 : (i < l.length) = True := eq_true hil
  have z7 : ((l.length : Int) ≤ (i : Int)) = False := eq_false (by omega)
  have z8 : (l.length ≤ i) = False := eq_false (by omega)
  have hx := HROW.out.below HSWr.out.bel i hil
  go_upto_block 4 with (fail)
  refine wp_mono (Q := QS (fun a' w' => ∃ (kl' : Nat) (b' lm' : Bool) (i' : Nat), i < i' ∧ Fr (.slice (some ⟨gk, ok, none⟩) K.length ck) (.pointer (some ⟨w.heap.size, 0, none⟩)) (.pointer (some ⟨w.heap.size + 1, 0, none⟩)) (.int .i64 (l.length : Int)) (.int .i64 (K.length : Int)) (.pointer (some ⟨w.heap.size + 2, 0, none⟩)) a' ∧ a'.tmps.getD 7 undef = .int .i64 (kl' : Int) ∧ a'.tmps.getD 8 undef = .int .i64 ((kl' + bn b' : Nat) : Int) ∧ a'.tmps.getD 9 undef = .int .i64 ((i' : Int) - 1) ∧ a'.tmps.getD 12 undef = .bool lm' ∧ Trace UK l K kl' b' lm' i' r ∧ SW w g o c l b2 n3 w') (fun a' w' => a'.tmps.size = 283 ∧ a'.defers = [] ∧ a'.tmps.getD 6 undef = .int .i64 r ∧ Below w.heap.size w w')) (wp_block ?_) ?_
  ·refine search_round UK b2 n3 g o c l gk ok ck K r w HROW.out HBY.out hl hc hgw HKEY.out hgk hK hck _ HSWr.out _ ?_ kl b lm i ?_ ?_ ?_ ?_ hil ?_ HUK.out HREC.out HTF.out.1 _ _ ?_ ?_
   ·exact ⟨rfl, rfl, rfl, rfl, rfl, rfl, rfl, rfl⟩
   ·rfl
   ·rfl
   ·rfl
   ·rfl
   ·rfl
   ·exact fun a' w' kl' b' lm' i' h1 h2 h3 h4 h5 h6 h7 h8 => ⟨kl', b', lm', i', h1, h2, h3, h4, h5, h6, h7, h8⟩
   ·exact fun a' w' h1 h2 h3 h4 => ⟨h1, h2, h3, h4⟩
  ·intro e a5 w5 hq
   cases e with
   | normal =>
    obtain ⟨kl', b', lm', i', hii', hfr, h7, h8, h9, h12, hT5, hS5⟩ := hq
    have HT5 := Aside0.mk hT5
    have HS5 := Aside0.mk hS5
    have HI5 : Aside0 (i < i' ∧ i' < l.length) := ⟨hii', hT5.lt⟩
    have e9 : (i' : Int) - 1 + 1 = (i' : Int) := by omega
    have y5 : (i' : Int) ≤ 1000000 := by have := hT5.lt; omega
    have y6 : (0 : Int) < (i' : Int) := by omega
    clear hii' hT5 hS5 HTF z5 z6 z7 z8 hx hil d3
    obtain ⟨f4, hf, ha⟩ := frame_lit a5 hfr.size hfr.defers
    have e2_ := (hf 2).trans hfr.e2
    have e3_ := (hf 3).trans hfr.e3
    have e4_ := (hf 4).trans hfr.e4
    have e10_ := (hf 10).trans hfr.e10
    have e11_ := (hf 11).trans hfr.e11
    have e13_ := (hf 13).trans hfr.e13
    have e7_ := (hf 7).trans h7
    have e8_ := (hf 8).trans h8
    have e9_ := (hf 9).trans h9
    have e12_ := (hf 12).trans h12
    rw [e2_, e3_, e4_, e10_, e11_, e13_, e7_, e8_, e9_, e12_] at ha
    subst ha
    clear hf e2_ e3_ e4_ e10_ e11_ e13_ e7_ e8_ e9_ e12_ hfr h7 h8 h9 h12
    go_wp2
    refine Handed.intro (n - (i' - i0)) (by have := HN.out; have := HI5.out; have := HII.out; omega) (hJ2 _ _ _ ?_)
    exact ⟨kl', b', lm', i', by have := HN.out; have := HI5.out; have := HII.out; omega, ⟨rfl, rfl, rfl, rfl, rfl, rfl, rfl, rfl⟩, rfl, rfl, rfl, rfl, HT5, HS5⟩
   | ret =>
    obtain ⟨h1, h2, h3, h4⟩ := hq
    exact bodyPost_ret (results_tmp rfl _ _ _) h2 ⟨by rw [h3], h4⟩
   | exit id => exact hq.elim
   | goto l => exact hq.elim
   | panic ch => exact hq.elim
   | outgrown => exact hq.elim
/-- The search for whatever keys. -/
theorem search_at (UK : KeyRel) (b2 : Bool) (n3 : Int) : ∀ M, SearchAt UK b2 n3 M
 | 0 => fun g o c l gk ok ck K r w h => absurd h (Nat.not_lt_zero _)
 | M + 1 => fun g o c l gk ok ck K r w h hrow hby hl hc hgw hkeys hgk hK hck hUK hT => search_main UK b2 n3 g o c l gk ok ck K r w hrow hby hl hc hgw hkeys hgk hK hck hUK (fun g' o' c' l' gk' ok' ck' K' r' w' h' => search_at UK b2 n3 M g' o' c' l' gk' ok' ck' K' r' w' (by omega)) hT
end Go.Proofs.YtcfhnfjkiljigaaDoor.Jp
end
section
namespace Go.Proofs.YtcfhnfjkiljigaaDoor.Jp
open Go.RowKit Go.Proofs.YtcfhnfjkiljigaaDoorW.PrintWords Go.Proofs.YtcfhnfjkiljigaaDoorW.PrintLast Go.Proofs.YtcfhnfjkiljigaaDoorW.PrintMore
attribute [local go_sem] max2_int min2_int max_two min_two max_three min_three max_four min_four
set_option linter.unusedVariables false
set_option linter.unusedSimpArgs false
set_option maxHeartbeats 16000000 in
set_option maxRecDepth 100000 in
theorem inner0sg (b2 : Bool) (n3 : Int) (g o c : Nat) (l : List Int) (p n : Nat) (w : World) (hrow : Row w g o l) (hl : l.length ≤ 1000000) (hc : l.length ≤ c) (ka : Option Addr) (ck : Nat) (hs0 : 0 < l.length) (hp : 0 + Fj.ws (l.drop 0) = p) (hpl : p < l.length) (hpn : p + n ≤ l.length) (hn2 : 2 ≤ n) (hT : ∀ W1, Row W1 g o l → Calls Tryd.prog 62 #[.agg #[.bool false, .bool b2, .int .i64 n3], .slice (some ⟨g, o, none⟩) l.length c, .int .i64 (p : Int)] W1 fun e w' => TypeAns g o c p n 1 e ∧ Below W1.heap.size W1 w') :
  Calls Tryd.prog 46 #[.agg #[.bool false, .bool b2, .int .i64 n3], .slice (some ⟨g, o, none⟩) l.length c, .slice ka 0 ck] w fun e w' => Ans5 g (o + p + 1) (n - 2) 1 p (p + n) e ∧ Below w.heap.size w w' := by
 obtain ⟨W, hW⟩ : ∃ W, w.alloc (.cells #[.bool false, .bool b2, .int .i64 n3] 61) = W := ⟨_, rfl⟩
 obtain ⟨cf, hcf⟩ : ∃ cf, w.heap.size = cf := ⟨_, rfl⟩
 have hBW : Below w.heap.size w W := by rw [← hW]; exact XWords.below_alloc0 (Nat.le_refl _) (Below.refl w.heap.size w) _
 have HBW := Aside0.mk hBW
 have HROW := Aside0.mk hrow
 have d0 : W.cell? ⟨cf, 0, none⟩ = some (.bool false) := by rw [← hW, ← hcf]; exact World.cell?_alloc_new w #[.bool false, .bool b2, .int .i64 n3] 61 0
 have d1 : W.cell? ⟨cf, 1, none⟩ = some (.bool b2) := by rw [← hW, ← hcf]; exact World.cell?_alloc_new w #[.bool false, .bool b2, .int .i64 n3] 61 1
 have d2 : W.cell? ⟨cf, 2, none⟩ = some (.int .i64 n3) := by rw [← hW, ← hcf]; exact World.cell?_alloc_new w #[.bool false, .bool b2, .int .i64 n3] 61 2
 obtain ⟨k, hk⟩ : ∃ k, Fj.ws (l.drop 0) = k := ⟨_, rfl⟩
 have HNX : Aside0 (∀ W1, Row W1 g o l → Calls Tryd.prog 44 #[.agg #[.bool false, .bool b2, .int .i64 n3], .slice (some ⟨g, o + 0, none⟩) (l.length - 0) (c - 0)] W1 fun e w' => e = .returned (.int .i64 (k : Int)) ∧ Below W1.heap.size W1 w') := ⟨fun W1 hr => by
  have := next_calls false b2 n3 g (o + 0) (c - 0) (l.drop 0) W1 (hr.drop 0) (by rw [List.length_drop]; omega)
  have hne : nextI (l.drop 0) = (k : Int) := by
   unfold nextI
   rw [hk, if_neg (by rw [List.length_drop]; omega)]
  rw [List.length_drop, hne] at this
  exact this⟩
 rw [hk] at hp
 obtain ⟨E, hE⟩ : ∃ E, E = p + n := ⟨_, rfl⟩
 have HE := Aside0.mk hE
 have HT : Aside0 (∀ W1, Row W1 g o l → Calls Tryd.prog 62 #[.agg #[.bool false, .bool b2, .int .i64 n3], .slice (some ⟨g, o, none⟩) l.length c, .int .i64 (p : Int)] W1 fun e w' => e = .returned (.tuple #[.slice (some ⟨g, o + p, none⟩) n (c - p), .int .i64 1, .int .i64 (E : Int), .nilIface]) ∧ Below W1.heap.size W1 w') := ⟨fun W1 hr => by
  have := hT W1 hr
  unfold TypeAns at this
  rw [← hE] at this
  exact this⟩
 have k1 : ((k : Int) == -1) = false := beq_eq_false_iff_ne.mpr (by omega)
 have k2 : (k : Int) ≤ 1000000 := by omega
 have hcp : n ≤ c - p := by omega
 have hn9 : (n : Int) ≤ 1000000 := by omega
 have hpk : (k : Int) = (p : Int) := by omega
 have v1 : ((c - p : Nat) : Int) = (c : Int) - (p : Int) := by omega
 have v2 : (c - p = 1) = False := eq_false (by omega)
 have v3 : (c - p - 1 = 0) = False := eq_false (by omega)
 have v4 : ((n : Int) - 1).toNat = n - 1 := by omega
 have v5 : n - 1 - 1 = n - 2 := by omega
 have v6 : (n - 1 ≤ c - p) = True := eq_true (by omega)
 have v7 : (1 ≤ n - 1) = True := eq_true (by omega)
 have v8 : ((n : Int) - 1 ≤ (c : Int) - (p : Int)) = True := eq_true (by omega)
 have v9 : (n - 2 ≤ c - p - 1) = True := eq_true (by omega)
 have v10 : n - 2 ≤ c - p - 1 := by omega
 have v11 : ((n - 2 : Nat) : Int) = (n : Int) - 2 := by omega
 clear hrow hs0 hpl hpn hT hE hBW hk hp
 go_enter Tryd.func46, Tryd.ntmps46
 go_wp2
 have HNX1 := Aside0.mk (HNX.out W.drew (HROW.out.below (below_drew HBW.out)))
 go_region_with (go_at_call 44; refine HNX1.out.mono ?_; rintro e w2 ⟨rfl, hb2⟩; have HB2 := Aside0.mk (below_step (below_drew HBW.out) hb2); have e0 := pw_cell_below (w := W.drew) hb2 d0; have e1 := pw_cell_below (w := W.drew) hb2 d1; have e2 := pw_cell_below (w := W.drew) hb2 d2; clear hb2)
 all_goals have HT1 := Aside0.mk (HT.out w2 (HROW.out.below HB2.out))
 all_goals go_wp2_with (go_at_call 62; refine HT1.out.mono ?_; rintro e w3 ⟨rfl, hb3⟩; have HB3 := Aside0.mk (below_step HB2.out hb3); clear hb3)
 all_goals refine bodyPost_ret (results_tmp5 rfl _ _ _) rfl ?_
 all_goals exact ⟨by unfold Ans5; rw [← HE.out]; rfl, HB3.out⟩
set_option maxHeartbeats 16000000 in
set_option maxRecDepth 100000 in
theorem inner0vg (b2 : Bool) (n3 : Int) (g o c : Nat) (l : List Int) (p n : Nat) (ty : Int) (w : World) (hrow : Row w g o l) (hl : l.length ≤ 1000000) (hc : l.length ≤ c) (ka : Option Addr) (ck : Nat) (hs0 : 0 < l.length) (hp : 0 + Fj.ws (l.drop 0) = p) (hpl : p < l.length) (hpn : p + n ≤ l.length) (hty : (ty == 1) = false) (hT : ∀ W1, Row W1 g o l → Calls Tryd.prog 62 #[.agg #[.bool false, .bool b2, .int .i64 n3], .slice (some ⟨g, o, none⟩) l.length c, .int .i64 (p : Int)] W1 fun e w' => TypeAns g o c p n ty e ∧ Below W1.heap.size W1 w') :
  Calls Tryd.prog 46 #[.agg #[.bool false, .bool b2, .int .i64 n3], .slice (some ⟨g, o, none⟩) l.length c, .slice ka 0 ck] w fun e w' => Ans5 g (o + p) n ty p (p + n) e ∧ Below w.heap.size w w' := by
 obtain ⟨W, hW⟩ : ∃ W, w.alloc (.cells #[.bool false, .bool b2, .int .i64 n3] 61) = W := ⟨_, rfl⟩
 obtain ⟨cf, hcf⟩ : ∃ cf, w.heap.size = cf := ⟨_, rfl⟩
 have hBW : Below w.heap.size w W := by rw [← hW]; exact XWords.below_alloc0 (Nat.le_refl _) (Below.refl w.heap.size w) _
 have HBW := Aside0.mk hBW
 have HROW := Aside0.mk hrow
 have d0 : W.cell? ⟨cf, 0, none⟩ = some (.bool false) := by rw [← hW, ← hcf]; exact World.cell?_alloc_new w #[.bool false, .bool b2, .int .i64 n3] 61 0
 have d1 : W.cell? ⟨cf, 1, none⟩ = some (.bool b2) := by rw [← hW, ← hcf]; exact World.cell?_alloc_new w #[.bool false, .bool b2, .int .i64 n3] 61 1
 have d2 : W.cell? ⟨cf, 2, none⟩ = some (.int .i64 n3) := by rw [← hW, ← hcf]; exact World.cell?_alloc_new w #[.bool false, .bool b2, .int .i64 n3] 61 2
 obtain ⟨k, hk⟩ : ∃ k, Fj.ws (l.drop 0) = k := ⟨_, rfl⟩
 have HNX : Aside0 (∀ W1, Row W1 g o l → Calls Tryd.prog 44 #[.agg #[.bool false, .bool b2, .int .i64 n3], .slice (some ⟨g, o + 0, none⟩) (l.length - 0) (c - 0)] W1 fun e w' => e = .returned (.int .i64 (k : Int)) ∧ Below W1.heap.size W1 w') := ⟨fun W1 hr => by
  have := next_calls false b2 n3 g (o + 0) (c - 0) (l.drop 0) W1 (hr.drop 0) (by rw [List.length_drop]; omega)
  have hne : nextI (l.drop 0) = (k : Int) := by
   unfold nextI
   rw [hk, if_neg (by rw [List.length_drop]; omega)]
  rw [List.length_drop, hne] at this
  exact this⟩
 rw [hk] at hp
 obtain ⟨E, hE⟩ : ∃ E, E = p + n := ⟨_, rfl⟩
 have HE := Aside0.mk hE
 have HT : Aside0 (∀ W1, Row W1 g o l → Calls Tryd.prog 62 #[.agg #[.bool false, .bool b2, .int .i64 n3], .slice (some ⟨g, o, none⟩) l.length c, .int .i64 (p : Int)] W1 fun e w' => e = .returned (.tuple #[.slice (some ⟨g, o + p, none⟩) n (c - p), .int .i64 ty, .int .i64 (E : Int), .nilIface]) ∧ Below W1.heap.size W1 w') := ⟨fun W1 hr => by
  have := hT W1 hr
  unfold TypeAns at this
  rw [← hE] at this
  exact this⟩
 have k1 : ((k : Int) == -1) = false := beq_eq_false_iff_ne.mpr (by omega)
 have k2 : (k : Int) ≤ 1000000 := by omega
 have hcp : n ≤ c - p := by omega
 have hn9 : (n : Int) ≤ 1000000 := by omega
 have hpk : (k : Int) = (p : Int) := by omega
 clear hrow hs0 hpl hpn hT hE hBW hk hp
 go_enter Tryd.func46, Tryd.ntmps46
 go_wp2
 have HNX1 := Aside0.mk (HNX.out W.drew (HROW.out.below (below_drew HBW.out)))
 go_region_with (go_at_call 44; refine HNX1.out.mono ?_; rintro e w2 ⟨rfl, hb2⟩; have HB2 := Aside0.mk (below_step (below_drew HBW.out) hb2); have e0 := pw_cell_below (w := W.drew) hb2 d0; have e1 := pw_cell_below (w := W.drew) hb2 d1; have e2 := pw_cell_below (w := W.drew) hb2 d2; clear hb2)
 all_goals have HT1 := Aside0.mk (HT.out w2 (HROW.out.below HB2.out))
 all_goals go_wp2_with (go_at_call 62; refine HT1.out.mono ?_; rintro e w3 ⟨rfl, hb3⟩; have HB3 := Aside0.mk (below_step HB2.out hb3); clear hb3)
 all_goals refine bodyPost_ret (results_tmp5 rfl _ _ _) rfl ?_
 all_goals exact ⟨by unfold Ans5; rw [← HE.out]; rfl, HB3.out⟩
end Go.Proofs.YtcfhnfjkiljigaaDoor.Jp
end
section
namespace Go.Proofs.YtcfhnfjkiljigaaDoor.Jp
open Go.RowKit Go.Proofs.YtcfhnfjkiljigaaDoorW.PrintWords Go.Proofs.YtcfhnfjkiljigaaDoorW.PrintLast Go.Proofs.YtcfhnfjkiljigaaDoorW.PrintMore
attribute [local go_sem] max2_int min2_int max_two min_two max_three min_three max_four min_four
set_option linter.unusedVariables false
set_option linter.unusedSimpArgs false
/-- jsonparser's number of a kind of the reference. -/
def kindOf (k : Int) : Int := if k = 4 then 1 else if k = 3 then 2 else if k = 6 then 3 else if k = 5 then 4 else if k = 0 then 6 else 5
theorem keys_of {w : World} {A : Option Addr} {K : List ByteArray} (h : Kd.C Kd.string w A K.length K) (hK : K ≠ []) : ∃ g o, A = some ⟨g, o, none⟩ ∧ Keys w g o K := by
 have h0 : 0 < K.length := List.length_pos_iff.mpr hK
 obtain ⟨ad, rfl, hx⟩ := Kd.at_string h 0 (Int.le_refl _) (by omega)
 have hsp : ad.spot = none := by
  have h1 : w.cell? ad = some _ := hx
  unfold World.cell? at h1
  split at h1
  ·split at h1
   ·cases h1
   ·rename_i hn
    cases hs : ad.spot with
    | none => rfl
    | some x => rw [hs] at hn; exact absurd rfl hn
  ·cases h1
 obtain ⟨g, o, sp⟩ := ad
 simp only [] at hsp
 subst hsp
 refine ⟨g, o, rfl, fun j hj => ?_⟩
 obtain ⟨ad', e', hx'⟩ := Kd.at_string h (j : Int) (by omega) (by omega)
 obtain rfl := Option.some.inj e'
 rw [Int.toNat_natCast] at hx'
 have ea : (⟨g, o, none⟩ : Addr).add j = ⟨g, o + j, none⟩ := by
  unfold Addr.add
  split
  ·rename_i hz; subst hz; rfl
  ·rfl
 rw [ea] at hx'
 exact hx'
/-- The value that keys lead to: where it stands, how long it is, its kind. -/
structure Found (UK : KeyRel) (l : List Int) (K : List ByteArray) (p n : Nat) (ty : Int) : Prop where
 way : (K = [] ∧ Fj.ws l = p) ∨ ∃ s0 : Nat, Trace UK l K 0 false true 0 (s0 : Int) ∧ s0 < l.length ∧ s0 + Fj.ws (l.drop s0) = p
 at_ : TyAt l p n ty
theorem inner_found (UK : KeyRel) (b2 : Bool) (n3 : Int) (g o c : Nat) (l : List Int) (gk ok ck : Nat) (ka : Option Addr) (K : List ByteArray) (p n : Nat) (ty : Int) (w : World) (hrow : Row w g o l) (hby : ∀ x ∈ l, 0 ≤ x ∧ x ≤ 255) (hl : l.length ≤ 1000000) (hc : l.length ≤ c) (hka : K ≠ [] → ka = some ⟨gk, ok, none⟩) (hkeys : Keys w gk ok K) (hK : K.length ≤ 1000000) (hck : K.length ≤ ck) (hUK : UKOk UK b2 n3 w) (h : Found UK l K p n ty) :
  Calls Tryd.prog 46 #[.agg #[.bool false, .bool b2, .int .i64 n3], .slice (some ⟨g, o, none⟩) l.length c, .slice ka K.length ck] w fun e w' => Ans5 g (o + vb ty p) (vn ty n) ty p (p + n) e ∧ Below w.heap.size w w' := by
 have hlt := h.at_.lt
 have hgw : g < w.heap.size := hrow.lt (by omega)
 have hT : ∀ W1, Row W1 g o l → _ := fun W1 hr => type_any b2 n3 g o c l p n ty W1 hr hby hl hc h.at_
 rcases h.way with ⟨rfl, hp⟩ | ⟨s0, htr, hs0, hp⟩
 ·have hp0 : 0 + Fj.ws (l.drop 0) = p := by rw [List.drop_zero, Nat.zero_add]; exact hp
  by_cases h1 : ty = 1
  ·subst h1
   exact inner0sg b2 n3 g o c l p n w hrow hl hc ka ck (by omega) hp0 hlt.1 hlt.2.1 (hlt.2.2.1 rfl) hT
  ·have hr := inner0vg b2 n3 g o c l p n ty w hrow hl hc ka ck (by omega) hp0 hlt.1 hlt.2.1 (beq_eq_false_iff_ne.mpr h1) hT
   unfold vb vn
   rw [if_neg h1, if_neg h1]
   exact hr
 ·have hK0 : 0 < K.length := htr.klt
  have hgk : gk < w.heap.size := World.block_lt_of_cell? w _ (hkeys 0 hK0)
  obtain rfl := hka (by rintro rfl; simp at hK0)
  have hS : ∀ W1, Below w.heap.size w W1 → Calls Tryd.prog 45 #[.agg #[.bool false, .bool b2, .int .i64 n3], .slice (some ⟨g, o, none⟩) l.length c, .slice (some ⟨gk, ok, none⟩) K.length ck] W1 fun e w' => e = .returned (.int .i64 (s0 : Int)) ∧ Below W1.heap.size W1 w' := fun W1 hb =>
   search_at UK b2 n3 (K.length + 1) g o c l gk ok ck K s0 W1 (Nat.lt_succ_self _) (hrow.below hb) hby hl hc (Nat.lt_of_lt_of_le hgw hb.size) (hkeys.below hb hgk) (Nat.lt_of_lt_of_le hgk hb.size) hK hck (hUK.below hb) htr
  by_cases h1 : ty = 1
  ·subst h1
   exact innerKs b2 n3 g o c l p n w hrow hl hc _ _ _ hK0 hK s0 hS hs0 hp hlt.1 hlt.2.1 (hlt.2.2.1 rfl) hT
  ·have hr := innerKv b2 n3 g o c l p n ty w hrow hl hc _ _ _ hK0 hK s0 hS hs0 hp hlt.1 hlt.2.1 (beq_eq_false_iff_ne.mpr h1) hT
   unfold vb vn
   rw [if_neg h1, if_neg h1]
   exact hr
set_option maxHeartbeats 4000000 in
set_option maxRecDepth 100000 in
theorem internal_get (w : World) (d k : Value) (g a n : Nat) (ty : Int) (p E : Nat) (hG : Glob w) (hI : Calls Tryd.prog 46 #[.agg #[.bool false, .bool false, .int .i64 0], d, k] w fun e w' => Ans5 g a n ty p E e ∧ Below w.heap.size w w') :
  Calls Tryd.prog 30 #[d, k] w fun e w' => Ans5 g a n ty p E e ∧ Below w.heap.size w w' := by
 have q0 := hG.c0
 have q1 := hG.c1
 have q2 := hG.c2
 unfold Ans5 at hI ⊢
 have HI := Aside0.mk hI
 clear hG hI
 go_enter Tryd.func30, Tryd.ntmps30
 go_wp2_with (go_at_call 46; refine HI.out.mono ?_; rintro e w1 ⟨rfl, hb1⟩; have HB1 := Aside0.mk hb1; clear hb1 q0 q1 q2)
 refine bodyPost_ret (results_tmp5 rfl _ _ _) rfl ?_
 exact ⟨rfl, HB1.out⟩
set_option maxHeartbeats 4000000 in
set_option maxRecDepth 100000 in
theorem get_get (w : World) (d k : Value) (g a n : Nat) (ty : Int) (p E : Nat) (hI : Calls Tryd.prog 30 #[d, k] w fun e w' => Ans5 g a n ty p E e ∧ Below w.heap.size w w') :
  Calls Tryd.prog 21 #[d, k] w fun e w' => Ans4 g a n ty E e ∧ Below w.heap.size w w' := by
 unfold Ans5 at hI
 unfold Ans4
 have HI := Aside0.mk hI
 clear hI
 go_enter Tryd.func21, Tryd.ntmps21
 go_wp2_with (go_at_call 30; refine HI.out.mono ?_; rintro e w1 ⟨rfl, hb1⟩; have HB1 := Aside0.mk hb1; clear hb1)
 refine bodyPost_ret (results_tmp4 rfl _ _ _) rfl ?_
 exact ⟨rfl, HB1.out⟩
set_option maxHeartbeats 4000000 in
set_option maxRecDepth 100000 in
theorem b2s_box (bx g o c : Nat) (W : World) (l : List Int) (hbox : W.cell? ⟨bx, 0, none⟩ = some (.slice (some ⟨g, o, none⟩) l.length c)) (hrow : Row W g o l) (hlen : l.length ≤ 1000000) :
  Calls Tryd.prog 31 #[.pointer (some ⟨bx, 0, none⟩)] W fun e w' => e = .returned (.string (strOfNums l)) ∧ W = w' := by
 have hcv := Kd.C_string (P := Tryd.prog) (c := c) Tryd.underlying53 Tryd.underlying5 Tryd.underlying9 (hrow.kd hlen)
 clear hrow
 go_enter Tryd.func31, Tryd.ntmps31
 go_wp2
 go_ret
 exact ⟨rfl, rfl⟩
set_option maxHeartbeats 4000000 in
set_option maxRecDepth 100000 in
theorem get_unsafe (w : World) (d k : Value) (g a n : Nat) (ty : Int) (E : Nat) (l : List Int) (hln : l.length = n) (hl : l.length ≤ 1000000) (hrow : Row w g a l) (hI : Calls Tryd.prog 21 #[d, k] w fun e w' => Ans4 g a n ty E e ∧ Below w.heap.size w w') :
  Calls Tryd.prog 22 #[d, k] w fun e w' => e = .returned (.tuple #[.string (strOfNums l), .nilIface]) ∧ Below w.heap.size w w' := by
 unfold Ans4 at hI
 subst hln
 have HI := Aside0.mk hI
 have HROW := Aside0.mk hrow
 clear hI hrow
 go_enter Tryd.func22, Tryd.ntmps22
 go_wp2_with (go_at_call 21; refine HI.out.mono ?_; rintro e w1 ⟨rfl, hb1⟩; have HB1 := Aside0.mk hb1; clear hb1)
 refine (b2s_box w1.heap.size g a l.length _ l (World.cell?_alloc_new w1 #[.slice (some ⟨g, a, none⟩) l.length l.length] 53 0) (HROW.out.below (XWords.below_alloc0 HB1.out.size HB1.out _)) hl).mono ?_
 rintro e w2 ⟨rfl, rfl⟩
 go_wp2
 go_ret2
 exact ⟨rfl, XWords.below_alloc0 HB1.out.size HB1.out _⟩
end Go.Proofs.YtcfhnfjkiljigaaDoor.Jp
end
section
-- Written by xprint.py of this session (a program that runs the kit's print and adds to it); Lean checks it.
namespace Go.Proofs.YtcfhnfjkiljigaaDoor.XFnJpGetUnsafe
open Go.RowKit Go.Proofs.YtcfhnfjkiljigaaDoorW.PrintWords Go.Proofs.YtcfhnfjkiljigaaDoorW.PrintLast Go.Proofs.YtcfhnfjkiljigaaDoorW.PrintMore
theorem aj {p : Prop} (h : p) : Aside0 p := ⟨h⟩
attribute [local go_sem] max2_int min2_int max_two min_two max_three min_three max_four min_four   -- for this text's walks alone
set_option linter.unusedVariables false
set_option linter.unusedSimpArgs false
theorem info5 : (Tryd.prog.info? 5).map (fun i => (i.zero, i.size, i.bytes)) = some (some (.int .u8 0), 1, 1) := by kernel_rfl
theorem info27 : (Tryd.prog.info? 27).map (fun i => (i.zero, i.size, i.bytes)) = some (some (.agg #[(.int .i64 0), (.int .i64 0), (.int .i64 0), (.slice none 0 0), (.slice none 0 0)]), 5, 72) := by kernel_rfl
theorem info65 : (Tryd.prog.info? 65).map (fun i => (i.zero, i.size, i.bytes)) = some (some (.agg #[(.int .i64 0), (.int .i64 0)]), 2, 16) := by kernel_rfl
-- the values' own types
/-! #### struct type 65 -/
structure S65 where
 f0 : Int
 f1 : Int
def z65 : S65 := ⟨(0 : Int), (0 : Int)⟩
def k65 : Kd S65 := Kd.iso (Kd.pair (Kd.int .i64) (Kd.int .i64)) (fun x : S65 => (x.f0, x.f1))
theorem k65_open {w : World} {x : S65} {cs : List Value} (h : k65.K w x cs) : cs = [.int .i64 x.f0, .int .i64 x.f1] := by
 obtain ⟨_, _, rfl, rfl, rfl⟩ := h
 exact rfl
theorem k65_mkM (w : World) (base : Nat) (ok : Nat → Prop) (x : S65)  : k65.M w base ok x [.int .i64 x.f0, .int .i64 x.f1] := ⟨[.int .i64 x.f0], [.int .i64 x.f1], rfl, rfl, rfl⟩
def rd_T65 (xs : List S65) (i : Int) : S65 := xs.getD i.toNat z65
theorem at_T65 {w : World} {A : Option Addr} {n : Nat} {xs : List S65} (h : Kd.C k65 w A n xs) (i : Int) (h0 : 0 ≤ i) (h1 : i < n) : ∃ ad , A = some ad ∧ w.cell? (ad.add (i.toNat * 2)) = some (.int .i64 (rd_T65 xs i).f0) ∧ w.cell? ⟨(ad.add (i.toNat * 2)).block, (ad.add (i.toNat * 2)).off + 1, none⟩ = some (.int .i64 (rd_T65 xs i).f1) := by
 obtain ⟨ad, c, e, _, hK, hc0⟩ := Kd.C_get h z65 i h0 h1
 have hc : ∀ j u, c[j]? = some u → w.cell? (ad.add (i.toNat * 2 + j)) = some u := hc0
 obtain rfl := k65_open hK
 exact ⟨ad, e, hc 0 _ rfl, by rw [← add_field _ _ 1 (by omega)]; exact hc 1 _ rfl⟩
/-! #### struct type 27, nested in itself -/
structure S27 where
 f0 : Int
 f1 : Int
 f2 : Int
 f3 : (List S65)
 f4 : (List S27)
def z27 : S27 := ⟨(0 : Int), (0 : Int), (0 : Int), ([] : List S65), ([] : List S27)⟩
def F27 (d : Kd S27) : Kd S27 := Kd.iso (Kd.pair (Kd.int .i64) (Kd.pair (Kd.int .i64) (Kd.pair (Kd.int .i64) (Kd.pair (Kd.slice 65 k65) (Kd.slice 27 d))))) (fun x : S27 => (x.f0, x.f1, x.f2, x.f3, x.f4))
theorem mono27 : Kd.Mono F27 := Kd.mono_iso _ (Kd.mono_pair (Kd.mono_const _) (Kd.mono_pair (Kd.mono_const _) (Kd.mono_pair (Kd.mono_const _) (Kd.mono_pair (Kd.mono_const _) (Kd.mono_slice 27 Kd.mono_id)))))
theorem sub27 : Kd.Sub F27 [27, 65] := Kd.sub_iso _ (Kd.sub_pair (Kd.sub_const _ (by decide)) (Kd.sub_pair (Kd.sub_const _ (by decide)) (Kd.sub_pair (Kd.sub_const _ (by decide)) (Kd.sub_pair (Kd.sub_const _ (by decide)) (Kd.sub_slice 27 (by decide) Kd.sub_id)))))
theorem sz27 : ∀ n, (Kd.upto F27 5 [27, 65] n).sz = 5 := Kd.upto_sz (fun _ => rfl)
def k27 : Kd S27 := Kd.fix F27 5 [27, 65] sz27 (Kd.upto_E sub27)
theorem k27_open {w : World} {x : S27} {cs : List Value} (h : k27.K w x cs) : ∃ A3 c3 A4 c4, cs = [.int .i64 x.f0, .int .i64 x.f1, .int .i64 x.f2, .slice A3 x.f3.length c3, .slice A4 x.f4.length c4] ∧ x.f3.length ≤ c3 ∧ k65.C w A3 x.f3.length x.f3 ∧ x.f4.length ≤ c4 ∧ k27.C w A4 x.f4.length x.f4 := by
 obtain ⟨n, h⟩ := h
 cases n with
 | zero => exact h.elim
 | succ n =>
  obtain ⟨_, _, rfl, rfl, ⟨_, _, rfl, rfl, ⟨_, _, rfl, rfl, ⟨_, _, rfl, ⟨A3, c3, rfl, l3, g3⟩, ⟨A4, c4, rfl, l4, g4⟩⟩⟩⟩⟩ := h
  exact ⟨A3, c3, A4, c4, rfl, l3, g3, l4, Kd.fix_C g4⟩
theorem k27_mkM (w : World) (base : Nat) (ok : Nat → Prop) (x : S27) {v3 : Value} (g3 : k65.R 65 w base ok v3 x.f3) {v4 : Value} (g4 : k27.R 27 w base ok v4 x.f4) : k27.M w base ok x [.int .i64 x.f0, .int .i64 x.f1, .int .i64 x.f2, v3, v4] := by
 obtain ⟨n4, q4⟩ := Kd.fix_R_back mono27 g4
 have r4 := Kd.upto_R_le mono27 sz27 (show n4 ≤ n4 by omega) q4
 exact ⟨n4 + 1, ⟨[.int .i64 x.f0], [.int .i64 x.f1, .int .i64 x.f2, v3, v4], rfl, rfl, ⟨[.int .i64 x.f1], [.int .i64 x.f2, v3, v4], rfl, rfl, ⟨[.int .i64 x.f2], [v3, v4], rfl, rfl, ⟨[v3], [v4], rfl, ⟨v3, rfl, g3⟩, ⟨v4, rfl, r4⟩⟩⟩⟩⟩⟩
theorem k27_openF {W : World} {ok : Nat → Prop} {x : S27} {cs : List Value} (h : Kd.FK k27 W ok x cs) : ∃ A3 c3 A4 c4, cs = [.int .i64 x.f0, .int .i64 x.f1, .int .i64 x.f2, .slice A3 x.f3.length c3, .slice A4 x.f4.length c4] ∧ x.f3.length ≤ c3 ∧ Kd.F k65 W ok A3 x.f3.length x.f3 ∧ x.f4.length ≤ c4 ∧ Kd.F k27 W ok A4 x.f4.length x.f4 := by
 obtain ⟨A3, c3, A4, c4, rfl, l3, _, l4, _⟩ := k27_open (Kd.FK_now h)
 exact ⟨A3, c3, A4, c4, rfl, l3, (fun W' hW => by obtain ⟨A3_, c3_, A4_, c4_, he, l3_, g3_, l4_, g4_⟩ := k27_open (h W' hW); injection (Option.some.inj (show some (Value.slice A3 x.f3.length c3) = some (Value.slice A3_ x.f3.length c3_) from congrArg (fun l => l[3]?) he)) with ha_ _ _; rw [ha_]; exact g3_), l4, (fun W' hW => by obtain ⟨A3_, c3_, A4_, c4_, he, l3_, g3_, l4_, g4_⟩ := k27_open (h W' hW); injection (Option.some.inj (show some (Value.slice A4 x.f4.length c4) = some (Value.slice A4_ x.f4.length c4_) from congrArg (fun l => l[4]?) he)) with ha_ _ _; rw [ha_]; exact g4_)⟩
def rd_T27 (xs : List S27) (i : Int) : S27 := xs.getD i.toNat z27
theorem at_T27 {w : World} {A : Option Addr} {n : Nat} {xs : List S27} (h : Kd.C k27 w A n xs) (i : Int) (h0 : 0 ≤ i) (h1 : i < n) : ∃ ad A3 c3 A4 c4, A = some ad ∧ w.cell? (ad.add (i.toNat * 5)) = some (.int .i64 (rd_T27 xs i).f0) ∧ w.cell? ⟨(ad.add (i.toNat * 5)).block, (ad.add (i.toNat * 5)).off + 1, none⟩ = some (.int .i64 (rd_T27 xs i).f1) ∧ w.cell? ⟨(ad.add (i.toNat * 5)).block, (ad.add (i.toNat * 5)).off + 2, none⟩ = some (.int .i64 (rd_T27 xs i).f2) ∧ w.cell? ⟨(ad.add (i.toNat * 5)).block, (ad.add (i.toNat * 5)).off + 3, none⟩ = some (.slice A3 (rd_T27 xs i).f3.length c3) ∧ w.cell? ⟨(ad.add (i.toNat * 5)).block, (ad.add (i.toNat * 5)).off + 4, none⟩ = some (.slice A4 (rd_T27 xs i).f4.length c4) ∧ (rd_T27 xs i).f3.length ≤ c3 ∧ k65.C w A3 (rd_T27 xs i).f3.length (rd_T27 xs i).f3 ∧ (rd_T27 xs i).f4.length ≤ c4 ∧ k27.C w A4 (rd_T27 xs i).f4.length (rd_T27 xs i).f4 := by
 obtain ⟨ad, c, e, _, hK, hc0⟩ := Kd.C_get h z27 i h0 h1
 have hc : ∀ j u, c[j]? = some u → w.cell? (ad.add (i.toNat * 5 + j)) = some u := hc0
 obtain ⟨A3, c3, A4, c4, rfl, l3, g3, l4, g4⟩ := k27_open hK
 exact ⟨ad, A3, c3, A4, c4, e, hc 0 _ rfl, by rw [← add_field _ _ 1 (by omega)]; exact hc 1 _ rfl, by rw [← add_field _ _ 2 (by omega)]; exact hc 2 _ rfl, by rw [← add_field _ _ 3 (by omega)]; exact hc 3 _ rfl, by rw [← add_field _ _ 4 (by omega)]; exact hc 4 _ rfl, l3, g3, l4, g4⟩
end Go.Proofs.YtcfhnfjkiljigaaDoor.XFnJpGetUnsafe
end
section
-- Written by xprint.py of this session (a program that runs the kit's print and adds to it); Lean checks it.
namespace Go.Proofs.YtcfhnfjkiljigaaDoor.XFnJpGetUnsafe
open Go.RowKit Go.Proofs.YtcfhnfjkiljigaaDoorW.PrintWords Go.Proofs.YtcfhnfjkiljigaaDoorW.PrintLast Go.Proofs.YtcfhnfjkiljigaaDoorW.PrintMore
attribute [local go_sem] max2_int min2_int max_two min_two max_three min_three max_four min_four   -- for this text's walks alone
set_option linter.unusedVariables false
set_option linter.unusedSimpArgs false
/-! ### laws_zzFits1: function 6 -/
def laws_zzFits1.l0 : Nat → List ByteArray → Int → Int → Option (Bool)
 | 0, _, _, _ => none
 | k + 1, x8, x9, x10 => if x10 < x9 then (if 0 ≤ x10 then (if x10 < (x8.length : Int) then (if ((rdOf ByteArray.empty x8 x10).size : Int) > 2147483647 then (some false) else (laws_zzFits1.l0 k x8 x9 (wrap64 (x10 + 1)))) else (none)) else (none)) else (some true)
def laws_zzFits1.f (k : Nat) (l0 : List ByteArray) : Option (Bool) := if (l0.length : Int) > 2147483647 then (some false) else (laws_zzFits1.l0 k l0 (l0.length : Int) 0)
theorem laws_zzFits1.mono_l : ∀ k, (∀ y0 y1 y2, LeO (laws_zzFits1.l0 k y0 y1 y2) (laws_zzFits1.l0 (k + 1) y0 y1 y2))
 | 0 => fun _ _ _ r h => by simp [laws_zzFits1.l0] at h
 | k + 1 => by
  have ih0 := laws_zzFits1.mono_l k
  ·intro y0 y1 y2
   unfold laws_zzFits1.l0
   repeat' first
   | (with_reducible exact ih0 _ _ _)
   | (with_reducible exact LeO.refl _)
   | (with_reducible exact LeO.none _)
   | (with_reducible refine LeO.ite ?_ ?_)
   | (with_reducible refine LeO.bind ?_ (fun _ => ?_))
   | exact ih0 _ _ _
   | exact LeO.none _
   | refine LeO.ite ?_ ?_
   | refine LeO.bind ?_ (fun _ => ?_)
set_option maxHeartbeats 8000000 in
set_option maxRecDepth 100000 in
theorem laws_zzFits1.calls (k : Nat) (A0 : Option Addr) (c0 : Nat) (l0 : List ByteArray) (r : Bool) (w : World) (hr0 : Kd.C Kd.string w A0 l0.length l0) (hc0 : l0.length ≤ c0) (h : laws_zzFits1.f k l0 = some r) :
  Calls Tryd.prog 6 #[.slice A0 l0.length c0] w fun e w' => e = .returned (.bool r) ∧ Drawn0 w w' := by
 have HR0 := aj hr0
 have HC0 := aj hc0
 clear hr0 hc0
 have H : (if (l0.length : Int) > 2147483647 then (some false) else (laws_zzFits1.l0 k l0 (l0.length : Int) 0)) = some r := h
 clear h
 by_cases c2 : (l0.length : Int) > 2147483647
 ·rw [if_pos c2] at H
  have c2b0 : decide (2147483647 < (l0.length : Int)) = true := decide_eq_true c2
  have c2b1 : decide (2147483647 < l0.length) = true := decide_eq_true (by omega)
  clear c2
  obtain rfl := Option.some.inj H
  go_enter Tryd.func6, Tryd.ntmps6
  go_wp2
  go_ret
  exact ⟨by rfl, by repeat (exact Drawn0.refl _)⟩
 ·rw [if_neg c2] at H
  have c2b0 : decide (2147483647 < (l0.length : Int)) = false := decide_eq_false c2
  have c2b1 : decide (2147483647 < l0.length) = false := decide_eq_false (by omega)
  clear c2
  have H' := aj H
  clear H
  go_enter Tryd.func6, Tryd.ntmps6
  go_wp2
  try simp only [Act.put, List.setIfInBounds_toArray, List.set_cons_succ, List.set_cons_zero]
  go_loopg [10] k (fun kq v10 w' => ∃ (x10_1 : Int), v10 = .int .i64 x10_1 ∧ Aside0 (laws_zzFits1.l0 kq l0 (l0.length : Int) x10_1 = some r) ∧ Aside0 (kq ≤ k) ∧ Drawn0 w w')
  case atStart => exact ⟨(0), (by rfl), H', ⟨Nat.le_refl _⟩, by repeat (exact Drawn0.refl _)⟩
  case round =>
   clear H' c2b0 c2b1
   obtain ⟨x10_1, rfl, HA, HK1, ⟨m1, rfl⟩⟩ := hrel
   cases gk with
   | zero => exact absurd HA.out (by simp [laws_zzFits1.l0])
   | succ k1 =>
    have H := HA.out
    clear HA
    simp only [laws_zzFits1.l0] at H
    by_cases c3 : x10_1 < (l0.length : Int)
    ·rw [if_pos c3] at H
     have c3b0 : decide (x10_1 < (l0.length : Int)) = true := decide_eq_true c3
     clear c3
     by_cases c4 : 0 ≤ x10_1
     ·rw [if_pos c4] at H
      have c4b0 : decide (0 ≤ x10_1) = true := decide_eq_true c4
      clear c4
      by_cases c5 : x10_1 < (l0.length : Int)
      ·rw [if_pos c5] at H
       have c5b0 : decide (x10_1 < (l0.length : Int)) = true := decide_eq_true c5
       clear c5
       by_cases c6 : ((rdOf ByteArray.empty l0 x10_1).size : Int) > 2147483647
       ·rw [if_pos c6] at H
        have c6b0 : decide (2147483647 < ((rdOf ByteArray.empty l0 x10_1).size : Int)) = true := decide_eq_true c6
        have c6b1 : decide (2147483647 < (rdOf ByteArray.empty l0 x10_1).size) = true := decide_eq_true (by omega)
        clear c6
        obtain rfl := Option.some.inj H
        have p101 : 0 ≤ (x10_1 : Int) := of_decide_eq_true (by (with_reducible assumption))
        have q101 : x10_1 < (l0.length : Int) := of_decide_eq_true (by (with_reducible assumption))
        obtain ⟨ad101, e101, hx101_0⟩ := Kd.at_string HR0.out x10_1 p101 q101
        cases e101
        replace p101 := eq_true p101
        replace q101 := eq_true q101
        go_wp2
        go_ret
        exact ⟨by rfl, by repeat (first | exact Drawn0.refl _ | apply Drawn0.step)⟩
       ·rw [if_neg c6] at H
        have c6b0 : decide (2147483647 < ((rdOf ByteArray.empty l0 x10_1).size : Int)) = false := decide_eq_false c6
        have c6b1 : decide (2147483647 < (rdOf ByteArray.empty l0 x10_1).size) = false := decide_eq_false (by omega)
        clear c6
        have H' := aj H
        clear H
        have p101 : 0 ≤ (x10_1 : Int) := of_decide_eq_true (by (with_reducible assumption))
        have q101 : x10_1 < (l0.length : Int) := of_decide_eq_true (by (with_reducible assumption))
        obtain ⟨ad101, e101, hx101_0⟩ := Kd.at_string HR0.out x10_1 p101 q101
        cases e101
        replace p101 := eq_true p101
        replace q101 := eq_true q101
        go_wp2
        go_roundg k1
        case measure => have := HK1.out; omega
        case rel => exact ⟨(wrap64 (x10_1 + 1)), (by rfl), H', ⟨by have := HK1.out; omega⟩, by repeat (first | exact Drawn0.refl _ | apply Drawn0.step)⟩
      ·rw [if_neg c5] at H
       exact absurd H (by simp)
     ·rw [if_neg c4] at H
      exact absurd H (by simp)
    ·rw [if_neg c3] at H
     have c3b0 : decide (x10_1 < (l0.length : Int)) = false := decide_eq_false c3
     clear c3
     obtain rfl := Option.some.inj H
     go_wp2
     go_ret
     exact ⟨by rfl, by repeat (first | exact Drawn0.refl _ | apply Drawn0.step)⟩
/-! ### spec_Blank: function 49 -/
def spec_Blank.f (a0 : Int) : Option (Bool) := if a0 = 32 then (some true) else (if a0 = 9 then (some true) else (if a0 = 10 then (some true) else (some (a0 == 13))))
set_option maxHeartbeats 8000000 in
set_option maxRecDepth 100000 in
theorem spec_Blank.calls (a0 : Int) (r : Bool) (w : World) (h : spec_Blank.f a0 = some r) :
  Calls Tryd.prog 49 #[.int .u8 a0] w fun e w' => e = .returned (.bool r) ∧ Drawn0 w w' := by
 have H : (if a0 = 32 then (some true) else (if a0 = 9 then (some true) else (if a0 = 10 then (some true) else (some (a0 == 13))))) = some r := h
 clear h
 by_cases c2 : a0 = 32
 ·rw [if_pos c2] at H
  have c2b0 : (a0 == 32) = true := beq_iff_eq.mpr c2
  have c2b1 : (a0 != 32) = false := bne_eq_false_iff_eq.mpr c2
  clear c2
  obtain rfl := Option.some.inj H
  go_enter Tryd.func49, Tryd.ntmps49
  go_wp2
  go_ret
  exact ⟨by rfl, by repeat (exact Drawn0.refl _)⟩
 ·rw [if_neg c2] at H
  have c2b0 : (a0 == 32) = false := beq_eq_false_iff_ne.mpr c2
  have c2b1 : (a0 != 32) = true := bne_iff_ne.mpr c2
  by_cases c3 : a0 = 9
  ·rw [if_pos c3] at H
   have c3b0 : (a0 == 9) = true := beq_iff_eq.mpr c3
   have c3b1 : (a0 != 9) = false := bne_eq_false_iff_eq.mpr c3
   clear c3
   obtain rfl := Option.some.inj H
   go_enter Tryd.func49, Tryd.ntmps49
   go_wp2
   go_ret
   exact ⟨by rfl, by repeat (exact Drawn0.refl _)⟩
  ·rw [if_neg c3] at H
   have c3b0 : (a0 == 9) = false := beq_eq_false_iff_ne.mpr c3
   have c3b1 : (a0 != 9) = true := bne_iff_ne.mpr c3
   by_cases c4 : a0 = 10
   ·rw [if_pos c4] at H
    have c4b0 : (a0 == 10) = true := beq_iff_eq.mpr c4
    have c4b1 : (a0 != 10) = false := bne_eq_false_iff_eq.mpr c4
    clear c4
    obtain rfl := Option.some.inj H
    go_enter Tryd.func49, Tryd.ntmps49
    go_wp2
    go_ret
    exact ⟨by rfl, by repeat (exact Drawn0.refl _)⟩
   ·rw [if_neg c4] at H
    have c4b0 : (a0 == 10) = false := beq_eq_false_iff_ne.mpr c4
    have c4b1 : (a0 != 10) = true := bne_iff_ne.mpr c4
    obtain rfl := Option.some.inj H
    go_enter Tryd.func49, Tryd.ntmps49
    go_wp2
    go_ret
    exact ⟨by rfl, by repeat (exact Drawn0.refl _)⟩
/-- A state of type 80 at block g of W; what its slices lead to came in by w0. -/
def IsS80 (w0 W : World) (g : Nat) (f0 : ByteArray) (f1 : Int) : Prop := W.heap[g]? = some (.cells #[.string f0, .int .i64 f1] 80 (0, 0)) ∧ w0.heap.size ≤ g
theorem IsS80.grown {w0 W : World} {g : Nat} {f0 : ByteArray} {f1 : Int} {W1 : World} {row : Option Nat} (h : IsS80 w0 W g f0 f1) (hw : W.grownBy W1 row) (hne : some g ≠ row) : IsS80 w0 W1 g f0 f1 := by
 obtain ⟨hb, hg⟩ := h
 exact ⟨blk_grown hb hw hne, hg⟩
theorem IsS80.below {w0 W : World} {g : Nat} {f0 : ByteArray} {f1 : Int} {W1 : World} (h : IsS80 w0 W g f0 f1) (hw : Below W.heap.size W W1) : IsS80 w0 W1 g f0 f1 := h.grown (grown_of_below hw none) (by simp)
theorem IsS80.drewN {w0 W : World} {g : Nat} {f0 : ByteArray} {f1 : Int} (h : IsS80 w0 W g f0 f1) (m : Nat) : IsS80 w0 (W.drewN m) g f0 f1 := h
theorem IsS80.apart {w0 W : World} {g : Nat} {f0 : ByteArray} {f1 : Int} {α : Type} {d : Kd α} {e : Nat} {base : Nat} {ok : Nat → Prop} {v : Value} {xs : List α} (h : IsS80 w0 W g f0 f1) (ho : d.R e W base ok v xs) (ht : ∀ q, q ∈ e :: d.E → q ≠ 80) : d.R e W base (fun k => ok k ∧ k ≠ g) v xs := by
 obtain ⟨hb, hg⟩ := h
 exact Kd.R_types ho hb ht
theorem IsS80.own_ne {w0 W : World} {g : Nat} {f0 : ByteArray} {f1 : Int} {α : Type} {d : Kd α} {e : Nat} {base : Nat} {ok : Nat → Prop} {v : Value} {xs : List α} (h : IsS80 w0 W g f0 f1) (ho : d.R e W base ok v xs) (ht : e ≠ 80) : some g ≠ v.ownBlock := by
 obtain ⟨hb, hg⟩ := h
 exact Kd.R_ne ho hb ht
theorem IsS80.lt {w0 W : World} {g : Nat} {f0 : ByteArray} {f1 : Int} (h : IsS80 w0 W g f0 f1) : g < W.heap.size := by
 obtain ⟨hb, hg⟩ := h
 exact blk_lt hb
theorem IsS80.ge {w0 W : World} {g : Nat} {f0 : ByteArray} {f1 : Int} (h : IsS80 w0 W g f0 f1) : w0.heap.size ≤ g := by
 obtain ⟨hb, hg⟩ := h
 exact hg
theorem IsS80.far {w0 W : World} {g : Nat} {f0 : ByteArray} {f1 : Int} {p : Addr} (h : IsS80 w0 W g f0 f1) (hne : g ≠ p.block) (u : Value) : IsS80 w0 (W.setCell p u) g f0 f1 := by
 obtain ⟨hb, hg⟩ := h
 exact ⟨blk_far hb hne u, hg⟩
theorem cellS80_0 {W : World} {g : Nat} {f0 : ByteArray} {f1 : Int} (h : W.heap[g]? = some (.cells #[.string f0, .int .i64 f1] 80 (0, 0))) : W.cell? ⟨g, 0, none⟩ = some (.string f0) := (blk_cell h 0).trans rfl
theorem IsS80.set_0 {w0 W : World} {g : Nat} {f0 : ByteArray} {f1 : Int} (h : IsS80 w0 W g f0 f1) (x : ByteArray) : IsS80 w0 (W.setCell ⟨g, 0, none⟩ (.string x)) g x f1 := by
 obtain ⟨hb, hg⟩ := h
 exact ⟨by simpa using blk_set hb 0 (.string x), hg⟩
theorem cellS80_1 {W : World} {g : Nat} {f0 : ByteArray} {f1 : Int} (h : W.heap[g]? = some (.cells #[.string f0, .int .i64 f1] 80 (0, 0))) : W.cell? ⟨g, 1, none⟩ = some (.int .i64 f1) := (blk_cell h 1).trans rfl
theorem IsS80.set_1 {w0 W : World} {g : Nat} {f0 : ByteArray} {f1 : Int} (h : IsS80 w0 W g f0 f1) (x : Int) : IsS80 w0 (W.setCell ⟨g, 1, none⟩ (.int .i64 x)) g f0 x := by
 obtain ⟨hb, hg⟩ := h
 exact ⟨by simpa using blk_set hb 1 (.int .i64 x), hg⟩
/-! ### spec_reader_blanks: function 36 -/
def spec_reader_blanks.l0 : Nat → ByteArray → Int → Option (ByteArray × Int)
 | 0, _, _ => none
 | k + 1, x1000, x1001 => if x1001 < (x1000.size : Int) then (if 0 ≤ x1001 then ((spec_Blank.f (bt x1000 x1001)).bind fun t102 => (if t102 = true then (spec_reader_blanks.l0 k x1000 (wrap64 (x1001 + 1))) else (some (x1000, x1001)))) else (none)) else (some (x1000, x1001))
def spec_reader_blanks.f (k : Nat) (s0_0 : ByteArray) (s0_1 : Int) : Option (ByteArray × Int) := spec_reader_blanks.l0 k s0_0 s0_1
set_option maxHeartbeats 8000000 in
set_option maxRecDepth 100000 in
theorem spec_reader_blanks.calls (k : Nat) (g : Nat) (s0_0 : ByteArray) (s0_1 : Int) (r1 : ByteArray) (r2 : Int) (w0 w : World) (hI : IsS80 w0 w g s0_0 s0_1) (hB : Below w0.heap.size w0 w) (h : spec_reader_blanks.f k s0_0 s0_1 = some (r1, r2)) :
  Calls Tryd.prog 36 #[.pointer (some ⟨g, 0, none⟩)] w fun e w' => e = .returned (.tuple #[]) ∧ IsS80 w0 w' g r1 r2 ∧ Below w0.heap.size w0 w' ∧ KeepBut w w' g none := by
 have HI0 := aj hI
 have HK := aj (KeepBut.refl w g none)
 have HL := aj hB.size
 clear hI
 have HW0 := aj hB.size
 have HB := aj hB
 clear hB
 have H : (spec_reader_blanks.l0 k s0_0 s0_1) = some (r1, r2) := h
 clear h
 have H' := aj H
 clear H
 go_enter Tryd.func36, Tryd.ntmps36
 go_wp2
 repeat (go_quiet (fail); try go_wp2)
 try simp only [Act.put, List.setIfInBounds_toArray, List.set_cons_succ, List.set_cons_zero]
 go_loopg [] k (fun kq w' => ∃ (x1001_1 : Int), Aside0 (spec_reader_blanks.l0 kq s0_0 x1001_1 = some (r1, r2)) ∧ Aside0 (kq ≤ k) ∧ Aside0 (IsS80 w0 w' g s0_0 x1001_1) ∧ Aside0 (KeepBut w w' g none) ∧ Aside0 (Below w0.heap.size w0 w'))
 case atStart => exact ⟨(s0_1), H', ⟨Nat.le_refl _⟩, ⟨HI0.out⟩, ⟨HK.out⟩, ⟨HB.out⟩⟩
 case round =>
  clear H'
  obtain ⟨x1001_1, HA, HK1, HI0, HK, HB⟩ := hrel
  cases gk with
  | zero => exact absurd HA.out (by simp [spec_reader_blanks.l0])
  | succ k1 =>
   have H := HA.out
   clear HA
   simp only [spec_reader_blanks.l0] at H
   by_cases c2 : x1001_1 < (s0_0.size : Int)
   ·rw [if_pos c2] at H
    have c2b0 : decide (x1001_1 < (s0_0.size : Int)) = true := decide_eq_true c2
    clear c2
    by_cases c3 : 0 ≤ x1001_1
    ·rw [if_pos c3] at H
     have c3b0 : decide (0 ≤ x1001_1) = true := decide_eq_true c3
     clear c3
     obtain ⟨t102, A50, H⟩ := Option.bind_eq_some_iff.mp H
     try dsimp only at H
     have A5 := aj A50
     clear A50
     by_cases c6 : t102 = true
     ·subst c6
      rw [if_pos rfl] at H
      have H' := aj H
      clear H
      obtain ⟨HGz7, hgz7⟩ := HI0.out
      have hcz7_0 := cellS80_0 HGz7
      have hcz7_1 := cellS80_1 HGz7
      have hfz7_0 := blk_frozen HGz7 0
      have hfz7_1 := blk_frozen HGz7 1
      clear HGz7 hgz7
      have p4 : 0 ≤ (x1001_1 : Int) := of_decide_eq_true (by (with_reducible assumption))
      have q4 : x1001_1 < (s0_0.size : Int) := of_decide_eq_true (by (with_reducible assumption))
      have hx4 := bt_at s0_0 x1001_1
      replace p4 := eq_true p4
      replace q4 := eq_true q4
      go_wp2_with (fail)
      repeat (go_quiet (((go_at_call 49; (with_reducible refine (spec_Blank.calls (bt s0_0 x1001_1) true _ A5.out).mono ?_); rintro e w' ⟨rfl, ⟨nd, rfl⟩⟩; (try exact ⟨rfl, _, World.drewN_drewN _ _ _⟩)))); try go_wp2_with (fail))
      go_roundg k1
      case measure => have := HK1.out; omega
      case rel => exact ⟨(wrap64 (x1001_1 + 1)), H', ⟨by have := HK1.out; omega⟩, ⟨by repeat (with_reducible first | exact HI0.out | apply IsS80.drewN | apply IsS80.set_1)⟩, ⟨by repeat (with_reducible first | exact HK.out | apply KeepBut.set_ | apply keep_drewN)⟩, ⟨by repeat (with_reducible first | exact HB.out | apply pw_below_drewN | refine below_set ?_ (IsS80.ge HI0.out))⟩⟩
     ·replace c6 := Bool.eq_false_iff.mpr c6
      subst c6
      rw [if_neg (show ¬ (false = true) by decide)] at H
      simp only [Option.some.injEq, Prod.mk.injEq] at H
      obtain ⟨rfl, rfl⟩ := H
      obtain ⟨HGz8, hgz8⟩ := HI0.out
      have hcz8_0 := cellS80_0 HGz8
      have hcz8_1 := cellS80_1 HGz8
      have hfz8_0 := blk_frozen HGz8 0
      have hfz8_1 := blk_frozen HGz8 1
      clear HGz8 hgz8
      have p4 : 0 ≤ (x1001_1 : Int) := of_decide_eq_true (by (with_reducible assumption))
      have q4 : x1001_1 < (s0_0.size : Int) := of_decide_eq_true (by (with_reducible assumption))
      have hx4 := bt_at s0_0 x1001_1
      replace p4 := eq_true p4
      replace q4 := eq_true q4
      go_wp2_with (fail)
      repeat (go_quiet (((go_at_call 49; (with_reducible refine (spec_Blank.calls (bt s0_0 x1001_1) false _ A5.out).mono ?_); rintro e w' ⟨rfl, ⟨nd, rfl⟩⟩; (try exact ⟨rfl, _, World.drewN_drewN _ _ _⟩)))); try go_wp2_with (fail))
      go_end0
      exact ⟨by rfl, by repeat (with_reducible first | exact HI0.out | apply IsS80.drewN), by repeat (with_reducible first | exact HB.out | apply pw_below_drewN), by repeat (with_reducible first | exact HK.out | apply keep_drewN)⟩
    ·rw [if_neg c3] at H
     exact absurd H (by simp)
   ·rw [if_neg c2] at H
    have c2b0 : decide (x1001_1 < (s0_0.size : Int)) = false := decide_eq_false c2
    clear c2
    simp only [Option.some.injEq, Prod.mk.injEq] at H
    obtain ⟨rfl, rfl⟩ := H
    obtain ⟨HGz9, hgz9⟩ := HI0.out
    have hcz9_0 := cellS80_0 HGz9
    have hcz9_1 := cellS80_1 HGz9
    have hfz9_0 := blk_frozen HGz9 0
    have hfz9_1 := blk_frozen HGz9 1
    clear HGz9 hgz9
    go_wp2
    repeat (go_quiet (fail); try go_wp2)
    go_end0
    exact ⟨by rfl, by repeat (with_reducible first | exact HI0.out | apply IsS80.drewN), by repeat (with_reducible first | exact HB.out | apply pw_below_drewN), by repeat (with_reducible first | exact HK.out | apply keep_drewN)⟩
/-! ### spec_reader_here: function 50 -/
def spec_reader_here.f (s0_0 : ByteArray) (s0_1 : Int) : Option (Int × ByteArray × Int) := if s0_1 < (s0_0.size : Int) then (if 0 ≤ s0_1 then (some (bt s0_0 s0_1, s0_0, s0_1)) else (none)) else (some (0, s0_0, s0_1))
set_option maxHeartbeats 8000000 in
set_option maxRecDepth 100000 in
theorem spec_reader_here.calls (g : Nat) (s0_0 : ByteArray) (s0_1 : Int) (r1 : Int) (r2 : ByteArray) (r3 : Int) (w0 w : World) (hI : IsS80 w0 w g s0_0 s0_1) (hB : Below w0.heap.size w0 w) (h : spec_reader_here.f s0_0 s0_1 = some (r1, r2, r3)) :
  Calls Tryd.prog 50 #[.pointer (some ⟨g, 0, none⟩)] w fun e w' => e = .returned (.int .u8 r1) ∧ IsS80 w0 w' g r2 r3 ∧ Below w0.heap.size w0 w' ∧ KeepBut w w' g none := by
 have HI0 := aj hI
 have HK := aj (KeepBut.refl w g none)
 have HL := aj hB.size
 clear hI
 have HW0 := aj hB.size
 have HB := aj hB
 clear hB
 have H : (if s0_1 < (s0_0.size : Int) then (if 0 ≤ s0_1 then (some (bt s0_0 s0_1, s0_0, s0_1)) else (none)) else (some (0, s0_0, s0_1))) = some (r1, r2, r3) := h
 clear h
 by_cases c2 : s0_1 < (s0_0.size : Int)
 ·rw [if_pos c2] at H
  have c2b0 : decide (s0_1 < (s0_0.size : Int)) = true := decide_eq_true c2
  clear c2
  by_cases c3 : 0 ≤ s0_1
  ·rw [if_pos c3] at H
   have c3b0 : decide (0 ≤ s0_1) = true := decide_eq_true c3
   clear c3
   simp only [Option.some.injEq, Prod.mk.injEq] at H
   obtain ⟨rfl, rfl, rfl⟩ := H
   obtain ⟨HGz5, hgz5⟩ := HI0.out
   have hcz5_0 := cellS80_0 HGz5
   have hcz5_1 := cellS80_1 HGz5
   have hfz5_0 := blk_frozen HGz5 0
   have hfz5_1 := blk_frozen HGz5 1
   clear HGz5 hgz5
   have p4 : 0 ≤ (s0_1 : Int) := of_decide_eq_true (by (with_reducible assumption))
   have q4 : s0_1 < (s0_0.size : Int) := of_decide_eq_true (by (with_reducible assumption))
   have hx4 := bt_at s0_0 s0_1
   replace p4 := eq_true p4
   replace q4 := eq_true q4
   go_enter Tryd.func50, Tryd.ntmps50
   go_wp2
   repeat (go_quiet (fail); try go_wp2)
   go_ret
   exact ⟨by rfl, by repeat (with_reducible first | exact HI0.out | apply IsS80.drewN), by repeat (with_reducible first | exact HB.out | apply pw_below_drewN), by repeat (with_reducible first | exact HK.out | apply keep_drewN)⟩
  ·rw [if_neg c3] at H
   exact absurd H (by simp)
 ·rw [if_neg c2] at H
  have c2b0 : decide (s0_1 < (s0_0.size : Int)) = false := decide_eq_false c2
  clear c2
  simp only [Option.some.injEq, Prod.mk.injEq] at H
  obtain ⟨rfl, rfl, rfl⟩ := H
  obtain ⟨HGz6, hgz6⟩ := HI0.out
  have hcz6_0 := cellS80_0 HGz6
  have hcz6_1 := cellS80_1 HGz6
  have hfz6_0 := blk_frozen HGz6 0
  have hfz6_1 := blk_frozen HGz6 1
  clear HGz6 hgz6
  go_enter Tryd.func50, Tryd.ntmps50
  go_wp2
  repeat (go_quiet (fail); try go_wp2)
  go_ret
  exact ⟨by rfl, by repeat (with_reducible first | exact HI0.out | apply IsS80.drewN), by repeat (with_reducible first | exact HB.out | apply pw_below_drewN), by repeat (with_reducible first | exact HK.out | apply keep_drewN)⟩
/-! ### spec_hexDigit: function 56 -/
mutual
def spec_hexDigit.j0 : Nat → Int → Bool → Option (Int × Bool)
 | 0, _, _ => none
 | k + 1, x0, x4 => if x4 = true then (some ((x0 - 48) % 256, true)) else (if 97 ≤ x0 then (spec_hexDigit.j1 k x0 (decide (x0 ≤ 102))) else (spec_hexDigit.j1 k x0 false))
def spec_hexDigit.j1 : Nat → Int → Bool → Option (Int × Bool)
 | 0, _, _ => none
 | k + 1, x0, x14 => if x14 = true then (some (((x0 - 97) % 256) + 10, true)) else (if 65 ≤ x0 then (if x0 ≤ 70 then (some (((x0 - 65) % 256) + 10, true)) else (some (0, false))) else (some (0, false)))
end
def spec_hexDigit.f (k : Nat) (a0 : Int) : Option (Int × Bool) := if 48 ≤ a0 then (spec_hexDigit.j0 k a0 (decide (a0 ≤ 57))) else (spec_hexDigit.j0 k a0 false)
theorem spec_hexDigit.mono_l : ∀ k, (∀ y0 y1, LeO (spec_hexDigit.j0 k y0 y1) (spec_hexDigit.j0 (k + 1) y0 y1)) ∧ (∀ y0 y1, LeO (spec_hexDigit.j1 k y0 y1) (spec_hexDigit.j1 (k + 1) y0 y1))
 | 0 => ⟨fun _ _ r h => by simp [spec_hexDigit.j0] at h, fun _ _ r h => by simp [spec_hexDigit.j1] at h⟩
 | k + 1 => by
  obtain ⟨ih0, ih1⟩ := spec_hexDigit.mono_l k
  refine ⟨?_, ?_⟩
  ·intro y0 y1
   unfold spec_hexDigit.j0
   repeat' first
   | (with_reducible exact ih0 _ _)
   | (with_reducible exact ih1 _ _)
   | (with_reducible exact LeO.refl _)
   | (with_reducible exact LeO.none _)
   | (with_reducible refine LeO.ite ?_ ?_)
   | (with_reducible refine LeO.bind ?_ (fun _ => ?_))
   | exact ih0 _ _
   | exact ih1 _ _
   | exact LeO.none _
   | refine LeO.ite ?_ ?_
   | refine LeO.bind ?_ (fun _ => ?_)
  ·intro y0 y1
   unfold spec_hexDigit.j1
   repeat' first
   | (with_reducible exact ih0 _ _)
   | (with_reducible exact ih1 _ _)
   | (with_reducible exact LeO.refl _)
   | (with_reducible exact LeO.none _)
   | (with_reducible refine LeO.ite ?_ ?_)
   | (with_reducible refine LeO.bind ?_ (fun _ => ?_))
   | exact ih0 _ _
   | exact ih1 _ _
   | exact LeO.none _
   | refine LeO.ite ?_ ?_
   | refine LeO.bind ?_ (fun _ => ?_)
theorem spec_hexDigit.mono : ∀ a0 k, LeO (spec_hexDigit.f k a0) (spec_hexDigit.f (k + 1) a0) := by
 intro a0 k
 obtain ⟨ih0, ih1⟩ := spec_hexDigit.mono_l k
 unfold spec_hexDigit.f
 repeat' first
   | (with_reducible exact ih0 _ _)
   | (with_reducible exact ih1 _ _)
   | (with_reducible exact LeO.refl _)
   | (with_reducible exact LeO.none _)
   | (with_reducible refine LeO.ite ?_ ?_)
   | (with_reducible refine LeO.bind ?_ (fun _ => ?_))
   | exact ih0 _ _
   | exact ih1 _ _
   | exact LeO.none _
   | refine LeO.ite ?_ ?_
   | refine LeO.bind ?_ (fun _ => ?_)
set_option maxHeartbeats 8000000 in
set_option maxRecDepth 100000 in
theorem spec_hexDigit.calls (k : Nat) (a0 : Int) (r1 : Int) (r2 : Bool) (w : World) (h : spec_hexDigit.f k a0 = some (r1, r2)) :
  Calls Tryd.prog 56 #[.int .u8 a0] w fun e w' => e = .returned (.tuple #[.int .i64 r1, .bool r2]) ∧ Drawn0 w w' := by
 have H : (if 48 ≤ a0 then (spec_hexDigit.j0 k a0 (decide (a0 ≤ 57))) else (spec_hexDigit.j0 k a0 false)) = some (r1, r2) := h
 clear h
 have HC2 := aj H
 clear H
 go_enter Tryd.func56, Tryd.ntmps56
 go_upto_region 1 with (fail)
 go_cut [4] (fun v4 wc => ∃ (kq : Nat) (x4_1 : Bool), v4 = .bool x4_1 ∧ Aside0 (spec_hexDigit.j0 kq a0 x4_1 = some (r1, r2)) ∧ Aside0 (kq ≤ k) ∧ Drawn0 w wc)
 case first =>
  have H := HC2.out
  clear HC2
  by_cases c3 : 48 ≤ a0
  ·rw [if_pos c3] at H
   have c3b0 : decide (48 ≤ a0) = true := decide_eq_true c3
   clear c3
   have H' := aj H
   clear H
   go_wp2
   go_meet
   case rel => exact ⟨_, (decide (a0 ≤ 57)), (by rfl), H', ⟨by omega⟩, by repeat (exact Drawn0.refl _)⟩
  ·rw [if_neg c3] at H
   have c3b0 : decide (48 ≤ a0) = false := decide_eq_false c3
   clear c3
   have H' := aj H
   clear H
   go_wp2
   go_meet
   case rel => exact ⟨_, (false), (by rfl), H', ⟨by omega⟩, by repeat (exact Drawn0.refl _)⟩
 case rest =>
  clear HC2
  obtain ⟨kq, x4_1, rfl, HA, HJ1, ⟨mc1, rfl⟩⟩ := hcut
  cases kq with
  | zero => exact absurd HA.out (by simp [spec_hexDigit.j0])
  | succ kj1 =>
   have H := HA.out
   clear HA
   simp only [spec_hexDigit.j0] at H
   by_cases c4 : x4_1 = true
   ·subst c4
    rw [if_pos rfl] at H
    simp only [Option.some.injEq, Prod.mk.injEq] at H
    obtain ⟨rfl, rfl⟩ := H
    go_wp2
    go_ret2
    exact ⟨by rfl, by repeat (first | exact Drawn0.refl _ | apply Drawn0.step)⟩
   ·replace c4 := Bool.eq_false_iff.mpr c4
    subst c4
    rw [if_neg (show ¬ (false = true) by decide)] at H
    have HC5 := aj H
    clear H
    go_upto_region 3 with (fail)
    go_cut [14] (fun v14 wc => ∃ (kq : Nat) (x14_4 : Bool), v14 = .bool x14_4 ∧ Aside0 (spec_hexDigit.j1 kq a0 x14_4 = some (r1, r2)) ∧ Aside0 (kq ≤ kj1) ∧ Drawn0 w wc)
    case first =>
     have H := HC5.out
     clear HC5
     by_cases c6 : 97 ≤ a0
     ·rw [if_pos c6] at H
      have c6b0 : decide (97 ≤ a0) = true := decide_eq_true c6
      clear c6
      have H' := aj H
      clear H
      go_wp2
      go_meet
      case rel => exact ⟨_, (decide (a0 ≤ 102)), (by rfl), H', ⟨by have := HJ1.out; omega⟩, by repeat (first | exact Drawn0.refl _ | apply Drawn0.step)⟩
     ·rw [if_neg c6] at H
      have c6b0 : decide (97 ≤ a0) = false := decide_eq_false c6
      clear c6
      have H' := aj H
      clear H
      go_wp2
      go_meet
      case rel => exact ⟨_, (false), (by rfl), H', ⟨by have := HJ1.out; omega⟩, by repeat (first | exact Drawn0.refl _ | apply Drawn0.step)⟩
    case rest =>
     clear HC5
     obtain ⟨kq, x14_4, rfl, HA, HJ4, ⟨mc4, rfl⟩⟩ := hcut
     cases kq with
     | zero => exact absurd HA.out (by simp [spec_hexDigit.j1])
     | succ kj4 =>
      have H := HA.out
      clear HA
      simp only [spec_hexDigit.j1] at H
      by_cases c7 : x14_4 = true
      ·subst c7
       rw [if_pos rfl] at H
       simp only [Option.some.injEq, Prod.mk.injEq] at H
       obtain ⟨rfl, rfl⟩ := H
       go_wp2
       go_ret2
       exact ⟨by rfl, by repeat (first | exact Drawn0.refl _ | apply Drawn0.step)⟩
      ·replace c7 := Bool.eq_false_iff.mpr c7
       subst c7
       rw [if_neg (show ¬ (false = true) by decide)] at H
       by_cases c8 : 65 ≤ a0
       ·rw [if_pos c8] at H
        have c8b0 : decide (65 ≤ a0) = true := decide_eq_true c8
        clear c8
        by_cases c9 : a0 ≤ 70
        ·rw [if_pos c9] at H
         have c9b0 : decide (a0 ≤ 70) = true := decide_eq_true c9
         clear c9
         simp only [Option.some.injEq, Prod.mk.injEq] at H
         obtain ⟨rfl, rfl⟩ := H
         go_wp2
         go_ret2
         exact ⟨by rfl, by repeat (first | exact Drawn0.refl _ | apply Drawn0.step)⟩
        ·rw [if_neg c9] at H
         have c9b0 : decide (a0 ≤ 70) = false := decide_eq_false c9
         clear c9
         simp only [Option.some.injEq, Prod.mk.injEq] at H
         obtain ⟨rfl, rfl⟩ := H
         go_wp2
         go_ret2
         exact ⟨by rfl, by repeat (first | exact Drawn0.refl _ | apply Drawn0.step)⟩
       ·rw [if_neg c8] at H
        have c8b0 : decide (65 ≤ a0) = false := decide_eq_false c8
        clear c8
        simp only [Option.some.injEq, Prod.mk.injEq] at H
        obtain ⟨rfl, rfl⟩ := H
        go_wp2
        go_ret2
        exact ⟨by rfl, by repeat (first | exact Drawn0.refl _ | apply Drawn0.step)⟩
end Go.Proofs.YtcfhnfjkiljigaaDoor.XFnJpGetUnsafe
end
