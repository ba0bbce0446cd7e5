/- Proved here: parts of the law FnJpGetUnsafe (the texts JpSwK), no conditions of their own beyond what each theorem says. -/
import Derived.Test.YtcfhnfjkiljigaaDoorPa5
section
namespace Go.Proofs.YtcfhnfjkiljigaaDoor.Jp
open Go.RowKit Go.Proofs.YtcfhnfjkiljigaaDoorW.PrintWords Go.Proofs.YtcfhnfjkiljigaaDoorW.PrintLast Go.Proofs.YtcfhnfjkiljigaaDoorW.PrintMore
attribute [local go_sem] max2_int min2_int max_two min_two max_three min_three max_four min_four
set_option linter.unusedVariables false
set_option linter.unusedSimpArgs false
set_option maxHeartbeats 64000000 in
set_option maxRecDepth 100000 in
theorem arm_arrSkip (UK : KeyRel) (b2 : Bool) (n3 : Int) (g o c : Nat) (l : List Int) (gk ok ck : Nat) (K : List ByteArray) (r : Int) (w : World) (hrow : Row w g o l) (hby : ∀ x ∈ l, 0 ≤ x ∧ x ≤ 255) (hl : l.length ≤ 1000000) (hc : l.length ≤ c) (hgw : g < w.heap.size) (hkeys : Keys w gk ok K) (hgk : gk < w.heap.size) (hK : K.length ≤ 1000000) (hck : K.length ≤ ck)
  (wr : World) (hSW : SW w g o c l b2 n3 wr) (a : Act) (hfr : Fr (.slice (some ⟨gk, ok, none⟩) K.length ck) (.pointer (some ⟨w.heap.size, 0, none⟩)) (.pointer (some ⟨w.heap.size + 1, 0, none⟩)) (.int .i64 (l.length : Int)) (.int .i64 (K.length : Int)) (.pointer (some ⟨w.heap.size + 2, 0, none⟩)) a) (kl : Nat) (b lm : Bool) (i : Nat) (h7 : a.tmps.getD 7 undef = .int .i64 (kl : Int)) (h8 : a.tmps.getD 8 undef = .int .i64 ((kl + bn b : Nat) : Int)) (h9 : a.tmps.getD 9 undef = .int .i64 (i : Int)) (h12 : a.tmps.getD 12 undef = .bool lm) (hil : i < l.length)
  (h73 : a.tmps.getD 73 undef = .int .u8 91) (hb : b = true) (hd : ∃ e, Scan 91 93 (l.drop i) 0 0 e ∧ Trace UK l K kl true lm (i + e) r)
  (N R : Act → World → Prop) (hn : ∀ (a' : Act) (w' : World) (kl' : Nat) (b' lm' : Bool) (i' : Nat), i < i' → Fr (.slice (some ⟨gk, ok, none⟩) K.length ck) (.pointer (some ⟨w.heap.size, 0, none⟩)) (.pointer (some ⟨w.heap.size + 1, 0, none⟩)) (.int .i64 (l.length : Int)) (.int .i64 (K.length : Int)) (.pointer (some ⟨w.heap.size + 2, 0, none⟩)) a' → a'.tmps.getD 7 undef = .int .i64 (kl' : Int) → a'.tmps.getD 8 undef = .int .i64 ((kl' + bn b' : Nat) : Int) → a'.tmps.getD 9 undef = .int .i64 ((i' : Int) - 1) → a'.tmps.getD 12 undef = .bool lm' → Trace UK l K kl' b' lm' i' r → SW w g o c l b2 n3 w' → N a' w') (hr : ∀ (a' : Act) (w' : World), a'.tmps.size = 283 → a'.defers = [] → a'.tmps.getD 6 undef = .int .i64 r → Below w.heap.size w w' → R a' w') :
  sw4.wp Tryd.prog (Exit.inBlock 4 (QS N R)) a wr := by
 have HROW := Aside0.mk hrow
 have HBY := Aside0.mk hby
 have HKEY := Aside0.mk hkeys
 have HSW := Aside0.mk hSW
 have HN := Aside0.mk hn
 have HR := Aside0.mk hr
 obtain ⟨f, hf, ha⟩ := frame_lit a hfr.size hfr.defers
 have e2_ := (hf 2).trans hfr.e2
 have e3_ := (hf 3).trans hfr.e3
 have e4_ := (hf 4).trans hfr.e4
 have e10_ := (hf 10).trans hfr.e10
 have e11_ := (hf 11).trans hfr.e11
 have e13_ := (hf 13).trans hfr.e13
 have e7_ := (hf 7).trans h7
 have e8_ := (hf 8).trans h8
 have e9_ := (hf 9).trans h9
 have e12_ := (hf 12).trans h12
 have e73_ := (hf 73).trans h73
 rw [e2_, e3_, e4_, e10_, e11_, e13_, e7_, e8_, e9_, e12_, e73_] at ha
 subst ha
 clear hf e2_ e3_ e4_ e10_ e11_ e13_ e7_ e8_ e9_ e12_ e73_ hfr h7 h8 h9 h12 h73 hrow hby hkeys hSW hn hr
 unfold sw4
 conv => arg 2; whnf
 have d0 := HSW.out.d0
 have d1 := HSW.out.d1
 have d2 := HSW.out.d2
 have d3 := HSW.out.d3
 have xi := HROW.out.below HSW.out.bel i hil
 obtain ⟨e0, hs, h2⟩ := hd
 subst hb
 have HT := Aside0.mk h2
 clear h2
 have k1 : ((kl : Int) == (kl : Int) + 1) = false := beq_eq_false_iff_ne.mpr (by omega)
 rw [bn_true]
 have hel : i + e0 ≤ l.length ∧ 0 < e0 := by have := hs.le; rw [List.length_drop] at this; omega
 have HBE : Aside0 (∀ W1, Row W1 g o l → Calls Tryd.prog 59 #[.agg #[.bool false, .bool b2, .int .i64 n3], .slice (some ⟨g, o + i, none⟩) (l.length - i) (c - i), .int .u8 91, .int .u8 93] W1 fun e w' => e = .returned (.int .i64 (e0 : Int)) ∧ Below W1.heap.size W1 w') := ⟨fun W1 hr => by
  have := block_calls b2 n3 91 93 (by decide) g (o + i) (c - i) (l.drop i) e0 W1 (hr.drop i) (fun x hx => HBY.out x (List.mem_of_mem_drop hx)) (by rw [List.length_drop]; omega) (by rw [List.length_drop]; omega) hs
  rw [List.length_drop] at this
  exact this⟩
 have HBE1 := Aside0.mk (HBE.out wr.drew ((HROW.out.below HSW.out.bel).below (below_drew (Below.refl _ _))))
 have y1 : ((e0 : Int) == -1) = false := beq_eq_false_iff_ne.mpr (by omega)
 have y6 : (i : Int) ≤ 1000000 := by omega
 have y7 : (e0 : Int) ≤ 1000000 := by omega
 have y8 : (0 : Int) < (e0 : Int) := by omega
 have za1 : ((i : Int) ≤ (l.length : Int)) = True := eq_true (by omega)
 have za2 : (i ≤ l.length) = True := eq_true (by omega)
 have za3 : (c = i) = False := eq_false (by omega)
 have za4 : (c - i = 0) = False := eq_false (by omega)
 have za5 : (c ≤ i) = False := eq_false (by omega)
 have za6 : (i ≤ c) = True := eq_true (by omega)
 have za7 : (i < l.length) = True := eq_true (by omega)
 have za8 : ((i : Int) < (l.length : Int)) = True := eq_true (by omega)
 clear hs HBE
 go_upto_region 85 with fail
 go_region_with (go_at_call 59; refine HBE1.out.mono ?_; rintro e w4 ⟨rfl, hb4⟩; have HS4 := Aside0.mk (HSW.out.step (below_step (below_drew (Below.refl _ _)) hb4)); clear hb4)
 all_goals go_wp2
 all_goals exact HN.out _ _ kl true lm (i + e0) (by omega) ⟨rfl, rfl, rfl, rfl, rfl, rfl, rfl, rfl⟩ rfl (vint (bn_true kl).symm) (vint (by omega)) rfl HT.out HS4.out
end Go.Proofs.YtcfhnfjkiljigaaDoor.Jp
end
