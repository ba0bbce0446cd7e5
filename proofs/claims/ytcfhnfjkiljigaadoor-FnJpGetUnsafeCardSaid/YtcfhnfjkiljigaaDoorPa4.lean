/- Proved here: parts of the law FnJpGetUnsafe (the texts JpEach), no conditions of their own beyond what each theorem says. -/
import Derived.Test.YtcfhnfjkiljigaaDoorPa3
section
namespace Go.Proofs.YtcfhnfjkiljigaaDoor.Jp
open Go.RowKit Go.Proofs.YtcfhnfjkiljigaaDoorW.PrintWords Go.Proofs.YtcfhnfjkiljigaaDoorW.PrintLast Go.Proofs.YtcfhnfjkiljigaaDoorW.PrintMore
attribute [local go_sem] max2_int min2_int max_two min_two max_three min_three max_four min_four
set_option linter.unusedVariables false
set_option linter.unusedSimpArgs false
/-- The elements of an array from a place on: where each begins, how long it is, its kind; and where the array's bracket closes. -/
inductive Els (l : List Int) : Nat → List (Nat × Nat × Int) → Nat → Prop
 | last {p a n j : Nat} {ty : Int} (ha : Fj.ws (l.drop p) + p = a) (hT : TyAt l a n ty) (hj : Fj.ws (l.drop (a + n)) + (a + n) = j) (hjl : j < l.length) (hc : rd l (j : Int) = 93) : Els l p [(a, n, ty)] j
 | more {p a n j e : Nat} {ty : Int} {es : List (Nat × Nat × Int)} (ha : Fj.ws (l.drop p) + p = a) (hT : TyAt l a n ty) (hj : Fj.ws (l.drop (a + n)) + (a + n) = j) (hjl : j < l.length) (hc : rd l (j : Int) = 44) (r : Els l (j + 1) es e) : Els l p ((a, n, ty) :: es) e
theorem Els.step {l : List Int} {p e : Nat} {es : List (Nat × Nat × Int)} (h : Els l p es e) : ∃ a n ty r, es = (a, n, ty) :: r ∧ Fj.ws (l.drop p) + p = a ∧ TyAt l a n ty ∧ Fj.ws (l.drop (a + n)) + (a + n) < l.length ∧
  ((rd l ((Fj.ws (l.drop (a + n)) + (a + n) : Nat) : Int) = 93 ∧ e = Fj.ws (l.drop (a + n)) + (a + n) ∧ r = []) ∨ (rd l ((Fj.ws (l.drop (a + n)) + (a + n) : Nat) : Int) = 44 ∧ Els l (Fj.ws (l.drop (a + n)) + (a + n) + 1) r e)) := by
 cases h with
 | last ha hT hj hjl hc => subst hj; exact ⟨_, _, _, _, rfl, ha, hT, hjl, Or.inl ⟨hc, rfl, rfl⟩⟩
 | more ha hT hj hjl hc r => subst hj; exact ⟨_, _, _, _, rfl, ha, hT, hjl, Or.inr ⟨hc, r⟩⟩
theorem Els.lt {l : List Int} {p e : Nat} {es : List (Nat × Nat × Int)} (h : Els l p es e) : p < l.length := by
 obtain ⟨a, n, ty, r, -, ha, hT, -⟩ := h.step
 have := hT.lt
 omega
theorem TyAt.shift {l : List Int} {p n : Nat} {ty : Int} (h : TyAt l p n ty) {q : Nat} (hq : q ≤ p) : TyAt (l.drop q) (p - q) n ty := by
 have hr : rd (l.drop q) ((p - q : Nat) : Int) = rd l (p : Int) := by rw [rd_dropN, show q + (p - q) = p by omega]
 have hd : (l.drop q).drop (p - q) = l.drop p := by rw [List.drop_drop, show q + (p - q) = p by omega]
 have hd1 : (l.drop q).drop (p - q + 1) = l.drop (p + 1) := by rw [List.drop_drop, show q + (p - q + 1) = p + 1 by omega]
 cases h with
 | str hp hpn k hn h34 hk => exact .str (by rw [List.length_drop]; omega) (by rw [List.length_drop]; omega) k hn (hr.trans h34) (by rw [hd1]; exact hk)
 | arr hp hpn hx0 hs => exact .arr (by rw [List.length_drop]; omega) (by rw [List.length_drop]; omega) (hr.trans hx0) (by rw [hd]; exact hs)
 | obj hp hpn hx0 hs => exact .obj (by rw [List.length_drop]; omega) (by rw [List.length_drop]; omega) (hr.trans hx0) (by rw [hd]; exact hs)
 | num hp hpn h1 hx0 htk => exact .num (by rw [List.length_drop]; omega) (by rw [List.length_drop]; omega) h1 (by rw [hr]; exact hx0) (by rw [hd]; exact htk)
 | tru hp hpn hw htk => exact .tru (by rw [List.length_drop]; omega) (by rw [List.length_drop]; omega) (by rw [hd]; exact hw) (by rw [hd]; exact htk)
 | fls hp hpn hw htk => exact .fls (by rw [List.length_drop]; omega) (by rw [List.length_drop]; omega) (by rw [hd]; exact hw) (by rw [hd]; exact htk)
 | nul hp hpn hw htk => exact .nul (by rw [List.length_drop]; omega) (by rw [List.length_drop]; omega) (by rw [hd]; exact hw) (by rw [hd]; exact htk)
theorem vb_shift (ty : Int) {q a : Nat} (h : q ≤ a) (o : Nat) : o + q + vb ty (a - q) = o + vb ty a := by
 unfold vb
 split <;> omega
/-- nextTokenConfig at a place, told by where the next token stands. -/
theorem next_at (b2 : Bool) (n3 : Int) (g o c : Nat) (l : List Int) (p k : Nat) (W1 : World) (hr : Row W1 g o l) (hl : l.length ≤ 1000000) (hk : Fj.ws (l.drop p) = k) (hlt : k + p < l.length) :
  Calls Tryd.prog 44 #[.agg #[.bool false, .bool b2, .int .i64 n3], .slice (some ⟨g, o + p, none⟩) (l.length - p) (c - p)] W1 fun e w' => e = .returned (.int .i64 (k : Int)) ∧ Below W1.heap.size W1 w' := by
 have := next_calls false b2 n3 g (o + p) (c - p) (l.drop p) W1 (hr.drop p) (by rw [List.length_drop]; omega)
 have hne : nextI (l.drop p) = (k : Int) := by
  unfold nextI
  rw [hk, if_neg (by rw [List.length_drop]; omega)]
 rw [List.length_drop, hne] at this
 exact this
/-- Config.Get without keys at a place. -/
theorem cget_at (b2 : Bool) (n3 : Int) (g o c : Nat) (l : List Int) (p a n : Nat) (ty : Int) (W1 : World) (hr : Row W1 g o l) (hby : ∀ x ∈ l, 0 ≤ x ∧ x ≤ 255) (hl : l.length ≤ 1000000) (hc : l.length ≤ c) (hp : p ≤ l.length) (ha : Fj.ws (l.drop p) + p = a) (h : TyAt l a n ty) (E : Nat) (hE : E + p = a + n) :
  Calls Tryd.prog 32 #[.agg #[.bool false, .bool b2, .int .i64 n3], .slice (some ⟨g, o + p, none⟩) (l.length - p) (c - p), .slice none 0 0] W1 fun e w' => e = .returned (.tuple #[.slice (some ⟨g, o + vb ty a, none⟩) (vn ty n) (vn ty n), .int .i64 ty, .int .i64 (E : Int), .nilIface]) ∧ Below W1.heap.size W1 w' := by
 have := cget_any b2 n3 g (o + p) (c - p) (l.drop p) (a - p) n ty W1 (hr.drop p) (fun x hx => hby x (List.mem_of_mem_drop hx)) (by rw [List.length_drop]; omega) (by rw [List.length_drop]; omega) (by omega) (h.shift (by omega))
 rw [List.length_drop] at this
 unfold Ans4 at this
 rw [vb_shift ty (by omega), show a - p + n = E by omega] at this
 exact this
/-- What a callback is asked for: it takes the element of a number, and leaves alone what was made since. -/
def CbOk (g o : Nat) (F : Nat) (cap : Array Value) (B : Nat) (es : List (Nat × Nat × Int)) (I : Nat → World → Prop) : Prop :=
 ∀ (k a n : Nat) (ty : Int) (W : World) (off : Int), es[k]? = some (a, n, ty) → off = (a : Int) + (n : Int) - (vn ty n : Nat) → I k W → B ≤ W.heap.size → Calls Tryd.prog F (#[.slice (some ⟨g, o + vb ty a, none⟩) (vn ty n) (vn ty n), .int .i64 ty, .int .i64 off, .nilIface] ++ cap) W fun e w' => e = .returned (.tuple #[]) ∧ I (k + 1) w' ∧ W.heap.size ≤ w'.heap.size ∧ ∀ ad v, B ≤ ad.block → W.cell? ad = some v → w'.cell? ad = some v
set_option maxHeartbeats 16000000 in
set_option maxRecDepth 100000 in
theorem each_calls (b2 : Bool) (n3 : Int) (g o c : Nat) (l : List Int) (F : Nat) (cap : Array Value) (p0 p1 ef : Nat) (es : List (Nat × Nat × Int)) (w : World) (I : Nat → World → Prop) (hI0 : I 0 w) (hIb : ∀ k W W', I k W → Below W.heap.size W W' → I k W') (hIr : ∀ k W, I k W → Row W g o l) (hcb : CbOk g o F cap w.heap.size es I) (hF : ∀ args W, (callFunc F args).run Tryd.prog W = .ok (.enter F args) W)
  (hby : ∀ x ∈ l, 0 ≤ x ∧ x ≤ 255) (hl : l.length ≤ 1000000) (hc : l.length ≤ c)
  (h0 : Fj.ws l = p0) (h0l : p0 < l.length) (h91 : rd l (p0 : Int) = 91) (k1 : Nat) (h1 : Fj.ws (l.drop (p0 + 1)) = k1) (hp1 : p1 = p0 + 1 + k1) (h93 : (rd l (p1 : Int) == 93) = false) (hE : Els l p1 es ef) :
  Calls Tryd.prog 29 #[.agg #[.bool false, .bool b2, .int .i64 n3], .slice (some ⟨g, o, none⟩) l.length c, .func (.func F) #[] cap, .slice none 0 0] w fun e w' => e = .returned (.tuple #[.int .i64 (ef : Int), .nilIface]) ∧ I es.length w' := by
 obtain ⟨W, hW⟩ : ∃ W, w.alloc (.cells #[.bool false, .bool b2, .int .i64 n3] 61) = W := ⟨_, rfl⟩
 obtain ⟨cf, hcf⟩ : ∃ cf, w.heap.size = cf := ⟨_, rfl⟩
 have hBW : Below w.heap.size w W := by rw [← hW]; exact XWords.below_alloc0 (Nat.le_refl _) (Below.refl w.heap.size w) _
 have hWs : cf ≤ W.heap.size := by rw [← hcf]; exact hBW.size
 have HI0 := Aside0.mk (hIb 0 w W hI0 hBW)
 have HIB := Aside0.mk hIb
 have HIR := Aside0.mk hIr
 have d0 : W.cell? ⟨cf, 0, none⟩ = some (.bool false) := by rw [← hW, ← hcf]; exact World.cell?_alloc_new w #[.bool false, .bool b2, .int .i64 n3] 61 0
 have d1 : W.cell? ⟨cf, 1, none⟩ = some (.bool b2) := by rw [← hW, ← hcf]; exact World.cell?_alloc_new w #[.bool false, .bool b2, .int .i64 n3] 61 1
 have d2 : W.cell? ⟨cf, 2, none⟩ = some (.int .i64 n3) := by rw [← hW, ← hcf]; exact World.cell?_alloc_new w #[.bool false, .bool b2, .int .i64 n3] 61 2
 rw [hcf] at hcb
 have HCB := Aside0.mk hcb
 have HBY := Aside0.mk hby
 have hst := hE.step
 have hp1l : p1 < l.length := by
  obtain ⟨a, n, ty, r, -, ha, hT, -⟩ := hst
  have := hT.lt
  omega
 have HE := Aside0.mk hE
 have HWS := Aside0.mk hWs
 clear hI0 hIb hIr hcb hby hE hBW hst hWs
 have hr0 := HIR.out 0 W HI0.out
 have x0 := hr0 p0 h0l
 rw [h91] at x0
 have HN0 : Aside0 (∀ W1, Row W1 g o l → Calls Tryd.prog 44 #[.agg #[.bool false, .bool b2, .int .i64 n3], .slice (some ⟨g, o, none⟩) l.length c] W1 fun e w' => e = .returned (.int .i64 (p0 : Int)) ∧ Below W1.heap.size W1 w') := ⟨fun W1 hr => next_at b2 n3 g o c l 0 p0 W1 hr hl h0 (by omega)⟩
 have HN0' := Aside0.mk (HN0.out W hr0)
 have HN1 : Aside0 (∀ W1, Row W1 g o l → Calls Tryd.prog 44 #[.agg #[.bool false, .bool b2, .int .i64 n3], .slice (some ⟨g, o + (p0 + 1), none⟩) (l.length - (p0 + 1)) (c - (p0 + 1))] W1 fun e w' => e = .returned (.int .i64 (k1 : Int)) ∧ Below W1.heap.size W1 w') := ⟨fun W1 hr => next_at b2 n3 g o c l (p0 + 1) k1 W1 hr hl h1 (by omega)⟩
 clear hr0
 have y0 : ((p0 : Int) == -1) = false := beq_eq_false_iff_ne.mpr (by omega)
 have y1 : ((k1 : Int) == -1) = false := beq_eq_false_iff_ne.mpr (by omega)
 have y2 : (l.length = 0) = False := eq_false (by omega)
 have y3 : (l.length == 0) = false := beq_eq_false_iff_ne.mpr (by omega)
 have y4 : ((l.length : Int) == 0) = false := beq_eq_false_iff_ne.mpr (by omega)
 have y5 : (l = []) = False := eq_false (by rintro rfl; simp at h0l)
 have y6 : (p0 : Int) ≤ 1000000 := by omega
 have y7 : (k1 : Int) ≤ 1000000 := by omega
 have y8 : (p1 : Int) = (p0 : Int) + 1 + (k1 : Int) := by omega
 have za1 : ((p0 : Int) + 1 ≤ (l.length : Int)) = True := eq_true (by omega)
 have za2 : (p0 + 1 ≤ l.length) = True := eq_true (by omega)
 have za3 : (c = p0 + 1) = False := eq_false (by omega)
 have za4 : (c - (p0 + 1) = 0) = False := eq_false (by omega)
 have za5 : (c ≤ p0 + 1) = False := eq_false (by omega)
 have za6 : (p0 + 1 ≤ c) = True := eq_true (by omega)
 have za7 : (p0 + 1 < l.length) = True := eq_true (by omega)
 have za8 : ((p0 : Int) + 1 < (l.length : Int)) = True := eq_true (by omega)
 have zb1 : ((p0 : Int) ≤ (l.length : Int)) = True := eq_true (by omega)
 have zb2 : (p0 ≤ l.length) = True := eq_true (by omega)
 have zb3 : (c = p0) = False := eq_false (by omega)
 have zb4 : (c - p0 = 0) = False := eq_false (by omega)
 have zb5 : (c ≤ p0) = False := eq_false (by omega)
 have zb6 : (p0 ≤ c) = True := eq_true (by omega)
 have zb7 : (p0 < l.length) = True := eq_true (by omega)
 have zb8 : ((p0 : Int) < (l.length : Int)) = True := eq_true (by omega)
 have zc1 : (p0 + 1 + k1 < l.length) = True := eq_true (by omega)
 have zc2 : ((p0 : Int) + 1 + (k1 : Int) < (l.length : Int)) = True := eq_true (by omega)
 rw [y8] at h93
 clear h0 h1 h91
 go_enter Tryd.func29, Tryd.ntmps29
 go_wp2_with (go_at_call 44; refine HN0'.out.mono ?_; rintro e w1 ⟨rfl, hb1⟩; have HI1 := Aside0.mk (HIB.out _ _ _ HI0.out hb1); have HS1 : Aside0 (cf ≤ w1.heap.size) := ⟨Nat.le_trans HWS.out hb1.size⟩; have e0 := pw_cell_below hb1 d0; have e1 := pw_cell_below hb1 d1; have e2 := pw_cell_below hb1 d2; have x1 := pw_cell_below hb1 x0; clear hb1 d0 d1 d2 x0)
 have HN1' := Aside0.mk (HN1.out w1.drew (HIR.out 0 _ (HIB.out _ _ _ HI1.out (below_drew (Below.refl _ _)))))
 go_upto_region 20 with fail
 go_region_with (go_at_call 44; refine HN1'.out.mono ?_; rintro e w2 ⟨rfl, hb2⟩; have hbb := below_step (below_drew (Below.refl _ _)) hb2; have HI2 := Aside0.mk (HIB.out _ _ _ HI1.out hbb); have HS2 : Aside0 (cf ≤ w2.heap.size) := ⟨Nat.le_trans HS1.out hbb.size⟩; have d0 := pw_cell_below hbb e0; have d1 := pw_cell_below hbb e1; have d2 := pw_cell_below hbb e2; clear hbb hb2 e0 e1 e2 x1)
 all_goals clear HI1 HS1 HN1 HN1' HN0 HN0' HI0 HWS
 all_goals have x2 := (HIR.out 0 _ HI2.out) p1 hp1l
 all_goals have hpe : o + (p0 + 1 + k1) = o + p1 := by omega
 all_goals go_wp2
 all_goals clear x2 h93
 all_goals go_loopg [8] (l.length - p1) (fun n v wr => ∃ (p k : Nat) (rest : List (Nat × Nat × Int)), v = .int .i64 (p : Int) ∧ p < l.length ∧ n = l.length - p ∧ Aside0 (es.drop k = rest ∧ Els l p rest ef) ∧ Aside0 (I k wr) ∧ Aside0 (cf ≤ wr.heap.size) ∧ wr.cell? ⟨cf, 0, none⟩ = some (.bool false) ∧ wr.cell? ⟨cf, 1, none⟩ = some (.bool b2) ∧ wr.cell? ⟨cf, 2, none⟩ = some (.int .i64 n3))
 case atStart => exact ⟨p1, 0, es, by rw [y8], hp1l, rfl, ⟨rfl, HE.out⟩, HI2, HS2, d0, d1, d2⟩
 case round =>
  clear HI2 HS2 d0 d1 d2 HE y0 y1 y6 y7 y8 za1 za2 za3 za4 za5 za6 za7 za8 zb1 zb2 zb3 zb4 zb5 zb6 zb7 zb8 zc1 zc2 hp1 hp1l h0l hpe
  obtain ⟨p, k, rest, rfl, hpl, hn, HES, HI, HS, d0, d1, d2⟩ := hrel
  obtain ⟨a, n', ty, r, hr, ha, hT, hjl, hdis⟩ := HES.out.2.step
  have hlt := hT.lt
  have hek : es[k]? = some (a, n', ty) := by
   have h := congrArg (fun l => l[0]?) (HES.out.1.trans hr)
   simpa using h
  have her : es.drop (k + 1) = r := by
   have h := congrArg List.tail (HES.out.1.trans hr)
   simpa [List.tail_drop] using h
  obtain ⟨E, hE⟩ : ∃ E, E + p = a + n' := ⟨a + n' - p, by omega⟩
  obtain ⟨v, hv⟩ : ∃ v, vn ty n' = v := ⟨_, rfl⟩
  obtain ⟨B, hB⟩ : ∃ B, o + vb ty a = B := ⟨_, rfl⟩
  obtain ⟨kj, hkj⟩ : ∃ kj, Fj.ws (l.drop (a + n')) = kj := ⟨_, rfl⟩
  obtain ⟨S, hS⟩ : ∃ S, S = a + n' := ⟨_, rfl⟩
  obtain ⟨T, hT9⟩ : ∃ T, T = kj + (a + n') := ⟨_, rfl⟩
  have hSI : (p : Int) + (E : Int) = (S : Int) := by omega
  have hTI : (S : Int) + (kj : Int) = (T : Int) := by omega
  have hvl : v ≤ n' := by rw [← hv]; unfold vn; split <;> omega
  rw [hkj, ← hT9] at hjl hdis
  have HG := Aside0.mk (cget_at b2 n3 g o c l p a n' ty wr.drew (HIR.out k _ (HIB.out _ _ _ HI.out (below_drew (Below.refl _ _)))) HBY.out hl hc (by omega) ha hT E hE)
  rw [hv, hB] at HG
  have HC : Aside0 (∀ W : World, I k W → cf ≤ W.heap.size → Calls Tryd.prog F (#[.slice (some ⟨g, B, none⟩) v v, .int .i64 ty, .int .i64 ((S : Int) - (v : Int)), .nilIface] ++ cap) W fun e w' => e = .returned (.tuple #[]) ∧ I (k + 1) w' ∧ W.heap.size ≤ w'.heap.size ∧ ∀ ad v, cf ≤ ad.block → W.cell? ad = some v → w'.cell? ad = some v) := ⟨fun W h1 h2 => by
   have := HCB.out k a n' ty W ((S : Int) - (v : Int)) hek (by rw [hv]; omega) h1 h2
   rw [hv, hB] at this
   exact this⟩
  have HNJ : Aside0 (∀ W1, Row W1 g o l → Calls Tryd.prog 44 #[.agg #[.bool false, .bool b2, .int .i64 n3], .slice (some ⟨g, o + S, none⟩) (l.length - S) (c - S)] W1 fun e w' => e = .returned (.int .i64 (kj : Int)) ∧ Below W1.heap.size W1 w') := ⟨fun W1 hr => next_at b2 n3 g o c l S kj W1 hr hl (by rw [show S = a + n' by omega]; exact hkj) (by omega)⟩
  have y0 : ((E : Int) == 0) = false := beq_eq_false_iff_ne.mpr (by omega)
  have y1 : ((kj : Int) == -1) = false := beq_eq_false_iff_ne.mpr (by omega)
  have y6 : (p : Int) ≤ 1000000 := by omega
  have y7 : (kj : Int) ≤ 1000000 := by omega
  have y8 : (E : Int) ≤ 1000000 := by omega
  have y9 : (v : Int) ≤ 1000000 := by omega
  have za1 : ((p : Int) ≤ (l.length : Int)) = True := eq_true (by omega)
  have za2 : (p ≤ l.length) = True := eq_true (by omega)
  have za3 : (c = p) = False := eq_false (by omega)
  have za4 : (c - p = 0) = False := eq_false (by omega)
  have za5 : (c ≤ p) = False := eq_false (by omega)
  have za6 : (p ≤ c) = True := eq_true (by omega)
  have za7 : (p < l.length) = True := eq_true (by omega)
  have za8 : ((p : Int) < (l.length : Int)) = True := eq_true (by omega)
  have zb1 : ((S : Int) ≤ (l.length : Int)) = True := eq_true (by omega)
  have zb2 : (S ≤ l.length) = True := eq_true (by omega)
  have zb3 : (c = S) = False := eq_false (by omega)
  have zb4 : (c - S = 0) = False := eq_false (by omega)
  have zb5 : (c ≤ S) = False := eq_false (by omega)
  have zb6 : (S ≤ c) = True := eq_true (by omega)
  have zb7 : (S < l.length) = True := eq_true (by omega)
  have zb8 : ((S : Int) < (l.length : Int)) = True := eq_true (by omega)
  have zc1 : (T < l.length) = True := eq_true (by omega)
  have zc2 : ((T : Int) < (l.length : Int)) = True := eq_true (by omega)
  have zc3 : (T : Int) ≤ 1000000 := by omega
  have zc4 : (S : Int) ≤ 1000000 := by omega
  have HST : Aside0 (S ≤ T ∧ p < S) := ⟨by omega, by omega⟩
  have HDIS := Aside0.mk hdis
  have HER := Aside0.mk her
  have HKL : Aside0 (k < es.length) := ⟨(List.getElem?_eq_some_iff.mp hek).1⟩
  have HN := Aside0.mk hn
  clear hn HES hr ha hT hlt hek hE hv hB hkj hjl hdis hvl her hS hT9
  go_upto_region 26 with fail
  go_region_with (go_at_call 32; refine HG.out.mono ?_; rintro e w3 ⟨rfl, hb3⟩; have hbb := below_step (below_drew (Below.refl _ _)) hb3; have HI3 := Aside0.mk (HIB.out _ _ _ HI.out hbb); have HS3 : Aside0 (cf ≤ w3.heap.size) := ⟨Nat.le_trans HS.out hbb.size⟩; have e0 := pw_cell_below hbb d0; have e1 := pw_cell_below hbb d1; have e2 := pw_cell_below hbb d2; clear hbb hb3 d0 d1 d2)
  all_goals have HC1 := Aside0.mk (HC.out w3 HI3.out HS3.out)
  all_goals go_wp2_with fail
  all_goals refine HC1.out.mono ?_
  all_goals (rintro e w4 ⟨rfl, hi4, hs4, hk4⟩; have HI4 := Aside0.mk hi4; have HS4 : Aside0 (cf ≤ w4.heap.size) := ⟨Nat.le_trans HS3.out hs4⟩; have d0 := hk4 _ _ (Nat.le_refl _) e0; have d1 := hk4 _ _ (Nat.le_refl _) e1; have d2 := hk4 _ _ (Nat.le_refl _) e2; clear hi4 hs4 hk4 e0 e1 e2)
  all_goals dsimp only
  all_goals have HNJ1 := Aside0.mk (HNJ.out w4.drew (HIR.out _ _ (HIB.out _ _ _ HI4.out (below_drew (Below.refl _ _)))))
  all_goals go_upto_region 33 with fail
  all_goals go_region_with (go_at_call 44; refine HNJ1.out.mono ?_; rintro e w5 ⟨rfl, hb5⟩; have hbb := below_step (below_drew (Below.refl _ _)) hb5; have HI5 := Aside0.mk (HIB.out _ _ _ HI4.out hbb); have HS5 : Aside0 (cf ≤ w5.heap.size) := ⟨Nat.le_trans HS4.out hbb.size⟩; have e0 := pw_cell_below hbb d0; have e1 := pw_cell_below hbb d1; have e2 := pw_cell_below hbb d2; clear hbb hb5 d0 d1 d2)
  all_goals have x5 := (HIR.out _ _ HI5.out) T (of_eq_true zc1)
  all_goals clear HG HC HNJ HNJ1 HC1 HCB HI4 HI3 HI HS HS3 HS4
  all_goals
   rcases HDIS.out with ⟨h93, hfin, hnil⟩ | ⟨h44, hmore⟩
   ·have q93 : (rd l (T : Int) == 93) = true := beq_iff_eq.mpr h93
    have HFN : Aside0 (ef = T) := ⟨hfin⟩
    have HNIL : Aside0 (k + 1 = es.length) := ⟨by
     have h1 := HER.out
     rw [hnil] at h1
     have h2 := congrArg List.length h1
     rw [List.length_drop] at h2
     have h3 := HKL.out
     simp at h2
     omega⟩
    clear h93 hfin hnil HER HKL HN HDIS
    go_wp2
    go_ret2
    exact ⟨by rw [HFN.out]; rfl, by rw [← HNIL.out]; exact HI5.out⟩
   ·have q93 : (rd l (T : Int) == 93) = false := by rw [h44]; rfl
    have q44 : (rd l (T : Int) == 44) = true := beq_iff_eq.mpr h44
    have q44b : (rd l (T : Int) != 44) = false := by rw [h44]; rfl
    have HM := Aside0.mk hmore
    clear h44 hmore HKL HDIS
    go_wp2
    go_roundg (l.length - (T + 1))
    case measure => have := HN.out; have := HST.out; omega
    case rel => exact ⟨T + 1, k + 1, r, by go_num, HM.out.lt, rfl, ⟨HER.out, HM.out⟩, HI5, HS5, e0, e1, e2⟩
 case atStart => exact ⟨p1, 0, es, by rw [y8], hp1l, rfl, ⟨rfl, HE.out⟩, HI2, HS2, d0, d1, d2⟩
 case round =>
  clear HI2 HS2 d0 d1 d2 HE y0 y1 y6 y7 y8 za1 za2 za3 za4 za5 za6 za7 za8 zb1 zb2 zb3 zb4 zb5 zb6 zb7 zb8 zc1 zc2 hp1 hp1l h0l hpe
  obtain ⟨p, k, rest, rfl, hpl, hn, HES, HI, HS, d0, d1, d2⟩ := hrel
  obtain ⟨a, n', ty, r, hr, ha, hT, hjl, hdis⟩ := HES.out.2.step
  have hlt := hT.lt
  have hek : es[k]? = some (a, n', ty) := by
   have h := congrArg (fun l => l[0]?) (HES.out.1.trans hr)
   simpa using h
  have her : es.drop (k + 1) = r := by
   have h := congrArg List.tail (HES.out.1.trans hr)
   simpa [List.tail_drop] using h
  obtain ⟨E, hE⟩ : ∃ E, E + p = a + n' := ⟨a + n' - p, by omega⟩
  obtain ⟨v, hv⟩ : ∃ v, vn ty n' = v := ⟨_, rfl⟩
  obtain ⟨B, hB⟩ : ∃ B, o + vb ty a = B := ⟨_, rfl⟩
  obtain ⟨kj, hkj⟩ : ∃ kj, Fj.ws (l.drop (a + n')) = kj := ⟨_, rfl⟩
  obtain ⟨S, hS⟩ : ∃ S, S = a + n' := ⟨_, rfl⟩
  obtain ⟨T, hT9⟩ : ∃ T, T = kj + (a + n') := ⟨_, rfl⟩
  have hSI : (p : Int) + (E : Int) = (S : Int) := by omega
  have hTI : (S : Int) + (kj : Int) = (T : Int) := by omega
  have hvl : v ≤ n' := by rw [← hv]; unfold vn; split <;> omega
  rw [hkj, ← hT9] at hjl hdis
  have HG := Aside0.mk (cget_at b2 n3 g o c l p a n' ty wr.drew (HIR.out k _ (HIB.out _ _ _ HI.out (below_drew (Below.refl _ _)))) HBY.out hl hc (by omega) ha hT E hE)
  rw [hv, hB] at HG
  have HC : Aside0 (∀ W : World, I k W → cf ≤ W.heap.size → Calls Tryd.prog F (#[.slice (some ⟨g, B, none⟩) v v, .int .i64 ty, .int .i64 ((S : Int) - (v : Int)), .nilIface] ++ cap) W fun e w' => e = .returned (.tuple #[]) ∧ I (k + 1) w' ∧ W.heap.size ≤ w'.heap.size ∧ ∀ ad v, cf ≤ ad.block → W.cell? ad = some v → w'.cell? ad = some v) := ⟨fun W h1 h2 => by
   have := HCB.out k a n' ty W ((S : Int) - (v : Int)) hek (by rw [hv]; omega) h1 h2
   rw [hv, hB] at this
   exact this⟩
  have HNJ : Aside0 (∀ W1, Row W1 g o l → Calls Tryd.prog 44 #[.agg #[.bool false, .bool b2, .int .i64 n3], .slice (some ⟨g, o + S, none⟩) (l.length - S) (c - S)] W1 fun e w' => e = .returned (.int .i64 (kj : Int)) ∧ Below W1.heap.size W1 w') := ⟨fun W1 hr => next_at b2 n3 g o c l S kj W1 hr hl (by rw [show S = a + n' by omega]; exact hkj) (by omega)⟩
  have y0 : ((E : Int) == 0) = false := beq_eq_false_iff_ne.mpr (by omega)
  have y1 : ((kj : Int) == -1) = false := beq_eq_false_iff_ne.mpr (by omega)
  have y6 : (p : Int) ≤ 1000000 := by omega
  have y7 : (kj : Int) ≤ 1000000 := by omega
  have y8 : (E : Int) ≤ 1000000 := by omega
  have y9 : (v : Int) ≤ 1000000 := by omega
  have za1 : ((p : Int) ≤ (l.length : Int)) = True := eq_true (by omega)
  have za2 : (p ≤ l.length) = True := eq_true (by omega)
  have za3 : (c = p) = False := eq_false (by omega)
  have za4 : (c - p = 0) = False := eq_false (by omega)
  have za5 : (c ≤ p) = False := eq_false (by omega)
  have za6 : (p ≤ c) = True := eq_true (by omega)
  have za7 : (p < l.length) = True := eq_true (by omega)
  have za8 : ((p : Int) < (l.length : Int)) = True := eq_true (by omega)
  have zb1 : ((S : Int) ≤ (l.length : Int)) = True := eq_true (by omega)
  have zb2 : (S ≤ l.length) = True := eq_true (by omega)
  have zb3 : (c = S) = False := eq_false (by omega)
  have zb4 : (c - S = 0) = False := eq_false (by omega)
  have zb5 : (c ≤ S) = False := eq_false (by omega)
  have zb6 : (S ≤ c) = True := eq_true (by omega)
  have zb7 : (S < l.length) = True := eq_true (by omega)
  have zb8 : ((S : Int) < (l.length : Int)) = True := eq_true (by omega)
  have zc1 : (T < l.length) = True := eq_true (by omega)
  have zc2 : ((T : Int) < (l.length : Int)) = True := eq_true (by omega)
  have zc3 : (T : Int) ≤ 1000000 := by omega
  have zc4 : (S : Int) ≤ 1000000 := by omega
  have HST : Aside0 (S ≤ T ∧ p < S) := ⟨by omega, by omega⟩
  have HDIS := Aside0.mk hdis
  have HER := Aside0.mk her
  have HKL : Aside0 (k < es.length) := ⟨(List.getElem?_eq_some_iff.mp hek).1⟩
  have HN := Aside0.mk hn
  clear hn HES hr ha hT hlt hek hE hv hB hkj hjl hdis hvl her hS hT9
  go_upto_region 26 with fail
  go_region_with (go_at_call 32; refine HG.out.mono ?_; rintro e w3 ⟨rfl, hb3⟩; have hbb := below_step (below_drew (Below.refl _ _)) hb3; have HI3 := Aside0.mk (HIB.out _ _ _ HI.out hbb); have HS3 : Aside0 (cf ≤ w3.heap.size) := ⟨Nat.le_trans HS.out hbb.size⟩; have e0 := pw_cell_below hbb d0; have e1 := pw_cell_below hbb d1; have e2 := pw_cell_below hbb d2; clear hbb hb3 d0 d1 d2)
  all_goals have HC1 := Aside0.mk (HC.out w3 HI3.out HS3.out)
  all_goals go_wp2_with fail
  all_goals refine HC1.out.mono ?_
  all_goals (rintro e w4 ⟨rfl, hi4, hs4, hk4⟩; have HI4 := Aside0.mk hi4; have HS4 : Aside0 (cf ≤ w4.heap.size) := ⟨Nat.le_trans HS3.out hs4⟩; have d0 := hk4 _ _ (Nat.le_refl _) e0; have d1 := hk4 _ _ (Nat.le_refl _) e1; have d2 := hk4 _ _ (Nat.le_refl _) e2; clear hi4 hs4 hk4 e0 e1 e2)
  all_goals dsimp only
  all_goals have HNJ1 := Aside0.mk (HNJ.out w4.drew (HIR.out _ _ (HIB.out _ _ _ HI4.out (below_drew (Below.refl _ _)))))
  all_goals go_upto_region 33 with fail
  all_goals go_region_with (go_at_call 44; refine HNJ1.out.mono ?_; rintro e w5 ⟨rfl, hb5⟩; have hbb := below_step (below_drew (Below.refl _ _)) hb5; have HI5 := Aside0.mk (HIB.out _ _ _ HI4.out hbb); have HS5 : Aside0 (cf ≤ w5.heap.size) := ⟨Nat.le_trans HS4.out hbb.size⟩; have e0 := pw_cell_below hbb d0; have e1 := pw_cell_below hbb d1; have e2 := pw_cell_below hbb d2; clear hbb hb5 d0 d1 d2)
  all_goals have x5 := (HIR.out _ _ HI5.out) T (of_eq_true zc1)
  all_goals clear HG HC HNJ HNJ1 HC1 HCB HI4 HI3 HI HS HS3 HS4
  all_goals
   rcases HDIS.out with ⟨h93, hfin, hnil⟩ | ⟨h44, hmore⟩
   ·have q93 : (rd l (T : Int) == 93) = true := beq_iff_eq.mpr h93
    have HFN : Aside0 (ef = T) := ⟨hfin⟩
    have HNIL : Aside0 (k + 1 = es.length) := ⟨by
     have h1 := HER.out
     rw [hnil] at h1
     have h2 := congrArg List.length h1
     rw [List.length_drop] at h2
     have h3 := HKL.out
     simp at h2
     omega⟩
    clear h93 hfin hnil HER HKL HN HDIS
    go_wp2
    go_ret2
    exact ⟨by rw [HFN.out]; rfl, by rw [← HNIL.out]; exact HI5.out⟩
   ·have q93 : (rd l (T : Int) == 93) = false := by rw [h44]; rfl
    have q44 : (rd l (T : Int) == 44) = true := beq_iff_eq.mpr h44
    have q44b : (rd l (T : Int) != 44) = false := by rw [h44]; rfl
    have HM := Aside0.mk hmore
    clear h44 hmore HKL HDIS
    go_wp2
    go_roundg (l.length - (T + 1))
    case measure => have := HN.out; have := HST.out; omega
    case rel => exact ⟨T + 1, k + 1, r, by go_num, HM.out.lt, rfl, ⟨HER.out, HM.out⟩, HI5, HS5, e0, e1, e2⟩
end Go.Proofs.YtcfhnfjkiljigaaDoor.Jp
end
