/- Proved here: parts of the law FnJpGetUnsafe (the texts JpInner JpElems), no conditions of their own beyond what each theorem says. -/
import Derived.Test.YtcfhnfjkiljigaaDoorPa2
section
namespace Go.Proofs.YtcfhnfjkiljigaaDoor.Jp
open Go.RowKit Go.Proofs.YtcfhnfjkiljigaaDoorW.PrintWords Go.Proofs.YtcfhnfjkiljigaaDoorW.PrintLast Go.Proofs.YtcfhnfjkiljigaaDoorW.PrintMore
attribute [local go_sem] max2_int min2_int max_two min_two max_three min_three max_four min_four
set_option linter.unusedVariables false
set_option linter.unusedSimpArgs false
theorem results_tmp5 {fn : Func} {t u v x y : Tmp} (h : fn.results = #[.tmp t, .tmp u, .tmp v, .tmp x, .tmp y]) (tmps : Array Value) (P : Program) (w : World) :
  (results fn tmps).run P w = .ok (.tuple #[tmps.getD t undef, tmps.getD u undef, tmps.getD v undef, tmps.getD x undef, tmps.getD y undef]) w := by
 simp [results, h, go_sem]
/-- What internalGetConfig answers: the value's bytes (of a string those between its quotes), its kind, its place, its end. -/
def Ans5 (g a n : Nat) (ty : Int) (p E : Nat) (e : Ending) : Prop := e = .returned (.tuple #[.slice (some ⟨g, a, none⟩) n n, .int .i64 ty, .int .i64 (p : Int), .int .i64 (E : Int), .nilIface])
set_option maxHeartbeats 16000000 in
set_option maxRecDepth 100000 in
theorem inner0s (b2 : Bool) (n3 : Int) (g o c : Nat) (l : List Int) (p n : Nat) (w : World) (hrow : Row w g o l) (hl : l.length ≤ 1000000) (hc : l.length ≤ c) (hs0 : 0 < l.length) (hp : 0 + Fj.ws (l.drop 0) = p) (hpl : p < l.length) (hpn : p + n ≤ l.length) (hn2 : 2 ≤ n) (hT : ∀ W1, Row W1 g o l → Calls Tryd.prog 62 #[.agg #[.bool false, .bool b2, .int .i64 n3], .slice (some ⟨g, o, none⟩) l.length c, .int .i64 (p : Int)] W1 fun e w' => TypeAns g o c p n 1 e ∧ Below W1.heap.size W1 w') :
  Calls Tryd.prog 46 #[.agg #[.bool false, .bool b2, .int .i64 n3], .slice (some ⟨g, o, none⟩) l.length c, .slice none 0 0] w fun e w' => Ans5 g (o + p + 1) (n - 2) 1 p (p + n) e ∧ Below w.heap.size w w' := by
 obtain ⟨W, hW⟩ : ∃ W, w.alloc (.cells #[.bool false, .bool b2, .int .i64 n3] 61) = W := ⟨_, rfl⟩
 obtain ⟨cf, hcf⟩ : ∃ cf, w.heap.size = cf := ⟨_, rfl⟩
 have hBW : Below w.heap.size w W := by rw [← hW]; exact XWords.below_alloc0 (Nat.le_refl _) (Below.refl w.heap.size w) _
 have HBW := Aside0.mk hBW
 have HROW := Aside0.mk hrow
 have d0 : W.cell? ⟨cf, 0, none⟩ = some (.bool false) := by rw [← hW, ← hcf]; exact World.cell?_alloc_new w #[.bool false, .bool b2, .int .i64 n3] 61 0
 have d1 : W.cell? ⟨cf, 1, none⟩ = some (.bool b2) := by rw [← hW, ← hcf]; exact World.cell?_alloc_new w #[.bool false, .bool b2, .int .i64 n3] 61 1
 have d2 : W.cell? ⟨cf, 2, none⟩ = some (.int .i64 n3) := by rw [← hW, ← hcf]; exact World.cell?_alloc_new w #[.bool false, .bool b2, .int .i64 n3] 61 2
 obtain ⟨k, hk⟩ : ∃ k, Fj.ws (l.drop 0) = k := ⟨_, rfl⟩
 have HNX : Aside0 (∀ W1, Row W1 g o l → Calls Tryd.prog 44 #[.agg #[.bool false, .bool b2, .int .i64 n3], .slice (some ⟨g, o + 0, none⟩) (l.length - 0) (c - 0)] W1 fun e w' => e = .returned (.int .i64 (k : Int)) ∧ Below W1.heap.size W1 w') := ⟨fun W1 hr => by
  have := next_calls false b2 n3 g (o + 0) (c - 0) (l.drop 0) W1 (hr.drop 0) (by rw [List.length_drop]; omega)
  have hne : nextI (l.drop 0) = (k : Int) := by
   unfold nextI
   rw [hk, if_neg (by rw [List.length_drop]; omega)]
  rw [List.length_drop, hne] at this
  exact this⟩
 rw [hk] at hp
 obtain ⟨E, hE⟩ : ∃ E, E = p + n := ⟨_, rfl⟩
 have HE := Aside0.mk hE
 have HT : Aside0 (∀ W1, Row W1 g o l → Calls Tryd.prog 62 #[.agg #[.bool false, .bool b2, .int .i64 n3], .slice (some ⟨g, o, none⟩) l.length c, .int .i64 (p : Int)] W1 fun e w' => e = .returned (.tuple #[.slice (some ⟨g, o + p, none⟩) n (c - p), .int .i64 1, .int .i64 (E : Int), .nilIface]) ∧ Below W1.heap.size W1 w') := ⟨fun W1 hr => by
  have := hT W1 hr
  unfold TypeAns at this
  rw [← hE] at this
  exact this⟩
 have k1 : ((k : Int) == -1) = false := beq_eq_false_iff_ne.mpr (by omega)
 have k2 : (k : Int) ≤ 1000000 := by omega
 have hcp : n ≤ c - p := by omega
 have hn9 : (n : Int) ≤ 1000000 := by omega
 have hpk : (k : Int) = (p : Int) := by omega
 have v1 : ((c - p : Nat) : Int) = (c : Int) - (p : Int) := by omega
 have v2 : (c - p = 1) = False := eq_false (by omega)
 have v3 : (c - p - 1 = 0) = False := eq_false (by omega)
 have v4 : ((n : Int) - 1).toNat = n - 1 := by omega
 have v5 : n - 1 - 1 = n - 2 := by omega
 have v6 : (n - 1 ≤ c - p) = True := eq_true (by omega)
 have v7 : (1 ≤ n - 1) = True := eq_true (by omega)
 have v8 : ((n : Int) - 1 ≤ (c : Int) - (p : Int)) = True := eq_true (by omega)
 have v9 : (n - 2 ≤ c - p - 1) = True := eq_true (by omega)
 have v10 : n - 2 ≤ c - p - 1 := by omega
 have v11 : ((n - 2 : Nat) : Int) = (n : Int) - 2 := by omega
 clear hrow hs0 hpl hpn hT hE hBW hk hp
 go_enter Tryd.func46, Tryd.ntmps46
 go_wp2
 have HNX1 := Aside0.mk (HNX.out W.drew (HROW.out.below (below_drew HBW.out)))
 go_region_with (go_at_call 44; refine HNX1.out.mono ?_; rintro e w2 ⟨rfl, hb2⟩; have HB2 := Aside0.mk (below_step (below_drew HBW.out) hb2); have e0 := pw_cell_below (w := W.drew) hb2 d0; have e1 := pw_cell_below (w := W.drew) hb2 d1; have e2 := pw_cell_below (w := W.drew) hb2 d2; clear hb2)
 all_goals have HT1 := Aside0.mk (HT.out w2 (HROW.out.below HB2.out))
 all_goals go_wp2_with (go_at_call 62; refine HT1.out.mono ?_; rintro e w3 ⟨rfl, hb3⟩; have HB3 := Aside0.mk (below_step HB2.out hb3); clear hb3)
 all_goals refine bodyPost_ret (results_tmp5 rfl _ _ _) rfl ?_
 all_goals exact ⟨by unfold Ans5; rw [← HE.out]; rfl, HB3.out⟩
set_option maxHeartbeats 16000000 in
set_option maxRecDepth 100000 in
theorem inner0v (b2 : Bool) (n3 : Int) (g o c : Nat) (l : List Int) (p n : Nat) (ty : Int) (w : World) (hrow : Row w g o l) (hl : l.length ≤ 1000000) (hc : l.length ≤ c) (hs0 : 0 < l.length) (hp : 0 + Fj.ws (l.drop 0) = p) (hpl : p < l.length) (hpn : p + n ≤ l.length) (hty : (ty == 1) = false) (hT : ∀ W1, Row W1 g o l → Calls Tryd.prog 62 #[.agg #[.bool false, .bool b2, .int .i64 n3], .slice (some ⟨g, o, none⟩) l.length c, .int .i64 (p : Int)] W1 fun e w' => TypeAns g o c p n ty e ∧ Below W1.heap.size W1 w') :
  Calls Tryd.prog 46 #[.agg #[.bool false, .bool b2, .int .i64 n3], .slice (some ⟨g, o, none⟩) l.length c, .slice none 0 0] w fun e w' => Ans5 g (o + p) n ty p (p + n) e ∧ Below w.heap.size w w' := by
 obtain ⟨W, hW⟩ : ∃ W, w.alloc (.cells #[.bool false, .bool b2, .int .i64 n3] 61) = W := ⟨_, rfl⟩
 obtain ⟨cf, hcf⟩ : ∃ cf, w.heap.size = cf := ⟨_, rfl⟩
 have hBW : Below w.heap.size w W := by rw [← hW]; exact XWords.below_alloc0 (Nat.le_refl _) (Below.refl w.heap.size w) _
 have HBW := Aside0.mk hBW
 have HROW := Aside0.mk hrow
 have d0 : W.cell? ⟨cf, 0, none⟩ = some (.bool false) := by rw [← hW, ← hcf]; exact World.cell?_alloc_new w #[.bool false, .bool b2, .int .i64 n3] 61 0
 have d1 : W.cell? ⟨cf, 1, none⟩ = some (.bool b2) := by rw [← hW, ← hcf]; exact World.cell?_alloc_new w #[.bool false, .bool b2, .int .i64 n3] 61 1
 have d2 : W.cell? ⟨cf, 2, none⟩ = some (.int .i64 n3) := by rw [← hW, ← hcf]; exact World.cell?_alloc_new w #[.bool false, .bool b2, .int .i64 n3] 61 2
 obtain ⟨k, hk⟩ : ∃ k, Fj.ws (l.drop 0) = k := ⟨_, rfl⟩
 have HNX : Aside0 (∀ W1, Row W1 g o l → Calls Tryd.prog 44 #[.agg #[.bool false, .bool b2, .int .i64 n3], .slice (some ⟨g, o + 0, none⟩) (l.length - 0) (c - 0)] W1 fun e w' => e = .returned (.int .i64 (k : Int)) ∧ Below W1.heap.size W1 w') := ⟨fun W1 hr => by
  have := next_calls false b2 n3 g (o + 0) (c - 0) (l.drop 0) W1 (hr.drop 0) (by rw [List.length_drop]; omega)
  have hne : nextI (l.drop 0) = (k : Int) := by
   unfold nextI
   rw [hk, if_neg (by rw [List.length_drop]; omega)]
  rw [List.length_drop, hne] at this
  exact this⟩
 rw [hk] at hp
 obtain ⟨E, hE⟩ : ∃ E, E = p + n := ⟨_, rfl⟩
 have HE := Aside0.mk hE
 have HT : Aside0 (∀ W1, Row W1 g o l → Calls Tryd.prog 62 #[.agg #[.bool false, .bool b2, .int .i64 n3], .slice (some ⟨g, o, none⟩) l.length c, .int .i64 (p : Int)] W1 fun e w' => e = .returned (.tuple #[.slice (some ⟨g, o + p, none⟩) n (c - p), .int .i64 ty, .int .i64 (E : Int), .nilIface]) ∧ Below W1.heap.size W1 w') := ⟨fun W1 hr => by
  have := hT W1 hr
  unfold TypeAns at this
  rw [← hE] at this
  exact this⟩
 have k1 : ((k : Int) == -1) = false := beq_eq_false_iff_ne.mpr (by omega)
 have k2 : (k : Int) ≤ 1000000 := by omega
 have hcp : n ≤ c - p := by omega
 have hn9 : (n : Int) ≤ 1000000 := by omega
 have hpk : (k : Int) = (p : Int) := by omega
 clear hrow hs0 hpl hpn hT hE hBW hk hp
 go_enter Tryd.func46, Tryd.ntmps46
 go_wp2
 have HNX1 := Aside0.mk (HNX.out W.drew (HROW.out.below (below_drew HBW.out)))
 go_region_with (go_at_call 44; refine HNX1.out.mono ?_; rintro e w2 ⟨rfl, hb2⟩; have HB2 := Aside0.mk (below_step (below_drew HBW.out) hb2); have e0 := pw_cell_below (w := W.drew) hb2 d0; have e1 := pw_cell_below (w := W.drew) hb2 d1; have e2 := pw_cell_below (w := W.drew) hb2 d2; clear hb2)
 all_goals have HT1 := Aside0.mk (HT.out w2 (HROW.out.below HB2.out))
 all_goals go_wp2_with (go_at_call 62; refine HT1.out.mono ?_; rintro e w3 ⟨rfl, hb3⟩; have HB3 := Aside0.mk (below_step HB2.out hb3); clear hb3)
 all_goals refine bodyPost_ret (results_tmp5 rfl _ _ _) rfl ?_
 all_goals exact ⟨by unfold Ans5; rw [← HE.out]; rfl, HB3.out⟩
set_option maxHeartbeats 16000000 in
set_option maxRecDepth 100000 in
theorem innerKs (b2 : Bool) (n3 : Int) (g o c : Nat) (l : List Int) (p n : Nat) (w : World) (hrow : Row w g o l) (hl : l.length ≤ 1000000) (hc : l.length ≤ c) (ka : Option Addr) (nk ck : Nat) (hnk : 0 < nk) (hnk2 : nk ≤ 1000000) (s0 : Nat) (hS : ∀ W1, Below w.heap.size w W1 → Calls Tryd.prog 45 #[.agg #[.bool false, .bool b2, .int .i64 n3], .slice (some ⟨g, o, none⟩) l.length c, .slice ka nk ck] W1 fun e w' => e = .returned (.int .i64 (s0 : Int)) ∧ Below W1.heap.size W1 w') (hs0 : s0 < l.length) (hp : s0 + Fj.ws (l.drop s0) = p) (hpl : p < l.length) (hpn : p + n ≤ l.length) (hn2 : 2 ≤ n) (hT : ∀ W1, Row W1 g o l → Calls Tryd.prog 62 #[.agg #[.bool false, .bool b2, .int .i64 n3], .slice (some ⟨g, o, none⟩) l.length c, .int .i64 (p : Int)] W1 fun e w' => TypeAns g o c p n 1 e ∧ Below W1.heap.size W1 w') :
  Calls Tryd.prog 46 #[.agg #[.bool false, .bool b2, .int .i64 n3], .slice (some ⟨g, o, none⟩) l.length c, .slice ka nk ck] w fun e w' => Ans5 g (o + p + 1) (n - 2) 1 p (p + n) e ∧ Below w.heap.size w w' := by
 obtain ⟨W, hW⟩ : ∃ W, w.alloc (.cells #[.bool false, .bool b2, .int .i64 n3] 61) = W := ⟨_, rfl⟩
 obtain ⟨cf, hcf⟩ : ∃ cf, w.heap.size = cf := ⟨_, rfl⟩
 have hBW : Below w.heap.size w W := by rw [← hW]; exact XWords.below_alloc0 (Nat.le_refl _) (Below.refl w.heap.size w) _
 have HBW := Aside0.mk hBW
 have HROW := Aside0.mk hrow
 have d0 : W.cell? ⟨cf, 0, none⟩ = some (.bool false) := by rw [← hW, ← hcf]; exact World.cell?_alloc_new w #[.bool false, .bool b2, .int .i64 n3] 61 0
 have d1 : W.cell? ⟨cf, 1, none⟩ = some (.bool b2) := by rw [← hW, ← hcf]; exact World.cell?_alloc_new w #[.bool false, .bool b2, .int .i64 n3] 61 1
 have d2 : W.cell? ⟨cf, 2, none⟩ = some (.int .i64 n3) := by rw [← hW, ← hcf]; exact World.cell?_alloc_new w #[.bool false, .bool b2, .int .i64 n3] 61 2
 obtain ⟨k, hk⟩ : ∃ k, Fj.ws (l.drop s0) = k := ⟨_, rfl⟩
 have HNX : Aside0 (∀ W1, Row W1 g o l → Calls Tryd.prog 44 #[.agg #[.bool false, .bool b2, .int .i64 n3], .slice (some ⟨g, o + s0, none⟩) (l.length - s0) (c - s0)] W1 fun e w' => e = .returned (.int .i64 (k : Int)) ∧ Below W1.heap.size W1 w') := ⟨fun W1 hr => by
  have := next_calls false b2 n3 g (o + s0) (c - s0) (l.drop s0) W1 (hr.drop s0) (by rw [List.length_drop]; omega)
  have hne : nextI (l.drop s0) = (k : Int) := by
   unfold nextI
   rw [hk, if_neg (by rw [List.length_drop]; omega)]
  rw [List.length_drop, hne] at this
  exact this⟩
 rw [hk] at hp
 obtain ⟨E, hE⟩ : ∃ E, E = p + n := ⟨_, rfl⟩
 have HE := Aside0.mk hE
 have HT : Aside0 (∀ W1, Row W1 g o l → Calls Tryd.prog 62 #[.agg #[.bool false, .bool b2, .int .i64 n3], .slice (some ⟨g, o, none⟩) l.length c, .int .i64 (p : Int)] W1 fun e w' => e = .returned (.tuple #[.slice (some ⟨g, o + p, none⟩) n (c - p), .int .i64 1, .int .i64 (E : Int), .nilIface]) ∧ Below W1.heap.size W1 w') := ⟨fun W1 hr => by
  have := hT W1 hr
  unfold TypeAns at this
  rw [← hE] at this
  exact this⟩
 have k1 : ((k : Int) == -1) = false := beq_eq_false_iff_ne.mpr (by omega)
 have k2 : (k : Int) ≤ 1000000 := by omega
 have hcp : n ≤ c - p := by omega
 have hn9 : (n : Int) ≤ 1000000 := by omega
 have hpk : (s0 : Int) + (k : Int) = (p : Int) := by omega
 have s1 : ((s0 : Int) == -1) = false := beq_eq_false_iff_ne.mpr (by omega)
 have s2 : (s0 : Int) ≤ 1000000 := by omega
 have s3 : ((0 : Int) < (nk : Int)) = True := eq_true (by omega)
 have HS := Aside0.mk (hS W hBW)
 clear hS
 have a1 : ((s0 : Int) ≤ (l.length : Int)) = True := eq_true (by omega)
 have a2 : (s0 ≤ l.length) = True := eq_true (by omega)
 have a3 : (c = s0) = False := eq_false (by omega)
 have a4 : (c - s0 = 0) = False := eq_false (by omega)
 have a5 : (c ≤ s0) = False := eq_false (by omega)
 have a6 : (s0 ≤ c) = True := eq_true (by omega)
 have a7 : (s0 < l.length) = True := eq_true (by omega)
 have a8 : ((s0 : Int) < (l.length : Int)) = True := eq_true (by omega)
 have v1 : ((c - p : Nat) : Int) = (c : Int) - (p : Int) := by omega
 have v2 : (c - p = 1) = False := eq_false (by omega)
 have v3 : (c - p - 1 = 0) = False := eq_false (by omega)
 have v4 : ((n : Int) - 1).toNat = n - 1 := by omega
 have v5 : n - 1 - 1 = n - 2 := by omega
 have v6 : (n - 1 ≤ c - p) = True := eq_true (by omega)
 have v7 : (1 ≤ n - 1) = True := eq_true (by omega)
 have v8 : ((n : Int) - 1 ≤ (c : Int) - (p : Int)) = True := eq_true (by omega)
 have v9 : (n - 2 ≤ c - p - 1) = True := eq_true (by omega)
 have v10 : n - 2 ≤ c - p - 1 := by omega
 have v11 : ((n - 2 : Nat) : Int) = (n : Int) - 2 := by omega
 clear hrow hs0 hpl hpn hT hE hBW hk hp
 go_enter Tryd.func46, Tryd.ntmps46
 go_wp2_with (go_at_call 45; refine HS.out.mono ?_; rintro e w1 ⟨rfl, hb1⟩; have HB1 := Aside0.mk (below_step HBW.out hb1); have e0 := pw_cell_below hb1 d0; have e1 := pw_cell_below hb1 d1; have e2 := pw_cell_below hb1 d2; clear hb1 d0 d1 d2)
 have HNX1 := Aside0.mk (HNX.out w1.drew (HROW.out.below (below_drew HB1.out)))
 go_region_with (go_at_call 44; refine HNX1.out.mono ?_; rintro e w2 ⟨rfl, hb2⟩; have HB2 := Aside0.mk (below_step (below_drew HB1.out) hb2); have d0 := pw_cell_below (w := w1.drew) hb2 e0; have d1 := pw_cell_below (w := w1.drew) hb2 e1; have d2 := pw_cell_below (w := w1.drew) hb2 e2; clear hb2 e0 e1 e2)
 all_goals have HT1 := Aside0.mk (HT.out w2 (HROW.out.below HB2.out))
 all_goals go_wp2_with (go_at_call 62; refine HT1.out.mono ?_; rintro e w3 ⟨rfl, hb3⟩; have HB3 := Aside0.mk (below_step HB2.out hb3); clear hb3)
 all_goals refine bodyPost_ret (results_tmp5 rfl _ _ _) rfl ?_
 all_goals exact ⟨by unfold Ans5; rw [← HE.out]; rfl, HB3.out⟩
set_option maxHeartbeats 16000000 in
set_option maxRecDepth 100000 in
theorem innerKv (b2 : Bool) (n3 : Int) (g o c : Nat) (l : List Int) (p n : Nat) (ty : Int) (w : World) (hrow : Row w g o l) (hl : l.length ≤ 1000000) (hc : l.length ≤ c) (ka : Option Addr) (nk ck : Nat) (hnk : 0 < nk) (hnk2 : nk ≤ 1000000) (s0 : Nat) (hS : ∀ W1, Below w.heap.size w W1 → Calls Tryd.prog 45 #[.agg #[.bool false, .bool b2, .int .i64 n3], .slice (some ⟨g, o, none⟩) l.length c, .slice ka nk ck] W1 fun e w' => e = .returned (.int .i64 (s0 : Int)) ∧ Below W1.heap.size W1 w') (hs0 : s0 < l.length) (hp : s0 + Fj.ws (l.drop s0) = p) (hpl : p < l.length) (hpn : p + n ≤ l.length) (hty : (ty == 1) = false) (hT : ∀ W1, Row W1 g o l → Calls Tryd.prog 62 #[.agg #[.bool false, .bool b2, .int .i64 n3], .slice (some ⟨g, o, none⟩) l.length c, .int .i64 (p : Int)] W1 fun e w' => TypeAns g o c p n ty e ∧ Below W1.heap.size W1 w') :
  Calls Tryd.prog 46 #[.agg #[.bool false, .bool b2, .int .i64 n3], .slice (some ⟨g, o, none⟩) l.length c, .slice ka nk ck] w fun e w' => Ans5 g (o + p) n ty p (p + n) e ∧ Below w.heap.size w w' := by
 obtain ⟨W, hW⟩ : ∃ W, w.alloc (.cells #[.bool false, .bool b2, .int .i64 n3] 61) = W := ⟨_, rfl⟩
 obtain ⟨cf, hcf⟩ : ∃ cf, w.heap.size = cf := ⟨_, rfl⟩
 have hBW : Below w.heap.size w W := by rw [← hW]; exact XWords.below_alloc0 (Nat.le_refl _) (Below.refl w.heap.size w) _
 have HBW := Aside0.mk hBW
 have HROW := Aside0.mk hrow
 have d0 : W.cell? ⟨cf, 0, none⟩ = some (.bool false) := by rw [← hW, ← hcf]; exact World.cell?_alloc_new w #[.bool false, .bool b2, .int .i64 n3] 61 0
 have d1 : W.cell? ⟨cf, 1, none⟩ = some (.bool b2) := by rw [← hW, ← hcf]; exact World.cell?_alloc_new w #[.bool false, .bool b2, .int .i64 n3] 61 1
 have d2 : W.cell? ⟨cf, 2, none⟩ = some (.int .i64 n3) := by rw [← hW, ← hcf]; exact World.cell?_alloc_new w #[.bool false, .bool b2, .int .i64 n3] 61 2
 obtain ⟨k, hk⟩ : ∃ k, Fj.ws (l.drop s0) = k := ⟨_, rfl⟩
 have HNX : Aside0 (∀ W1, Row W1 g o l → Calls Tryd.prog 44 #[.agg #[.bool false, .bool b2, .int .i64 n3], .slice (some ⟨g, o + s0, none⟩) (l.length - s0) (c - s0)] W1 fun e w' => e = .returned (.int .i64 (k : Int)) ∧ Below W1.heap.size W1 w') := ⟨fun W1 hr => by
  have := next_calls false b2 n3 g (o + s0) (c - s0) (l.drop s0) W1 (hr.drop s0) (by rw [List.length_drop]; omega)
  have hne : nextI (l.drop s0) = (k : Int) := by
   unfold nextI
   rw [hk, if_neg (by rw [List.length_drop]; omega)]
  rw [List.length_drop, hne] at this
  exact this⟩
 rw [hk] at hp
 obtain ⟨E, hE⟩ : ∃ E, E = p + n := ⟨_, rfl⟩
 have HE := Aside0.mk hE
 have HT : Aside0 (∀ W1, Row W1 g o l → Calls Tryd.prog 62 #[.agg #[.bool false, .bool b2, .int .i64 n3], .slice (some ⟨g, o, none⟩) l.length c, .int .i64 (p : Int)] W1 fun e w' => e = .returned (.tuple #[.slice (some ⟨g, o + p, none⟩) n (c - p), .int .i64 ty, .int .i64 (E : Int), .nilIface]) ∧ Below W1.heap.size W1 w') := ⟨fun W1 hr => by
  have := hT W1 hr
  unfold TypeAns at this
  rw [← hE] at this
  exact this⟩
 have k1 : ((k : Int) == -1) = false := beq_eq_false_iff_ne.mpr (by omega)
 have k2 : (k : Int) ≤ 1000000 := by omega
 have hcp : n ≤ c - p := by omega
 have hn9 : (n : Int) ≤ 1000000 := by omega
 have hpk : (s0 : Int) + (k : Int) = (p : Int) := by omega
 have s1 : ((s0 : Int) == -1) = false := beq_eq_false_iff_ne.mpr (by omega)
 have s2 : (s0 : Int) ≤ 1000000 := by omega
 have s3 : ((0 : Int) < (nk : Int)) = True := eq_true (by omega)
 have HS := Aside0.mk (hS W hBW)
 clear hS
 have a1 : ((s0 : Int) ≤ (l.length : Int)) = True := eq_true (by omega)
 have a2 : (s0 ≤ l.length) = True := eq_true (by omega)
 have a3 : (c = s0) = False := eq_false (by omega)
 have a4 : (c - s0 = 0) = False := eq_false (by omega)
 have a5 : (c ≤ s0) = False := eq_false (by omega)
 have a6 : (s0 ≤ c) = True := eq_true (by omega)
 have a7 : (s0 < l.length) = True := eq_true (by omega)
 have a8 : ((s0 : Int) < (l.length : Int)) = True := eq_true (by omega)
 clear hrow hs0 hpl hpn hT hE hBW hk hp
 go_enter Tryd.func46, Tryd.ntmps46
 go_wp2_with (go_at_call 45; refine HS.out.mono ?_; rintro e w1 ⟨rfl, hb1⟩; have HB1 := Aside0.mk (below_step HBW.out hb1); have e0 := pw_cell_below hb1 d0; have e1 := pw_cell_below hb1 d1; have e2 := pw_cell_below hb1 d2; clear hb1 d0 d1 d2)
 have HNX1 := Aside0.mk (HNX.out w1.drew (HROW.out.below (below_drew HB1.out)))
 go_region_with (go_at_call 44; refine HNX1.out.mono ?_; rintro e w2 ⟨rfl, hb2⟩; have HB2 := Aside0.mk (below_step (below_drew HB1.out) hb2); have d0 := pw_cell_below (w := w1.drew) hb2 e0; have d1 := pw_cell_below (w := w1.drew) hb2 e1; have d2 := pw_cell_below (w := w1.drew) hb2 e2; clear hb2 e0 e1 e2)
 all_goals have HT1 := Aside0.mk (HT.out w2 (HROW.out.below HB2.out))
 all_goals go_wp2_with (go_at_call 62; refine HT1.out.mono ?_; rintro e w3 ⟨rfl, hb3⟩; have HB3 := Aside0.mk (below_step HB2.out hb3); clear hb3)
 all_goals refine bodyPost_ret (results_tmp5 rfl _ _ _) rfl ?_
 all_goals exact ⟨by unfold Ans5; rw [← HE.out]; rfl, HB3.out⟩
end Go.Proofs.YtcfhnfjkiljigaaDoor.Jp
end
section
namespace Go.Proofs.YtcfhnfjkiljigaaDoor.Jp
open Go.RowKit Go.Proofs.YtcfhnfjkiljigaaDoorW.PrintWords Go.Proofs.YtcfhnfjkiljigaaDoorW.PrintLast Go.Proofs.YtcfhnfjkiljigaaDoorW.PrintMore
attribute [local go_sem] max2_int min2_int max_two min_two max_three min_three max_four min_four
set_option linter.unusedVariables false
set_option linter.unusedSimpArgs false
/-- A value of a kind stands at a place, n bytes long, as getTypeConfig tells it. -/
inductive TyAt (l : List Int) (p n : Nat) : Int → Prop
 | str (hp : p < l.length) (hpn : p + n ≤ l.length) (q : Nat) (hn : n = q + 2) (h34 : rd l (p : Int) = 34) (hq : StrEnd.Ends (l.drop (p + 1)) 34 q) : TyAt l p n 1
 | arr (hp : p < l.length) (hpn : p + n ≤ l.length) (hx0 : rd l (p : Int) = 91) (hs : Scan 91 93 (l.drop p) 0 0 n) : TyAt l p n 4
 | obj (hp : p < l.length) (hpn : p + n ≤ l.length) (hx0 : rd l (p : Int) = 123) (hs : Scan 123 125 (l.drop p) 0 0 n) : TyAt l p n 3
 | num (hp : p < l.length) (hpn : p + n ≤ l.length) (h1 : 0 < n) (hx0 : rd l (p : Int) = 45 ∨ (48 ≤ rd l (p : Int) ∧ rd l (p : Int) ≤ 57)) (htk : tokE (l.drop p) = n) : TyAt l p n 2
 | tru (hp : p < l.length) (hpn : p + n ≤ l.length) (hw : (l.drop p).take n = [116, 114, 117, 101]) (htk : tokE (l.drop p) = n) : TyAt l p n 5
 | fls (hp : p < l.length) (hpn : p + n ≤ l.length) (hw : (l.drop p).take n = [102, 97, 108, 115, 101]) (htk : tokE (l.drop p) = n) : TyAt l p n 5
 | nul (hp : p < l.length) (hpn : p + n ≤ l.length) (hw : (l.drop p).take n = [110, 117, 108, 108]) (htk : tokE (l.drop p) = n) : TyAt l p n 6
theorem TyAt.lt {l : List Int} {p n : Nat} {ty : Int} (h : TyAt l p n ty) : p < l.length ∧ p + n ≤ l.length ∧ (ty = 1 → 2 ≤ n) ∧ 0 < n := by
 cases h with
 | str hp hpn q hn h34 hq => exact ⟨hp, hpn, fun _ => by omega, by omega⟩
 | arr hp hpn hx0 hs => exact ⟨hp, hpn, fun h => absurd h (by decide), by have := hs.le; omega⟩
 | obj hp hpn hx0 hs => exact ⟨hp, hpn, fun h => absurd h (by decide), by have := hs.le; omega⟩
 | num hp hpn h1 hx0 htk => exact ⟨hp, hpn, fun h => absurd h (by decide), h1⟩
 | tru hp hpn hw htk => exact ⟨hp, hpn, fun h => absurd h (by decide), by have := congrArg List.length hw; simp at this; omega⟩
 | fls hp hpn hw htk => exact ⟨hp, hpn, fun h => absurd h (by decide), by have := congrArg List.length hw; simp at this; omega⟩
 | nul hp hpn hw htk => exact ⟨hp, hpn, fun h => absurd h (by decide), by have := congrArg List.length hw; simp at this; omega⟩
theorem type_any (b2 : Bool) (n3 : Int) (g o c : Nat) (l : List Int) (p n : Nat) (ty : Int) (w : World) (hrow : Row w g o l) (hby : ∀ x ∈ l, 0 ≤ x ∧ x ≤ 255) (hl : l.length ≤ 1000000) (hc : l.length ≤ c) (h : TyAt l p n ty) :
  Calls Tryd.prog 62 #[.agg #[.bool false, .bool b2, .int .i64 n3], .slice (some ⟨g, o, none⟩) l.length c, .int .i64 (p : Int)] w fun e w' => TypeAns g o c p n ty e ∧ Below w.heap.size w w' := by
 cases h with
 | str hp hpn q hn h34 hq => exact type_str b2 n3 g o c l p n w hrow hby hl hc hp hpn q hn h34 hq
 | arr hp hpn hx0 hs => exact type_arr b2 n3 g o c l p n w hrow hby hl hc hp hpn hx0 hs
 | obj hp hpn hx0 hs => exact type_obj b2 n3 g o c l p n w hrow hby hl hc hp hpn hx0 hs
 | num hp hpn h1 hx0 htk => exact type_num b2 n3 g o c l p n w hrow hby hl hc hp hpn hx0 htk
 | tru hp hpn hw htk => exact type_true b2 n3 g o c l p n w hrow hby hl hc hp hpn hw htk
 | fls hp hpn hw htk => exact type_false b2 n3 g o c l p n w hrow hby hl hc hp hpn hw htk
 | nul hp hpn hw htk => exact type_null b2 n3 g o c l p n w hrow hby hl hc hp hpn hw htk
/-- Where the bytes that are handed out begin, and how many they are. -/
def vb (ty : Int) (p : Nat) : Nat := if ty = 1 then p + 1 else p
def vn (ty : Int) (n : Nat) : Nat := if ty = 1 then n - 2 else n
theorem inner_any (b2 : Bool) (n3 : Int) (g o c : Nat) (l : List Int) (p n : Nat) (ty : Int) (w : World) (hrow : Row w g o l) (hby : ∀ x ∈ l, 0 ≤ x ∧ x ≤ 255) (hl : l.length ≤ 1000000) (hc : l.length ≤ c) (hp : Fj.ws l = p) (h : TyAt l p n ty) :
  Calls Tryd.prog 46 #[.agg #[.bool false, .bool b2, .int .i64 n3], .slice (some ⟨g, o, none⟩) l.length c, .slice none 0 0] w fun e w' => Ans5 g (o + vb ty p) (vn ty n) ty p (p + n) e ∧ Below w.heap.size w w' := by
 have hlt := h.lt
 have hT : ∀ W1, Row W1 g o l → _ := fun W1 hr => type_any b2 n3 g o c l p n ty W1 hr hby hl hc h
 have hp0 : 0 + Fj.ws (l.drop 0) = p := by rw [List.drop_zero, Nat.zero_add]; exact hp
 by_cases h1 : ty = 1
 ·subst h1
  have hr := inner0s b2 n3 g o c l p n w hrow hl hc (by omega) hp0 hlt.1 hlt.2.1 (hlt.2.2.1 rfl) hT
  exact hr
 ·have hr := inner0v b2 n3 g o c l p n ty w hrow hl hc (by omega) hp0 hlt.1 hlt.2.1 (beq_eq_false_iff_ne.mpr h1) hT
  unfold vb vn
  rw [if_neg h1, if_neg h1]
  exact hr
/-- What Get answers. -/
def Ans4 (g a n : Nat) (ty : Int) (E : Nat) (e : Ending) : Prop := e = .returned (.tuple #[.slice (some ⟨g, a, none⟩) n n, .int .i64 ty, .int .i64 (E : Int), .nilIface])
set_option maxHeartbeats 4000000 in
theorem cget_any (b2 : Bool) (n3 : Int) (g o c : Nat) (l : List Int) (p n : Nat) (ty : Int) (w : World) (hrow : Row w g o l) (hby : ∀ x ∈ l, 0 ≤ x ∧ x ≤ 255) (hl : l.length ≤ 1000000) (hc : l.length ≤ c) (hp : Fj.ws l = p) (h : TyAt l p n ty) :
  Calls Tryd.prog 32 #[.agg #[.bool false, .bool b2, .int .i64 n3], .slice (some ⟨g, o, none⟩) l.length c, .slice none 0 0] w fun e w' => Ans4 g (o + vb ty p) (vn ty n) ty (p + n) e ∧ Below w.heap.size w w' := by
 have hbel := XWords.below_alloc0 (Nat.le_refl _) (Below.refl w.heap.size w) (.cells #[.bool false, .bool b2, .int .i64 n3] 61)
 have d0 : (w.alloc (.cells #[.bool false, .bool b2, .int .i64 n3] 61)).cell? ⟨w.heap.size, 0, none⟩ = some (.bool false) := World.cell?_alloc_new w #[.bool false, .bool b2, .int .i64 n3] 61 0
 have d1 : (w.alloc (.cells #[.bool false, .bool b2, .int .i64 n3] 61)).cell? ⟨w.heap.size, 1, none⟩ = some (.bool b2) := World.cell?_alloc_new w #[.bool false, .bool b2, .int .i64 n3] 61 1
 have d2 : (w.alloc (.cells #[.bool false, .bool b2, .int .i64 n3] 61)).cell? ⟨w.heap.size, 2, none⟩ = some (.int .i64 n3) := World.cell?_alloc_new w #[.bool false, .bool b2, .int .i64 n3] 61 2
 have HB := Aside0.mk hbel
 have HI := Aside0.mk (inner_any b2 n3 g o c l p n ty _ (hrow.below hbel) hby hl hc hp h)
 clear hrow hby hc hp h hbel
 go_enter Tryd.func32, Tryd.ntmps32
 go_wp2_with (go_at_call 46; refine HI.out.mono ?_; rintro e w1 ⟨rfl, hb1⟩; have HB1 := Aside0.mk (below_step HB.out hb1); clear hb1)
 refine bodyPost_ret (results_tmp4 rfl _ _ _) rfl ?_
 exact ⟨rfl, HB1.out⟩
end Go.Proofs.YtcfhnfjkiljigaaDoor.Jp
end
