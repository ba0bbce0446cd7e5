/- Proved: getTypeConfig, internalGetConfig and Get of jsonparser at a string between single quotes, behind {'a': . -/
import Derived.Test.YtlpcjgjphkdnbaaDoorCfgRunFnJpConfigQuote
import Derived.Test.YtlpcjgjphkdnbaaDoorUnescQFnJpConfigQuote
namespace Go.Proofs.YtlpcjgjphkdnbaaDoor.XFnJpConfigQuote
open Go.RowKit Go.Proofs.YtlpcjgjphkdnbaaDoorW.PrintWords Go.Proofs.YtlpcjgjphkdnbaaDoorW.PrintLast Go.Proofs.YtlpcjgjphkdnbaaDoorW.PrintMore
attribute [local go_sem] max2_int min2_int max_two min_two max_three min_three max_four min_four
set_option linter.unusedVariables false
set_option linter.unusedSimpArgs false

theorem results_tmp4 {fn : Func} {t u v x : Tmp} (h : fn.results = #[.tmp t, .tmp u, .tmp v, .tmp x]) (tmps : Array Value) (P : Program) (w : World) :
    (results fn tmps).run P w = .ok (.tuple #[tmps.getD t undef, tmps.getD u undef, tmps.getD v undef, tmps.getD x undef]) w := by
  simp [results, h]
theorem results_tmp5 {fn : Func} {t u v x y : Tmp} (h : fn.results = #[.tmp t, .tmp u, .tmp v, .tmp x, .tmp y]) (tmps : Array Value) (P : Program) (w : World) :
    (results fn tmps).run P w = .ok (.tuple #[tmps.getD t undef, tmps.getD u undef, tmps.getD v undef, tmps.getD x undef, tmps.getD y undef]) w := by
  simp [results, h]
set_option maxHeartbeats 8000000 in
set_option maxRecDepth 100000 in
theorem type_calls (eb : Bool) (g c p E : Nat) (L : List Int) (w : World) (hrow : Row w g 0 L) (hL : Hd L) (hc : L.length ≤ c) (he : StrEnd.Ends (L.drop 7) 39 p) (hE : E = p + 8) :
    Calls Tryd.prog 17 #[.agg #[.bool true, .bool eb, .int .i64 0], .slice (some ⟨g, 0, none⟩) L.length c, .int .i64 6] w fun e w' => e = .returned (.tuple #[.slice (some ⟨g, 6, none⟩) (p + 2) (c - 6), .int .i64 1, .int .i64 (E : Int), .nilIface]) ∧ Below w.heap.size w w' := by
  have HROW := Aside0.mk hrow
  have HL := Aside0.mk hL
  have HC := Aside0.mk hc
  have hpl := he.lt
  rw [List.length_drop] at hpl
  have HPL := Aside0.mk hpl
  have HEE := Aside0.mk hE
  have hlen := hL.len
  have hmost := hL.most
  have hbel := XWords.below_alloc0 (Nat.le_refl _) (Below.refl w.heap.size w) (.cells #[.bool true, .bool eb, .int .i64 0] 31)
  have d0 := World.cell?_alloc_new w #[.bool true, .bool eb, .int .i64 0] 31 0
  have d1 := World.cell?_alloc_new w #[.bool true, .bool eb, .int .i64 0] 31 1
  have d2 := World.cell?_alloc_new w #[.bool true, .bool eb, .int .i64 0] 31 2
  replace d0 : (w.alloc (.cells #[.bool true, .bool eb, .int .i64 0] 31)).cell? ⟨w.heap.size, 0, none⟩ = some (.bool true) := d0
  replace d1 : (w.alloc (.cells #[.bool true, .bool eb, .int .i64 0] 31)).cell? ⟨w.heap.size, 1, none⟩ = some (.bool eb) := d1
  replace d2 : (w.alloc (.cells #[.bool true, .bool eb, .int .i64 0] 31)).cell? ⟨w.heap.size, 2, none⟩ = some (.int .i64 0) := d2
  have hx := (hrow.below hbel) 6 (by omega)
  rw [show ((6 : Nat) : Int) = 6 from rfl, hL.r6, Nat.zero_add] at hx
  have HB := Aside0.mk hbel
  have z1 : ((6 : Int) < (L.length : Int)) = True := eq_true (by omega)
  have z2 : (6 < L.length) = True := eq_true (by omega)
  have z3 : ((7 : Int) ≤ (L.length : Int)) = True := eq_true (by omega)
  have z4 : (7 ≤ L.length) = True := eq_true (by omega)
  have y1 : (c = 7) = False := eq_false (by omega)
  have y2 : (c - 7 = 0) = False := eq_false (by omega)
  have y3 : (c ≤ 7) = False := eq_false (by omega)
  have y4 : (7 ≤ c) = True := eq_true (by omega)
  have y5 : (c = 6) = False := eq_false (by omega)
  have y6 : (c - 6 = 0) = False := eq_false (by omega)
  have y7 : (c ≤ 6) = False := eq_false (by omega)
  have y8 : (6 ≤ c) = True := eq_true (by omega)
  obtain ⟨q, hq⟩ : ∃ q, q = p + 1 := ⟨_, rfl⟩
  have u1 : (6 : Int) + ((q : Int) + 1) = (E : Int) := by omega
  have u2 : E - 6 = p + 2 := by omega
  have u3 : ((6 : Int) ≤ (E : Int)) = True := eq_true (by omega)
  have u4 : (6 ≤ E) = True := eq_true (by omega)
  have u5 : ((E : Int) ≤ (c : Int)) = True := eq_true (by omega)
  have u6 : (E ≤ c) = True := eq_true (by omega)
  have u7 : ((q : Int) = -1) = False := eq_false (by omega)
  have u7b : ((q : Int) == -1) = false := beq_eq_false_iff_ne.mpr (by omega)
  have u7c : ((q : Int) != -1) = true := by rw [bne, u7b]; rfl
  have u10 : ((E : Int) < 6) = False := eq_false (by omega)
  have u11 : (E < 6) = False := eq_false (by omega)
  have u12 : ((c : Int) < (E : Int)) = False := eq_false (by omega)
  have hw7 : IntKind.i64.wrap 7 = 7 := by decide
  have u8 : (q : Int) ≤ 1000000 := by omega
  have u9 : (E : Int) ≤ 1000000 := by omega
  have HSE : Aside0 (Calls Tryd.prog 20 #[.agg #[.bool true, .bool eb, .int .i64 0], .slice (some ⟨g, 7, none⟩) (L.length - 7) (c - 7), .int .u8 39] (w.alloc (.cells #[.bool true, .bool eb, .int .i64 0] 31)).drew fun e w' => e = .returned (.tuple #[.int .i64 (q : Int), .bool (StrEnd.bsl (L.drop 7) p)]) ∧ Below (w.alloc (.cells #[.bool true, .bool eb, .int .i64 0] 31)).drew.heap.size (w.alloc (.cells #[.bool true, .bool eb, .int .i64 0] 31)).drew w') := ⟨by
    have h := strEnd39.calls true eb 0 g 7 (c - 7) (L.drop 7) p (w.alloc (.cells #[.bool true, .bool eb, .int .i64 0] 31)).drew ((HROW.out.drop 7).below (below_drew HB.out)) (fun x hx => HL.out.by_ x (List.mem_of_mem_drop hx)) (by rw [List.length_drop]; omega) (by rw [List.length_drop]; omega) he
    rw [List.length_drop] at h
    rw [hq]
    exact h⟩
  clear hrow hL hc he hbel hpl hE hlen hmost hq
  generalize StrEnd.bsl (L.drop 7) p = sb at *
  go_enter Tryd.func17, Tryd.ntmps17
  go_upto_region 5 with fail
  all_goals go_region_with (go_at_call 20; refine HSE.out.mono ?_; rintro e w4 ⟨rfl, hb4⟩; have HB4 := Aside0.mk (below_step (below_drew HB.out) hb4); clear hb4)
  all_goals go_wp2
  all_goals refine bodyPost_ret (results_tmp4 rfl _ _ _) rfl ?_
  all_goals exact ⟨rfl, HB4.out⟩
set_option maxHeartbeats 8000000 in
set_option maxRecDepth 100000 in
theorem inner_calls (eb : Bool) (g c gk ck p E : Nat) (L : List Int) (w : World) (hrow : Row w g 0 L) (hL : Hd L) (hc : L.length ≤ c) (hk : w.cell? ⟨gk, 0, none⟩ = some (.string ⟨#[97]⟩)) (he : StrEnd.Ends (L.drop 7) 39 p) (hE : E = p + 8) :
    Calls Tryd.prog 12 #[.agg #[.bool true, .bool eb, .int .i64 0], .slice (some ⟨g, 0, none⟩) L.length c, .slice (some ⟨gk, 0, none⟩) 1 ck] w fun e w' => e = .returned (.tuple #[.slice (some ⟨g, 7, none⟩) p p, .int .i64 1, .int .i64 6, .int .i64 (E : Int), .nilIface]) ∧ Below w.heap.size w w' := by
  have HROW := Aside0.mk hrow
  have HL := Aside0.mk hL
  have HC := Aside0.mk hc
  have HK := Aside0.mk hk
  have HE := Aside0.mk he
  have HEE := Aside0.mk hE
  have hpl := he.lt
  rw [List.length_drop] at hpl
  have hlen := hL.len
  have hmost := hL.most
  have hbel := XWords.below_alloc0 (Nat.le_refl _) (Below.refl w.heap.size w) (.cells #[.bool true, .bool eb, .int .i64 0] 31)
  have d0 : (w.alloc (.cells #[.bool true, .bool eb, .int .i64 0] 31)).cell? ⟨w.heap.size, 0, none⟩ = some (.bool true) := World.cell?_alloc_new w #[.bool true, .bool eb, .int .i64 0] 31 0
  have d1 : (w.alloc (.cells #[.bool true, .bool eb, .int .i64 0] 31)).cell? ⟨w.heap.size, 1, none⟩ = some (.bool eb) := World.cell?_alloc_new w #[.bool true, .bool eb, .int .i64 0] 31 1
  have d2 : (w.alloc (.cells #[.bool true, .bool eb, .int .i64 0] 31)).cell? ⟨w.heap.size, 2, none⟩ = some (.int .i64 0) := World.cell?_alloc_new w #[.bool true, .bool eb, .int .i64 0] 31 2
  have HB := Aside0.mk hbel
  have HS := Aside0.mk (search_calls eb g c gk ck L _ (hrow.below hbel) hL hc (pw_cell_below hbel hk))
  have HNX : Aside0 (∀ W : World, Row W g 0 L → Calls Tryd.prog 16 #[.agg #[.bool true, .bool eb, .int .i64 0], .slice (some ⟨g, 5, none⟩) (L.length - 5) (c - 5)] W fun e w' => e = .returned (.int .i64 1) ∧ Below W.heap.size W w') := ⟨fun W hr => by
    have hd := hr.drop 5
    have h := jsonparser_nextTokenConfig.calls 2 true eb 0 (some ⟨g, 0 + 5, none⟩) (c - 5) (L.drop 5) 1 W (hd.kd (by rw [List.length_drop]; omega)) (by rw [List.length_drop]; omega) (hL.next5 _ _ _)
    rw [List.length_drop] at h
    exact h⟩
  have z1 : ((5 : Int) ≤ (L.length : Int)) = True := eq_true (by omega)
  have z2 : (5 ≤ L.length) = True := eq_true (by omega)
  have y1 : (c = 5) = False := eq_false (by omega)
  have y2 : (c - 5 = 0) = False := eq_false (by omega)
  have y3 : (c ≤ 5) = False := eq_false (by omega)
  have y4 : (5 ≤ c) = True := eq_true (by omega)
  have y5 : (c - 6 = 1) = False := eq_false (by omega)
  have y6 : (c - 6 - 1 = 0) = False := eq_false (by omega)
  have u2 : (p : Int) + 2 ≤ (c : Int) - 6 := by omega
  have u3 : p + 1 ≤ c - 6 := by omega
  have u4 : (p : Int) ≤ 1000000 := by omega
  have u5 : p ≤ c - 7 := by omega
  have u6 : c - 6 - 1 = c - 7 := by omega
  have u7 : ((c - 7 : Nat) : Int) = (c : Int) - 7 := by omega
  have u8 : ((c - 6 : Nat) : Int) = (c : Int) - 6 := by omega
  clear hrow hL hc hk he hbel hpl hE hlen hmost
  go_enter Tryd.func12, Tryd.ntmps12
  go_wp2_with (go_at_call 15; refine HS.out.mono ?_; rintro e w1 ⟨rfl, hb1⟩; have HB1 := Aside0.mk (below_step HB.out hb1); have e0 := pw_cell_below hb1 d0; have e1 := pw_cell_below hb1 d1; have e2 := pw_cell_below hb1 d2; clear hb1 d0 d1 d2)
  all_goals have HNX1 := Aside0.mk (HNX.out w1.drew (HROW.out.below (below_drew HB1.out)))
  all_goals go_region_with (go_at_call 16; refine HNX1.out.mono ?_; rintro e w2 ⟨rfl, hb2⟩; have HB2 := Aside0.mk (below_step (below_drew HB1.out) hb2); have d0 := pw_cell_below (w := w1.drew) hb2 e0; have d1 := pw_cell_below (w := w1.drew) hb2 e1; have d2 := pw_cell_below (w := w1.drew) hb2 e2; clear hb2 e0 e1 e2)
  all_goals have HT := Aside0.mk (type_calls eb g c p E L w2 (HROW.out.below HB2.out) HL.out HC.out HE.out HEE.out)
  all_goals go_wp2_with (go_at_call 17; refine HT.out.mono ?_; rintro e w3 ⟨rfl, hb3⟩; have HB3 := Aside0.mk (below_step HB2.out hb3); clear hb3)
  all_goals refine bodyPost_ret (results_tmp5 rfl _ _ _) rfl ?_
  all_goals exact ⟨rfl, HB3.out⟩
set_option maxHeartbeats 8000000 in
set_option maxRecDepth 100000 in
theorem get_calls (eb : Bool) (g c gk ck p E : Nat) (L : List Int) (w : World) (hrow : Row w g 0 L) (hL : Hd L) (hc : L.length ≤ c) (hk : w.cell? ⟨gk, 0, none⟩ = some (.string ⟨#[97]⟩)) (he : StrEnd.Ends (L.drop 7) 39 p) (hE : E = p + 8) :
    Calls Tryd.prog 8 #[.agg #[.bool true, .bool eb, .int .i64 0], .slice (some ⟨g, 0, none⟩) L.length c, .slice (some ⟨gk, 0, none⟩) 1 ck] w fun e w' => e = .returned (.tuple #[.slice (some ⟨g, 7, none⟩) p p, .int .i64 1, .int .i64 (E : Int), .nilIface]) ∧ Below w.heap.size w w' := by
  have hbel := XWords.below_alloc0 (Nat.le_refl _) (Below.refl w.heap.size w) (.cells #[.bool true, .bool eb, .int .i64 0] 31)
  have d0 : (w.alloc (.cells #[.bool true, .bool eb, .int .i64 0] 31)).cell? ⟨w.heap.size, 0, none⟩ = some (.bool true) := World.cell?_alloc_new w #[.bool true, .bool eb, .int .i64 0] 31 0
  have d1 : (w.alloc (.cells #[.bool true, .bool eb, .int .i64 0] 31)).cell? ⟨w.heap.size, 1, none⟩ = some (.bool eb) := World.cell?_alloc_new w #[.bool true, .bool eb, .int .i64 0] 31 1
  have d2 : (w.alloc (.cells #[.bool true, .bool eb, .int .i64 0] 31)).cell? ⟨w.heap.size, 2, none⟩ = some (.int .i64 0) := World.cell?_alloc_new w #[.bool true, .bool eb, .int .i64 0] 31 2
  have HB := Aside0.mk hbel
  have HI := Aside0.mk (inner_calls eb g c gk ck p E L _ (hrow.below hbel) hL hc (pw_cell_below hbel hk) he hE)
  clear hrow hL hc hk he hbel hE
  go_enter Tryd.func8, Tryd.ntmps8
  go_wp2_with (go_at_call 12; refine HI.out.mono ?_; rintro e w1 ⟨rfl, hb1⟩; have HB1 := Aside0.mk (below_step HB.out hb1); clear hb1)
  refine bodyPost_ret (results_tmp4 rfl _ _ _) rfl ?_
  exact ⟨rfl, HB1.out⟩
theorem Row.take {w : World} {g o : Nat} {l : List Int} (h : Row w g o l) (m : Nat) : Row w g o (l.take m) := by
  intro j hj
  rw [List.length_take] at hj
  rw [h j (by omega)]
  unfold rd
  simp only [Int.toNat_natCast, List.getD_eq_getElem?_getD]
  rw [List.getElem?_take_of_lt (by omega)]
theorem add_lit0 (g o j : Nat) : (⟨g, o, none⟩ : Addr).add j = ⟨g, o + j, none⟩ := by
  unfold Addr.add
  split
  · subst_vars; rfl
  · rfl
theorem Row.cel {w : World} {g o : Nat} {l : List Int} (h : Row w g o l) : unescQ.Cel w ⟨g, o, none⟩ l := by
  intro j hj
  rw [add_lit0, h j hj]
  rfl
set_option maxHeartbeats 8000000 in
set_option maxRecDepth 100000 in
theorem string_calls (eb : Bool) (k g c gk ck p : Nat) (L B out : List Int) (w : World) (hrow : Row w g 0 L) (hL : Hd L) (hc : L.length ≤ c) (hk : w.cell? ⟨gk, 0, none⟩ = some (.string ⟨#[97]⟩)) (he : StrEnd.Ends (L.drop 7) 39 p) (hg : g < w.heap.size)
    (hB : (L.drop 7).take p = B) (hf : unescQ.full k B = some out) (ho : out.length ≤ 1000000) :
    Calls Tryd.prog 7 #[.agg #[.bool true, .bool eb, .int .i64 0], .slice (some ⟨g, 0, none⟩) L.length c, .slice (some ⟨gk, 0, none⟩) 1 ck] w fun e w' => e = .returned (.tuple #[.string (strOfNums out), .nilIface]) ∧ Below w.heap.size w w' := by
  have hbel := XWords.below_alloc0 (Nat.le_refl _) (Below.refl w.heap.size w) (.cells #[.bool true, .bool eb, .int .i64 0] 31)
  have d0 : (w.alloc (.cells #[.bool true, .bool eb, .int .i64 0] 31)).cell? ⟨w.heap.size, 0, none⟩ = some (.bool true) := World.cell?_alloc_new w #[.bool true, .bool eb, .int .i64 0] 31 0
  have d1 : (w.alloc (.cells #[.bool true, .bool eb, .int .i64 0] 31)).cell? ⟨w.heap.size, 1, none⟩ = some (.bool eb) := World.cell?_alloc_new w #[.bool true, .bool eb, .int .i64 0] 31 1
  have d2 : (w.alloc (.cells #[.bool true, .bool eb, .int .i64 0] 31)).cell? ⟨w.heap.size, 2, none⟩ = some (.int .i64 0) := World.cell?_alloc_new w #[.bool true, .bool eb, .int .i64 0] 31 2
  have HB := Aside0.mk hbel
  have HG := Aside0.mk (get_calls eb g c gk ck p (p + 8) L _ (hrow.below hbel) hL hc (pw_cell_below hbel hk) he rfl)
  have hpl := he.lt
  rw [List.length_drop] at hpl
  have hlen := hL.len
  have hmost := hL.most
  have hBl : B.length = p := by rw [← hB, List.length_take, List.length_drop]; omega
  have hBrow : Row w g 7 B := by
    have h := (hrow.drop 7).take p
    rw [hB, Nat.zero_add] at h
    exact h
  have hBby : ∀ x ∈ B, 0 ≤ x ∧ x ≤ 255 := fun x hx => hL.by_ x (List.mem_of_mem_drop (List.mem_of_mem_take (hB ▸ hx)))
  have HBR := Aside0.mk hBrow
  have HBY := Aside0.mk hBby
  have HBL := Aside0.mk hBl
  have HGW := Aside0.mk hg
  have HF := Aside0.mk hf
  have HO := Aside0.mk ho
  have HP := Aside0.mk (show p ≤ 1000000 by omega)
  have HIX := Aside0.mk fun (W : World) (hr : Row W g 7 B) => Tryd.bytes_IndexByte_at ⟨g, 7, none⟩ p p B 92 W hBl (fun i hi => by rw [add_lit0, hr i (by omega)]; rfl)
  have HEQ := Aside0.mk (unescQ.bsl_eq B hBby)
  rw [HEQ.out] at HIX
  clear hrow hL hc hk he hbel hpl hlen hmost hB hBrow hBby hg hf ho
  go_enter Tryd.func7, Tryd.ntmps7
  go_upto_if 34 with (first | (go_at_call 8; refine HG.out.mono ?_; rintro e w1 ⟨rfl, hb1⟩; have HB1 := Aside0.mk (below_step HB.out hb1); have e0 := pw_cell_below hb1 d0; have e1 := pw_cell_below hb1 d1; have e2 := pw_cell_below hb1 d2; clear hb1 d0 d1 d2) | (go_at_call 10; refine (HIX.out _ (HBR.out.below HB1.out)).mono ?_; rintro e w2 ⟨rfl, rfl⟩))
  by_cases hb : unescQ.bsl B = -1
  · have hout : B = out := by
      have h := HF.out
      unfold unescQ.full at h
      rw [if_pos hb] at h
      exact Option.some.inj h
    have hcv := Kd.C_string (P := Tryd.prog) (c := p) Tryd.underlying34 Tryd.underlying5 Tryd.underlying9 ((HBR.out.below HB1.out).kd (by rw [HBL.out]; exact HP.out))
    rw [HBL.out, hout] at hcv
    have hbb : (unescQ.bsl B == -1) = true := beq_iff_eq.mpr hb
    clear hb hout hBl
    refine wp_cond_split rfl (fun _ => ?_) (fun h => by rw [hbb] at h; cases h)
    go_wp2
    go_ret2
    exact ⟨rfl, HB1.out⟩
  · have hbb : (unescQ.bsl B == -1) = false := beq_eq_false_iff_ne.mpr hb
    refine wp_cond_split rfl (fun h => by rw [hbb] at h; cases h) (fun _ => ?_)
    clear hb hBl hbb
    go_upto_region 11 with fail
    generalize hWE : World.alloc w2 _ = W3
    have hb3 : Below w2.heap.size w2 W3 := by rw [← hWE]; exact below_alloc (Below.refl _ _) _
    obtain ⟨cur0, hh, h64⟩ : ∃ cur0 : List Value, W3.heap[w2.heap.size]? = some (.cells cur0.toArray 40 (0, 0)) ∧ cur0.length = 64 := ⟨_, by rw [← hWE]; exact heap_alloc_new w2 _, rfl⟩
    have hW3 := below_step HB1.out hb3
    have hw2 := HB1.out.size
    have HU : Aside0 (Calls Tryd.prog 11 #[.agg #[.bool true, .bool eb, .int .i64 0], .slice (some ⟨g, 7, none⟩) p p, .slice (some ⟨w2.heap.size, 0, none⟩) 64 64] W3.drew (unescQ.Post w.heap.size W3.drew out)) := ⟨by
      have h := unescQ.uc_calls eb k ⟨g, 7, none⟩ rfl p B out w2.heap.size w.heap.size cur0 40 W3.drew (by rw [HBL.out]; exact HP.out) (by rw [HBL.out]; exact Nat.le_refl _) (HBR.out.below (below_drew hW3)).cel HGW.out hw2 (below_drew hW3).size hh h64 (fun _ _ => trivial) HBY.out HF.out
      rw [HBL.out] at h
      exact h⟩
    have f0 := pw_cell_below hb3 e0
    have f1 := pw_cell_below hb3 e1
    have f2 := pw_cell_below hb3 e2
    have HW3 := Aside0.mk hW3
    clear hW3 hh hw2 h64 hb3 hWE e0 e1 e2
    go_region_with (go_at_call 11; refine HU.out.mono ?_; rintro e w4 ⟨b, o, n, c', rfl, rfl, hcells, hb4⟩; have HB4 := Aside0.mk ((below_drew HW3.out).trans hb4); have hcv := Kd.C_string (P := Tryd.prog) (c := c') Tryd.underlying34 Tryd.underlying5 Tryd.underlying9 (Row.kd (fun j hj => hcells j hj : Row w4 b o out) HO.out); clear hb4 hcells)
    all_goals go_wp2
    all_goals go_ret2
    all_goals exact ⟨rfl, HB4.out⟩

end Go.Proofs.YtlpcjgjphkdnbaaDoor.XFnJpConfigQuote
