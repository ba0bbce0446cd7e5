/- Proved: what jsonparser's functions do with an object of one member between single quotes. -/
import Derived.Test.YtlpcjgjphkdnbaaDoorStrEndWalkFnJpConfigQuote
import Derived.Test.YtlpcjgjphkdnbaaDoorUnescQFnJpConfigQuote
import Derived.LoopN
namespace Go.Proofs.YtlpcjgjphkdnbaaDoor.XFnJpConfigQuote
open Go.RowKit Go.Proofs.YtlpcjgjphkdnbaaDoorW.PrintWords Go.Proofs.YtlpcjgjphkdnbaaDoorW.PrintLast Go.Proofs.YtlpcjgjphkdnbaaDoorW.PrintMore
attribute [local go_sem] max2_int min2_int max_two min_two max_three min_three max_four min_four
set_option linter.unusedVariables false
set_option linter.unusedSimpArgs false

/-- A loop of two rounds. -/
theorem wp_loop_two {P : Program} {Q : Exit → Act → World → Prop} {a : Act} {w : World} {c : Code} (h : ∀ K : Act → World → Prop, (∀ a' w', c.wp P (Exit.then (fun _ _ => False) Q) a' w' → K a' w') → c.wp P (Exit.then K Q) a w) : (Code.loop c).wp P Q a w :=
  wp_loop_rounds 2 (h _ fun _ _ h => h)
theorem rd_drop (l : List Int) (m j : Nat) : rd (l.drop m) (j : Int) = rd l ((m + j : Nat) : Int) := by
  unfold rd
  simp only [Int.toNat_natCast, List.getD_eq_getElem?_getD, List.getElem?_drop]
theorem Row.drop {w : World} {g o : Nat} {l : List Int} (h : Row w g o l) (m : Nat) : Row w g (o + m) (l.drop m) := by
  intro j hj
  rw [List.length_drop] at hj
  rw [rd_drop, Nat.add_assoc]
  exact h (m + j) (by omega)
theorem Row.kd {w : World} {g o : Nat} {l : List Int} (h : Row w g o l) (hl : l.length ≤ 1000000) : Kd.C (Kd.int .u8) w (some ⟨g, o, none⟩) l.length l := by
  refine Kd.C_of_reads (d := (0 : Int)) (h1 := fun _ => rfl) ⟨rfl, by omega, fun _ => ⟨⟨g, o, none⟩, rfl, fun j hj => ?_⟩⟩
  have e : (⟨g, o, none⟩ : Addr).add j = ⟨g, o + j, none⟩ := by
    unfold Addr.add
    split
    · subst_vars; rfl
    · rfl
  rw [e, h j hj]
  rfl
/-- What the texts have in common: {'a': ' ahead of the value. -/
structure Hd (L : List Int) : Prop where
  len : 10 ≤ L.length
  most : L.length ≤ 1000000
  by_ : ∀ x ∈ L, 0 ≤ x ∧ x ≤ 255
  r0 : rd L 0 = 123
  r1 : rd L 1 = 39
  r2 : rd L 2 = 97
  r3 : rd L 3 = 39
  r4 : rd L 4 = 58
  r5 : rd L 5 = 32
  r6 : rd L 6 = 39
theorem Hd.ends {L : List Int} (h : Hd L) : StrEnd.Ends (L.drop 2) 39 1 := by
  have h0 : rd (L.drop 2) ((0 : Nat) : Int) = 97 := by rw [rd_drop]; exact h.r2
  have h1 : rd (L.drop 2) ((1 : Nat) : Int) = 39 := by rw [rd_drop]; exact h.r3
  have := h.len
  refine ⟨by rw [List.length_drop]; omega, h1, StrEnd.escd_not (by rw [h0]; decide), fun j hj hq => ?_⟩
  obtain rfl : j = 0 := by omega
  rw [h0] at hq
  cases hq
theorem Hd.bsl {L : List Int} (h : Hd L) : StrEnd.bsl (L.drop 2) 1 = false := by
  have h0 : rd (L.drop 2) ((0 : Nat) : Int) = 97 := by rw [rd_drop]; exact h.r2
  rw [StrEnd.bsl, h0]; rfl
theorem Hd.next4 {L : List Int} (h : Hd L) (b1 b2 : Bool) (n : Int) : jsonparser_nextTokenConfig.f 1 b1 b2 n (L.drop 4) = some 0 := by
  have := h.len
  have h0 : rd (L.drop 4) 0 = 58 := (rd_drop L 4 0).trans h.r4
  unfold jsonparser_nextTokenConfig.f jsonparser_nextTokenConfig.l0
  rw [List.length_drop, if_pos (by omega), if_pos (by decide), if_pos (by omega), h0]
  simp
theorem Hd.next5 {L : List Int} (h : Hd L) (b1 b2 : Bool) (n : Int) : jsonparser_nextTokenConfig.f 2 b1 b2 n (L.drop 5) = some 1 := by
  have := h.len
  have h0 : rd (L.drop 5) 0 = 32 := (rd_drop L 5 0).trans h.r5
  have h1 : rd (L.drop 5) 1 = 39 := (rd_drop L 5 1).trans h.r6
  unfold jsonparser_nextTokenConfig.f jsonparser_nextTokenConfig.l0
  rw [List.length_drop, if_pos (by omega), if_pos (by decide), if_pos (by omega), h0, if_pos rfl]
  have e : wrap64 (0 + 1) = 1 := by unfold wrap64; omega
  rw [e]
  unfold jsonparser_nextTokenConfig.l0
  rw [if_pos (by omega), if_pos (by decide), List.length_drop, if_pos (by omega), h1]
  simp
theorem three_a (w : World) (xs : Array Value) (t : TypeId) (o2 o3 : Obj) (j : Nat) (v : Value) (h : xs[j]? = some v) : (((w.alloc (.cells xs t)).alloc o2).alloc o3).cell? ⟨w.heap.size, j, none⟩ = some v :=
  pw_cell_below (w := w.alloc (.cells xs t)) (XWords.below_alloc0 (by show (w.alloc (.cells xs t)).heap.size ≤ ((w.alloc (.cells xs t)).heap.push o2).size; rw [Array.size_push]; omega) (XWords.below_alloc0 (Nat.le_refl _) (Below.refl _ _) _) _) ((World.cell?_alloc_new w _ _ j).trans h)
theorem three_b (w : World) (ys : Array Value) (t : TypeId) (o1 o3 : Obj) (j : Nat) (v : Value) (h : ys[j]? = some v) : (((w.alloc o1).alloc (.cells ys t)).alloc o3).cell? ⟨w.heap.size + 1, j, none⟩ = some v := by
  have e : w.heap.size + 1 = (w.alloc o1).heap.size := by show _ = (w.heap.push _).size; rw [Array.size_push]
  rw [e]
  exact pw_cell_below (w := (w.alloc o1).alloc (.cells ys t)) (XWords.below_alloc0 (Nat.le_refl _) (Below.refl _ _) _) ((World.cell?_alloc_new (w.alloc o1) _ _ j).trans h)
theorem three_below (w : World) (o1 o2 o3 : Obj) : Below w.heap.size w (((w.alloc o1).alloc o2).alloc o3) :=
  below_alloc (below_alloc (below_alloc (Below.refl _ _) _) _) _
set_option maxHeartbeats 2000000 in
set_option maxRecDepth 100000 in
theorem equal_calls (g o c : Nat) (w : World) (l : List Int) (s : ByteArray) (hrow : Row w g o l) (hlen : l.length ≤ 1000000) (hs : strOfNums l = s) :
    Calls Tryd.prog 21 #[.pointer (some ⟨w.heap.size, 0, none⟩), .string s] (w.alloc (.cells #[.slice (some ⟨g, o, none⟩) l.length c] 34)) fun e w' => e = .returned (.bool true) ∧ w' = w.alloc (.cells #[.slice (some ⟨g, o, none⟩) l.length c] 34) := by
  have hbox : (w.alloc (.cells #[.slice (some ⟨g, o, none⟩) l.length c] 34)).cell? ⟨w.heap.size, 0, none⟩ = some (.slice (some ⟨g, o, none⟩) l.length c) := World.cell?_alloc_new w _ _ 0
  have hr2 : Row (w.alloc (.cells #[.slice (some ⟨g, o, none⟩) l.length c] 34)) g o l := hrow.below (below_alloc (Below.refl _ _) _)
  have hcv := Kd.C_string (P := Tryd.prog) (c := c) Tryd.underlying34 Tryd.underlying5 Tryd.underlying9 (hr2.kd hlen)
  rw [hs] at hcv
  clear hr2 hrow
  generalize w.alloc (.cells #[.slice (some ⟨g, o, none⟩) l.length c] 34) = W at *
  go_enter Tryd.func21, Tryd.ntmps21
  go_wp2
  go_ret
  exact ⟨by simp, rfl⟩
set_option maxHeartbeats 8000000 in
set_option maxRecDepth 100000 in
theorem search_calls (eb : Bool) (g c gk ck : Nat) (L : List Int) (w : World) (hrow : Row w g 0 L) (hL : Hd L) (hc : L.length ≤ c) (hk : w.cell? ⟨gk, 0, none⟩ = some (.string ⟨#[97]⟩)) :
    Calls Tryd.prog 15 #[.agg #[.bool true, .bool eb, .int .i64 0], .slice (some ⟨g, 0, none⟩) L.length c, .slice (some ⟨gk, 0, none⟩) 1 ck] w fun e w' => e = .returned (.int .i64 5) ∧ Below w.heap.size w w' := by
  have HROW := Aside0.mk hrow
  have HL := Aside0.mk hL
  have HC := Aside0.mk hc
  have HK := Aside0.mk hk
  clear hrow hL hc hk
  go_enter Tryd.func15, Tryd.ntmps15
  go_wp2
  have hbel0 := three_below w (.cells #[.bool true, .bool eb, .int .i64 0] 31) (.cells #[.slice (some ⟨g, 0, none⟩) L.length c] 34)
  have ha0 := three_a w #[.bool true, .bool eb, .int .i64 0] 31 (.cells #[.slice (some ⟨g, 0, none⟩) L.length c] 34)
  have hb0 := three_b w #[.slice (some ⟨g, 0, none⟩) L.length c] 34 (.cells #[.bool true, .bool eb, .int .i64 0] 31)
  have hbel := hbel0 (.cells #[.int .u8 0, .int .u8 0, .int .u8 0, .int .u8 0, .int .u8 0, .int .u8 0, .int .u8 0, .int .u8 0, .int .u8 0, .int .u8 0, .int .u8 0, .int .u8 0, .int .u8 0, .int .u8 0, .int .u8 0, .int .u8 0, .int .u8 0, .int .u8 0, .int .u8 0, .int .u8 0, .int .u8 0, .int .u8 0, .int .u8 0, .int .u8 0, .int .u8 0, .int .u8 0, .int .u8 0, .int .u8 0, .int .u8 0, .int .u8 0, .int .u8 0, .int .u8 0, .int .u8 0, .int .u8 0, .int .u8 0, .int .u8 0, .int .u8 0, .int .u8 0, .int .u8 0, .int .u8 0, .int .u8 0, .int .u8 0, .int .u8 0, .int .u8 0, .int .u8 0, .int .u8 0, .int .u8 0, .int .u8 0, .int .u8 0, .int .u8 0, .int .u8 0, .int .u8 0, .int .u8 0, .int .u8 0, .int .u8 0, .int .u8 0, .int .u8 0, .int .u8 0, .int .u8 0, .int .u8 0, .int .u8 0, .int .u8 0, .int .u8 0, .int .u8 0] 40)
  have ha := ha0 (.cells #[.int .u8 0, .int .u8 0, .int .u8 0, .int .u8 0, .int .u8 0, .int .u8 0, .int .u8 0, .int .u8 0, .int .u8 0, .int .u8 0, .int .u8 0, .int .u8 0, .int .u8 0, .int .u8 0, .int .u8 0, .int .u8 0, .int .u8 0, .int .u8 0, .int .u8 0, .int .u8 0, .int .u8 0, .int .u8 0, .int .u8 0, .int .u8 0, .int .u8 0, .int .u8 0, .int .u8 0, .int .u8 0, .int .u8 0, .int .u8 0, .int .u8 0, .int .u8 0, .int .u8 0, .int .u8 0, .int .u8 0, .int .u8 0, .int .u8 0, .int .u8 0, .int .u8 0, .int .u8 0, .int .u8 0, .int .u8 0, .int .u8 0, .int .u8 0, .int .u8 0, .int .u8 0, .int .u8 0, .int .u8 0, .int .u8 0, .int .u8 0, .int .u8 0, .int .u8 0, .int .u8 0, .int .u8 0, .int .u8 0, .int .u8 0, .int .u8 0, .int .u8 0, .int .u8 0, .int .u8 0, .int .u8 0, .int .u8 0, .int .u8 0, .int .u8 0] 40)
  have hb := hb0 (.cells #[.int .u8 0, .int .u8 0, .int .u8 0, .int .u8 0, .int .u8 0, .int .u8 0, .int .u8 0, .int .u8 0, .int .u8 0, .int .u8 0, .int .u8 0, .int .u8 0, .int .u8 0, .int .u8 0, .int .u8 0, .int .u8 0, .int .u8 0, .int .u8 0, .int .u8 0, .int .u8 0, .int .u8 0, .int .u8 0, .int .u8 0, .int .u8 0, .int .u8 0, .int .u8 0, .int .u8 0, .int .u8 0, .int .u8 0, .int .u8 0, .int .u8 0, .int .u8 0, .int .u8 0, .int .u8 0, .int .u8 0, .int .u8 0, .int .u8 0, .int .u8 0, .int .u8 0, .int .u8 0, .int .u8 0, .int .u8 0, .int .u8 0, .int .u8 0, .int .u8 0, .int .u8 0, .int .u8 0, .int .u8 0, .int .u8 0, .int .u8 0, .int .u8 0, .int .u8 0, .int .u8 0, .int .u8 0, .int .u8 0, .int .u8 0, .int .u8 0, .int .u8 0, .int .u8 0, .int .u8 0, .int .u8 0, .int .u8 0, .int .u8 0, .int .u8 0] 40)
  have d0 := ha 0 _ rfl
  have d1 := ha 1 _ rfl
  have d2 := ha 2 _ rfl
  have d3 := hb 0 _ rfl
  clear ha hb ha0 hb0 hbel0
  generalize World.alloc (World.alloc (World.alloc w _) _) _ = W3 at *
  have HB := Aside0.mk hbel
  have x0 := (HROW.out.below HB.out) 0 (by have := HL.out.len; omega)
  have x1 := (HROW.out.below HB.out) 1 (by have := HL.out.len; omega)
  have x4 := (HROW.out.below HB.out) 4 (by have := HL.out.len; omega)
  rw [show ((0 : Nat) : Int) = 0 from rfl, HL.out.r0] at x0
  rw [show ((1 : Nat) : Int) = 1 from rfl, HL.out.r1] at x1
  rw [show ((4 : Nat) : Int) = 4 from rfl, HL.out.r4] at x4
  rw [Nat.zero_add] at x0 x1 x4
  have hne : (L = []) = False := eq_false (by rintro rfl; have := HL.out.len; simp at this)
  have z0 : (0 < L.length) = True := eq_true (by have := HL.out.len; omega)
  have z1 : ((1 : Int) < (L.length : Int)) = True := eq_true (by have := HL.out.len; omega)
  have z2 : (1 < L.length) = True := eq_true (by have := HL.out.len; omega)
  have z9 : ((L.length : Int) ≤ 1) = False := eq_false (by have := HL.out.len; omega)
  have z10 : (L.length ≤ 1) = False := eq_false (by have := HL.out.len; omega)
  have z3 : ((2 : Int) ≤ (L.length : Int)) = True := eq_true (by have := HL.out.len; omega)
  have z4 : (2 ≤ L.length) = True := eq_true (by have := HL.out.len; omega)
  have z5 : ((4 : Int) ≤ (L.length : Int)) = True := eq_true (by have := HL.out.len; omega)
  have z6 : (4 ≤ L.length) = True := eq_true (by have := HL.out.len; omega)
  have z7 : ((4 : Int) < (L.length : Int)) = True := eq_true (by have := HL.out.len; omega)
  have z8 : (4 < L.length) = True := eq_true (by have := HL.out.len; omega)
  have y2 : (c = 2) = False := eq_false (by have := HL.out.len; have := HC.out; omega)
  have y3 : (c - 2 = 0) = False := eq_false (by have := HL.out.len; have := HC.out; omega)
  have y4 : (c ≤ 2) = False := eq_false (by have := HL.out.len; have := HC.out; omega)
  have y5 : (c = 4) = False := eq_false (by have := HL.out.len; have := HC.out; omega)
  have y6 : (c - 4 = 0) = False := eq_false (by have := HL.out.len; have := HC.out; omega)
  have y7 : (c ≤ 4) = False := eq_false (by have := HL.out.len; have := HC.out; omega)
  have y8 : (2 ≤ c) = True := eq_true (by have := HL.out.len; have := HC.out; omega)
  have y9 : (4 ≤ c) = True := eq_true (by have := HL.out.len; have := HC.out; omega)
  have y10 : ((3 : Int) ≤ (c : Int)) = True := eq_true (by have := HL.out.len; have := HC.out; omega)
  have y11 : (3 ≤ c) = True := eq_true (by have := HL.out.len; have := HC.out; omega)
  have HSE : Aside0 (Calls Tryd.prog 20 #[.agg #[.bool true, .bool eb, .int .i64 0], .slice (some ⟨g, 2, none⟩) (L.length - 2) (c - 2), .int .u8 39] W3.drew fun e w' => e = .returned (.tuple #[.int .i64 2, .bool false]) ∧ Below W3.drew.heap.size W3.drew w') := ⟨by
    have h := strEnd39.calls true eb 0 g 2 (c - 2) (L.drop 2) 1 W3.drew ((HROW.out.drop 2).below (below_drew HB.out)) (fun x hx => HL.out.by_ x (List.mem_of_mem_drop hx)) (by rw [List.length_drop]; have := HL.out.most; omega) (by rw [List.length_drop]; have := HC.out; omega) HL.out.ends
    rw [HL.out.bsl, List.length_drop] at h
    exact h⟩
  have HNX : Aside0 (∀ W : World, Row W g 0 L → Calls Tryd.prog 16 #[.agg #[.bool true, .bool eb, .int .i64 0], .slice (some ⟨g, 4, none⟩) (L.length - 4) (c - 4)] W fun e w' => e = .returned (.int .i64 0) ∧ Below W.heap.size W w') := ⟨fun W hr => by
    have hd := hr.drop 4
    have h := jsonparser_nextTokenConfig.calls 1 true eb 0 (some ⟨g, 0 + 4, none⟩) (c - 4) (L.drop 4) 0 W (hd.kd (by rw [List.length_drop]; have := HL.out.most; omega)) (by rw [List.length_drop]; have := HC.out; omega) (HL.out.next4 _ _ _)
    rw [List.length_drop] at h
    exact h⟩
  clear hbel
  refine wp_loop_two fun K2 hK2 => ?_
  go_wp2
  refine wp_loop_once ?_
  go_wp2
  refine wp_loop_once ?_
  go_upto_region 25 with fail
  go_region_with (go_at_call 20; refine HSE.out.mono ?_; rintro e w4 ⟨rfl, hb4⟩; have HB4 := Aside0.mk (below_step (below_drew HB.out) hb4); have e0 := pw_cell_below (w := W3.drew) hb4 d0; have e1 := pw_cell_below (w := W3.drew) hb4 d1; have e2 := pw_cell_below (w := W3.drew) hb4 d2; have e3 := pw_cell_below (w := W3.drew) hb4 d3; have x4' := pw_cell_below (w := W3.drew) hb4 x4; clear hb4 d0 d1 d2 d3 x0 x1 x4)
  all_goals go_upto_region 30 with fail
  all_goals have HNX4 := Aside0.mk (HNX.out w4.drew (HROW.out.below (below_drew HB4.out)))
  all_goals go_region_with (go_at_call 16; refine HNX4.out.mono ?_; rintro e w5 ⟨rfl, hb5⟩; have HB5 := Aside0.mk (below_step (below_drew HB4.out) hb5); have d0 := pw_cell_below (w := w4.drew) hb5 e0; have d1 := pw_cell_below (w := w4.drew) hb5 e1; have d2 := pw_cell_below (w := w4.drew) hb5 e2; have d3 := pw_cell_below (w := w4.drew) hb5 e3; have x4 := pw_cell_below (w := w4.drew) hb5 x4'; clear hb5 e0 e1 e2 e3 x4')
  all_goals go_upto_region 46 with fail
  all_goals have hk6 := pw_cell_below (below_alloc HB5.out (.cells #[.slice (some ⟨g, 2, none⟩) 1 (c - 2)] 34)) HK.out
  all_goals have HEQ := Aside0.mk (equal_calls g 2 (c - 2) w5 [97] ⟨#[97]⟩ (fun j hj => by
    simp only [List.length_cons, List.length_nil] at hj
    obtain rfl : j = 0 := by omega
    have h := (HROW.out.below HB5.out) 2 (by have := HL.out.len; omega)
    rw [show ((2 : Nat) : Int) = 2 from rfl, HL.out.r2] at h
    exact h) (by decide) (by decide))
  all_goals go_wp2_with (go_at_call 21; refine HEQ.out.mono ?_; rintro e w6 ⟨rfl, rfl⟩)
  all_goals go_ret
  all_goals exact ⟨rfl, below_alloc HB5.out _⟩

end Go.Proofs.YtlpcjgjphkdnbaaDoor.XFnJpConfigQuote
