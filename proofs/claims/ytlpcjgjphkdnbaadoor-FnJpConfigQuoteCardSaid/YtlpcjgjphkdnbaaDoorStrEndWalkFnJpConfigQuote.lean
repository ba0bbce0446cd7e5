/- Proved: jsonparser's stringEndConfig finds where a string ends, and whether a backslash stands in it. -/
import Derived.Test.YtlpcjgjphkdnbaaDoorStrEndRunFnJpConfigQuote
namespace Go.Proofs.YtlpcjgjphkdnbaaDoor.XFnJpConfigQuote
open Go.RowKit Go.Proofs.YtlpcjgjphkdnbaaDoorW.PrintWords Go.Proofs.YtlpcjgjphkdnbaaDoorW.PrintLast Go.Proofs.YtlpcjgjphkdnbaaDoorW.PrintMore
attribute [local go_sem] max2_int min2_int max_two min_two max_three min_three max_four min_four
set_option linter.unusedVariables false
set_option linter.unusedSimpArgs false
theorem wp_cut_block {P : Program} {s : Code} {K : Act → World → Prop} {Q' : Exit → Act → World → Prop} {a : Act} {w : World} {id : Nat} (R : Act → World → Prop)
    (rest : ∀ a' w', R a' w' → K a' w')
    (first : ∀ (J K' : Act → World → Prop), (∀ a' w', R a' w' → J a' w') → (∀ a' w', Met J a' w' → K' a' w') → s.wp P (Exit.inBlock id (Exit.then K' Q')) a w) : s.wp P (Exit.inBlock id (Exit.then K Q')) a w := by
  refine wp_mono (first R R (fun _ _ q => q) (fun _ _ q => q)) ?_
  intro e a' w' hq
  cases e with
  | normal => exact rest _ _ hq
  | exit id' =>
    simp only [Exit.inBlock] at hq ⊢
    split at hq
    · rename_i h; rw [if_pos h]; exact rest _ _ hq
    · rename_i h; rw [if_neg h]; exact hq
  | goto l => exact hq
  | ret => exact hq
  | panic ch => exact hq
  | outgrown => exact hq
/-- The same, where what follows the block is no variable. -/
theorem wp_cut_block2 {P : Program} {s : Code} {Q : Exit → Act → World → Prop} {a : Act} {w : World} {id : Nat} (R : Act → World → Prop)
    (rest : ∀ a' w', R a' w' → Q .normal a' w')
    (first : ∀ (J K' : Act → World → Prop), (∀ a' w', R a' w' → J a' w') → (∀ a' w', Met J a' w' → K' a' w') → s.wp P (Exit.inBlock id (Exit.then K' Q)) a w) : s.wp P (Exit.inBlock id Q) a w := by
  refine wp_mono (first R R (fun _ _ q => q) (fun _ _ q => q)) ?_
  intro e a' w' hq
  cases e with
  | normal => exact rest _ _ hq
  | exit id' =>
    simp only [Exit.inBlock] at hq ⊢
    split at hq
    · rename_i h; rw [if_pos h]; exact rest _ _ hq
    · rename_i h; rw [if_neg h]; exact hq
  | goto l => exact hq
  | ret => exact hq
  | panic ch => exact hq
  | outgrown => exact hq
set_option maxRecDepth 100000 in
/-- A frame of 108 slots, written out. -/
theorem strEnd39.frame_lit (a : Act) (hs : a.tmps.size = 108) (hd : a.defers = []) : ∃ f : Nat → Value, (∀ n, f n = a.tmps.getD n undef) ∧ a = ⟨#[f 0, f 1, f 2, f 3, f 4, f 5, f 6, f 7, f 8, f 9, f 10, f 11, f 12, f 13, f 14, f 15, f 16, f 17, f 18, f 19, f 20, f 21, f 22, f 23, f 24, f 25, f 26, f 27, f 28, f 29, f 30, f 31, f 32, f 33, f 34, f 35, f 36, f 37, f 38, f 39, f 40, f 41, f 42, f 43, f 44, f 45, f 46, f 47, f 48, f 49, f 50, f 51, f 52, f 53, f 54, f 55, f 56, f 57, f 58, f 59, f 60, f 61, f 62, f 63, f 64, f 65, f 66, f 67, f 68, f 69, f 70, f 71, f 72, f 73, f 74, f 75, f 76, f 77, f 78, f 79, f 80, f 81, f 82, f 83, f 84, f 85, f 86, f 87, f 88, f 89, f 90, f 91, f 92, f 93, f 94, f 95, f 96, f 97, f 98, f 99, f 100, f 101, f 102, f 103, f 104, f 105, f 106, f 107], []⟩ := by
  obtain ⟨t, d⟩ := a
  simp only [] at hs hd
  subst hd
  refine ⟨fun n => t.getD n undef, fun _ => rfl, ?_⟩
  have h : t = ((List.range 108).map fun n => t.getD n undef).toArray := by
    apply Array.ext
    · simp [hs]
    · intro i h1 h2
      simp [Array.getD, h1]
  exact congrArg (fun x => Act.mk x []) h
/-- What is kept of the frame. -/
structure strEnd39.Fr (s1 s2 s8 s9 s11 : Value) (a : Act) : Prop where
  size : a.tmps.size = 108
  defers : a.defers = []
  e1 : a.tmps.getD 1 undef = s1
  e2 : a.tmps.getD 2 undef = s2
  e8 : a.tmps.getD 8 undef = s8
  e9 : a.tmps.getD 9 undef = s9
  e11 : a.tmps.getD 11 undef = s11
set_option maxHeartbeats 8000000 in
set_option maxRecDepth 100000 in
theorem strEnd39.calls (b1 b2 : Bool) (n3 : Int) (g o c : Nat) (l : List Int) (p : Nat) (w : World) (hrow : Row w g o l) (hby : ∀ x ∈ l, 0 ≤ x ∧ x ≤ 255) (hl : l.length ≤ 1000000) (hc : l.length ≤ c) (h : StrEnd.Ends l 39 p) :
    Calls Tryd.prog 20 #[.agg #[.bool b1, .bool b2, .int .i64 n3], .slice (some ⟨g, o, none⟩) l.length c, .int .u8 39] w fun e w' => e = .returned (.tuple #[.int .i64 ((p + 1 : Nat) : Int), .bool (StrEnd.bsl l p)]) ∧ Below w.heap.size w w' := by
  have HROW := Aside0.mk hrow
  have HBY := Aside0.mk hby
  have HE := Aside0.mk h
  have HC := Aside0.mk hc
  have HPL : Aside0 (p < l.length) := ⟨h.lt⟩
  have HB1 := Aside0.mk (XWords.below_alloc0 (Nat.le_refl _) (Below.refl w.heap.size w) (.cells #[.bool b1, .bool b2, .int .i64 n3] 31))
  clear hrow hby h hc
  go_enter Tryd.func20, Tryd.ntmps20
  go_wp2
  refine wp_cut_block (fun a' w' => ∃ i : Nat, i ≤ p ∧ strEnd39.Fr (.slice (some ⟨g, o, none⟩) l.length c) (.int .u8 39) (.int .u64 2821266740684990247) (.int .u64 6655295901103053916) (.int .i64 (l.length : Int)) a' ∧ a'.tmps.getD 10 undef = .int .i64 (i : Int) ∧ Aside0 (∀ j, j < i → rd l (j : Int) ≠ 39 ∧ rd l (j : Int) ≠ 92) ∧ Aside0 (Below w.heap.size w w')) ?_ ?_
  rotate_left
  · intro J1 K1 hJ1 hK1
    refine wp_loop_ghost_k (fun kq a' w' => ∃ i : Nat, i + kq = p ∧ strEnd39.Fr (.slice (some ⟨g, o, none⟩) l.length c) (.int .u8 39) (.int .u64 2821266740684990247) (.int .u64 6655295901103053916) (.int .i64 (l.length : Int)) a' ∧ a'.tmps.getD 10 undef = .int .i64 (i : Int) ∧ Aside0 (∀ j, j < i → rd l (j : Int) ≠ 39 ∧ rd l (j : Int) ≠ 92) ∧ Aside0 (Below w.heap.size w w')) p ?_ ?_
    · exact ⟨0, by omega, ⟨rfl, rfl, rfl, rfl, rfl, rfl, rfl⟩, rfl, ⟨fun j hj => absurd hj (by omega)⟩, HB1⟩
    rintro n a2 w2 ⟨i, hk, hfr, h10, hfree, hb⟩ J2 K2 hJ2 hK2
    clear HB1
    obtain ⟨f1, hf, ha⟩ := strEnd39.frame_lit a2 hfr.size hfr.defers
    have e1_ := (hf 1).trans hfr.e1
    have e2_ := (hf 2).trans hfr.e2
    have e8_ := (hf 8).trans hfr.e8
    have e9_ := (hf 9).trans hfr.e9
    have e11_ := (hf 11).trans hfr.e11
    have e10_ := (hf 10).trans h10
    rw [e1_, e2_, e8_, e9_, e11_, e10_] at ha
    subst ha
    clear hf e1_ e2_ e8_ e9_ e11_ e10_ hfr h10
    have HPI : Aside0 (i ≤ p) := ⟨by omega⟩
    have hbd : (i : Int) ≤ 1000000 := by have := HPL.out; omega
    by_cases c8 : i + 8 ≤ l.length
    · have q8 : ((i : Int) + 8 ≤ (l.length : Int)) = True := eq_true (by omega)
      have p8 : ((i : Int) ≤ (l.length : Int)) = True := eq_true (by omega)
      have p8n : (i ≤ l.length) = True := eq_true (by omega)
      have hw8 : wrap64 ((i : Int) + 8) = (i : Int) + 8 := by unfold wrap64; omega
      have HK := Aside0.mk hk; clear hk
      have hci : (c = i) = False := eq_false (by have := HC.out; omega)
      have hci2 : (c - i = 0) = False := eq_false (by have := HC.out; omega)
      have hci3 : (c ≤ i) = False := eq_false (by have := HC.out; omega)
      have hci4 : (i ≤ c) = True := eq_true (by have := HC.out; omega)
      have HLE := Aside0.mk (le8_calls g o (c - i) l i w2.drew (HROW.out.below (below_drew hb.out)) HBY.out c8)
      go_upto_region 6 with fail
      go_region_with (go_at_call 31; refine HLE.out.mono ?_; rintro e w3 ⟨rfl, hb3⟩; have HB3 := Aside0.mk (below_step (below_drew hb.out) hb3); clear hb3)
      all_goals go_upto_if 55 with fail
      have HFREE := hfree
      have HIP : Aside0 (∀ k, i ≤ k → k ≤ p → k < i + 8 → (∀ k, k < 8 → rd l ((i + k : Nat) : Int) ≠ 39 ∧ rd l ((i + k : Nat) : Int) ≠ 92) → k < p) := ⟨fun k h1 h2 h3 h4 => by
        by_cases e : k = p
        · subst e
          have h5 := (h4 (k - i) (by omega)).1
          rw [show i + (k - i) = k by omega] at h5
          exact absurd HE.out.at_ h5
        · omega⟩
      refine wp_cond_split rfl ?_ ?_
      · intro h55
        have hno := no_hit HBY.out i 39 (by decide) h55
        have h8 : i + 8 ≤ p := by
          refine Nat.le_of_not_lt fun hlt => ?_
          have := HIP.out p HPI.out (Nat.le_refl _) hlt hno
          omega
        have HNO := Aside0.mk hno; have H8 := Aside0.mk h8; clear hno h8 h55
        go_wp2
        refine Handed.intro (p - (i + 8)) (by have := HK.out; have := H8.out; omega) (hJ2 _ _ _ ?_)
        refine ⟨i + 8, by have := H8.out; omega, ⟨rfl, rfl, rfl, rfl, rfl, rfl, rfl⟩, by first | rfl | (simp; done) | (push_cast; rfl), ⟨fun j hj => ?_⟩, HB3⟩
        by_cases hji : j < i
        · exact hfree.out j hji
        · have := HNO.out (j - i) (by omega)
          rwa [show i + (j - i) = j by omega] at this
      · intro h55
        clear h55
        go_wp2
        exact Met.intro (hJ1 _ _ ⟨i, HPI.out, ⟨rfl, rfl, rfl, rfl, rfl, rfl, rfl⟩, rfl, hfree, HB3⟩)
    · have q8 : ((i : Int) + 8 ≤ (l.length : Int)) = False := eq_false (by omega)
      go_wp2
      exact Met.intro (hJ1 _ _ ⟨i, HPI.out, ⟨rfl, rfl, rfl, rfl, rfl, rfl, rfl⟩, rfl, hfree, hb⟩)
  · rintro a3 w3 ⟨i0, hip0, hfr, h10, hfree0, hb3⟩
    have HIP0 := Aside0.mk hip0; clear hip0 HB1
    obtain ⟨f2, hf, ha⟩ := strEnd39.frame_lit a3 hfr.size hfr.defers
    have e1_ := (hf 1).trans hfr.e1
    have e2_ := (hf 2).trans hfr.e2
    have e8_ := (hf 8).trans hfr.e8
    have e9_ := (hf 9).trans hfr.e9
    have e11_ := (hf 11).trans hfr.e11
    have e10_ := (hf 10).trans h10
    rw [e1_, e2_, e8_, e9_, e11_, e10_] at ha
    subst ha
    clear hf e1_ e2_ e8_ e9_ e11_ e10_ hfr h10
    go_wp2
    refine wp_loop_ghost_k (fun kq a' w' => ∃ i : Nat, i + kq = p ∧ strEnd39.Fr (.slice (some ⟨g, o, none⟩) l.length c) (.int .u8 39) (.int .u64 2821266740684990247) (.int .u64 6655295901103053916) (.int .i64 (l.length : Int)) a' ∧ a'.tmps.getD 10 undef = .int .i64 (i : Int) ∧ a'.tmps.getD 17 undef = .bool (StrEnd.bsl l i) ∧ w' = w3) (p - i0) ?_ ?_
    · exact ⟨i0, by have := HIP0.out; omega, ⟨rfl, rfl, rfl, rfl, rfl, rfl, rfl⟩, rfl, by rw [StrEnd.bsl_of_free i0 fun j hj => (hfree0.out j hj).2]; rfl, rfl⟩
    rintro n a4 w4 ⟨i, hk, hfr, h10, h17, rfl⟩ J4 K4 hJ4 hK4
    obtain ⟨f3, hf, ha⟩ := strEnd39.frame_lit a4 hfr.size hfr.defers
    have e1_ := (hf 1).trans hfr.e1
    have e2_ := (hf 2).trans hfr.e2
    have e8_ := (hf 8).trans hfr.e8
    have e9_ := (hf 9).trans hfr.e9
    have e11_ := (hf 11).trans hfr.e11
    have e10_ := (hf 10).trans h10
    have e17_ := (hf 17).trans h17
    rw [e1_, e2_, e8_, e9_, e11_, e10_, e17_] at ha
    subst ha
    clear hf e1_ e2_ e8_ e9_ e11_ e10_ e17_ hfr h10 h17
    have HK := Aside0.mk hk
    have hil : i < l.length := by have := HPL.out; omega
    have hx : w4.cell? ⟨g, o + i, none⟩ = some (.int .u8 (rd l (i : Int))) := HROW.out.below hb3.out i hil
    have q1 : ((i : Int) < (l.length : Int)) = True := eq_true (by omega)
    have q1n : (i < l.length) = True := eq_true hil
    have hw1 : wrap64 ((i : Int) + 1) = (i : Int) + 1 := by unfold wrap64; omega
    have hbd : (i : Int) ≤ 1000000 := by omega
    clear hk hil
    have hrg := StrEnd.rd_range HBY.out (i : Int)
    by_cases c92 : rd l (i : Int) > 92
    · have b1 : (rd l (i : Int) > 92) = True := eq_true c92
      have b1' : (92 < rd l (i : Int)) = True := eq_true c92
      have HN : Aside0 (rd l (i : Int) ≠ 39) := ⟨by omega⟩
      have HB : Aside0 (StrEnd.bsl l (i + 1) = StrEnd.bsl l i) := ⟨by rw [StrEnd.bsl, beq_eq_false_iff_ne.mpr (show rd l (i : Int) ≠ 92 by omega)]; rfl⟩
      clear c92 hrg
      go_wp2
      have hnp : i ≠ p := by rintro rfl; exact absurd HE.out.at_ HN.out
      have HNP := Aside0.mk hnp; clear hnp
      refine Handed.intro (p - (i + 1)) (by have := HK.out; have := HNP.out; omega) (hJ4 _ _ _ ?_)
      exact ⟨i + 1, by have := HK.out; have := HNP.out; omega, ⟨rfl, rfl, rfl, rfl, rfl, rfl, rfl⟩, by first | rfl | (simp; done) | (push_cast; rfl), by rw [HB.out]; rfl, rfl⟩
    · have b1 : (rd l (i : Int) > 92) = False := eq_false c92
      have b1' : (92 < rd l (i : Int)) = False := eq_false c92
      by_cases cq : rd l (i : Int) = 39
      · rw [cq] at hx
        have HQ := Aside0.mk cq
        clear c92 cq b1 b1' hrg
        cases hbs : StrEnd.bsl l i
        · have hip : i = p := HE.out.le_of (by have := HK.out; omega) HQ.out (StrEnd.escd_free i (StrEnd.bsl_free hbs))
          have HIPE := Aside0.mk hip; clear hip
          have HBS := Aside0.mk hbs
          go_wp2
          go_ret2
          exact ⟨by rw [← HIPE.out, HBS.out]; first | rfl | (simp; done), hb3.out⟩
        · go_wp2
          have HBS := Aside0.mk hbs; clear hx
          refine wp_cut_block2 (fun a' w' => StrEnd.escd l i = true ∧ strEnd39.Fr (.slice (some ⟨g, o, none⟩) l.length c) (.int .u8 39) (.int .u64 2821266740684990247) (.int .u64 6655295901103053916) (.int .i64 (l.length : Int)) a' ∧ a'.tmps.getD 10 undef = .int .i64 (i : Int) ∧ a'.tmps.getD 17 undef = .bool (StrEnd.bsl l i) ∧ w' = w4) ?_ ?_
          · rintro a5 w5 ⟨he, hfr, h10, h17, rfl⟩
            have HES := Aside0.mk he; clear he
            obtain ⟨f4, hf, ha⟩ := strEnd39.frame_lit a5 hfr.size hfr.defers
            have e1_ := (hf 1).trans hfr.e1
            have e2_ := (hf 2).trans hfr.e2
            have e8_ := (hf 8).trans hfr.e8
            have e9_ := (hf 9).trans hfr.e9
            have e11_ := (hf 11).trans hfr.e11
            have e10_ := (hf 10).trans h10
            have e17_ := (hf 17).trans h17
            rw [e1_, e2_, e8_, e9_, e11_, e10_, e17_] at ha
            subst ha
            clear hf e1_ e2_ e8_ e9_ e11_ e10_ e17_ hfr h10 h17
            go_wp2
            have hnp : i ≠ p := by rintro rfl; have := HE.out.even; rw [HES.out] at this; cases this
            refine Handed.intro (p - (i + 1)) (by have := HK.out; omega) (hJ4 _ _ _ ?_)
            exact ⟨i + 1, by have := HK.out; omega, ⟨rfl, rfl, rfl, rfl, rfl, rfl, rfl⟩, by first | rfl | (simp; done) | (push_cast; rfl), by rw [StrEnd.bsl, HBS.out]; simp, rfl⟩
          · intro J5 K5 hJ5 hK5
            refine wp_loop_ghost_k (fun kq a' w' => ∃ jv : Int, Aside0 (∃ m : Nat, m ≤ kq ∧ m ≤ i ∧ StrEnd.escd l m = StrEnd.escd l i ∧ jv + 1 = m) ∧ strEnd39.Fr (.slice (some ⟨g, o, none⟩) l.length c) (.int .u8 39) (.int .u64 2821266740684990247) (.int .u64 6655295901103053916) (.int .i64 (l.length : Int)) a' ∧ a'.tmps.getD 10 undef = .int .i64 (i : Int) ∧ a'.tmps.getD 17 undef = .bool (StrEnd.bsl l i) ∧ a'.tmps.getD 19 undef = .int .i64 jv ∧ w' = w4) i ?_ ?_
            · exact ⟨(i : Int) - 1, ⟨i, Nat.le_refl _, Nat.le_refl _, rfl, by omega⟩, ⟨rfl, rfl, rfl, rfl, rfl, rfl, rfl⟩, rfl, by first | rfl | (simp [hbs]; done) | (rw [HBS.out]), rfl, rfl⟩
            rintro n5 a5 w5 ⟨jv, hm, hfr, h10, h17, h19, rfl⟩ J6 K6 hJ6 hK6
            obtain ⟨f5, hf, ha⟩ := strEnd39.frame_lit a5 hfr.size hfr.defers
            have e1_ := (hf 1).trans hfr.e1
            have e2_ := (hf 2).trans hfr.e2
            have e8_ := (hf 8).trans hfr.e8
            have e9_ := (hf 9).trans hfr.e9
            have e11_ := (hf 11).trans hfr.e11
            have e10_ := (hf 10).trans h10
            have e17_ := (hf 17).trans h17
            have e19_ := (hf 19).trans h19
            rw [e1_, e2_, e8_, e9_, e11_, e10_, e17_, e19_] at ha
            subst ha
            clear hf e1_ e2_ e8_ e9_ e11_ e10_ e17_ e19_ hfr h10 h17 h19
            have RETP : Aside0 (∀ m : Nat, StrEnd.escd l m = StrEnd.escd l i → StrEnd.escd l m = false → i = p) := ⟨fun m h1 h2 => HE.out.le_of (by have := HK.out; omega) HQ.out (by rw [← h1]; exact h2)⟩
            by_cases hj : jv < 0
            · have HIPE : Aside0 (i = p) := by
                obtain ⟨m, h1, h2, h3, h4⟩ := hm.out
                obtain rfl : m = 0 := by omega
                exact ⟨RETP.out 0 h3 rfl⟩
              go_wp2
              go_ret2
              exact ⟨by rw [← HIPE.out, HBS.out]; first | rfl | (simp; done), hb3.out⟩
            · obtain ⟨jn, rfl⟩ : ∃ jn : Nat, jv = (jn : Int) := ⟨jv.toNat, by omega⟩
              have HM : Aside0 (jn + 1 ≤ n5 ∧ jn + 1 ≤ i ∧ StrEnd.escd l (jn + 1) = StrEnd.escd l i) := by
                obtain ⟨m, h1, h2, h3, h4⟩ := hm.out
                obtain rfl : m = jn + 1 := by omega
                exact ⟨h1, h2, h3⟩
              clear hm
              have hml : jn < l.length := by have := HM.out.2.1; have := HPL.out; have := HK.out; omega
              have hy : w5.cell? ⟨g, o + jn, none⟩ = some (.int .u8 (rd l (jn : Int))) := HROW.out.below hb3.out jn hml
              have q2 : ((jn : Int) < (l.length : Int)) = True := eq_true (by omega)
              have q2n : (jn < l.length) = True := eq_true hml
              have hbd2 : (jn : Int) ≤ 1000000 := by omega
              by_cases d1 : rd l (jn : Int) = 92
              · have HE1 : Aside0 (StrEnd.escd l (jn + 1) = !StrEnd.escd l jn) := ⟨StrEnd.escd_yes d1⟩
                rw [d1] at hy; clear d1
                by_cases hz : jn = 0
                · subst hz
                  have hy0 : w5.cell? ⟨g, o, none⟩ = some (.int .u8 92) := hy
                  have HODD : Aside0 (StrEnd.escd l i = true) := ⟨by rw [← HM.out.2.2, HE1.out]; rfl⟩
                  clear hj hy
                  go_wp2
                  exact Met.intro (hJ5 _ _ ⟨HODD.out, ⟨rfl, rfl, rfl, rfl, rfl, rfl, rfl⟩, rfl, by first | rfl | (simp [hbs]; done) | (rw [HBS.out]; rfl), rfl⟩)
                · obtain ⟨kn, hkn⟩ : ∃ kn : Nat, jn = kn + 1 := ⟨jn - 1, by omega⟩
                  have em : (jn : Int) - 1 = (kn : Int) := by omega
                  have hml2 : kn < l.length := by omega
                  have hy2 : w5.cell? ⟨g, o + kn, none⟩ = some (.int .u8 (rd l (kn : Int))) := HROW.out.below hb3.out kn hml2
                  have q4 : ((kn : Int) < (l.length : Int)) = True := eq_true (by omega)
                  have q4n : (kn < l.length) = True := eq_true hml2
                  have hbd3 : (kn : Int) ≤ 1000000 := by omega
                  have HKN := Aside0.mk hkn; clear hkn hz
                  by_cases d2 : rd l (kn : Int) = 92
                  · have HEV : Aside0 (StrEnd.escd l kn = StrEnd.escd l i) := ⟨by rw [← HM.out.2.2, HE1.out, HKN.out, StrEnd.escd_yes d2, Bool.not_not]⟩
                    rw [d2] at hy2; clear d2
                    go_wp2
                    refine Handed.intro kn (by have := HM.out.1; have := HKN.out; omega) (hJ6 _ _ _ ?_)
                    exact ⟨(kn : Int) - 1, ⟨kn, Nat.le_refl _, by have := HM.out.2.1; have := HKN.out; omega, HEV.out, by omega⟩, ⟨rfl, rfl, rfl, rfl, rfl, rfl, rfl⟩, rfl, by first | rfl | (simp [hbs]; done) | (rw [HBS.out]; rfl), rfl, rfl⟩
                  · have bd2 : (rd l (kn : Int) == 92) = false := beq_eq_false_iff_ne.mpr d2
                    have bd2n : (rd l (kn : Int) != 92) = true := by rw [bne, bd2]; rfl
                    have HODD : Aside0 (StrEnd.escd l i = true) := ⟨by rw [← HM.out.2.2, HE1.out, HKN.out, StrEnd.escd_not d2]; rfl⟩
                    clear d2
                    go_wp2
                    exact Met.intro (hJ5 _ _ ⟨HODD.out, ⟨rfl, rfl, rfl, rfl, rfl, rfl, rfl⟩, rfl, by first | rfl | (simp [hbs]; done) | (rw [HBS.out]; rfl), rfl⟩)
              · have bd1 : (rd l (jn : Int) == 92) = false := beq_eq_false_iff_ne.mpr d1
                have bd1n : (rd l (jn : Int) != 92) = true := by rw [bne, bd1]; rfl
                have HIPE : Aside0 (i = p) := ⟨RETP.out _ HM.out.2.2 (StrEnd.escd_not d1)⟩
                clear d1
                go_wp2
                go_ret2
                exact ⟨by rw [← HIPE.out, HBS.out]; first | rfl | (simp; done), hb3.out⟩
      · have bq : (rd l (i : Int) == 39) = false := beq_eq_false_iff_ne.mpr cq
        have HN := Aside0.mk cq; clear cq hrg
        by_cases ce : rd l (i : Int) = 92
        · have be : (rd l (i : Int) == 92) = true := beq_iff_eq.mpr ce
          have HB : Aside0 (StrEnd.bsl l (i + 1) = true) := ⟨by rw [StrEnd.bsl, be]; rfl⟩
          clear ce c92
          go_wp2
          have hnp : i ≠ p := by rintro rfl; exact absurd HE.out.at_ HN.out
          have HNP := Aside0.mk hnp; clear hnp
          refine Handed.intro (p - (i + 1)) (by have := HK.out; have := HNP.out; omega) (hJ4 _ _ _ ?_)
          exact ⟨i + 1, by have := HK.out; have := HNP.out; omega, ⟨rfl, rfl, rfl, rfl, rfl, rfl, rfl⟩, by first | rfl | (simp; done) | (push_cast; rfl), by rw [HB.out]; rfl, rfl⟩
        · have be : (rd l (i : Int) == 92) = false := beq_eq_false_iff_ne.mpr ce
          have HB : Aside0 (StrEnd.bsl l (i + 1) = StrEnd.bsl l i) := ⟨by rw [StrEnd.bsl, be]; rfl⟩
          clear ce c92
          go_wp2
          have hnp : i ≠ p := by rintro rfl; exact absurd HE.out.at_ HN.out
          have HNP := Aside0.mk hnp; clear hnp
          refine Handed.intro (p - (i + 1)) (by have := HK.out; have := HNP.out; omega) (hJ4 _ _ _ ?_)
          exact ⟨i + 1, by have := HK.out; have := HNP.out; omega, ⟨rfl, rfl, rfl, rfl, rfl, rfl, rfl⟩, by first | rfl | (simp; done) | (push_cast; rfl), by rw [HB.out]; rfl, rfl⟩
end Go.Proofs.YtlpcjgjphkdnbaaDoor.XFnJpConfigQuote
