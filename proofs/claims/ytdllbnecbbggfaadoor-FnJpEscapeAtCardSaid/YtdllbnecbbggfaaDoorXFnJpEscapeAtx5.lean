-- Written by xprint.py of this session (a program that runs the kit's print and adds to it); Lean checks it.
import Derived.Test.YtdllbnecbbggfaaDoorXFnJpEscapeAtx0
import Derived.Test.YtdllbnecbbggfaaDoorXFnJpEscapeAtx4
namespace Go.Proofs.YtdllbnecbbggfaaDoor.XFnJpEscapeAt
open Go.RowKit Go.Proofs.YtdllbnecbbggfaaDoorW.PrintWords Go.Proofs.YtdllbnecbbggfaaDoorW.PrintLast Go.Proofs.YtdllbnecbbggfaaDoorW.PrintMore
attribute [local go_sem] max2_int min2_int max_two min_two max_three min_three max_four min_four   -- for this text's walks alone
set_option linter.unusedVariables false
set_option linter.unusedSimpArgs false

--EXT
/-! ### jsonparser_DoorEscapeAt: function 32 (by hand) -/
def jsonparser_DoorEscapeAt.tab (e : Int) : Option Int := if e = 34 then some 34 else if e = 92 then some 92 else if e = 47 then some 47 else if e = 98 then some 8 else if e = 102 then some 12 else if e = 110 then some 10 else if e = 114 then some 13 else if e = 116 then some 9 else none
theorem jsonparser_DoorEscapeAt.tab_some {e c : Int} (h : jsonparser_DoorEscapeAt.tab e = some c) :
    (e = 34 ∧ c = 34) ∨ (e = 92 ∧ c = 92) ∨ (e = 47 ∧ c = 47) ∨ (e = 98 ∧ c = 8) ∨ (e = 102 ∧ c = 12) ∨ (e = 110 ∧ c = 10) ∨ (e = 114 ∧ c = 13) ∨ (e = 116 ∧ c = 9) := by
  unfold jsonparser_DoorEscapeAt.tab at h
  repeat' split at h
  all_goals first
    | (cases h; done)
    | (obtain rfl := Option.some.inj h; omega)
theorem jsonparser_DoorEscapeAt.tab_none {e : Int} (h : jsonparser_DoorEscapeAt.tab e = none) :
    e ≠ 34 ∧ e ≠ 92 ∧ e ≠ 47 ∧ e ≠ 98 ∧ e ≠ 102 ∧ e ≠ 110 ∧ e ≠ 114 ∧ e ≠ 116 := by
  unfold jsonparser_DoorEscapeAt.tab at h
  repeat' split at h
  all_goals first
    | (cases h; done)
    | omega
/-- What the reader of one escape says of a text: the bytes read, and the bytes that they stand for; none: an error. -/
def jsonparser_DoorEscapeAt.g (k : Nat) (l : List Int) : Option (Int × Option (List Int)) :=
  if (l.length : Int) < 2 then some (-1, none) else if ¬ rd l 0 = 92 then some (-1, none) else
  match jsonparser_DoorEscapeAt.tab (rd l 1) with
  | some c => some (2, some [c])
  | none => if rd l 1 = 117 then ((jsonparser_decodeUnicodeEscape.f k l).bind fun t => if t.2 = -1 then some (-1, none) else if -2147483648 ≤ t.1 ∧ t.1 ≤ 2147483647 then some (t.2, some (Lib.encodeRuneZ t.1)) else none) else some (-1, none)
def jsonparser_DoorEscapeAt.out (o : Option (List Int)) : Int := match o with | none => -1 | some l => l.length
structure jsonparser_DoorEscapeAt.Wrote (B : Nat) (w w' : World) (g : Nat) (xs : List Int) : Prop where
  below : Below B w w'
  cells : ∀ j, j < xs.length → w'.cell? ⟨g, j, none⟩ = some (.int .u8 (xs.getD j 0))
theorem jsonparser_DoorEscapeAt.rune_le (r : Int) : (Lib.encodeRuneZ r).length ≤ 4 := by
  unfold Lib.encodeRuneZ
  repeat' split
  all_goals simp
theorem jsonparser_DoorEscapeAt.below_setCells {B b : Nat} {a : World} (hb : B ≤ b) : ∀ (vs : List Value) (o : Nat) (w : World), Below B a w → Below B a (w.setCells b o vs)
  | [], _, _, h => h
  | v :: r, o, w, h => jsonparser_DoorEscapeAt.below_setCells hb r (o + 1) _ (h.setCell hb v)
set_option maxHeartbeats 4000000 in
set_option maxRecDepth 100000 in
theorem jsonparser_DoorEscapeAt.config_calls (k : Nat) (A0 : Option Addr) (c0 : Nat) (l0 : List Int) (g B : Nat) (n : Int) (o : Option (List Int)) (w : World) (hr0 : Kd.C (Kd.int .u8) w A0 l0.length l0) (hc0 : l0.length ≤ c0)
    (hBg : B ≤ g) (hBw : B ≤ w.heap.size) (hgw : g < w.heap.size) (h8 : ∀ j, j < 8 → (w.cell? ⟨g, j, none⟩).isSome = true ∧ w.frozen? ⟨g, j, none⟩ = false) (hG : Glob w) (h : jsonparser_DoorEscapeAt.g k l0 = some (n, o)) :
    Calls Tryd.prog 70 #[.agg #[.bool false, .bool false, .int .i64 0], .slice A0 l0.length c0, .slice (some ⟨g, 0, none⟩) 8 8] w fun e w' => e = .returned (.tuple #[.int .i64 n, .int .i64 (jsonparser_DoorEscapeAt.out o)]) ∧ jsonparser_DoorEscapeAt.Wrote B w w' g (o.getD []) := by
  unfold jsonparser_DoorEscapeAt.g at h
  have HR := Aside0.mk hr0
  have HG := Aside0.mk hG
  have H8 := Aside0.mk h8
  have HBG := Aside0.mk hBg
  have HBW := Aside0.mk hBw
  have HGW := Aside0.mk hgw
  clear hr0 hG h8 hBg hBw hgw
  by_cases c1 : (l0.length : Int) < 2
  · rw [if_pos c1] at h
    simp only [Option.some.injEq, Prod.mk.injEq] at h
    obtain ⟨rfl, rfl⟩ := h
    go_enter Tryd.func70, Tryd.ntmps70
    go_wp2
    go_ret2
    exact ⟨rfl, ⟨XWords.below_alloc0 HBW.out (Below.refl _ _) _, fun j hj => by simp at hj⟩⟩
  · rw [if_neg c1] at h
    have HL := Aside0.mk c1
    have hlb : decide ((l0.length : Int) < 2) = false := decide_eq_false c1
    have hln : decide (l0.length < 2) = false := decide_eq_false (by omega)
    obtain ⟨ad, e1, hx0⟩ := Kd.at_int HR.out 0 (by omega) (by omega)
    obtain ⟨ad2, e2, hx1⟩ := Kd.at_int HR.out 1 (by omega) (by omega)
    subst e1
    obtain rfl : ad = ad2 := (by injection e2)
    clear e2
    have p0 : ((0 : Int) < (l0.length : Int)) = True := eq_true (by omega)
    have p1 : ((1 : Int) < (l0.length : Int)) = True := eq_true (by omega)
    have p0n : (0 < l0.length) = True := eq_true (by omega)
    have p1n : (1 < l0.length) = True := eq_true (by omega)
    by_cases c2 : rd l0 0 = 92
    · rw [if_neg (by simpa using c2)] at h
      rw [c2] at hx0
      have Q0 : (w.alloc (.cells #[.bool false, .bool false, .int .i64 0] 95)).cell? ad = some (.int .u8 92) := pw_cell_below (XWords.below_alloc0 (Nat.le_refl _) (Below.refl _ _) _) hx0
      have Q1 : (w.alloc (.cells #[.bool false, .bool false, .int .i64 0] 95)).cell? ⟨ad.block, ad.off + 1, none⟩ = some (.int .u8 (rd l0 1)) := pw_cell_below (XWords.below_alloc0 (Nat.le_refl _) (Below.refl _ _) _) hx1
      obtain ⟨v0, G0⟩ := Option.isSome_iff_exists.mp (H8.out 0 (by omega)).1
      have S0 : (w.alloc (.cells #[.bool false, .bool false, .int .i64 0] 95)).cell? ⟨g, 0, none⟩ = some v0 := (World.cell?_alloc_lt w _ _ HGW.out).trans G0
      have F0 : (w.alloc (.cells #[.bool false, .bool false, .int .i64 0] 95)).frozen? ⟨g, 0, none⟩ = false := (World.frozen?_alloc_past _ _ _ HGW.out).trans (H8.out 0 (by omega)).2
      cases htab : jsonparser_DoorEscapeAt.tab (rd l0 1) with
      | some c =>
        rw [htab] at h
        simp only [Option.some.injEq, Prod.mk.injEq] at h
        obtain ⟨rfl, rfl⟩ := h
        have QT := fun p hp => pw_cell_below (XWords.below_alloc0 (Nat.le_refl _) (Below.refl _ _) (.cells #[.bool false, .bool false, .int .i64 0] 95)) (HG.out.tab p hp)
        rcases jsonparser_DoorEscapeAt.tab_some htab with ⟨e, rfl⟩ | ⟨e, rfl⟩ | ⟨e, rfl⟩ | ⟨e, rfl⟩ | ⟨e, rfl⟩ | ⟨e, rfl⟩ | ⟨e, rfl⟩ | ⟨e, rfl⟩
        · rw [e] at Q1
          have QT := QT (34, 34) (by simp [escPairs])
          simp only at QT
          go_enter Tryd.func70, Tryd.ntmps70
          go_wp2
          go_ret2
          exact ⟨rfl, ⟨(XWords.below_alloc0 HBW.out (Below.refl _ _) _).setCell HBG.out _, fun j hj => (by obtain rfl : j = 0 := (by simp at hj; exact hj); exact World.cell?_setCell_same _ _ _ S0)⟩⟩
        · rw [e] at Q1
          have QT := QT (92, 92) (by simp [escPairs])
          simp only at QT
          go_enter Tryd.func70, Tryd.ntmps70
          go_wp2
          go_ret2
          exact ⟨rfl, ⟨(XWords.below_alloc0 HBW.out (Below.refl _ _) _).setCell HBG.out _, fun j hj => (by obtain rfl : j = 0 := (by simp at hj; exact hj); exact World.cell?_setCell_same _ _ _ S0)⟩⟩
        · rw [e] at Q1
          have QT := QT (47, 47) (by simp [escPairs])
          simp only at QT
          go_enter Tryd.func70, Tryd.ntmps70
          go_wp2
          go_ret2
          exact ⟨rfl, ⟨(XWords.below_alloc0 HBW.out (Below.refl _ _) _).setCell HBG.out _, fun j hj => (by obtain rfl : j = 0 := (by simp at hj; exact hj); exact World.cell?_setCell_same _ _ _ S0)⟩⟩
        · rw [e] at Q1
          have QT := QT (98, 8) (by simp [escPairs])
          simp only at QT
          go_enter Tryd.func70, Tryd.ntmps70
          go_wp2
          go_ret2
          exact ⟨rfl, ⟨(XWords.below_alloc0 HBW.out (Below.refl _ _) _).setCell HBG.out _, fun j hj => (by obtain rfl : j = 0 := (by simp at hj; exact hj); exact World.cell?_setCell_same _ _ _ S0)⟩⟩
        · rw [e] at Q1
          have QT := QT (102, 12) (by simp [escPairs])
          simp only at QT
          go_enter Tryd.func70, Tryd.ntmps70
          go_wp2
          go_ret2
          exact ⟨rfl, ⟨(XWords.below_alloc0 HBW.out (Below.refl _ _) _).setCell HBG.out _, fun j hj => (by obtain rfl : j = 0 := (by simp at hj; exact hj); exact World.cell?_setCell_same _ _ _ S0)⟩⟩
        · rw [e] at Q1
          have QT := QT (110, 10) (by simp [escPairs])
          simp only at QT
          go_enter Tryd.func70, Tryd.ntmps70
          go_wp2
          go_ret2
          exact ⟨rfl, ⟨(XWords.below_alloc0 HBW.out (Below.refl _ _) _).setCell HBG.out _, fun j hj => (by obtain rfl : j = 0 := (by simp at hj; exact hj); exact World.cell?_setCell_same _ _ _ S0)⟩⟩
        · rw [e] at Q1
          have QT := QT (114, 13) (by simp [escPairs])
          simp only at QT
          go_enter Tryd.func70, Tryd.ntmps70
          go_wp2
          go_ret2
          exact ⟨rfl, ⟨(XWords.below_alloc0 HBW.out (Below.refl _ _) _).setCell HBG.out _, fun j hj => (by obtain rfl : j = 0 := (by simp at hj; exact hj); exact World.cell?_setCell_same _ _ _ S0)⟩⟩
        · rw [e] at Q1
          have QT := QT (116, 9) (by simp [escPairs])
          simp only at QT
          go_enter Tryd.func70, Tryd.ntmps70
          go_wp2
          go_ret2
          exact ⟨rfl, ⟨(XWords.below_alloc0 HBW.out (Below.refl _ _) _).setCell HBG.out _, fun j hj => (by obtain rfl : j = 0 := (by simp at hj; exact hj); exact World.cell?_setCell_same _ _ _ S0)⟩⟩
      | none =>
        rw [htab] at h
        obtain ⟨n1, n2, n3, n4, n5, n6, n7, n8⟩ := jsonparser_DoorEscapeAt.tab_none htab
        have QC0 : (w.alloc (.cells #[.bool false, .bool false, .int .i64 0] 95)).cell? ⟨w.heap.size, 0, none⟩ = some (.bool false) := World.cell?_alloc_new w _ _ 0
        have QC1 : (w.alloc (.cells #[.bool false, .bool false, .int .i64 0] 95)).cell? ⟨w.heap.size, 1, none⟩ = some (.bool false) := World.cell?_alloc_new w _ _ 1
        by_cases e39 : rd l0 1 = 39
        · rw [e39] at h Q1
          rw [if_neg (by decide)] at h
          simp only [Option.some.injEq, Prod.mk.injEq] at h
          obtain ⟨rfl, rfl⟩ := h
          go_enter Tryd.func70, Tryd.ntmps70
          go_wp2
          go_ret2
          exact ⟨rfl, ⟨XWords.below_alloc0 HBW.out (Below.refl _ _) _, fun j hj => by simp at hj⟩⟩
        · by_cases e117 : rd l0 1 = 117
          · rw [e117] at h Q1
            rw [if_pos rfl] at h
            obtain ⟨⟨r, n'⟩, hd, h⟩ := Option.bind_eq_some_iff.mp h
            have HCa : Kd.C (Kd.int .u8) (w.alloc (.cells #[.bool false, .bool false, .int .i64 0] 95)) (some ad) l0.length l0 := Kd.C_below (d := Kd.int .u8) HR.out (XWords.below_alloc0 (Nat.le_refl _) (Below.refl _ _) _)
            have hcall := jsonparser_decodeUnicodeEscape.calls k (some ad) c0 l0 r n' _ HCa hc0 hd
            have HCALL := Aside0.mk hcall
            clear hcall HCa
            by_cases em : n' = -1
            · subst em
              rw [if_pos rfl] at h
              simp only [Option.some.injEq, Prod.mk.injEq] at h
              obtain ⟨rfl, rfl⟩ := h
              go_enter Tryd.func70, Tryd.ntmps70
              go_wp2_with (first | ((with_reducible refine gate_callee (f := 84) rfl ?_); refine goesL_ _ rfl rfl Tryd.func84 (by kernel_rfl) rfl #[.slice (some ad) l0.length c0] rfl (by (try simp only [List.map_toArray, List.map_cons, List.map_nil]); first | done | rfl) ?_; (with_reducible refine HCALL.out.mono ?_); rintro e w' ⟨rfl, ⟨nd, rfl⟩⟩; refine ⟨_, rfl, ?_⟩))
              go_ret2
              exact ⟨rfl, ⟨(pw_below_drewN (XWords.below_alloc0 HBW.out (Below.refl _ _) _) _), fun j hj => by simp at hj⟩⟩
            · rw [if_neg em] at h
              have emb : (n' == -1) = false := beq_eq_false_iff_ne.mpr em
              by_cases hr : -2147483648 ≤ r ∧ r ≤ 2147483647
              · rw [if_pos hr] at h
                simp only [Option.some.injEq, Prod.mk.injEq] at h
                obtain ⟨rfl, rfl⟩ := h
                have hcells : ∀ j, j < (Lib.runeCells r).length → j < 8 := fun j hj => by
                  have := jsonparser_DoorEscapeAt.rune_le r
                  simp only [Lib.runeCells, List.length_map] at hj
                  omega
                have HENC0 : ∀ nd, Calls Tryd.prog 83 #[.slice (some ⟨g, 0, none⟩) 8 8, .int .i32 r] ((w.alloc (.cells #[.bool false, .bool false, .int .i64 0] 95)).drewN nd) _ := fun nd =>
                  encodeRune_calls g 0 8 8 r hr.1 hr.2 ((w.alloc (.cells #[.bool false, .bool false, .int .i64 0] 95)).drewN nd) (by have := jsonparser_DoorEscapeAt.rune_le r; simp only [Lib.runeCells, List.length_map]; omega)
                    (fun j hj => (by rw [Nat.zero_add]; exact (congrArg Option.isSome (World.cell?_alloc_lt w _ _ HGW.out)).trans (H8.out j (hcells j hj)).1))
                    (fun j hj => (by rw [Nat.zero_add]; exact (World.frozen?_alloc_past _ _ _ HGW.out).trans (H8.out j (hcells j hj)).2))
                have HENC := Aside0.mk HENC0
                clear HENC0
                go_enter Tryd.func70, Tryd.ntmps70
                go_wp2_with (first | ((with_reducible refine gate_callee (f := 84) rfl ?_); refine goesL_ _ rfl rfl Tryd.func84 (by kernel_rfl) rfl #[.slice (some ad) l0.length c0] rfl (by (try simp only [List.map_toArray, List.map_cons, List.map_nil]); first | done | rfl) ?_; (with_reducible refine HCALL.out.mono ?_); rintro e w' ⟨rfl, ⟨nd, rfl⟩⟩; refine ⟨_, rfl, ?_⟩) | ((with_reducible refine gate_callee (f := 83) rfl ?_); refine goesL_ _ rfl rfl Tryd.func83 (by kernel_rfl) rfl #[.slice (some ⟨g, 0, none⟩) 8 8, .int .i32 r] rfl (by (try simp only [List.map_toArray, List.map_cons, List.map_nil]); first | done | rfl) ?_; (with_reducible refine (HENC.out nd).mono ?_); rintro e w' ⟨rfl, rfl⟩; refine ⟨_, rfl, ?_⟩))
                go_ret2
                refine ⟨?_, ⟨?_, ?_⟩⟩
                · refine congrArg Ending.returned ?_
                  show Value.tuple #[.int .i64 n', .int .i64 (Lib.runeCells r).length] = _
                  rw [show (Lib.runeCells r).length = (Lib.encodeRuneZ r).length from List.length_map _]
                  rfl
                · exact jsonparser_DoorEscapeAt.below_setCells HBG.out _ _ _ ((pw_below_drewN (XWords.below_alloc0 HBW.out (Below.refl _ _) _) _))
                · intro j hj
                  have hj' : j < (Lib.runeCells r).length := by simpa [Lib.runeCells] using hj
                  have hh := World.cell?_setCells_in g (Lib.runeCells r) 0 ((w.alloc (.cells #[.bool false, .bool false, .int .i64 0] 95)).drewN nd) (fun j hj => (by rw [Nat.zero_add]; exact (congrArg Option.isSome (World.cell?_alloc_lt w _ _ HGW.out)).trans (H8.out j (hcells j hj)).1)) j hj'
                  rw [Nat.zero_add] at hh
                  rw [hh]
                  simp only [Lib.runeCells, List.getElem_map, Option.getD_some]
                  have hj2 : j < (Lib.encodeRuneZ r).length := hj
                  simp only [List.getD, List.getElem?_eq_getElem hj2, Option.getD_some]
              · rw [if_neg hr] at h
                cases h
          · rw [if_neg e117] at h
            simp only [Option.some.injEq, Prod.mk.injEq] at h
            obtain ⟨rfl, rfl⟩ := h
            have m1 := beq_eq_false_iff_ne.mpr n1
            have m2 := beq_eq_false_iff_ne.mpr n2
            have m3 := beq_eq_false_iff_ne.mpr n3
            have m4 := beq_eq_false_iff_ne.mpr n4
            have m5 := beq_eq_false_iff_ne.mpr n5
            have m6 := beq_eq_false_iff_ne.mpr n6
            have m7 := beq_eq_false_iff_ne.mpr n7
            have m8 := beq_eq_false_iff_ne.mpr n8
            have m9 := beq_eq_false_iff_ne.mpr e39
            have m10 := beq_eq_false_iff_ne.mpr e117
            go_enter Tryd.func70, Tryd.ntmps70
            go_wp2
            go_ret2
            exact ⟨rfl, ⟨XWords.below_alloc0 HBW.out (Below.refl _ _) _, fun j hj => by simp at hj⟩⟩
    · rw [if_pos c2] at h
      simp only [Option.some.injEq, Prod.mk.injEq] at h
      obtain ⟨rfl, rfl⟩ := h
      have c2b : (rd l0 0 != 92) = true := bne_iff_ne.mpr c2
      have Q0 : (w.alloc (.cells #[.bool false, .bool false, .int .i64 0] 95)).cell? ad = some (.int .u8 (rd l0 0)) := pw_cell_below (XWords.below_alloc0 (Nat.le_refl _) (Below.refl _ _) _) hx0
      clear c1 c2
      go_enter Tryd.func70, Tryd.ntmps70
      go_wp2
      go_ret2
      exact ⟨rfl, ⟨XWords.below_alloc0 HBW.out (Below.refl _ _) _, fun j hj => by simp at hj⟩⟩
def jsonparser_DoorEscapeAt.f (k : Nat) (a0 : ByteArray) : Option (Int × ByteArray) := if a0.size ≤ 140737488351232 then ((jsonparser_DoorEscapeAt.g k (bytesOf a0)).bind fun t => (some (t.1, strOfNums (t.2.getD [])))) else (none)
theorem jsonparser_DoorEscapeAt.mono : ∀ a0 k, LeO (jsonparser_DoorEscapeAt.f k a0) (jsonparser_DoorEscapeAt.f (k + 1) a0) := by
  intro a0 k
  unfold jsonparser_DoorEscapeAt.f jsonparser_DoorEscapeAt.g
  refine LeO.ite (LeO.bind ?_ (fun _ => LeO.refl _)) (LeO.none _)
  refine LeO.ite (LeO.refl _) (LeO.ite (LeO.refl _) ?_)
  split
  · exact LeO.refl _
  · refine LeO.ite (LeO.bind (jsonparser_decodeUnicodeEscape.mono _ _) (fun _ => LeO.refl _)) (LeO.refl _)
theorem jsonparser_DoorEscapeAt.g_le {k : Nat} {l : List Int} {n : Int} {xs : List Int} (h : jsonparser_DoorEscapeAt.g k l = some (n, some xs)) : xs.length ≤ 4 := by
  unfold jsonparser_DoorEscapeAt.g at h
  split at h
  · simp at h
  · split at h
    · simp at h
    · split at h
      · simp only [Option.some.injEq, Prod.mk.injEq] at h
        obtain ⟨_, rfl⟩ := h
        simp
      · split at h
        · obtain ⟨t, _, h⟩ := Option.bind_eq_some_iff.mp h
          split at h
          · simp at h
          · split at h
            · simp only [Option.some.injEq, Prod.mk.injEq] at h
              obtain ⟨_, rfl⟩ := h
              exact jsonparser_DoorEscapeAt.rune_le _
            · cases h
        · simp at h
set_option maxHeartbeats 4000000 in
set_option maxRecDepth 100000 in
theorem jsonparser_DoorEscapeAt.calls (k : Nat) (a0 : ByteArray) (r1 : Int) (r2 : ByteArray) (w : World) (hG : Glob w) (h : jsonparser_DoorEscapeAt.f k a0 = some (r1, r2)) :
    Calls Tryd.prog 32 #[.string a0] w fun e w' => e = .returned (.tuple #[.int .i64 r1, .string r2]) ∧ Below w.heap.size w w' := by
  unfold jsonparser_DoorEscapeAt.f at h
  by_cases hs : a0.size ≤ 140737488351232
  · rw [if_pos hs] at h
    obtain ⟨⟨n, o⟩, ht, h2⟩ := Option.bind_eq_some_iff.mp h
    simp only [Option.some.injEq, Prod.mk.injEq] at h2
    obtain ⟨rfl, rfl⟩ := h2
    have HT := Aside0.mk ht
    clear ht h
    have kb := fun W => print_bytes (P := Tryd.prog) 9 42 5 Tryd.underlying9 Tryd.underlying42 Tryd.underlying5 a0 W
    have hsz : (w.alloc (.cells #[.int .u8 0, .int .u8 0, .int .u8 0, .int .u8 0, .int .u8 0, .int .u8 0, .int .u8 0, .int .u8 0] 66)).heap.size = w.heap.size + 1 := World.size_alloc _ _
    have hB0 : Below w.heap.size w (w.alloc (.cells #[.int .u8 0, .int .u8 0, .int .u8 0, .int .u8 0, .int .u8 0, .int .u8 0, .int .u8 0, .int .u8 0] 66)) := XWords.below_alloc0 (Nat.le_refl _) (Below.refl _ _) _
    have hBB : Below w.heap.size w (Lib.bytesWorld (w.alloc (.cells #[.int .u8 0, .int .u8 0, .int .u8 0, .int .u8 0, .int .u8 0, .int .u8 0, .int .u8 0, .int .u8 0] 66)) 5 a0) := bytes_below hB0 (by rw [hsz]; omega) 5 a0
    have hBc : ∀ j, j < 8 → (Lib.bytesWorld (w.alloc (.cells #[.int .u8 0, .int .u8 0, .int .u8 0, .int .u8 0, .int .u8 0, .int .u8 0, .int .u8 0, .int .u8 0] 66)) 5 a0).cell? ⟨w.heap.size, j, none⟩ = some (.int .u8 0) ∧ (Lib.bytesWorld (w.alloc (.cells #[.int .u8 0, .int .u8 0, .int .u8 0, .int .u8 0, .int .u8 0, .int .u8 0, .int .u8 0, .int .u8 0] 66)) 5 a0).frozen? ⟨w.heap.size, j, none⟩ = false := by
      intro j hj
      refine ⟨?_, ?_⟩
      · rw [Lib.bytesWorld_old (w.alloc (.cells #[.int .u8 0, .int .u8 0, .int .u8 0, .int .u8 0, .int .u8 0, .int .u8 0, .int .u8 0, .int .u8 0] 66)) 5 a0 ⟨w.heap.size, j, none⟩ (by rw [hsz]; exact Nat.lt_succ_self _), World.cell?_alloc_new]
        have : j = 0 ∨ j = 1 ∨ j = 2 ∨ j = 3 ∨ j = 4 ∨ j = 5 ∨ j = 6 ∨ j = 7 := by omega
        rcases this with rfl | rfl | rfl | rfl | rfl | rfl | rfl | rfl <;> rfl
      · have h1 := World.frozen?_alloc_new w #[.int .u8 0, .int .u8 0, .int .u8 0, .int .u8 0, .int .u8 0, .int .u8 0, .int .u8 0, .int .u8 0] 66 j
        have h2 := Lib.bytesWorld_at_old (w.alloc (.cells #[.int .u8 0, .int .u8 0, .int .u8 0, .int .u8 0, .int .u8 0, .int .u8 0, .int .u8 0, .int .u8 0] 66)) 5 a0 w.heap.size (by rw [hsz]; exact Nat.lt_succ_self _)
        simp only [World.frozen?] at h1 ⊢
        rw [h2]
        exact h1
    have g0 := pw_cell_below hBB hG.c0
    have g1 := pw_cell_below hBB hG.c1
    have g2 := pw_cell_below hBB hG.c2
    have hcfg := jsonparser_DoorEscapeAt.config_calls k (some ⟨w.heap.size + 1, 0, none⟩) (grownCap (w.alloc (.cells #[.int .u8 0, .int .u8 0, .int .u8 0, .int .u8 0, .int .u8 0, .int .u8 0, .int .u8 0, .int .u8 0] 66)) a0.size 0 5) (bytesOf a0) w.heap.size w.heap.size n o (Lib.bytesWorld (w.alloc (.cells #[.int .u8 0, .int .u8 0, .int .u8 0, .int .u8 0, .int .u8 0, .int .u8 0, .int .u8 0, .int .u8 0] 66)) 5 a0)
      (by have := Kd.C_of_reads (d := (0 : Int)) (h1 := fun _ => rfl) (bytes_reads (w.alloc (.cells #[.int .u8 0, .int .u8 0, .int .u8 0, .int .u8 0, .int .u8 0, .int .u8 0, .int .u8 0, .int .u8 0] 66)) 5 a0 (by omega)); rw [hsz] at this; rw [bytesOf_length]; exact this)
      (by rw [bytesOf_length]; exact grownCap_ge _ _ _ _) (Nat.le_refl _) (by rw [Lib.bytesWorld_size, hsz]; omega) (by rw [Lib.bytesWorld_size, hsz]; omega)
      (fun j hj => ⟨by rw [(hBc j hj).1]; rfl, (hBc j hj).2⟩) (hG.below hBB) HT.out
    have HCFG := Aside0.mk hcfg
    have HBC := Aside0.mk hBc
    have HBB := Aside0.mk hBB
    have HSZ := Aside0.mk hsz
    clear hcfg hBc hBB hB0 hG hsz
    go_enter Tryd.func32, Tryd.ntmps32
    go_wp2_with (first | (go_at_call 70; refine calls_of_args (args' := #[.agg #[.bool false, .bool false, .int .i64 0], .slice (some ⟨w.heap.size + 1, 0, none⟩) (bytesOf a0).length (grownCap (w.alloc (.cells #[.int .u8 0, .int .u8 0, .int .u8 0, .int .u8 0, .int .u8 0, .int .u8 0, .int .u8 0, .int .u8 0] 66)) a0.size 0 5), .slice (some ⟨w.heap.size, 0, none⟩) 8 8]) (by rw [bytesOf_length]) ?_; (with_reducible refine HCFG.out.mono ?_); rintro e w' ⟨rfl, hw'⟩) | go_in)
    have HW := Aside0.mk hw'
    clear hw'
    cases o with
    | none =>
      have hcv := fun W => run_convert_bytes_arg (P := Tryd.prog) W 42 5 Tryd.underlying42 Tryd.underlying5 w.heap.size 0 0 8 [] rfl (fun i hi => absurd hi (Nat.not_lt_zero _)) 9 Tryd.underlying9
      simp only [jsonparser_DoorEscapeAt.out]
      repeat (go_quiet (fail); try go_wp2)
      go_ret2
      first | exact ⟨rfl, HBB.out.trans HW.out.below⟩ | exact ⟨rfl, (HBB.out.trans HW.out.below).drew⟩ | exact ⟨rfl, pw_below_drewN (HBB.out.trans HW.out.below) _⟩
    | some xs =>
      have hle := jsonparser_DoorEscapeAt.g_le HT.out
      have hn : xs.length = 0 ∨ xs.length = 1 ∨ xs.length = 2 ∨ xs.length = 3 ∨ xs.length = 4 := by omega
      have hz := Aside0.mk hle
      clear hle
      rcases hn with hn | hn | hn | hn | hn
      · have hi : (xs.length : Int) = 0 := by omega
        have hcv := run_convert_bytes_arg (P := Tryd.prog) (w := w') 42 5 Tryd.underlying42 Tryd.underlying5 w.heap.size 0 0 8 xs hn (fun i hi => (by rw [Nat.zero_add]; exact HW.out.cells i (show i < xs.length by omega))) 9 Tryd.underlying9
        have hcv1 := run_convert_bytes_arg (P := Tryd.prog) (w := w'.drew) 42 5 Tryd.underlying42 Tryd.underlying5 w.heap.size 0 0 8 xs hn (fun i hi => (by rw [Nat.zero_add]; exact HW.out.cells i (show i < xs.length by omega))) 9 Tryd.underlying9
        have hcv2 := fun nd => run_convert_bytes_arg (P := Tryd.prog) (w := w'.drewN nd) 42 5 Tryd.underlying42 Tryd.underlying5 w.heap.size 0 0 8 xs hn (fun i hi => (by rw [Nat.zero_add]; exact HW.out.cells i (show i < xs.length by omega))) 9 Tryd.underlying9
        simp only [jsonparser_DoorEscapeAt.out, hi]
        clear hn hi
        repeat (go_quiet (fail); try go_wp2)
        go_ret2
        first | exact ⟨rfl, HBB.out.trans HW.out.below⟩ | exact ⟨rfl, (HBB.out.trans HW.out.below).drew⟩ | exact ⟨rfl, pw_below_drewN (HBB.out.trans HW.out.below) _⟩
      · have hi : (xs.length : Int) = 1 := by omega
        have hcv := run_convert_bytes_arg (P := Tryd.prog) (w := w') 42 5 Tryd.underlying42 Tryd.underlying5 w.heap.size 0 1 8 xs hn (fun i hi => (by rw [Nat.zero_add]; exact HW.out.cells i (show i < xs.length by omega))) 9 Tryd.underlying9
        have hcv1 := run_convert_bytes_arg (P := Tryd.prog) (w := w'.drew) 42 5 Tryd.underlying42 Tryd.underlying5 w.heap.size 0 1 8 xs hn (fun i hi => (by rw [Nat.zero_add]; exact HW.out.cells i (show i < xs.length by omega))) 9 Tryd.underlying9
        have hcv2 := fun nd => run_convert_bytes_arg (P := Tryd.prog) (w := w'.drewN nd) 42 5 Tryd.underlying42 Tryd.underlying5 w.heap.size 0 1 8 xs hn (fun i hi => (by rw [Nat.zero_add]; exact HW.out.cells i (show i < xs.length by omega))) 9 Tryd.underlying9
        simp only [jsonparser_DoorEscapeAt.out, hi]
        clear hn hi
        repeat (go_quiet (fail); try go_wp2)
        go_ret2
        first | exact ⟨rfl, HBB.out.trans HW.out.below⟩ | exact ⟨rfl, (HBB.out.trans HW.out.below).drew⟩ | exact ⟨rfl, pw_below_drewN (HBB.out.trans HW.out.below) _⟩
      · have hi : (xs.length : Int) = 2 := by omega
        have hcv := run_convert_bytes_arg (P := Tryd.prog) (w := w') 42 5 Tryd.underlying42 Tryd.underlying5 w.heap.size 0 2 8 xs hn (fun i hi => (by rw [Nat.zero_add]; exact HW.out.cells i (show i < xs.length by omega))) 9 Tryd.underlying9
        have hcv1 := run_convert_bytes_arg (P := Tryd.prog) (w := w'.drew) 42 5 Tryd.underlying42 Tryd.underlying5 w.heap.size 0 2 8 xs hn (fun i hi => (by rw [Nat.zero_add]; exact HW.out.cells i (show i < xs.length by omega))) 9 Tryd.underlying9
        have hcv2 := fun nd => run_convert_bytes_arg (P := Tryd.prog) (w := w'.drewN nd) 42 5 Tryd.underlying42 Tryd.underlying5 w.heap.size 0 2 8 xs hn (fun i hi => (by rw [Nat.zero_add]; exact HW.out.cells i (show i < xs.length by omega))) 9 Tryd.underlying9
        simp only [jsonparser_DoorEscapeAt.out, hi]
        clear hn hi
        repeat (go_quiet (fail); try go_wp2)
        go_ret2
        first | exact ⟨rfl, HBB.out.trans HW.out.below⟩ | exact ⟨rfl, (HBB.out.trans HW.out.below).drew⟩ | exact ⟨rfl, pw_below_drewN (HBB.out.trans HW.out.below) _⟩
      · have hi : (xs.length : Int) = 3 := by omega
        have hcv := run_convert_bytes_arg (P := Tryd.prog) (w := w') 42 5 Tryd.underlying42 Tryd.underlying5 w.heap.size 0 3 8 xs hn (fun i hi => (by rw [Nat.zero_add]; exact HW.out.cells i (show i < xs.length by omega))) 9 Tryd.underlying9
        have hcv1 := run_convert_bytes_arg (P := Tryd.prog) (w := w'.drew) 42 5 Tryd.underlying42 Tryd.underlying5 w.heap.size 0 3 8 xs hn (fun i hi => (by rw [Nat.zero_add]; exact HW.out.cells i (show i < xs.length by omega))) 9 Tryd.underlying9
        have hcv2 := fun nd => run_convert_bytes_arg (P := Tryd.prog) (w := w'.drewN nd) 42 5 Tryd.underlying42 Tryd.underlying5 w.heap.size 0 3 8 xs hn (fun i hi => (by rw [Nat.zero_add]; exact HW.out.cells i (show i < xs.length by omega))) 9 Tryd.underlying9
        simp only [jsonparser_DoorEscapeAt.out, hi]
        clear hn hi
        repeat (go_quiet (fail); try go_wp2)
        go_ret2
        first | exact ⟨rfl, HBB.out.trans HW.out.below⟩ | exact ⟨rfl, (HBB.out.trans HW.out.below).drew⟩ | exact ⟨rfl, pw_below_drewN (HBB.out.trans HW.out.below) _⟩
      · have hi : (xs.length : Int) = 4 := by omega
        have hcv := run_convert_bytes_arg (P := Tryd.prog) (w := w') 42 5 Tryd.underlying42 Tryd.underlying5 w.heap.size 0 4 8 xs hn (fun i hi => (by rw [Nat.zero_add]; exact HW.out.cells i (show i < xs.length by omega))) 9 Tryd.underlying9
        have hcv1 := run_convert_bytes_arg (P := Tryd.prog) (w := w'.drew) 42 5 Tryd.underlying42 Tryd.underlying5 w.heap.size 0 4 8 xs hn (fun i hi => (by rw [Nat.zero_add]; exact HW.out.cells i (show i < xs.length by omega))) 9 Tryd.underlying9
        have hcv2 := fun nd => run_convert_bytes_arg (P := Tryd.prog) (w := w'.drewN nd) 42 5 Tryd.underlying42 Tryd.underlying5 w.heap.size 0 4 8 xs hn (fun i hi => (by rw [Nat.zero_add]; exact HW.out.cells i (show i < xs.length by omega))) 9 Tryd.underlying9
        simp only [jsonparser_DoorEscapeAt.out, hi]
        clear hn hi
        repeat (go_quiet (fail); try go_wp2)
        go_ret2
        first | exact ⟨rfl, HBB.out.trans HW.out.below⟩ | exact ⟨rfl, (HBB.out.trans HW.out.below).drew⟩ | exact ⟨rfl, pw_below_drewN (HBB.out.trans HW.out.below) _⟩
  · rw [if_neg hs] at h
    exact absurd h (by simp)


end Go.Proofs.YtdllbnecbbggfaaDoor.XFnJpEscapeAt
