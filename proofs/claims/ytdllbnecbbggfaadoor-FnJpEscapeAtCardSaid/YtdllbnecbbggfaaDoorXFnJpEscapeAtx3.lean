-- Written by xprint.py of this session (a program that runs the kit's print and adds to it); Lean checks it.
import Derived.Test.YtdllbnecbbggfaaDoorXFnJpEscapeAtx0
import Derived.Test.YtdllbnecbbggfaaDoorXFnJpEscapeAtx2
namespace Go.Proofs.YtdllbnecbbggfaaDoor.XFnJpEscapeAt
open Go.RowKit Go.Proofs.YtdllbnecbbggfaaDoorW.PrintWords Go.Proofs.YtdllbnecbbggfaaDoorW.PrintLast Go.Proofs.YtdllbnecbbggfaaDoorW.PrintMore
attribute [local go_sem] max2_int min2_int max_two min_two max_three min_three max_four min_four   -- for this text's walks alone
set_option linter.unusedVariables false
set_option linter.unusedSimpArgs false

/-! ### spec_Unescape: function 31 -/
def spec_Unescape.l0 : Nat → ByteArray → Int → Option (ByteArray × Bool)
  | 0, _, _ => none
  | k + 1, x0, x4 => if x4 < (x0.size : Int) then (if 0 ≤ x4 then (if (bt x0 x4) = 92 then ((spec_reader_escape.f k x0 (wrap64 (x4 + 1))).bind fun bt167 => (if bt167.1 = true then (spec_Unescape.l0 k x0 (wrap64 ((wrap64 (bt167.2.2 - 1)) + 1))) else (some ((⟨#[]⟩ : ByteArray), false)))) else (spec_Unescape.l0 k x0 (wrap64 (x4 + 1)))) else (none)) else (if 1 + x0.size ≤ 9223372036854775807 then (if ((⟨#[34]⟩ : ByteArray) ++ x0).size + 1 ≤ 9223372036854775807 then ((spec_Unquote.f k (((⟨#[34]⟩ : ByteArray) ++ x0) ++ (⟨#[34]⟩ : ByteArray))).bind fun t165 => (some (t165, true))) else (none)) else (none))
def spec_Unescape.f (k : Nat) (a0 : ByteArray) : Option (ByteArray × Bool) := spec_Unescape.l0 k a0 0
theorem spec_Unescape.mono_l : ∀ k, (∀ y0 y1, LeO (spec_Unescape.l0 k y0 y1) (spec_Unescape.l0 (k + 1) y0 y1))
  | 0 => fun _ _ r h => by simp [spec_Unescape.l0] at h
  | k + 1 => by
    have ih0 := spec_Unescape.mono_l k
    · intro y0 y1
      unfold spec_Unescape.l0
      repeat' first
      | (with_reducible exact ih0 _ _)
      | (with_reducible exact spec_Unquote.mono _ _)
      | (with_reducible exact spec_reader_escape.mono _ _ _)
      | (with_reducible exact LeO.refl _)
      | (with_reducible exact LeO.none _)
      | (with_reducible refine LeO.ite ?_ ?_)
      | (with_reducible refine LeO.bind ?_ (fun _ => ?_))
      | exact ih0 _ _
      | exact spec_Unquote.mono _ _
      | exact spec_reader_escape.mono _ _ _
      | exact LeO.none _
      | refine LeO.ite ?_ ?_
      | refine LeO.bind ?_ (fun _ => ?_)
theorem spec_Unescape.mono : ∀ a0 k, LeO (spec_Unescape.f k a0) (spec_Unescape.f (k + 1) a0) := by
  intro a0 k
  have ih0 := spec_Unescape.mono_l k
  unfold spec_Unescape.f
  repeat' first
      | (with_reducible exact ih0 _ _)
      | (with_reducible exact spec_Unquote.mono _ _)
      | (with_reducible exact spec_reader_escape.mono _ _ _)
      | (with_reducible exact LeO.refl _)
      | (with_reducible exact LeO.none _)
      | (with_reducible refine LeO.ite ?_ ?_)
      | (with_reducible refine LeO.bind ?_ (fun _ => ?_))
      | exact ih0 _ _
      | exact spec_Unquote.mono _ _
      | exact spec_reader_escape.mono _ _ _
      | exact LeO.none _
      | refine LeO.ite ?_ ?_
      | refine LeO.bind ?_ (fun _ => ?_)
set_option maxHeartbeats 8000000 in
set_option maxRecDepth 100000 in
theorem spec_Unescape.calls (k : Nat) (a0 : ByteArray) (r1 : ByteArray) (r2 : Bool) (w : World) (h : spec_Unescape.f k a0 = some (r1, r2)) :
    Calls Tryd.prog 31 #[.string a0] w fun e w' => e = .returned (.tuple #[.string r1, .bool r2]) ∧ Below w.heap.size w w' := by
  have hu61 := Tryd.underlying61
  have HB := Aside0.mk (Below.refl w.heap.size w)
  have H : (spec_Unescape.l0 k a0 0) = some (r1, r2) := h
  clear h
  have H' := Aside0.mk H
  clear H
  go_enter Tryd.func31, Tryd.ntmps31
  go_wp2
  try simp only [Act.put, List.setIfInBounds_toArray, List.set_cons_succ, List.set_cons_zero]
  go_loopg [4] k (fun kq v4 w' => ∃ (x4_1 : Int), v4 = .int .i64 x4_1 ∧ Aside0 (spec_Unescape.l0 kq a0 x4_1 = some (r1, r2)) ∧ Aside0 (kq ≤ k) ∧ Aside0 (Below w.heap.size w w'))
  case atStart => exact ⟨(0), (by first | rfl | (simp; done) | (simp [*]; done)), H', ⟨Nat.le_refl _⟩, ⟨by repeat (first | (with_reducible first | exact HB.out | apply below_alloc | apply pw_below_drewN | apply below_drew1) | exact HB.out)⟩⟩
  case round =>
    clear H'
    obtain ⟨x4_1, rfl, HA, HK1, HB⟩ := hrel
    cases gk with
    | zero => exact absurd HA.out (by simp [spec_Unescape.l0])
    | succ k1 =>
      have H := HA.out
      clear HA
      simp only [spec_Unescape.l0] at H
      by_cases c2 : x4_1 < (a0.size : Int)
      · rw [if_pos c2] at H
        have c2b0 : decide (x4_1 < (a0.size : Int)) = true := decide_eq_true c2
        clear c2
        by_cases c3 : 0 ≤ x4_1
        · rw [if_pos c3] at H
          have c3b0 : decide (0 ≤ x4_1) = true := decide_eq_true c3
          clear c3
          by_cases c5 : (bt a0 x4_1) = 92
          · rw [if_pos c5] at H
            have c5b0 : ((bt a0 x4_1) == 92) = true := beq_iff_eq.mpr c5
            have c5b1 : ((bt a0 x4_1) != 92) = false := bne_eq_false_iff_eq.mpr c5
            clear c5
            replace H := Option.bind_eq_some_iff.mp H
            obtain ⟨⟨t167, t168, t169⟩, A60, H⟩ := H
            replace H : (if t167 = true then (spec_Unescape.l0 k1 a0 (wrap64 ((wrap64 (t169 - 1)) + 1))) else (some ((⟨#[]⟩ : ByteArray), false))) = some (r1, r2) := H
            have A6 := Aside0.mk A60
            clear A60
            by_cases c7 : t167 = true
            · subst c7
              have H1 : (spec_Unescape.l0 k1 a0 (wrap64 ((wrap64 (t169 - 1)) + 1))) = some (r1, r2) := by rw [if_pos rfl] at H; exact H
              clear H
              have H := H1
              clear H1
              have H' := Aside0.mk H
              clear H
              have p4 : 0 ≤ (x4_1 : Int) := of_decide_eq_true (by first | (with_reducible assumption) | assumption)
              have q4 : x4_1 < (a0.size : Int) := of_decide_eq_true (by first | (with_reducible assumption) | assumption)
              have hx4 := bt_at a0 x4_1
              replace p4 := eq_true p4
              replace q4 := eq_true q4
              go_wp2_with (first | ((with_reducible refine gate_dst (N := 5) rfl ?_); refine box_event ?hg (N := 5) ?hd (cs := #[.string (⟨#[]⟩ : ByteArray), .int .i64 0]) (t := 61) ?hr ?_; (case hd => rfl); (case hg => rfl); (case hr => first | (go_simp; done) | (go_simp; rfl)); intro gb166 hg w8 hbox hb; have n0_ := Aside0.mk (below_step (by repeat (first | (with_reducible first | exact HB.out | apply below_alloc | apply pw_below_drewN | apply below_drew1) | exact HB.out)) hb); have n1_ := Aside0.mk ((by rw [hg]; exact (below_size (by repeat (first | (with_reducible first | exact HB.out | apply below_alloc | apply pw_below_drewN | apply below_drew1) | exact HB.out))) : w.heap.size ≤ gb166)); have n2_ := Aside0.mk ((by rw [hg]; exact (below_size (by repeat (first | (with_reducible first | exact HB.out | apply below_alloc | apply pw_below_drewN | apply below_drew1) | exact HB.out))) : w.heap.size ≤ gb166)); have n3_ := Aside0.mk ((show IsS61 w w8 gb166 (⟨#[]⟩ : ByteArray) 0 from ⟨hbox, (by rw [hg]; exact (below_size (by repeat (first | (with_reducible first | exact HB.out | apply below_alloc | apply pw_below_drewN | apply below_drew1) | exact HB.out))) : w.heap.size ≤ gb166)⟩)); clear HB; have HB := n0_; have GW166 := n1_; have GE166 := n2_; have HI166 := n3_; clear n0_ n1_ n2_ n3_; clear hb hbox hg; obtain ⟨HGz9, hgz9⟩ := HI166.out; have hcz9_0 := cellS61_0 HGz9; have hcz9_1 := cellS61_1 HGz9; have hfz9_0 := blk_frozen HGz9 0; have hfz9_1 := blk_frozen HGz9 1; clear HGz9 hgz9) | ((with_reducible refine gate_callee (f := 52) rfl ?_); refine goesL_ (some 20) rfl rfl Tryd.func52 (by kernel_rfl) rfl #[.pointer (some ⟨gb166, 0, none⟩)] rfl (by (try simp only [List.map_toArray, List.map_cons, List.map_nil]); first | done | rfl | (simp only [List.length_drop, List.length_take]; rfl)) ?_; (with_reducible refine (spec_reader_escape.calls k1 gb166 a0 (wrap64 (x4_1 + 1)) true t168 t169 w _ ?side1 ?side2 A6.out).mono ?_); (case side1 => repeat (first | (with_reducible first | exact HI166.out | apply IsS61.alloc | apply IsS61.drewN | apply IsS61.drew | apply IsS61.set_0 | apply IsS61.set_1) | exact HI166.out)); (case side2 => repeat (first | (with_reducible first | exact HB.out | apply below_alloc | apply pw_below_drewN | apply below_drew1 | refine below_set ?_ (IsS61.ge HI166.out)) | exact HB.out)); rintro e w10 ⟨rfl, hi, hb, hk⟩; refine ⟨_, rfl, ?_⟩; have n0_ := Aside0.mk (hb); have n1_ := Aside0.mk (hi); clear HB; clear HI166; have HB := n0_; have HI166 := n1_; clear n0_ n1_; (try clear hb); (try clear hb2); (try clear hk); (try clear hi); obtain ⟨HGz11, hgz11⟩ := HI166.out; have hcz11_0 := cellS61_0 HGz11; have hcz11_1 := cellS61_1 HGz11; have hfz11_0 := blk_frozen HGz11 0; have hfz11_1 := blk_frozen HGz11 1; clear HGz11 hgz11))
              go_roundg k1
              case measure => have := HK1.out; omega
              case rel => exact ⟨(wrap64 ((wrap64 (t169 - 1)) + 1)), (by first | rfl | (simp; done) | (simp [*]; done)), H', ⟨by have := HK1.out; omega⟩, ⟨by repeat (first | (with_reducible first | exact HB.out | apply below_alloc | apply pw_below_drewN | apply below_drew1 | refine below_set ?_ (IsS61.ge HI166.out)) | exact HB.out)⟩⟩
            · replace c7 := Bool.eq_false_iff.mpr c7
              subst c7
              have H1 : (some ((⟨#[]⟩ : ByteArray), false)) = some (r1, r2) := by rw [if_neg (show ¬ (false = true) by decide)] at H; exact H
              clear H
              have H := H1
              clear H1
              simp only [Option.some.injEq, Prod.mk.injEq] at H
              obtain ⟨rfl, rfl⟩ := H
              have p4 : 0 ≤ (x4_1 : Int) := of_decide_eq_true (by first | (with_reducible assumption) | assumption)
              have q4 : x4_1 < (a0.size : Int) := of_decide_eq_true (by first | (with_reducible assumption) | assumption)
              have hx4 := bt_at a0 x4_1
              replace p4 := eq_true p4
              replace q4 := eq_true q4
              go_wp2_with (first | ((with_reducible refine gate_dst (N := 5) rfl ?_); refine box_event ?hg (N := 5) ?hd (cs := #[.string (⟨#[]⟩ : ByteArray), .int .i64 0]) (t := 61) ?hr ?_; (case hd => rfl); (case hg => rfl); (case hr => first | (go_simp; done) | (go_simp; rfl)); intro gb166 hg w12 hbox hb; have n0_ := Aside0.mk (below_step (by repeat (first | (with_reducible first | exact HB.out | apply below_alloc | apply pw_below_drewN | apply below_drew1) | exact HB.out)) hb); have n1_ := Aside0.mk ((by rw [hg]; exact (below_size (by repeat (first | (with_reducible first | exact HB.out | apply below_alloc | apply pw_below_drewN | apply below_drew1) | exact HB.out))) : w.heap.size ≤ gb166)); have n2_ := Aside0.mk ((by rw [hg]; exact (below_size (by repeat (first | (with_reducible first | exact HB.out | apply below_alloc | apply pw_below_drewN | apply below_drew1) | exact HB.out))) : w.heap.size ≤ gb166)); have n3_ := Aside0.mk ((show IsS61 w w12 gb166 (⟨#[]⟩ : ByteArray) 0 from ⟨hbox, (by rw [hg]; exact (below_size (by repeat (first | (with_reducible first | exact HB.out | apply below_alloc | apply pw_below_drewN | apply below_drew1) | exact HB.out))) : w.heap.size ≤ gb166)⟩)); clear HB; have HB := n0_; have GW166 := n1_; have GE166 := n2_; have HI166 := n3_; clear n0_ n1_ n2_ n3_; clear hb hbox hg; obtain ⟨HGz13, hgz13⟩ := HI166.out; have hcz13_0 := cellS61_0 HGz13; have hcz13_1 := cellS61_1 HGz13; have hfz13_0 := blk_frozen HGz13 0; have hfz13_1 := blk_frozen HGz13 1; clear HGz13 hgz13) | ((with_reducible refine gate_callee (f := 52) rfl ?_); refine goesL_ (some 20) rfl rfl Tryd.func52 (by kernel_rfl) rfl #[.pointer (some ⟨gb166, 0, none⟩)] rfl (by (try simp only [List.map_toArray, List.map_cons, List.map_nil]); first | done | rfl | (simp only [List.length_drop, List.length_take]; rfl)) ?_; (with_reducible refine (spec_reader_escape.calls k1 gb166 a0 (wrap64 (x4_1 + 1)) false t168 t169 w _ ?side1 ?side2 A6.out).mono ?_); (case side1 => repeat (first | (with_reducible first | exact HI166.out | apply IsS61.alloc | apply IsS61.drewN | apply IsS61.drew | apply IsS61.set_0 | apply IsS61.set_1) | exact HI166.out)); (case side2 => repeat (first | (with_reducible first | exact HB.out | apply below_alloc | apply pw_below_drewN | apply below_drew1 | refine below_set ?_ (IsS61.ge HI166.out)) | exact HB.out)); rintro e w14 ⟨rfl, hi, hb, hk⟩; refine ⟨_, rfl, ?_⟩; have n0_ := Aside0.mk (hb); have n1_ := Aside0.mk (hi); clear HB; clear HI166; have HB := n0_; have HI166 := n1_; clear n0_ n1_; (try clear hb); (try clear hb2); (try clear hk); (try clear hi)))
              go_ret2
              exact ⟨by first | rfl | (simp [errW_none, errW_some] <;> rfl) | (simp [*, errW_none, errW_some] <;> rfl), by repeat (first | (with_reducible first | exact HB.out | apply below_alloc | apply pw_below_drewN | apply below_drew1 | refine below_set ?_ (IsS61.ge HI166.out)) | exact HB.out)⟩
          · rw [if_neg c5] at H
            have c5b0 : ((bt a0 x4_1) == 92) = false := beq_eq_false_iff_ne.mpr c5
            have c5b1 : ((bt a0 x4_1) != 92) = true := bne_iff_ne.mpr c5
            have H' := Aside0.mk H
            clear H
            have p4 : 0 ≤ (x4_1 : Int) := of_decide_eq_true (by first | (with_reducible assumption) | assumption)
            have q4 : x4_1 < (a0.size : Int) := of_decide_eq_true (by first | (with_reducible assumption) | assumption)
            have hx4 := bt_at a0 x4_1
            replace p4 := eq_true p4
            replace q4 := eq_true q4
            go_wp2
            go_roundg k1
            case measure => have := HK1.out; omega
            case rel => exact ⟨(wrap64 (x4_1 + 1)), (by first | rfl | (simp; done) | (simp [*]; done)), H', ⟨by have := HK1.out; omega⟩, ⟨by repeat (first | (with_reducible first | exact HB.out | apply below_alloc | apply pw_below_drewN | apply below_drew1) | exact HB.out)⟩⟩
        · rw [if_neg c3] at H
          exact absurd H (by simp)
      · rw [if_neg c2] at H
        have c2b0 : decide (x4_1 < (a0.size : Int)) = false := decide_eq_false c2
        clear c2
        by_cases c15 : 1 + a0.size ≤ 9223372036854775807
        · rw [if_pos c15] at H
          have c15b0 := eq_true c15
          have c15b1 : decide (1 + a0.size ≤ 9223372036854775807) = true := decide_eq_true c15
          try have c15b2 : (9223372036854775807 < 1 + a0.size) = False := eq_false (Nat.not_lt.2 c15)
          by_cases c16 : ((⟨#[34]⟩ : ByteArray) ++ a0).size + 1 ≤ 9223372036854775807
          · rw [if_pos c16] at H
            have c16b0 := eq_true c16
            try (have c16b7 : 1 + a0.size + 1 ≤ 9223372036854775807 := by (have h_ := c16; simp only [ByteArray.size_append] at h_; exact h_))
            have c16b1 : decide (((⟨#[34]⟩ : ByteArray) ++ a0).size + 1 ≤ 9223372036854775807) = true := decide_eq_true c16
            try have c16b2 : (9223372036854775807 < ((⟨#[34]⟩ : ByteArray) ++ a0).size + 1) = False := eq_false (Nat.not_lt.2 c16)
            replace H := Option.bind_eq_some_iff.mp H
            obtain ⟨t165, A170, H⟩ := H
            replace H : (some (t165, true)) = some (r1, r2) := H
            have A17 := Aside0.mk A170
            clear A170
            simp only [Option.some.injEq, Prod.mk.injEq] at H
            obtain ⟨rfl, rfl⟩ := H
            go_wp2_with (first | ((with_reducible refine gate_callee (f := 30) rfl ?_); refine goesL_ (some 28) rfl rfl Tryd.func30 (by kernel_rfl) rfl #[.string (((⟨#[34]⟩ : ByteArray) ++ a0) ++ (⟨#[34]⟩ : ByteArray))] rfl (by (try simp only [List.map_toArray, List.map_cons, List.map_nil]); first | done | rfl | (simp only [List.length_drop, List.length_take]; rfl)) ?_; (with_reducible refine (spec_Unquote.calls k1 (((⟨#[34]⟩ : ByteArray) ++ a0) ++ (⟨#[34]⟩ : ByteArray)) t165 _ A17.out).mono ?_); rintro e w18 ⟨rfl, hb⟩; refine ⟨_, rfl, ?_⟩; have n0_ := Aside0.mk (below_step (by repeat (first | (with_reducible first | exact HB.out | apply below_alloc | apply pw_below_drewN | apply below_drew1) | exact HB.out)) hb); clear HB; have HB := n0_; clear n0_; (try clear hb); (try clear hb2); (try clear hk); (try clear hi)))
            go_ret2
            exact ⟨by first | rfl | (simp [errW_none, errW_some] <;> rfl) | (simp [*, errW_none, errW_some] <;> rfl), by repeat (first | (with_reducible first | exact HB.out | apply below_alloc | apply pw_below_drewN | apply below_drew1) | exact HB.out)⟩
          · rw [if_neg c16] at H
            exact absurd H (by simp)
        · rw [if_neg c15] at H
          exact absurd H (by simp)

/-! ### laws_jpTorn: function 11 -/
def laws_jpTorn.j0 : Nat → ByteArray → Bool → Option (Bool)
  | 0, _, _ => none
  | k + 1, x0, x17 => if x17 = true then (some false) else (if (x0.size : Int) < 6 then (some true) else (if 0 ≤ 6 then (if 6 ≤ (x0.size : Int) then ((spec_Unescape.f k (x0.extract 0 6)).bind fun bt170 => (some (!bt170.2))) else (none)) else (none)))
def laws_jpTorn.f (k : Nat) (a0 : ByteArray) : Option (Bool) := if (a0.size : Int) < 2 then (laws_jpTorn.j0 k a0 true) else (if 0 < (a0.size : Int) then (if (bt a0 0) = 92 then (if 1 < (a0.size : Int) then (laws_jpTorn.j0 k a0 ((bt a0 1) != 117)) else (none)) else (laws_jpTorn.j0 k a0 true)) else (none))
theorem laws_jpTorn.mono_l : ∀ k, (∀ y0 y1, LeO (laws_jpTorn.j0 k y0 y1) (laws_jpTorn.j0 (k + 1) y0 y1))
  | 0 => fun _ _ r h => by simp [laws_jpTorn.j0] at h
  | k + 1 => by
    have ih0 := laws_jpTorn.mono_l k
    · intro y0 y1
      unfold laws_jpTorn.j0
      repeat' first
      | (with_reducible exact ih0 _ _)
      | (with_reducible exact spec_Unescape.mono _ _)
      | (with_reducible exact LeO.refl _)
      | (with_reducible exact LeO.none _)
      | (with_reducible refine LeO.ite ?_ ?_)
      | (with_reducible refine LeO.bind ?_ (fun _ => ?_))
      | exact ih0 _ _
      | exact spec_Unescape.mono _ _
      | exact LeO.none _
      | refine LeO.ite ?_ ?_
      | refine LeO.bind ?_ (fun _ => ?_)
theorem laws_jpTorn.mono : ∀ a0 k, LeO (laws_jpTorn.f k a0) (laws_jpTorn.f (k + 1) a0) := by
  intro a0 k
  have ih0 := laws_jpTorn.mono_l k
  unfold laws_jpTorn.f
  repeat' first
      | (with_reducible exact ih0 _ _)
      | (with_reducible exact spec_Unescape.mono _ _)
      | (with_reducible exact LeO.refl _)
      | (with_reducible exact LeO.none _)
      | (with_reducible refine LeO.ite ?_ ?_)
      | (with_reducible refine LeO.bind ?_ (fun _ => ?_))
      | exact ih0 _ _
      | exact spec_Unescape.mono _ _
      | exact LeO.none _
      | refine LeO.ite ?_ ?_
      | refine LeO.bind ?_ (fun _ => ?_)
set_option maxHeartbeats 8000000 in
set_option maxRecDepth 100000 in
theorem laws_jpTorn.calls (k : Nat) (a0 : ByteArray) (r : Bool) (w : World) (h : laws_jpTorn.f k a0 = some r) :
    Calls Tryd.prog 11 #[.string a0] w fun e w' => e = .returned (.bool r) ∧ Below w.heap.size w w' := by
  have HB := Aside0.mk (Below.refl w.heap.size w)
  have H : (if (a0.size : Int) < 2 then (laws_jpTorn.j0 k a0 true) else (if 0 < (a0.size : Int) then (if (bt a0 0) = 92 then (if 1 < (a0.size : Int) then (laws_jpTorn.j0 k a0 ((bt a0 1) != 117)) else (none)) else (laws_jpTorn.j0 k a0 true)) else (none))) = some r := h
  clear h
  have HC2 := Aside0.mk H
  clear H
  go_enter Tryd.func11, Tryd.ntmps11
  go_upto_region 1 with (fail)
  go_cut [17] (fun v17 wc => ∃ (kq : Nat) (x17_1 : Bool), v17 = .bool x17_1 ∧ Aside0 (laws_jpTorn.j0 kq a0 x17_1 = some r) ∧ Aside0 (kq ≤ k) ∧ Aside0 (Below w.heap.size w wc))
  case first =>
    have H := HC2.out
    clear HC2
    by_cases c3 : (a0.size : Int) < 2
    · rw [if_pos c3] at H
      have c3b0 : decide ((a0.size : Int) < 2) = true := decide_eq_true c3
      have c3b1 : decide (a0.size < 2) = true := decide_eq_true (by omega)
      clear c3
      (first | rw [c3b0] | (simp only [i64_w, i32_w]; rw [c3b0]) | skip)
      have H' := Aside0.mk H
      clear H
      go_wp2
      go_meet
      case rel => exact ⟨_, (true), (by first | rfl | (simp; done) | (simp [*]; done)), H', ⟨by first | omega | exact Nat.le_refl _⟩, ⟨by repeat (first | (with_reducible first | exact HB.out | apply below_alloc | apply pw_below_drewN | apply below_drew1) | exact HB.out)⟩⟩
    · rw [if_neg c3] at H
      have c3b0 : decide ((a0.size : Int) < 2) = false := decide_eq_false c3
      have c3b1 : decide (a0.size < 2) = false := decide_eq_false (by omega)
      clear c3
      (first | rw [c3b0] | (simp only [i64_w, i32_w]; rw [c3b0]) | skip)
      by_cases c4 : 0 < (a0.size : Int)
      · rw [if_pos c4] at H
        have c4b0 : decide (0 < (a0.size : Int)) = true := decide_eq_true c4
        have c4b1 : decide (0 < a0.size) = true := decide_eq_true (by omega)
        clear c4
        by_cases c6 : (bt a0 0) = 92
        · rw [if_pos c6] at H
          have c6b0 : ((bt a0 0) == 92) = true := beq_iff_eq.mpr c6
          have c6b1 : ((bt a0 0) != 92) = false := bne_eq_false_iff_eq.mpr c6
          clear c6
          by_cases c7 : 1 < (a0.size : Int)
          · rw [if_pos c7] at H
            have c7b0 : decide (1 < (a0.size : Int)) = true := decide_eq_true c7
            have c7b1 : decide (1 < a0.size) = true := decide_eq_true (by omega)
            clear c7
            have H' := Aside0.mk H
            clear H
            have p5 : 0 ≤ (0 : Int) := (by omega)
            have q5 : 0 < a0.size := (by have : (0 : Int) < (a0.size : Int) := of_decide_eq_true (by first | (with_reducible assumption) | assumption); omega)
            have hx5 : ∀ h : 0 < a0.size, ((a0[0]'h).toNat : Int) = bt a0 0 := bt_at a0 0
            clear p5
            have qi5 : (0 < (a0.size : Int)) = True := eq_true (of_decide_eq_true (by first | (with_reducible assumption) | assumption))
            replace q5 := eq_true q5
            have p8 : 0 ≤ (1 : Int) := (by omega)
            have q8 : 1 < a0.size := (by have : (1 : Int) < (a0.size : Int) := of_decide_eq_true (by first | (with_reducible assumption) | assumption); omega)
            have hx8 : ∀ h : 1 < a0.size, ((a0[1]'h).toNat : Int) = bt a0 1 := bt_at a0 1
            clear p8
            have qi8 : (1 < (a0.size : Int)) = True := eq_true (of_decide_eq_true (by first | (with_reducible assumption) | assumption))
            replace q8 := eq_true q8
            go_wp2
            go_meet
            case rel => exact ⟨_, (((bt a0 1) != 117)), (by first | rfl | (simp; done) | (simp [*]; done)), H', ⟨by first | omega | exact Nat.le_refl _⟩, ⟨by repeat (first | (with_reducible first | exact HB.out | apply below_alloc | apply pw_below_drewN | apply below_drew1) | exact HB.out)⟩⟩
          · rw [if_neg c7] at H
            exact absurd H (by simp)
        · rw [if_neg c6] at H
          have c6b0 : ((bt a0 0) == 92) = false := beq_eq_false_iff_ne.mpr c6
          have c6b1 : ((bt a0 0) != 92) = true := bne_iff_ne.mpr c6
          have H' := Aside0.mk H
          clear H
          have p5 : 0 ≤ (0 : Int) := (by omega)
          have q5 : 0 < a0.size := (by have : (0 : Int) < (a0.size : Int) := of_decide_eq_true (by first | (with_reducible assumption) | assumption); omega)
          have hx5 : ∀ h : 0 < a0.size, ((a0[0]'h).toNat : Int) = bt a0 0 := bt_at a0 0
          clear p5
          have qi5 : (0 < (a0.size : Int)) = True := eq_true (of_decide_eq_true (by first | (with_reducible assumption) | assumption))
          replace q5 := eq_true q5
          go_wp2
          go_meet
          case rel => exact ⟨_, (true), (by first | rfl | (simp; done) | (simp [*]; done)), H', ⟨by first | omega | exact Nat.le_refl _⟩, ⟨by repeat (first | (with_reducible first | exact HB.out | apply below_alloc | apply pw_below_drewN | apply below_drew1) | exact HB.out)⟩⟩
      · rw [if_neg c4] at H
        exact absurd H (by simp)
  case rest =>
    clear HC2
    try clear c1
    try clear p2
    try clear c3
    try clear c3b0
    try clear c3b1
    try clear c4
    try clear c4b0
    try clear c4b1
    try clear p5
    try clear q5
    try clear hx5
    try clear qi5
    try clear c6
    try clear c6b0
    try clear c6b1
    try clear c7
    try clear c7b0
    try clear c7b1
    try clear p8
    try clear q8
    try clear hx8
    try clear qi8
    try clear p5
    try clear p8
    try clear q5
    try clear q8
    obtain ⟨kq, x17_1, rfl, HA, HJ1, HB⟩ := hcut
    cases kq with
    | zero => exact absurd HA.out (by simp [laws_jpTorn.j0])
    | succ kj1 =>
      have H := HA.out
      clear HA
      simp only [laws_jpTorn.j0] at H
      by_cases c9 : x17_1 = true
      · subst c9
        have H1 : (some false) = some r := by rw [if_pos rfl] at H; exact H
        clear H
        have H := H1
        clear H1
        obtain rfl := Option.some.inj H
        go_wp2
        go_ret
        exact ⟨by first | rfl | (simp [errW_none, errW_some] <;> rfl) | (simp [*, errW_none, errW_some] <;> rfl), by repeat (first | (with_reducible first | exact HB.out | apply below_alloc | apply pw_below_drewN | apply below_drew1) | exact HB.out)⟩
      · replace c9 := Bool.eq_false_iff.mpr c9
        subst c9
        have H1 : (if (a0.size : Int) < 6 then (some true) else (if 0 ≤ 6 then (if 6 ≤ (a0.size : Int) then ((spec_Unescape.f kj1 (a0.extract 0 6)).bind fun bt170 => (some (!bt170.2))) else (none)) else (none))) = some r := by rw [if_neg (show ¬ (false = true) by decide)] at H; exact H
        clear H
        have H := H1
        clear H1
        by_cases c10 : (a0.size : Int) < 6
        · rw [if_pos c10] at H
          have c10b0 : decide ((a0.size : Int) < 6) = true := decide_eq_true c10
          have c10b1 : decide (a0.size < 6) = true := decide_eq_true (by omega)
          clear c10
          obtain rfl := Option.some.inj H
          go_wp2
          go_ret
          exact ⟨by first | rfl | (simp [errW_none, errW_some] <;> rfl) | (simp [*, errW_none, errW_some] <;> rfl), by repeat (first | (with_reducible first | exact HB.out | apply below_alloc | apply pw_below_drewN | apply below_drew1) | exact HB.out)⟩
        · rw [if_neg c10] at H
          have c10b0 : decide ((a0.size : Int) < 6) = false := decide_eq_false c10
          have c10b1 : decide (a0.size < 6) = false := decide_eq_false (by omega)
          clear c10
          by_cases c11 : 0 ≤ 6
          · rw [if_pos c11] at H
            have c11b0 := eq_true c11
            have c11b1 : decide (0 ≤ 6) = true := decide_eq_true c11
            clear c11
            by_cases c12 : 6 ≤ (a0.size : Int)
            · rw [if_pos c12] at H
              have c12b0 := eq_true c12
              have c12b1 : decide (6 ≤ (a0.size : Int)) = true := decide_eq_true c12
              clear c12
              replace H := Option.bind_eq_some_iff.mp H
              obtain ⟨⟨t170, t171⟩, A130, H⟩ := H
              replace H : (some (!t171)) = some r := H
              have A13 := Aside0.mk A130
              clear A130
              obtain rfl := Option.some.inj H
              go_wp2_with (first | ((with_reducible refine gate_callee (f := 31) rfl ?_); refine goesL_ (some 24) rfl rfl Tryd.func31 (by kernel_rfl) rfl #[.string (a0.extract 0 6)] rfl (by (try simp only [List.map_toArray, List.map_cons, List.map_nil]); first | done | rfl | (simp only [List.length_drop, List.length_take]; rfl)) ?_; (with_reducible refine (spec_Unescape.calls kj1 (a0.extract 0 6) t170 t171 _ A13.out).mono ?_); rintro e w14 ⟨rfl, hb⟩; refine ⟨_, rfl, ?_⟩; have n0_ := Aside0.mk (below_step (by repeat (first | (with_reducible first | exact HB.out | apply below_alloc | apply pw_below_drewN | apply below_drew1) | exact HB.out)) hb); clear HB; have HB := n0_; clear n0_; (try clear hb); (try clear hb2); (try clear hk); (try clear hi)))
              go_ret
              exact ⟨by first | rfl | (simp [errW_none, errW_some] <;> rfl) | (simp [*, errW_none, errW_some] <;> rfl), by repeat (first | (with_reducible first | exact HB.out | apply below_alloc | apply pw_below_drewN | apply below_drew1) | exact HB.out)⟩
            · rw [if_neg c12] at H
              exact absurd H (by simp)
          · rw [if_neg c11] at H
            exact absurd H (by simp)

/-! ### jsonparser_h2I: function 109 -/
mutual
def jsonparser_h2I.j0 : Nat → Int → Bool → Option (Int)
  | 0, _, _ => none
  | k + 1, x0, x8 => if x8 = true then (some ((x0 - 48) % 256)) else (if x0 ≥ 65 then (jsonparser_h2I.j1 k x0 (decide (x0 ≤ 70))) else (jsonparser_h2I.j1 k x0 false))
def jsonparser_h2I.j1 : Nat → Int → Bool → Option (Int)
  | 0, _, _ => none
  | k + 1, x0, x17 => if x17 = true then (some (((x0 - 65) % 256) + 10)) else (if x0 ≥ 97 then (if x0 ≤ 102 then (some (((x0 - 97) % 256) + 10)) else (some (-1))) else (some (-1)))
end
def jsonparser_h2I.f (k : Nat) (a0 : Int) : Option (Int) := if a0 ≥ 48 then (jsonparser_h2I.j0 k a0 (decide (a0 ≤ 57))) else (jsonparser_h2I.j0 k a0 false)
theorem jsonparser_h2I.mono_l : ∀ k, (∀ y0 y1, LeO (jsonparser_h2I.j0 k y0 y1) (jsonparser_h2I.j0 (k + 1) y0 y1)) ∧ (∀ y0 y1, LeO (jsonparser_h2I.j1 k y0 y1) (jsonparser_h2I.j1 (k + 1) y0 y1))
  | 0 => ⟨fun _ _ r h => by simp [jsonparser_h2I.j0] at h, fun _ _ r h => by simp [jsonparser_h2I.j1] at h⟩
  | k + 1 => by
    obtain ⟨ih0, ih1⟩ := jsonparser_h2I.mono_l k
    refine ⟨?_, ?_⟩
    · intro y0 y1
      unfold jsonparser_h2I.j0
      repeat' first
      | (with_reducible exact ih0 _ _)
      | (with_reducible exact ih1 _ _)
      | (with_reducible exact LeO.refl _)
      | (with_reducible exact LeO.none _)
      | (with_reducible refine LeO.ite ?_ ?_)
      | (with_reducible refine LeO.bind ?_ (fun _ => ?_))
      | exact ih0 _ _
      | exact ih1 _ _
      | exact LeO.none _
      | refine LeO.ite ?_ ?_
      | refine LeO.bind ?_ (fun _ => ?_)
    · intro y0 y1
      unfold jsonparser_h2I.j1
      repeat' first
      | (with_reducible exact ih0 _ _)
      | (with_reducible exact ih1 _ _)
      | (with_reducible exact LeO.refl _)
      | (with_reducible exact LeO.none _)
      | (with_reducible refine LeO.ite ?_ ?_)
      | (with_reducible refine LeO.bind ?_ (fun _ => ?_))
      | exact ih0 _ _
      | exact ih1 _ _
      | exact LeO.none _
      | refine LeO.ite ?_ ?_
      | refine LeO.bind ?_ (fun _ => ?_)
theorem jsonparser_h2I.mono : ∀ a0 k, LeO (jsonparser_h2I.f k a0) (jsonparser_h2I.f (k + 1) a0) := by
  intro a0 k
  obtain ⟨ih0, ih1⟩ := jsonparser_h2I.mono_l k
  unfold jsonparser_h2I.f
  repeat' first
      | (with_reducible exact ih0 _ _)
      | (with_reducible exact ih1 _ _)
      | (with_reducible exact LeO.refl _)
      | (with_reducible exact LeO.none _)
      | (with_reducible refine LeO.ite ?_ ?_)
      | (with_reducible refine LeO.bind ?_ (fun _ => ?_))
      | exact ih0 _ _
      | exact ih1 _ _
      | exact LeO.none _
      | refine LeO.ite ?_ ?_
      | refine LeO.bind ?_ (fun _ => ?_)
set_option maxHeartbeats 8000000 in
set_option maxRecDepth 100000 in
theorem jsonparser_h2I.calls (k : Nat) (a0 : Int) (r : Int) (w : World) (h : jsonparser_h2I.f k a0 = some r) :
    Calls Tryd.prog 109 #[.int .u8 a0] w fun e w' => e = .returned (.int .i64 r) ∧ Drawn0 w w' := by
  have H : (if a0 ≥ 48 then (jsonparser_h2I.j0 k a0 (decide (a0 ≤ 57))) else (jsonparser_h2I.j0 k a0 false)) = some r := h
  clear h
  have HC2 := Aside0.mk H
  clear H
  go_enter Tryd.func109, Tryd.ntmps109
  go_upto_region 1 with (fail)
  go_cut [8] (fun v8 wc => ∃ (kq : Nat) (x8_1 : Bool), v8 = .bool x8_1 ∧ Aside0 (jsonparser_h2I.j0 kq a0 x8_1 = some r) ∧ Aside0 (kq ≤ k) ∧ Drawn0 w wc)
  case first =>
    have H := HC2.out
    clear HC2
    by_cases c3 : a0 ≥ 48
    · rw [if_pos c3] at H
      have c3b0 : decide (48 ≤ a0) = true := decide_eq_true c3
      clear c3
      (first | rw [c3b0] | (simp only [i64_w, i32_w]; rw [c3b0]) | skip)
      have H' := Aside0.mk H
      clear H
      go_wp2
      go_meet
      case rel => exact ⟨_, (decide (a0 ≤ 57)), (by first | rfl | (simp; done) | (simp [*]; done)), H', ⟨by first | omega | exact Nat.le_refl _⟩, by repeat (first | exact Drawn0.refl _ | apply Drawn0.step)⟩
    · rw [if_neg c3] at H
      have c3b0 : decide (48 ≤ a0) = false := decide_eq_false c3
      clear c3
      (first | rw [c3b0] | (simp only [i64_w, i32_w]; rw [c3b0]) | skip)
      have H' := Aside0.mk H
      clear H
      go_wp2
      go_meet
      case rel => exact ⟨_, (false), (by first | rfl | (simp; done) | (simp [*]; done)), H', ⟨by first | omega | exact Nat.le_refl _⟩, by repeat (first | exact Drawn0.refl _ | apply Drawn0.step)⟩
  case rest =>
    clear HC2
    try clear c1
    try clear p2
    try clear c3
    try clear c3b0
    obtain ⟨kq, x8_1, rfl, HA, HJ1, ⟨mc1, rfl⟩⟩ := hcut
    cases kq with
    | zero => exact absurd HA.out (by simp [jsonparser_h2I.j0])
    | succ kj1 =>
      have H := HA.out
      clear HA
      simp only [jsonparser_h2I.j0] at H
      by_cases c4 : x8_1 = true
      · subst c4
        have H1 : (some ((a0 - 48) % 256)) = some r := by rw [if_pos rfl] at H; exact H
        clear H
        have H := H1
        clear H1
        obtain rfl := Option.some.inj H
        go_wp2
        go_ret
        exact ⟨by first | rfl | (simp; done) | (simp [*]; done), by repeat (first | exact Drawn0.refl _ | apply Drawn0.step)⟩
      · replace c4 := Bool.eq_false_iff.mpr c4
        subst c4
        have H1 : (if a0 ≥ 65 then (jsonparser_h2I.j1 kj1 a0 (decide (a0 ≤ 70))) else (jsonparser_h2I.j1 kj1 a0 false)) = some r := by rw [if_neg (show ¬ (false = true) by decide)] at H; exact H
        clear H
        have H := H1
        clear H1
        have HC5 := Aside0.mk H
        clear H
        go_upto_region 3 with (fail)
        go_cut [17] (fun v17 wc => ∃ (kq : Nat) (x17_4 : Bool), v17 = .bool x17_4 ∧ Aside0 (jsonparser_h2I.j1 kq a0 x17_4 = some r) ∧ Aside0 (kq ≤ kj1) ∧ Drawn0 w wc)
        case first =>
          have H := HC5.out
          clear HC5
          by_cases c6 : a0 ≥ 65
          · rw [if_pos c6] at H
            have c6b0 : decide (65 ≤ a0) = true := decide_eq_true c6
            clear c6
            (first | rw [c6b0] | (simp only [i64_w, i32_w]; rw [c6b0]) | skip)
            have H' := Aside0.mk H
            clear H
            go_wp2
            go_meet
            case rel => exact ⟨_, (decide (a0 ≤ 70)), (by first | rfl | (simp; done) | (simp [*]; done)), H', ⟨by have := HJ1.out; first | omega | exact Nat.le_refl _⟩, by repeat (first | exact Drawn0.refl _ | apply Drawn0.step)⟩
          · rw [if_neg c6] at H
            have c6b0 : decide (65 ≤ a0) = false := decide_eq_false c6
            clear c6
            (first | rw [c6b0] | (simp only [i64_w, i32_w]; rw [c6b0]) | skip)
            have H' := Aside0.mk H
            clear H
            go_wp2
            go_meet
            case rel => exact ⟨_, (false), (by first | rfl | (simp; done) | (simp [*]; done)), H', ⟨by have := HJ1.out; first | omega | exact Nat.le_refl _⟩, by repeat (first | exact Drawn0.refl _ | apply Drawn0.step)⟩
        case rest =>
          clear HC5
          try clear c1
          try clear p2
          try clear c3
          try clear c3b0
          try clear c4
          try clear c6
          try clear c6b0
          try clear p2
          obtain ⟨kq, x17_4, rfl, HA, HJ4, ⟨mc4, rfl⟩⟩ := hcut
          cases kq with
          | zero => exact absurd HA.out (by simp [jsonparser_h2I.j1])
          | succ kj4 =>
            have H := HA.out
            clear HA
            simp only [jsonparser_h2I.j1] at H
            by_cases c7 : x17_4 = true
            · subst c7
              have H1 : (some (((a0 - 65) % 256) + 10)) = some r := by rw [if_pos rfl] at H; exact H
              clear H
              have H := H1
              clear H1
              obtain rfl := Option.some.inj H
              go_wp2
              go_ret
              exact ⟨by first | rfl | (simp; done) | (simp [*]; done), by repeat (first | exact Drawn0.refl _ | apply Drawn0.step)⟩
            · replace c7 := Bool.eq_false_iff.mpr c7
              subst c7
              have H1 : (if a0 ≥ 97 then (if a0 ≤ 102 then (some (((a0 - 97) % 256) + 10)) else (some (-1))) else (some (-1))) = some r := by rw [if_neg (show ¬ (false = true) by decide)] at H; exact H
              clear H
              have H := H1
              clear H1
              by_cases c8 : a0 ≥ 97
              · rw [if_pos c8] at H
                have c8b0 : decide (97 ≤ a0) = true := decide_eq_true c8
                clear c8
                by_cases c9 : a0 ≤ 102
                · rw [if_pos c9] at H
                  have c9b0 : decide (a0 ≤ 102) = true := decide_eq_true c9
                  clear c9
                  obtain rfl := Option.some.inj H
                  go_wp2
                  go_ret
                  exact ⟨by first | rfl | (simp; done) | (simp [*]; done), by repeat (first | exact Drawn0.refl _ | apply Drawn0.step)⟩
                · rw [if_neg c9] at H
                  have c9b0 : decide (a0 ≤ 102) = false := decide_eq_false c9
                  clear c9
                  obtain rfl := Option.some.inj H
                  go_wp2
                  go_ret
                  exact ⟨by first | rfl | (simp; done) | (simp [*]; done), by repeat (first | exact Drawn0.refl _ | apply Drawn0.step)⟩
              · rw [if_neg c8] at H
                have c8b0 : decide (97 ≤ a0) = false := decide_eq_false c8
                clear c8
                obtain rfl := Option.some.inj H
                go_wp2
                go_ret
                exact ⟨by first | rfl | (simp; done) | (simp [*]; done), by repeat (first | exact Drawn0.refl _ | apply Drawn0.step)⟩

/-! ### jsonparser_decodeSingleUnicodeEscape: function 99 -/
def jsonparser_decodeSingleUnicodeEscape.f (k : Nat) (l0 : List Int) : Option (Int × Bool) := if (l0.length : Int) < 6 then (some (65533, false)) else (if 2 < (l0.length : Int) then ((jsonparser_h2I.f k (rd l0 2)).bind fun t173 => (if 3 < (l0.length : Int) then ((jsonparser_h2I.f k (rd l0 3)).bind fun t175 => (if 4 < (l0.length : Int) then ((jsonparser_h2I.f k (rd l0 4)).bind fun t177 => (if 5 < (l0.length : Int) then ((jsonparser_h2I.f k (rd l0 5)).bind fun t179 => (if t173 = (-1) then (some (65533, false)) else (if t175 = (-1) then (some (65533, false)) else (if t177 = (-1) then (some (65533, false)) else (if t179 = (-1) then (some (65533, false)) else (some (wrap32 (wrap64 ((wrap64 ((wrap64 ((wrap64 (t173 * 4096)) + (wrap64 (t175 * 256)))) + (wrap64 (t177 * 16)))) + t179)), true))))))) else (none))) else (none))) else (none))) else (none))
theorem jsonparser_decodeSingleUnicodeEscape.mono : ∀ a0 k, LeO (jsonparser_decodeSingleUnicodeEscape.f k a0) (jsonparser_decodeSingleUnicodeEscape.f (k + 1) a0) := by
  intro a0 k
  unfold jsonparser_decodeSingleUnicodeEscape.f
  repeat' first
      | (with_reducible exact jsonparser_h2I.mono _ _)
      | (with_reducible exact LeO.refl _)
      | (with_reducible exact LeO.none _)
      | (with_reducible refine LeO.ite ?_ ?_)
      | (with_reducible refine LeO.bind ?_ (fun _ => ?_))
      | exact jsonparser_h2I.mono _ _
      | exact LeO.none _
      | refine LeO.ite ?_ ?_
      | refine LeO.bind ?_ (fun _ => ?_)
set_option maxHeartbeats 8000000 in
set_option maxRecDepth 100000 in
theorem jsonparser_decodeSingleUnicodeEscape.calls (k : Nat) (A0 : Option Addr) (c0 : Nat) (l0 : List Int) (r1 : Int) (r2 : Bool) (w : World) (hr0 : Kd.C (Kd.int .u8) w A0 l0.length l0) (hc0 : l0.length ≤ c0) (h : jsonparser_decodeSingleUnicodeEscape.f k l0 = some (r1, r2)) :
    Calls Tryd.prog 99 #[.slice A0 l0.length c0] w fun e w' => e = .returned (.tuple #[.int .i32 r1, .bool r2]) ∧ Drawn0 w w' := by
  have HR0 := Aside0.mk hr0
  have HC0 := Aside0.mk hc0
  clear hr0 hc0
  have H : (if (l0.length : Int) < 6 then (some (65533, false)) else (if 2 < (l0.length : Int) then ((jsonparser_h2I.f k (rd l0 2)).bind fun t173 => (if 3 < (l0.length : Int) then ((jsonparser_h2I.f k (rd l0 3)).bind fun t175 => (if 4 < (l0.length : Int) then ((jsonparser_h2I.f k (rd l0 4)).bind fun t177 => (if 5 < (l0.length : Int) then ((jsonparser_h2I.f k (rd l0 5)).bind fun t179 => (if t173 = (-1) then (some (65533, false)) else (if t175 = (-1) then (some (65533, false)) else (if t177 = (-1) then (some (65533, false)) else (if t179 = (-1) then (some (65533, false)) else (some (wrap32 (wrap64 ((wrap64 ((wrap64 ((wrap64 (t173 * 4096)) + (wrap64 (t175 * 256)))) + (wrap64 (t177 * 16)))) + t179)), true))))))) else (none))) else (none))) else (none))) else (none))) = some (r1, r2) := h
  clear h
  by_cases c2 : (l0.length : Int) < 6
  · rw [if_pos c2] at H
    have c2b0 : decide ((l0.length : Int) < 6) = true := decide_eq_true c2
    have c2b1 : decide (l0.length < 6) = true := decide_eq_true (by omega)
    clear c2
    simp only [Option.some.injEq, Prod.mk.injEq] at H
    obtain ⟨rfl, rfl⟩ := H
    go_enter Tryd.func99, Tryd.ntmps99
    go_wp2
    repeat (go_quiet (fail); try go_wp2)
    go_ret2
    exact ⟨by first | rfl | (simp; done) | (simp [*]; done), by repeat (first | exact Drawn0.refl _ | apply Drawn0.step)⟩
  · rw [if_neg c2] at H
    have c2b0 : decide ((l0.length : Int) < 6) = false := decide_eq_false c2
    have c2b1 : decide (l0.length < 6) = false := decide_eq_false (by omega)
    clear c2
    by_cases c3 : 2 < (l0.length : Int)
    · rw [if_pos c3] at H
      have c3b0 : decide (2 < (l0.length : Int)) = true := decide_eq_true c3
      have c3b1 : decide (2 < l0.length) = true := decide_eq_true (by omega)
      clear c3
      replace H := Option.bind_eq_some_iff.mp H
      obtain ⟨t173, A40, H⟩ := H
      replace H : (if 3 < (l0.length : Int) then ((jsonparser_h2I.f k (rd l0 3)).bind fun t175 => (if 4 < (l0.length : Int) then ((jsonparser_h2I.f k (rd l0 4)).bind fun t177 => (if 5 < (l0.length : Int) then ((jsonparser_h2I.f k (rd l0 5)).bind fun t179 => (if t173 = (-1) then (some (65533, false)) else (if t175 = (-1) then (some (65533, false)) else (if t177 = (-1) then (some (65533, false)) else (if t179 = (-1) then (some (65533, false)) else (some (wrap32 (wrap64 ((wrap64 ((wrap64 ((wrap64 (t173 * 4096)) + (wrap64 (t175 * 256)))) + (wrap64 (t177 * 16)))) + t179)), true))))))) else (none))) else (none))) else (none)) = some (r1, r2) := H
      have A4 := Aside0.mk A40
      clear A40
      by_cases c5 : 3 < (l0.length : Int)
      · rw [if_pos c5] at H
        have c5b0 : decide (3 < (l0.length : Int)) = true := decide_eq_true c5
        have c5b1 : decide (3 < l0.length) = true := decide_eq_true (by omega)
        clear c5
        replace H := Option.bind_eq_some_iff.mp H
        obtain ⟨t175, A60, H⟩ := H
        replace H : (if 4 < (l0.length : Int) then ((jsonparser_h2I.f k (rd l0 4)).bind fun t177 => (if 5 < (l0.length : Int) then ((jsonparser_h2I.f k (rd l0 5)).bind fun t179 => (if t173 = (-1) then (some (65533, false)) else (if t175 = (-1) then (some (65533, false)) else (if t177 = (-1) then (some (65533, false)) else (if t179 = (-1) then (some (65533, false)) else (some (wrap32 (wrap64 ((wrap64 ((wrap64 ((wrap64 (t173 * 4096)) + (wrap64 (t175 * 256)))) + (wrap64 (t177 * 16)))) + t179)), true))))))) else (none))) else (none)) = some (r1, r2) := H
        have A6 := Aside0.mk A60
        clear A60
        by_cases c7 : 4 < (l0.length : Int)
        · rw [if_pos c7] at H
          have c7b0 : decide (4 < (l0.length : Int)) = true := decide_eq_true c7
          have c7b1 : decide (4 < l0.length) = true := decide_eq_true (by omega)
          clear c7
          replace H := Option.bind_eq_some_iff.mp H
          obtain ⟨t177, A80, H⟩ := H
          replace H : (if 5 < (l0.length : Int) then ((jsonparser_h2I.f k (rd l0 5)).bind fun t179 => (if t173 = (-1) then (some (65533, false)) else (if t175 = (-1) then (some (65533, false)) else (if t177 = (-1) then (some (65533, false)) else (if t179 = (-1) then (some (65533, false)) else (some (wrap32 (wrap64 ((wrap64 ((wrap64 ((wrap64 (t173 * 4096)) + (wrap64 (t175 * 256)))) + (wrap64 (t177 * 16)))) + t179)), true))))))) else (none)) = some (r1, r2) := H
          have A8 := Aside0.mk A80
          clear A80
          by_cases c9 : 5 < (l0.length : Int)
          · rw [if_pos c9] at H
            have c9b0 : decide (5 < (l0.length : Int)) = true := decide_eq_true c9
            have c9b1 : decide (5 < l0.length) = true := decide_eq_true (by omega)
            clear c9
            replace H := Option.bind_eq_some_iff.mp H
            obtain ⟨t179, A100, H⟩ := H
            replace H : (if t173 = (-1) then (some (65533, false)) else (if t175 = (-1) then (some (65533, false)) else (if t177 = (-1) then (some (65533, false)) else (if t179 = (-1) then (some (65533, false)) else (some (wrap32 (wrap64 ((wrap64 ((wrap64 ((wrap64 (t173 * 4096)) + (wrap64 (t175 * 256)))) + (wrap64 (t177 * 16)))) + t179)), true)))))) = some (r1, r2) := H
            have A10 := Aside0.mk A100
            clear A100
            by_cases c11 : t173 = (-1)
            · rw [if_pos c11] at H
              have c11b0 : (t173 == (-1)) = true := beq_iff_eq.mpr c11
              have c11b1 : (t173 != (-1)) = false := bne_eq_false_iff_eq.mpr c11
              clear c11
              simp only [Option.some.injEq, Prod.mk.injEq] at H
              obtain ⟨rfl, rfl⟩ := H
              have p172 : 0 ≤ (2 : Int) := (by omega)
              have q172 : 2 < (l0.length : Int) := of_decide_eq_true (by first | (with_reducible assumption) | assumption)
              obtain ⟨ad172, e172, hx172_0⟩ := Kd.at_int HR0.out 2 p172 q172
              cases e172
              (try simp only [show (2 : Int).toNat = 2 from rfl, Nat.reduceMul, Nat.reduceEqDiff, Go.Addr.add, ↓reduceIte] at hx172_0)
              have qi172 : (2 < l0.length) = True := eq_true (by omega)
              (try rw [show ((2 : Int)).toNat = 2 from rfl] at hx172_0)
              replace p172 := eq_true p172
              replace q172 := eq_true q172
              go_enter Tryd.func99, Tryd.ntmps99
              go_wp2_with (first | (go_at_call 109; (with_reducible refine (jsonparser_h2I.calls k (rd l0 2) t173 _ A4.out).mono ?_); rintro e w' ⟨rfl, ⟨nd, rfl⟩⟩; (try first | exact ⟨rfl, _, World.drewN_drewN _ _ _⟩ | exact ⟨rfl, _, Eq.trans (World.drewN_drewN _ _ _) (congrArg (World.drewN _) (Nat.add_assoc _ _ _))⟩); have p174 : 0 ≤ (3 : Int) := (by omega); have q174 : 3 < (l0.length : Int) := of_decide_eq_true (by first | (with_reducible assumption) | assumption); obtain ⟨ad174, e174, hx174_0⟩ := Kd.at_int HR0.out 3 p174 q174; obtain rfl : ad172 = ad174 := (by injection e174); (try simp only [show (3 : Int).toNat = 3 from rfl, Nat.reduceMul, Nat.reduceEqDiff, Go.Addr.add, ↓reduceIte] at hx174_0); have qi174 : (3 < l0.length) = True := eq_true (by omega); (try rw [show ((3 : Int)).toNat = 3 from rfl] at hx174_0); replace p174 := eq_true p174; replace q174 := eq_true q174) | (go_at_call 109; (with_reducible refine (jsonparser_h2I.calls k (rd l0 3) t175 _ A6.out).mono ?_); rintro e w' ⟨rfl, ⟨nd, rfl⟩⟩; (try first | exact ⟨rfl, _, World.drewN_drewN _ _ _⟩ | exact ⟨rfl, _, Eq.trans (World.drewN_drewN _ _ _) (congrArg (World.drewN _) (Nat.add_assoc _ _ _))⟩); have p176 : 0 ≤ (4 : Int) := (by omega); have q176 : 4 < (l0.length : Int) := of_decide_eq_true (by first | (with_reducible assumption) | assumption); obtain ⟨ad176, e176, hx176_0⟩ := Kd.at_int HR0.out 4 p176 q176; obtain rfl : ad172 = ad176 := (by injection e176); (try simp only [show (4 : Int).toNat = 4 from rfl, Nat.reduceMul, Nat.reduceEqDiff, Go.Addr.add, ↓reduceIte] at hx176_0); have qi176 : (4 < l0.length) = True := eq_true (by omega); (try rw [show ((4 : Int)).toNat = 4 from rfl] at hx176_0); replace p176 := eq_true p176; replace q176 := eq_true q176) | (go_at_call 109; (with_reducible refine (jsonparser_h2I.calls k (rd l0 4) t177 _ A8.out).mono ?_); rintro e w' ⟨rfl, ⟨nd, rfl⟩⟩; (try first | exact ⟨rfl, _, World.drewN_drewN _ _ _⟩ | exact ⟨rfl, _, Eq.trans (World.drewN_drewN _ _ _) (congrArg (World.drewN _) (Nat.add_assoc _ _ _))⟩); have p178 : 0 ≤ (5 : Int) := (by omega); have q178 : 5 < (l0.length : Int) := of_decide_eq_true (by first | (with_reducible assumption) | assumption); obtain ⟨ad178, e178, hx178_0⟩ := Kd.at_int HR0.out 5 p178 q178; obtain rfl : ad172 = ad178 := (by injection e178); (try simp only [show (5 : Int).toNat = 5 from rfl, Nat.reduceMul, Nat.reduceEqDiff, Go.Addr.add, ↓reduceIte] at hx178_0); have qi178 : (5 < l0.length) = True := eq_true (by omega); (try rw [show ((5 : Int)).toNat = 5 from rfl] at hx178_0); replace p178 := eq_true p178; replace q178 := eq_true q178) | (go_at_call 109; (with_reducible refine (jsonparser_h2I.calls k (rd l0 5) t179 _ A10.out).mono ?_); rintro e w' ⟨rfl, ⟨nd, rfl⟩⟩; (try first | exact ⟨rfl, _, World.drewN_drewN _ _ _⟩ | exact ⟨rfl, _, Eq.trans (World.drewN_drewN _ _ _) (congrArg (World.drewN _) (Nat.add_assoc _ _ _))⟩)))
              repeat (go_quiet (first | (go_at_call 109; (with_reducible refine (jsonparser_h2I.calls k (rd l0 2) t173 _ A4.out).mono ?_); rintro e w' ⟨rfl, ⟨nd, rfl⟩⟩; (try first | exact ⟨rfl, _, World.drewN_drewN _ _ _⟩ | exact ⟨rfl, _, Eq.trans (World.drewN_drewN _ _ _) (congrArg (World.drewN _) (Nat.add_assoc _ _ _))⟩); have p174 : 0 ≤ (3 : Int) := (by omega); have q174 : 3 < (l0.length : Int) := of_decide_eq_true (by first | (with_reducible assumption) | assumption); obtain ⟨ad174, e174, hx174_0⟩ := Kd.at_int HR0.out 3 p174 q174; obtain rfl : ad172 = ad174 := (by injection e174); (try simp only [show (3 : Int).toNat = 3 from rfl, Nat.reduceMul, Nat.reduceEqDiff, Go.Addr.add, ↓reduceIte] at hx174_0); have qi174 : (3 < l0.length) = True := eq_true (by omega); (try rw [show ((3 : Int)).toNat = 3 from rfl] at hx174_0); replace p174 := eq_true p174; replace q174 := eq_true q174) | (go_at_call 109; (with_reducible refine (jsonparser_h2I.calls k (rd l0 3) t175 _ A6.out).mono ?_); rintro e w' ⟨rfl, ⟨nd, rfl⟩⟩; (try first | exact ⟨rfl, _, World.drewN_drewN _ _ _⟩ | exact ⟨rfl, _, Eq.trans (World.drewN_drewN _ _ _) (congrArg (World.drewN _) (Nat.add_assoc _ _ _))⟩); have p176 : 0 ≤ (4 : Int) := (by omega); have q176 : 4 < (l0.length : Int) := of_decide_eq_true (by first | (with_reducible assumption) | assumption); obtain ⟨ad176, e176, hx176_0⟩ := Kd.at_int HR0.out 4 p176 q176; obtain rfl : ad172 = ad176 := (by injection e176); (try simp only [show (4 : Int).toNat = 4 from rfl, Nat.reduceMul, Nat.reduceEqDiff, Go.Addr.add, ↓reduceIte] at hx176_0); have qi176 : (4 < l0.length) = True := eq_true (by omega); (try rw [show ((4 : Int)).toNat = 4 from rfl] at hx176_0); replace p176 := eq_true p176; replace q176 := eq_true q176) | (go_at_call 109; (with_reducible refine (jsonparser_h2I.calls k (rd l0 4) t177 _ A8.out).mono ?_); rintro e w' ⟨rfl, ⟨nd, rfl⟩⟩; (try first | exact ⟨rfl, _, World.drewN_drewN _ _ _⟩ | exact ⟨rfl, _, Eq.trans (World.drewN_drewN _ _ _) (congrArg (World.drewN _) (Nat.add_assoc _ _ _))⟩); have p178 : 0 ≤ (5 : Int) := (by omega); have q178 : 5 < (l0.length : Int) := of_decide_eq_true (by first | (with_reducible assumption) | assumption); obtain ⟨ad178, e178, hx178_0⟩ := Kd.at_int HR0.out 5 p178 q178; obtain rfl : ad172 = ad178 := (by injection e178); (try simp only [show (5 : Int).toNat = 5 from rfl, Nat.reduceMul, Nat.reduceEqDiff, Go.Addr.add, ↓reduceIte] at hx178_0); have qi178 : (5 < l0.length) = True := eq_true (by omega); (try rw [show ((5 : Int)).toNat = 5 from rfl] at hx178_0); replace p178 := eq_true p178; replace q178 := eq_true q178) | (go_at_call 109; (with_reducible refine (jsonparser_h2I.calls k (rd l0 5) t179 _ A10.out).mono ?_); rintro e w' ⟨rfl, ⟨nd, rfl⟩⟩; (try first | exact ⟨rfl, _, World.drewN_drewN _ _ _⟩ | exact ⟨rfl, _, Eq.trans (World.drewN_drewN _ _ _) (congrArg (World.drewN _) (Nat.add_assoc _ _ _))⟩))); try go_wp2_with (first | (go_at_call 109; (with_reducible refine (jsonparser_h2I.calls k (rd l0 2) t173 _ A4.out).mono ?_); rintro e w' ⟨rfl, ⟨nd, rfl⟩⟩; (try first | exact ⟨rfl, _, World.drewN_drewN _ _ _⟩ | exact ⟨rfl, _, Eq.trans (World.drewN_drewN _ _ _) (congrArg (World.drewN _) (Nat.add_assoc _ _ _))⟩); have p174 : 0 ≤ (3 : Int) := (by omega); have q174 : 3 < (l0.length : Int) := of_decide_eq_true (by first | (with_reducible assumption) | assumption); obtain ⟨ad174, e174, hx174_0⟩ := Kd.at_int HR0.out 3 p174 q174; obtain rfl : ad172 = ad174 := (by injection e174); (try simp only [show (3 : Int).toNat = 3 from rfl, Nat.reduceMul, Nat.reduceEqDiff, Go.Addr.add, ↓reduceIte] at hx174_0); have qi174 : (3 < l0.length) = True := eq_true (by omega); (try rw [show ((3 : Int)).toNat = 3 from rfl] at hx174_0); replace p174 := eq_true p174; replace q174 := eq_true q174) | (go_at_call 109; (with_reducible refine (jsonparser_h2I.calls k (rd l0 3) t175 _ A6.out).mono ?_); rintro e w' ⟨rfl, ⟨nd, rfl⟩⟩; (try first | exact ⟨rfl, _, World.drewN_drewN _ _ _⟩ | exact ⟨rfl, _, Eq.trans (World.drewN_drewN _ _ _) (congrArg (World.drewN _) (Nat.add_assoc _ _ _))⟩); have p176 : 0 ≤ (4 : Int) := (by omega); have q176 : 4 < (l0.length : Int) := of_decide_eq_true (by first | (with_reducible assumption) | assumption); obtain ⟨ad176, e176, hx176_0⟩ := Kd.at_int HR0.out 4 p176 q176; obtain rfl : ad172 = ad176 := (by injection e176); (try simp only [show (4 : Int).toNat = 4 from rfl, Nat.reduceMul, Nat.reduceEqDiff, Go.Addr.add, ↓reduceIte] at hx176_0); have qi176 : (4 < l0.length) = True := eq_true (by omega); (try rw [show ((4 : Int)).toNat = 4 from rfl] at hx176_0); replace p176 := eq_true p176; replace q176 := eq_true q176) | (go_at_call 109; (with_reducible refine (jsonparser_h2I.calls k (rd l0 4) t177 _ A8.out).mono ?_); rintro e w' ⟨rfl, ⟨nd, rfl⟩⟩; (try first | exact ⟨rfl, _, World.drewN_drewN _ _ _⟩ | exact ⟨rfl, _, Eq.trans (World.drewN_drewN _ _ _) (congrArg (World.drewN _) (Nat.add_assoc _ _ _))⟩); have p178 : 0 ≤ (5 : Int) := (by omega); have q178 : 5 < (l0.length : Int) := of_decide_eq_true (by first | (with_reducible assumption) | assumption); obtain ⟨ad178, e178, hx178_0⟩ := Kd.at_int HR0.out 5 p178 q178; obtain rfl : ad172 = ad178 := (by injection e178); (try simp only [show (5 : Int).toNat = 5 from rfl, Nat.reduceMul, Nat.reduceEqDiff, Go.Addr.add, ↓reduceIte] at hx178_0); have qi178 : (5 < l0.length) = True := eq_true (by omega); (try rw [show ((5 : Int)).toNat = 5 from rfl] at hx178_0); replace p178 := eq_true p178; replace q178 := eq_true q178) | (go_at_call 109; (with_reducible refine (jsonparser_h2I.calls k (rd l0 5) t179 _ A10.out).mono ?_); rintro e w' ⟨rfl, ⟨nd, rfl⟩⟩; (try first | exact ⟨rfl, _, World.drewN_drewN _ _ _⟩ | exact ⟨rfl, _, Eq.trans (World.drewN_drewN _ _ _) (congrArg (World.drewN _) (Nat.add_assoc _ _ _))⟩))))
              go_ret2
              exact ⟨by first | rfl | (simp; done) | (simp [*]; done), by repeat (first | exact Drawn0.refl _ | apply Drawn0.step)⟩
            · rw [if_neg c11] at H
              have c11b0 : (t173 == (-1)) = false := beq_eq_false_iff_ne.mpr c11
              have c11b1 : (t173 != (-1)) = true := bne_iff_ne.mpr c11
              by_cases c12 : t175 = (-1)
              · rw [if_pos c12] at H
                have c12b0 : (t175 == (-1)) = true := beq_iff_eq.mpr c12
                have c12b1 : (t175 != (-1)) = false := bne_eq_false_iff_eq.mpr c12
                clear c12
                simp only [Option.some.injEq, Prod.mk.injEq] at H
                obtain ⟨rfl, rfl⟩ := H
                have p172 : 0 ≤ (2 : Int) := (by omega)
                have q172 : 2 < (l0.length : Int) := of_decide_eq_true (by first | (with_reducible assumption) | assumption)
                obtain ⟨ad172, e172, hx172_0⟩ := Kd.at_int HR0.out 2 p172 q172
                cases e172
                (try simp only [show (2 : Int).toNat = 2 from rfl, Nat.reduceMul, Nat.reduceEqDiff, Go.Addr.add, ↓reduceIte] at hx172_0)
                have qi172 : (2 < l0.length) = True := eq_true (by omega)
                (try rw [show ((2 : Int)).toNat = 2 from rfl] at hx172_0)
                replace p172 := eq_true p172
                replace q172 := eq_true q172
                go_enter Tryd.func99, Tryd.ntmps99
                go_wp2_with (first | (go_at_call 109; (with_reducible refine (jsonparser_h2I.calls k (rd l0 2) t173 _ A4.out).mono ?_); rintro e w' ⟨rfl, ⟨nd, rfl⟩⟩; (try first | exact ⟨rfl, _, World.drewN_drewN _ _ _⟩ | exact ⟨rfl, _, Eq.trans (World.drewN_drewN _ _ _) (congrArg (World.drewN _) (Nat.add_assoc _ _ _))⟩); have p174 : 0 ≤ (3 : Int) := (by omega); have q174 : 3 < (l0.length : Int) := of_decide_eq_true (by first | (with_reducible assumption) | assumption); obtain ⟨ad174, e174, hx174_0⟩ := Kd.at_int HR0.out 3 p174 q174; obtain rfl : ad172 = ad174 := (by injection e174); (try simp only [show (3 : Int).toNat = 3 from rfl, Nat.reduceMul, Nat.reduceEqDiff, Go.Addr.add, ↓reduceIte] at hx174_0); have qi174 : (3 < l0.length) = True := eq_true (by omega); (try rw [show ((3 : Int)).toNat = 3 from rfl] at hx174_0); replace p174 := eq_true p174; replace q174 := eq_true q174) | (go_at_call 109; (with_reducible refine (jsonparser_h2I.calls k (rd l0 3) t175 _ A6.out).mono ?_); rintro e w' ⟨rfl, ⟨nd, rfl⟩⟩; (try first | exact ⟨rfl, _, World.drewN_drewN _ _ _⟩ | exact ⟨rfl, _, Eq.trans (World.drewN_drewN _ _ _) (congrArg (World.drewN _) (Nat.add_assoc _ _ _))⟩); have p176 : 0 ≤ (4 : Int) := (by omega); have q176 : 4 < (l0.length : Int) := of_decide_eq_true (by first | (with_reducible assumption) | assumption); obtain ⟨ad176, e176, hx176_0⟩ := Kd.at_int HR0.out 4 p176 q176; obtain rfl : ad172 = ad176 := (by injection e176); (try simp only [show (4 : Int).toNat = 4 from rfl, Nat.reduceMul, Nat.reduceEqDiff, Go.Addr.add, ↓reduceIte] at hx176_0); have qi176 : (4 < l0.length) = True := eq_true (by omega); (try rw [show ((4 : Int)).toNat = 4 from rfl] at hx176_0); replace p176 := eq_true p176; replace q176 := eq_true q176) | (go_at_call 109; (with_reducible refine (jsonparser_h2I.calls k (rd l0 4) t177 _ A8.out).mono ?_); rintro e w' ⟨rfl, ⟨nd, rfl⟩⟩; (try first | exact ⟨rfl, _, World.drewN_drewN _ _ _⟩ | exact ⟨rfl, _, Eq.trans (World.drewN_drewN _ _ _) (congrArg (World.drewN _) (Nat.add_assoc _ _ _))⟩); have p178 : 0 ≤ (5 : Int) := (by omega); have q178 : 5 < (l0.length : Int) := of_decide_eq_true (by first | (with_reducible assumption) | assumption); obtain ⟨ad178, e178, hx178_0⟩ := Kd.at_int HR0.out 5 p178 q178; obtain rfl : ad172 = ad178 := (by injection e178); (try simp only [show (5 : Int).toNat = 5 from rfl, Nat.reduceMul, Nat.reduceEqDiff, Go.Addr.add, ↓reduceIte] at hx178_0); have qi178 : (5 < l0.length) = True := eq_true (by omega); (try rw [show ((5 : Int)).toNat = 5 from rfl] at hx178_0); replace p178 := eq_true p178; replace q178 := eq_true q178) | (go_at_call 109; (with_reducible refine (jsonparser_h2I.calls k (rd l0 5) t179 _ A10.out).mono ?_); rintro e w' ⟨rfl, ⟨nd, rfl⟩⟩; (try first | exact ⟨rfl, _, World.drewN_drewN _ _ _⟩ | exact ⟨rfl, _, Eq.trans (World.drewN_drewN _ _ _) (congrArg (World.drewN _) (Nat.add_assoc _ _ _))⟩)))
                repeat (go_quiet (first | (go_at_call 109; (with_reducible refine (jsonparser_h2I.calls k (rd l0 2) t173 _ A4.out).mono ?_); rintro e w' ⟨rfl, ⟨nd, rfl⟩⟩; (try first | exact ⟨rfl, _, World.drewN_drewN _ _ _⟩ | exact ⟨rfl, _, Eq.trans (World.drewN_drewN _ _ _) (congrArg (World.drewN _) (Nat.add_assoc _ _ _))⟩); have p174 : 0 ≤ (3 : Int) := (by omega); have q174 : 3 < (l0.length : Int) := of_decide_eq_true (by first | (with_reducible assumption) | assumption); obtain ⟨ad174, e174, hx174_0⟩ := Kd.at_int HR0.out 3 p174 q174; obtain rfl : ad172 = ad174 := (by injection e174); (try simp only [show (3 : Int).toNat = 3 from rfl, Nat.reduceMul, Nat.reduceEqDiff, Go.Addr.add, ↓reduceIte] at hx174_0); have qi174 : (3 < l0.length) = True := eq_true (by omega); (try rw [show ((3 : Int)).toNat = 3 from rfl] at hx174_0); replace p174 := eq_true p174; replace q174 := eq_true q174) | (go_at_call 109; (with_reducible refine (jsonparser_h2I.calls k (rd l0 3) t175 _ A6.out).mono ?_); rintro e w' ⟨rfl, ⟨nd, rfl⟩⟩; (try first | exact ⟨rfl, _, World.drewN_drewN _ _ _⟩ | exact ⟨rfl, _, Eq.trans (World.drewN_drewN _ _ _) (congrArg (World.drewN _) (Nat.add_assoc _ _ _))⟩); have p176 : 0 ≤ (4 : Int) := (by omega); have q176 : 4 < (l0.length : Int) := of_decide_eq_true (by first | (with_reducible assumption) | assumption); obtain ⟨ad176, e176, hx176_0⟩ := Kd.at_int HR0.out 4 p176 q176; obtain rfl : ad172 = ad176 := (by injection e176); (try simp only [show (4 : Int).toNat = 4 from rfl, Nat.reduceMul, Nat.reduceEqDiff, Go.Addr.add, ↓reduceIte] at hx176_0); have qi176 : (4 < l0.length) = True := eq_true (by omega); (try rw [show ((4 : Int)).toNat = 4 from rfl] at hx176_0); replace p176 := eq_true p176; replace q176 := eq_true q176) | (go_at_call 109; (with_reducible refine (jsonparser_h2I.calls k (rd l0 4) t177 _ A8.out).mono ?_); rintro e w' ⟨rfl, ⟨nd, rfl⟩⟩; (try first | exact ⟨rfl, _, World.drewN_drewN _ _ _⟩ | exact ⟨rfl, _, Eq.trans (World.drewN_drewN _ _ _) (congrArg (World.drewN _) (Nat.add_assoc _ _ _))⟩); have p178 : 0 ≤ (5 : Int) := (by omega); have q178 : 5 < (l0.length : Int) := of_decide_eq_true (by first | (with_reducible assumption) | assumption); obtain ⟨ad178, e178, hx178_0⟩ := Kd.at_int HR0.out 5 p178 q178; obtain rfl : ad172 = ad178 := (by injection e178); (try simp only [show (5 : Int).toNat = 5 from rfl, Nat.reduceMul, Nat.reduceEqDiff, Go.Addr.add, ↓reduceIte] at hx178_0); have qi178 : (5 < l0.length) = True := eq_true (by omega); (try rw [show ((5 : Int)).toNat = 5 from rfl] at hx178_0); replace p178 := eq_true p178; replace q178 := eq_true q178) | (go_at_call 109; (with_reducible refine (jsonparser_h2I.calls k (rd l0 5) t179 _ A10.out).mono ?_); rintro e w' ⟨rfl, ⟨nd, rfl⟩⟩; (try first | exact ⟨rfl, _, World.drewN_drewN _ _ _⟩ | exact ⟨rfl, _, Eq.trans (World.drewN_drewN _ _ _) (congrArg (World.drewN _) (Nat.add_assoc _ _ _))⟩))); try go_wp2_with (first | (go_at_call 109; (with_reducible refine (jsonparser_h2I.calls k (rd l0 2) t173 _ A4.out).mono ?_); rintro e w' ⟨rfl, ⟨nd, rfl⟩⟩; (try first | exact ⟨rfl, _, World.drewN_drewN _ _ _⟩ | exact ⟨rfl, _, Eq.trans (World.drewN_drewN _ _ _) (congrArg (World.drewN _) (Nat.add_assoc _ _ _))⟩); have p174 : 0 ≤ (3 : Int) := (by omega); have q174 : 3 < (l0.length : Int) := of_decide_eq_true (by first | (with_reducible assumption) | assumption); obtain ⟨ad174, e174, hx174_0⟩ := Kd.at_int HR0.out 3 p174 q174; obtain rfl : ad172 = ad174 := (by injection e174); (try simp only [show (3 : Int).toNat = 3 from rfl, Nat.reduceMul, Nat.reduceEqDiff, Go.Addr.add, ↓reduceIte] at hx174_0); have qi174 : (3 < l0.length) = True := eq_true (by omega); (try rw [show ((3 : Int)).toNat = 3 from rfl] at hx174_0); replace p174 := eq_true p174; replace q174 := eq_true q174) | (go_at_call 109; (with_reducible refine (jsonparser_h2I.calls k (rd l0 3) t175 _ A6.out).mono ?_); rintro e w' ⟨rfl, ⟨nd, rfl⟩⟩; (try first | exact ⟨rfl, _, World.drewN_drewN _ _ _⟩ | exact ⟨rfl, _, Eq.trans (World.drewN_drewN _ _ _) (congrArg (World.drewN _) (Nat.add_assoc _ _ _))⟩); have p176 : 0 ≤ (4 : Int) := (by omega); have q176 : 4 < (l0.length : Int) := of_decide_eq_true (by first | (with_reducible assumption) | assumption); obtain ⟨ad176, e176, hx176_0⟩ := Kd.at_int HR0.out 4 p176 q176; obtain rfl : ad172 = ad176 := (by injection e176); (try simp only [show (4 : Int).toNat = 4 from rfl, Nat.reduceMul, Nat.reduceEqDiff, Go.Addr.add, ↓reduceIte] at hx176_0); have qi176 : (4 < l0.length) = True := eq_true (by omega); (try rw [show ((4 : Int)).toNat = 4 from rfl] at hx176_0); replace p176 := eq_true p176; replace q176 := eq_true q176) | (go_at_call 109; (with_reducible refine (jsonparser_h2I.calls k (rd l0 4) t177 _ A8.out).mono ?_); rintro e w' ⟨rfl, ⟨nd, rfl⟩⟩; (try first | exact ⟨rfl, _, World.drewN_drewN _ _ _⟩ | exact ⟨rfl, _, Eq.trans (World.drewN_drewN _ _ _) (congrArg (World.drewN _) (Nat.add_assoc _ _ _))⟩); have p178 : 0 ≤ (5 : Int) := (by omega); have q178 : 5 < (l0.length : Int) := of_decide_eq_true (by first | (with_reducible assumption) | assumption); obtain ⟨ad178, e178, hx178_0⟩ := Kd.at_int HR0.out 5 p178 q178; obtain rfl : ad172 = ad178 := (by injection e178); (try simp only [show (5 : Int).toNat = 5 from rfl, Nat.reduceMul, Nat.reduceEqDiff, Go.Addr.add, ↓reduceIte] at hx178_0); have qi178 : (5 < l0.length) = True := eq_true (by omega); (try rw [show ((5 : Int)).toNat = 5 from rfl] at hx178_0); replace p178 := eq_true p178; replace q178 := eq_true q178) | (go_at_call 109; (with_reducible refine (jsonparser_h2I.calls k (rd l0 5) t179 _ A10.out).mono ?_); rintro e w' ⟨rfl, ⟨nd, rfl⟩⟩; (try first | exact ⟨rfl, _, World.drewN_drewN _ _ _⟩ | exact ⟨rfl, _, Eq.trans (World.drewN_drewN _ _ _) (congrArg (World.drewN _) (Nat.add_assoc _ _ _))⟩))))
                go_ret2
                exact ⟨by first | rfl | (simp; done) | (simp [*]; done), by repeat (first | exact Drawn0.refl _ | apply Drawn0.step)⟩
              · rw [if_neg c12] at H
                have c12b0 : (t175 == (-1)) = false := beq_eq_false_iff_ne.mpr c12
                have c12b1 : (t175 != (-1)) = true := bne_iff_ne.mpr c12
                by_cases c13 : t177 = (-1)
                · rw [if_pos c13] at H
                  have c13b0 : (t177 == (-1)) = true := beq_iff_eq.mpr c13
                  have c13b1 : (t177 != (-1)) = false := bne_eq_false_iff_eq.mpr c13
                  clear c13
                  simp only [Option.some.injEq, Prod.mk.injEq] at H
                  obtain ⟨rfl, rfl⟩ := H
                  have p172 : 0 ≤ (2 : Int) := (by omega)
                  have q172 : 2 < (l0.length : Int) := of_decide_eq_true (by first | (with_reducible assumption) | assumption)
                  obtain ⟨ad172, e172, hx172_0⟩ := Kd.at_int HR0.out 2 p172 q172
                  cases e172
                  (try simp only [show (2 : Int).toNat = 2 from rfl, Nat.reduceMul, Nat.reduceEqDiff, Go.Addr.add, ↓reduceIte] at hx172_0)
                  have qi172 : (2 < l0.length) = True := eq_true (by omega)
                  (try rw [show ((2 : Int)).toNat = 2 from rfl] at hx172_0)
                  replace p172 := eq_true p172
                  replace q172 := eq_true q172
                  go_enter Tryd.func99, Tryd.ntmps99
                  go_wp2_with (first | (go_at_call 109; (with_reducible refine (jsonparser_h2I.calls k (rd l0 2) t173 _ A4.out).mono ?_); rintro e w' ⟨rfl, ⟨nd, rfl⟩⟩; (try first | exact ⟨rfl, _, World.drewN_drewN _ _ _⟩ | exact ⟨rfl, _, Eq.trans (World.drewN_drewN _ _ _) (congrArg (World.drewN _) (Nat.add_assoc _ _ _))⟩); have p174 : 0 ≤ (3 : Int) := (by omega); have q174 : 3 < (l0.length : Int) := of_decide_eq_true (by first | (with_reducible assumption) | assumption); obtain ⟨ad174, e174, hx174_0⟩ := Kd.at_int HR0.out 3 p174 q174; obtain rfl : ad172 = ad174 := (by injection e174); (try simp only [show (3 : Int).toNat = 3 from rfl, Nat.reduceMul, Nat.reduceEqDiff, Go.Addr.add, ↓reduceIte] at hx174_0); have qi174 : (3 < l0.length) = True := eq_true (by omega); (try rw [show ((3 : Int)).toNat = 3 from rfl] at hx174_0); replace p174 := eq_true p174; replace q174 := eq_true q174) | (go_at_call 109; (with_reducible refine (jsonparser_h2I.calls k (rd l0 3) t175 _ A6.out).mono ?_); rintro e w' ⟨rfl, ⟨nd, rfl⟩⟩; (try first | exact ⟨rfl, _, World.drewN_drewN _ _ _⟩ | exact ⟨rfl, _, Eq.trans (World.drewN_drewN _ _ _) (congrArg (World.drewN _) (Nat.add_assoc _ _ _))⟩); have p176 : 0 ≤ (4 : Int) := (by omega); have q176 : 4 < (l0.length : Int) := of_decide_eq_true (by first | (with_reducible assumption) | assumption); obtain ⟨ad176, e176, hx176_0⟩ := Kd.at_int HR0.out 4 p176 q176; obtain rfl : ad172 = ad176 := (by injection e176); (try simp only [show (4 : Int).toNat = 4 from rfl, Nat.reduceMul, Nat.reduceEqDiff, Go.Addr.add, ↓reduceIte] at hx176_0); have qi176 : (4 < l0.length) = True := eq_true (by omega); (try rw [show ((4 : Int)).toNat = 4 from rfl] at hx176_0); replace p176 := eq_true p176; replace q176 := eq_true q176) | (go_at_call 109; (with_reducible refine (jsonparser_h2I.calls k (rd l0 4) t177 _ A8.out).mono ?_); rintro e w' ⟨rfl, ⟨nd, rfl⟩⟩; (try first | exact ⟨rfl, _, World.drewN_drewN _ _ _⟩ | exact ⟨rfl, _, Eq.trans (World.drewN_drewN _ _ _) (congrArg (World.drewN _) (Nat.add_assoc _ _ _))⟩); have p178 : 0 ≤ (5 : Int) := (by omega); have q178 : 5 < (l0.length : Int) := of_decide_eq_true (by first | (with_reducible assumption) | assumption); obtain ⟨ad178, e178, hx178_0⟩ := Kd.at_int HR0.out 5 p178 q178; obtain rfl : ad172 = ad178 := (by injection e178); (try simp only [show (5 : Int).toNat = 5 from rfl, Nat.reduceMul, Nat.reduceEqDiff, Go.Addr.add, ↓reduceIte] at hx178_0); have qi178 : (5 < l0.length) = True := eq_true (by omega); (try rw [show ((5 : Int)).toNat = 5 from rfl] at hx178_0); replace p178 := eq_true p178; replace q178 := eq_true q178) | (go_at_call 109; (with_reducible refine (jsonparser_h2I.calls k (rd l0 5) t179 _ A10.out).mono ?_); rintro e w' ⟨rfl, ⟨nd, rfl⟩⟩; (try first | exact ⟨rfl, _, World.drewN_drewN _ _ _⟩ | exact ⟨rfl, _, Eq.trans (World.drewN_drewN _ _ _) (congrArg (World.drewN _) (Nat.add_assoc _ _ _))⟩)))
                  repeat (go_quiet (first | (go_at_call 109; (with_reducible refine (jsonparser_h2I.calls k (rd l0 2) t173 _ A4.out).mono ?_); rintro e w' ⟨rfl, ⟨nd, rfl⟩⟩; (try first | exact ⟨rfl, _, World.drewN_drewN _ _ _⟩ | exact ⟨rfl, _, Eq.trans (World.drewN_drewN _ _ _) (congrArg (World.drewN _) (Nat.add_assoc _ _ _))⟩); have p174 : 0 ≤ (3 : Int) := (by omega); have q174 : 3 < (l0.length : Int) := of_decide_eq_true (by first | (with_reducible assumption) | assumption); obtain ⟨ad174, e174, hx174_0⟩ := Kd.at_int HR0.out 3 p174 q174; obtain rfl : ad172 = ad174 := (by injection e174); (try simp only [show (3 : Int).toNat = 3 from rfl, Nat.reduceMul, Nat.reduceEqDiff, Go.Addr.add, ↓reduceIte] at hx174_0); have qi174 : (3 < l0.length) = True := eq_true (by omega); (try rw [show ((3 : Int)).toNat = 3 from rfl] at hx174_0); replace p174 := eq_true p174; replace q174 := eq_true q174) | (go_at_call 109; (with_reducible refine (jsonparser_h2I.calls k (rd l0 3) t175 _ A6.out).mono ?_); rintro e w' ⟨rfl, ⟨nd, rfl⟩⟩; (try first | exact ⟨rfl, _, World.drewN_drewN _ _ _⟩ | exact ⟨rfl, _, Eq.trans (World.drewN_drewN _ _ _) (congrArg (World.drewN _) (Nat.add_assoc _ _ _))⟩); have p176 : 0 ≤ (4 : Int) := (by omega); have q176 : 4 < (l0.length : Int) := of_decide_eq_true (by first | (with_reducible assumption) | assumption); obtain ⟨ad176, e176, hx176_0⟩ := Kd.at_int HR0.out 4 p176 q176; obtain rfl : ad172 = ad176 := (by injection e176); (try simp only [show (4 : Int).toNat = 4 from rfl, Nat.reduceMul, Nat.reduceEqDiff, Go.Addr.add, ↓reduceIte] at hx176_0); have qi176 : (4 < l0.length) = True := eq_true (by omega); (try rw [show ((4 : Int)).toNat = 4 from rfl] at hx176_0); replace p176 := eq_true p176; replace q176 := eq_true q176) | (go_at_call 109; (with_reducible refine (jsonparser_h2I.calls k (rd l0 4) t177 _ A8.out).mono ?_); rintro e w' ⟨rfl, ⟨nd, rfl⟩⟩; (try first | exact ⟨rfl, _, World.drewN_drewN _ _ _⟩ | exact ⟨rfl, _, Eq.trans (World.drewN_drewN _ _ _) (congrArg (World.drewN _) (Nat.add_assoc _ _ _))⟩); have p178 : 0 ≤ (5 : Int) := (by omega); have q178 : 5 < (l0.length : Int) := of_decide_eq_true (by first | (with_reducible assumption) | assumption); obtain ⟨ad178, e178, hx178_0⟩ := Kd.at_int HR0.out 5 p178 q178; obtain rfl : ad172 = ad178 := (by injection e178); (try simp only [show (5 : Int).toNat = 5 from rfl, Nat.reduceMul, Nat.reduceEqDiff, Go.Addr.add, ↓reduceIte] at hx178_0); have qi178 : (5 < l0.length) = True := eq_true (by omega); (try rw [show ((5 : Int)).toNat = 5 from rfl] at hx178_0); replace p178 := eq_true p178; replace q178 := eq_true q178) | (go_at_call 109; (with_reducible refine (jsonparser_h2I.calls k (rd l0 5) t179 _ A10.out).mono ?_); rintro e w' ⟨rfl, ⟨nd, rfl⟩⟩; (try first | exact ⟨rfl, _, World.drewN_drewN _ _ _⟩ | exact ⟨rfl, _, Eq.trans (World.drewN_drewN _ _ _) (congrArg (World.drewN _) (Nat.add_assoc _ _ _))⟩))); try go_wp2_with (first | (go_at_call 109; (with_reducible refine (jsonparser_h2I.calls k (rd l0 2) t173 _ A4.out).mono ?_); rintro e w' ⟨rfl, ⟨nd, rfl⟩⟩; (try first | exact ⟨rfl, _, World.drewN_drewN _ _ _⟩ | exact ⟨rfl, _, Eq.trans (World.drewN_drewN _ _ _) (congrArg (World.drewN _) (Nat.add_assoc _ _ _))⟩); have p174 : 0 ≤ (3 : Int) := (by omega); have q174 : 3 < (l0.length : Int) := of_decide_eq_true (by first | (with_reducible assumption) | assumption); obtain ⟨ad174, e174, hx174_0⟩ := Kd.at_int HR0.out 3 p174 q174; obtain rfl : ad172 = ad174 := (by injection e174); (try simp only [show (3 : Int).toNat = 3 from rfl, Nat.reduceMul, Nat.reduceEqDiff, Go.Addr.add, ↓reduceIte] at hx174_0); have qi174 : (3 < l0.length) = True := eq_true (by omega); (try rw [show ((3 : Int)).toNat = 3 from rfl] at hx174_0); replace p174 := eq_true p174; replace q174 := eq_true q174) | (go_at_call 109; (with_reducible refine (jsonparser_h2I.calls k (rd l0 3) t175 _ A6.out).mono ?_); rintro e w' ⟨rfl, ⟨nd, rfl⟩⟩; (try first | exact ⟨rfl, _, World.drewN_drewN _ _ _⟩ | exact ⟨rfl, _, Eq.trans (World.drewN_drewN _ _ _) (congrArg (World.drewN _) (Nat.add_assoc _ _ _))⟩); have p176 : 0 ≤ (4 : Int) := (by omega); have q176 : 4 < (l0.length : Int) := of_decide_eq_true (by first | (with_reducible assumption) | assumption); obtain ⟨ad176, e176, hx176_0⟩ := Kd.at_int HR0.out 4 p176 q176; obtain rfl : ad172 = ad176 := (by injection e176); (try simp only [show (4 : Int).toNat = 4 from rfl, Nat.reduceMul, Nat.reduceEqDiff, Go.Addr.add, ↓reduceIte] at hx176_0); have qi176 : (4 < l0.length) = True := eq_true (by omega); (try rw [show ((4 : Int)).toNat = 4 from rfl] at hx176_0); replace p176 := eq_true p176; replace q176 := eq_true q176) | (go_at_call 109; (with_reducible refine (jsonparser_h2I.calls k (rd l0 4) t177 _ A8.out).mono ?_); rintro e w' ⟨rfl, ⟨nd, rfl⟩⟩; (try first | exact ⟨rfl, _, World.drewN_drewN _ _ _⟩ | exact ⟨rfl, _, Eq.trans (World.drewN_drewN _ _ _) (congrArg (World.drewN _) (Nat.add_assoc _ _ _))⟩); have p178 : 0 ≤ (5 : Int) := (by omega); have q178 : 5 < (l0.length : Int) := of_decide_eq_true (by first | (with_reducible assumption) | assumption); obtain ⟨ad178, e178, hx178_0⟩ := Kd.at_int HR0.out 5 p178 q178; obtain rfl : ad172 = ad178 := (by injection e178); (try simp only [show (5 : Int).toNat = 5 from rfl, Nat.reduceMul, Nat.reduceEqDiff, Go.Addr.add, ↓reduceIte] at hx178_0); have qi178 : (5 < l0.length) = True := eq_true (by omega); (try rw [show ((5 : Int)).toNat = 5 from rfl] at hx178_0); replace p178 := eq_true p178; replace q178 := eq_true q178) | (go_at_call 109; (with_reducible refine (jsonparser_h2I.calls k (rd l0 5) t179 _ A10.out).mono ?_); rintro e w' ⟨rfl, ⟨nd, rfl⟩⟩; (try first | exact ⟨rfl, _, World.drewN_drewN _ _ _⟩ | exact ⟨rfl, _, Eq.trans (World.drewN_drewN _ _ _) (congrArg (World.drewN _) (Nat.add_assoc _ _ _))⟩))))
                  go_ret2
                  exact ⟨by first | rfl | (simp; done) | (simp [*]; done), by repeat (first | exact Drawn0.refl _ | apply Drawn0.step)⟩
                · rw [if_neg c13] at H
                  have c13b0 : (t177 == (-1)) = false := beq_eq_false_iff_ne.mpr c13
                  have c13b1 : (t177 != (-1)) = true := bne_iff_ne.mpr c13
                  by_cases c14 : t179 = (-1)
                  · rw [if_pos c14] at H
                    have c14b0 : (t179 == (-1)) = true := beq_iff_eq.mpr c14
                    have c14b1 : (t179 != (-1)) = false := bne_eq_false_iff_eq.mpr c14
                    clear c14
                    simp only [Option.some.injEq, Prod.mk.injEq] at H
                    obtain ⟨rfl, rfl⟩ := H
                    have p172 : 0 ≤ (2 : Int) := (by omega)
                    have q172 : 2 < (l0.length : Int) := of_decide_eq_true (by first | (with_reducible assumption) | assumption)
                    obtain ⟨ad172, e172, hx172_0⟩ := Kd.at_int HR0.out 2 p172 q172
                    cases e172
                    (try simp only [show (2 : Int).toNat = 2 from rfl, Nat.reduceMul, Nat.reduceEqDiff, Go.Addr.add, ↓reduceIte] at hx172_0)
                    have qi172 : (2 < l0.length) = True := eq_true (by omega)
                    (try rw [show ((2 : Int)).toNat = 2 from rfl] at hx172_0)
                    replace p172 := eq_true p172
                    replace q172 := eq_true q172
                    go_enter Tryd.func99, Tryd.ntmps99
                    go_wp2_with (first | (go_at_call 109; (with_reducible refine (jsonparser_h2I.calls k (rd l0 2) t173 _ A4.out).mono ?_); rintro e w' ⟨rfl, ⟨nd, rfl⟩⟩; (try first | exact ⟨rfl, _, World.drewN_drewN _ _ _⟩ | exact ⟨rfl, _, Eq.trans (World.drewN_drewN _ _ _) (congrArg (World.drewN _) (Nat.add_assoc _ _ _))⟩); have p174 : 0 ≤ (3 : Int) := (by omega); have q174 : 3 < (l0.length : Int) := of_decide_eq_true (by first | (with_reducible assumption) | assumption); obtain ⟨ad174, e174, hx174_0⟩ := Kd.at_int HR0.out 3 p174 q174; obtain rfl : ad172 = ad174 := (by injection e174); (try simp only [show (3 : Int).toNat = 3 from rfl, Nat.reduceMul, Nat.reduceEqDiff, Go.Addr.add, ↓reduceIte] at hx174_0); have qi174 : (3 < l0.length) = True := eq_true (by omega); (try rw [show ((3 : Int)).toNat = 3 from rfl] at hx174_0); replace p174 := eq_true p174; replace q174 := eq_true q174) | (go_at_call 109; (with_reducible refine (jsonparser_h2I.calls k (rd l0 3) t175 _ A6.out).mono ?_); rintro e w' ⟨rfl, ⟨nd, rfl⟩⟩; (try first | exact ⟨rfl, _, World.drewN_drewN _ _ _⟩ | exact ⟨rfl, _, Eq.trans (World.drewN_drewN _ _ _) (congrArg (World.drewN _) (Nat.add_assoc _ _ _))⟩); have p176 : 0 ≤ (4 : Int) := (by omega); have q176 : 4 < (l0.length : Int) := of_decide_eq_true (by first | (with_reducible assumption) | assumption); obtain ⟨ad176, e176, hx176_0⟩ := Kd.at_int HR0.out 4 p176 q176; obtain rfl : ad172 = ad176 := (by injection e176); (try simp only [show (4 : Int).toNat = 4 from rfl, Nat.reduceMul, Nat.reduceEqDiff, Go.Addr.add, ↓reduceIte] at hx176_0); have qi176 : (4 < l0.length) = True := eq_true (by omega); (try rw [show ((4 : Int)).toNat = 4 from rfl] at hx176_0); replace p176 := eq_true p176; replace q176 := eq_true q176) | (go_at_call 109; (with_reducible refine (jsonparser_h2I.calls k (rd l0 4) t177 _ A8.out).mono ?_); rintro e w' ⟨rfl, ⟨nd, rfl⟩⟩; (try first | exact ⟨rfl, _, World.drewN_drewN _ _ _⟩ | exact ⟨rfl, _, Eq.trans (World.drewN_drewN _ _ _) (congrArg (World.drewN _) (Nat.add_assoc _ _ _))⟩); have p178 : 0 ≤ (5 : Int) := (by omega); have q178 : 5 < (l0.length : Int) := of_decide_eq_true (by first | (with_reducible assumption) | assumption); obtain ⟨ad178, e178, hx178_0⟩ := Kd.at_int HR0.out 5 p178 q178; obtain rfl : ad172 = ad178 := (by injection e178); (try simp only [show (5 : Int).toNat = 5 from rfl, Nat.reduceMul, Nat.reduceEqDiff, Go.Addr.add, ↓reduceIte] at hx178_0); have qi178 : (5 < l0.length) = True := eq_true (by omega); (try rw [show ((5 : Int)).toNat = 5 from rfl] at hx178_0); replace p178 := eq_true p178; replace q178 := eq_true q178) | (go_at_call 109; (with_reducible refine (jsonparser_h2I.calls k (rd l0 5) t179 _ A10.out).mono ?_); rintro e w' ⟨rfl, ⟨nd, rfl⟩⟩; (try first | exact ⟨rfl, _, World.drewN_drewN _ _ _⟩ | exact ⟨rfl, _, Eq.trans (World.drewN_drewN _ _ _) (congrArg (World.drewN _) (Nat.add_assoc _ _ _))⟩)))
                    repeat (go_quiet (first | (go_at_call 109; (with_reducible refine (jsonparser_h2I.calls k (rd l0 2) t173 _ A4.out).mono ?_); rintro e w' ⟨rfl, ⟨nd, rfl⟩⟩; (try first | exact ⟨rfl, _, World.drewN_drewN _ _ _⟩ | exact ⟨rfl, _, Eq.trans (World.drewN_drewN _ _ _) (congrArg (World.drewN _) (Nat.add_assoc _ _ _))⟩); have p174 : 0 ≤ (3 : Int) := (by omega); have q174 : 3 < (l0.length : Int) := of_decide_eq_true (by first | (with_reducible assumption) | assumption); obtain ⟨ad174, e174, hx174_0⟩ := Kd.at_int HR0.out 3 p174 q174; obtain rfl : ad172 = ad174 := (by injection e174); (try simp only [show (3 : Int).toNat = 3 from rfl, Nat.reduceMul, Nat.reduceEqDiff, Go.Addr.add, ↓reduceIte] at hx174_0); have qi174 : (3 < l0.length) = True := eq_true (by omega); (try rw [show ((3 : Int)).toNat = 3 from rfl] at hx174_0); replace p174 := eq_true p174; replace q174 := eq_true q174) | (go_at_call 109; (with_reducible refine (jsonparser_h2I.calls k (rd l0 3) t175 _ A6.out).mono ?_); rintro e w' ⟨rfl, ⟨nd, rfl⟩⟩; (try first | exact ⟨rfl, _, World.drewN_drewN _ _ _⟩ | exact ⟨rfl, _, Eq.trans (World.drewN_drewN _ _ _) (congrArg (World.drewN _) (Nat.add_assoc _ _ _))⟩); have p176 : 0 ≤ (4 : Int) := (by omega); have q176 : 4 < (l0.length : Int) := of_decide_eq_true (by first | (with_reducible assumption) | assumption); obtain ⟨ad176, e176, hx176_0⟩ := Kd.at_int HR0.out 4 p176 q176; obtain rfl : ad172 = ad176 := (by injection e176); (try simp only [show (4 : Int).toNat = 4 from rfl, Nat.reduceMul, Nat.reduceEqDiff, Go.Addr.add, ↓reduceIte] at hx176_0); have qi176 : (4 < l0.length) = True := eq_true (by omega); (try rw [show ((4 : Int)).toNat = 4 from rfl] at hx176_0); replace p176 := eq_true p176; replace q176 := eq_true q176) | (go_at_call 109; (with_reducible refine (jsonparser_h2I.calls k (rd l0 4) t177 _ A8.out).mono ?_); rintro e w' ⟨rfl, ⟨nd, rfl⟩⟩; (try first | exact ⟨rfl, _, World.drewN_drewN _ _ _⟩ | exact ⟨rfl, _, Eq.trans (World.drewN_drewN _ _ _) (congrArg (World.drewN _) (Nat.add_assoc _ _ _))⟩); have p178 : 0 ≤ (5 : Int) := (by omega); have q178 : 5 < (l0.length : Int) := of_decide_eq_true (by first | (with_reducible assumption) | assumption); obtain ⟨ad178, e178, hx178_0⟩ := Kd.at_int HR0.out 5 p178 q178; obtain rfl : ad172 = ad178 := (by injection e178); (try simp only [show (5 : Int).toNat = 5 from rfl, Nat.reduceMul, Nat.reduceEqDiff, Go.Addr.add, ↓reduceIte] at hx178_0); have qi178 : (5 < l0.length) = True := eq_true (by omega); (try rw [show ((5 : Int)).toNat = 5 from rfl] at hx178_0); replace p178 := eq_true p178; replace q178 := eq_true q178) | (go_at_call 109; (with_reducible refine (jsonparser_h2I.calls k (rd l0 5) t179 _ A10.out).mono ?_); rintro e w' ⟨rfl, ⟨nd, rfl⟩⟩; (try first | exact ⟨rfl, _, World.drewN_drewN _ _ _⟩ | exact ⟨rfl, _, Eq.trans (World.drewN_drewN _ _ _) (congrArg (World.drewN _) (Nat.add_assoc _ _ _))⟩))); try go_wp2_with (first | (go_at_call 109; (with_reducible refine (jsonparser_h2I.calls k (rd l0 2) t173 _ A4.out).mono ?_); rintro e w' ⟨rfl, ⟨nd, rfl⟩⟩; (try first | exact ⟨rfl, _, World.drewN_drewN _ _ _⟩ | exact ⟨rfl, _, Eq.trans (World.drewN_drewN _ _ _) (congrArg (World.drewN _) (Nat.add_assoc _ _ _))⟩); have p174 : 0 ≤ (3 : Int) := (by omega); have q174 : 3 < (l0.length : Int) := of_decide_eq_true (by first | (with_reducible assumption) | assumption); obtain ⟨ad174, e174, hx174_0⟩ := Kd.at_int HR0.out 3 p174 q174; obtain rfl : ad172 = ad174 := (by injection e174); (try simp only [show (3 : Int).toNat = 3 from rfl, Nat.reduceMul, Nat.reduceEqDiff, Go.Addr.add, ↓reduceIte] at hx174_0); have qi174 : (3 < l0.length) = True := eq_true (by omega); (try rw [show ((3 : Int)).toNat = 3 from rfl] at hx174_0); replace p174 := eq_true p174; replace q174 := eq_true q174) | (go_at_call 109; (with_reducible refine (jsonparser_h2I.calls k (rd l0 3) t175 _ A6.out).mono ?_); rintro e w' ⟨rfl, ⟨nd, rfl⟩⟩; (try first | exact ⟨rfl, _, World.drewN_drewN _ _ _⟩ | exact ⟨rfl, _, Eq.trans (World.drewN_drewN _ _ _) (congrArg (World.drewN _) (Nat.add_assoc _ _ _))⟩); have p176 : 0 ≤ (4 : Int) := (by omega); have q176 : 4 < (l0.length : Int) := of_decide_eq_true (by first | (with_reducible assumption) | assumption); obtain ⟨ad176, e176, hx176_0⟩ := Kd.at_int HR0.out 4 p176 q176; obtain rfl : ad172 = ad176 := (by injection e176); (try simp only [show (4 : Int).toNat = 4 from rfl, Nat.reduceMul, Nat.reduceEqDiff, Go.Addr.add, ↓reduceIte] at hx176_0); have qi176 : (4 < l0.length) = True := eq_true (by omega); (try rw [show ((4 : Int)).toNat = 4 from rfl] at hx176_0); replace p176 := eq_true p176; replace q176 := eq_true q176) | (go_at_call 109; (with_reducible refine (jsonparser_h2I.calls k (rd l0 4) t177 _ A8.out).mono ?_); rintro e w' ⟨rfl, ⟨nd, rfl⟩⟩; (try first | exact ⟨rfl, _, World.drewN_drewN _ _ _⟩ | exact ⟨rfl, _, Eq.trans (World.drewN_drewN _ _ _) (congrArg (World.drewN _) (Nat.add_assoc _ _ _))⟩); have p178 : 0 ≤ (5 : Int) := (by omega); have q178 : 5 < (l0.length : Int) := of_decide_eq_true (by first | (with_reducible assumption) | assumption); obtain ⟨ad178, e178, hx178_0⟩ := Kd.at_int HR0.out 5 p178 q178; obtain rfl : ad172 = ad178 := (by injection e178); (try simp only [show (5 : Int).toNat = 5 from rfl, Nat.reduceMul, Nat.reduceEqDiff, Go.Addr.add, ↓reduceIte] at hx178_0); have qi178 : (5 < l0.length) = True := eq_true (by omega); (try rw [show ((5 : Int)).toNat = 5 from rfl] at hx178_0); replace p178 := eq_true p178; replace q178 := eq_true q178) | (go_at_call 109; (with_reducible refine (jsonparser_h2I.calls k (rd l0 5) t179 _ A10.out).mono ?_); rintro e w' ⟨rfl, ⟨nd, rfl⟩⟩; (try first | exact ⟨rfl, _, World.drewN_drewN _ _ _⟩ | exact ⟨rfl, _, Eq.trans (World.drewN_drewN _ _ _) (congrArg (World.drewN _) (Nat.add_assoc _ _ _))⟩))))
                    go_ret2
                    exact ⟨by first | rfl | (simp; done) | (simp [*]; done), by repeat (first | exact Drawn0.refl _ | apply Drawn0.step)⟩
                  · rw [if_neg c14] at H
                    have c14b0 : (t179 == (-1)) = false := beq_eq_false_iff_ne.mpr c14
                    have c14b1 : (t179 != (-1)) = true := bne_iff_ne.mpr c14
                    simp only [Option.some.injEq, Prod.mk.injEq] at H
                    obtain ⟨rfl, rfl⟩ := H
                    have p172 : 0 ≤ (2 : Int) := (by omega)
                    have q172 : 2 < (l0.length : Int) := of_decide_eq_true (by first | (with_reducible assumption) | assumption)
                    obtain ⟨ad172, e172, hx172_0⟩ := Kd.at_int HR0.out 2 p172 q172
                    cases e172
                    (try simp only [show (2 : Int).toNat = 2 from rfl, Nat.reduceMul, Nat.reduceEqDiff, Go.Addr.add, ↓reduceIte] at hx172_0)
                    have qi172 : (2 < l0.length) = True := eq_true (by omega)
                    (try rw [show ((2 : Int)).toNat = 2 from rfl] at hx172_0)
                    replace p172 := eq_true p172
                    replace q172 := eq_true q172
                    go_enter Tryd.func99, Tryd.ntmps99
                    go_wp2_with (first | (go_at_call 109; (with_reducible refine (jsonparser_h2I.calls k (rd l0 2) t173 _ A4.out).mono ?_); rintro e w' ⟨rfl, ⟨nd, rfl⟩⟩; (try first | exact ⟨rfl, _, World.drewN_drewN _ _ _⟩ | exact ⟨rfl, _, Eq.trans (World.drewN_drewN _ _ _) (congrArg (World.drewN _) (Nat.add_assoc _ _ _))⟩); have p174 : 0 ≤ (3 : Int) := (by omega); have q174 : 3 < (l0.length : Int) := of_decide_eq_true (by first | (with_reducible assumption) | assumption); obtain ⟨ad174, e174, hx174_0⟩ := Kd.at_int HR0.out 3 p174 q174; obtain rfl : ad172 = ad174 := (by injection e174); (try simp only [show (3 : Int).toNat = 3 from rfl, Nat.reduceMul, Nat.reduceEqDiff, Go.Addr.add, ↓reduceIte] at hx174_0); have qi174 : (3 < l0.length) = True := eq_true (by omega); (try rw [show ((3 : Int)).toNat = 3 from rfl] at hx174_0); replace p174 := eq_true p174; replace q174 := eq_true q174) | (go_at_call 109; (with_reducible refine (jsonparser_h2I.calls k (rd l0 3) t175 _ A6.out).mono ?_); rintro e w' ⟨rfl, ⟨nd, rfl⟩⟩; (try first | exact ⟨rfl, _, World.drewN_drewN _ _ _⟩ | exact ⟨rfl, _, Eq.trans (World.drewN_drewN _ _ _) (congrArg (World.drewN _) (Nat.add_assoc _ _ _))⟩); have p176 : 0 ≤ (4 : Int) := (by omega); have q176 : 4 < (l0.length : Int) := of_decide_eq_true (by first | (with_reducible assumption) | assumption); obtain ⟨ad176, e176, hx176_0⟩ := Kd.at_int HR0.out 4 p176 q176; obtain rfl : ad172 = ad176 := (by injection e176); (try simp only [show (4 : Int).toNat = 4 from rfl, Nat.reduceMul, Nat.reduceEqDiff, Go.Addr.add, ↓reduceIte] at hx176_0); have qi176 : (4 < l0.length) = True := eq_true (by omega); (try rw [show ((4 : Int)).toNat = 4 from rfl] at hx176_0); replace p176 := eq_true p176; replace q176 := eq_true q176) | (go_at_call 109; (with_reducible refine (jsonparser_h2I.calls k (rd l0 4) t177 _ A8.out).mono ?_); rintro e w' ⟨rfl, ⟨nd, rfl⟩⟩; (try first | exact ⟨rfl, _, World.drewN_drewN _ _ _⟩ | exact ⟨rfl, _, Eq.trans (World.drewN_drewN _ _ _) (congrArg (World.drewN _) (Nat.add_assoc _ _ _))⟩); have p178 : 0 ≤ (5 : Int) := (by omega); have q178 : 5 < (l0.length : Int) := of_decide_eq_true (by first | (with_reducible assumption) | assumption); obtain ⟨ad178, e178, hx178_0⟩ := Kd.at_int HR0.out 5 p178 q178; obtain rfl : ad172 = ad178 := (by injection e178); (try simp only [show (5 : Int).toNat = 5 from rfl, Nat.reduceMul, Nat.reduceEqDiff, Go.Addr.add, ↓reduceIte] at hx178_0); have qi178 : (5 < l0.length) = True := eq_true (by omega); (try rw [show ((5 : Int)).toNat = 5 from rfl] at hx178_0); replace p178 := eq_true p178; replace q178 := eq_true q178) | (go_at_call 109; (with_reducible refine (jsonparser_h2I.calls k (rd l0 5) t179 _ A10.out).mono ?_); rintro e w' ⟨rfl, ⟨nd, rfl⟩⟩; (try first | exact ⟨rfl, _, World.drewN_drewN _ _ _⟩ | exact ⟨rfl, _, Eq.trans (World.drewN_drewN _ _ _) (congrArg (World.drewN _) (Nat.add_assoc _ _ _))⟩)))
                    repeat (go_quiet (first | (go_at_call 109; (with_reducible refine (jsonparser_h2I.calls k (rd l0 2) t173 _ A4.out).mono ?_); rintro e w' ⟨rfl, ⟨nd, rfl⟩⟩; (try first | exact ⟨rfl, _, World.drewN_drewN _ _ _⟩ | exact ⟨rfl, _, Eq.trans (World.drewN_drewN _ _ _) (congrArg (World.drewN _) (Nat.add_assoc _ _ _))⟩); have p174 : 0 ≤ (3 : Int) := (by omega); have q174 : 3 < (l0.length : Int) := of_decide_eq_true (by first | (with_reducible assumption) | assumption); obtain ⟨ad174, e174, hx174_0⟩ := Kd.at_int HR0.out 3 p174 q174; obtain rfl : ad172 = ad174 := (by injection e174); (try simp only [show (3 : Int).toNat = 3 from rfl, Nat.reduceMul, Nat.reduceEqDiff, Go.Addr.add, ↓reduceIte] at hx174_0); have qi174 : (3 < l0.length) = True := eq_true (by omega); (try rw [show ((3 : Int)).toNat = 3 from rfl] at hx174_0); replace p174 := eq_true p174; replace q174 := eq_true q174) | (go_at_call 109; (with_reducible refine (jsonparser_h2I.calls k (rd l0 3) t175 _ A6.out).mono ?_); rintro e w' ⟨rfl, ⟨nd, rfl⟩⟩; (try first | exact ⟨rfl, _, World.drewN_drewN _ _ _⟩ | exact ⟨rfl, _, Eq.trans (World.drewN_drewN _ _ _) (congrArg (World.drewN _) (Nat.add_assoc _ _ _))⟩); have p176 : 0 ≤ (4 : Int) := (by omega); have q176 : 4 < (l0.length : Int) := of_decide_eq_true (by first | (with_reducible assumption) | assumption); obtain ⟨ad176, e176, hx176_0⟩ := Kd.at_int HR0.out 4 p176 q176; obtain rfl : ad172 = ad176 := (by injection e176); (try simp only [show (4 : Int).toNat = 4 from rfl, Nat.reduceMul, Nat.reduceEqDiff, Go.Addr.add, ↓reduceIte] at hx176_0); have qi176 : (4 < l0.length) = True := eq_true (by omega); (try rw [show ((4 : Int)).toNat = 4 from rfl] at hx176_0); replace p176 := eq_true p176; replace q176 := eq_true q176) | (go_at_call 109; (with_reducible refine (jsonparser_h2I.calls k (rd l0 4) t177 _ A8.out).mono ?_); rintro e w' ⟨rfl, ⟨nd, rfl⟩⟩; (try first | exact ⟨rfl, _, World.drewN_drewN _ _ _⟩ | exact ⟨rfl, _, Eq.trans (World.drewN_drewN _ _ _) (congrArg (World.drewN _) (Nat.add_assoc _ _ _))⟩); have p178 : 0 ≤ (5 : Int) := (by omega); have q178 : 5 < (l0.length : Int) := of_decide_eq_true (by first | (with_reducible assumption) | assumption); obtain ⟨ad178, e178, hx178_0⟩ := Kd.at_int HR0.out 5 p178 q178; obtain rfl : ad172 = ad178 := (by injection e178); (try simp only [show (5 : Int).toNat = 5 from rfl, Nat.reduceMul, Nat.reduceEqDiff, Go.Addr.add, ↓reduceIte] at hx178_0); have qi178 : (5 < l0.length) = True := eq_true (by omega); (try rw [show ((5 : Int)).toNat = 5 from rfl] at hx178_0); replace p178 := eq_true p178; replace q178 := eq_true q178) | (go_at_call 109; (with_reducible refine (jsonparser_h2I.calls k (rd l0 5) t179 _ A10.out).mono ?_); rintro e w' ⟨rfl, ⟨nd, rfl⟩⟩; (try first | exact ⟨rfl, _, World.drewN_drewN _ _ _⟩ | exact ⟨rfl, _, Eq.trans (World.drewN_drewN _ _ _) (congrArg (World.drewN _) (Nat.add_assoc _ _ _))⟩))); try go_wp2_with (first | (go_at_call 109; (with_reducible refine (jsonparser_h2I.calls k (rd l0 2) t173 _ A4.out).mono ?_); rintro e w' ⟨rfl, ⟨nd, rfl⟩⟩; (try first | exact ⟨rfl, _, World.drewN_drewN _ _ _⟩ | exact ⟨rfl, _, Eq.trans (World.drewN_drewN _ _ _) (congrArg (World.drewN _) (Nat.add_assoc _ _ _))⟩); have p174 : 0 ≤ (3 : Int) := (by omega); have q174 : 3 < (l0.length : Int) := of_decide_eq_true (by first | (with_reducible assumption) | assumption); obtain ⟨ad174, e174, hx174_0⟩ := Kd.at_int HR0.out 3 p174 q174; obtain rfl : ad172 = ad174 := (by injection e174); (try simp only [show (3 : Int).toNat = 3 from rfl, Nat.reduceMul, Nat.reduceEqDiff, Go.Addr.add, ↓reduceIte] at hx174_0); have qi174 : (3 < l0.length) = True := eq_true (by omega); (try rw [show ((3 : Int)).toNat = 3 from rfl] at hx174_0); replace p174 := eq_true p174; replace q174 := eq_true q174) | (go_at_call 109; (with_reducible refine (jsonparser_h2I.calls k (rd l0 3) t175 _ A6.out).mono ?_); rintro e w' ⟨rfl, ⟨nd, rfl⟩⟩; (try first | exact ⟨rfl, _, World.drewN_drewN _ _ _⟩ | exact ⟨rfl, _, Eq.trans (World.drewN_drewN _ _ _) (congrArg (World.drewN _) (Nat.add_assoc _ _ _))⟩); have p176 : 0 ≤ (4 : Int) := (by omega); have q176 : 4 < (l0.length : Int) := of_decide_eq_true (by first | (with_reducible assumption) | assumption); obtain ⟨ad176, e176, hx176_0⟩ := Kd.at_int HR0.out 4 p176 q176; obtain rfl : ad172 = ad176 := (by injection e176); (try simp only [show (4 : Int).toNat = 4 from rfl, Nat.reduceMul, Nat.reduceEqDiff, Go.Addr.add, ↓reduceIte] at hx176_0); have qi176 : (4 < l0.length) = True := eq_true (by omega); (try rw [show ((4 : Int)).toNat = 4 from rfl] at hx176_0); replace p176 := eq_true p176; replace q176 := eq_true q176) | (go_at_call 109; (with_reducible refine (jsonparser_h2I.calls k (rd l0 4) t177 _ A8.out).mono ?_); rintro e w' ⟨rfl, ⟨nd, rfl⟩⟩; (try first | exact ⟨rfl, _, World.drewN_drewN _ _ _⟩ | exact ⟨rfl, _, Eq.trans (World.drewN_drewN _ _ _) (congrArg (World.drewN _) (Nat.add_assoc _ _ _))⟩); have p178 : 0 ≤ (5 : Int) := (by omega); have q178 : 5 < (l0.length : Int) := of_decide_eq_true (by first | (with_reducible assumption) | assumption); obtain ⟨ad178, e178, hx178_0⟩ := Kd.at_int HR0.out 5 p178 q178; obtain rfl : ad172 = ad178 := (by injection e178); (try simp only [show (5 : Int).toNat = 5 from rfl, Nat.reduceMul, Nat.reduceEqDiff, Go.Addr.add, ↓reduceIte] at hx178_0); have qi178 : (5 < l0.length) = True := eq_true (by omega); (try rw [show ((5 : Int)).toNat = 5 from rfl] at hx178_0); replace p178 := eq_true p178; replace q178 := eq_true q178) | (go_at_call 109; (with_reducible refine (jsonparser_h2I.calls k (rd l0 5) t179 _ A10.out).mono ?_); rintro e w' ⟨rfl, ⟨nd, rfl⟩⟩; (try first | exact ⟨rfl, _, World.drewN_drewN _ _ _⟩ | exact ⟨rfl, _, Eq.trans (World.drewN_drewN _ _ _) (congrArg (World.drewN _) (Nat.add_assoc _ _ _))⟩))))
                    go_ret2
                    exact ⟨by first | rfl | (simp; done) | (simp [*]; done), by repeat (first | exact Drawn0.refl _ | apply Drawn0.step)⟩
          · rw [if_neg c9] at H
            exact absurd H (by simp)
        · rw [if_neg c7] at H
          exact absurd H (by simp)
      · rw [if_neg c5] at H
        exact absurd H (by simp)
    · rw [if_neg c3] at H
      exact absurd H (by simp)

/-! ### jsonparser_isUTF16EncodedRune: function 100 -/
def jsonparser_isUTF16EncodedRune.f (a0 : Int) : Option (Bool) := if 55296 ≤ a0 then (some (decide (a0 ≤ 57343))) else (some false)
set_option maxHeartbeats 8000000 in
set_option maxRecDepth 100000 in
theorem jsonparser_isUTF16EncodedRune.calls (a0 : Int) (r : Bool) (w : World) (h : jsonparser_isUTF16EncodedRune.f a0 = some r) :
    Calls Tryd.prog 100 #[.int .i32 a0] w fun e w' => e = .returned (.bool r) ∧ Drawn0 w w' := by
  have H : (if 55296 ≤ a0 then (some (decide (a0 ≤ 57343))) else (some false)) = some r := h
  clear h
  by_cases c2 : 55296 ≤ a0
  · rw [if_pos c2] at H
    have c2b0 : decide (55296 ≤ a0) = true := decide_eq_true c2
    clear c2
    obtain rfl := Option.some.inj H
    go_enter Tryd.func100, Tryd.ntmps100
    go_wp2
    go_ret
    exact ⟨by first | rfl | (simp; done) | (simp [*]; done), by repeat (first | exact Drawn0.refl _ | apply Drawn0.step)⟩
  · rw [if_neg c2] at H
    have c2b0 : decide (55296 ≤ a0) = false := decide_eq_false c2
    clear c2
    obtain rfl := Option.some.inj H
    go_enter Tryd.func100, Tryd.ntmps100
    go_wp2
    go_ret
    exact ⟨by first | rfl | (simp; done) | (simp [*]; done), by repeat (first | exact Drawn0.refl _ | apply Drawn0.step)⟩

/-! ### jsonparser_combineUTF16Surrogates: function 101 -/
def jsonparser_combineUTF16Surrogates.f (a0 : Int) (a1 : Int) : Option (Int) := some (wrap32 ((wrap32 (65536 + (wrap32 ((wrap32 (a0 - 55296)) * 1024)))) + (wrap32 (a1 - 56320))))
set_option maxHeartbeats 8000000 in
set_option maxRecDepth 100000 in
theorem jsonparser_combineUTF16Surrogates.calls (a0 : Int) (a1 : Int) (r : Int) (w : World) (h : jsonparser_combineUTF16Surrogates.f a0 a1 = some r) :
    Calls Tryd.prog 101 #[.int .i32 a0, .int .i32 a1] w fun e w' => e = .returned (.int .i32 r) ∧ Drawn0 w w' := by
  have H : (some (wrap32 ((wrap32 (65536 + (wrap32 ((wrap32 (a0 - 55296)) * 1024)))) + (wrap32 (a1 - 56320))))) = some r := h
  clear h
  obtain rfl := Option.some.inj H
  go_enter Tryd.func101, Tryd.ntmps101
  go_wp2
  go_ret
  exact ⟨by first | rfl | (simp; done) | (simp [*]; done), by repeat (first | exact Drawn0.refl _ | apply Drawn0.step)⟩

end Go.Proofs.YtdllbnecbbggfaaDoor.XFnJpEscapeAt
