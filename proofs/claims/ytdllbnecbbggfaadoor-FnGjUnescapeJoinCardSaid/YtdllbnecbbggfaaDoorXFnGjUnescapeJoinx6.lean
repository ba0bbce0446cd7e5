-- Written by xprint.py of this session (a program that runs the kit's print and adds to it); Lean checks it.
import Derived.Test.YtdllbnecbbggfaaDoorXFnGjUnescapeJoinx0
import Derived.Test.YtdllbnecbbggfaaDoorXFnGjUnescapeJoinx4
import Derived.Test.YtdllbnecbbggfaaDoorXFnGjUnescapeJoinx5
namespace Go.Proofs.YtdllbnecbbggfaaDoor.XFnGjUnescapeJoin
open Go.RowKit Go.Proofs.YtdllbnecbbggfaaDoorW.PrintWords Go.Proofs.YtdllbnecbbggfaaDoorW.PrintLast Go.Proofs.YtdllbnecbbggfaaDoorW.PrintMore
attribute [local go_sem] max2_int min2_int max_two min_two max_three min_three max_four min_four   -- for this text's walks alone
set_option linter.unusedVariables false
set_option linter.unusedSimpArgs false

--EXT
/-! ### gjson_unescape: function 68 (by hand) -/
def gjson_unescape.tab (e : Int) : Option Int := if e = 34 then some 34 else if e = 92 then some 92 else if e = 47 then some 47 else if e = 98 then some 8 else if e = 102 then some 12 else if e = 110 then some 10 else if e = 114 then some 13 else if e = 116 then some 9 else none
def gjson_unescape.g : Nat → ByteArray → List Int → Int → Option (List Int)
  | 0, _, _, _ => none
  | k + 1, s, acc, i =>
    if i < s.size then
      if bt s i < 32 then none else
      if bt s i = 92 then
        match gjson_unescape.tab (bt s (i + 1)) with
        | some c => gjson_unescape.g k s (acc ++ [c]) (i + 2)
        | none =>
          if bt s (i + 1) = 117 ∧ i + 6 ≤ s.size then
            (gjson_runeit.f (s.extract (i + 2).toNat s.size)).bind fun v =>
              if 55296 ≤ v ∧ v ≤ 57343 then
                if i + 12 ≤ s.size ∧ bt s (i + 6) = 92 ∧ bt s (i + 7) = 117 then
                  (gjson_runeit.f (s.extract (i + 8).toNat s.size)).bind fun u =>
                    if v ≤ 56319 ∧ 56320 ≤ u ∧ u ≤ 57343 then gjson_unescape.g k s (acc ++ Lib.encodeRuneZ (65536 + (v - 55296) * 1024 + (u - 56320))) (i + 12) else none
                else none
              else gjson_unescape.g k s (acc ++ Lib.encodeRuneZ v) (i + 6)
          else none
      else gjson_unescape.g k s (acc ++ [bt s i]) (i + 1)
    else some acc
def gjson_unescape.f (k : Nat) (a0 : ByteArray) : Option ByteArray := if a0.size ≤ 35184372088831 then (gjson_unescape.g k a0 [] 0).map strOfNums else none
theorem gjson_unescape.g_mono : ∀ k s acc i, LeO (gjson_unescape.g k s acc i) (gjson_unescape.g (k + 1) s acc i)
  | 0, _, _, _ => fun _ h => by cases h
  | k + 1, s, acc, i => by
    rw [gjson_unescape.g, gjson_unescape.g]
    refine LeO.ite (LeO.ite (LeO.refl _) (LeO.ite ?_ (gjson_unescape.g_mono k _ _ _))) (LeO.refl _)
    split
    · exact gjson_unescape.g_mono k _ _ _
    · refine LeO.ite (LeO.bind (LeO.refl _) fun v => LeO.ite (LeO.ite (LeO.bind (LeO.refl _) fun u => LeO.ite (gjson_unescape.g_mono k _ _ _) (LeO.refl _)) (LeO.refl _)) (gjson_unescape.g_mono k _ _ _)) (LeO.refl _)
theorem gjson_unescape.mono : ∀ a0 k, LeO (gjson_unescape.f k a0) (gjson_unescape.f (k + 1) a0) := by
  intro a0 k
  unfold gjson_unescape.f
  refine LeO.ite (fun r h => ?_) (LeO.refl _)
  obtain ⟨x, hx, rfl⟩ := Option.map_eq_some_iff.mp h
  exact Option.map_eq_some_iff.mpr ⟨x, gjson_unescape.g_mono k _ _ _ _ hx, rfl⟩
theorem gjson_unescape.tab_some {e c : Int} (h : gjson_unescape.tab e = some c) :
    (e = 34 ∧ c = 34) ∨ (e = 92 ∧ c = 92) ∨ (e = 47 ∧ c = 47) ∨ (e = 98 ∧ c = 8) ∨ (e = 102 ∧ c = 12) ∨ (e = 110 ∧ c = 10) ∨ (e = 114 ∧ c = 13) ∨ (e = 116 ∧ c = 9) := by
  unfold gjson_unescape.tab at h
  repeat' split at h
  all_goals first
    | (cases h; done)
    | (obtain rfl := Option.some.inj h; omega)
theorem gjson_unescape.rune_le (r : Int) : (Lib.encodeRuneZ r).length ≤ 4 := by
  unfold Lib.encodeRuneZ
  repeat' split
  all_goals simp
theorem gjson_unescape.bt_out (s : ByteArray) (i : Int) (h : s.size ≤ i) : bt s i = 0 := by
  unfold bt; rw [dif_neg (by omega)]
theorem gjson_unescape.or10 (x y : Int) (h0 : 0 ≤ x) (h1 : x < 1024) (h2 : 0 ≤ y) (h3 : y < 1024) : Go.bits .or .i32 (x * 1024) y = x * 1024 + y :=
  bits_join .i32 31 (by decide) wraps_i32 10 (x * 1024) y (by omega) (by omega) (by omega) h2 (by omega) (by omega)
theorem gjson_unescape.decode (v u : Int) (h : 55296 ≤ v ∧ v ≤ 56319) (g : 56320 ≤ u ∧ u ≤ 57343) : utf16_DecodeRune.f v u = some (65536 + (v - 55296) * 1024 + (u - 56320)) := by
  unfold utf16_DecodeRune.f
  rw [if_pos h.1, if_pos (by omega), if_pos g.1, if_pos (by omega)]
  have w1 : wrap32 (v - 55296) = v - 55296 := by unfold wrap32; omega
  have w2 : wrap32 ((v - 55296) * 1024) = (v - 55296) * 1024 := by unfold wrap32; omega
  have w3 : wrap32 (u - 56320) = u - 56320 := by unfold wrap32; omega
  rw [w1, w2, w3, gjson_unescape.or10 (v - 55296) (u - 56320) (by omega) (by omega) (by omega) (by omega)]
  have w4 : wrap32 ((v - 55296) * 1024 + (u - 56320) + 65536) = (v - 55296) * 1024 + (u - 56320) + 65536 := by unfold wrap32; omega
  rw [w4]
  congr 1
  omega
set_option maxHeartbeats 8000000 in
set_option maxRecDepth 100000 in
theorem gjson_unescape.calls (k : Nat) (a0 : ByteArray) (r : ByteArray) (w : World) (h : gjson_unescape.f k a0 = some r) :
    Calls Tryd.prog 68 #[.string a0] w fun e w' => e = .returned (.string r) ∧ Below w.heap.size w w' := by
  unfold gjson_unescape.f at h
  by_cases hs : a0.size ≤ 35184372088831
  · rw [if_pos hs] at h
    obtain ⟨res, hres, rfl⟩ := Option.map_eq_some_iff.mp h
    clear h
    have HRES := Aside0.mk hres
    clear hres
    have hz : (a0.size : Int) ≤ 35184372088831 := by omega
    have hmk0 := fun W => OwnRow.make_cap (P := Tryd.prog) 42 5 Tryd.underlying42 info5 a0.size (by omega) W
    go_enter Tryd.func68, Tryd.ntmps68
    go_wp2
    have hb0 := Aside0.mk (XWords.below_alloc0 (Nat.le_refl _) (Below.refl w.heap.size w) (.cells (madeCells #[.int .u8 0] a0.size) 5))
    have ho0 := Aside0.mk (OwnRow.made_own w w.heap.size 5 a0.size (Nat.le_refl _) (by omega))
    clear hmk0
    go_loopw [4, 3] (fun i v wr => ∃ (kk : Nat) (x : Int) (acc : List Int), 0 ≤ x ∧ x ≤ a0.size ∧ i = .int .i64 x ∧ Aside0 ((acc.length : Int) ≤ x) ∧ Aside0 (gjson_unescape.g kk a0 acc x = some res) ∧ Aside0 (wr.ownsRow w.heap.size 5 1 v acc.length (nums .u8 acc)) ∧ Aside0 (Below w.heap.size w wr)) (fun i _ _ => a0.size - (intOf i).toNat)
    case atStart => exact ⟨k, 0, [], by omega, by omega, rfl, ⟨by simp⟩, HRES, ho0, hb0⟩
    case round =>
      obtain ⟨kk, x, acc, hx0, hk, rfl, hal, hg, hown, hbel⟩ := hrel
      cases kk with
      | zero => have := hg.out; rw [gjson_unescape.g] at this; cases this
      | succ kk =>
      have hg1 := hg.out
      rw [gjson_unescape.g] at hg1
      by_cases hlt : x < a0.size
      · rw [if_pos hlt] at hg1
        have hx := bt_at a0 x
        have p1 : (0 ≤ x) = True := eq_true (by omega)
        have q1 : (x < (a0.size : Int)) = True := eq_true (by omega)
        by_cases h32 : bt a0 x < 32
        · rw [if_pos h32] at hg1
          cases hg1
        · rw [if_neg h32] at hg1
          by_cases h92 : bt a0 x = 92
          · rw [if_pos h92] at hg1
            have b1 : decide (bt a0 x < 32) = false := decide_eq_false h32
            have b2 : (bt a0 x == 92) = true := beq_iff_eq.mpr h92
            have hx1 := bt_at a0 (x + 1)
            cases htab : gjson_unescape.tab (bt a0 (x + 1)) with
            | some c =>
              rw [htab] at hg1
              have HG1 := Aside0.mk hg1
              clear hg1
              have hlt1 : x + 1 < a0.size := by
                refine Int.not_le.mp fun hc => ?_
                rw [gjson_unescape.bt_out a0 (x + 1) hc] at htab
                cases htab
              have p2 : (0 ≤ x + 1) = True := eq_true (by omega)
              have q2 : (x + 1 < (a0.size : Int)) = True := eq_true (by omega)
              have q3 : ((a0.size : Int) ≤ x + 1) = False := eq_false (by omega)
              clear h32 h92
              rcases gjson_unescape.tab_some htab with ⟨e, rfl⟩ | ⟨e, rfl⟩ | ⟨e, rfl⟩ | ⟨e, rfl⟩ | ⟨e, rfl⟩ | ⟨e, rfl⟩ | ⟨e, rfl⟩ | ⟨e, rfl⟩
              · rw [e] at hx1
                go_wp2_with (first | (at_builtin; refine print_append_num (w0 := w) w.heap.size rfl (.tmp 84) (.tmp 85) 42 5 .u8 1 rfl Tryd.underlying42 info5 (by omega) _ acc 34 rfl rfl ?aO ?aB ?aS ?aL ?_; (case aO => exact hown.out); (case aB => exact hbel.out); (case aS => exact hbel.out.size); (case aL => have := hal.out; omega); intro v1 w3 ho hb hg _; have n0_ := Aside0.mk ho; have n1_ := Aside0.mk hb; clear ho hb hg))
                go_roundw
                case rel => exact ⟨kk, x + 2, acc ++ [34], by omega, by omega, (by congr 1; omega), ⟨by have := hal.out; simp only [List.length_append, List.length_cons, List.length_nil]; omega⟩, HG1, n0_, n1_⟩
                case measure => simp [intOf]; omega
              · rw [e] at hx1
                go_wp2_with (first | (at_builtin; refine print_append_num (w0 := w) w.heap.size rfl (.tmp 49) (.tmp 50) 42 5 .u8 1 rfl Tryd.underlying42 info5 (by omega) _ acc 92 rfl rfl ?aO ?aB ?aS ?aL ?_; (case aO => exact hown.out); (case aB => exact hbel.out); (case aS => exact hbel.out.size); (case aL => have := hal.out; omega); intro v1 w3 ho hb hg _; have n0_ := Aside0.mk ho; have n1_ := Aside0.mk hb; clear ho hb hg))
                go_roundw
                case rel => exact ⟨kk, x + 2, acc ++ [92], by omega, by omega, (by congr 1; omega), ⟨by have := hal.out; simp only [List.length_append, List.length_cons, List.length_nil]; omega⟩, HG1, n0_, n1_⟩
                case measure => simp [intOf]; omega
              · rw [e] at hx1
                go_wp2_with (first | (at_builtin; refine print_append_num (w0 := w) w.heap.size rfl (.tmp 54) (.tmp 55) 42 5 .u8 1 rfl Tryd.underlying42 info5 (by omega) _ acc 47 rfl rfl ?aO ?aB ?aS ?aL ?_; (case aO => exact hown.out); (case aB => exact hbel.out); (case aS => exact hbel.out.size); (case aL => have := hal.out; omega); intro v1 w3 ho hb hg _; have n0_ := Aside0.mk ho; have n1_ := Aside0.mk hb; clear ho hb hg))
                go_roundw
                case rel => exact ⟨kk, x + 2, acc ++ [47], by omega, by omega, (by congr 1; omega), ⟨by have := hal.out; simp only [List.length_append, List.length_cons, List.length_nil]; omega⟩, HG1, n0_, n1_⟩
                case measure => simp [intOf]; omega
              · rw [e] at hx1
                go_wp2_with (first | (at_builtin; refine print_append_num (w0 := w) w.heap.size rfl (.tmp 59) (.tmp 60) 42 5 .u8 1 rfl Tryd.underlying42 info5 (by omega) _ acc 8 rfl rfl ?aO ?aB ?aS ?aL ?_; (case aO => exact hown.out); (case aB => exact hbel.out); (case aS => exact hbel.out.size); (case aL => have := hal.out; omega); intro v1 w3 ho hb hg _; have n0_ := Aside0.mk ho; have n1_ := Aside0.mk hb; clear ho hb hg))
                go_roundw
                case rel => exact ⟨kk, x + 2, acc ++ [8], by omega, by omega, (by congr 1; omega), ⟨by have := hal.out; simp only [List.length_append, List.length_cons, List.length_nil]; omega⟩, HG1, n0_, n1_⟩
                case measure => simp [intOf]; omega
              · rw [e] at hx1
                go_wp2_with (first | (at_builtin; refine print_append_num (w0 := w) w.heap.size rfl (.tmp 64) (.tmp 65) 42 5 .u8 1 rfl Tryd.underlying42 info5 (by omega) _ acc 12 rfl rfl ?aO ?aB ?aS ?aL ?_; (case aO => exact hown.out); (case aB => exact hbel.out); (case aS => exact hbel.out.size); (case aL => have := hal.out; omega); intro v1 w3 ho hb hg _; have n0_ := Aside0.mk ho; have n1_ := Aside0.mk hb; clear ho hb hg))
                go_roundw
                case rel => exact ⟨kk, x + 2, acc ++ [12], by omega, by omega, (by congr 1; omega), ⟨by have := hal.out; simp only [List.length_append, List.length_cons, List.length_nil]; omega⟩, HG1, n0_, n1_⟩
                case measure => simp [intOf]; omega
              · rw [e] at hx1
                go_wp2_with (first | (at_builtin; refine print_append_num (w0 := w) w.heap.size rfl (.tmp 69) (.tmp 70) 42 5 .u8 1 rfl Tryd.underlying42 info5 (by omega) _ acc 10 rfl rfl ?aO ?aB ?aS ?aL ?_; (case aO => exact hown.out); (case aB => exact hbel.out); (case aS => exact hbel.out.size); (case aL => have := hal.out; omega); intro v1 w3 ho hb hg _; have n0_ := Aside0.mk ho; have n1_ := Aside0.mk hb; clear ho hb hg))
                go_roundw
                case rel => exact ⟨kk, x + 2, acc ++ [10], by omega, by omega, (by congr 1; omega), ⟨by have := hal.out; simp only [List.length_append, List.length_cons, List.length_nil]; omega⟩, HG1, n0_, n1_⟩
                case measure => simp [intOf]; omega
              · rw [e] at hx1
                go_wp2_with (first | (at_builtin; refine print_append_num (w0 := w) w.heap.size rfl (.tmp 74) (.tmp 75) 42 5 .u8 1 rfl Tryd.underlying42 info5 (by omega) _ acc 13 rfl rfl ?aO ?aB ?aS ?aL ?_; (case aO => exact hown.out); (case aB => exact hbel.out); (case aS => exact hbel.out.size); (case aL => have := hal.out; omega); intro v1 w3 ho hb hg _; have n0_ := Aside0.mk ho; have n1_ := Aside0.mk hb; clear ho hb hg))
                go_roundw
                case rel => exact ⟨kk, x + 2, acc ++ [13], by omega, by omega, (by congr 1; omega), ⟨by have := hal.out; simp only [List.length_append, List.length_cons, List.length_nil]; omega⟩, HG1, n0_, n1_⟩
                case measure => simp [intOf]; omega
              · rw [e] at hx1
                go_wp2_with (first | (at_builtin; refine print_append_num (w0 := w) w.heap.size rfl (.tmp 79) (.tmp 80) 42 5 .u8 1 rfl Tryd.underlying42 info5 (by omega) _ acc 9 rfl rfl ?aO ?aB ?aS ?aL ?_; (case aO => exact hown.out); (case aB => exact hbel.out); (case aS => exact hbel.out.size); (case aL => have := hal.out; omega); intro v1 w3 ho hb hg _; have n0_ := Aside0.mk ho; have n1_ := Aside0.mk hb; clear ho hb hg))
                go_roundw
                case rel => exact ⟨kk, x + 2, acc ++ [9], by omega, by omega, (by congr 1; omega), ⟨by have := hal.out; simp only [List.length_append, List.length_cons, List.length_nil]; omega⟩, HG1, n0_, n1_⟩
                case measure => simp [intOf]; omega
            | none =>
              rw [htab] at hg1
              simp only [] at hg1
              by_cases hu : bt a0 (x + 1) = 117 ∧ x + 6 ≤ a0.size
              · rw [if_pos hu] at hg1
                obtain ⟨v, hv, hg1⟩ := Option.bind_eq_some_iff.mp hg1
                have hvr := gjson_runeit.val_range _ _ (by unfold gjson_runeit.f at hv; split at hv; exact hv; cases hv)
                obtain ⟨hu1, hu2⟩ := hu
                have hrun := Aside0.mk (fun W => gjson_runeit.calls _ v W hv)
                rw [hu1] at hx1
                have p2 : (0 ≤ x + 1) = True := eq_true (by omega)
                have q2 : (x + 1 < (a0.size : Int)) = True := eq_true (by omega)
                have q3 : ((a0.size : Int) ≤ x + 1) = False := eq_false (by omega)
                have q4 : ((a0.size : Int) < x + 1 + 5) = False := eq_false (by omega)
                have q5 : (x + 1 + 1 ≤ (a0.size : Int)) = True := eq_true (by omega)
                have q6 : (0 ≤ x + 1 + 1) = True := eq_true (by omega)
                have hlw : wrap64 (acc.length : Int) = acc.length := by have := hal.out; unfold wrap64; omega
                clear hv h32 h92 hu1 htab
                by_cases hsur : 55296 ≤ v ∧ v ≤ 57343
                · rw [if_pos hsur] at hg1
                  by_cases hnext : x + 12 ≤ a0.size ∧ bt a0 (x + 6) = 92 ∧ bt a0 (x + 7) = 117
                  · rw [if_pos hnext] at hg1
                    obtain ⟨u, hu, hg1⟩ := Option.bind_eq_some_iff.mp hg1
                    by_cases hpr : v ≤ 56319 ∧ 56320 ≤ u ∧ u ≤ 57343
                    · rw [if_pos hpr] at hg1
                      have HG1 := Aside0.mk hg1
                      clear hg1
                      have hrun2 := Aside0.mk (fun W => gjson_runeit.calls _ u W hu)
                      have hst : utf16_IsSurrogate.f v = some true := by
                        unfold utf16_IsSurrogate.f
                        rw [if_pos hsur.1]; simp only [Option.some.injEq, decide_eq_true_eq]; omega
                      have hdr := Aside0.mk (gjson_unescape.decode v u ⟨hsur.1, hpr.1⟩ hpr.2)
                      have HST := Aside0.mk hst
                      generalize hpv : 65536 + (v - 55296) * 1024 + (u - 56320) = pv at *
                      have hVR : Aside0 (0 ≤ pv ∧ pv ≤ 1114111) := ⟨by omega⟩
                      obtain ⟨n12, n6, n7⟩ := hnext
                      have hx6 : ∀ h : (x + 1 + 5).toNat < a0.size, ((a0[(x + 1 + 5).toNat]'h).toNat : Int) = 92 := fun h => (bt_at a0 (x + 1 + 5) h).trans (by rw [show x + 1 + 5 = x + 6 by omega]; exact n6)
                      have hx7 : ∀ h : (x + 1 + 5 + 1).toNat < a0.size, ((a0[(x + 1 + 5 + 1).toNat]'h).toNat : Int) = 117 := fun h => (bt_at a0 (x + 1 + 5 + 1) h).trans (by rw [show x + 1 + 5 + 1 = x + 7 by omega]; exact n7)
                      clear hst hsur hvr hpr hpv n6 n7 hu
                      have hrl : (Lib.runeCells pv).length = (Lib.encodeRuneZ pv).length := by simp only [Lib.runeCells, List.length_map]
                      have hr4 := gjson_unescape.rune_le pv
                      have hlw2 : wrap64 ((acc.length : Int) + ((Lib.runeCells pv).length : Int)) = (acc.length : Int) + ((Lib.runeCells pv).length : Int) := by have := hal.out; unfold wrap64; omega
                      have HRL := Aside0.mk hrl
                      have HR4 := Aside0.mk hr4
                      clear hrl hr4
                      go_wp2_with (first | (go_at_call 80; refine calls_of_args (args' := #[.string (a0.extract (x + 2).toNat a0.size)]) ?side ?_; (case side => rw [show x + 1 + 1 = x + 2 by omega]); (with_reducible refine (hrun.out _).mono ?_); rintro e w' ⟨rfl, hb1⟩; have HB1 := Aside0.mk hb1; clear hb1) | (go_at_call 80; refine calls_of_args (args' := #[.string (a0.extract (x + 8).toNat a0.size)]) ?side ?_; (case side => rw [show x + 1 + 5 + 2 = x + 8 by omega]); (with_reducible refine (hrun2.out _).mono ?_); rintro e w2 ⟨rfl, hb2⟩; have HB2 := Aside0.mk hb2; clear hb2) | (go_at_call 82; refine (utf16_DecodeRune.calls v u pv _ hdr.out).mono ?_; rintro e w3_ ⟨rfl, ⟨nd2, rfl⟩⟩) | (go_at_call 81; refine (utf16_IsSurrogate.calls v true _ HST.out).mono ?_; rintro e w'' ⟨rfl, ⟨nd, rfl⟩⟩) | (at_builtin; refine print_append_row (w0 := w) w.heap.size rfl (.tmp 132) (.tmp 133) 42 5 .u8 1 rfl Tryd.underlying42 info5 (by omega) _ acc [0, 0, 0, 0, 0, 0, 0, 0] _ 8 8 rfl rfl ?aO ?aR ?aB ?aS ?aL ?_; (case aO => exact own_alloc (pw_own_drewN (OwnRow.own_below (pw_own_drewN (OwnRow.own_below hown.out HB1.out) _) HB2.out) _) _); (case aR => exact OwnRow.reads8 _ _); (case aB => exact below_alloc (pw_below_drewN (below_step (pw_below_drewN (below_step hbel.out HB1.out) _) HB2.out) _) _); (case aS => exact (below_alloc (pw_below_drewN (below_step (pw_below_drewN (below_step hbel.out HB1.out) _) HB2.out) _) _).size); (case aL => have := hal.out; omega); intro v1 w3 ho hb _ _; have n0_ := Aside0.mk ho; have n1_ := Aside0.mk hb; clear ho hb; obtain ⟨g, cap, rfl, hgB, hgc, hgm, hgs, hcell, hfz⟩ := OwnRow.own_shape n0_.out (by simp); have HGC := Aside0.mk hgc; have HCELL := Aside0.mk hcell; have HFZ := Aside0.mk hfz; have HGB := Aside0.mk hgB; have hcn : ¬ cap = acc.length := (by simp only [List.length_append, List.length_cons, List.length_nil] at hgc; omega); have hcn2 : (acc.length + 8 ≤ cap) = True := eq_true (by simpa using hgc); have hcn3 : ((acc.length : Int) + ((Lib.runeCells pv).length : Int) ≤ (cap : Int)) = True := eq_true (by have h1 := HRL.out; have h2 := HR4.out; simp only [List.length_append, List.length_cons, List.length_nil] at hgc; omega); have hcn4 : (0 ≤ (acc.length : Int) + ((Lib.runeCells pv).length : Int)) = True := eq_true (by omega); clear hgc hcell hfz hgm hgB) | (go_at_call 83; refine (encodeRune_calls g acc.length 8 (cap - acc.length) pv (by have := hVR.out; omega) (by have := hVR.out; omega) _ (by have := gjson_unescape.rune_le pv; simp only [Lib.runeCells, List.length_map]; omega) (fun j hj => HCELL.out _ (by have := gjson_unescape.rune_le pv; simp only [Lib.runeCells, List.length_map] at hj; simp only [List.length_append, List.length_cons, List.length_nil]; omega)) (fun j hj => HFZ.out _)).mono ?_; rintro e w4 ⟨rfl, rfl⟩))
                      have hown2 := Aside0.mk (OwnRow.own_written (xs := acc) (ys := Lib.encodeRuneZ pv) (zs := [0, 0, 0, 0, 0, 0, 0, 0]) (n := acc.length) (m := 8) (by simpa using n0_.out) rfl (by have := HR4.out; omega))
                      refine ⟨⟨kk, x + 12, acc ++ Lib.encodeRuneZ pv, by omega, by omega, (by congr 1; omega), ⟨by have := hal.out; have := HR4.out; rw [List.length_append]; omega⟩, HG1, ⟨?_⟩, ⟨OwnRow.below_setCells HGB.out _ _ _ n1_.out⟩⟩, by simp only [intOf]; omega⟩
                      rw [HRL.out, List.length_append]
                      exact hown2.out
                    · rw [if_neg hpr] at hg1
                      cases hg1
                  · rw [if_neg hnext] at hg1
                    cases hg1
                · rw [if_neg hsur] at hg1
                  have HG1 := Aside0.mk hg1
                  clear hg1
                  have hsf : utf16_IsSurrogate.f v = some false := by
                    unfold utf16_IsSurrogate.f
                    by_cases c : 55296 ≤ v
                    · rw [if_pos c]; simp only [Option.some.injEq, decide_eq_false_iff_not]; omega
                    · rw [if_neg c]
                  have HSF := Aside0.mk hsf
                  have hVR := Aside0.mk hvr
                  clear hsf hsur hvr
                  have hrl : (Lib.runeCells v).length = (Lib.encodeRuneZ v).length := by simp only [Lib.runeCells, List.length_map]
                  have hr4 := gjson_unescape.rune_le v
                  have hlw2 : wrap64 ((acc.length : Int) + ((Lib.runeCells v).length : Int)) = (acc.length : Int) + ((Lib.runeCells v).length : Int) := by have := hal.out; unfold wrap64; omega
                  have HRL := Aside0.mk hrl
                  have HR4 := Aside0.mk hr4
                  clear hrl hr4
                  go_wp2_with (first | (go_at_call 80; refine calls_of_args (args' := #[.string (a0.extract (x + 2).toNat a0.size)]) ?side ?_; (case side => rw [show x + 1 + 1 = x + 2 by omega]); (with_reducible refine (hrun.out _).mono ?_); rintro e w' ⟨rfl, hb1⟩; have HB1 := Aside0.mk hb1; clear hb1) | (go_at_call 81; refine (utf16_IsSurrogate.calls v false _ HSF.out).mono ?_; rintro e w'' ⟨rfl, ⟨nd, rfl⟩⟩) | (at_builtin; refine print_append_row (w0 := w) w.heap.size rfl (.tmp 132) (.tmp 133) 42 5 .u8 1 rfl Tryd.underlying42 info5 (by omega) _ acc [0, 0, 0, 0, 0, 0, 0, 0] _ 8 8 rfl rfl ?aO ?aR ?aB ?aS ?aL ?_; (case aO => exact own_alloc (pw_own_drewN (OwnRow.own_below hown.out HB1.out) _) _); (case aR => exact OwnRow.reads8 _ _); (case aB => exact below_alloc (pw_below_drewN (below_step hbel.out HB1.out) _) _); (case aS => exact (below_alloc (pw_below_drewN (below_step hbel.out HB1.out) _) _).size); (case aL => have := hal.out; omega); intro v1 w3 ho hb _ _; have n0_ := Aside0.mk ho; have n1_ := Aside0.mk hb; clear ho hb; obtain ⟨g, cap, rfl, hgB, hgc, hgm, hgs, hcell, hfz⟩ := OwnRow.own_shape n0_.out (by simp); have HGC := Aside0.mk hgc; have HCELL := Aside0.mk hcell; have HFZ := Aside0.mk hfz; have HGB := Aside0.mk hgB; have hcn : ¬ cap = acc.length := (by simp only [List.length_append, List.length_cons, List.length_nil] at hgc; omega); have hcn2 : (acc.length + 8 ≤ cap) = True := eq_true (by simpa using hgc); have hcn3 : ((acc.length : Int) + ((Lib.runeCells v).length : Int) ≤ (cap : Int)) = True := eq_true (by have h1 := HRL.out; have h2 := HR4.out; simp only [List.length_append, List.length_cons, List.length_nil] at hgc; omega); have hcn4 : (0 ≤ (acc.length : Int) + ((Lib.runeCells v).length : Int)) = True := eq_true (by omega); clear hgc hcell hfz hgm hgB) | (go_at_call 83; refine (encodeRune_calls g acc.length 8 (cap - acc.length) v (by have := hVR.out; omega) (by have := hVR.out; omega) _ (by have := gjson_unescape.rune_le v; simp only [Lib.runeCells, List.length_map]; omega) (fun j hj => HCELL.out _ (by have := gjson_unescape.rune_le v; simp only [Lib.runeCells, List.length_map] at hj; simp only [List.length_append, List.length_cons, List.length_nil]; omega)) (fun j hj => HFZ.out _)).mono ?_; rintro e w4 ⟨rfl, rfl⟩))
                  have hown2 := Aside0.mk (OwnRow.own_written (xs := acc) (ys := Lib.encodeRuneZ v) (zs := [0, 0, 0, 0, 0, 0, 0, 0]) (n := acc.length) (m := 8) (by simpa using n0_.out) rfl (by have := HR4.out; omega))
                  refine ⟨⟨kk, x + 6, acc ++ Lib.encodeRuneZ v, by omega, by omega, (by congr 1; omega), ⟨by have := hal.out; have := HR4.out; rw [List.length_append]; omega⟩, HG1, ⟨?_⟩, ⟨OwnRow.below_setCells HGB.out _ _ _ n1_.out⟩⟩, by simp only [intOf]; omega⟩
                  rw [HRL.out, List.length_append]
                  exact hown2.out
              · rw [if_neg hu] at hg1
                cases hg1
          · rw [if_neg h92] at hg1
            have HG1 := Aside0.mk hg1
            clear hg1
            have b1 : decide (bt a0 x < 32) = false := decide_eq_false h32
            have b2 : (bt a0 x == 92) = false := beq_eq_false_iff_ne.mpr h92
            clear h32 h92
            go_wp2_with (first | (at_builtin; refine print_append_num (w0 := w) w.heap.size rfl (.tmp 16) (.tmp 20) 42 5 .u8 1 rfl Tryd.underlying42 info5 (by omega) _ acc (bt a0 x) rfl rfl ?aO ?aB ?aS ?aL ?_; (case aO => exact hown.out); (case aB => exact hbel.out); (case aS => exact hbel.out.size); (case aL => have := hal.out; omega); intro v1 w3 ho hb hg _; have n0_ := Aside0.mk ho; have n1_ := Aside0.mk hb; clear ho hb hg))
            go_roundw
            case rel => exact ⟨kk, x + 1, acc ++ [bt a0 x], by omega, by omega, rfl, ⟨by have := hal.out; simp only [List.length_append, List.length_cons, List.length_nil]; omega⟩, HG1, n0_, n1_⟩
            case measure => simp [intOf]; omega
      · rw [if_neg hlt] at hg1
        have hcv := own_string (P := Tryd.prog) Tryd.underlying42 Tryd.underlying5 Tryd.underlying9 hown.out
        have HE := Aside0.mk (Option.some.inj hg1)
        clear hg1
        go_wp2
        go_ret
        exact ⟨by rw [HE.out]; rfl, hbel.out⟩
  · rw [if_neg hs] at h
    exact absurd h (by simp)


end Go.Proofs.YtdllbnecbbggfaaDoor.XFnGjUnescapeJoin
