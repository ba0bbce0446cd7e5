-- Written by xprint.py of this session (a program that runs the kit's print and adds to it); Lean checks it.
import Derived.Test.YtdllbnecbbggfaaDoorXFnMtUnlimitedx0
import Derived.Test.YtdllbnecbbggfaaDoorXFnMtUnlimitedx6
namespace Go.Proofs.YtdllbnecbbggfaaDoor.XFnMtUnlimited
open Go.RowKit Go.Proofs.YtdllbnecbbggfaaDoorW.PrintWords Go.Proofs.YtdllbnecbbggfaaDoorW.PrintLast Go.Proofs.YtdllbnecbbggfaaDoorW.PrintMore
attribute [local go_sem] max2_int min2_int max_two min_two max_three min_three max_four min_four   -- for this text's walks alone
set_option linter.unusedVariables false
set_option linter.unusedSimpArgs false

--EXT
/-! ### match_matchLimit0: function 59 (by hand) -/
def match_matchLimit0.sc (s : ByteArray) : Int := if s.size = 0 then 0 else (dgo s).1
def match_matchLimit0.ss (s : ByteArray) : Int := if s.size = 0 then 0 else (dgo s).2
def match_matchLimit0.low (nc : Bool) (c : Int) : Option Int := if nc = true then match_tolower.f c else some c
/-- match.match, a limit, no star in the pattern. -/
def match_matchLimit0.m : Nat → ByteArray → ByteArray → Bool → Option Int
  | 0, _, _, _ => none
  | k + 1, s, p, nc =>
    if p.size = 0 then (if s.size = 0 then some 1 else some 0) else
    if (dgo p).1 = 63 then (if s.size = 0 then some 0 else match_matchLimit0.m k (s.extract ((match_matchLimit0.ss s)).toNat s.size) (p.extract ((dgo p).2).toNat p.size) nc) else
    if (dgo p).1 = 42 then
      none
    else if s.size = 0 then some 0 else
    if (dgo p).1 = 92 then
      (if (p.extract ((dgo p).2).toNat p.size).size = 0 then some 0 else
        (match_matchLimit0.low nc (match_matchLimit0.sc s)).bind fun a => (match_matchLimit0.low nc (dgo (p.extract ((dgo p).2).toNat p.size)).1).bind fun b =>
          if a = b then match_matchLimit0.m k (s.extract ((match_matchLimit0.ss s)).toNat s.size) ((p.extract ((dgo p).2).toNat p.size).extract ((dgo (p.extract ((dgo p).2).toNat p.size)).2).toNat (p.extract ((dgo p).2).toNat p.size).size) nc else some 0)
    else
      (match_matchLimit0.low nc (match_matchLimit0.sc s)).bind fun a => (match_matchLimit0.low nc (dgo p).1).bind fun b =>
        if a = b then match_matchLimit0.m k (s.extract ((match_matchLimit0.ss s)).toNat s.size) (p.extract ((dgo p).2).toNat p.size) nc else some 0
theorem match_matchLimit0.m_mono : ∀ k s p nc, LeO (match_matchLimit0.m k s p nc) (match_matchLimit0.m (k + 1) s p nc)
  | 0, _, _, _ => fun _ h => by cases h
  | k + 1, s, p, nc => by
    have ih := match_matchLimit0.m_mono k
    rw [match_matchLimit0.m, match_matchLimit0.m]
    refine LeO.ite (LeO.refl _) (LeO.ite (LeO.ite (LeO.refl _) (ih _ _ _)) (LeO.ite (LeO.refl _) (LeO.ite (LeO.refl _) (LeO.ite (LeO.ite (LeO.refl _) ?_) ?_))))
    · exact LeO.bind (LeO.refl _) fun a => LeO.bind (LeO.refl _) fun b => LeO.ite (ih _ _ _) (LeO.refl _)
    · exact LeO.bind (LeO.refl _) fun a => LeO.bind (LeO.refl _) fun b => LeO.ite (ih _ _ _) (LeO.refl _)
def match_matchLimit0.f (k : Nat) (a0 : ByteArray) (a1 : ByteArray) (a2 : Int) (a3 : Bool) : Option (Bool × Bool) := if a0.size ≤ 2147483647 ∧ 0 ≤ a2 ∧ a2 ≤ 1000000 ∧ bytesOf a1 ≠ [42] then ((match_matchLimit0.m k a0 a1 a3).bind fun r => if r = 0 ∨ r = 1 then some (decide (r = 1), false) else none) else none
theorem match_matchLimit0.mono : ∀ a0 a1 a2 a3 k, LeO (match_matchLimit0.f k a0 a1 a2 a3) (match_matchLimit0.f (k + 1) a0 a1 a2 a3) := by
  intro a0 a1 a2 a3 k
  unfold match_matchLimit0.f
  exact LeO.ite (LeO.bind (match_matchLimit0.m_mono k _ _ _) fun r => LeO.refl _) (LeO.refl _)
theorem match_matchLimit0.ss_bounds (s : ByteArray) : 0 ≤ match_matchLimit0.ss s ∧ match_matchLimit0.ss s ≤ 4 ∧ match_matchLimit0.ss s ≤ s.size ∧ (match_matchLimit0.ss s = 0 ↔ s.size = 0) := by
  have := dgo_bounds s
  unfold match_matchLimit0.ss
  split
  · rename_i h; exact ⟨by omega, by omega, by omega, ⟨fun _ => h, fun _ => rfl⟩⟩
  · rename_i h; exact ⟨by omega, by omega, by omega, by omega⟩
theorem match_matchLimit0.sc_bounds (s : ByteArray) : 0 ≤ match_matchLimit0.sc s ∧ match_matchLimit0.sc s ≤ 1114111 := by
  have := dgo_bounds s
  unfold match_matchLimit0.sc
  split <;> omega
set_option maxHeartbeats 8000000 in
set_option maxRecDepth 100000 in
theorem match_matchLimit0.m_calls (k : Nat) (s p : ByteArray) (nc : Bool) (n mc : Int) (g : Nat) (r : Int) (w0 w : World) (hW : w0.setCell ⟨g, 0, none⟩ (.int .i64 1) = w) (hn0 : 0 ≤ n) (hn : n ≤ 2147483647) (hmc0 : 0 ≤ mc) (hmc : mc ≤ 1000000) (hg : w0.cell? ⟨g, 0, none⟩ = some (.int .i64 0)) (hfg : w0.frozen? ⟨g, 0, none⟩ = false) (hG : Glob w) (h : match_matchLimit0.m k s p nc = some r) :
    Calls Tryd.prog 71 #[.string s, .string p, .int .i64 n, .pointer (some ⟨g, 0, none⟩), .int .i64 mc, .bool nc] w0 fun e w' => e = .returned (.int .i64 r) ∧ Below w.heap.size w w' := by
  have hmul0 : 0 ≤ n * mc := Int.mul_nonneg hn0 hmc0
  have hmul : n * mc ≤ 2147483647000000 := by
    have := Int.mul_le_mul hn hmc hmc0 (by omega)
    omega
  have hw : wrap64 (n * mc) = n * mc := by unfold wrap64; omega
  have hgt : decide (n * mc < 0) = false := decide_eq_false (by omega)
  have hmx : decide (-1 < mc) = true := decide_eq_true (by omega)
  have HG := Aside0.mk hG
  have H' := Aside0.mk h
  have HMU := Aside0.mk hmul
  clear hG h hmul
  go_enter Tryd.func71, Tryd.ntmps71
  go_wp2
  try rw [hW]
  clear hg hfg hw hgt hmx hmul0 hn0 hn hmc0 hmc hW
  have HB := Aside0.mk (Below.refl w.heap.size w)
  try simp only [Act.put, List.setIfInBounds_toArray, List.set_cons_succ, List.set_cons_zero]
  go_loopg [0, 1] k (fun kq v0 v1 w' => ∃ (x0 : ByteArray) (x1 : ByteArray), v0 = .string x0 ∧ v1 = .string x1 ∧ Aside0 (match_matchLimit0.m kq x0 x1 nc = some r) ∧ Aside0 (kq ≤ k) ∧ Aside0 (Below w.heap.size w w'))
  case atStart => exact ⟨s, p, rfl, rfl, H', ⟨Nat.le_refl _⟩, HB⟩
  case round =>
    clear H' HB
    obtain ⟨x0, x1, rfl, rfl, HA, HK, HB⟩ := hrel
    cases gk with
    | zero => exact absurd HA.out (by simp [match_matchLimit0.m])
    | succ k1 =>
      have H := HA.out
      clear HA
      simp only [match_matchLimit0.m] at H
      by_cases c1 : x1.size = 0
      · rw [if_pos c1] at H
        have e1 : decide (0 < (x1.size : Int)) = false := decide_eq_false (by omega)
        have e2 : decide (0 < x1.size) = false := decide_eq_false (by omega)
        have HC1 := Aside0.mk c1
        clear c1
        by_cases c2 : x0.size = 0
        · rw [if_pos c2] at H
          obtain rfl := Option.some.inj H
          have e3 : ((x0.size : Int) == 0) = true := beq_iff_eq.mpr (by omega)
          have HC2 := Aside0.mk c2
          clear c2 H
          go_wp2
          go_ret
          exact ⟨rfl, HB.out⟩
        · rw [if_neg c2] at H
          obtain rfl := Option.some.inj H
          have e3 : ((x0.size : Int) == 0) = false := beq_eq_false_iff_ne.mpr (by omega)
          have HC2 := Aside0.mk c2
          clear c2 H
          go_wp2
          go_ret
          exact ⟨rfl, HB.out⟩
      · rw [if_neg c1] at H
        have H' := Aside0.mk H
        clear H
        have e1 : decide (0 < (x1.size : Int)) = true := decide_eq_true (by omega)
        have e2 : decide (0 < x1.size) = true := decide_eq_true (by omega)
        have hz1 : 0 < x1.size := by omega
        have HZ1 := Aside0.mk hz1
        clear c1
        have hb := bt_range x1 0
        have hx : ∀ h : 0 < x1.size, ((x1[0]'h).toNat : Int) = bt x1 0 := bt_at x1 0
        go_upto_if 41 with (fail)
        go_cut [14, 15] (fun v14 v15 wc => v14 = .int .i32 (dgo x1).1 ∧ v15 = .int .i64 (dgo x1).2 ∧ Aside0 (Below w.heap.size w wc))
        case first =>
          by_cases c3 : bt x1 0 < 128
          · have HD := Aside0.mk (dgo_ascii HZ1.out c3)
            have e4 : decide (127 < bt x1 0) = false := decide_eq_false (by omega)
            go_wp2
            go_meet
            case rel => exact ⟨by rw [HD.out], by rw [HD.out], HB⟩
          · have e4 : decide (127 < bt x1 0) = true := decide_eq_true (by omega)
            go_wp2_with (first | (go_at_call 62; (with_reducible refine (dgo_calls x1 _ ?side1).mono ?_); (case side1 => exact Glob.below HG.out HB.out); rintro e wd ⟨rfl, hbd⟩; have HBd := Aside0.mk (below_step HB.out hbd); clear hbd))
            go_meet
            case rel => exact ⟨rfl, rfl, HBd⟩
        case rest =>
          clear hb hx HB
          obtain ⟨rfl, rfl, HB⟩ := hcut
          have hb := bt_range x0 0
          go_upto_if 49 with (fail)
          go_cut [16, 17] (fun v16 v17 wc => v16 = .int .i32 (match_matchLimit0.sc x0) ∧ v17 = .int .i64 (match_matchLimit0.ss x0) ∧ Aside0 (Below w.heap.size w wc))
          case first =>
            by_cases c2 : x0.size = 0
            · have f1 : decide (0 < (x0.size : Int)) = false := decide_eq_false (by omega)
              have f2 : decide (0 < x0.size) = false := decide_eq_false (by omega)
              have HC := Aside0.mk c2
              clear c2
              (first | rw [f1] | rw [f2] | skip)
              go_wp2
              go_meet
              case rel => exact ⟨by unfold match_matchLimit0.sc; rw [if_pos HC.out], by unfold match_matchLimit0.ss; rw [if_pos HC.out], HB⟩
            · have f1 : decide (0 < (x0.size : Int)) = true := decide_eq_true (by omega)
              have f2 : decide (0 < x0.size) = true := decide_eq_true (by omega)
              have hz0 : 0 < x0.size := by omega
              have HC := Aside0.mk c2
              clear c2
              (first | rw [f1] | rw [f2] | skip)
              have hx : ∀ h : 0 < x0.size, ((x0[0]'h).toNat : Int) = bt x0 0 := bt_at x0 0
              by_cases c3 : bt x0 0 < 128
              · have HD := Aside0.mk (dgo_ascii hz0 c3)
                have e4 : decide (127 < bt x0 0) = false := decide_eq_false (by omega)
                go_wp2
                go_meet
                case rel => exact ⟨by unfold match_matchLimit0.sc; rw [if_neg HC.out, HD.out], by unfold match_matchLimit0.ss; rw [if_neg HC.out, HD.out], HB⟩
              · have e4 : decide (127 < bt x0 0) = true := decide_eq_true (by omega)
                go_wp2_with (first | (go_at_call 62; (with_reducible refine (dgo_calls x0 _ ?side2).mono ?_); (case side2 => exact Glob.below HG.out HB.out); rintro e wd ⟨rfl, hbd⟩; have HBd := Aside0.mk (below_step HB.out hbd); clear hbd))
                go_meet
                case rel => exact ⟨by unfold match_matchLimit0.sc; rw [if_neg HC.out], by unfold match_matchLimit0.ss; rw [if_neg HC.out], HBd⟩
          case rest =>
            clear hb HB
            obtain ⟨rfl, rfl, HB⟩ := hcut
            obtain ⟨b1, b2, b3, b4, b5, b6⟩ := dgo_bounds x1
            obtain ⟨d1, d2, d3, d4⟩ := match_matchLimit0.ss_bounds x0
            obtain ⟨d5, d6⟩ := match_matchLimit0.sc_bounds x0
            have HB6 := Aside0.mk b6
            have HD4 := Aside0.mk d4
            clear b6 d4
            have H := H'.out
            clear H'
            by_cases c4 : (dgo x1).1 = 63
            · rw [if_pos c4] at H
              have s63 : ((dgo x1).1 == 63) = true := beq_iff_eq.mpr c4
              clear c4
              by_cases c2 : x0.size = 0
              · rw [if_pos c2] at H
                obtain rfl := Option.some.inj H
                have z0 : (match_matchLimit0.ss x0 == 0) = true := beq_iff_eq.mpr (HD4.out.mpr c2)
                have HC := Aside0.mk c2
                clear c2 H
                go_wp2
                go_ret
                exact ⟨rfl, HB.out⟩
              · rw [if_neg c2] at H
                have z0 : (match_matchLimit0.ss x0 == 0) = false := beq_eq_false_iff_ne.mpr (fun h => c2 (HD4.out.mp h))
                have H' := Aside0.mk H
                clear c2 H
                go_wp2
                go_roundg k1
                case measure => have := HK.out; omega
                case rel => exact ⟨x0.extract ((match_matchLimit0.ss x0)).toNat x0.size, x1.extract ((dgo x1).2).toNat x1.size, rfl, rfl, H', ⟨by have := HK.out; omega⟩, HB⟩
            · rw [if_neg c4] at H
              have s63 : ((dgo x1).1 == 63) = false := beq_eq_false_iff_ne.mpr c4
              clear c4
              by_cases c5 : (dgo x1).1 = 42
              · rw [if_pos c5] at H
                have s42 : ((dgo x1).1 == 42) = true := beq_iff_eq.mpr c5
                clear c5
                cases H
              · rw [if_neg c5] at H
                have s42 : ((dgo x1).1 == 42) = false := beq_eq_false_iff_ne.mpr c5
                clear c5
                by_cases c2 : x0.size = 0
                · rw [if_pos c2] at H
                  obtain rfl := Option.some.inj H
                  have z0 : (match_matchLimit0.ss x0 == 0) = true := beq_iff_eq.mpr (HD4.out.mpr c2)
                  have HC := Aside0.mk c2
                  clear c2 H
                  go_wp2
                  go_ret
                  exact ⟨rfl, HB.out⟩
                · rw [if_neg c2] at H
                  have z0 : (match_matchLimit0.ss x0 == 0) = false := beq_eq_false_iff_ne.mpr (fun h => c2 (HD4.out.mp h))
                  clear c2
                  by_cases c6 : (dgo x1).1 = 92
                  · rw [if_pos c6] at H
                    have s92 : ((dgo x1).1 == 92) = true := beq_iff_eq.mpr c6
                    clear c6
                    obtain ⟨g1, g2, g3, g4, g5, g6⟩ := dgo_bounds (x1.extract ((dgo x1).2).toNat x1.size)
                    have HG6 := Aside0.mk g6
                    clear g6
                    by_cases q1 : (x1.extract ((dgo x1).2).toNat x1.size).size = 0
                    · rw [if_pos q1] at H
                      obtain rfl := Option.some.inj H
                      have z1 : ((dgo (x1.extract ((dgo x1).2).toNat x1.size)).2 == 0) = true := beq_iff_eq.mpr (HG6.out.mpr q1)
                      clear q1 H
                      go_wp2_with (first | (go_at_call 62; (with_reducible refine (dgo_calls (x1.extract ((dgo x1).2).toNat x1.size) _ ?side3).mono ?_); (case side3 => exact Glob.below HG.out HB.out); rintro e wd ⟨rfl, hbd⟩; have HBd := Aside0.mk (below_step HB.out hbd); clear hbd))
                      go_ret
                      exact ⟨rfl, HBd.out⟩
                    · rw [if_neg q1] at H
                      have z1 : ((dgo (x1.extract ((dgo x1).2).toNat x1.size)).2 == 0) = false := beq_eq_false_iff_ne.mpr (fun h => q1 (HG6.out.mp h))
                      clear q1
                      have H' := Aside0.mk H
                      clear H
                      go_upto_if 74 with (first | (go_at_call 62; (with_reducible refine (dgo_calls (x1.extract ((dgo x1).2).toNat x1.size) _ ?side4).mono ?_); (case side4 => exact Glob.below HG.out HB.out); rintro e wd ⟨rfl, hbd⟩; have HBd := Aside0.mk (below_step HB.out hbd); clear hbd))
                      clear HB
                      have HB := HBd
                      clear HBd
                      generalize x1.extract ((dgo x1).2).toNat x1.size = q at *
                      have H := H'.out
                      clear H'
                      obtain ⟨a, ha, H⟩ := Option.bind_eq_some_iff.mp H
                      obtain ⟨b, hb, H⟩ := Option.bind_eq_some_iff.mp H
                      cases nc with
                      | true =>
                        have ha' : match_tolower.f (match_matchLimit0.sc x0) = some a := ha
                        have hb' : match_tolower.f (dgo q).1 = some b := hb
                        have HA1 := Aside0.mk ha'
                        have HB1 := Aside0.mk hb'
                        clear ha hb ha' hb'
                        by_cases q2 : a = b
                        · rw [if_pos q2] at H
                          have z2 : (a == b) = true := beq_iff_eq.mpr q2
                          have z3 : (a != b) = false := by rw [q2]; simp
                          clear q2
                          have H' := Aside0.mk H
                          clear H
                          go_wp2_with fail
                          refine (match_tolower.calls (match_matchLimit0.sc x0) a _ HA1.out).mono ?_
                          rintro e wd ⟨rfl, ⟨nd1, rfl⟩⟩
                          go_wp2_with fail
                          refine (match_tolower.calls (dgo q).1 b _ HB1.out).mono ?_
                          rintro e wd2 ⟨rfl, ⟨nd2, rfl⟩⟩
                          go_wp2
                          go_roundg k1
                          case measure => have := HK.out; omega
                          case rel => exact ⟨x0.extract ((match_matchLimit0.ss x0)).toNat x0.size, q.extract ((dgo q).2).toNat q.size, rfl, rfl, H', ⟨by have := HK.out; omega⟩, ⟨pw_below_drewN HB.out _⟩⟩
                        · rw [if_neg q2] at H
                          obtain rfl := Option.some.inj H
                          have z2 : (a == b) = false := beq_eq_false_iff_ne.mpr q2
                          have z3 : (a != b) = true := bne_iff_ne.mpr q2
                          clear q2 H
                          go_wp2_with fail
                          refine (match_tolower.calls (match_matchLimit0.sc x0) a _ HA1.out).mono ?_
                          rintro e wd ⟨rfl, ⟨nd1, rfl⟩⟩
                          go_wp2_with fail
                          refine (match_tolower.calls (dgo q).1 b _ HB1.out).mono ?_
                          rintro e wd2 ⟨rfl, ⟨nd2, rfl⟩⟩
                          go_wp2
                          go_ret
                          exact ⟨rfl, pw_below_drewN HB.out _⟩
                      | false =>
                        obtain rfl : match_matchLimit0.sc x0 = a := Option.some.inj ha
                        obtain rfl : (dgo q).1 = b := Option.some.inj hb
                        clear ha hb
                        by_cases q2 : match_matchLimit0.sc x0 = (dgo q).1
                        · rw [if_pos q2] at H
                          have z2 : (match_matchLimit0.sc x0 == (dgo q).1) = true := beq_iff_eq.mpr q2
                          have z3 : (match_matchLimit0.sc x0 != (dgo q).1) = false := by rw [q2]; simp
                          clear q2
                          have H' := Aside0.mk H
                          clear H
                          go_wp2
                          go_roundg k1
                          case measure => have := HK.out; omega
                          case rel => exact ⟨x0.extract ((match_matchLimit0.ss x0)).toNat x0.size, q.extract ((dgo q).2).toNat q.size, rfl, rfl, H', ⟨by have := HK.out; omega⟩, HB⟩
                        · rw [if_neg q2] at H
                          obtain rfl := Option.some.inj H
                          have z2 : (match_matchLimit0.sc x0 == (dgo q).1) = false := beq_eq_false_iff_ne.mpr q2
                          have z3 : (match_matchLimit0.sc x0 != (dgo q).1) = true := bne_iff_ne.mpr q2
                          clear q2 H
                          go_wp2
                          go_ret
                          exact ⟨rfl, HB.out⟩
                  · rw [if_neg c6] at H
                    have s92 : ((dgo x1).1 == 92) = false := beq_eq_false_iff_ne.mpr c6
                    clear c6
                    have H' := Aside0.mk H
                    clear H
                    have H := H'.out
                    clear H'
                    obtain ⟨a, ha, H⟩ := Option.bind_eq_some_iff.mp H
                    obtain ⟨b, hb, H⟩ := Option.bind_eq_some_iff.mp H
                    cases nc with
                    | true =>
                      have ha' : match_tolower.f (match_matchLimit0.sc x0) = some a := ha
                      have hb' : match_tolower.f (dgo x1).1 = some b := hb
                      have HA1 := Aside0.mk ha'
                      have HB1 := Aside0.mk hb'
                      clear ha hb ha' hb'
                      by_cases q2 : a = b
                      · rw [if_pos q2] at H
                        have z2 : (a == b) = true := beq_iff_eq.mpr q2
                        have z3 : (a != b) = false := by rw [q2]; simp
                        clear q2
                        have H' := Aside0.mk H
                        clear H
                        go_wp2_with fail
                        refine (match_tolower.calls (match_matchLimit0.sc x0) a _ HA1.out).mono ?_
                        rintro e wd ⟨rfl, ⟨nd1, rfl⟩⟩
                        go_wp2_with fail
                        refine (match_tolower.calls (dgo x1).1 b _ HB1.out).mono ?_
                        rintro e wd2 ⟨rfl, ⟨nd2, rfl⟩⟩
                        go_wp2
                        go_roundg k1
                        case measure => have := HK.out; omega
                        case rel => exact ⟨x0.extract ((match_matchLimit0.ss x0)).toNat x0.size, x1.extract ((dgo x1).2).toNat x1.size, rfl, rfl, H', ⟨by have := HK.out; omega⟩, ⟨pw_below_drewN HB.out _⟩⟩
                      · rw [if_neg q2] at H
                        obtain rfl := Option.some.inj H
                        have z2 : (a == b) = false := beq_eq_false_iff_ne.mpr q2
                        have z3 : (a != b) = true := bne_iff_ne.mpr q2
                        clear q2 H
                        go_wp2_with fail
                        refine (match_tolower.calls (match_matchLimit0.sc x0) a _ HA1.out).mono ?_
                        rintro e wd ⟨rfl, ⟨nd1, rfl⟩⟩
                        go_wp2_with fail
                        refine (match_tolower.calls (dgo x1).1 b _ HB1.out).mono ?_
                        rintro e wd2 ⟨rfl, ⟨nd2, rfl⟩⟩
                        go_wp2
                        go_ret
                        exact ⟨rfl, pw_below_drewN HB.out _⟩
                    | false =>
                      obtain rfl : match_matchLimit0.sc x0 = a := Option.some.inj ha
                      obtain rfl : (dgo x1).1 = b := Option.some.inj hb
                      clear ha hb
                      by_cases q2 : match_matchLimit0.sc x0 = (dgo x1).1
                      · rw [if_pos q2] at H
                        have z2 : (match_matchLimit0.sc x0 == (dgo x1).1) = true := beq_iff_eq.mpr q2
                        have z3 : (match_matchLimit0.sc x0 != (dgo x1).1) = false := by rw [q2]; simp
                        clear q2
                        have H' := Aside0.mk H
                        clear H
                        go_wp2
                        go_roundg k1
                        case measure => have := HK.out; omega
                        case rel => exact ⟨x0.extract ((match_matchLimit0.ss x0)).toNat x0.size, x1.extract ((dgo x1).2).toNat x1.size, rfl, rfl, H', ⟨by have := HK.out; omega⟩, HB⟩
                      · rw [if_neg q2] at H
                        obtain rfl := Option.some.inj H
                        have z2 : (match_matchLimit0.sc x0 == (dgo x1).1) = false := beq_eq_false_iff_ne.mpr q2
                        have z3 : (match_matchLimit0.sc x0 != (dgo x1).1) = true := bne_iff_ne.mpr q2
                        clear q2 H
                        go_wp2
                        go_ret
                        exact ⟨rfl, HB.out⟩
set_option maxHeartbeats 2000000 in
set_option maxRecDepth 100000 in
theorem match_matchLimit0.calls (k : Nat) (a0 : ByteArray) (a1 : ByteArray) (a2 : Int) (a3 : Bool) (r1 r2 : Bool) (w : World) (hG : Glob w) (h : match_matchLimit0.f k a0 a1 a2 a3 = some (r1, r2)) :
    Calls Tryd.prog 59 #[.string a0, .string a1, .int .i64 a2, .bool a3] w fun e w' => e = .returned (.tuple #[.bool r1, .bool r2]) ∧ Below w.heap.size w w' := by
  unfold match_matchLimit0.f at h
  by_cases c : a0.size ≤ 2147483647 ∧ 0 ≤ a2 ∧ a2 ≤ 1000000 ∧ bytesOf a1 ≠ [42]
  · rw [if_pos c] at h
    obtain ⟨c1, c2, c3, c4⟩ := c
    obtain ⟨x, hx, h⟩ := Option.bind_eq_some_iff.mp h
    have e : (a1.toList == [42]) = false := beq_eq_false_iff_ne.mpr (fun h2 => c4 ((Base.toList_bytes a1 [42]).mp h2))
    by_cases cx : x = 0 ∨ x = 1
    · rw [if_pos cx] at h
      simp only [Option.some.injEq, Prod.mk.injEq] at h
      obtain ⟨rfl, rfl⟩ := h
      have HX := Aside0.mk hx
      have HS := Aside0.mk c1
      have HC2 := Aside0.mk c2
      have HC3 := Aside0.mk c3
      have HG0 := Aside0.mk hG
      clear hx c1 c2 c3 c4 hG
      have HG1 : Aside0 (Glob ((w.alloc (.cells #[.int .i64 0] 3)).setCell ⟨w.heap.size, 0, none⟩ (.int .i64 1))) := ⟨HG0.out.below (((Below.refl _ _).alloc (Nat.le_refl _) _).setCell (Nat.le_refl _) _)⟩
      have HBW : Aside0 (Below w.heap.size w ((w.alloc (.cells #[.int .i64 0] 3)).setCell ⟨w.heap.size, 0, none⟩ (.int .i64 1))) := ⟨((Below.refl _ _).alloc (Nat.le_refl _) _).setCell (Nat.le_refl _) _⟩
      rcases cx with rfl | rfl
      · go_enter Tryd.func59, Tryd.ntmps59
        go_wp2_with fail
        refine (match_matchLimit0.m_calls k a0 a1 a3 a0.size a2 w.heap.size 0 (w.alloc (.cells #[.int .i64 0] 3)) _ rfl (by omega) (by have := HS.out; omega) HC2.out HC3.out (World.cell?_alloc_new w _ _ 0) (by unfold World.frozen?; rw [heap_alloc_new]; rfl) HG1.out HX.out).mono ?_
        rintro e wd ⟨rfl, hb⟩
        have HB := Aside0.mk (below_step HBW.out hb)
        clear hb
        go_wp2
        go_ret2
        exact ⟨rfl, HB.out⟩
      · go_enter Tryd.func59, Tryd.ntmps59
        go_wp2_with fail
        refine (match_matchLimit0.m_calls k a0 a1 a3 a0.size a2 w.heap.size 1 (w.alloc (.cells #[.int .i64 0] 3)) _ rfl (by omega) (by have := HS.out; omega) HC2.out HC3.out (World.cell?_alloc_new w _ _ 0) (by unfold World.frozen?; rw [heap_alloc_new]; rfl) HG1.out HX.out).mono ?_
        rintro e wd ⟨rfl, hb⟩
        have HB := Aside0.mk (below_step HBW.out hb)
        clear hb
        go_wp2
        go_ret2
        exact ⟨rfl, HB.out⟩
    · rw [if_neg cx] at h
      cases h
  · rw [if_neg c] at h
    cases h


end Go.Proofs.YtdllbnecbbggfaaDoor.XFnMtUnlimited
