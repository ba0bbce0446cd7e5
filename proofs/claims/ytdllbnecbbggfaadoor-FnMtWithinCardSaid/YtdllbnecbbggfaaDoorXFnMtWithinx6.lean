-- Written by xprint.py of this session (a program that runs the kit's print and adds to it); Lean checks it.
import Derived.Test.YtdllbnecbbggfaaDoorXFnMtWithinx0
import Derived.Test.YtdllbnecbbggfaaDoorXFnMtWithinx3
import Derived.Test.YtdllbnecbbggfaaDoorXFnMtWithinx5
namespace Go.Proofs.YtdllbnecbbggfaaDoor.XFnMtWithin
open Go.RowKit Go.Proofs.YtdllbnecbbggfaaDoorW.PrintWords Go.Proofs.YtdllbnecbbggfaaDoorW.PrintLast Go.Proofs.YtdllbnecbbggfaaDoorW.PrintMore
attribute [local go_sem] max2_int min2_int max_two min_two max_three min_three max_four min_four   -- for this text's walks alone
set_option linter.unusedVariables false
set_option linter.unusedSimpArgs false

--EXT
/-! ### match_match0: function 57 (by hand) -/
def match_match0.strip : Nat → ByteArray → Option ByteArray
  | 0, _ => none
  | k + 1, p => if 1 < (p.size : Int) then (if bt p 1 = 42 then match_match0.strip k (p.extract 1 p.size) else some p) else some p
def match_match0.sc (s : ByteArray) : Int := if s.size = 0 then 0 else (dgo s).1
def match_match0.ss (s : ByteArray) : Int := if s.size = 0 then 0 else (dgo s).2
def match_match0.low (nc : Bool) (c : Int) : Option Int := if nc = true then match_tolower.f c else some c
/-- match.match, no limit. -/
def match_match0.m : Nat → ByteArray → ByteArray → Bool → Option Int
  | 0, _, _, _ => none
  | k + 1, s, p, nc =>
    if p.size = 0 then (if s.size = 0 then some 1 else some 0) else
    if (dgo p).1 = 63 then (if s.size = 0 then some 0 else match_match0.m k (s.extract ((match_match0.ss s)).toNat s.size) (p.extract ((dgo p).2).toNat p.size) nc) else
    if (dgo p).1 = 42 then
      ((match_match0.strip k p).bind fun p1 =>
        if p1.size = 1 then some 1 else
        (match_matchTrimSuffix.f k s p1 nc).bind fun t =>
          if t.2.2 = true then
            (if t.2.1.size = 1 then some 1 else if t.2.1.size = 0 then none else
            (match_match0.m k t.1 (t.2.1.extract 1 t.2.1.size) nc).bind fun r =>
              if r = 0 then (if t.1.size = 0 then some 0 else if match_match0.ss s ≤ t.1.size then match_match0.m k (t.1.extract ((match_match0.ss s)).toNat t.1.size) t.2.1 nc else none) else some r)
          else some 0)
    else if s.size = 0 then some 0 else
    if (dgo p).1 = 92 then
      (if (p.extract ((dgo p).2).toNat p.size).size = 0 then some 0 else
        (match_match0.low nc (match_match0.sc s)).bind fun a => (match_match0.low nc (dgo (p.extract ((dgo p).2).toNat p.size)).1).bind fun b =>
          if a = b then match_match0.m k (s.extract ((match_match0.ss s)).toNat s.size) ((p.extract ((dgo p).2).toNat p.size).extract ((dgo (p.extract ((dgo p).2).toNat p.size)).2).toNat (p.extract ((dgo p).2).toNat p.size).size) nc else some 0)
    else
      (match_match0.low nc (match_match0.sc s)).bind fun a => (match_match0.low nc (dgo p).1).bind fun b =>
        if a = b then match_match0.m k (s.extract ((match_match0.ss s)).toNat s.size) (p.extract ((dgo p).2).toNat p.size) nc else some 0
theorem match_match0.strip_mono : ∀ k p, LeO (match_match0.strip k p) (match_match0.strip (k + 1) p)
  | 0, _ => fun _ h => by cases h
  | k + 1, p => by
    rw [match_match0.strip, match_match0.strip]
    exact LeO.ite (LeO.ite (match_match0.strip_mono k _) (LeO.refl _)) (LeO.refl _)
theorem match_match0.m_mono : ∀ k s p nc, LeO (match_match0.m k s p nc) (match_match0.m (k + 1) s p nc)
  | 0, _, _, _ => fun _ h => by cases h
  | k + 1, s, p, nc => by
    have ih := match_match0.m_mono k
    rw [match_match0.m, match_match0.m]
    refine LeO.ite (LeO.refl _) (LeO.ite (LeO.ite (LeO.refl _) (ih _ _ _)) (LeO.ite ?_ (LeO.ite (LeO.refl _) (LeO.ite (LeO.ite (LeO.refl _) ?_) ?_))))
    · refine LeO.bind (match_match0.strip_mono k p) fun p1 => LeO.ite (LeO.refl _) (LeO.bind (match_matchTrimSuffix.mono _ _ _ k) fun t => LeO.ite (LeO.ite (LeO.refl _) (LeO.ite (LeO.refl _) (LeO.bind (ih _ _ _) fun r => LeO.ite (LeO.ite (LeO.refl _) (LeO.ite (ih _ _ _) (LeO.refl _))) (LeO.refl _)))) (LeO.refl _))
    · exact LeO.bind (LeO.refl _) fun a => LeO.bind (LeO.refl _) fun b => LeO.ite (ih _ _ _) (LeO.refl _)
    · exact LeO.bind (LeO.refl _) fun a => LeO.bind (LeO.refl _) fun b => LeO.ite (ih _ _ _) (LeO.refl _)
def match_match0.f (k : Nat) (a0 : ByteArray) (a1 : ByteArray) (a2 : Bool) : Option Bool := if bytesOf a1 = [42] then some true else (match_match0.m k a0 a1 a2).map (fun r => decide (r = 1))
theorem match_match0.mono : ∀ a0 a1 a2 k, LeO (match_match0.f k a0 a1 a2) (match_match0.f (k + 1) a0 a1 a2) := by
  intro a0 a1 a2 k
  unfold match_match0.f
  refine LeO.ite (LeO.refl _) (fun r h => ?_)
  obtain ⟨x, hx, rfl⟩ := Option.map_eq_some_iff.mp h
  exact Option.map_eq_some_iff.mpr ⟨x, match_match0.m_mono k _ _ _ _ hx, rfl⟩
theorem match_match0.ss_bounds (s : ByteArray) : 0 ≤ match_match0.ss s ∧ match_match0.ss s ≤ 4 ∧ match_match0.ss s ≤ s.size ∧ (match_match0.ss s = 0 ↔ s.size = 0) := by
  have := dgo_bounds s
  unfold match_match0.ss
  split
  · rename_i h; exact ⟨by omega, by omega, by omega, ⟨fun _ => h, fun _ => rfl⟩⟩
  · rename_i h; exact ⟨by omega, by omega, by omega, by omega⟩
theorem match_match0.sc_bounds (s : ByteArray) : 0 ≤ match_match0.sc s ∧ match_match0.sc s ≤ 1114111 := by
  have := dgo_bounds s
  unfold match_match0.sc
  split <;> omega
set_option maxHeartbeats 8000000 in
set_option maxRecDepth 100000 in
theorem match_match0.m_calls (k : Nat) : ∀ (s p : ByteArray) (nc : Bool) (n : Int) (r : Int) (w : World), Glob w → match_match0.m k s p nc = some r →
    Calls Tryd.prog 71 #[.string s, .string p, .int .i64 n, .pointer none, .int .i64 (-1), .bool nc] w fun e w' => e = .returned (.int .i64 r) ∧ Below w.heap.size w w' := by
  induction k using Nat.strongRecOn with
  | _ k ih =>
  intro s p nc n r w hG h
  have HG := Aside0.mk hG
  have H' := Aside0.mk h
  have HB := Aside0.mk (Below.refl w.heap.size w)
  have IH := Aside0.mk ih
  clear hG h ih
  go_enter Tryd.func71, Tryd.ntmps71
  go_wp2
  try simp only [Act.put, List.setIfInBounds_toArray, List.set_cons_succ, List.set_cons_zero]
  go_loopg [0, 1] k (fun kq v0 v1 w' => ∃ (x0 : ByteArray) (x1 : ByteArray), v0 = .string x0 ∧ v1 = .string x1 ∧ Aside0 (match_match0.m kq x0 x1 nc = some r) ∧ Aside0 (kq ≤ k) ∧ Aside0 (Below w.heap.size w w'))
  case atStart => exact ⟨s, p, rfl, rfl, H', ⟨Nat.le_refl _⟩, HB⟩
  case round =>
    clear H' HB
    obtain ⟨x0, x1, rfl, rfl, HA, HK, HB⟩ := hrel
    cases gk with
    | zero => exact absurd HA.out (by simp [match_match0.m])
    | succ k1 =>
      have H := HA.out
      clear HA
      simp only [match_match0.m] at H
      by_cases c1 : x1.size = 0
      · rw [if_pos c1] at H
        have e1 : decide (0 < (x1.size : Int)) = false := decide_eq_false (by omega)
        have e2 : decide (0 < x1.size) = false := decide_eq_false (by omega)
        have HC1 := Aside0.mk c1
        clear c1
        by_cases c2 : x0.size = 0
        · rw [if_pos c2] at H
          obtain rfl := Option.some.inj H
          have e3 : ((x0.size : Int) == 0) = true := beq_iff_eq.mpr (by omega)
          have HC2 := Aside0.mk c2
          clear c2 H
          go_wp2
          go_ret
          exact ⟨rfl, HB.out⟩
        · rw [if_neg c2] at H
          obtain rfl := Option.some.inj H
          have e3 : ((x0.size : Int) == 0) = false := beq_eq_false_iff_ne.mpr (by omega)
          have HC2 := Aside0.mk c2
          clear c2 H
          go_wp2
          go_ret
          exact ⟨rfl, HB.out⟩
      · rw [if_neg c1] at H
        have H' := Aside0.mk H
        clear H
        have e1 : decide (0 < (x1.size : Int)) = true := decide_eq_true (by omega)
        have e2 : decide (0 < x1.size) = true := decide_eq_true (by omega)
        have hz1 : 0 < x1.size := by omega
        have HZ1 := Aside0.mk hz1
        clear c1
        have hb := bt_range x1 0
        have hx : ∀ h : 0 < x1.size, ((x1[0]'h).toNat : Int) = bt x1 0 := bt_at x1 0
        go_upto_if 41 with (fail)
        go_cut [14, 15] (fun v14 v15 wc => v14 = .int .i32 (dgo x1).1 ∧ v15 = .int .i64 (dgo x1).2 ∧ Aside0 (Below w.heap.size w wc))
        case first =>
          by_cases c3 : bt x1 0 < 128
          · have HD := Aside0.mk (dgo_ascii HZ1.out c3)
            have e4 : decide (127 < bt x1 0) = false := decide_eq_false (by omega)
            go_wp2
            go_meet
            case rel => exact ⟨by rw [HD.out], by rw [HD.out], HB⟩
          · have e4 : decide (127 < bt x1 0) = true := decide_eq_true (by omega)
            go_wp2_with (first | (go_at_call 62; (with_reducible refine (dgo_calls x1 _ ?side1).mono ?_); (case side1 => exact Glob.below HG.out HB.out); rintro e wd ⟨rfl, hbd⟩; have HBd := Aside0.mk (below_step HB.out hbd); clear hbd))
            go_meet
            case rel => exact ⟨rfl, rfl, HBd⟩
        case rest =>
          clear hb hx HB
          obtain ⟨rfl, rfl, HB⟩ := hcut
          have hb := bt_range x0 0
          go_upto_if 49 with (fail)
          go_cut [16, 17] (fun v16 v17 wc => v16 = .int .i32 (match_match0.sc x0) ∧ v17 = .int .i64 (match_match0.ss x0) ∧ Aside0 (Below w.heap.size w wc))
          case first =>
            by_cases c2 : x0.size = 0
            · have f1 : decide (0 < (x0.size : Int)) = false := decide_eq_false (by omega)
              have f2 : decide (0 < x0.size) = false := decide_eq_false (by omega)
              have HC := Aside0.mk c2
              clear c2
              (first | rw [f1] | rw [f2] | skip)
              go_wp2
              go_meet
              case rel => exact ⟨by unfold match_match0.sc; rw [if_pos HC.out], by unfold match_match0.ss; rw [if_pos HC.out], HB⟩
            · have f1 : decide (0 < (x0.size : Int)) = true := decide_eq_true (by omega)
              have f2 : decide (0 < x0.size) = true := decide_eq_true (by omega)
              have hz0 : 0 < x0.size := by omega
              have HC := Aside0.mk c2
              clear c2
              (first | rw [f1] | rw [f2] | skip)
              have hx : ∀ h : 0 < x0.size, ((x0[0]'h).toNat : Int) = bt x0 0 := bt_at x0 0
              by_cases c3 : bt x0 0 < 128
              · have HD := Aside0.mk (dgo_ascii hz0 c3)
                have e4 : decide (127 < bt x0 0) = false := decide_eq_false (by omega)
                go_wp2
                go_meet
                case rel => exact ⟨by unfold match_match0.sc; rw [if_neg HC.out, HD.out], by unfold match_match0.ss; rw [if_neg HC.out, HD.out], HB⟩
              · have e4 : decide (127 < bt x0 0) = true := decide_eq_true (by omega)
                go_wp2_with (first | (go_at_call 62; (with_reducible refine (dgo_calls x0 _ ?side2).mono ?_); (case side2 => exact Glob.below HG.out HB.out); rintro e wd ⟨rfl, hbd⟩; have HBd := Aside0.mk (below_step HB.out hbd); clear hbd))
                go_meet
                case rel => exact ⟨by unfold match_match0.sc; rw [if_neg HC.out], by unfold match_match0.ss; rw [if_neg HC.out], HBd⟩
          case rest =>
            clear hb HB
            obtain ⟨rfl, rfl, HB⟩ := hcut
            obtain ⟨b1, b2, b3, b4, b5, b6⟩ := dgo_bounds x1
            obtain ⟨d1, d2, d3, d4⟩ := match_match0.ss_bounds x0
            obtain ⟨d5, d6⟩ := match_match0.sc_bounds x0
            have HB6 := Aside0.mk b6
            have HD4 := Aside0.mk d4
            clear b6 d4
            have H := H'.out
            clear H'
            by_cases c4 : (dgo x1).1 = 63
            · rw [if_pos c4] at H
              have s63 : ((dgo x1).1 == 63) = true := beq_iff_eq.mpr c4
              clear c4
              by_cases c2 : x0.size = 0
              · rw [if_pos c2] at H
                obtain rfl := Option.some.inj H
                have z0 : (match_match0.ss x0 == 0) = true := beq_iff_eq.mpr (HD4.out.mpr c2)
                have HC := Aside0.mk c2
                clear c2 H
                go_wp2
                go_ret
                exact ⟨rfl, HB.out⟩
              · rw [if_neg c2] at H
                have z0 : (match_match0.ss x0 == 0) = false := beq_eq_false_iff_ne.mpr (fun h => c2 (HD4.out.mp h))
                have H' := Aside0.mk H
                clear c2 H
                go_wp2
                go_roundg k1
                case measure => have := HK.out; omega
                case rel => exact ⟨x0.extract ((match_match0.ss x0)).toNat x0.size, x1.extract ((dgo x1).2).toNat x1.size, rfl, rfl, H', ⟨by have := HK.out; omega⟩, HB⟩
            · rw [if_neg c4] at H
              have s63 : ((dgo x1).1 == 63) = false := beq_eq_false_iff_ne.mpr c4
              clear c4
              by_cases c5 : (dgo x1).1 = 42
              · rw [if_pos c5] at H
                have s42 : ((dgo x1).1 == 42) = true := beq_iff_eq.mpr c5
                clear c5
                obtain ⟨p1, hp1, H⟩ := Option.bind_eq_some_iff.mp H
                have H' := Aside0.mk H
                have H1 := Aside0.mk hp1
                clear H hp1
                go_upto_block 3 with (fail)
                go_cut [1] (fun v1 wc => v1 = .string p1 ∧ Aside0 (Below w.heap.size w wc))
                case first =>
                  go_wp2
                  try simp only [Act.put, List.setIfInBounds_toArray, List.set_cons_succ, List.set_cons_zero]
                  go_loopg [1] k1 (fun kq v1 w' => ∃ (x : ByteArray), v1 = .string x ∧ Aside0 (match_match0.strip kq x = some p1) ∧ Aside0 (kq ≤ k1) ∧ Aside0 (Below w.heap.size w w'))
                  case atStart => exact ⟨x1, rfl, H1, ⟨Nat.le_refl _⟩, HB⟩
                  case round =>
                    clear H1 HB
                    obtain ⟨x, rfl, HA, HK2, HB⟩ := hrel
                    cases gk with
                    | zero => exact absurd HA.out (by simp [match_match0.strip])
                    | succ k2 =>
                      have H1 := HA.out
                      clear HA
                      simp only [match_match0.strip] at H1
                      have hb := bt_range x 1
                      have hx : ∀ h : 1 < x.size, ((x[1]'h).toNat : Int) = bt x 1 := bt_at x 1
                      by_cases q1 : 1 < (x.size : Int)
                      · rw [if_pos q1] at H1
                        have t1 : decide (1 < (x.size : Int)) = true := decide_eq_true q1
                        have t2 : decide (1 < x.size) = true := decide_eq_true (by omega)
                        have q2 : 1 < x.size := by omega
                        clear q1
                        by_cases q3 : bt x 1 = 42
                        · rw [if_pos q3] at H1
                          have t3 : (bt x 1 == 42) = true := beq_iff_eq.mpr q3
                          have H2 := Aside0.mk H1
                          clear q3 H1
                          go_wp2
                          go_roundg k2
                          case measure => have := HK2.out; omega
                          case rel => exact ⟨x.extract 1 x.size, rfl, H2, ⟨by have := HK2.out; omega⟩, HB⟩
                        · rw [if_neg q3] at H1
                          have t3 : (bt x 1 == 42) = false := beq_eq_false_iff_ne.mpr q3
                          obtain rfl := Option.some.inj H1
                          clear q3 H1
                          go_wp2
                          go_meet
                          case rel => exact ⟨rfl, HB⟩
                      · rw [if_neg q1] at H1
                        have t1 : decide (1 < (x.size : Int)) = false := decide_eq_false q1
                        have t2 : decide (1 < x.size) = false := decide_eq_false (by omega)
                        clear q1
                        obtain rfl := Option.some.inj H1
                        clear H1
                        go_wp2
                        go_meet
                        case rel => exact ⟨rfl, HB⟩
                case rest =>
                  clear H1 HB
                  obtain ⟨rfl, HB⟩ := hcut
                  have H := H'.out
                  clear H'
                  by_cases q1 : p1.size = 1
                  · rw [if_pos q1] at H
                    obtain rfl := Option.some.inj H
                    have t1 : ((p1.size : Int) == 1) = true := beq_iff_eq.mpr (by omega)
                    have HQ := Aside0.mk q1
                    clear q1 H
                    go_wp2
                    go_ret
                    exact ⟨rfl, HB.out⟩
                  · rw [if_neg q1] at H
                    have t1 : ((p1.size : Int) == 1) = false := beq_eq_false_iff_ne.mpr (by omega)
                    clear q1
                    obtain ⟨⟨y0, y1, y2⟩, ht, H⟩ := Option.bind_eq_some_iff.mp H
                    simp only [] at H
                    have HT := Aside0.mk ht
                    clear ht
                    have H' := Aside0.mk H
                    clear H
                    go_upto_if 111 with (first | (go_at_call 85; (with_reducible refine (match_matchTrimSuffix.calls k1 x0 p1 nc y0 y1 y2 _ ?sideT HT.out).mono ?_); (case sideT => exact Glob.below HG.out HB.out); rintro e wd ⟨rfl, hbd⟩; have HB2 := Aside0.mk (below_step HB.out hbd); clear hbd))
                    clear HB HT
                    have HB := HB2
                    clear HB2
                    have H := H'.out
                    clear H'
                    cases y2 with
                    | false =>
                      rw [if_neg (by simp)] at H
                      obtain rfl := Option.some.inj H
                      clear H
                      go_wp2
                      go_ret
                      exact ⟨rfl, HB.out⟩
                    | true =>
                      rw [if_pos rfl] at H
                      by_cases q2 : y1.size = 1
                      · rw [if_pos q2] at H
                        obtain rfl := Option.some.inj H
                        have t2 : ((y1.size : Int) == 1) = true := beq_iff_eq.mpr (by omega)
                        have HQ := Aside0.mk q2
                        clear q2 H
                        go_wp2
                        go_ret
                        exact ⟨rfl, HB.out⟩
                      · rw [if_neg q2] at H
                        by_cases q3 : y1.size = 0
                        · rw [if_pos q3] at H
                          cases H
                        · rw [if_neg q3] at H
                          have t2 : ((y1.size : Int) == 1) = false := beq_eq_false_iff_ne.mpr (by omega)
                          have t3 : 1 ≤ y1.size := by omega
                          have t4 : (1 : Int) ≤ y1.size := by omega
                          clear q2 q3
                          obtain ⟨rr, hr, H⟩ := Option.bind_eq_some_iff.mp H
                          have HR := Aside0.mk hr
                          clear hr
                          have H' := Aside0.mk H
                          clear H
                          have HKL : Aside0 (k1 < k) := ⟨by have := HK.out; omega⟩
                          go_upto_if 124 with (first | (go_at_call 71; (with_reducible refine (IH.out k1 HKL.out y0 (y1.extract 1 y1.size) nc n rr _ ?sideR HR.out).mono ?_); (case sideR => exact Glob.below HG.out HB.out); rintro e wd ⟨rfl, hbd⟩; have HB2 := Aside0.mk (below_step HB.out hbd); clear hbd))
                          clear HB HR
                          have HB := HB2
                          clear HB2
                          have H := H'.out
                          clear H'
                          by_cases q4 : rr = 0
                          · rw [if_pos q4] at H
                            have t5 : (rr == 0) = true := beq_iff_eq.mpr q4
                            have t6 : (rr != 0) = false := by rw [q4]; rfl
                            clear q4
                            by_cases q5 : y0.size = 0
                            · rw [if_pos q5] at H
                              obtain rfl := Option.some.inj H
                              have t7 : ((y0.size : Int) == 0) = true := beq_iff_eq.mpr (by omega)
                              have HQ := Aside0.mk q5
                              clear q5 H
                              go_wp2
                              go_ret
                              exact ⟨rfl, HB.out⟩
                            · rw [if_neg q5] at H
                              have t7 : ((y0.size : Int) == 0) = false := beq_eq_false_iff_ne.mpr (by omega)
                              clear q5
                              by_cases q6 : match_match0.ss x0 ≤ y0.size
                              · rw [if_pos q6] at H
                                have H' := Aside0.mk H
                                clear H
                                go_wp2
                                go_roundg k1
                                case measure => have := HK.out; omega
                                case rel => exact ⟨y0.extract ((match_match0.ss x0)).toNat y0.size, y1, rfl, rfl, H', ⟨by have := HK.out; omega⟩, HB⟩
                              · rw [if_neg q6] at H
                                cases H
                          · rw [if_neg q4] at H
                            obtain rfl := Option.some.inj H
                            have t5 : (rr == 0) = false := beq_eq_false_iff_ne.mpr q4
                            have t6 : (rr != 0) = true := bne_iff_ne.mpr q4
                            clear q4 H
                            go_wp2
                            go_ret
                            exact ⟨rfl, HB.out⟩
              · rw [if_neg c5] at H
                have s42 : ((dgo x1).1 == 42) = false := beq_eq_false_iff_ne.mpr c5
                clear c5
                by_cases c2 : x0.size = 0
                · rw [if_pos c2] at H
                  obtain rfl := Option.some.inj H
                  have z0 : (match_match0.ss x0 == 0) = true := beq_iff_eq.mpr (HD4.out.mpr c2)
                  have HC := Aside0.mk c2
                  clear c2 H
                  go_wp2
                  go_ret
                  exact ⟨rfl, HB.out⟩
                · rw [if_neg c2] at H
                  have z0 : (match_match0.ss x0 == 0) = false := beq_eq_false_iff_ne.mpr (fun h => c2 (HD4.out.mp h))
                  clear c2
                  by_cases c6 : (dgo x1).1 = 92
                  · rw [if_pos c6] at H
                    have s92 : ((dgo x1).1 == 92) = true := beq_iff_eq.mpr c6
                    clear c6
                    obtain ⟨g1, g2, g3, g4, g5, g6⟩ := dgo_bounds (x1.extract ((dgo x1).2).toNat x1.size)
                    have HG6 := Aside0.mk g6
                    clear g6
                    by_cases q1 : (x1.extract ((dgo x1).2).toNat x1.size).size = 0
                    · rw [if_pos q1] at H
                      obtain rfl := Option.some.inj H
                      have z1 : ((dgo (x1.extract ((dgo x1).2).toNat x1.size)).2 == 0) = true := beq_iff_eq.mpr (HG6.out.mpr q1)
                      clear q1 H
                      go_wp2_with (first | (go_at_call 62; (with_reducible refine (dgo_calls (x1.extract ((dgo x1).2).toNat x1.size) _ ?side3).mono ?_); (case side3 => exact Glob.below HG.out HB.out); rintro e wd ⟨rfl, hbd⟩; have HBd := Aside0.mk (below_step HB.out hbd); clear hbd))
                      go_ret
                      exact ⟨rfl, HBd.out⟩
                    · rw [if_neg q1] at H
                      have z1 : ((dgo (x1.extract ((dgo x1).2).toNat x1.size)).2 == 0) = false := beq_eq_false_iff_ne.mpr (fun h => q1 (HG6.out.mp h))
                      clear q1
                      have H' := Aside0.mk H
                      clear H
                      go_upto_if 74 with (first | (go_at_call 62; (with_reducible refine (dgo_calls (x1.extract ((dgo x1).2).toNat x1.size) _ ?side4).mono ?_); (case side4 => exact Glob.below HG.out HB.out); rintro e wd ⟨rfl, hbd⟩; have HBd := Aside0.mk (below_step HB.out hbd); clear hbd))
                      clear HB
                      have HB := HBd
                      clear HBd
                      generalize x1.extract ((dgo x1).2).toNat x1.size = q at *
                      have H := H'.out
                      clear H'
                      obtain ⟨a, ha, H⟩ := Option.bind_eq_some_iff.mp H
                      obtain ⟨b, hb, H⟩ := Option.bind_eq_some_iff.mp H
                      cases nc with
                      | true =>
                        have ha' : match_tolower.f (match_match0.sc x0) = some a := ha
                        have hb' : match_tolower.f (dgo q).1 = some b := hb
                        have HA1 := Aside0.mk ha'
                        have HB1 := Aside0.mk hb'
                        clear ha hb ha' hb'
                        by_cases q2 : a = b
                        · rw [if_pos q2] at H
                          have z2 : (a == b) = true := beq_iff_eq.mpr q2
                          have z3 : (a != b) = false := by rw [q2]; simp
                          clear q2
                          have H' := Aside0.mk H
                          clear H
                          go_wp2_with fail
                          refine (match_tolower.calls (match_match0.sc x0) a _ HA1.out).mono ?_
                          rintro e wd ⟨rfl, ⟨nd1, rfl⟩⟩
                          go_wp2_with fail
                          refine (match_tolower.calls (dgo q).1 b _ HB1.out).mono ?_
                          rintro e wd2 ⟨rfl, ⟨nd2, rfl⟩⟩
                          go_wp2
                          go_roundg k1
                          case measure => have := HK.out; omega
                          case rel => exact ⟨x0.extract ((match_match0.ss x0)).toNat x0.size, q.extract ((dgo q).2).toNat q.size, rfl, rfl, H', ⟨by have := HK.out; omega⟩, ⟨pw_below_drewN HB.out _⟩⟩
                        · rw [if_neg q2] at H
                          obtain rfl := Option.some.inj H
                          have z2 : (a == b) = false := beq_eq_false_iff_ne.mpr q2
                          have z3 : (a != b) = true := bne_iff_ne.mpr q2
                          clear q2 H
                          go_wp2_with fail
                          refine (match_tolower.calls (match_match0.sc x0) a _ HA1.out).mono ?_
                          rintro e wd ⟨rfl, ⟨nd1, rfl⟩⟩
                          go_wp2_with fail
                          refine (match_tolower.calls (dgo q).1 b _ HB1.out).mono ?_
                          rintro e wd2 ⟨rfl, ⟨nd2, rfl⟩⟩
                          go_wp2
                          go_ret
                          exact ⟨rfl, pw_below_drewN HB.out _⟩
                      | false =>
                        obtain rfl : match_match0.sc x0 = a := Option.some.inj ha
                        obtain rfl : (dgo q).1 = b := Option.some.inj hb
                        clear ha hb
                        by_cases q2 : match_match0.sc x0 = (dgo q).1
                        · rw [if_pos q2] at H
                          have z2 : (match_match0.sc x0 == (dgo q).1) = true := beq_iff_eq.mpr q2
                          have z3 : (match_match0.sc x0 != (dgo q).1) = false := by rw [q2]; simp
                          clear q2
                          have H' := Aside0.mk H
                          clear H
                          go_wp2
                          go_roundg k1
                          case measure => have := HK.out; omega
                          case rel => exact ⟨x0.extract ((match_match0.ss x0)).toNat x0.size, q.extract ((dgo q).2).toNat q.size, rfl, rfl, H', ⟨by have := HK.out; omega⟩, HB⟩
                        · rw [if_neg q2] at H
                          obtain rfl := Option.some.inj H
                          have z2 : (match_match0.sc x0 == (dgo q).1) = false := beq_eq_false_iff_ne.mpr q2
                          have z3 : (match_match0.sc x0 != (dgo q).1) = true := bne_iff_ne.mpr q2
                          clear q2 H
                          go_wp2
                          go_ret
                          exact ⟨rfl, HB.out⟩
                  · rw [if_neg c6] at H
                    have s92 : ((dgo x1).1 == 92) = false := beq_eq_false_iff_ne.mpr c6
                    clear c6
                    have H' := Aside0.mk H
                    clear H
                    have H := H'.out
                    clear H'
                    obtain ⟨a, ha, H⟩ := Option.bind_eq_some_iff.mp H
                    obtain ⟨b, hb, H⟩ := Option.bind_eq_some_iff.mp H
                    cases nc with
                    | true =>
                      have ha' : match_tolower.f (match_match0.sc x0) = some a := ha
                      have hb' : match_tolower.f (dgo x1).1 = some b := hb
                      have HA1 := Aside0.mk ha'
                      have HB1 := Aside0.mk hb'
                      clear ha hb ha' hb'
                      by_cases q2 : a = b
                      · rw [if_pos q2] at H
                        have z2 : (a == b) = true := beq_iff_eq.mpr q2
                        have z3 : (a != b) = false := by rw [q2]; simp
                        clear q2
                        have H' := Aside0.mk H
                        clear H
                        go_wp2_with fail
                        refine (match_tolower.calls (match_match0.sc x0) a _ HA1.out).mono ?_
                        rintro e wd ⟨rfl, ⟨nd1, rfl⟩⟩
                        go_wp2_with fail
                        refine (match_tolower.calls (dgo x1).1 b _ HB1.out).mono ?_
                        rintro e wd2 ⟨rfl, ⟨nd2, rfl⟩⟩
                        go_wp2
                        go_roundg k1
                        case measure => have := HK.out; omega
                        case rel => exact ⟨x0.extract ((match_match0.ss x0)).toNat x0.size, x1.extract ((dgo x1).2).toNat x1.size, rfl, rfl, H', ⟨by have := HK.out; omega⟩, ⟨pw_below_drewN HB.out _⟩⟩
                      · rw [if_neg q2] at H
                        obtain rfl := Option.some.inj H
                        have z2 : (a == b) = false := beq_eq_false_iff_ne.mpr q2
                        have z3 : (a != b) = true := bne_iff_ne.mpr q2
                        clear q2 H
                        go_wp2_with fail
                        refine (match_tolower.calls (match_match0.sc x0) a _ HA1.out).mono ?_
                        rintro e wd ⟨rfl, ⟨nd1, rfl⟩⟩
                        go_wp2_with fail
                        refine (match_tolower.calls (dgo x1).1 b _ HB1.out).mono ?_
                        rintro e wd2 ⟨rfl, ⟨nd2, rfl⟩⟩
                        go_wp2
                        go_ret
                        exact ⟨rfl, pw_below_drewN HB.out _⟩
                    | false =>
                      obtain rfl : match_match0.sc x0 = a := Option.some.inj ha
                      obtain rfl : (dgo x1).1 = b := Option.some.inj hb
                      clear ha hb
                      by_cases q2 : match_match0.sc x0 = (dgo x1).1
                      · rw [if_pos q2] at H
                        have z2 : (match_match0.sc x0 == (dgo x1).1) = true := beq_iff_eq.mpr q2
                        have z3 : (match_match0.sc x0 != (dgo x1).1) = false := by rw [q2]; simp
                        clear q2
                        have H' := Aside0.mk H
                        clear H
                        go_wp2
                        go_roundg k1
                        case measure => have := HK.out; omega
                        case rel => exact ⟨x0.extract ((match_match0.ss x0)).toNat x0.size, x1.extract ((dgo x1).2).toNat x1.size, rfl, rfl, H', ⟨by have := HK.out; omega⟩, HB⟩
                      · rw [if_neg q2] at H
                        obtain rfl := Option.some.inj H
                        have z2 : (match_match0.sc x0 == (dgo x1).1) = false := beq_eq_false_iff_ne.mpr q2
                        have z3 : (match_match0.sc x0 != (dgo x1).1) = true := bne_iff_ne.mpr q2
                        clear q2 H
                        go_wp2
                        go_ret
                        exact ⟨rfl, HB.out⟩
set_option maxHeartbeats 2000000 in
set_option maxRecDepth 100000 in
theorem match_match0.calls (k : Nat) (a0 : ByteArray) (a1 : ByteArray) (a2 : Bool) (r : Bool) (w : World) (hG : Glob w) (h : match_match0.f k a0 a1 a2 = some r) :
    Calls Tryd.prog 57 #[.string a0, .string a1, .bool a2] w fun e w' => e = .returned (.bool r) ∧ Below w.heap.size w w' := by
  have HG := Aside0.mk hG
  clear hG
  unfold match_match0.f at h
  by_cases c : bytesOf a1 = [42]
  · rw [if_pos c] at h
    obtain rfl := Option.some.inj h
    have e : (a1.toList == [42]) = true := beq_iff_eq.mpr ((Base.toList_bytes a1 [42]).mpr c)
    clear c h
    go_enter Tryd.func57, Tryd.ntmps57
    go_wp2
    go_ret
    exact ⟨rfl, Below.refl _ _⟩
  · rw [if_neg c] at h
    have e : (a1.toList == [42]) = false := beq_eq_false_iff_ne.mpr (fun h2 => c ((Base.toList_bytes a1 [42]).mp h2))
    obtain ⟨x, hx, rfl⟩ := Option.map_eq_some_iff.mp h
    have HX := Aside0.mk hx
    clear c h hx
    by_cases d : x = 1
    · have e2 : (x == 1) = true := beq_iff_eq.mpr d
      have HD : Aside0 (decide (x = 1) = true) := ⟨decide_eq_true d⟩
      clear d
      go_enter Tryd.func57, Tryd.ntmps57
      go_wp2_with fail
      refine (match_match0.m_calls k a0 a1 a2 0 x w HG.out HX.out).mono ?_
      rintro e wd ⟨rfl, hb⟩
      go_wp2
      go_ret
      exact ⟨by rw [HD.out]; rfl, hb⟩
    · have e2 : (x == 1) = false := beq_eq_false_iff_ne.mpr d
      have HD : Aside0 (decide (x = 1) = false) := ⟨decide_eq_false d⟩
      clear d
      go_enter Tryd.func57, Tryd.ntmps57
      go_wp2_with fail
      refine (match_match0.m_calls k a0 a1 a2 0 x w HG.out HX.out).mono ?_
      rintro e wd ⟨rfl, hb⟩
      go_wp2
      go_ret
      exact ⟨by rw [HD.out]; rfl, hb⟩


end Go.Proofs.YtdllbnecbbggfaaDoor.XFnMtWithin
