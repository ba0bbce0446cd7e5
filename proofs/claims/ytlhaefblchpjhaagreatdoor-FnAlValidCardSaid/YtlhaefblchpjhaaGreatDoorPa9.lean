/- Proved here: parts of the law FnAlValid (the texts FjW1 FjW4 FjW5 FjW6 FjB FjW7 FjW8 FjAbs FjW9 FjW10 FjW11 FjVal), no conditions of their own beyond what each theorem says. -/
import Derived.Test.YtlhaefblchpjhaaGreatDoorPa4
import Derived.Test.YtlhaefblchpjhaaGreatDoorPa6
import Derived.Test.YtlhaefblchpjhaaGreatDoorPa1
import Derived.Test.YtlhaefblchpjhaaGreatDoorPa7
import Derived.Lib.ConvBytes
import Derived.BigGuard
section
namespace Go.Proofs.YtlhaefblchpjhaaGreatDoor.FjW
open Go.RowKit Go.Proofs.YtlhaefblchpjhaaGreatDoorW.PrintWords Go.Proofs.YtlhaefblchpjhaaGreatDoorW.PrintLast Go.Proofs.YtlhaefblchpjhaaGreatDoorW.PrintMore
attribute [local go_sem] max2_int min2_int max_two min_two max_three min_three max_four min_four
set_option linter.unusedVariables false
set_option linter.unusedSimpArgs false
section
variable {s : ByteArray}
theorem digs_at (s : ByteArray) (p : Nat) : Fj.digs (D s p) = if 48 ≤ bt s (p : Int) ∧ bt s (p : Int) ≤ 57 then Fj.digs (D s (p + 1)) + 1 else 0 := by
  by_cases h : p < s.size
  · rw [D_cons s p h, Fj.digs]
  · rw [D_nil s p (by omega), bt_out s p (by omega), if_neg (by omega)]; rfl
theorem digs_size (p : Nat) : p ≤ s.size → p + Fj.digs (D s p) ≤ s.size := fun h => by
  have := Fj.digs_le (D s p)
  rw [D_len] at this
  omega
/-- A number's end: behind the letter, behind the fraction, behind the whole part. -/
def eE (s : ByteArray) (p : Nat) : Option Nat :=
  if bt s (p : Int) = 43 ∨ bt s (p : Int) = 45 then (if Fj.digs (D s (p + 1)) = 0 then none else some (p + 1 + Fj.digs (D s (p + 1)))) else (if Fj.digs (D s p) = 0 then none else some (p + Fj.digs (D s p)))
def eX (s : ByteArray) (p : Nat) : Option Nat := if bt s (p : Int) = 101 ∨ bt s (p : Int) = 69 then eE s (p + 1) else some p
def eF (s : ByteArray) (p : Nat) : Option Nat := if bt s (p : Int) = 46 then (if Fj.digs (D s (p + 1)) = 0 then none else eX s (p + 1 + Fj.digs (D s (p + 1)))) else eX s p
def eW (s : ByteArray) (p : Nat) : Option Nat := if Fj.digs (D s p) = 0 then none else if bt s (p : Int) = 48 ∧ Fj.digs (D s p) ≠ 1 then none else eF s (p + Fj.digs (D s p))
def eN (s : ByteArray) (p : Nat) : Option Nat := if bt s (p : Int) = 45 then eW s (p + 1) else eW s p
theorem expo_eq (a m : Nat) : (Fj.expo (D s a) m).map (a + ·) = eX s (a + m) := by
  unfold Fj.expo eX eE
  simp only [rd_D, D_drop]
  have e1 : a + (m + 1) = a + m + 1 := by omega
  have e2 : a + (m + 2) = a + m + 1 + 1 := by omega
  rw [e1, e2]
  by_cases c : bt s ((a + m : Nat) : Int) = 101 ∨ bt s ((a + m : Nat) : Int) = 69
  · rw [if_pos c, if_pos c]
    by_cases d : bt s ((a + m + 1 : Nat) : Int) = 45 ∨ bt s ((a + m + 1 : Nat) : Int) = 43
    · rw [if_pos d, if_pos d.symm]
      by_cases z : Fj.digs (D s (a + m + 1 + 1)) = 0
      · rw [if_pos z, if_pos z]; rfl
      · rw [if_neg z, if_neg z]
        simp only [Option.map_some]
        congr 1; omega
    · have d' : ¬ (bt s ((a + m + 1 : Nat) : Int) = 43 ∨ bt s ((a + m + 1 : Nat) : Int) = 45) := fun x => d x.symm
      rw [if_neg d, if_neg d']
      by_cases z : Fj.digs (D s (a + m + 1)) = 0
      · rw [if_pos z, if_pos z]; rfl
      · rw [if_neg z, if_neg z]
        simp only [Option.map_some]
        congr 1; omega
  · rw [if_neg c, if_neg c]; rfl
theorem frac_eq (a m : Nat) : (Fj.frac (D s a) m).map (a + ·) = eF s (a + m) := by
  unfold Fj.frac eF
  simp only [rd_D, D_drop]
  have e1 : a + (m + 1) = a + m + 1 := by omega
  rw [e1]
  by_cases c : bt s ((a + m : Nat) : Int) = 46
  · rw [if_pos c, if_pos c]
    by_cases z : Fj.digs (D s (a + m + 1)) = 0
    · rw [if_pos z, if_pos z]; rfl
    · rw [if_neg z, if_neg z, expo_eq]
      congr 1; omega
  · rw [if_neg c, if_neg c]; exact expo_eq a m
theorem whole_eq (a m : Nat) : (Fj.whole (D s a) m).map (a + ·) = eW s (a + m) := by
  unfold Fj.whole eW
  simp only [rd_D, D_drop]
  by_cases z : Fj.digs (D s (a + m)) = 0
  · rw [if_pos z, if_pos z]; rfl
  · rw [if_neg z, if_neg z]
    by_cases y : bt s ((a + m : Nat) : Int) = 48 ∧ Fj.digs (D s (a + m)) ≠ 1
    · rw [if_pos y, if_pos y]; rfl
    · rw [if_neg y, if_neg y, frac_eq]
      congr 1; omega
theorem num_eq (a : Nat) : (Fj.num (D s a)).map (a + ·) = eN s a := by
  unfold Fj.num eN
  rw [rd_D0]
  by_cases c : bt s (a : Int) = 45
  · rw [if_pos c, if_pos c]; exact whole_eq a 1
  · rw [if_neg c, if_neg c]; exact whole_eq a 0
theorem eW_none {p : Nat} (h : Fj.digs (D s p) = 0) : eW s p = none := if_pos h
theorem digs_out {p : Nat} (h : s.size ≤ p) : Fj.digs (D s p) = 0 := by rw [D_nil s p h]; rfl
theorem eN_out {p : Nat} (h : s.size ≤ p) : eN s p = none := by
  have hz : bt s ((p : Nat) : Int) = 0 := bt_out s _ (by omega)
  unfold eN
  rw [if_neg (by rw [hz]; decide), eW_none (digs_out h)]
theorem eX_end : eX s s.size = some s.size := by
  have hz : bt s ((s.size : Nat) : Int) = 0 := bt_out s _ (by omega)
  unfold eX
  rw [hz, if_neg (by decide)]
theorem eF_end : eF s s.size = some s.size := by
  have hz : bt s ((s.size : Nat) : Int) = 0 := bt_out s _ (by omega)
  unfold eF
  rw [hz, if_neg (by decide), eX_end]
theorem eE_out {p : Nat} (h : s.size ≤ p) : eE s p = none := by
  have hz : bt s ((p : Nat) : Int) = 0 := bt_out s _ (by omega)
  unfold eE
  rw [hz, if_neg (by decide), if_pos (digs_out h)]
theorem num_eq0 : Fj.num (bytesOf s) = eN s 0 := by
  have h : (Fj.num (D s 0)).map (0 + ·) = eN s 0 := num_eq 0
  rw [show D s 0 = bytesOf s from List.drop_zero] at h
  rw [← h]
  cases Fj.num (bytesOf s) <;> simp
end
/-- What a function that checks answers: the text behind what it took, or an error. -/
def Said (a : ByteArray) (o : Option Nat) (e : Ending) : Prop := match o with
  | some m => e = .returned (.tuple #[.string (cut a m), .nilIface])
  | none => ∃ t T u, e = .returned (.tuple #[.string t, .iface T u])
theorem said_none {a : ByteArray} {o : Option Nat} {e : Ending} (h : o = none) (t : ByteArray) (T : TypeId) (u : Value) (he : e = .returned (.tuple #[.string t, .iface T u])) : Said a o e := by
  subst h; exact ⟨t, T, u, he⟩
theorem said_some {a t : ByteArray} {o : Option Nat} {e : Ending} {m : Nat} (h : o = some m) (ht : t = cut a m) (he : e = .returned (.tuple #[.string t, .nilIface])) : Said a o e := by
  subst h; subst ht; exact he
-- WALK (printed by wip/ext/mk_fjnum.py)
set_option maxHeartbeats 8000000 in
set_option maxRecDepth 100000 in
theorem number (a : ByteArray) (hs : a.size ≤ 1000000) (w : World) :
    Calls Tryz.prog 148 #[.string a] w fun e w' => Said a (Fj.num (bytesOf a)) e ∧ Below w.heap.size w w' := by
  rw [num_eq0]
  by_cases h0 : a.size = 0
  · have HC : Aside0 (eN a 0 = none) := ⟨eN_out (by omega)⟩
    have e1 : ((a.size : Int) == 0) = true := beq_iff_eq.mpr (by omega)
    clear h0 hs
    go_enter Tryz.func148, Tryz.ntmps148
    go_wp2_with (first | (go_at_call 72; (with_reducible refine (errNew _ _).mono ?_); rintro e w' ⟨⟨T, u, rfl⟩, hb⟩))
    go_ret2
    exact ⟨said_none HC.out _ T u rfl, hb⟩
  · have e1 : ((a.size : Int) == 0) = false := beq_eq_false_iff_ne.mpr (by omega)
    have hz : 0 < a.size := by omega
    have hx : ∀ h : 0 < a.size, ((a[0]'h).toNat : Int) = bt a 0 := bt_at a 0
    have HZ := Aside0.mk hz
    have HS := Aside0.mk hs
    clear h0 hs
    go_enter Tryz.func148, Tryz.ntmps148
    go_upto_if 12 with (fail)
    go_cut [0] (fun v0 wc => ∃ (b : ByteArray) (q : Nat), v0 = .string b ∧ Aside0 (b = cut a q ∧ q < a.size ∧ eN a 0 = eW a q) ∧ w = wc)
    case first =>
      by_cases c : bt a 0 = 45
      · obtain ⟨b, hb⟩ : ∃ b, a.extract 1 a.size = b := ⟨_, rfl⟩
        have hsz : b.size = a.size - 1 := by rw [← hb]; exact cut_size a 1
        have HN : Aside0 (eN a 0 = eW a 1) := ⟨if_pos c⟩
        have c' : (bt a 0 == 45) = true := beq_iff_eq.mpr c
        by_cases c1 : b.size = 0
        · have e2 : ((b.size : Int) == 0) = true := beq_iff_eq.mpr (by omega)
          have HC : Aside0 (eN a 0 = none) := ⟨by rw [HN.out]; exact eW_none (digs_out (by omega))⟩
          clear c HN hsz c1
          go_wp2_with (first | (go_at_call 72; (with_reducible refine (errNew _ _).mono ?_); rintro e w' ⟨⟨T, u, rfl⟩, hb⟩))
          go_ret2
          exact ⟨said_none HC.out _ T u rfl, hb⟩
        · have e2 : ((b.size : Int) == 0) = false := beq_eq_false_iff_ne.mpr (by omega)
          have HQ : Aside0 (b = cut a 1 ∧ 1 < a.size ∧ eN a 0 = eW a 1) := ⟨hb.symm, by omega, HN.out⟩
          clear c HN hsz c1
          go_wp2
          go_meet
          case rel => exact ⟨b, 1, rfl, HQ, rfl⟩
      · have c' : (bt a 0 == 45) = false := beq_eq_false_iff_ne.mpr c
        have HQ : Aside0 (a = cut a 0 ∧ 0 < a.size ∧ eN a 0 = eW a 0) := ⟨(cut_zero a).symm, hz, if_neg c⟩
        clear c
        go_wp2
        go_meet
        case rel => exact ⟨a, 0, rfl, HQ, rfl⟩
    case rest =>
      clear hx e1 hz
      obtain ⟨b, q, rfl, HQ, rfl⟩ := hcut
      have hbs : b.size ≤ 1000000 := by have := HS.out; rw [HQ.out.1, cut_size]; omega
      have HBS := Aside0.mk hbs
      go_upto_block 0 with (fail)
      go_cut [4] (fun v4 wc => ∃ d : Nat, v4 = .int .i64 (d : Int) ∧ Aside0 (Fj.digs (D b 0) = d) ∧ w = wc)
      case first =>
        go_wp2_with (fail)
        go_loop [4] (fun v => ∃ j : Nat, v = .int .i64 (j : Int) ∧ j ≤ b.size ∧ Aside0 (Fj.digs (D b 0) = j + Fj.digs (D b j))) (fun v => b.size - (intOf v).toNat)
        case atStart => exact ⟨0, rfl, Nat.zero_le _, ⟨(Nat.zero_add _).symm⟩⟩
        case round =>
          obtain ⟨j, rfl, hj, HD⟩ := hrel
          by_cases hlt : j < b.size
          · have hx : ∀ h : j < b.size, ((b[j]'h).toNat : Int) = bt b (j : Int) := bt_at b (j : Int)
            have hd := digs_at b j
            by_cases c1 : bt b (j : Int) < 48
            · have e2 : decide (bt b (j : Int) < 48) = true := decide_eq_true c1
              have HJ : Aside0 (Fj.digs (D b 0) = j) := ⟨by rw [HD.out, hd, if_neg (by omega)]; rfl⟩
              clear c1 hd HD
              go_wp2
              go_meet
              case rel => exact ⟨_, rfl, HJ, rfl⟩
            · have e2 : decide (bt b (j : Int) < 48) = false := decide_eq_false c1
              by_cases c2 : 57 < bt b (j : Int)
              · have e3 : decide (57 < bt b (j : Int)) = true := decide_eq_true c2
                have HJ : Aside0 (Fj.digs (D b 0) = j) := ⟨by rw [HD.out, hd, if_neg (by omega)]; rfl⟩
                clear c1 c2 hd HD
                go_wp2
                go_meet
                case rel => exact ⟨_, rfl, HJ, rfl⟩
              · have e3 : decide (57 < bt b (j : Int)) = false := decide_eq_false c2
                have HJ : Aside0 (Fj.digs (D b 0) = j + 1 + Fj.digs (D b (j + 1))) := ⟨by rw [HD.out, hd, if_pos (by omega)]; omega⟩
                clear c1 c2 hd HD
                go_wp2
                go_round
                case rel => exact ⟨j + 1, by go_num, by omega, HJ⟩
                case measure => simp [intOf]; omega
          · have HJ : Aside0 (Fj.digs (D b 0) = j) := ⟨by rw [HD.out, digs_out (by omega)]; rfl⟩
            obtain rfl : j = b.size := by omega
            clear hlt HD
            go_wp2
            go_meet
            case rel => exact ⟨_, rfl, HJ, rfl⟩
      case rest =>
        obtain ⟨d, rfl, HD, rfl⟩ := hcut
        have HDa : Aside0 (Fj.digs (D a q) = d) := ⟨by have := HD.out; rw [HQ.out.1, cut_D, Nat.add_zero] at this; exact this⟩
        have HBsz : Aside0 (b.size = a.size - q) := ⟨by rw [HQ.out.1]; exact cut_size a q⟩
        have hz : 0 < b.size := by have := HQ.out.2.1; have := HBsz.out; omega
        have hx : ∀ h : 0 < b.size, ((b[0]'h).toNat : Int) = bt b 0 := bt_at b 0
        have HB0 : Aside0 (bt b 0 = bt a q) := ⟨by rw [HQ.out.1]; exact cut_bt a q 0⟩
        have hdle : d ≤ b.size := by have h := digs_size (s := b) (p := 0) (Nat.zero_le _); rw [HD.out] at h; omega
        clear HD
        by_cases c1 : d = 0
        · have HC : Aside0 (eN a 0 = none) := ⟨by rw [HQ.out.2.2]; exact eW_none (by rw [HDa.out, c1])⟩
          subst c1
          go_wp2_with (first | (go_at_call 72; (with_reducible refine (errNew _ _).mono ?_); rintro e w' ⟨⟨T, u, rfl⟩, hb⟩))
          go_ret2
          exact ⟨said_none HC.out _ T u rfl, hb⟩
        · have e1 : decide ((d : Int) ≤ 0) = false := decide_eq_false (by omega)
          go_upto_region 13 with (fail)
          go_cut [46] (fun v46 wc => v46 = .bool (decide (bt a q = 48 ∧ d ≠ 1)) ∧ w = wc)
          case first =>
            by_cases c2 : bt b 0 = 48
            · have e2 : (bt b 0 == 48) = true := beq_iff_eq.mpr c2
              by_cases c3 : d = 1
              · have HC : Aside0 (decide (bt a q = 48 ∧ d ≠ 1) = false) := ⟨decide_eq_false fun h => h.2 c3⟩
                have e3 : ((d : Int) != 1) = false := by rw [c3]; rfl
                clear c2
                go_wp2
                go_meet
                case rel => exact ⟨by rw [HC.out], rfl⟩
              · have HC : Aside0 (decide (bt a q = 48 ∧ d ≠ 1) = true) := ⟨decide_eq_true ⟨HB0.out.symm.trans c2, c3⟩⟩
                have e3 : ((d : Int) != 1) = true := bne_iff_ne.mpr (by omega)
                clear c2
                go_wp2
                go_meet
                case rel => exact ⟨by rw [HC.out], rfl⟩
            · have e2 : (bt b 0 == 48) = false := beq_eq_false_iff_ne.mpr c2
              have HC : Aside0 (decide (bt a q = 48 ∧ d ≠ 1) = false) := ⟨decide_eq_false fun h => c2 (HB0.out.trans h.1)⟩
              clear c2
              go_wp2
              go_meet
              case rel => exact ⟨by rw [HC.out], rfl⟩
          case rest =>
            obtain ⟨rfl, rfl⟩ := hcut
            by_cases c5 : bt a q = 48 ∧ d ≠ 1
            · have e5 : decide (bt a q = 48 ∧ d ≠ 1) = true := decide_eq_true c5
              have HC : Aside0 (eN a 0 = none) := ⟨by
                rw [HQ.out.2.2]
                unfold eW
                rw [HDa.out, if_neg c1, if_pos c5]⟩
              rw [e5]
              clear c5 e5
              go_wp2_with (first | (go_at_call 72; (with_reducible refine (errNew _ _).mono ?_); rintro e w' ⟨⟨T, u, rfl⟩, hb⟩))
              go_ret2
              exact ⟨said_none HC.out _ T u rfl, hb⟩
            · have e5 : decide (bt a q = 48 ∧ d ≠ 1) = false := decide_eq_false c5
              have HF : Aside0 (eN a 0 = eF a (q + d)) := ⟨by
                rw [HQ.out.2.2]
                unfold eW
                rw [HDa.out, if_neg c1, if_neg c5]⟩
              rw [e5]
              clear c5 e5
              clear hx hz HB0 HDa
              by_cases c2 : b.size ≤ d
              · have e2 : decide ((b.size : Int) ≤ (d : Int)) = true := decide_eq_true (by omega)
                have HC : Aside0 (eN a 0 = some a.size) := ⟨by
                  have := HQ.out.2.1
                  have := HBsz.out
                  rw [HF.out, show q + d = a.size from by omega]
                  exact eF_end⟩
                go_wp2
                go_ret2
                exact ⟨said_some HC.out (cut_end a _ (Nat.le_refl _)).symm rfl, Below.refl _ _⟩
              · have e2 : decide ((b.size : Int) ≤ (d : Int)) = false := decide_eq_false (by omega)
                have hdl : d < b.size := by omega
                have hx : ∀ h : d < b.size, ((b[d]'h).toNat : Int) = bt b (d : Int) := bt_at b (d : Int)
                have HB0 : Aside0 (bt b (d : Int) = bt a ((q + d : Nat) : Int)) := ⟨by rw [HQ.out.1]; exact cut_bt a q d⟩
                clear c2
                go_upto_if 56 with (fail)
                go_cut [0, 4] (fun v0 v4 wc => ∃ (b : ByteArray) (q d : Nat), v0 = .string b ∧ v4 = .int .i64 (d : Int) ∧ Aside0 (b = cut a q ∧ q + d < a.size ∧ d < b.size ∧ eN a 0 = eX a (q + d)) ∧ w = wc)
                case first =>
                  by_cases c3 : bt b (d : Int) = 46
                  · have e3 : (bt b (d : Int) == 46) = true := beq_iff_eq.mpr c3
                    have hw1 : wrap64 ((d : Int) + 1) = ((d + 1 : Nat) : Int) := by unfold wrap64; omega
                    obtain ⟨b2, hb2⟩ : ∃ b2, b.extract (d + 1) b.size = b2 := ⟨_, rfl⟩
                    have HB2 : Aside0 (b2 = cut a (q + d + 1)) := ⟨by rw [← hb2, HQ.out.1]; exact cut_cut a q (d + 1)⟩
                    have HS2 : Aside0 (b2.size = a.size - (q + d + 1)) := ⟨by rw [HB2.out]; exact cut_size _ _⟩
                    have HF2 : Aside0 (eN a 0 = (if Fj.digs (D a (q + d + 1)) = 0 then none else eX a (q + d + 1 + Fj.digs (D a (q + d + 1))))) := ⟨by
                      rw [HF.out]
                      unfold eF
                      rw [if_pos (HB0.out.symm.trans c3)]⟩
                    have hbs2 : b2.size ≤ 1000000 := by have := HS2.out; have := HS.out; omega
                    clear HF c3
                    go_upto_region 18 with (fail)
                    go_cut [0] (fun v0 wc => v0 = .string b2 ∧ w = wc)
                    case first =>
                      go_wp2
                      go_meet
                      case rel => exact ⟨rfl, rfl⟩
                    case rest =>
                    obtain ⟨rfl, rfl⟩ := hcut
                    clear hw1 hb2 hx e3
                    by_cases c4 : b2.size = 0
                    · have e4 : ((b2.size : Int) == 0) = true := beq_iff_eq.mpr (by omega)
                      have HC : Aside0 (eN a 0 = none) := ⟨by rw [HF2.out, if_pos (digs_out (by have := HS2.out; omega))]⟩
                      clear c4
                      go_wp2_with (first | (go_at_call 72; (with_reducible refine (errNew _ _).mono ?_); rintro e w' ⟨⟨T, u, rfl⟩, hb⟩))
                      go_ret2
                      exact ⟨said_none HC.out _ T u rfl, hb⟩
                    · have e4 : ((b2.size : Int) == 0) = false := beq_eq_false_iff_ne.mpr (by omega)
                      clear c4
                      go_upto_block 2 with (fail)
                      go_cut [4] (fun v4 wc => ∃ d : Nat, v4 = .int .i64 (d : Int) ∧ Aside0 (Fj.digs (D b2 0) = d) ∧ w = wc)
                      case first =>
                        go_wp2_with (fail)
                        go_loop [4] (fun v => ∃ j : Nat, v = .int .i64 (j : Int) ∧ j ≤ b2.size ∧ Aside0 (Fj.digs (D b2 0) = j + Fj.digs (D b2 j))) (fun v => b2.size - (intOf v).toNat)
                        case atStart => exact ⟨0, rfl, Nat.zero_le _, ⟨(Nat.zero_add _).symm⟩⟩
                        case round =>
                          obtain ⟨j, rfl, hj, HD⟩ := hrel
                          by_cases hlt : j < b2.size
                          · have hx : ∀ h : j < b2.size, ((b2[j]'h).toNat : Int) = bt b2 (j : Int) := bt_at b2 (j : Int)
                            have hd := digs_at b2 j
                            by_cases c1 : bt b2 (j : Int) < 48
                            · have e2 : decide (bt b2 (j : Int) < 48) = true := decide_eq_true c1
                              have HJ : Aside0 (Fj.digs (D b2 0) = j) := ⟨by rw [HD.out, hd, if_neg (by omega)]; rfl⟩
                              clear c1 hd HD
                              go_wp2
                              go_meet
                              case rel => exact ⟨_, rfl, HJ, rfl⟩
                            · have e2 : decide (bt b2 (j : Int) < 48) = false := decide_eq_false c1
                              by_cases c2 : 57 < bt b2 (j : Int)
                              · have e3 : decide (57 < bt b2 (j : Int)) = true := decide_eq_true c2
                                have HJ : Aside0 (Fj.digs (D b2 0) = j) := ⟨by rw [HD.out, hd, if_neg (by omega)]; rfl⟩
                                clear c1 c2 hd HD
                                go_wp2
                                go_meet
                                case rel => exact ⟨_, rfl, HJ, rfl⟩
                              · have e3 : decide (57 < bt b2 (j : Int)) = false := decide_eq_false c2
                                have HJ : Aside0 (Fj.digs (D b2 0) = j + 1 + Fj.digs (D b2 (j + 1))) := ⟨by rw [HD.out, hd, if_pos (by omega)]; omega⟩
                                clear c1 c2 hd HD
                                go_wp2
                                go_round
                                case rel => exact ⟨j + 1, by go_num, by omega, HJ⟩
                                case measure => simp [intOf]; omega
                          · have HJ : Aside0 (Fj.digs (D b2 0) = j) := ⟨by rw [HD.out, digs_out (by omega)]; rfl⟩
                            obtain rfl : j = b2.size := by omega
                            clear hlt HD
                            go_wp2
                            go_meet
                            case rel => exact ⟨_, rfl, HJ, rfl⟩
                      case rest =>
                        obtain ⟨d2, rfl, HD2, rfl⟩ := hcut
                        have HDa2 : Aside0 (Fj.digs (D a (q + d + 1)) = d2) := ⟨by have := HD2.out; rw [HB2.out, cut_D, Nat.add_zero] at this; exact this⟩
                        have hdle2 : d2 ≤ b2.size := by have h := digs_size (s := b2) (p := 0) (Nat.zero_le _); rw [HD2.out] at h; omega
                        clear HD2
                        by_cases c5 : d2 = 0
                        · have HC : Aside0 (eN a 0 = none) := ⟨by rw [HF2.out, HDa2.out, if_pos c5]⟩
                          subst c5
                          go_wp2_with (first | (go_at_call 72; (with_reducible refine (errNew _ _).mono ?_); rintro e w' ⟨⟨T, u, rfl⟩, hb⟩))
                          go_ret2
                          exact ⟨said_none HC.out _ T u rfl, hb⟩
                        · have HF3 : Aside0 (eN a 0 = eX a (q + d + 1 + d2)) := ⟨by rw [HF2.out, HDa2.out, if_neg c5]⟩
                          have e5 : ((d2 : Int) == 0) = false := beq_eq_false_iff_ne.mpr (by omega)
                          clear HF2
                          by_cases c6 : b2.size ≤ d2
                          · have e6 : decide ((b2.size : Int) ≤ (d2 : Int)) = true := decide_eq_true (by omega)
                            have HC : Aside0 (eN a 0 = some a.size) := ⟨by
                              have := HS2.out
                              have := HBsz.out
                              have := HQ.out.2.1
                              rw [HF3.out, show q + d + 1 + d2 = a.size from by omega]
                              exact eX_end⟩
                            go_wp2
                            go_ret2
                            exact ⟨said_some HC.out (cut_end a _ (Nat.le_refl _)).symm rfl, Below.refl _ _⟩
                          · have e6 : decide ((b2.size : Int) ≤ (d2 : Int)) = false := decide_eq_false (by omega)
                            have HQ2 : Aside0 (b2 = cut a (q + d + 1) ∧ q + d + 1 + d2 < a.size ∧ d2 < b2.size ∧ eN a 0 = eX a (q + d + 1 + d2)) := ⟨HB2.out, by have := HS2.out; omega, by omega, HF3.out⟩
                            go_wp2
                            go_meet
                            case rel => exact ⟨b2, q + d + 1, d2, rfl, rfl, HQ2, rfl⟩
                  · have e3 : (bt b (d : Int) == 46) = false := beq_eq_false_iff_ne.mpr c3
                    have HQ2 : Aside0 (b = cut a q ∧ q + d < a.size ∧ d < b.size ∧ eN a 0 = eX a (q + d)) := ⟨HQ.out.1, by have := HBsz.out; omega, hdl, by
                      rw [HF.out]
                      unfold eF
                      rw [if_neg (fun h => c3 (HB0.out.trans h))]⟩
                    clear c3
                    go_wp2
                    go_meet
                    case rel => exact ⟨b, q, d, rfl, rfl, HQ2, rfl⟩
                case rest =>
                  clear hx HB0 hdl e2 e1 c1 hdle hbs HF HBsz HBS HQ
                  obtain ⟨b, q, d, rfl, rfl, HQ, rfl⟩ := hcut
                  have HBsz : Aside0 (b.size = a.size - q) := ⟨by rw [HQ.out.1]; exact cut_size a q⟩
                  have hbs : b.size ≤ 1000000 := by have := HS.out; have := HBsz.out; omega
                  have hdl : d < b.size := HQ.out.2.2.1
                  have hx : ∀ h : d < b.size, ((b[d]'h).toNat : Int) = bt b (d : Int) := bt_at b (d : Int)
                  have HB0 : Aside0 (bt b (d : Int) = bt a ((q + d : Nat) : Int)) := ⟨by rw [HQ.out.1]; exact cut_bt a q d⟩
                  go_upto_region 29 with (fail)
                  go_cut [99] (fun v99 wc => v99 = .bool (decide (bt a ((q + d : Nat) : Int) = 101 ∨ bt a ((q + d : Nat) : Int) = 69)) ∧ w = wc)
                  case first =>
                    by_cases c2 : bt b (d : Int) = 101
                    · have e2 : (bt b (d : Int) == 101) = true := beq_iff_eq.mpr c2
                      have HC : Aside0 (decide (bt a ((q + d : Nat) : Int) = 101 ∨ bt a ((q + d : Nat) : Int) = 69) = true) := ⟨decide_eq_true (.inl (HB0.out.symm.trans c2))⟩
                      clear c2
                      go_wp2
                      go_meet
                      case rel => exact ⟨by rw [HC.out], rfl⟩
                    · have e2 : (bt b (d : Int) == 101) = false := beq_eq_false_iff_ne.mpr c2
                      by_cases c3 : bt b (d : Int) = 69
                      · have e3 : (bt b (d : Int) == 69) = true := beq_iff_eq.mpr c3
                        have HC : Aside0 (decide (bt a ((q + d : Nat) : Int) = 101 ∨ bt a ((q + d : Nat) : Int) = 69) = true) := ⟨decide_eq_true (.inr (HB0.out.symm.trans c3))⟩
                        clear c2 c3
                        go_wp2
                        go_meet
                        case rel => exact ⟨by rw [HC.out], rfl⟩
                      · have e3 : (bt b (d : Int) == 69) = false := beq_eq_false_iff_ne.mpr c3
                        have HC : Aside0 (decide (bt a ((q + d : Nat) : Int) = 101 ∨ bt a ((q + d : Nat) : Int) = 69) = false) := ⟨decide_eq_false fun h => h.elim (fun h => c2 (HB0.out.trans h)) (fun h => c3 (HB0.out.trans h))⟩
                        clear c2 c3
                        go_wp2
                        go_meet
                        case rel => exact ⟨by rw [HC.out], rfl⟩
                  case rest =>
                    obtain ⟨rfl, rfl⟩ := hcut
                    by_cases c7 : bt a ((q + d : Nat) : Int) = 101 ∨ bt a ((q + d : Nat) : Int) = 69
                    rotate_left 1
                    · have e7 : decide (bt a ((q + d : Nat) : Int) = 101 ∨ bt a ((q + d : Nat) : Int) = 69) = false := decide_eq_false c7
                      have HC : Aside0 (eN a 0 = some (q + d)) := ⟨by rw [HQ.out.2.2.2]; exact if_neg c7⟩
                      rw [e7]
                      clear c7 e7 hx
                      go_wp2
                      go_ret2
                      exact ⟨said_some HC.out (by rw [HQ.out.1]; exact cut_cut a q d) rfl, Below.refl _ _⟩
                    · have e7 : decide (bt a ((q + d : Nat) : Int) = 101 ∨ bt a ((q + d : Nat) : Int) = 69) = true := decide_eq_true c7
                      have HE : Aside0 (eN a 0 = eE a (q + d + 1)) := ⟨by rw [HQ.out.2.2.2]; exact if_pos c7⟩
                      rw [e7]
                      clear c7 e7 hx
                      have hw1 : wrap64 ((d : Int) + 1) = ((d + 1 : Nat) : Int) := by unfold wrap64; omega
                      obtain ⟨b2, hb2⟩ : ∃ b2, b.extract (d + 1) b.size = b2 := ⟨_, rfl⟩
                      have HB2 : Aside0 (b2 = cut a (q + d + 1)) := ⟨by rw [← hb2, HQ.out.1]; exact cut_cut a q (d + 1)⟩
                      have HS2 : Aside0 (b2.size = a.size - (q + d + 1)) := ⟨by rw [HB2.out]; exact cut_size _ _⟩
                      have hbs2 : b2.size ≤ 1000000 := by have := HS2.out; have := HS.out; omega
                      by_cases c4 : b2.size = 0
                      · have e4 : ((b2.size : Int) == 0) = true := beq_iff_eq.mpr (by omega)
                        have HC : Aside0 (eN a 0 = none) := ⟨by rw [HE.out]; exact eE_out (by have := HS2.out; omega)⟩
                        clear c4
                        go_wp2_with (first | (go_at_call 72; (with_reducible refine (errNew _ _).mono ?_); rintro e w' ⟨⟨T, u, rfl⟩, hb⟩))
                        go_ret2
                        exact ⟨said_none HC.out _ T u rfl, hb⟩
                      · have e4 : ((b2.size : Int) == 0) = false := beq_eq_false_iff_ne.mpr (by omega)
                        have hz2 : 0 < b2.size := by omega
                        have hx2 : ∀ h : 0 < b2.size, ((b2[0]'h).toNat : Int) = bt b2 0 := bt_at b2 0
                        have HB1 : Aside0 (bt b2 0 = bt a ((q + d + 1 : Nat) : Int)) := ⟨by rw [HB2.out]; exact cut_bt a (q + d + 1) 0⟩
                        clear c4
                        go_upto_region 33 with (fail)
                        go_cut [116] (fun v116 wc => v116 = .bool (decide (bt a ((q + d + 1 : Nat) : Int) = 43 ∨ bt a ((q + d + 1 : Nat) : Int) = 45)) ∧ w = wc)
                        case first =>
                          by_cases c2 : bt b2 0 = 45
                          · have e2 : (bt b2 0 == 45) = true := beq_iff_eq.mpr c2
                            have HC : Aside0 (decide (bt a ((q + d + 1 : Nat) : Int) = 43 ∨ bt a ((q + d + 1 : Nat) : Int) = 45) = true) := ⟨decide_eq_true (.inr (HB1.out.symm.trans c2))⟩
                            clear c2
                            go_wp2
                            go_meet
                            case rel => exact ⟨by rw [HC.out], rfl⟩
                          · have e2 : (bt b2 0 == 45) = false := beq_eq_false_iff_ne.mpr c2
                            by_cases c3 : bt b2 0 = 43
                            · have e3 : (bt b2 0 == 43) = true := beq_iff_eq.mpr c3
                              have HC : Aside0 (decide (bt a ((q + d + 1 : Nat) : Int) = 43 ∨ bt a ((q + d + 1 : Nat) : Int) = 45) = true) := ⟨decide_eq_true (.inl (HB1.out.symm.trans c3))⟩
                              clear c2 c3
                              go_wp2
                              go_meet
                              case rel => exact ⟨by rw [HC.out], rfl⟩
                            · have e3 : (bt b2 0 == 43) = false := beq_eq_false_iff_ne.mpr c3
                              have HC : Aside0 (decide (bt a ((q + d + 1 : Nat) : Int) = 43 ∨ bt a ((q + d + 1 : Nat) : Int) = 45) = false) := ⟨decide_eq_false fun h => h.elim (fun h => c3 (HB1.out.trans h)) (fun h => c2 (HB1.out.trans h))⟩
                              clear c2 c3
                              go_wp2
                              go_meet
                              case rel => exact ⟨by rw [HC.out], rfl⟩
                        case rest =>
                          obtain ⟨rfl, rfl⟩ := hcut
                          clear hx2
                          go_upto_if 116 with (fail)
                          go_cut [0] (fun v0 wc => ∃ (b : ByteArray) (q : Nat), v0 = .string b ∧ Aside0 (b = cut a q ∧ q < a.size ∧ eN a 0 = (if Fj.digs (D a q) = 0 then none else some (q + Fj.digs (D a q)))) ∧ w = wc)
                          case first =>
                            by_cases c8 : bt a ((q + d + 1 : Nat) : Int) = 43 ∨ bt a ((q + d + 1 : Nat) : Int) = 45
                            · have e8 : decide (bt a ((q + d + 1 : Nat) : Int) = 43 ∨ bt a ((q + d + 1 : Nat) : Int) = 45) = true := decide_eq_true c8
                              have HE2 : Aside0 (eN a 0 = (if Fj.digs (D a (q + d + 1 + 1)) = 0 then none else some (q + d + 1 + 1 + Fj.digs (D a (q + d + 1 + 1))))) := ⟨by rw [HE.out]; exact if_pos c8⟩
                              rw [e8]
                              clear c8 e8
                              obtain ⟨b3, hb3⟩ : ∃ b3, b2.extract 1 b2.size = b3 := ⟨_, rfl⟩
                              have HB3 : Aside0 (b3 = cut a (q + d + 1 + 1)) := ⟨by rw [← hb3, HB2.out]; exact cut_cut a (q + d + 1) 1⟩
                              have HS3 : Aside0 (b3.size = a.size - (q + d + 1 + 1)) := ⟨by rw [HB3.out]; exact cut_size _ _⟩
                              by_cases c9 : b3.size = 0
                              · have e9 : ((b3.size : Int) == 0) = true := beq_iff_eq.mpr (by omega)
                                have HC : Aside0 (eN a 0 = none) := ⟨by rw [HE2.out, if_pos (digs_out (by have := HS3.out; omega))]⟩
                                clear c9
                                go_wp2_with (first | (go_at_call 72; (with_reducible refine (errNew _ _).mono ?_); rintro e w' ⟨⟨T, u, rfl⟩, hb⟩))
                                go_ret2
                                exact ⟨said_none HC.out _ T u rfl, hb⟩
                              · have e9 : ((b3.size : Int) == 0) = false := beq_eq_false_iff_ne.mpr (by omega)
                                have HQ3 : Aside0 (b3 = cut a (q + d + 1 + 1) ∧ q + d + 1 + 1 < a.size ∧ eN a 0 = (if Fj.digs (D a (q + d + 1 + 1)) = 0 then none else some (q + d + 1 + 1 + Fj.digs (D a (q + d + 1 + 1))))) := ⟨HB3.out, by have := HS3.out; omega, HE2.out⟩
                                clear c9
                                go_wp2
                                go_meet
                                case rel => exact ⟨b3, _, rfl, HQ3, rfl⟩
                            · have e8 : decide (bt a ((q + d + 1 : Nat) : Int) = 43 ∨ bt a ((q + d + 1 : Nat) : Int) = 45) = false := decide_eq_false c8
                              have HQ3 : Aside0 (b2 = cut a (q + d + 1) ∧ q + d + 1 < a.size ∧ eN a 0 = (if Fj.digs (D a (q + d + 1)) = 0 then none else some (q + d + 1 + Fj.digs (D a (q + d + 1))))) := ⟨HB2.out, by have := HS2.out; omega, by rw [HE.out]; exact if_neg c8⟩
                              rw [e8]
                              clear c8 e8
                              go_wp2
                              go_meet
                              case rel => exact ⟨b2, _, rfl, HQ3, rfl⟩
                          case rest =>
                            clear hb2 HB2 HS2 hbs2 hdl hbs HBsz HB0 HB1 hz2 e4 HE HQ hw1
                            obtain ⟨b, q, rfl, HQ, rfl⟩ := hcut
                            have HBsz : Aside0 (b.size = a.size - q) := ⟨by rw [HQ.out.1]; exact cut_size a q⟩
                            have hbs : b.size ≤ 1000000 := by have := HS.out; have := HBsz.out; omega
                            go_upto_block 4 with (fail)
                            go_cut [4] (fun v4 wc => ∃ d : Nat, v4 = .int .i64 (d : Int) ∧ Aside0 (Fj.digs (D b 0) = d) ∧ w = wc)
                            case first =>
                              go_wp2_with (fail)
                              go_loop [4] (fun v => ∃ j : Nat, v = .int .i64 (j : Int) ∧ j ≤ b.size ∧ Aside0 (Fj.digs (D b 0) = j + Fj.digs (D b j))) (fun v => b.size - (intOf v).toNat)
                              case atStart => exact ⟨0, rfl, Nat.zero_le _, ⟨(Nat.zero_add _).symm⟩⟩
                              case round =>
                                obtain ⟨j, rfl, hj, HD⟩ := hrel
                                by_cases hlt : j < b.size
                                · have hx : ∀ h : j < b.size, ((b[j]'h).toNat : Int) = bt b (j : Int) := bt_at b (j : Int)
                                  have hd := digs_at b j
                                  by_cases c1 : bt b (j : Int) < 48
                                  · have e2 : decide (bt b (j : Int) < 48) = true := decide_eq_true c1
                                    have HJ : Aside0 (Fj.digs (D b 0) = j) := ⟨by rw [HD.out, hd, if_neg (by omega)]; rfl⟩
                                    clear c1 hd HD
                                    go_wp2
                                    go_meet
                                    case rel => exact ⟨_, rfl, HJ, rfl⟩
                                  · have e2 : decide (bt b (j : Int) < 48) = false := decide_eq_false c1
                                    by_cases c2 : 57 < bt b (j : Int)
                                    · have e3 : decide (57 < bt b (j : Int)) = true := decide_eq_true c2
                                      have HJ : Aside0 (Fj.digs (D b 0) = j) := ⟨by rw [HD.out, hd, if_neg (by omega)]; rfl⟩
                                      clear c1 c2 hd HD
                                      go_wp2
                                      go_meet
                                      case rel => exact ⟨_, rfl, HJ, rfl⟩
                                    · have e3 : decide (57 < bt b (j : Int)) = false := decide_eq_false c2
                                      have HJ : Aside0 (Fj.digs (D b 0) = j + 1 + Fj.digs (D b (j + 1))) := ⟨by rw [HD.out, hd, if_pos (by omega)]; omega⟩
                                      clear c1 c2 hd HD
                                      go_wp2
                                      go_round
                                      case rel => exact ⟨j + 1, by go_num, by omega, HJ⟩
                                      case measure => simp [intOf]; omega
                                · have HJ : Aside0 (Fj.digs (D b 0) = j) := ⟨by rw [HD.out, digs_out (by omega)]; rfl⟩
                                  obtain rfl : j = b.size := by omega
                                  clear hlt HD
                                  go_wp2
                                  go_meet
                                  case rel => exact ⟨_, rfl, HJ, rfl⟩
                            case rest =>
                              obtain ⟨d, rfl, HD, rfl⟩ := hcut
                              have HDa : Aside0 (Fj.digs (D a q) = d) := ⟨by have := HD.out; rw [HQ.out.1, cut_D, Nat.add_zero] at this; exact this⟩
                              have hdle : d ≤ b.size := by have h := digs_size (s := b) (p := 0) (Nat.zero_le _); rw [HD.out] at h; omega
                              clear HD
                              by_cases c5 : d = 0
                              · have HC : Aside0 (eN a 0 = none) := ⟨by rw [HQ.out.2.2, HDa.out, if_pos c5]⟩
                                subst c5
                                go_wp2_with (first | (go_at_call 72; (with_reducible refine (errNew _ _).mono ?_); rintro e w' ⟨⟨T, u, rfl⟩, hb⟩))
                                go_ret2
                                exact ⟨said_none HC.out _ T u rfl, hb⟩
                              · have HC : Aside0 (eN a 0 = some (q + d)) := ⟨by rw [HQ.out.2.2, HDa.out, if_neg c5]⟩
                                have e5 : ((d : Int) == 0) = false := beq_eq_false_iff_ne.mpr (by omega)
                                by_cases c6 : b.size ≤ d
                                · have e6 : decide ((b.size : Int) ≤ (d : Int)) = true := decide_eq_true (by omega)
                                  have HE : Aside0 ((⟨#[]⟩ : ByteArray) = cut a (q + d)) := ⟨(cut_end a _ (by have := HBsz.out; omega)).symm⟩
                                  go_wp2
                                  go_ret2
                                  exact ⟨said_some HC.out HE.out rfl, Below.refl _ _⟩
                                · have e6 : decide ((b.size : Int) ≤ (d : Int)) = false := decide_eq_false (by omega)
                                  go_wp2
                                  go_ret2
                                  exact ⟨said_some HC.out (by rw [HQ.out.1]; exact cut_cut a q d) rfl, Below.refl _ _⟩
end Go.Proofs.YtlhaefblchpjhaaGreatDoor.FjW
end
section
namespace Go.Proofs.YtlhaefblchpjhaaGreatDoor.FjW
open Go.RowKit Go.Proofs.YtlhaefblchpjhaaGreatDoorW.PrintWords Go.Proofs.YtlhaefblchpjhaaGreatDoorW.PrintLast Go.Proofs.YtlhaefblchpjhaaGreatDoorW.PrintMore
attribute [local go_sem] max2_int min2_int max_two min_two max_three min_three max_four min_four
set_option linter.unusedVariables false
set_option linter.unusedSimpArgs false
/-- The first byte's bit 32 set: a letter's small form. -/
theorem low_or : ∀ n : Fin 256, (48 ≤ n.val ∧ n.val ≤ 57 ∧ Fj.hexd (n.val : Int) = true) ∨
    (¬ (48 ≤ n.val ∧ n.val ≤ 57) ∧ 97 ≤ bits .or .u8 (n.val : Int) 32 ∧ bits .or .u8 (n.val : Int) 32 ≤ 102 ∧ Fj.hexd (n.val : Int) = true) ∨
    (¬ (48 ≤ n.val ∧ n.val ≤ 57) ∧ (bits .or .u8 (n.val : Int) 32 < 97 ∨ 102 < bits .or .u8 (n.val : Int) 32) ∧ Fj.hexd (n.val : Int) = false) := by
  decide +kernel
theorem low_cases (c : Int) (h0 : 0 ≤ c) (h1 : c ≤ 255) : (48 ≤ c ∧ c ≤ 57 ∧ Fj.hexd c = true) ∨
    (¬ (48 ≤ c ∧ c ≤ 57) ∧ 97 ≤ bits .or .u8 c 32 ∧ bits .or .u8 c 32 ≤ 102 ∧ Fj.hexd c = true) ∨
    (¬ (48 ≤ c ∧ c ≤ 57) ∧ (bits .or .u8 c 32 < 97 ∨ 102 < bits .or .u8 c 32) ∧ Fj.hexd c = false) := by
  obtain ⟨n, rfl⟩ : ∃ n : Nat, c = (n : Int) := ⟨c.toNat, by omega⟩
  have := low_or ⟨n, by omega⟩
  simp only [] at this
  rcases this with ⟨a, b, c⟩ | ⟨a, b, c, d⟩ | ⟨a, b, c⟩
  · exact .inl ⟨by omega, by omega, c⟩
  · exact .inr (.inl ⟨by omega, b, c, d⟩)
  · exact .inr (.inr ⟨by omega, b, c⟩)
/-- Four hexadecimal digits. -/
def hx4 (t : ByteArray) : Bool := Fj.hexd (bt t 0) && (Fj.hexd (bt t 1) && (Fj.hexd (bt t 2) && Fj.hexd (bt t 3)))
def Hx (t : ByteArray) (E : TypeId) (e : Ending) : Prop := if hx4 t = true then ∃ v : Int, e = .returned (.tuple #[.int .u64 v, .nilIface]) else e = .returned (.tuple #[.int .u64 0, .iface E (.int .i64 2)])
theorem hx_yes {t : ByteArray} {E : TypeId} {e : Ending} (h : ∀ j : Nat, j < 4 → Fj.hexd (bt t (j : Int)) = true) (v : Int) (he : e = .returned (.tuple #[.int .u64 v, .nilIface])) : Hx t E e := by
  have h0 := h 0 (by decide); have h1 := h 1 (by decide); have h2 := h 2 (by decide); have h3 := h 3 (by decide)
  unfold Hx
  rw [if_pos (by unfold hx4; simp only [Bool.and_eq_true]; exact ⟨h0, h1, h2, h3⟩)]
  exact ⟨v, he⟩
theorem hx_no {t : ByteArray} {E : TypeId} {e : Ending} (j : Nat) (hj : j < 4) (h : Fj.hexd (bt t (j : Int)) = false) (he : e = .returned (.tuple #[.int .u64 0, .iface E (.int .i64 2)])) : Hx t E e := by
  unfold Hx
  rw [if_neg]
  · exact he
  · unfold hx4
    simp only [Bool.and_eq_true]
    rintro ⟨a, b, c, d⟩
    match j, hj with
    | 0, _ => rw [show Fj.hexd (bt t 0) = false from h] at a; cases a
    | 1, _ => rw [show Fj.hexd (bt t 1) = false from h] at b; cases b
    | 2, _ => rw [show Fj.hexd (bt t 2) = false from h] at c; cases c
    | 3, _ => rw [show Fj.hexd (bt t 3) = false from h] at d; cases d
set_option maxHeartbeats 8000000 in
set_option maxRecDepth 100000 in
theorem hexIn (t : ByteArray) (ht : t.size = 4) (w : World) :
    Calls Tryz.prog 180 #[.string t, .int .i64 16, .int .i64 16] w fun e w' => Hx t 162 e ∧ Below w.heap.size w w' := by
  have hemp : t.toList.isEmpty = false := by
    rw [← decide_eq_emptyBytes]
    exact decide_eq_false (fun h => by rw [h] at ht; cases ht)
  have hcv := Lib.run_convert_string_bytes (P := Tryz.prog) w 9 61 5 t (u := .string) Tryz.underlying9 Tryz.underlying61 Tryz.underlying5
  have hB0 : ∀ j, j < t.size → (Lib.bytesWorld w 5 t).cell? ⟨w.heap.size, j, none⟩ = some (.int .u8 (bt t (j : Int))) := fun j hj => by
    rw [Lib.bytesWorld_cell w 5 t j hj, ← rd_bytesOf]
    unfold rd
    have h' : j < t.data.toList.length := by rw [data_length]; exact hj
    simp [bytesOf, List.getD_eq_getElem?_getD, List.getElem?_eq_getElem h']
  have HBW := Aside0.mk (bytes_below (Below.refl w.heap.size w) (Nat.le_refl _) 5 t)
  obtain ⟨W1, hW1⟩ : ∃ W1, W1 = Lib.bytesWorld w 5 t := ⟨_, rfl⟩
  rw [← hW1] at hcv hB0 HBW
  have HB := Aside0.mk hB0
  clear hB0 hW1
  rw [ht] at hcv
  have HT := Aside0.mk ht
  go_enter Tryz.func180, Tryz.ntmps180
  go_wp2
  go_loop [12, 13, 101] (fun vu vn vi => ∃ (k : Nat) (a : Int), vu = .bool false ∧ vn = .int .u64 a ∧ vi = .int .i64 (k : Int) ∧ k ≤ 4 ∧ 0 ≤ a ∧ Aside0 (a + 1 ≤ (16 : Int) ^ k) ∧ Aside0 (∀ j : Nat, j < k → Fj.hexd (bt t (j : Int)) = true)) (fun _ _ vi => 4 - (intOf vi).toNat)
  case atStart => exact ⟨0, 0, rfl, rfl, rfl, by omega, Int.le_refl _, ⟨by decide⟩, ⟨fun j hj => absurd hj (Nat.not_lt_zero _)⟩⟩
  case round =>
    obtain ⟨k, a, rfl, rfl, rfl, hk, ha0, HA, HH⟩ := hrel
    by_cases hlt : k < 4
    · have hc := HB.out k (by rw [HT.out]; exact hlt)
      have ha1 : a ≤ 4095 := by
        have := HA.out
        match k, hlt with
        | 0, _ => simp at this; omega
        | 1, _ => simp at this; omega
        | 2, _ => simp at this; omega
        | 3, _ => simp at this; omega
      obtain ⟨c, hcb⟩ : ∃ c, bt t (k : Int) = c := ⟨_, rfl⟩
      have hr := bt_range t (k : Int)
      rw [hcb] at hc hr
      obtain ⟨hr0, hr1⟩ := hr
      rcases low_cases c hr0 hr1 with ⟨g1, g2, g3⟩ | ⟨g1, g2, g3, g4⟩ | ⟨g1, g2, g3⟩
      · have HN : Aside0 (a * 16 + (c - 48) + 1 ≤ (16 : Int) ^ (k + 1)) := ⟨by have := HA.out; rw [Int.pow_succ]; omega⟩
        have HH' : Aside0 (∀ j : Nat, j < k + 1 → Fj.hexd (bt t (j : Int)) = true) := ⟨fun j hj => by
          by_cases e : j = k
          · rw [e, hcb]; exact g3
          · exact HH.out j (by omega)⟩
        clear HA HH g3 hcb
        go_wp2
        go_round
        case rel => exact ⟨k + 1, a * 16 + (c - 48), rfl, by go_num, by go_num, by omega, by omega, HN, HH'⟩
        case measure => simp [intOf]; omega
      · obtain ⟨L, hL⟩ : ∃ L, bits .or .u8 c 32 = L := ⟨_, rfl⟩
        have HL := Aside0.mk hL
        rw [hL] at g2 g3
        have h95 : (c == 95) = false := beq_eq_false_iff_ne.mpr (fun h => by rw [h] at g4; revert g4; decide)
        have HN : Aside0 (a * 16 + (L - 97 + 10) + 1 ≤ (16 : Int) ^ (k + 1)) := ⟨by have := HA.out; rw [Int.pow_succ]; omega⟩
        have HH' : Aside0 (∀ j : Nat, j < k + 1 → Fj.hexd (bt t (j : Int)) = true) := ⟨fun j hj => by
          by_cases e : j = k
          · rw [e, hcb]; exact g4
          · exact HH.out j (by omega)⟩
        clear HA HH g4 hcb hL
        go_wp2_with (go_at_call 188; (with_reducible refine (Tryz.internal_strconv_lower _ _).mono ?_); rw [HL.out]; rintro e w' ⟨rfl, rfl⟩)
        all_goals
          go_round
          case rel => exact ⟨k + 1, a * 16 + (L - 97 + 10), rfl, by go_num, by go_num, by omega, by omega, HN, HH'⟩
          case measure => simp [intOf]; omega
      · obtain ⟨L, hL⟩ : ∃ L, bits .or .u8 c 32 = L := ⟨_, rfl⟩
        have HL := Aside0.mk hL
        have hL0 := bits_lo_u8 .or c 32
        have hL1 := bits_hi_u8 .or c 32
        rw [hL] at g2 hL0 hL1
        have HJ : Aside0 (Fj.hexd (bt t (k : Int)) = false) := ⟨by rw [hcb]; exact g3⟩
        clear HA HH g3 hcb hL
        by_cases h95 : c = 95
        · subst h95
          obtain rfl : L = 127 := by rw [← HL.out]; decide
          clear g1 g2 hL0 hL1
          go_wp2_with (go_at_call 188; (with_reducible refine (Tryz.internal_strconv_lower _ _).mono ?_); rw [HL.out]; rintro e w' ⟨rfl, rfl⟩)
          go_ret2
          exact ⟨hx_no k hlt HJ.out rfl, HBW.out⟩
        replace h95 : (c == 95) = false := beq_eq_false_iff_ne.mpr h95
        rcases g2 with g2 | g2
        · go_wp2_with (go_at_call 188; (with_reducible refine (Tryz.internal_strconv_lower _ _).mono ?_); rw [HL.out]; rintro e w' ⟨rfl, rfl⟩)
          all_goals
            go_ret2
            exact ⟨hx_no k hlt HJ.out rfl, HBW.out⟩
        · by_cases g5 : L ≤ 122
          all_goals
            go_wp2_with (go_at_call 188; (with_reducible refine (Tryz.internal_strconv_lower _ _).mono ?_); rw [HL.out]; rintro e w' ⟨rfl, rfl⟩)
          all_goals
            go_ret2
            exact ⟨hx_no k hlt HJ.out rfl, HBW.out⟩
    · have hd : decide ((k : Int) < 4) = false := decide_eq_false (by omega)
      have HK : Aside0 (∀ j : Nat, j < 4 → Fj.hexd (bt t (j : Int)) = true) := ⟨fun j hj => HH.out j (by omega)⟩
      clear hlt
      go_wp2
      go_ret2
      exact ⟨hx_yes HK.out _ rfl, HBW.out⟩
end Go.Proofs.YtlhaefblchpjhaaGreatDoor.FjW
end
section
namespace Go.Proofs.YtlhaefblchpjhaaGreatDoor.FjW
open Go.RowKit Go.Proofs.YtlhaefblchpjhaaGreatDoorW.PrintWords Go.Proofs.YtlhaefblchpjhaaGreatDoorW.PrintLast Go.Proofs.YtlhaefblchpjhaaGreatDoorW.PrintMore
attribute [local go_sem] max2_int min2_int max_two min_two max_three min_three max_four min_four
set_option linter.unusedVariables false
set_option linter.unusedSimpArgs false
set_option maxHeartbeats 2000000 in
theorem hexYes (t : ByteArray) (ht : t.size = 4) (hx : hx4 t = true) (w : World) :
    Calls Tryz.prog 165 #[.string t, .int .i64 16, .int .i64 16] w fun e w' => (∃ v : Int, e = .returned (.tuple #[.int .u64 v, .nilIface])) ∧ Below w.heap.size w w' := by
  have HT := Aside0.mk ht
  have HX := Aside0.mk hx
  clear ht hx
  go_enter Tryz.func165, Tryz.ntmps165
  go_wp2_with (go_at_call 180; (with_reducible refine (hexIn _ HT.out _).mono ?_); rintro e w' ⟨h, hb⟩; unfold Hx at h; rw [if_pos HX.out] at h; obtain ⟨v, rfl⟩ := h; have HB := Aside0.mk hb; clear hb)
  go_ret2
  exact ⟨⟨v, rfl⟩, HB.out⟩
set_option maxHeartbeats 2000000 in
theorem hexNo (t : ByteArray) (ht : t.size = 4) (hx : hx4 t = false) (w : World) (hG : Glob w) :
    Calls Tryz.prog 165 #[.string t, .int .i64 16, .int .i64 16] w fun e w' => (∃ v T u, e = .returned (.tuple #[.int .u64 v, .iface T u])) ∧ Below w.heap.size w w' := by
  have HT := Aside0.mk ht
  have HX := Aside0.mk hx
  have HG := Aside0.mk hG
  clear ht hx hG
  go_enter Tryz.func165, Tryz.ntmps165
  go_wp2_with (first
    | (go_at_call 180; (with_reducible refine (hexIn _ HT.out _).mono ?_); rintro e w' ⟨h, hb⟩; unfold Hx at h; rw [if_neg (by rw [HX.out]; decide)] at h; subst h; have HB := Aside0.mk hb; have HV := Aside0.mk (HG.out.below hb); clear hb)
    | (go_at_call 134; obtain ⟨te, pe, hv⟩ := HV.out; (with_reducible refine (Tryz.strconv_toError_syntax _ _ _ _ _ _ (by rw [HT.out]; decide) hv (.inr ⟨te, pe, rfl⟩)).mono ?_); clear hv; rintro e w2 ⟨N, rfl, _, _, hb⟩; have HB2 := Aside0.mk hb; clear hb))
  go_ret2
  exact ⟨⟨_, _, _, rfl⟩, HB.out.trans (HB2.out.mono HB.out.size)⟩
end Go.Proofs.YtlhaefblchpjhaaGreatDoor.FjW
end
section
namespace Go.Proofs.YtlhaefblchpjhaaGreatDoor.FjW
open Go.RowKit Go.Proofs.YtlhaefblchpjhaaGreatDoorW.PrintWords Go.Proofs.YtlhaefblchpjhaaGreatDoorW.PrintLast Go.Proofs.YtlhaefblchpjhaaGreatDoorW.PrintMore
attribute [local go_sem] max2_int min2_int max_two min_two max_three min_three max_four min_four
set_option linter.unusedVariables false
set_option linter.unusedSimpArgs false
theorem escs92_pos {r : List Int} {m : Nat} (h : Fj.escs (92 :: r) = some m) : m ≠ 0 := by
  rw [Fj.escs.eq_def] at h
  simp only [if_true] at h
  repeat' split at h
  all_goals first
    | (cases h; done)
    | (obtain ⟨x, _, rfl⟩ := Option.map_eq_some_iff.mp h; omega)
/-- At the first backslash of a text. -/
theorem esc_at (b : ByteArray) (n : Nat) (hn : n < b.size) (h92 : bt b (n : Int) = 92) (hno : (92 : Int) ∉ (bytesOf b).take n) : Fj.escs (bytesOf b) = (Fj.escs (92 :: D b (n + 1))).map (n + ·) := by
  have e1 : D b n = 92 :: D b (n + 1) := by rw [← h92]; exact D_cons b n hn
  have e2 := Fj.escs_ahead (D b n) ((bytesOf b).take n) hno
  rw [List.take_append_drop] at e2
  rw [e2, e1]
  have hl : ((bytesOf b).take n).length = n := by rw [List.length_take, bytesOf_length]; omega
  rw [hl]
  cases h : Fj.escs (92 :: D b (n + 1)) with
  | none => rfl
  | some m =>
    have := escs92_pos h
    simp only [Option.map_some]
    rw [if_neg this]
theorem esc_simple (b : ByteArray) (n : Nat) (hn : n + 1 < b.size) (h : Fj.simple8 (bt b ((n : Int) + 1)) = true) : Fj.escs (92 :: D b (n + 1)) = (Fj.escs (D b (n + 2))).map (· + 2) := by
  have e : D b (n + 1) = bt b ((n : Int) + 1) :: D b (n + 2) := D_cons b (n + 1) hn
  rw [e, Fj.escs_simple h]
theorem D_four (b : ByteArray) (p : Nat) (h : p + 4 ≤ b.size) : D b p = bt b (p : Int) :: bt b ((p + 1 : Nat) : Int) :: bt b ((p + 2 : Nat) : Int) :: bt b ((p + 3 : Nat) : Int) :: D b (p + 4) := by
  rw [D_cons b p (by omega), D_cons b (p + 1) (by omega), D_cons b (p + 1 + 1) (by omega), D_cons b (p + 1 + 1 + 1) (by omega)]
theorem hx4_at (b : ByteArray) (p : Nat) : hx4 ((cut b p).extract 0 4) = if p + 4 ≤ b.size then (Fj.hexd (bt b (p : Int)) && (Fj.hexd (bt b ((p + 1 : Nat) : Int)) && (Fj.hexd (bt b ((p + 2 : Nat) : Int)) && Fj.hexd (bt b ((p + 3 : Nat) : Int))))) else hx4 ((cut b p).extract 0 4) := by
  by_cases h : p + 4 ≤ b.size
  · rw [if_pos h]
    have g : ∀ j : Nat, j < 4 → bt ((cut b p).extract 0 4) (j : Int) = bt b ((p + j : Nat) : Int) := fun j hj => by
      rw [← rd_bytesOf, ← cut_bt, ← rd_bytesOf]
      unfold rd bytesOf
      rw [ByteArray.data_extract, Array.toList_extract, List.extract_eq_take_drop]
      simp [List.getD_eq_getElem?_getD, List.getElem?_take, hj]
    unfold hx4
    have g0 := g 0 (by decide); have g1 := g 1 (by decide); have g2 := g 2 (by decide); have g3 := g 3 (by decide)
    rw [show bt ((cut b p).extract 0 4) 0 = bt b (p : Int) from g0, show bt ((cut b p).extract 0 4) 1 = bt b ((p + 1 : Nat) : Int) from g1, show bt ((cut b p).extract 0 4) 2 = bt b ((p + 2 : Nat) : Int) from g2, show bt ((cut b p).extract 0 4) 3 = bt b ((p + 3 : Nat) : Int) from g3]
  · rw [if_neg h]
theorem esc_u (b : ByteArray) (n : Nat) (hn : n + 1 < b.size) (h : bt b ((n : Int) + 1) = 117) (h4 : n + 2 + 4 ≤ b.size) (hx : hx4 ((cut b (n + 2)).extract 0 4) = true) : Fj.escs (92 :: D b (n + 1)) = (Fj.escs (D b (n + 6))).map (· + 6) := by
  rw [hx4_at, if_pos h4] at hx
  have e : D b (n + 1) = bt b ((n : Int) + 1) :: D b (n + 2) := D_cons b (n + 1) hn
  rw [e, h, D_four b (n + 2) h4, Fj.escs_u hx]
theorem esc_u_bad (b : ByteArray) (n : Nat) (hn : n + 1 < b.size) (h : bt b ((n : Int) + 1) = 117) (hx : b.size < n + 2 + 4 ∨ hx4 ((cut b (n + 2)).extract 0 4) = false) : Fj.escs (92 :: D b (n + 1)) = none := by
  have e : D b (n + 1) = bt b ((n : Int) + 1) :: D b (n + 2) := D_cons b (n + 1) hn
  rw [e, h]
  refine Fj.escs_bad (by decide) _ (fun _ x0 x1 x2 x3 r hr => ?_)
  have hl : (D b (n + 2)).length = b.size - (n + 2) := D_len b (n + 2)
  have hge : n + 2 + 4 ≤ b.size := by rw [hr] at hl; simp only [List.length_cons] at hl; omega
  rcases hx with hx | hx
  · omega
  · rw [hx4_at, if_pos hge] at hx
    rw [D_four b (n + 2) hge] at hr
    simp only [List.cons.injEq] at hr
    obtain ⟨rfl, rfl, rfl, rfl, _⟩ := hr
    exact hx
theorem esc_other (b : ByteArray) (n : Nat) (hn : n + 1 < b.size) (h8 : Fj.simple8 (bt b ((n : Int) + 1)) = false) (hu : bt b ((n : Int) + 1) ≠ 117) : Fj.escs (92 :: D b (n + 1)) = none := by
  have e : D b (n + 1) = bt b ((n : Int) + 1) :: D b (n + 2) := D_cons b (n + 1) hn
  rw [e]
  exact Fj.escs_bad h8 _ (fun h => absurd h hu)
theorem esc_end (b : ByteArray) (n : Nat) (hn : b.size ≤ n + 1) : Fj.escs (92 :: D b (n + 1)) = none := by
  rw [D_nil b (n + 1) hn, Fj.escs_short]
/-- A letter behind a backslash: one of eight, u, or another. -/
theorem letter_or (c : Int) : (c = 34 ∧ Fj.simple8 c = true) ∨ ((c == 34) = false ∧ c = 92 ∧ Fj.simple8 c = true) ∨ ((c == 34) = false ∧ (c == 92) = false ∧ c = 47 ∧ Fj.simple8 c = true) ∨
    ((c == 34) = false ∧ (c == 92) = false ∧ (c == 47) = false ∧ c = 98 ∧ Fj.simple8 c = true) ∨ ((c == 34) = false ∧ (c == 92) = false ∧ (c == 47) = false ∧ (c == 98) = false ∧ c = 102 ∧ Fj.simple8 c = true) ∨
    ((c == 34) = false ∧ (c == 92) = false ∧ (c == 47) = false ∧ (c == 98) = false ∧ (c == 102) = false ∧ c = 110 ∧ Fj.simple8 c = true) ∨
    ((c == 34) = false ∧ (c == 92) = false ∧ (c == 47) = false ∧ (c == 98) = false ∧ (c == 102) = false ∧ (c == 110) = false ∧ c = 114 ∧ Fj.simple8 c = true) ∨
    ((c == 34) = false ∧ (c == 92) = false ∧ (c == 47) = false ∧ (c == 98) = false ∧ (c == 102) = false ∧ (c == 110) = false ∧ (c == 114) = false ∧ c = 116 ∧ Fj.simple8 c = true) ∨
    ((c == 34) = false ∧ (c == 92) = false ∧ (c == 47) = false ∧ (c == 98) = false ∧ (c == 102) = false ∧ (c == 110) = false ∧ (c == 114) = false ∧ (c == 116) = false ∧ Fj.simple8 c = false) := by
  unfold Fj.simple8
  cases h1 : (c == 34) with
  | true => exact .inl ⟨beq_iff_eq.mp h1, rfl⟩
  | false =>
  cases h2 : (c == 92) with
  | true => exact .inr (.inl ⟨rfl, beq_iff_eq.mp h2, rfl⟩)
  | false =>
  cases h3 : (c == 47) with
  | true => exact .inr (.inr (.inl ⟨rfl, rfl, beq_iff_eq.mp h3, rfl⟩))
  | false =>
  cases h4 : (c == 98) with
  | true => exact .inr (.inr (.inr (.inl ⟨rfl, rfl, rfl, beq_iff_eq.mp h4, rfl⟩)))
  | false =>
  cases h5 : (c == 102) with
  | true => exact .inr (.inr (.inr (.inr (.inl ⟨rfl, rfl, rfl, rfl, beq_iff_eq.mp h5, rfl⟩))))
  | false =>
  cases h6 : (c == 110) with
  | true => exact .inr (.inr (.inr (.inr (.inr (.inl ⟨rfl, rfl, rfl, rfl, rfl, beq_iff_eq.mp h6, rfl⟩)))))
  | false =>
  cases h7 : (c == 114) with
  | true => exact .inr (.inr (.inr (.inr (.inr (.inr (.inl ⟨rfl, rfl, rfl, rfl, rfl, rfl, beq_iff_eq.mp h7, rfl⟩))))))
  | false =>
  cases h8 : (c == 116) with
  | true => exact .inr (.inr (.inr (.inr (.inr (.inr (.inr (.inl ⟨rfl, rfl, rfl, rfl, rfl, rfl, rfl, beq_iff_eq.mp h8, rfl⟩)))))))
  | false => exact .inr (.inr (.inr (.inr (.inr (.inr (.inr (.inr ⟨rfl, rfl, rfl, rfl, rfl, rfl, rfl, rfl, rfl⟩)))))))
/-- A string's last part and what is behind it, or an error. -/
def SaidS (a : ByteArray) (o : Option (Nat × Nat)) (e : Ending) : Prop := match o with
  | none => ∃ (x y : ByteArray) (T : TypeId) (u : Value), e = .returned (.tuple #[.string x, .string y, .iface T u])
  | some p => e = .returned (.tuple #[.string (a.extract p.1 p.2), .string (cut a (p.2 + 1)), .nilIface])
theorem saidS_none {a : ByteArray} {o : Option (Nat × Nat)} (h : o = none) (e : Ending) (x y : ByteArray) (T : TypeId) (u : Value) (he : e = .returned (.tuple #[.string x, .string y, .iface T u])) : SaidS a o e := by
  subst h; exact ⟨x, y, T, u, he⟩
theorem saidS_some {a x y : ByteArray} {o : Option (Nat × Nat)} {m q : Nat} (h : o = some (m, q)) (hx : x = a.extract m q) (hy : y = cut a (q + 1)) {e : Ending} (he : e = .returned (.tuple #[.string x, .string y, .nilIface])) : SaidS a o e := by
  subst h; subst hx; subst hy; exact he
theorem extract_bytes (a : ByteArray) (m q : Nat) : bytesOf (a.extract m q) = ((bytesOf a).take q).drop m := by
  unfold bytesOf
  rw [ByteArray.data_extract, Array.toList_extract, List.extract_eq_take_drop, ← List.map_take, ← List.map_drop, List.drop_take]
theorem extract_size_le (a : ByteArray) (m q : Nat) : (a.extract m q).size ≤ a.size := by
  rw [← bytesOf_length, extract_bytes, List.length_drop, List.length_take, bytesOf_length]; omega
theorem vs_none {l : List Int} (h : Fj.qend l = none) : Fj.vs l = none := by unfold Fj.vs; rw [h]
theorem vs_some {l : List Int} {q : Nat} (h : Fj.qend l = some q) : Fj.vs l = (Fj.escs (l.take q)).map (·, q) := by unfold Fj.vs; rw [h]
end Go.Proofs.YtlhaefblchpjhaaGreatDoor.FjW
end
section

end
section
namespace Go.Proofs.YtlhaefblchpjhaaGreatDoor.FjW
open Go.RowKit Go.Proofs.YtlhaefblchpjhaaGreatDoorW.PrintWords Go.Proofs.YtlhaefblchpjhaaGreatDoorW.PrintLast Go.Proofs.YtlhaefblchpjhaaGreatDoorW.PrintMore
attribute [local go_sem] max2_int min2_int max_two min_two max_three min_three max_four min_four
set_option linter.unusedVariables false
set_option linter.unusedSimpArgs false
theorem opn_no : ∀ x : List Int, (92 : Int) ∉ x → Fj.opn false x = false
  | [], _ => rfl
  | c :: x, h => by
    have h1 : (c == 92) = false := beq_eq_false_iff_ne.mpr fun e => h (by rw [e]; exact List.mem_cons_self ..)
    show Fj.opn (if false = true then false else c == 92) x = false
    rw [h1]
    exact opn_no x fun e => h (List.mem_cons_of_mem _ e)
set_option maxHeartbeats 8000000 in
set_option maxRecDepth 100000 in
theorem vstr (a : ByteArray) (hs : a.size ≤ 1000000) (w : World) (hG : Glob w) :
    Calls Tryz.prog 147 #[.string a] w fun e w' => SaidS a (Fj.vs (bytesOf a)) e ∧ Below w.heap.size w w' := by
  have HG := Aside0.mk hG
  have HS := Aside0.mk hs
  clear hG
  rcases ix_or a 34 (by decide) (by decide) with ⟨h1, h2⟩ | ⟨n, h1, h2, h3, h4⟩
  · have HQ : Aside0 (Fj.qend (bytesOf a) = none) := ⟨qend_no a h2⟩
    have H1 := Aside0.mk h1
    clear h1 h2
    go_enter Tryz.func147, Tryz.ntmps147
    go_wp2_with (first
      | (go_at_call 131; (with_reducible refine (ixCall _ _ _ H1.out _).mono ?_); rintro e w' ⟨rfl, rfl⟩)
      | (go_at_call 123; (with_reducible refine (raw _ HS.out _).mono ?_); rintro e w' ⟨h, hb⟩; rw [HQ.out] at h; obtain ⟨x, y, T, u, rfl⟩ := h; have HB := Aside0.mk hb; clear hb))
    go_ret3
    exact ⟨saidS_none (vs_none HQ.out) _ _ _ T u rfl, HB.out⟩
  · have H1 := Aside0.mk h1
    clear h1
    obtain ⟨c, hc⟩ : ∃ c, a.extract 0 n = c := ⟨_, rfl⟩
    have hcb : bytesOf c = (bytesOf a).take n := by rw [← hc, extract_bytes, List.drop_zero]
    have HCC := Aside0.mk hc
    rcases ix_or c 92 (by decide) (by decide) with ⟨k1, k2⟩ | ⟨k, k1, k2, k3, k4⟩
    · have HQ : Aside0 (Fj.vs (bytesOf a) = some (0, n)) := ⟨by
        rw [hcb] at k2
        have hq : Fj.qend (bytesOf a) = some n := by
          have e : bytesOf a = (bytesOf a).take n ++ (34 :: D a (n + 1)) := by
            have := D_cons a n h2
            rw [h3] at this
            rw [← this, List.take_append_drop]
          rw [e]
          have := Fj.qe_ahead (34 :: D a (n + 1)) ((bytesOf a).take n) false h4
          show Fj.qe false _ = _
          rw [this]
          rw [opn_no _ k2]
          show Option.map _ (Fj.qend _) = _
          rw [Fj.qend_34]
          have hl : ((bytesOf a).take n).length = n := by rw [List.length_take, bytesOf_length]; omega
          simp only [Option.map_some, hl, Nat.add_zero]
        rw [vs_some hq, Fj.escs_clean _ k2]; rfl⟩
      have K1 := Aside0.mk k1
      clear k1 k2 hcb h3 h4
      go_enter Tryz.func147, Tryz.ntmps147
      go_wp2_with (first
        | (go_at_call_of 131 c; (with_reducible refine (ixCall _ _ _ K1.out _).mono ?_); rintro e w' ⟨rfl, rfl⟩)
        | (go_at_call 131; (with_reducible refine (ixCall _ _ _ H1.out _).mono ?_); rintro e w' ⟨rfl, rfl⟩))
      go_quiet (fail)
      go_wp2
      go_ret3
      exact ⟨saidS_some HQ.out HCC.out.symm rfl rfl, pw_below_drewN (Below.refl _ _) _⟩
    · have K1 := Aside0.mk k1
      clear k1 k2 hcb h3 h4
      cases hq : Fj.qend (bytesOf a) with
      | none =>
        have HQ := Aside0.mk hq
        clear hq k3 k4
        go_enter Tryz.func147, Tryz.ntmps147
        go_wp2_with (first
          | (go_at_call_of 131 c; (with_reducible refine (ixCall _ _ _ K1.out _).mono ?_); rintro e w' ⟨rfl, rfl⟩)
          | (go_at_call_of 131 a; (with_reducible refine (ixCall _ _ _ H1.out _).mono ?_); rintro e w' ⟨rfl, rfl⟩)
          | (go_at_call 123; (with_reducible refine (raw _ HS.out _).mono ?_); rintro e w' ⟨h, hb⟩; rw [HQ.out] at h; obtain ⟨x, y, T, u, rfl⟩ := h; have HB := Aside0.mk hb; clear hb))
        go_ret3
        exact ⟨saidS_none (vs_none HQ.out) _ _ _ T u rfl, HB.out⟩
      | some q =>
        have HQ := Aside0.mk hq
        obtain ⟨b, hb0⟩ : ∃ b, a.extract 0 q = b := ⟨_, rfl⟩
        obtain ⟨d, hd0⟩ : ∃ d, cut a (q + 1) = d := ⟨_, rfl⟩
        have HBB : Aside0 (bytesOf b = ((bytesOf a).take q).drop 0 ∧ Fj.escs ((bytesOf a).take q) = (Fj.escs (bytesOf b)).map (0 + ·)) := ⟨by rw [← hb0, extract_bytes], by
          rw [← hb0, extract_bytes, List.drop_zero]
          cases Fj.escs ((bytesOf a).take q) with
          | none => rfl
          | some m => simp only [Option.map_some, Nat.zero_add]⟩
        have hbs : b.size ≤ a.size := by rw [← hb0]; exact extract_size_le a 0 q
        have HD0 := Aside0.mk hd0
        have HB0 := Aside0.mk hb0
        clear hq k3 k4 hb0 hd0
        go_enter Tryz.func147, Tryz.ntmps147
        go_wp2_with (first
          | (go_at_call_of 131 c; (with_reducible refine (ixCall _ _ _ K1.out _).mono ?_); rintro e w' ⟨rfl, rfl⟩)
          | (go_at_call_of 131 a; (with_reducible refine (ixCall _ _ _ H1.out _).mono ?_); rintro e w' ⟨rfl, rfl⟩)
          | (go_at_call 123; (with_reducible refine (raw _ HS.out _).mono ?_); rintro e w' ⟨h, hb⟩; rw [HQ.out] at h; unfold SaidR at h; simp only [] at h; rw [HD0.out, HB0.out] at h; subst h; have HB := Aside0.mk hb; clear hb))
        go_loopw [6] (fun v6 wr => ∃ (r : ByteArray) (m : Nat), v6 = .string r ∧ r.size ≤ a.size ∧ Aside0 (bytesOf r = ((bytesOf a).take q).drop m ∧ Fj.escs ((bytesOf a).take q) = (Fj.escs (bytesOf r)).map (m + ·)) ∧ Aside0 (Below w.heap.size w wr)) (fun v6 _ => match v6 with | .string b => b.size | _ => 0)
        case atStart => exact ⟨b, 0, rfl, hbs, HBB, HB⟩
        case round =>
          clear HBB hbs HB hc
          obtain ⟨r, m, rfl, hrs, HR, HB⟩ := hrel
          rcases ix_or r 92 (by decide) (by decide) with ⟨j1, j2⟩ | ⟨j, j1, j2, j3, j4⟩
          · have J1 := Aside0.mk j1
            have HC : Aside0 (Fj.vs (bytesOf a) = some (m, q)) := ⟨by rw [vs_some HQ.out, HR.out.2, Fj.escs_clean _ j2]; rfl⟩
            clear j1 j2
            go_wp2_with (first
              | (go_at_call 131; (with_reducible refine (ixCall _ _ _ J1.out _).mono ?_); rintro e w' ⟨rfl, rfl⟩))
            go_ret3
            exact ⟨saidS_some HC.out (Base.bytes_inj (by rw [extract_bytes]; exact HR.out.1)) HD0.out.symm rfl, HB.out⟩
          · have J1 := Aside0.mk j1
            have HE : Aside0 (Fj.escs ((bytesOf a).take q) = (Fj.escs (92 :: D r (j + 1))).map (m + j + ·)) := ⟨by
              rw [HR.out.2, esc_at r j j2 j3 j4]
              cases Fj.escs (92 :: D r (j + 1)) with
              | none => rfl
              | some z => simp only [Option.map_some]; congr 1; omega⟩
            clear j1 j3 j4
            by_cases hlt : j + 1 < r.size
            · obtain ⟨ch, hch⟩ : ∃ ch, bt r ((j : Int) + 1) = ch := ⟨_, rfl⟩
              have hx : ∀ h : j + 1 < r.size, ((r[j + 1]'h).toNat : Int) = ch := by rw [← hch]; exact bt_at r ((j + 1 : Nat) : Int)
              obtain ⟨t, ht⟩ : ∃ t, r.extract (j + 1 + 1) r.size = t := ⟨_, rfl⟩
              have hts : t.size = r.size - (j + 2) := by rw [← ht]; exact cut_size r (j + 2)
              have htr : t.size < r.size := by omega
              have hta : t.size ≤ a.size := by omega
              have HT := Aside0.mk ht
              have HSI : Aside0 (Fj.simple8 (bt r ((j : Int) + 1)) = true → bytesOf t = ((bytesOf a).take q).drop (m + j + 2) ∧ Fj.escs ((bytesOf a).take q) = (Fj.escs (bytesOf t)).map (m + j + 2 + ·)) := ⟨fun h => by
                have e : bytesOf t = D r (j + 2) := by rw [← ht]; exact cut_bytes r (j + 2)
                refine ⟨by rw [e, D, HR.out.1, List.drop_drop]; rfl, ?_⟩
                rw [HE.out, esc_simple r j hlt h, e]
                cases Fj.escs (D r (j + 2)) with
                | none => rfl
                | some z => simp only [Option.map_some]; congr 1; omega⟩
              have HCH := Aside0.mk hch
              have hlo := letter_or ch
              clear hch
              rcases hlo with ⟨g1, hb⟩ | ⟨g1, g2, hb⟩ | ⟨g1, g2, g3, hb⟩ | ⟨g1, g2, g3, g4, hb⟩ | ⟨g1, g2, g3, g4, g5, hb⟩ | ⟨g1, g2, g3, g4, g5, g6, hb⟩ | ⟨g1, g2, g3, g4, g5, g6, g7, hb⟩ | ⟨g1, g2, g3, g4, g5, g6, g7, g8, hb⟩ | ⟨g1, g2, g3, g4, g5, g6, g7, g8, hb⟩
              rotate_right 1
              · by_cases c117 : ch = 117
                · subst c117
                  obtain ⟨s, hs0⟩ : ∃ s, t.extract 4 t.size = s := ⟨_, rfl⟩
                  obtain ⟨x, hx0⟩ : ∃ x, t.extract 0 4 = x := ⟨_, rfl⟩
                  have hss : s.size = t.size - 4 := by rw [← hs0]; exact cut_size t 4
                  have hsr : s.size < r.size := by omega
                  have hsa : s.size ≤ a.size := by omega
                  have HX0 := Aside0.mk hx0
                  have HS0 := Aside0.mk hs0
                  have hb4 : t.size = r.size - (j + 2) := hts
                  have HBAD : Aside0 (r.size < j + 2 + 4 ∨ hx4 x = false → Fj.vs (bytesOf a) = none) := ⟨fun h => by
                    rw [vs_some HQ.out, HE.out, esc_u_bad r j hlt HCH.out (by rw [← hx0, ← ht] at h; exact h)]; rfl⟩
                  have HGOOD : Aside0 (j + 2 + 4 ≤ r.size → hx4 x = true → bytesOf s = ((bytesOf a).take q).drop (m + j + 6) ∧ Fj.escs ((bytesOf a).take q) = (Fj.escs (bytesOf s)).map (m + j + 6 + ·)) := ⟨fun h h' => by
                    have e : bytesOf s = D r (j + 6) := by rw [← hs0, ← ht]; exact (cut_bytes (cut r (j + 2)) 4).trans (by rw [cut_bytes, List.drop_drop])
                    refine ⟨by rw [e, D, HR.out.1, List.drop_drop]; rfl, ?_⟩
                    rw [HE.out, esc_u r j hlt HCH.out h (by rw [← hx0, ← ht] at h'; exact h'), e]
                    cases Fj.escs (D r (j + 6)) with
                    | none => rfl
                    | some z => simp only [Option.map_some]; congr 1; omega⟩
                  clear hb hts htr hta hss hs0 hx0
                  by_cases h4 : t.size < 4
                  · have HC : Aside0 (Fj.vs (bytesOf a) = none) := ⟨HBAD.out (.inl (by omega))⟩
                    clear hb4
                    go_wp2_with (first
                      | (go_at_call 131; (with_reducible refine (ixCall _ _ _ J1.out _).mono ?_); rintro e w' ⟨rfl, rfl⟩)
                      | (go_at_call 72; (with_reducible refine (errNew _ _).mono ?_); rintro e w' ⟨⟨T, u, rfl⟩, hb⟩; have HB2 := Aside0.mk (HB.out.trans (hb.mono HB.out.size)); clear hb))
                    go_ret3
                    exact ⟨saidS_none HC.out _ _ _ T u rfl, HB2.out⟩
                  · have h4' : 4 ≤ t.size := by omega
                    have HXS : Aside0 (x.size = 4) := ⟨by
                      rw [← HX0.out, ← bytesOf_length, extract_bytes, List.length_drop, List.length_take, bytesOf_length]; omega⟩
                    have HGl := Aside0.mk (HG.out.below HB.out)
                    clear h4
                    cases hx4 : hx4 x with
                    | true =>
                      have HN := Aside0.mk (HGOOD.out (by omega) hx4)
                      have HX := Aside0.mk hx4
                      clear hx4 hb4
                      go_wp2_with (first
                        | (go_at_call 131; (with_reducible refine (ixCall _ _ _ J1.out _).mono ?_); rintro e w' ⟨rfl, rfl⟩)
                        | (go_at_call 165; rw [HT.out, HX0.out]; (with_reducible refine (hexYes _ HXS.out HX.out _).mono ?_); rintro e w' ⟨⟨v, rfl⟩, hb⟩; have HB2 := Aside0.mk (HB.out.trans (hb.mono HB.out.size)); clear hb))
                      go_roundw
                      case rel => exact ⟨s, m + j + 6, by rw [HS0.out], hsa, HN, HB2⟩
                      case measure => rw [HS0.out]; exact hsr
                    | false =>
                      have HC : Aside0 (Fj.vs (bytesOf a) = none) := ⟨HBAD.out (.inr hx4)⟩
                      have HX := Aside0.mk hx4
                      clear hx4 hb4
                      go_wp2_with (first
                        | (go_at_call 131; (with_reducible refine (ixCall _ _ _ J1.out _).mono ?_); rintro e w' ⟨rfl, rfl⟩)
                        | (go_at_call 165; rw [HT.out, HX0.out]; (with_reducible refine (hexNo _ HXS.out HX.out _ HGl.out).mono ?_); rintro e w' ⟨⟨v, T, u, rfl⟩, hb⟩; have HB2 := Aside0.mk (HB.out.trans (hb.mono HB.out.size)); clear hb)
                        | (go_at_call 72; (with_reducible refine (errNew _ _).mono ?_); rintro e w' ⟨⟨T, u, rfl⟩, hb⟩; have HB3 := Aside0.mk (HB2.out.trans (hb.mono HB2.out.size)); clear hb))
                      go_ret3
                      exact ⟨saidS_none HC.out _ _ _ T u rfl, HB3.out⟩
                · have HC : Aside0 (Fj.vs (bytesOf a) = none) := ⟨by
                    rw [vs_some HQ.out, HE.out, esc_other r j hlt (by rw [HCH.out]; exact hb) (by rw [HCH.out]; exact c117)]; rfl⟩
                  have g9 : (ch == 117) = false := beq_eq_false_iff_ne.mpr c117
                  clear c117 hb hts htr hta
                  go_wp2_with (first
                    | (go_at_call 131; (with_reducible refine (ixCall _ _ _ J1.out _).mono ?_); rintro e w' ⟨rfl, rfl⟩)
                    | (go_at_call 72; (with_reducible refine (errNew _ _).mono ?_); rintro e w' ⟨⟨T, u, rfl⟩, hb⟩; have HB2 := Aside0.mk (HB.out.trans (hb.mono HB.out.size)); clear hb))
                  go_ret3
                  exact ⟨saidS_none HC.out _ _ _ T u rfl, HB2.out⟩
              all_goals
                have HN : Aside0 (bytesOf t = ((bytesOf a).take q).drop (m + j + 2) ∧ Fj.escs ((bytesOf a).take q) = (Fj.escs (bytesOf t)).map (m + j + 2 + ·)) := ⟨HSI.out (by rw [HCH.out]; exact hb)⟩
                clear hb hts
                go_wp2_with (first
                  | (go_at_call 131; (with_reducible refine (ixCall _ _ _ J1.out _).mono ?_); rintro e w' ⟨rfl, rfl⟩))
                go_roundw
                case rel => exact ⟨t, m + j + 2, by rw [HT.out], hta, HN, HB⟩
                case measure => rw [HT.out]; exact htr
            · have HC : Aside0 (Fj.vs (bytesOf a) = none) := ⟨by rw [vs_some HQ.out, HE.out, esc_end r j (by omega)]; rfl⟩
              have hd : decide ((r.size : Int) ≤ (j : Int) + 1) = true := decide_eq_true (by omega)
              clear hlt
              go_wp2_with (first
                | (go_at_call 131; (with_reducible refine (ixCall _ _ _ J1.out _).mono ?_); rintro e w' ⟨rfl, rfl⟩)
                | (go_at_call 72; (with_reducible refine (errNew _ _).mono ?_); rintro e w' ⟨⟨T, u, rfl⟩, hb⟩; have HB2 := Aside0.mk (HB.out.trans (hb.mono HB.out.size)); clear hb))
              go_ret3
              exact ⟨saidS_none HC.out _ _ _ T u rfl, HB2.out⟩
end Go.Proofs.YtlhaefblchpjhaaGreatDoor.FjW
end
section
namespace Go.Proofs.YtlhaefblchpjhaaGreatDoor.FjW
open Go.RowKit Go.Proofs.YtlhaefblchpjhaaGreatDoorW.PrintWords Go.Proofs.YtlhaefblchpjhaaGreatDoorW.PrintLast Go.Proofs.YtlhaefblchpjhaaGreatDoorW.PrintMore
attribute [local go_sem] max2_int min2_int max_two min_two max_three min_three max_four min_four
set_option linter.unusedVariables false
set_option linter.unusedSimpArgs false
theorem take_one (b : ByteArray) (n : Nat) (hn : n < b.size) : (bytesOf b).take (n + 1) = (bytesOf b).take n ++ [bt b (n : Int)] := by
  rw [List.take_add_one, bt_get b n hn]; rfl
/-- The first quotation mark, and no backslash ahead of it. -/
theorem vs_plain (a : ByteArray) (n : Nat) (hn : n < a.size) (h34 : bt a (n : Int) = 34) (h1 : (34 : Int) ∉ (bytesOf a).take n) (h2 : (92 : Int) ∉ (bytesOf a).take n) : Fj.vs (bytesOf a) = some (0, n) := by
  have hq : Fj.qend (bytesOf a) = some n := by
    have e : bytesOf a = (bytesOf a).take n ++ (34 :: D a (n + 1)) := by
      have := D_cons a n hn
      rw [h34] at this
      rw [← this, List.take_append_drop]
    rw [e]
    have := Fj.qe_ahead (34 :: D a (n + 1)) ((bytesOf a).take n) false h1
    show Fj.qe false _ = _
    rw [this, opn_no _ h2]
    show Option.map _ (Fj.qend _) = _
    rw [Fj.qend_34]
    have hl : ((bytesOf a).take n).length = n := by rw [List.length_take, bytesOf_length]; omega
    simp only [Option.map_some, hl, Nat.add_zero]
  rw [vs_some hq, Fj.escs_clean _ h2]; rfl
theorem not_mem_one {l : List Int} {c x : Int} (h : c ∉ l) (hx : x ≠ c) : c ∉ l ++ [x] := by
  intro h'
  rcases List.mem_append.mp h' with g | g
  · exact h g
  · exact hx (List.mem_singleton.mp g).symm
set_option maxHeartbeats 8000000 in
set_option maxRecDepth 100000 in
theorem vkey (a : ByteArray) (hs : a.size ≤ 1000000) (w : World) (hG : Glob w) :
    Calls Tryz.prog 168 #[.string a] w fun e w' => SaidS a (Fj.vs (bytesOf a)) e ∧ Below w.heap.size w w' := by
  have HG := Aside0.mk hG
  have HS := Aside0.mk hs
  clear hG
  go_enter Tryz.func168, Tryz.ntmps168
  go_wp2
  go_loop [8] (fun v => ∃ k : Nat, v = .int .i64 (k : Int) ∧ k ≤ a.size ∧ Aside0 ((34 : Int) ∉ (bytesOf a).take k ∧ (92 : Int) ∉ (bytesOf a).take k)) (fun v => a.size - (intOf v).toNat)
  case atStart => exact ⟨0, rfl, Nat.zero_le _, ⟨by simp, by simp⟩⟩
  case round =>
    obtain ⟨k, rfl, hk, HH⟩ := hrel
    by_cases hlt : k < a.size
    · have hx : ∀ h : k < a.size, ((a[k]'h).toNat : Int) = bt a (k : Int) := bt_at a (k : Int)
      by_cases c1 : bt a (k : Int) = 34
      · have e1 : (bt a (k : Int) == 34) = true := beq_iff_eq.mpr c1
        have HC : Aside0 (Fj.vs (bytesOf a) = some (0, k)) := ⟨vs_plain a k hlt c1 HH.out.1 HH.out.2⟩
        clear c1
        go_wp2
        go_quiet (fail)
        go_wp2
        go_ret3
        exact ⟨saidS_some HC.out (by first | rfl | simp) rfl rfl, pw_below_drewN (Below.refl _ _) _⟩
      · have e1 : (bt a (k : Int) == 34) = false := beq_eq_false_iff_ne.mpr c1
        by_cases c2 : bt a (k : Int) = 92
        · have e2 : (bt a (k : Int) == 92) = true := beq_iff_eq.mpr c2
          clear c1 c2
          cases hv : Fj.vs (bytesOf a) with
          | none =>
            have HV := Aside0.mk hv
            clear hv
            go_wp2_with (go_at_call 147; (with_reducible refine (vstr _ HS.out _ HG.out).mono ?_); rintro e w' ⟨h, hb⟩; rw [HV.out] at h; obtain ⟨x, y, T, u, rfl⟩ := h; have HB := Aside0.mk hb; clear hb)
            go_ret3
            exact ⟨saidS_none HV.out _ _ _ T u rfl, HB.out⟩
          | some p =>
            have HV := Aside0.mk hv
            clear hv
            go_wp2_with (go_at_call 147; (with_reducible refine (vstr _ HS.out _ HG.out).mono ?_); rintro e w' ⟨h, hb⟩; rw [HV.out] at h; unfold SaidS at h; simp only [] at h; subst h; have HB := Aside0.mk hb; clear hb)
            go_ret3
            exact ⟨saidS_some (m := p.1) (q := p.2) HV.out rfl rfl rfl, HB.out⟩
        · have e2 : (bt a (k : Int) == 92) = false := beq_eq_false_iff_ne.mpr c2
          have HH' : Aside0 ((34 : Int) ∉ (bytesOf a).take (k + 1) ∧ (92 : Int) ∉ (bytesOf a).take (k + 1)) := ⟨by
            rw [take_one a k hlt]
            exact ⟨not_mem_one HH.out.1 c1, not_mem_one HH.out.2 c2⟩⟩
          clear c1 c2 HH
          go_wp2
          go_round
          case rel => exact ⟨k + 1, by go_num, by omega, HH'⟩
          case measure => simp [intOf]; omega
    · have HC : Aside0 (Fj.vs (bytesOf a) = none) := ⟨vs_none (qend_no a (by
        have := HH.out.1
        rw [List.take_of_length_le (by rw [bytesOf_length]; omega)] at this
        exact this))⟩
      obtain rfl : k = a.size := by omega
      clear hlt
      go_wp2_with (go_at_call 72; (with_reducible refine (errNew _ _).mono ?_); rintro e w' ⟨⟨T, u, rfl⟩, hb⟩)
      go_ret3
      exact ⟨saidS_none HC.out _ _ _ T u rfl, hb⟩
end Go.Proofs.YtlhaefblchpjhaaGreatDoor.FjW
end
section
namespace Go.Proofs.YtlhaefblchpjhaaGreatDoor.FjW
open Go.RowKit Go.Proofs.YtlhaefblchpjhaaGreatDoorW.PrintWords Go.Proofs.YtlhaefblchpjhaaGreatDoorW.PrintLast Go.Proofs.YtlhaefblchpjhaaGreatDoorW.PrintMore
set_option linter.unusedVariables false
set_option linter.unusedSimpArgs false
/-- Behind the blanks. -/
def nx (s : ByteArray) (p : Nat) : Nat := p + Fj.ws (D s p)
def vA (s : ByteArray) (f p : Nat) : Option Nat := (Fj.val f (D s p)).map (p + ·)
def eA (s : ByteArray) (f p : Nat) : Option Nat := (Fj.elems f (D s p)).map (p + ·)
def mA (s : ByteArray) (f p : Nat) : Option Nat := (Fj.mems f (D s p)).map (p + ·)
def qA (s : ByteArray) (p : Nat) : Option Nat := (Fj.quo (D s p)).map (p + ·)
theorem nx_ge (s : ByteArray) (p : Nat) : p ≤ nx s p := Nat.le_add_right _ _
theorem nx_nx (s : ByteArray) (p : Nat) : nx s (nx s p) = nx s p := by
  have h : ∀ l : List Int, Fj.ws (l.drop (Fj.ws l)) = 0 := fun l => by
    induction l with
    | nil => rfl
    | cons c r ih =>
      rw [Fj.ws]
      by_cases hb : Fj.blank c = true
      · rw [if_pos hb, List.drop_succ_cons]; exact ih
      · rw [if_neg hb, List.drop_zero, Fj.ws, if_neg hb]
  have := h (D s p)
  rw [D_drop] at this
  show p + Fj.ws (D s p) + Fj.ws (D s (p + Fj.ws (D s p))) = p + Fj.ws (D s p)
  rw [this, Nat.add_zero]
theorem eA_succ (s : ByteArray) (k p : Nat) : eA s (k + 1) p = match vA s k (nx s p) with
    | none => none
    | some v => if bt s (nx s v : Int) = 44 then eA s k (nx s v + 1) else if bt s (nx s v : Int) = 93 then some (nx s v + 1) else none := by
  unfold eA vA
  rw [Fj.elems, D_drop]
  show Option.map _ (match Fj.val k (D s (nx s p)) with | none => none | some v => _) = _
  cases hv : Fj.val k (D s (nx s p)) with
  | none => rfl
  | some v =>
    simp only [Option.map_some, D_drop, rd_D]
    have e1 : p + (Fj.ws (D s p) + v) = nx s p + v := by unfold nx; omega
    have e2 : p + (Fj.ws (D s p) + v + Fj.ws (D s (p + (Fj.ws (D s p) + v)))) = nx s (nx s p + v) := by rw [e1]; unfold nx at *; omega
    rw [e2]
    have e3 : p + (Fj.ws (D s p) + v + Fj.ws (D s (p + (Fj.ws (D s p) + v))) + 1) = nx s (nx s p + v) + 1 := by omega
    by_cases c1 : bt s (nx s (nx s p + v) : Int) = 44
    · rw [if_pos c1, if_pos c1, e3]
      cases Fj.elems k (D s (nx s (nx s p + v) + 1)) with
      | none => rfl
      | some e => simp only [Option.map_some]; congr 1; omega
    · rw [if_neg c1, if_neg c1]
      by_cases c2 : bt s (nx s (nx s p + v) : Int) = 93
      · rw [if_pos c2, if_pos c2]; simp only [Option.map_some]; congr 1
      · rw [if_neg c2, if_neg c2]; rfl
theorem mA_succ (s : ByteArray) (k p : Nat) : mA s (k + 1) p = if bt s (nx s p : Int) = 34 then match qA s (nx s p + 1) with
    | none => none
    | some b => if bt s (nx s b : Int) = 58 then match vA s k (nx s (nx s b + 1)) with
        | none => none
        | some v => if bt s (nx s v : Int) = 44 then mA s k (nx s v + 1) else if bt s (nx s v : Int) = 125 then some (nx s v + 1) else none
      else none
    else none := by
  unfold mA
  rw [Fj.mems]
  simp only [rd_D, D_drop]
  show Option.map _ (if bt s (nx s p : Int) = 34 then _ else _) = _
  by_cases c0 : bt s (nx s p : Int) = 34
  · rw [if_pos c0, if_pos c0]
    unfold qA vA
    have e0 : p + (Fj.ws (D s p) + 1) = nx s p + 1 := by unfold nx; omega
    rw [e0]
    cases hq : Fj.quo (D s (nx s p + 1)) with
    | none => rfl
    | some q =>
      simp only [Option.map_some]
      have e1 : p + (Fj.ws (D s p) + 1 + q) = nx s p + 1 + q := by unfold nx; omega
      have e2 : p + (Fj.ws (D s p) + 1 + q + Fj.ws (D s (p + (Fj.ws (D s p) + 1 + q)))) = nx s (nx s p + 1 + q) := by rw [e1]; unfold nx at *; omega
      have e3 : p + (Fj.ws (D s p) + 1 + q + Fj.ws (D s (p + (Fj.ws (D s p) + 1 + q))) + 1) = nx s (nx s p + 1 + q) + 1 := by omega
      rw [e2, e3]
      generalize nx s (nx s p + 1 + q) = b at *
      by_cases c1 : bt s (b : Int) = 58
      · rw [if_pos c1, if_pos c1]
        have e4 : b + 1 + Fj.ws (D s (b + 1)) = nx s (b + 1) := rfl
        rw [e4]
        cases hv : Fj.val k (D s (nx s (b + 1))) with
        | none => rfl
        | some v =>
          simp only [Option.map_some]
          have e5 : p + (Fj.ws (D s p) + 1 + q + Fj.ws (D s (p + (Fj.ws (D s p) + 1 + q))) + 1 + Fj.ws (D s (b + 1)) + v) = nx s (b + 1) + v := by unfold nx; omega
          have e6 : p + (Fj.ws (D s p) + 1 + q + Fj.ws (D s (p + (Fj.ws (D s p) + 1 + q))) + 1 + Fj.ws (D s (b + 1)) + v + Fj.ws (D s (p + (Fj.ws (D s p) + 1 + q + Fj.ws (D s (p + (Fj.ws (D s p) + 1 + q))) + 1 + Fj.ws (D s (b + 1)) + v)))) = nx s (nx s (b + 1) + v) := by rw [e5]; unfold nx at *; omega
          rw [e6]
          generalize nx s (nx s (b + 1) + v) = z at *
          have e7 : p + (Fj.ws (D s p) + 1 + q + Fj.ws (D s (p + (Fj.ws (D s p) + 1 + q))) + 1 + Fj.ws (D s (b + 1)) + v + Fj.ws (D s (p + (Fj.ws (D s p) + 1 + q + Fj.ws (D s (p + (Fj.ws (D s p) + 1 + q))) + 1 + Fj.ws (D s (b + 1)) + v))) + 1) = z + 1 := by omega
          by_cases c2 : bt s (z : Int) = 44
          · rw [if_pos c2, if_pos c2, e7]
            cases Fj.mems k (D s (z + 1)) with
            | none => rfl
            | some e => simp only [Option.map_some]; congr 1; omega
          · rw [if_neg c2, if_neg c2]
            by_cases c3 : bt s (z : Int) = 125
            · rw [if_pos c3, if_pos c3]; simp only [Option.map_some]; congr 1
            · rw [if_neg c3, if_neg c3]; rfl
      · rw [if_neg c1, if_neg c1]; rfl
  · rw [if_neg c0, if_neg c0]; rfl
theorem num_pos {l : List Int} {v : Nat} (h : Fj.num l = some v) : 1 ≤ v := by
  unfold Fj.num Fj.whole Fj.frac Fj.expo at h
  repeat' split at h
  all_goals first
    | (cases h; done)
    | (obtain rfl := Option.some.inj h; omega)
theorem val_pos {f : Nat} {l : List Int} {v : Nat} (h : Fj.val f l = some v) : 1 ≤ v := by
  cases f with
  | zero => rw [Fj.val] at h; cases h
  | succ f =>
    rw [Fj.val] at h
    repeat' split at h
    all_goals first
      | (cases h; done)
      | (obtain rfl := Option.some.inj h; omega)
      | (obtain ⟨x, _, rfl⟩ := Option.map_eq_some_iff.mp h; omega)
      | exact num_pos h
theorem val_nil (f : Nat) : Fj.val f [] = none := by
  cases f with
  | zero => rw [Fj.val]
  | succ f => rw [Fj.val, if_pos rfl]
end Go.Proofs.YtlhaefblchpjhaaGreatDoor.FjW
end
section
namespace Go.Proofs.YtlhaefblchpjhaaGreatDoor.FjW
open Go.RowKit Go.Proofs.YtlhaefblchpjhaaGreatDoorW.PrintWords Go.Proofs.YtlhaefblchpjhaaGreatDoorW.PrintLast Go.Proofs.YtlhaefblchpjhaaGreatDoorW.PrintMore
attribute [local go_sem] max2_int min2_int max_two min_two max_three min_three max_four min_four
set_option linter.unusedVariables false
set_option linter.unusedSimpArgs false
/-- validateValue, of texts of at most n bytes. -/
def VC (n : Nat) : Prop := ∀ (a : ByteArray) (f : Nat) (w : World), a.size ≤ n → a.size ≤ 1000000 → Fj.Steady (bytesOf a) → 2 * a.size + 2 ≤ f → Glob w →
    Calls Tryz.prog 95 #[.string a] w fun e w' => Said a (Fj.val f (bytesOf a)) e ∧ Below w.heap.size w w'
theorem skipTo (a b c : ByteArray) (p : Nat) (hs : a.size ≤ 1000000) (hb : b = cut a p) (hc : c = cut a (nx a p)) (w : World) :
    Calls Tryz.prog 68 #[.string b] w fun e w' => e = .returned (.string c) ∧ w = w' := by
  refine (skipWS b (by rw [hb, cut_size]; omega) w).mono fun e w' h => ⟨?_, h.2.symm⟩
  rw [h.1, hc, hb, cut_bytes]
  congr 2
  exact cut_cut a p (Fj.ws (D a p))
/-- The first byte of a part. -/
theorem first_bt (a b : ByteArray) (p : Nat) (hb : b = cut a p) : ∀ h : 0 < b.size, ((b[0]'h).toNat : Int) = bt a (p : Int) := fun h => by
  have h1 := bt_at b 0 h
  have h2 := cut_bt a p 0
  rw [← hb] at h2
  exact h1.trans h2
theorem steady_cut {a : ByteArray} (h : Fj.Steady (bytesOf a)) (p : Nat) : Fj.Steady (bytesOf (cut a p)) := by
  rw [cut_bytes]; exact Fj.Steady.drop p _ h
theorem cut_out {a b : ByteArray} {p : Nat} (hb : b = cut a p) (h : b.size = 0) : bt a (p : Int) = 0 := bt_out a p (by
  rw [hb, cut_size] at h; omega)
theorem vA_out {a b : ByteArray} {p : Nat} (hb : b = cut a p) (h : b.size = 0) (k : Nat) : vA a k p = none := by
  unfold vA
  rw [D_nil a p (by rw [hb, cut_size] at h; omega), val_nil]; rfl
theorem eA_nx (a : ByteArray) (k p : Nat) : eA a (k + 1) (nx a p) = eA a (k + 1) p := by
  rw [eA_succ, eA_succ, nx_nx]
theorem mA_nx (a : ByteArray) (k p : Nat) : mA a (k + 1) (nx a p) = mA a (k + 1) p := by
  rw [mA_succ, mA_succ, nx_nx]
/-- An array's rest, behind the bracket that opens it. -/
def arrO (a : ByteArray) (g : Nat) : Option Nat := if bt a (nx a 0 : Int) = 93 then some (nx a 0 + 1) else eA a g 0
set_option maxHeartbeats 8000000 in
set_option maxRecDepth 100000 in
theorem arr (n : Nat) (hV : VC n) (a : ByteArray) (g : Nat) (w : World) (han : a.size ≤ n) (hs : a.size ≤ 1000000) (hst : Fj.Steady (bytesOf a)) (hg : 2 * a.size + 3 ≤ g) (hG : Glob w) :
    Calls Tryz.prog 146 #[.string a] w fun e w' => Said a (arrO a g) e ∧ Below w.heap.size w w' := by
  obtain ⟨g, rfl⟩ : ∃ k, g = k + 1 := ⟨g - 1, by omega⟩
  have HG := Aside0.mk hG
  have HS := Aside0.mk hs
  have HV := Aside0.mk hV
  have HN := Aside0.mk han
  have HST := Aside0.mk hst
  have HF := Aside0.mk hg
  obtain ⟨b0, hb0⟩ : ∃ b, b = cut a (nx a 0) := ⟨_, rfl⟩
  have HB0 := Aside0.mk hb0
  have hx := first_bt a b0 _ hb0
  have HA0 : Aside0 (a = cut a 0) := ⟨(cut_zero a).symm⟩
  clear hG hV han hst hg
  by_cases h0 : b0.size = 0
  · have HC : Aside0 (arrO a (g + 1) = none) := ⟨by
      unfold arrO
      rw [if_neg (by rw [cut_out hb0 h0]; decide), eA_succ, vA_out hb0 h0]⟩
    have e0 : ((b0.size : Int) == 0) = true := beq_iff_eq.mpr (by omega)
    clear h0 hb0 hx
    go_enter Tryz.func146, Tryz.ntmps146
    go_wp2_with (first
      | (go_at_call 68; (with_reducible refine (skipTo a _ b0 0 HS.out HA0.out HB0.out _).mono ?_); rintro e w' ⟨rfl, rfl⟩)
      | (go_at_call 72; (with_reducible refine (errNew _ _).mono ?_); rintro e w' ⟨⟨T, u, rfl⟩, hb⟩))
    go_ret2
    exact ⟨said_none HC.out _ T u rfl, hb⟩
  · have e0 : ((b0.size : Int) == 0) = false := beq_eq_false_iff_ne.mpr (by omega)
    have hz : 0 < b0.size := by omega
    clear h0
    by_cases c : bt a (nx a 0 : Int) = 93
    · have HC : Aside0 (arrO a (g + 1) = some (nx a 0 + 1)) := ⟨by unfold arrO; rw [if_pos c]⟩
      have e1 : (bt a (nx a 0 : Int) == 93) = true := beq_iff_eq.mpr c
      have HX : Aside0 (b0.extract 1 b0.size = cut a (nx a 0 + 1)) := ⟨by rw [hb0]; exact cut_cut a _ 1⟩
      clear hb0 c
      go_enter Tryz.func146, Tryz.ntmps146
      go_wp2_with (first
        | (go_at_call 68; (with_reducible refine (skipTo a _ b0 0 HS.out HA0.out HB0.out _).mono ?_); rintro e w' ⟨rfl, rfl⟩))
      go_ret2
      exact ⟨said_some HC.out HX.out rfl, Below.refl _ _⟩
    · have e1 : (bt a (nx a 0 : Int) == 93) = false := beq_eq_false_iff_ne.mpr c
      have HE : Aside0 (arrO a (g + 1) = eA a (g + 1) (nx a 0)) := ⟨by unfold arrO; rw [if_neg c, eA_nx]⟩
      have HFU : Aside0 (2 * (a.size - nx a 0) + 3 ≤ g + 1) := ⟨by have := HF.out; omega⟩
      have HBL := Aside0.mk (Below.refl w.heap.size w)
      clear hb0 c HF
      go_enter Tryz.func146, Tryz.ntmps146
      go_wp2_with (first
        | (go_at_call 68; (with_reducible refine (skipTo a _ b0 0 HS.out HA0.out HB0.out _).mono ?_); rintro e w' ⟨rfl, rfl⟩))
      go_loopg [0] (g + 1) (fun k v0 wr => ∃ (b : ByteArray) (p : Nat), v0 = .string b ∧ Aside0 (b = cut a p ∧ arrO a (g + 1) = eA a k p ∧ 2 * (a.size - p) + 3 ≤ k) ∧ Aside0 (Below w.heap.size w wr))
      case atStart => exact ⟨b0, nx a 0, rfl, ⟨HB0.out, HE.out, HFU.out⟩, HBL⟩
      case round =>
        clear HE HFU HBL hx hz e1 e0
        obtain ⟨b, p, rfl, HR, HBL⟩ := hrel
        obtain ⟨k, rfl⟩ : ∃ k, gk = k + 1 := ⟨gk - 1, by have := HR.out.2.2; omega⟩
        obtain ⟨q, hq⟩ : ∃ q, nx a p = q := ⟨_, rfl⟩
        have hpq : p ≤ q := by rw [← hq]; exact nx_ge a p
        obtain ⟨c, hc⟩ : ∃ c, c = cut a q := ⟨_, rfl⟩
        have HCQ : Aside0 (c = cut a (nx a p)) := ⟨by rw [hq]; exact hc⟩
        have HC0 := Aside0.mk hc
        have HE : Aside0 (arrO a (g + 1) = match vA a k q with
          | none => none
          | some v => if bt a (nx a v : Int) = 44 then eA a k (nx a v + 1) else if bt a (nx a v : Int) = 93 then some (nx a v + 1) else none) := ⟨by rw [HR.out.2.1, eA_succ, hq]; first | done | rfl⟩
        have hcs : c.size = a.size - q := by rw [hc]; exact cut_size a q
        have HCC : Aside0 (c.size ≤ n ∧ c.size ≤ 1000000 ∧ Fj.Steady (bytesOf c) ∧ 2 * c.size + 2 ≤ k) := ⟨by have := HN.out; omega, by have := HS.out; omega, by rw [hc]; exact steady_cut HST.out q, by have := HR.out.2.2; omega⟩
        have HGl := Aside0.mk (HG.out.below HBL.out)
        have HVC : Aside0 (∀ W, Glob W → Calls Tryz.prog 95 #[.string c] W fun e w' => Said c (Fj.val k (bytesOf c)) e ∧ Below W.heap.size W w') := ⟨fun W hW => HV.out c k W HCC.out.1 HCC.out.2.1 HCC.out.2.2.1 HCC.out.2.2.2 hW⟩
        have HQK : Aside0 (2 * (a.size - q) + 3 ≤ k + 1 ∧ (c.size = 0 → vA a k q = none) ∧ c.size = a.size - q) := ⟨by have := HR.out.2.2; omega, fun h => vA_out hc h k, hcs⟩
        cases hv : vA a k q with
        | none =>
          have HC : Aside0 (arrO a (g + 1) = none) := ⟨by rw [HE.out, hv]⟩
          have HVV : Aside0 (Fj.val k (bytesOf c) = none) := ⟨by
            unfold vA at hv
            rw [hc, cut_bytes]
            cases h : Fj.val k (D a q) with
            | none => rfl
            | some v => rw [h] at hv; cases hv⟩
          clear hv hc hcs hpq hq
          go_wp2_with (first
            | (go_at_call 68; (with_reducible refine (skipTo a _ c p HS.out HR.out.1 HCQ.out _).mono ?_); rintro e w' ⟨rfl, rfl⟩)
            | (go_at_call 95; (with_reducible refine (HVC.out _ HGl.out).mono ?_); rintro e w' ⟨h, hb⟩; rw [HVV.out] at h; obtain ⟨x, T, u, rfl⟩ := h; have HB1 := Aside0.mk (HBL.out.trans (hb.mono HBL.out.size)); clear hb)
            | (go_at_call 72; (with_reducible refine (errNew _ _).mono ?_); rintro e w' ⟨⟨T, u, rfl⟩, hb⟩; have HB2 := Aside0.mk (HB1.out.trans (hb.mono HB1.out.size)); clear hb))
          go_ret2
          exact ⟨said_none HC.out _ T u rfl, HB2.out⟩
        | some r =>
          have hqr : q < r ∧ Fj.val k (bytesOf c) = some (r - q) := by
            unfold vA at hv
            rw [hc, cut_bytes]
            cases h : Fj.val k (D a q) with
            | none => rw [h] at hv; cases hv
            | some v =>
              rw [h] at hv
              have := val_pos h
              simp only [Option.map_some, Option.some.injEq] at hv
              exact ⟨by omega, by congr 1; omega⟩
          have HVV := Aside0.mk hqr.2
          obtain ⟨d, hd⟩ : ∃ d, d = cut a r := ⟨_, rfl⟩
          have HDV : Aside0 (cut c (r - q) = d) := ⟨by rw [hc, hd]; exact (cut_cut a q (r - q)).trans (by congr 1; omega)⟩
          have HD0 := Aside0.mk hd
          obtain ⟨m, hm⟩ : ∃ m, nx a r = m := ⟨_, rfl⟩
          have hrm : r ≤ m := by rw [← hm]; exact nx_ge a r
          obtain ⟨f, hf⟩ : ∃ f, f = cut a m := ⟨_, rfl⟩
          have HFM : Aside0 (f = cut a (nx a r)) := ⟨by rw [hm]; exact hf⟩
          have HE2 : Aside0 (arrO a (g + 1) = if bt a (m : Int) = 44 then eA a k (m + 1) else if bt a (m : Int) = 93 then some (m + 1) else none) := ⟨by rw [HE.out, hv, ← hm]⟩
          have hx := first_bt a f _ hf
          have HX : Aside0 (f.extract 1 f.size = cut a (m + 1)) := ⟨by rw [hf]; exact cut_cut a m 1⟩
          have HF0 := Aside0.mk hf
          have HNE : Aside0 (2 * (a.size - (m + 1)) + 3 ≤ k) := ⟨by
            have := HQK.out
            have hc0 : c.size ≠ 0 := fun h => by rw [this.2.1 h] at hv; cases hv
            omega⟩
          clear hv hc hcs hpq hq hd hm hf HE hqr hrm
          by_cases z : f.size = 0
          · have HC : Aside0 (arrO a (g + 1) = none) := ⟨by rw [HE2.out, cut_out HF0.out z]; rfl⟩
            have e0 : ((f.size : Int) == 0) = true := beq_iff_eq.mpr (by omega)
            clear z hx
            go_wp2_with (first
              | (go_at_call_of 68 b; (with_reducible refine (skipTo a _ c p HS.out HR.out.1 HCQ.out _).mono ?_); rintro e w' ⟨rfl, rfl⟩)
              | (go_at_call_of 68 d; (with_reducible refine (skipTo a _ f r HS.out HD0.out HFM.out _).mono ?_); rintro e w' ⟨rfl, rfl⟩)
              | (go_at_call 95; (with_reducible refine (HVC.out _ HGl.out).mono ?_); rintro e w' ⟨h, hb⟩; rw [HVV.out] at h; unfold Said at h; simp only [] at h; rw [HDV.out] at h; subst h; have HB1 := Aside0.mk (HBL.out.trans (hb.mono HBL.out.size)); clear hb)
              | (go_at_call 72; (with_reducible refine (errNew _ _).mono ?_); rintro e w' ⟨⟨T, u, rfl⟩, hb⟩; have HB2 := Aside0.mk (HB1.out.trans (hb.mono HB1.out.size)); clear hb))
            go_ret2
            exact ⟨said_none HC.out _ T u rfl, HB2.out⟩
          · have e0 : ((f.size : Int) == 0) = false := beq_eq_false_iff_ne.mpr (by omega)
            have hz : 0 < f.size := by omega
            clear z
            by_cases c1 : bt a (m : Int) = 44
            · have e1 : (bt a (m : Int) == 44) = true := beq_iff_eq.mpr c1
              have HC : Aside0 (arrO a (g + 1) = eA a k (m + 1)) := ⟨by rw [HE2.out, if_pos c1]⟩
              clear c1
              go_wp2_with (first
                | (go_at_call_of 68 b; (with_reducible refine (skipTo a _ c p HS.out HR.out.1 HCQ.out _).mono ?_); rintro e w' ⟨rfl, rfl⟩)
                | (go_at_call_of 68 d; (with_reducible refine (skipTo a _ f r HS.out HD0.out HFM.out _).mono ?_); rintro e w' ⟨rfl, rfl⟩)
                | (go_at_call 95; (with_reducible refine (HVC.out _ HGl.out).mono ?_); rintro e w' ⟨h, hb⟩; rw [HVV.out] at h; unfold Said at h; simp only [] at h; rw [HDV.out] at h; subst h; have HB1 := Aside0.mk (HBL.out.trans (hb.mono HBL.out.size)); clear hb))
              go_roundg k
              case measure => omega
              case rel => exact ⟨_, m + 1, rfl, ⟨HX.out, HC.out, HNE.out⟩, HB1⟩
            · have e1 : (bt a (m : Int) == 44) = false := beq_eq_false_iff_ne.mpr c1
              by_cases c2 : bt a (m : Int) = 93
              · have e2 : (bt a (m : Int) == 93) = true := beq_iff_eq.mpr c2
                have HC : Aside0 (arrO a (g + 1) = some (m + 1)) := ⟨by rw [HE2.out, if_neg c1, if_pos c2]⟩
                clear c1 c2
                go_wp2_with (first
                  | (go_at_call_of 68 b; (with_reducible refine (skipTo a _ c p HS.out HR.out.1 HCQ.out _).mono ?_); rintro e w' ⟨rfl, rfl⟩)
                  | (go_at_call_of 68 d; (with_reducible refine (skipTo a _ f r HS.out HD0.out HFM.out _).mono ?_); rintro e w' ⟨rfl, rfl⟩)
                  | (go_at_call 95; (with_reducible refine (HVC.out _ HGl.out).mono ?_); rintro e w' ⟨h, hb⟩; rw [HVV.out] at h; unfold Said at h; simp only [] at h; rw [HDV.out] at h; subst h; have HB1 := Aside0.mk (HBL.out.trans (hb.mono HBL.out.size)); clear hb))
                go_ret2
                exact ⟨said_some HC.out HX.out rfl, HB1.out⟩
              · have e2 : (bt a (m : Int) == 93) = false := beq_eq_false_iff_ne.mpr c2
                have HC : Aside0 (arrO a (g + 1) = none) := ⟨by rw [HE2.out, if_neg c1, if_neg c2]⟩
                clear c1 c2
                go_wp2_with (first
                  | (go_at_call_of 68 b; (with_reducible refine (skipTo a _ c p HS.out HR.out.1 HCQ.out _).mono ?_); rintro e w' ⟨rfl, rfl⟩)
                  | (go_at_call_of 68 d; (with_reducible refine (skipTo a _ f r HS.out HD0.out HFM.out _).mono ?_); rintro e w' ⟨rfl, rfl⟩)
                  | (go_at_call 95; (with_reducible refine (HVC.out _ HGl.out).mono ?_); rintro e w' ⟨h, hb⟩; rw [HVV.out] at h; unfold Said at h; simp only [] at h; rw [HDV.out] at h; subst h; have HB1 := Aside0.mk (HBL.out.trans (hb.mono HBL.out.size)); clear hb)
                  | (go_at_call 72; (with_reducible refine (errNew _ _).mono ?_); rintro e w' ⟨⟨T, u, rfl⟩, hb⟩; have HB2 := Aside0.mk (HB1.out.trans (hb.mono HB1.out.size)); clear hb))
                go_ret2
                exact ⟨said_none HC.out _ T u rfl, HB2.out⟩
end Go.Proofs.YtlhaefblchpjhaaGreatDoor.FjW
end
section
namespace Go.Proofs.YtlhaefblchpjhaaGreatDoor.FjW
open Go.RowKit Go.Proofs.YtlhaefblchpjhaaGreatDoorW.PrintWords Go.Proofs.YtlhaefblchpjhaaGreatDoorW.PrintLast Go.Proofs.YtlhaefblchpjhaaGreatDoorW.PrintMore
attribute [local go_sem] max2_int min2_int max_two min_two max_three min_three max_four min_four
set_option linter.unusedVariables false
set_option linter.unusedSimpArgs false
/-- An object's rest, behind the brace that opens it. -/
def objO (a : ByteArray) (g : Nat) : Option Nat := if bt a (nx a 0 : Int) = 125 then some (nx a 0 + 1) else mA a g 0
theorem ctl_out {b : ByteArray} (h : Fj.ctl (bytesOf b) = false) (k : Nat) (hk : k < b.size) : ¬ bt b (k : Int) < 32 := by
  intro hlt
  have : Fj.ctl (bytesOf b) = true := List.any_eq_true.mpr ⟨bt b (k : Int), List.mem_of_getElem? (bt_get b k hk), decide_eq_true hlt⟩
  rw [h] at this; cases this
theorem ctl_in {b : ByteArray} (h : Fj.ctl (bytesOf b) = true) : ∃ k : Nat, k < b.size ∧ bt b (k : Int) < 32 := by
  obtain ⟨x, hx, hlt⟩ := List.any_eq_true.mp h
  obtain ⟨k, hk⟩ := List.getElem?_of_mem hx
  have hl : k < b.size := by
    have := (List.getElem?_eq_some_iff.mp hk).1
    rw [bytesOf_length] at this; exact this
  rw [bt_get b k hl] at hk
  exact ⟨k, hl, by rw [Option.some.inj hk]; exact of_decide_eq_true hlt⟩
/-- A name or a string of a steady text: what the checks of its parts say. -/
theorem quo_parts {a b : ByteArray} {p : Nat} (hb : b = cut a p) (hst : Fj.Steady (bytesOf a)) : qA a p = match Fj.vs (bytesOf b) with
    | none => none
    | some x => if Fj.ctl (bytesOf (b.extract x.1 x.2)) = true then none else some (p + (x.2 + 1)) := by
  unfold qA
  have e : D a p = bytesOf b := by rw [hb, cut_bytes]
  rw [e, Fj.quo_eq _ _ (Nat.le_refl _) (by rw [hb]; exact steady_cut hst p)]
  unfold Fj.quoB
  cases Fj.vs (bytesOf b) with
  | none => rfl
  | some x =>
    obtain ⟨m, q⟩ := x
    simp only [extract_bytes]
    by_cases c : Fj.ctl (((bytesOf b).take q).drop m) = true
    · rw [if_pos c, if_pos c]; rfl
    · rw [if_neg c, if_neg c]; rfl
set_option maxHeartbeats 16000000 in
set_option maxRecDepth 100000 in
theorem obj (n : Nat) (hV : VC n) (a : ByteArray) (g : Nat) (w : World) (han : a.size ≤ n) (hs : a.size ≤ 1000000) (hst : Fj.Steady (bytesOf a)) (hg : 2 * a.size + 3 ≤ g) (hG : Glob w) :
    Calls Tryz.prog 145 #[.string a] w fun e w' => Said a (objO a g) e ∧ Below w.heap.size w w' := by
  obtain ⟨g, rfl⟩ : ∃ k, g = k + 1 := ⟨g - 1, by omega⟩
  have HG := Aside0.mk hG
  have HS := Aside0.mk hs
  have HV := Aside0.mk hV
  have HN := Aside0.mk han
  have HST := Aside0.mk hst
  have HF := Aside0.mk hg
  obtain ⟨b0, hb0⟩ : ∃ b, b = cut a (nx a 0) := ⟨_, rfl⟩
  have HB0 := Aside0.mk hb0
  have hx := first_bt a b0 _ hb0
  have HA0 : Aside0 (a = cut a 0) := ⟨(cut_zero a).symm⟩
  have HBL := Aside0.mk (Below.refl w.heap.size w)
  clear hG hV han hst hg
  by_cases h0 : b0.size = 0
  · have HC : Aside0 (objO a (g + 1) = none) := ⟨by
      unfold objO
      rw [if_neg (by rw [cut_out hb0 h0]; decide), mA_succ, if_neg (by rw [cut_out hb0 h0]; decide)]⟩
    have e0 : ((b0.size : Int) == 0) = true := beq_iff_eq.mpr (by omega)
    clear h0 hb0 hx
    go_enter Tryz.func145, Tryz.ntmps145
    go_wp2_with (first
      | (go_at_call_of 68 a; (with_reducible refine (skipTo a _ b0 0 HS.out HA0.out HB0.out _).mono ?_); rintro e w' ⟨rfl, rfl⟩)
      | (go_at_call 72; (with_reducible refine (errNew _ _).mono ?_); rintro e w' ⟨⟨T, u, rfl⟩, hb⟩; have HBE := Aside0.mk (HBL.out.trans (hb.mono HBL.out.size)); clear hb))
    go_ret2
    exact ⟨said_none HC.out _ T u rfl, HBE.out⟩
  · have e0 : ((b0.size : Int) == 0) = false := beq_eq_false_iff_ne.mpr (by omega)
    have hz : 0 < b0.size := by omega
    clear h0
    by_cases c : bt a (nx a 0 : Int) = 125
    · have HC : Aside0 (objO a (g + 1) = some (nx a 0 + 1)) := ⟨by unfold objO; rw [if_pos c]⟩
      have e1 : (bt a (nx a 0 : Int) == 125) = true := beq_iff_eq.mpr c
      have HX : Aside0 (b0.extract 1 b0.size = cut a (nx a 0 + 1)) := ⟨by rw [hb0]; exact cut_cut a _ 1⟩
      clear hb0 c
      go_enter Tryz.func145, Tryz.ntmps145
      go_wp2_with (first
        | (go_at_call_of 68 a; (with_reducible refine (skipTo a _ b0 0 HS.out HA0.out HB0.out _).mono ?_); rintro e w' ⟨rfl, rfl⟩))
      go_ret2
      exact ⟨said_some HC.out HX.out rfl, HBL.out⟩
    · have e1 : (bt a (nx a 0 : Int) == 125) = false := beq_eq_false_iff_ne.mpr c
      have HE : Aside0 (objO a (g + 1) = mA a (g + 1) (nx a 0)) := ⟨by unfold objO; rw [if_neg c, mA_nx]⟩
      have HFU : Aside0 (2 * (a.size - nx a 0) + 3 ≤ g + 1) := ⟨by have := HF.out; omega⟩
      clear hb0 c HF
      go_enter Tryz.func145, Tryz.ntmps145
      go_wp2_with (first
        | (go_at_call_of 68 a; (with_reducible refine (skipTo a _ b0 0 HS.out HA0.out HB0.out _).mono ?_); rintro e w' ⟨rfl, rfl⟩))
      go_loopg [0] (g + 1) (fun k v0 wr => ∃ (b : ByteArray) (p : Nat), v0 = .string b ∧ Aside0 (b = cut a p ∧ objO a (g + 1) = mA a k p ∧ 2 * (a.size - p) + 3 ≤ k) ∧ Aside0 (Below w.heap.size w wr))
      case atStart => exact ⟨b0, nx a 0, rfl, ⟨HB0.out, HE.out, HFU.out⟩, HBL⟩
      case round =>
        clear HE HFU HBL hx hz e1 e0
        obtain ⟨b, p, rfl, HR, HBL⟩ := hrel
        obtain ⟨k, rfl⟩ : ∃ k, gk = k + 1 := ⟨gk - 1, by have := HR.out.2.2; omega⟩
        obtain ⟨q, hq⟩ : ∃ q, nx a p = q := ⟨_, rfl⟩
        have hpq : p ≤ q := by rw [← hq]; exact nx_ge a p
        obtain ⟨c, hc⟩ : ∃ c, c = cut a q := ⟨_, rfl⟩
        have HCQ : Aside0 (c = cut a (nx a p)) := ⟨by rw [hq]; exact hc⟩
        have HE := Aside0.mk (HR.out.2.1.trans (mA_succ a k p))
        rw [hq] at HE
        have hcs : c.size = a.size - q := by rw [hc]; exact cut_size a q
        have HFU : Aside0 (2 * (a.size - q) + 3 ≤ k + 1) := ⟨by have := HR.out.2.2; omega⟩
        have hx := first_bt a c _ hc
        have HGl := Aside0.mk (HG.out.below HBL.out)
        by_cases h0 : c.size = 0
        · have HC : Aside0 (objO a (g + 1) = none) := ⟨by rw [HE.out, if_neg (by rw [cut_out hc h0]; decide)]⟩
          have e0 : ((c.size : Int) == 0) = true := beq_iff_eq.mpr (by omega)
          clear h0 hc hcs hx HE hpq hq
          go_wp2_with (first
            | (go_at_call_of 68 b; (with_reducible refine (skipTo a _ c p HS.out HR.out.1 HCQ.out _).mono ?_); rintro e w' ⟨rfl, rfl⟩)
            | (go_at_call 72; (with_reducible refine (errNew _ _).mono ?_); rintro e w' ⟨⟨T, u, rfl⟩, hb⟩; have HBE := Aside0.mk (HBL.out.trans (hb.mono HBL.out.size)); clear hb))
          go_ret2
          exact ⟨said_none HC.out _ T u rfl, HBE.out⟩
        · have e0 : ((c.size : Int) == 0) = false := beq_eq_false_iff_ne.mpr (by omega)
          have hz : 0 < c.size := by omega
          by_cases c0 : bt a (q : Int) = 34
          rotate_left 1
          · have e1 : (bt a (q : Int) != 34) = true := bne_iff_ne.mpr c0
            have HC : Aside0 (objO a (g + 1) = none) := ⟨by rw [HE.out, if_neg c0]⟩
            clear h0 hc hcs c0 HE hpq hq
            go_wp2_with (first
              | (go_at_call_of 68 b; (with_reducible refine (skipTo a _ c p HS.out HR.out.1 HCQ.out _).mono ?_); rintro e w' ⟨rfl, rfl⟩)
              | (go_at_call 72; (with_reducible refine (errNew _ _).mono ?_); rintro e w' ⟨⟨T, u, rfl⟩, hb⟩; have HBE := Aside0.mk (HBL.out.trans (hb.mono HBL.out.size)); clear hb))
            go_ret2
            exact ⟨said_none HC.out _ T u rfl, HBE.out⟩
          · have e1 : (bt a (q : Int) != 34) = false := bne_eq_false_iff_eq.mpr c0
            obtain ⟨s, hs0⟩ : ∃ s, c.extract 1 c.size = s := ⟨_, rfl⟩
            have hsc : s = cut a (q + 1) := by rw [← hs0, hc]; exact cut_cut a q 1
            have HSC := Aside0.mk hsc
            have HS0 := Aside0.mk hs0
            have HSS : Aside0 (s.size ≤ 1000000) := ⟨by rw [hsc, cut_size]; have := HS.out; omega⟩
            rw [if_pos c0, quo_parts hsc HST.out] at HE
            cases hv : Fj.vs (bytesOf s) with
            | none =>
              rw [hv] at HE
              have HC : Aside0 (objO a (g + 1) = none) := ⟨HE.out⟩
              have HVV := Aside0.mk hv
              clear hv h0 hc hcs c0 HE hpq hq hsc
              go_wp2_with (first
                | (go_at_call_of 68 b; (with_reducible refine (skipTo a _ c p HS.out HR.out.1 HCQ.out _).mono ?_); rintro e w' ⟨rfl, rfl⟩)
                | (go_at_call 168; (with_reducible refine (vkey _ HSS.out _ HGl.out).mono ?_); rintro e w' ⟨h, hb⟩; rw [HVV.out] at h; obtain ⟨x, y, T, u, rfl⟩ := h; have HB1 := Aside0.mk (HBL.out.trans (hb.mono HBL.out.size)); clear hb)
                | (go_at_call 72; (with_reducible refine (errNew _ _).mono ?_); rintro e w' ⟨⟨T, u, rfl⟩, hb⟩; have HBE := Aside0.mk (HB1.out.trans (hb.mono HB1.out.size)); clear hb))
              go_ret2
              exact ⟨said_none HC.out _ T u rfl, HBE.out⟩
            | some x =>
              obtain ⟨m1, q1⟩ := x
              rw [hv] at HE
              have HVV := Aside0.mk hv
              obtain ⟨y, hy⟩ : ∃ y, s.extract m1 q1 = y := ⟨_, rfl⟩
              obtain ⟨d, hd0⟩ : ∃ d, cut s (q1 + 1) = d := ⟨_, rfl⟩
              obtain ⟨r, hr⟩ : ∃ r, q + 1 + (q1 + 1) = r := ⟨_, rfl⟩
              have hqr : q < r := by omega
              have hd : d = cut a r := by rw [← hd0, hsc, ← hr]; exact cut_cut a (q + 1) (q1 + 1)
              have HY := Aside0.mk hy
              have HDD := Aside0.mk hd0
              have HD0 := Aside0.mk hd
              simp only [hy, hr] at HE
              have hys : y.size ≤ 1000000 := by
                have := extract_size_le s m1 q1
                rw [hy] at this
                have := HSS.out
                omega
              have HFN : Aside0 (2 * (a.size - r) + 3 ≤ k) := ⟨by have := HFU.out; omega⟩
              clear hv h0 hcs c0 hpq hq hsc hy hd0 hr hc hqr
              cases hk : Fj.ctl (bytesOf y) with
              | true =>
                rw [if_pos hk] at HE
                have HC : Aside0 (objO a (g + 1) = none) := ⟨HE.out⟩
                have HK := Aside0.mk hk
                clear hk HE hd
                go_wp2_with (first
                  | (go_at_call_of 68 b; (with_reducible refine (skipTo a _ c p HS.out HR.out.1 HCQ.out _).mono ?_); rintro e w' ⟨rfl, rfl⟩)
                  | (go_at_call 168; (with_reducible refine (vkey _ HSS.out _ HGl.out).mono ?_); rintro e w' ⟨h, hb⟩; rw [HVV.out] at h; unfold SaidS at h; simp only [] at h; rw [HY.out, HDD.out] at h; subst h; have HB1 := Aside0.mk (HBL.out.trans (hb.mono HBL.out.size)); clear hb))
                go_loop [44] (fun v => ∃ i : Nat, v = .int .i64 (i : Int) ∧ i ≤ y.size ∧ Aside0 (∀ j : Nat, j < i → ¬ bt y (j : Int) < 32)) (fun v => y.size - (intOf v).toNat)
                case atStart => exact ⟨0, rfl, Nat.zero_le _, ⟨fun j hj => absurd hj (Nat.not_lt_zero _)⟩⟩
                case round =>
                  clear hx hz e0 e1
                  obtain ⟨i, rfl, hi, HI⟩ := hrel
                  by_cases hlt : i < y.size
                  · have hx : ∀ h : i < y.size, ((y[i]'h).toNat : Int) = bt y (i : Int) := bt_at y (i : Int)
                    by_cases c1 : bt y (i : Int) < 32
                    · have e2 : decide (bt y (i : Int) < 32) = true := decide_eq_true c1
                      clear c1
                      go_wp2_with (first
                        | (go_at_call 72; (with_reducible refine (errNew _ _).mono ?_); rintro e w' ⟨⟨T, u, rfl⟩, hb⟩; have HBE := Aside0.mk (HB1.out.trans (hb.mono HB1.out.size)); clear hb))
                      go_ret2
                      exact ⟨said_none HC.out _ T u rfl, HBE.out⟩
                    · have e2 : decide (bt y (i : Int) < 32) = false := decide_eq_false c1
                      have HI' : Aside0 (∀ j : Nat, j < i + 1 → ¬ bt y (j : Int) < 32) := ⟨fun j hj => by
                        by_cases e : j = i
                        · rw [e]; exact c1
                        · exact HI.out j (by omega)⟩
                      clear c1 HI
                      go_wp2
                      go_round
                      case rel => exact ⟨i + 1, by go_num, by omega, HI'⟩
                      case measure => simp [intOf]; omega
                  · exfalso
                    obtain ⟨j, hj, hjl⟩ := ctl_in HK.out
                    exact HI.out j (by omega) hjl
              | false =>
                rw [if_neg (by rw [hk]; decide)] at HE
                have HK := Aside0.mk hk
                obtain ⟨m, hm⟩ : ∃ m, nx a r = m := ⟨_, rfl⟩
                have hrm : r ≤ m := by rw [← hm]; exact nx_ge a r
                obtain ⟨f, hf⟩ : ∃ f, f = cut a m := ⟨_, rfl⟩
                have HFM : Aside0 (f = cut a (nx a r)) := ⟨by rw [hm]; exact hf⟩
                simp only [hm] at HE
                have HFN2 : Aside0 (2 * (a.size - m) + 3 ≤ k) := ⟨by have := HFN.out; omega⟩
                have hxf := first_bt a f _ hf
                have HF0 := Aside0.mk hf
                clear hk hd hm hf hrm HFN
                go_upto_block 2 with (first
                  | (go_at_call_of 68 b; (with_reducible refine (skipTo a _ c p HS.out HR.out.1 HCQ.out _).mono ?_); rintro e w' ⟨rfl, rfl⟩)
                  | (go_at_call 168; (with_reducible refine (vkey _ HSS.out _ HGl.out).mono ?_); rintro e w' ⟨h, hb⟩; rw [HVV.out] at h; unfold SaidS at h; simp only [] at h; rw [HY.out, HDD.out] at h; subst h; have HB1 := Aside0.mk (HBL.out.trans (hb.mono HBL.out.size)); clear hb))
                go_cut [44] (fun v44 wc => w' = wc)
                case first =>
                  go_wp2_with (fail)
                  go_loop [44] (fun v => ∃ i : Nat, v = .int .i64 (i : Int) ∧ i ≤ y.size) (fun v => y.size - (intOf v).toNat)
                  case atStart => exact ⟨0, rfl, Nat.zero_le _⟩
                  case round =>
                    clear hx hz e0 e1 hxf
                    obtain ⟨i, rfl, hi⟩ := hrel
                    by_cases hlt : i < y.size
                    · have hx : ∀ h : i < y.size, ((y[i]'h).toNat : Int) = bt y (i : Int) := bt_at y (i : Int)
                      have e2 : decide (bt y (i : Int) < 32) = false := decide_eq_false (ctl_out HK.out i hlt)
                      go_wp2
                      go_round
                      case rel => exact ⟨i + 1, by go_num, by omega⟩
                      case measure => simp [intOf]; omega
                    · obtain rfl : i = y.size := by omega
                      clear hlt
                      go_wp2
                      go_meet
                      case rel => rfl
                case rest =>
                  obtain rfl := hcut
                  clear hx hz e0 e1
                  by_cases z0 : f.size = 0
                  · have HC : Aside0 (objO a (g + 1) = none) := ⟨by rw [HE.out, if_neg (by rw [cut_out HF0.out z0]; decide)]⟩
                    have e0 : ((f.size : Int) == 0) = true := beq_iff_eq.mpr (by omega)
                    clear z0 hxf HE
                    go_wp2_with (first
                      | (go_at_call_of 68 d; (with_reducible refine (skipTo a _ f r HS.out HD0.out HFM.out _).mono ?_); rintro e w' ⟨rfl, rfl⟩)
                      | (go_at_call 72; (with_reducible refine (errNew _ _).mono ?_); rintro e w' ⟨⟨T, u, rfl⟩, hb⟩; have HBE := Aside0.mk (HB1.out.trans (hb.mono HB1.out.size)); clear hb))
                    go_ret2
                    exact ⟨said_none HC.out _ T u rfl, HBE.out⟩
                  · have e0 : ((f.size : Int) == 0) = false := beq_eq_false_iff_ne.mpr (by omega)
                    have hz : 0 < f.size := by omega
                    by_cases c1 : bt a (m : Int) = 58
                    rotate_left 1
                    · have e1 : (bt a (m : Int) != 58) = true := bne_iff_ne.mpr c1
                      have HC : Aside0 (objO a (g + 1) = none) := ⟨by rw [HE.out, if_neg c1]⟩
                      clear z0 c1 HE
                      go_wp2_with (first
                        | (go_at_call_of 68 d; (with_reducible refine (skipTo a _ f r HS.out HD0.out HFM.out _).mono ?_); rintro e w' ⟨rfl, rfl⟩)
                        | (go_at_call 72; (with_reducible refine (errNew _ _).mono ?_); rintro e w' ⟨⟨T, u, rfl⟩, hb⟩; have HBE := Aside0.mk (HB1.out.trans (hb.mono HB1.out.size)); clear hb))
                      go_ret2
                      exact ⟨said_none HC.out _ T u rfl, HBE.out⟩
                    · have e1 : (bt a (m : Int) != 58) = false := bne_eq_false_iff_eq.mpr c1
                      rw [if_pos c1] at HE
                      obtain ⟨t, ht⟩ : ∃ t, f.extract 1 f.size = t := ⟨_, rfl⟩
                      have HT : Aside0 (t = cut a (m + 1)) := ⟨by rw [← ht, HF0.out]; exact cut_cut a m 1⟩
                      obtain ⟨u, hu⟩ : ∃ u, nx a (m + 1) = u := ⟨_, rfl⟩
                      have hmu : m + 1 ≤ u := by rw [← hu]; exact nx_ge a (m + 1)
                      obtain ⟨x, hx0⟩ : ∃ x, x = cut a u := ⟨_, rfl⟩
                      have HXU : Aside0 (x = cut a (nx a (m + 1))) := ⟨by rw [hu]; exact hx0⟩
                      simp only [hu] at HE
                      have hxs : x.size = a.size - u := by rw [hx0]; exact cut_size a u
                      have HXC : Aside0 (x.size ≤ n ∧ x.size ≤ 1000000 ∧ Fj.Steady (bytesOf x) ∧ 2 * x.size + 2 ≤ k) := ⟨by have := HN.out; omega, by have := HS.out; omega, by rw [hx0]; exact steady_cut HST.out u, by have := HFN2.out; omega⟩
                      have HVC : Aside0 (∀ W, Glob W → Calls Tryz.prog 95 #[.string x] W fun e w' => Said x (Fj.val k (bytesOf x)) e ∧ Below W.heap.size W w') := ⟨fun W hW => HV.out x k W HXC.out.1 HXC.out.2.1 HXC.out.2.2.1 HXC.out.2.2.2 hW⟩
                      have HGl1 := Aside0.mk (HG.out.below HB1.out)
                      have HQK : Aside0 (2 * (a.size - u) + 3 ≤ k + 1 ∧ (x.size = 0 → vA a k u = none) ∧ x.size = a.size - u) := ⟨by have := HFN2.out; omega, fun h => vA_out hx0 h k, hxs⟩
                      clear z0 c1
                      cases hv : vA a k u with
                      | none =>
                        rw [hv] at HE
                        have HC : Aside0 (objO a (g + 1) = none) := ⟨HE.out⟩
                        have HVX : Aside0 (Fj.val k (bytesOf x) = none) := ⟨by
                          unfold vA at hv
                          rw [hx0, cut_bytes]
                          cases h : Fj.val k (D a u) with
                          | none => rfl
                          | some v => rw [h] at hv; cases hv⟩
                        clear hv hx0 hxs hmu hu HE
                        go_wp2_with (first
                          | (go_at_call_of 68 d; (with_reducible refine (skipTo a _ f r HS.out HD0.out HFM.out _).mono ?_); rintro e w' ⟨rfl, rfl⟩)
                          | (go_at_call_of 68 t; (with_reducible refine (skipTo a _ x (m + 1) HS.out HT.out HXU.out _).mono ?_); rintro e w' ⟨rfl, rfl⟩)
                          | (go_at_call 95; (with_reducible refine (HVC.out _ HGl1.out).mono ?_); rintro e w' ⟨h, hb⟩; rw [HVX.out] at h; obtain ⟨x, T, u, rfl⟩ := h; have HB2 := Aside0.mk (HB1.out.trans (hb.mono HB1.out.size)); clear hb)
                          | (go_at_call 72; (with_reducible refine (errNew _ _).mono ?_); rintro e w' ⟨⟨T, u, rfl⟩, hb⟩; have HBE := Aside0.mk (HB2.out.trans (hb.mono HB2.out.size)); clear hb))
                        go_ret2
                        exact ⟨said_none HC.out _ T u rfl, HBE.out⟩
                      | some v =>
                        rw [hv] at HE
                        have hqr : u < v ∧ Fj.val k (bytesOf x) = some (v - u) := by
                          unfold vA at hv
                          rw [hx0, cut_bytes]
                          cases h : Fj.val k (D a u) with
                          | none => rw [h] at hv; cases hv
                          | some v =>
                            rw [h] at hv
                            have := val_pos h
                            simp only [Option.map_some, Option.some.injEq] at hv
                            exact ⟨by omega, by congr 1; omega⟩
                        have HVX := Aside0.mk hqr.2
                        obtain ⟨l, hl⟩ : ∃ l, l = cut a v := ⟨_, rfl⟩
                        have HLV : Aside0 (cut x (v - u) = l) := ⟨by rw [hx0, hl]; exact (cut_cut a u (v - u)).trans (by congr 1; omega)⟩
                        have HL0 := Aside0.mk hl
                        obtain ⟨z, hz1⟩ : ∃ z, nx a v = z := ⟨_, rfl⟩
                        have hvz : v ≤ z := by rw [← hz1]; exact nx_ge a v
                        obtain ⟨o, ho⟩ : ∃ o, o = cut a z := ⟨_, rfl⟩
                        have HOZ : Aside0 (o = cut a (nx a v)) := ⟨by rw [hz1]; exact ho⟩
                        simp only [hz1] at HE
                        have hxo := first_bt a o _ ho
                        have HX : Aside0 (o.extract 1 o.size = cut a (z + 1)) := ⟨by rw [ho]; exact cut_cut a z 1⟩
                        have HO0 := Aside0.mk ho
                        have HNE : Aside0 (2 * (a.size - (z + 1)) + 3 ≤ k) := ⟨by
                          have := HQK.out
                          have hc0 : x.size ≠ 0 := fun h => by rw [this.2.1 h] at hv; cases hv
                          omega⟩
                        clear hv hx0 hxs hmu hu hl hz1 hvz ho hqr
                        by_cases z2 : o.size = 0
                        · have HC : Aside0 (objO a (g + 1) = none) := ⟨by rw [HE.out, cut_out HO0.out z2]; rfl⟩
                          have e2 : ((o.size : Int) == 0) = true := beq_iff_eq.mpr (by omega)
                          clear z2 hxo HE
                          go_wp2_with (first
                            | (go_at_call_of 68 d; (with_reducible refine (skipTo a _ f r HS.out HD0.out HFM.out _).mono ?_); rintro e w' ⟨rfl, rfl⟩)
                            | (go_at_call_of 68 t; (with_reducible refine (skipTo a _ x (m + 1) HS.out HT.out HXU.out _).mono ?_); rintro e w' ⟨rfl, rfl⟩)
                            | (go_at_call_of 68 l; (with_reducible refine (skipTo a _ o v HS.out HL0.out HOZ.out _).mono ?_); rintro e w' ⟨rfl, rfl⟩)
                            | (go_at_call 95; (with_reducible refine (HVC.out _ HGl1.out).mono ?_); rintro e w' ⟨h, hb⟩; rw [HVX.out] at h; unfold Said at h; simp only [] at h; rw [HLV.out] at h; subst h; have HB2 := Aside0.mk (HB1.out.trans (hb.mono HB1.out.size)); clear hb)
                            | (go_at_call 72; (with_reducible refine (errNew _ _).mono ?_); rintro e w' ⟨⟨T, u, rfl⟩, hb⟩; have HBE := Aside0.mk (HB2.out.trans (hb.mono HB2.out.size)); clear hb))
                          go_ret2
                          exact ⟨said_none HC.out _ T u rfl, HBE.out⟩
                        · have e2 : ((o.size : Int) == 0) = false := beq_eq_false_iff_ne.mpr (by omega)
                          have hzo : 0 < o.size := by omega
                          clear z2
                          by_cases c2 : bt a (z : Int) = 44
                          · have e3 : (bt a (z : Int) == 44) = true := beq_iff_eq.mpr c2
                            rw [if_pos c2] at HE
                            clear c2
                            go_wp2_with (first
                              | (go_at_call_of 68 d; (with_reducible refine (skipTo a _ f r HS.out HD0.out HFM.out _).mono ?_); rintro e w' ⟨rfl, rfl⟩)
                              | (go_at_call_of 68 t; (with_reducible refine (skipTo a _ x (m + 1) HS.out HT.out HXU.out _).mono ?_); rintro e w' ⟨rfl, rfl⟩)
                              | (go_at_call_of 68 l; (with_reducible refine (skipTo a _ o v HS.out HL0.out HOZ.out _).mono ?_); rintro e w' ⟨rfl, rfl⟩)
                              | (go_at_call 95; (with_reducible refine (HVC.out _ HGl1.out).mono ?_); rintro e w' ⟨h, hb⟩; rw [HVX.out] at h; unfold Said at h; simp only [] at h; rw [HLV.out] at h; subst h; have HB2 := Aside0.mk (HB1.out.trans (hb.mono HB1.out.size)); clear hb))
                            go_roundg k
                            case measure => omega
                            case rel => exact ⟨_, z + 1, rfl, ⟨HX.out, HE.out, HNE.out⟩, HB2⟩
                          · have e3 : (bt a (z : Int) == 44) = false := beq_eq_false_iff_ne.mpr c2
                            rw [if_neg c2] at HE
                            by_cases c3 : bt a (z : Int) = 125
                            · have e4 : (bt a (z : Int) == 125) = true := beq_iff_eq.mpr c3
                              have HC : Aside0 (objO a (g + 1) = some (z + 1)) := ⟨by rw [HE.out, if_pos c3]⟩
                              clear c2 c3 HE
                              go_wp2_with (first
                                | (go_at_call_of 68 d; (with_reducible refine (skipTo a _ f r HS.out HD0.out HFM.out _).mono ?_); rintro e w' ⟨rfl, rfl⟩)
                                | (go_at_call_of 68 t; (with_reducible refine (skipTo a _ x (m + 1) HS.out HT.out HXU.out _).mono ?_); rintro e w' ⟨rfl, rfl⟩)
                                | (go_at_call_of 68 l; (with_reducible refine (skipTo a _ o v HS.out HL0.out HOZ.out _).mono ?_); rintro e w' ⟨rfl, rfl⟩)
                                | (go_at_call 95; (with_reducible refine (HVC.out _ HGl1.out).mono ?_); rintro e w' ⟨h, hb⟩; rw [HVX.out] at h; unfold Said at h; simp only [] at h; rw [HLV.out] at h; subst h; have HB2 := Aside0.mk (HB1.out.trans (hb.mono HB1.out.size)); clear hb))
                              go_ret2
                              exact ⟨said_some HC.out HX.out rfl, HB2.out⟩
                            · have e4 : (bt a (z : Int) == 125) = false := beq_eq_false_iff_ne.mpr c3
                              have HC : Aside0 (objO a (g + 1) = none) := ⟨by rw [HE.out, if_neg c3]⟩
                              clear c2 c3 HE
                              go_wp2_with (first
                                | (go_at_call_of 68 d; (with_reducible refine (skipTo a _ f r HS.out HD0.out HFM.out _).mono ?_); rintro e w' ⟨rfl, rfl⟩)
                                | (go_at_call_of 68 t; (with_reducible refine (skipTo a _ x (m + 1) HS.out HT.out HXU.out _).mono ?_); rintro e w' ⟨rfl, rfl⟩)
                                | (go_at_call_of 68 l; (with_reducible refine (skipTo a _ o v HS.out HL0.out HOZ.out _).mono ?_); rintro e w' ⟨rfl, rfl⟩)
                                | (go_at_call 95; (with_reducible refine (HVC.out _ HGl1.out).mono ?_); rintro e w' ⟨h, hb⟩; rw [HVX.out] at h; unfold Said at h; simp only [] at h; rw [HLV.out] at h; subst h; have HB2 := Aside0.mk (HB1.out.trans (hb.mono HB1.out.size)); clear hb)
                                | (go_at_call 72; (with_reducible refine (errNew _ _).mono ?_); rintro e w' ⟨⟨T, u, rfl⟩, hb⟩; have HBE := Aside0.mk (HB2.out.trans (hb.mono HB2.out.size)); clear hb))
                              go_ret2
                              exact ⟨said_none HC.out _ T u rfl, HBE.out⟩
end Go.Proofs.YtlhaefblchpjhaaGreatDoor.FjW
end
section
namespace Go.Proofs.YtlhaefblchpjhaaGreatDoor.FjW
open Go.RowKit Go.Proofs.YtlhaefblchpjhaaGreatDoorW.PrintWords Go.Proofs.YtlhaefblchpjhaaGreatDoorW.PrintLast Go.Proofs.YtlhaefblchpjhaaGreatDoorW.PrintMore
attribute [local go_sem] max2_int min2_int max_two min_two max_three min_three max_four min_four
set_option linter.unusedVariables false
set_option linter.unusedSimpArgs false
theorem bytes_D0 (a : ByteArray) : bytesOf a = D a 0 := List.drop_zero.symm
theorem val_obj1 {a b : ByteArray} (g : Nat) (hb : b = cut a 1) (h0 : 0 < a.size) (c : bt a 0 = 123) : Fj.val (g + 1) (bytesOf a) = (objO b g).map (1 + ·) := by
  have hne : bytesOf a ≠ [] := fun h => by have := bytesOf_length a; rw [h] at this; simp at this; omega
  have hr : rd (bytesOf a) 0 = 123 := by rw [rd_bytesOf]; exact c
  have hd : (bytesOf a).drop 1 = bytesOf b := by rw [hb, cut_bytes]
  rw [Fj.val, if_neg hne, if_pos hr, hd]
  unfold objO mA nx
  rw [← bytes_D0 b, Nat.zero_add, ← rd_bytesOf]
  by_cases k : rd (bytesOf b) (Fj.ws (bytesOf b) : Int) = 125
  · rw [if_pos k, if_pos k]; simp only [Option.map_some]; congr 1; omega
  · rw [if_neg k, if_neg k]
    cases Fj.mems g (bytesOf b) with
    | none => rfl
    | some e => simp only [Option.map_some]; congr 1; omega
theorem val_arr1 {a b : ByteArray} (g : Nat) (hb : b = cut a 1) (h0 : 0 < a.size) (c : bt a 0 = 91) : Fj.val (g + 1) (bytesOf a) = (arrO b g).map (1 + ·) := by
  have hne : bytesOf a ≠ [] := fun h => by have := bytesOf_length a; rw [h] at this; simp at this; omega
  have hr : rd (bytesOf a) 0 = 91 := by rw [rd_bytesOf]; exact c
  have hd : (bytesOf a).drop 1 = bytesOf b := by rw [hb, cut_bytes]
  rw [Fj.val, if_neg hne, if_neg (by omega), if_pos hr, hd]
  unfold arrO eA nx
  rw [← bytes_D0 b, Nat.zero_add, ← rd_bytesOf]
  by_cases k : rd (bytesOf b) (Fj.ws (bytesOf b) : Int) = 93
  · rw [if_pos k, if_pos k]; simp only [Option.map_some]; congr 1; omega
  · rw [if_neg k, if_neg k]
    cases Fj.elems g (bytesOf b) with
    | none => rfl
    | some e => simp only [Option.map_some]; congr 1; omega
theorem val_str1 {a : ByteArray} (g : Nat) (h0 : 0 < a.size) (c : bt a 0 = 34) : Fj.val (g + 1) (bytesOf a) = qA a 1 := by
  have hne : bytesOf a ≠ [] := fun h => by have := bytesOf_length a; rw [h] at this; simp at this; omega
  have hr : rd (bytesOf a) 0 = 34 := by rw [rd_bytesOf]; exact c
  rw [Fj.val, if_neg hne, if_neg (by omega), if_neg (by omega), if_pos hr]
  unfold qA
  cases Fj.quo (D a 1) with
  | none => rfl
  | some e => simp only [Option.map_some]; congr 1; omega
theorem val_word1 {a : ByteArray} (g : Nat) (h0 : 0 < a.size) (c : Int) (hc : bt a 0 = c) (W : List Int) (h : (c = 116 ∧ W = [116, 114, 117, 101]) ∨ (c = 102 ∧ W = [102, 97, 108, 115, 101]) ∨ (c = 110 ∧ W = [110, 117, 108, 108])) :
    Fj.val (g + 1) (bytesOf a) = if Fj.begins W (bytesOf a) = true then some W.length else none := by
  have hne : bytesOf a ≠ [] := fun h => by have := bytesOf_length a; rw [h] at this; simp at this; omega
  have hr : rd (bytesOf a) 0 = c := by rw [rd_bytesOf]; exact hc
  rcases h with ⟨rfl, rfl⟩ | ⟨rfl, rfl⟩ | ⟨rfl, rfl⟩
  · rw [Fj.val, if_neg hne, if_neg (by omega), if_neg (by omega), if_neg (by omega), if_pos hr]; rfl
  · rw [Fj.val, if_neg hne, if_neg (by omega), if_neg (by omega), if_neg (by omega), if_neg (by omega), if_pos hr]; rfl
  · rw [Fj.val, if_neg hne, if_neg (by omega), if_neg (by omega), if_neg (by omega), if_neg (by omega), if_neg (by omega), if_pos hr]; rfl
theorem val_num1 {a : ByteArray} (g : Nat) (h0 : 0 < a.size) (c1 : bt a 0 ≠ 123) (c2 : bt a 0 ≠ 91) (c3 : bt a 0 ≠ 34) (c4 : bt a 0 ≠ 116) (c5 : bt a 0 ≠ 102) (c6 : bt a 0 ≠ 110) : Fj.val (g + 1) (bytesOf a) = Fj.num (bytesOf a) := by
  have hne : bytesOf a ≠ [] := fun h => by have := bytesOf_length a; rw [h] at this; simp at this; omega
  have hr : rd (bytesOf a) 0 = bt a 0 := rd_bytesOf a 0
  rw [Fj.val, if_neg hne, hr, if_neg c1, if_neg c2, if_neg c3, if_neg c4, if_neg c5, if_neg c6]
theorem begins_eq (a : ByteArray) (U : List UInt8) (n : Nat) (hn : U.length = n) : ((a.extract 0 n).toList == U) = Fj.begins (U.map fun b => (b.toNat : Int)) (bytesOf a) := by
  rw [Bool.eq_iff_iff, beq_iff_eq, Base.toList_bytes, extract_bytes, List.drop_zero]
  unfold Fj.begins
  rw [beq_iff_eq, List.length_map, hn]
theorem begins_short {l W : List Int} (h : l.length < W.length) : Fj.begins W l = false := by
  unfold Fj.begins
  rw [beq_eq_false_iff_ne]
  intro e
  have := congrArg List.length e
  rw [List.length_take] at this
  omega
set_option maxHeartbeats 16000000 in
set_option maxRecDepth 100000 in
theorem valTrue (a : ByteArray) (g : Nat) (w : World) (hs : a.size ≤ 1000000) (h0 : 0 < a.size) (c : bt a 0 = 116) :
    Calls Tryz.prog 95 #[.string a] w fun e w' => Said a (Fj.val (g + 1) (bytesOf a)) e ∧ Below w.heap.size w w' := by
  have hx : ∀ h : 0 < a.size, ((a[0]'h).toNat : Int) = bt a 0 := bt_at a 0
  rw [c] at hx
  have e0 : ((a.size : Int) == 0) = false := beq_eq_false_iff_ne.mpr (by omega)
  have HV := Aside0.mk (val_word1 g h0 116 c [116, 114, 117, 101] (.inl ⟨rfl, rfl⟩))
  have hb := begins_eq a [116, 114, 117, 101] 4 rfl
  by_cases h4 : a.size < 4
  · have HC : Aside0 (Fj.val (g + 1) (bytesOf a) = none) := ⟨by rw [HV.out, begins_short (by rw [bytesOf_length]; exact h4)]; rfl⟩
    clear hb
    go_enter Tryz.func95, Tryz.ntmps95
    go_wp2_with (go_at_call 72; (with_reducible refine (errNew _ _).mono ?_); rintro e w' ⟨⟨T, u, rfl⟩, hb⟩)
    go_ret2
    exact ⟨said_none HC.out _ T u rfl, hb⟩
  · have h4' : 4 ≤ a.size := by omega
    clear h4 c
    cases hB : Fj.begins [116, 114, 117, 101] (bytesOf a) with
    | true =>
      have HC : Aside0 (Fj.val (g + 1) (bytesOf a) = some 4) := ⟨by rw [HV.out, if_pos hB]; rfl⟩
      have e1 : ((a.extract 0 4).toList == [116, 114, 117, 101]) = true := hb.trans hB
      clear hB hb
      go_enter Tryz.func95, Tryz.ntmps95
      go_wp2
      go_ret2
      exact ⟨said_some HC.out rfl rfl, Below.refl _ _⟩
    | false =>
      have HC : Aside0 (Fj.val (g + 1) (bytesOf a) = none) := ⟨by rw [HV.out, if_neg (by rw [hB]; decide)]⟩
      have e1 : ((a.extract 0 4).toList == [116, 114, 117, 101]) = false := hb.trans hB
      clear hB hb
      go_enter Tryz.func95, Tryz.ntmps95
      go_wp2_with (go_at_call 72; (with_reducible refine (errNew _ _).mono ?_); rintro e w' ⟨⟨T, u, rfl⟩, hb⟩)
      go_ret2
      exact ⟨said_none HC.out _ T u rfl, hb⟩
set_option maxHeartbeats 16000000 in
set_option maxRecDepth 100000 in
theorem valFalse (a : ByteArray) (g : Nat) (w : World) (hs : a.size ≤ 1000000) (h0 : 0 < a.size) (c : bt a 0 = 102) :
    Calls Tryz.prog 95 #[.string a] w fun e w' => Said a (Fj.val (g + 1) (bytesOf a)) e ∧ Below w.heap.size w w' := by
  have hx : ∀ h : 0 < a.size, ((a[0]'h).toNat : Int) = bt a 0 := bt_at a 0
  rw [c] at hx
  have e0 : ((a.size : Int) == 0) = false := beq_eq_false_iff_ne.mpr (by omega)
  have HV := Aside0.mk (val_word1 g h0 102 c [102, 97, 108, 115, 101] (.inr (.inl ⟨rfl, rfl⟩)))
  have hb := begins_eq a [102, 97, 108, 115, 101] 5 rfl
  by_cases h4 : a.size < 5
  · have HC : Aside0 (Fj.val (g + 1) (bytesOf a) = none) := ⟨by rw [HV.out, begins_short (by rw [bytesOf_length]; exact h4)]; rfl⟩
    clear hb
    go_enter Tryz.func95, Tryz.ntmps95
    go_wp2_with (go_at_call 72; (with_reducible refine (errNew _ _).mono ?_); rintro e w' ⟨⟨T, u, rfl⟩, hb⟩)
    go_ret2
    exact ⟨said_none HC.out _ T u rfl, hb⟩
  · have h4' : 5 ≤ a.size := by omega
    clear h4 c
    cases hB : Fj.begins [102, 97, 108, 115, 101] (bytesOf a) with
    | true =>
      have HC : Aside0 (Fj.val (g + 1) (bytesOf a) = some 5) := ⟨by rw [HV.out, if_pos hB]; rfl⟩
      have e1 : ((a.extract 0 5).toList == [102, 97, 108, 115, 101]) = true := hb.trans hB
      clear hB hb
      go_enter Tryz.func95, Tryz.ntmps95
      go_wp2
      go_ret2
      exact ⟨said_some HC.out rfl rfl, Below.refl _ _⟩
    | false =>
      have HC : Aside0 (Fj.val (g + 1) (bytesOf a) = none) := ⟨by rw [HV.out, if_neg (by rw [hB]; decide)]⟩
      have e1 : ((a.extract 0 5).toList == [102, 97, 108, 115, 101]) = false := hb.trans hB
      clear hB hb
      go_enter Tryz.func95, Tryz.ntmps95
      go_wp2_with (go_at_call 72; (with_reducible refine (errNew _ _).mono ?_); rintro e w' ⟨⟨T, u, rfl⟩, hb⟩)
      go_ret2
      exact ⟨said_none HC.out _ T u rfl, hb⟩
set_option maxHeartbeats 16000000 in
set_option maxRecDepth 100000 in
theorem valNull (a : ByteArray) (g : Nat) (w : World) (hs : a.size ≤ 1000000) (h0 : 0 < a.size) (c : bt a 0 = 110) :
    Calls Tryz.prog 95 #[.string a] w fun e w' => Said a (Fj.val (g + 1) (bytesOf a)) e ∧ Below w.heap.size w w' := by
  have hx : ∀ h : 0 < a.size, ((a[0]'h).toNat : Int) = bt a 0 := bt_at a 0
  rw [c] at hx
  have e0 : ((a.size : Int) == 0) = false := beq_eq_false_iff_ne.mpr (by omega)
  have HV := Aside0.mk (val_word1 g h0 110 c [110, 117, 108, 108] (.inr (.inr ⟨rfl, rfl⟩)))
  have hb := begins_eq a [110, 117, 108, 108] 4 rfl
  by_cases h4 : a.size < 4
  · have HC : Aside0 (Fj.val (g + 1) (bytesOf a) = none) := ⟨by rw [HV.out, begins_short (by rw [bytesOf_length]; exact h4)]; rfl⟩
    clear hb
    go_enter Tryz.func95, Tryz.ntmps95
    go_wp2_with (go_at_call 72; (with_reducible refine (errNew _ _).mono ?_); rintro e w' ⟨⟨T, u, rfl⟩, hb⟩)
    go_ret2
    exact ⟨said_none HC.out _ T u rfl, hb⟩
  · have h4' : 4 ≤ a.size := by omega
    clear h4 c
    cases hB : Fj.begins [110, 117, 108, 108] (bytesOf a) with
    | true =>
      have HC : Aside0 (Fj.val (g + 1) (bytesOf a) = some 4) := ⟨by rw [HV.out, if_pos hB]; rfl⟩
      have e1 : ((a.extract 0 4).toList == [110, 117, 108, 108]) = true := hb.trans hB
      clear hB hb
      go_enter Tryz.func95, Tryz.ntmps95
      go_wp2
      go_ret2
      exact ⟨said_some HC.out rfl rfl, Below.refl _ _⟩
    | false =>
      have HC : Aside0 (Fj.val (g + 1) (bytesOf a) = none) := ⟨by rw [HV.out, if_neg (by rw [hB]; decide)]⟩
      have e1 : ((a.extract 0 4).toList == [110, 117, 108, 108]) = false := hb.trans hB
      clear hB hb
      go_enter Tryz.func95, Tryz.ntmps95
      go_wp2_with (go_at_call 72; (with_reducible refine (errNew _ _).mono ?_); rintro e w' ⟨⟨T, u, rfl⟩, hb⟩)
      go_ret2
      exact ⟨said_none HC.out _ T u rfl, hb⟩
set_option maxHeartbeats 16000000 in
set_option maxRecDepth 100000 in
theorem valNum (a : ByteArray) (g : Nat) (w : World) (hs : a.size ≤ 1000000) (h0 : 0 < a.size) (c1 : bt a 0 ≠ 123) (c2 : bt a 0 ≠ 91) (c3 : bt a 0 ≠ 34) (c4 : bt a 0 ≠ 116) (c5 : bt a 0 ≠ 102) (c6 : bt a 0 ≠ 110) :
    Calls Tryz.prog 95 #[.string a] w fun e w' => Said a (Fj.val (g + 1) (bytesOf a)) e ∧ Below w.heap.size w w' := by
  have hx : ∀ h : 0 < a.size, ((a[0]'h).toNat : Int) = bt a 0 := bt_at a 0
  have e0 : ((a.size : Int) == 0) = false := beq_eq_false_iff_ne.mpr (by omega)
  have HV := Aside0.mk (val_num1 g h0 c1 c2 c3 c4 c5 c6)
  have d1 : (bt a 0 == 123) = false := beq_eq_false_iff_ne.mpr c1
  have d2 : (bt a 0 == 91) = false := beq_eq_false_iff_ne.mpr c2
  have d3 : (bt a 0 == 34) = false := beq_eq_false_iff_ne.mpr c3
  have d4 : (bt a 0 == 116) = false := beq_eq_false_iff_ne.mpr c4
  have d5 : (bt a 0 == 102) = false := beq_eq_false_iff_ne.mpr c5
  have d6 : (bt a 0 == 110) = false := beq_eq_false_iff_ne.mpr c6
  have HS := Aside0.mk hs
  clear c1 c2 c3 c4 c5 c6
  cases hn : Fj.num (bytesOf a) with
  | none =>
    have HN := Aside0.mk hn
    clear hn
    go_enter Tryz.func95, Tryz.ntmps95
    go_wp2_with (first
      | (go_at_call 148; (with_reducible refine (number _ HS.out _).mono ?_); rintro e w' ⟨h, hb⟩; rw [HN.out] at h; obtain ⟨x, T, u, rfl⟩ := h; have HB1 := Aside0.mk hb; clear hb)
      | (go_at_call 72; (with_reducible refine (errNew _ _).mono ?_); rintro e w' ⟨⟨T, u, rfl⟩, hb⟩; have HB2 := Aside0.mk (HB1.out.trans (hb.mono HB1.out.size)); clear hb))
    go_ret2
    exact ⟨said_none (HV.out.trans HN.out) _ T u rfl, HB2.out⟩
  | some m =>
    have HN := Aside0.mk hn
    clear hn
    go_enter Tryz.func95, Tryz.ntmps95
    go_wp2_with (first
      | (go_at_call 148; (with_reducible refine (number _ HS.out _).mono ?_); rintro e w' ⟨h, hb⟩; rw [HN.out] at h; unfold Said at h; simp only [] at h; subst h; have HB1 := Aside0.mk hb; clear hb))
    go_ret2
    exact ⟨said_some (HV.out.trans HN.out) rfl rfl, HB1.out⟩
set_option maxHeartbeats 16000000 in
set_option maxRecDepth 100000 in
theorem valObj (n : Nat) (hV : VC n) (a : ByteArray) (g : Nat) (w : World) (han : a.size ≤ n + 1) (hs : a.size ≤ 1000000) (hst : Fj.Steady (bytesOf a)) (hg : 2 * a.size + 2 ≤ g + 1) (hG : Glob w) (h0 : 0 < a.size) (c : bt a 0 = 123) :
    Calls Tryz.prog 95 #[.string a] w fun e w' => Said a (Fj.val (g + 1) (bytesOf a)) e ∧ Below w.heap.size w w' := by
  have hx : ∀ h : 0 < a.size, ((a[0]'h).toNat : Int) = bt a 0 := bt_at a 0
  rw [c] at hx
  have e0 : ((a.size : Int) == 0) = false := beq_eq_false_iff_ne.mpr (by omega)
  obtain ⟨b, hb⟩ : ∃ b, a.extract 1 a.size = b := ⟨_, rfl⟩
  have hbs : b.size = a.size - 1 := by rw [← hb]; exact cut_size a 1
  have HV := Aside0.mk (val_obj1 g hb.symm h0 c)
  have HC : Aside0 (Calls Tryz.prog 145 #[.string b] w fun e w' => Said b (objO b g) e ∧ Below w.heap.size w w') := ⟨obj n hV b g w (by omega) (by omega) (by rw [← hb]; exact steady_cut hst 1) (by omega) hG⟩
  have HB := Aside0.mk hb
  clear c hbs hV han hst hg hG
  cases hn : objO b g with
  | none =>
    rw [hn] at HV HC
    clear hn
    go_enter Tryz.func95, Tryz.ntmps95
    go_wp2_with (first
      | (go_at_call 145; (with_reducible refine HC.out.mono ?_); rintro e w' ⟨h, hb⟩; obtain ⟨x, T, u, rfl⟩ := h; have HB1 := Aside0.mk hb; clear hb)
      | (go_at_call 72; (with_reducible refine (errNew _ _).mono ?_); rintro e w' ⟨⟨T, u, rfl⟩, hb⟩; have HB2 := Aside0.mk (HB1.out.trans (hb.mono HB1.out.size)); clear hb))
    go_ret2
    exact ⟨said_none HV.out _ T u rfl, HB2.out⟩
  | some m =>
    rw [hn] at HV HC
    clear hn
    go_enter Tryz.func95, Tryz.ntmps95
    go_wp2_with (first
      | (go_at_call 145; (with_reducible refine HC.out.mono ?_); rintro e w' ⟨h, hb⟩; unfold Said at h; simp only [] at h; subst h; have HB1 := Aside0.mk hb; clear hb))
    go_ret2
    exact ⟨said_some (m := 1 + m) HV.out (by rw [← HB.out]; exact cut_cut a 1 m) rfl, HB1.out⟩
set_option maxHeartbeats 16000000 in
set_option maxRecDepth 100000 in
theorem valArr (n : Nat) (hV : VC n) (a : ByteArray) (g : Nat) (w : World) (han : a.size ≤ n + 1) (hs : a.size ≤ 1000000) (hst : Fj.Steady (bytesOf a)) (hg : 2 * a.size + 2 ≤ g + 1) (hG : Glob w) (h0 : 0 < a.size) (c : bt a 0 = 91) :
    Calls Tryz.prog 95 #[.string a] w fun e w' => Said a (Fj.val (g + 1) (bytesOf a)) e ∧ Below w.heap.size w w' := by
  have hx : ∀ h : 0 < a.size, ((a[0]'h).toNat : Int) = bt a 0 := bt_at a 0
  rw [c] at hx
  have e0 : ((a.size : Int) == 0) = false := beq_eq_false_iff_ne.mpr (by omega)
  obtain ⟨b, hb⟩ : ∃ b, a.extract 1 a.size = b := ⟨_, rfl⟩
  have hbs : b.size = a.size - 1 := by rw [← hb]; exact cut_size a 1
  have HV := Aside0.mk (val_arr1 g hb.symm h0 c)
  have HC : Aside0 (Calls Tryz.prog 146 #[.string b] w fun e w' => Said b (arrO b g) e ∧ Below w.heap.size w w') := ⟨arr n hV b g w (by omega) (by omega) (by rw [← hb]; exact steady_cut hst 1) (by omega) hG⟩
  have HB := Aside0.mk hb
  clear c hbs hV han hst hg hG
  cases hn : arrO b g with
  | none =>
    rw [hn] at HV HC
    clear hn
    go_enter Tryz.func95, Tryz.ntmps95
    go_wp2_with (first
      | (go_at_call 146; (with_reducible refine HC.out.mono ?_); rintro e w' ⟨h, hb⟩; obtain ⟨x, T, u, rfl⟩ := h; have HB1 := Aside0.mk hb; clear hb)
      | (go_at_call 72; (with_reducible refine (errNew _ _).mono ?_); rintro e w' ⟨⟨T, u, rfl⟩, hb⟩; have HB2 := Aside0.mk (HB1.out.trans (hb.mono HB1.out.size)); clear hb))
    go_ret2
    exact ⟨said_none HV.out _ T u rfl, HB2.out⟩
  | some m =>
    rw [hn] at HV HC
    clear hn
    go_enter Tryz.func95, Tryz.ntmps95
    go_wp2_with (first
      | (go_at_call 146; (with_reducible refine HC.out.mono ?_); rintro e w' ⟨h, hb⟩; unfold Said at h; simp only [] at h; subst h; have HB1 := Aside0.mk hb; clear hb))
    go_ret2
    exact ⟨said_some (m := 1 + m) HV.out (by rw [← HB.out]; exact cut_cut a 1 m) rfl, HB1.out⟩
set_option maxHeartbeats 16000000 in
set_option maxRecDepth 100000 in
theorem valStr (a : ByteArray) (g : Nat) (w : World) (hs : a.size ≤ 1000000) (hst : Fj.Steady (bytesOf a)) (hG : Glob w) (h0 : 0 < a.size) (c : bt a 0 = 34) :
    Calls Tryz.prog 95 #[.string a] w fun e w' => Said a (Fj.val (g + 1) (bytesOf a)) e ∧ Below w.heap.size w w' := by
  have hx : ∀ h : 0 < a.size, ((a[0]'h).toNat : Int) = bt a 0 := bt_at a 0
  rw [c] at hx
  have e0 : ((a.size : Int) == 0) = false := beq_eq_false_iff_ne.mpr (by omega)
  obtain ⟨s, hs0⟩ : ∃ s, a.extract 1 a.size = s := ⟨_, rfl⟩
  have HE : Aside0 _ := ⟨(val_str1 g h0 c).trans (quo_parts hs0.symm hst)⟩
  have HSS : Aside0 (s.size ≤ 1000000) := ⟨by rw [← hs0]; exact Nat.le_trans (Nat.le_of_eq (cut_size a 1)) (by omega)⟩
  have HG := Aside0.mk hG
  have HS0 := Aside0.mk hs0
  clear c hst hG
  cases hv : Fj.vs (bytesOf s) with
  | none =>
    rw [hv] at HE
    have HC : Aside0 (Fj.val (g + 1) (bytesOf a) = none) := ⟨HE.out⟩
    have HVV := Aside0.mk hv
    clear hv HE
    go_enter Tryz.func95, Tryz.ntmps95
    go_wp2_with (first
      | (go_at_call 147; (with_reducible refine (vstr _ HSS.out _ HG.out).mono ?_); rintro e w' ⟨h, hb⟩; rw [HVV.out] at h; obtain ⟨x, y, T, u, rfl⟩ := h; have HB1 := Aside0.mk hb; clear hb)
      | (go_at_call 72; (with_reducible refine (errNew _ _).mono ?_); rintro e w' ⟨⟨T, u, rfl⟩, hb⟩; have HB2 := Aside0.mk (HB1.out.trans (hb.mono HB1.out.size)); clear hb))
    go_ret2
    exact ⟨said_none HC.out _ T u rfl, HB2.out⟩
  | some x =>
    obtain ⟨m1, q1⟩ := x
    rw [hv] at HE
    have HVV := Aside0.mk hv
    obtain ⟨y, hy⟩ : ∃ y, s.extract m1 q1 = y := ⟨_, rfl⟩
    obtain ⟨d, hd0⟩ : ∃ d, cut s (q1 + 1) = d := ⟨_, rfl⟩
    have HD : Aside0 (d = cut a (1 + (q1 + 1))) := ⟨by rw [← hd0, ← hs0]; exact cut_cut a 1 (q1 + 1)⟩
    have HY := Aside0.mk hy
    have HDD := Aside0.mk hd0
    simp only [hy] at HE
    have hys : y.size ≤ 1000000 := by
      have := extract_size_le s m1 q1
      rw [hy] at this
      have := HSS.out
      omega
    clear hv hy hd0
    go_enter Tryz.func95, Tryz.ntmps95
    go_wp2_with (first
      | (go_at_call 147; (with_reducible refine (vstr _ HSS.out _ HG.out).mono ?_); rintro e w' ⟨h, hb⟩; rw [HVV.out] at h; unfold SaidS at h; simp only [] at h; rw [HY.out, HDD.out] at h; subst h; have HB1 := Aside0.mk hb; clear hb))
    go_loop [63] (fun v => ∃ i : Nat, v = .int .i64 (i : Int) ∧ i ≤ y.size ∧ Aside0 (∀ j : Nat, j < i → ¬ bt y (j : Int) < 32)) (fun v => y.size - (intOf v).toNat)
    case atStart => exact ⟨0, rfl, Nat.zero_le _, ⟨fun j hj => absurd hj (Nat.not_lt_zero _)⟩⟩
    case round =>
      clear hx e0
      obtain ⟨i, rfl, hi, HI⟩ := hrel
      by_cases hlt : i < y.size
      · have hx : ∀ h : i < y.size, ((y[i]'h).toNat : Int) = bt y (i : Int) := bt_at y (i : Int)
        by_cases c1 : bt y (i : Int) < 32
        · have e2 : decide (bt y (i : Int) < 32) = true := decide_eq_true c1
          have HC : Aside0 (Fj.val (g + 1) (bytesOf a) = none) := ⟨by
            rw [HE.out]
            rw [if_pos]
            cases h : Fj.ctl (bytesOf y) with
            | true => rfl
            | false => exact absurd c1 (ctl_out h i hlt)⟩
          clear c1 HE
          go_wp2_with (first
            | (go_at_call 72; (with_reducible refine (errNew _ _).mono ?_); rintro e w' ⟨⟨T, u, rfl⟩, hb⟩; have HB2 := Aside0.mk (HB1.out.trans (hb.mono HB1.out.size)); clear hb))
          go_ret2
          exact ⟨said_none HC.out _ T u rfl, HB2.out⟩
        · have e2 : decide (bt y (i : Int) < 32) = false := decide_eq_false c1
          have HI' : Aside0 (∀ j : Nat, j < i + 1 → ¬ bt y (j : Int) < 32) := ⟨fun j hj => by
            by_cases e : j = i
            · rw [e]; exact c1
            · exact HI.out j (by omega)⟩
          clear c1 HI
          go_wp2
          go_round
          case rel => exact ⟨i + 1, by go_num, by omega, HI'⟩
          case measure => simp [intOf]; omega
      · have HC : Aside0 (Fj.val (g + 1) (bytesOf a) = some (1 + (q1 + 1))) := ⟨by
          rw [HE.out]
          rw [if_neg]
          intro h
          obtain ⟨j, hj, hjl⟩ := ctl_in h
          exact HI.out j (by omega) hjl⟩
        obtain rfl : i = y.size := by omega
        clear hlt HE
        go_wp2
        go_ret2
        exact ⟨said_some HC.out HD.out rfl, HB1.out⟩
theorem valEmpty (a : ByteArray) (f : Nat) (w : World) (h0 : a.size = 0) :
    Calls Tryz.prog 95 #[.string a] w fun e w' => Said a (Fj.val f (bytesOf a)) e ∧ Below w.heap.size w w' := by
  have HC : Aside0 (Fj.val f (bytesOf a) = none) := ⟨by
    have : bytesOf a = [] := List.eq_nil_of_length_eq_zero (by rw [bytesOf_length]; exact h0)
    rw [this, val_nil]⟩
  have e0 : ((a.size : Int) == 0) = true := beq_iff_eq.mpr (by omega)
  clear h0
  go_enter Tryz.func95, Tryz.ntmps95
  go_wp2_with (go_at_call 72; (with_reducible refine (errNew _ _).mono ?_); rintro e w' ⟨⟨T, u, rfl⟩, hb⟩)
  go_ret2
  exact ⟨said_none HC.out _ T u rfl, hb⟩
/-- validateValue, of every text. -/
theorem vc : ∀ n : Nat, VC n
  | 0 => fun a f w h _ _ _ _ => valEmpty a f w (by omega)
  | n + 1 => fun a f w han hs hst hf hG => by
    by_cases h0 : a.size = 0
    · exact valEmpty a f w h0
    · have hz : 0 < a.size := by omega
      obtain ⟨g, rfl⟩ : ∃ g, f = g + 1 := ⟨f - 1, by omega⟩
      by_cases c1 : bt a 0 = 123
      · exact valObj n (vc n) a g w han hs hst hf hG hz c1
      by_cases c2 : bt a 0 = 91
      · exact valArr n (vc n) a g w han hs hst hf hG hz c2
      by_cases c3 : bt a 0 = 34
      · exact valStr a g w hs hst hG hz c3
      by_cases c4 : bt a 0 = 116
      · exact valTrue a g w hs hz c4
      by_cases c5 : bt a 0 = 102
      · exact valFalse a g w hs hz c5
      by_cases c6 : bt a 0 = 110
      · exact valNull a g w hs hz c6
      exact valNum a g w hs hz c1 c2 c3 c4 c5 c6
/-- validateValue of a steady text. -/
theorem value (a : ByteArray) (f : Nat) (w : World) (hs : a.size ≤ 1000000) (hst : Fj.Steady (bytesOf a)) (hf : 2 * a.size + 2 ≤ f) (hG : Glob w) :
    Calls Tryz.prog 95 #[.string a] w fun e w' => Said a (Fj.val f (bytesOf a)) e ∧ Below w.heap.size w w' := vc a.size a f w (Nat.le_refl _) hs hst hf hG
end Go.Proofs.YtlhaefblchpjhaaGreatDoor.FjW
end
section
namespace Go.Proofs.YtlhaefblchpjhaaGreatDoor.FjW
open Go.RowKit Go.Proofs.YtlhaefblchpjhaaGreatDoorW.PrintWords Go.Proofs.YtlhaefblchpjhaaGreatDoorW.PrintLast Go.Proofs.YtlhaefblchpjhaaGreatDoorW.PrintMore
set_option linter.unusedVariables false
set_option linter.unusedSimpArgs false
/-- A text is one value with blanks around it, as Validate takes it. -/
def fP (a : ByteArray) : Bool := match Fj.val (2 * a.size + 3) (D a (nx a 0)) with
  | none => false
  | some m => decide (a.size ≤ nx a (nx a 0 + m))
theorem nx_cut (a : ByteArray) (p m : Nat) : p + nx (cut a p) m = nx a (p + m) := by
  unfold nx D
  rw [cut_bytes, List.drop_drop]; omega
set_option maxHeartbeats 4000000 in
set_option maxRecDepth 100000 in
theorem validate (a : ByteArray) (hs : a.size ≤ 1000000) (hst : Fj.Steady (bytesOf a)) (w : World) (hG : Glob w) :
    Calls Tryz.prog 51 #[.string a] w fun e w' => ((fP a = true ∧ e = .returned .nilIface) ∨ (fP a = false ∧ ∃ T u, e = .returned (.iface T u))) ∧ Below w.heap.size w w' := by
  obtain ⟨b, hb⟩ : ∃ b, b = cut a (nx a 0) := ⟨_, rfl⟩
  have hbs : b.size ≤ 1000000 := by rw [hb, cut_size]; omega
  have hbst : Fj.Steady (bytesOf b) := by rw [hb, cut_bytes]; exact hst.drop _
  have hbb : b.size ≤ a.size := by rw [hb, cut_size]; omega
  have hV := value b (2 * a.size + 3) w hbs hbst (by omega) hG
  have HS := Aside0.mk hs
  have HBS := Aside0.mk hbs
  have HB := Aside0.mk hb
  have HA0 : Aside0 (a = cut a 0) := ⟨(cut_zero a).symm⟩
  have hfP : fP a = match Fj.val (2 * a.size + 3) (bytesOf b) with | none => false | some m => decide (b.size ≤ nx b m) := by
    unfold fP
    rw [show D a (nx a 0) = bytesOf b by rw [hb, cut_bytes]]
    cases Fj.val (2 * a.size + 3) (bytesOf b) with
    | none => rfl
    | some m =>
      dsimp only
      have h1 := nx_cut a (nx a 0) m
      have h2 := cut_size a (nx a 0)
      rw [← hb] at h1 h2
      exact decide_eq_decide.mpr (by omega)
  cases hv : Fj.val (2 * a.size + 3) (bytesOf b) with
  | none =>
    rw [hv] at hV hfP
    have HF : Aside0 (fP a = false) := ⟨hfP⟩
    have HV : Aside0 (Calls Tryz.prog 95 #[.string b] w fun e w' => (∃ t T u, e = .returned (.tuple #[.string t, .iface T u])) ∧ Below w.heap.size w w') := ⟨hV⟩
    clear hs hst hG hb hbs hbst hV hfP hv
    go_enter Tryz.func51, Tryz.ntmps51
    go_wp2_with (first
      | (go_at_call 68; (with_reducible refine (skipTo a _ b 0 HS.out HA0.out HB.out _).mono ?_); rintro e w' ⟨rfl, rfl⟩)
      | (go_at_call 95; (with_reducible refine HV.out.mono ?_); rintro e w1 ⟨⟨x, T, u, rfl⟩, hb⟩; have HB1 := Aside0.mk hb; clear hb)
      | (go_at_call 72; (with_reducible refine (errNew _ _).mono ?_); rintro e w2 ⟨⟨T2, u2, rfl⟩, hb⟩; have HB2 := Aside0.mk hb; clear hb))
    go_ret
    exact ⟨.inr ⟨HF.out, _, _, rfl⟩, HB1.out.trans (HB2.out.mono HB1.out.size)⟩
  | some m =>
    rw [hv] at hV hfP
    dsimp only at hfP
    obtain ⟨t0, ht0⟩ : ∃ t, t = cut b m := ⟨_, rfl⟩
    obtain ⟨t1, ht1⟩ : ∃ t, t = cut b (nx b m) := ⟨_, rfl⟩
    have HT0 := Aside0.mk ht0
    have HT1 := Aside0.mk ht1
    have hts : t1.size = b.size - nx b m := by rw [ht1]; exact cut_size b _
    have HV : Aside0 (Calls Tryz.prog 95 #[.string b] w fun e w' => e = .returned (.tuple #[.string t0, .nilIface]) ∧ Below w.heap.size w w') := ⟨by rw [ht0]; exact hV⟩
    by_cases z : b.size ≤ nx b m
    · have HF : Aside0 (fP a = true) := ⟨by rw [hfP]; exact decide_eq_true z⟩
      have q1 : decide (0 < (t1.size : Int)) = false := decide_eq_false (by omega)
      have q2 : decide (0 < t1.size) = false := decide_eq_false (by omega)
      clear hs hst hG hb hbs hbst hV hfP hv ht0 ht1 hts z
      go_enter Tryz.func51, Tryz.ntmps51
      go_wp2_with (first
        | (go_at_call_of 68 a; (with_reducible refine (skipTo a _ b 0 HS.out HA0.out HB.out _).mono ?_); rintro e w' ⟨rfl, rfl⟩)
        | (go_at_call 95; (with_reducible refine HV.out.mono ?_); rintro e w1 ⟨rfl, hb⟩; have HB1 := Aside0.mk hb; clear hb)
        | (go_at_call 68; (with_reducible refine (skipTo b t0 t1 m HBS.out HT0.out HT1.out _).mono ?_); rintro e w' ⟨rfl, rfl⟩))
      go_ret
      exact ⟨.inl ⟨HF.out, rfl⟩, HB1.out⟩
    · have HF : Aside0 (fP a = false) := ⟨by rw [hfP]; exact decide_eq_false z⟩
      have q1 : decide (0 < (t1.size : Int)) = true := decide_eq_true (by omega)
      have q2 : decide (0 < t1.size) = true := decide_eq_true (by omega)
      clear hs hst hG hb hbs hbst hV hfP hv ht0 ht1 hts z
      go_enter Tryz.func51, Tryz.ntmps51
      go_wp2_with (first
        | (go_at_call_of 68 a; (with_reducible refine (skipTo a _ b 0 HS.out HA0.out HB.out _).mono ?_); rintro e w' ⟨rfl, rfl⟩)
        | (go_at_call 95; (with_reducible refine HV.out.mono ?_); rintro e w1 ⟨rfl, hb⟩; have HB1 := Aside0.mk hb; clear hb)
        | (go_at_call 68; (with_reducible refine (skipTo b t0 t1 m HBS.out HT0.out HT1.out _).mono ?_); rintro e w' ⟨rfl, rfl⟩)
        | (go_at_call 72; (with_reducible refine (errNew _ _).mono ?_); rintro e w2 ⟨⟨T2, u2, rfl⟩, hb⟩; have HB2 := Aside0.mk hb; clear hb))
      go_ret
      exact ⟨.inr ⟨HF.out, _, _, rfl⟩, HB1.out.trans (HB2.out.mono HB1.out.size)⟩
set_option maxHeartbeats 4000000 in
theorem fjValid (a : ByteArray) (hs : a.size ≤ 1000000) (hst : Fj.Steady (bytesOf a)) (w : World) (hG : Glob w) :
    Calls Tryz.prog 21 #[.string a] w fun e w' => e = .returned (.bool (fP a)) ∧ Below w.heap.size w w' := by
  have HV := Aside0.mk (validate a hs hst w hG)
  clear hs hst hG
  cases hf : fP a with
  | true =>
    rw [hf] at HV
    have HV' : Aside0 (Calls Tryz.prog 51 #[.string a] w fun e w' => e = .returned .nilIface ∧ Below w.heap.size w w') := ⟨HV.out.mono fun e w' h => ⟨(h.1.elim (fun h1 => h1.2) (fun h1 => by cases h1.1)), h.2⟩⟩
    clear HV hf
    go_enter Tryz.func21, Tryz.ntmps21
    go_wp2_with (first
      | (go_at_call 51; (with_reducible refine HV'.out.mono ?_); rintro e w1 ⟨rfl, hb⟩; have HB1 := Aside0.mk hb; clear hb))
    go_ret
    exact ⟨rfl, HB1.out⟩
  | false =>
    rw [hf] at HV
    have HV' : Aside0 (Calls Tryz.prog 51 #[.string a] w fun e w' => (∃ T u, e = .returned (.iface T u)) ∧ Below w.heap.size w w') := ⟨HV.out.mono fun e w' h => ⟨(h.1.elim (fun h1 => by cases h1.1) (fun h1 => h1.2)), h.2⟩⟩
    clear HV hf
    go_enter Tryz.func21, Tryz.ntmps21
    go_wp2_with (first
      | (go_at_call 51; (with_reducible refine HV'.out.mono ?_); rintro e w1 ⟨⟨T, u, rfl⟩, hb⟩; have HB1 := Aside0.mk hb; clear hb))
    go_ret
    exact ⟨rfl, HB1.out⟩
end Go.Proofs.YtlhaefblchpjhaaGreatDoor.FjW
end
