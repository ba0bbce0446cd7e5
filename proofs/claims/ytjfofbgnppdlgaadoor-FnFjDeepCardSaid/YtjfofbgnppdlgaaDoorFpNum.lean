/- fastjson's zzFold and parseRawNumber, walked. -/
import Derived.Test.YtjfofbgnppdlgaaDoorFpArr
import Derived.Laws.DeepStrings4
namespace Go.Proofs.YtjfofbgnppdlgaaDoor.Fp
open Go.RowKit Go.Proofs.YtjfofbgnppdlgaaDoorW.PrintWords Go.Proofs.YtjfofbgnppdlgaaDoorW.PrintLast Go.Proofs.YtjfofbgnppdlgaaDoorW.PrintMore
open Go.Proofs.YtjfofbgnppdlgaaDoor.FjW (cut cut_cut cut_size cut_bytes cut_zero cut_bt bt_out D rd_D rd_D0 D_drop D_len D_nil D_cons ws_at skipWS errNew)
attribute [local go_sem] max2_int min2_int max_two min_two max_three min_three max_four min_four
set_option linter.unusedVariables false
set_option linter.unusedSimpArgs false

def ZzSaid (s t : ByteArray) (e : Ending) : Prop := ∃ r : Bool, e = .returned (.bool r) ∧ (r = true ↔ ∀ i : Nat, i < 3 → low (bt s (i : Int)) = bt t (i : Int))
theorem zz_yes {s t : ByteArray} {e : Ending} (he : e = .returned (.bool true)) (h : ∀ i : Nat, i < 3 → low (bt s (i : Int)) = bt t (i : Int)) : ZzSaid s t e := ⟨true, he, fun _ => h, fun _ => rfl⟩
theorem zz_no {s t : ByteArray} {e : Ending} (he : e = .returned (.bool false)) (h : ¬ ∀ i : Nat, i < 3 → low (bt s (i : Int)) = bt t (i : Int)) : ZzSaid s t e := ⟨false, he, (fun x => by cases x), fun x => absurd x h⟩
set_option maxHeartbeats 4000000 in
theorem zz (s t : ByteArray) (hs : s.size = 3) (ht : t.size = 3) (w : World) :
    Calls Tryd.prog 26 #[.string s, .string t] w fun e w' => ZzSaid s t e ∧ w = w' := by
  have e0 : ((s.size : Int) != (t.size : Int)) = false := bne_eq_false_iff_eq.mpr (by omega)
  go_enter Tryd.func26, Tryd.ntmps26
  go_wp2
  go_loop [5] (fun v => ∃ j : Nat, v = .int .i64 (j : Int) ∧ j ≤ 3 ∧ Aside0 (∀ i : Nat, i < j → low (bt s (i : Int)) = bt t (i : Int))) (fun v => 3 - (intOf v).toNat)
  case atStart => exact ⟨0, rfl, by omega, ⟨fun i hi => absurd hi (Nat.not_lt_zero _)⟩⟩
  case round =>
    obtain ⟨j, rfl, hj, HR⟩ := hrel
    by_cases hlt : j < 3
    · have hlt2 : j < s.size := by omega
      have hlt3 : j < t.size := by omega
      have hx : ∀ h : j < s.size, ((s[j]'h).toNat : Int) = bt s (j : Int) := bt_at s (j : Int)
      have hy : ∀ h : j < t.size, ((t[j]'h).toNat : Int) = bt t (j : Int) := bt_at t (j : Int)
      obtain ⟨b0, b1⟩ : 0 ≤ bt s (j : Int) ∧ bt s (j : Int) ≤ 255 := bt_range s _
      by_cases c1 : 65 ≤ bt s (j : Int) ∧ bt s (j : Int) ≤ 90
      · have hl : low (bt s (j : Int)) = bt s (j : Int) + 32 := if_pos c1
        have e1 : decide (65 ≤ bt s (j : Int)) = true := decide_eq_true c1.1
        have e2 : decide (bt s (j : Int) ≤ 90) = true := decide_eq_true c1.2
        have e3 : (bt s (j : Int) + 32) % 256 = bt s (j : Int) + 32 := by omega
        by_cases c2 : bt s (j : Int) + 32 = bt t (j : Int)
        · have e4 : (bt s (j : Int) + 32 != bt t (j : Int)) = false := bne_eq_false_iff_eq.mpr c2
          have HR' : Aside0 (∀ i : Nat, i < j + 1 → low (bt s (i : Int)) = bt t (i : Int)) := ⟨fun i hi => by
            by_cases e : i = j
            · subst e; rw [hl, c2]
            · exact HR.out i (by omega)⟩
          clear HR c2 hl
          go_wp2
          go_round
          case rel => exact ⟨j + 1, by go_num, by omega, HR'⟩
          case measure => simp [intOf]; omega
        · have e4 : (bt s (j : Int) + 32 != bt t (j : Int)) = true := bne_iff_ne.mpr c2
          have HN : Aside0 (¬ ∀ i : Nat, i < 3 → low (bt s (i : Int)) = bt t (i : Int)) := ⟨fun h => c2 (by rw [← h j hlt, hl])⟩
          clear HR c2 hl
          go_wp2
          go_ret
          exact ⟨zz_no rfl HN.out, rfl⟩
      · have hl : low (bt s (j : Int)) = bt s (j : Int) := if_neg c1
        have c1' : bt s (j : Int) < 65 ∨ (65 ≤ bt s (j : Int) ∧ 90 < bt s (j : Int)) := by omega
        clear c1
        by_cases c2 : bt s (j : Int) = bt t (j : Int)
        · have e4 : (bt s (j : Int) != bt t (j : Int)) = false := bne_eq_false_iff_eq.mpr c2
          have HR' : Aside0 (∀ i : Nat, i < j + 1 → low (bt s (i : Int)) = bt t (i : Int)) := ⟨fun i hi => by
            by_cases e : i = j
            · subst e; rw [hl, c2]
            · exact HR.out i (by omega)⟩
          clear HR c2 hl
          rcases c1' with c1 | ⟨c1, c3⟩
          · have e1 : decide (65 ≤ bt s (j : Int)) = false := decide_eq_false (by omega)
            clear c1
            go_wp2
            go_round
            case rel => exact ⟨j + 1, by go_num, by omega, HR'⟩
            case measure => simp [intOf]; omega
          · have e1 : decide (65 ≤ bt s (j : Int)) = true := decide_eq_true c1
            have e2 : decide (bt s (j : Int) ≤ 90) = false := decide_eq_false (by omega)
            clear c1 c3
            go_wp2
            go_round
            case rel => exact ⟨j + 1, by go_num, by omega, HR'⟩
            case measure => simp [intOf]; omega
        · have e4 : (bt s (j : Int) != bt t (j : Int)) = true := bne_iff_ne.mpr c2
          have HN : Aside0 (¬ ∀ i : Nat, i < 3 → low (bt s (i : Int)) = bt t (i : Int)) := ⟨fun h => c2 (by rw [← h j hlt, hl])⟩
          clear HR c2 hl
          rcases c1' with c1 | ⟨c1, c3⟩
          · have e1 : decide (65 ≤ bt s (j : Int)) = false := decide_eq_false (by omega)
            clear c1
            go_wp2
            go_ret
            exact ⟨zz_no rfl HN.out, rfl⟩
          · have e1 : decide (65 ≤ bt s (j : Int)) = true := decide_eq_true c1
            have e2 : decide (bt s (j : Int) ≤ 90) = false := decide_eq_false (by omega)
            clear c1 c3
            go_wp2
            go_ret
            exact ⟨zz_no rfl HN.out, rfl⟩
    · obtain rfl : j = 3 := by omega
      go_wp2
      go_ret
      exact ⟨zz_yes rfl HR.out, rfl⟩
theorem ex_bt (a : ByteArray) (j i : Nat) (h : j + 3 ≤ a.size) (hi : i < 3) : bt (a.extract j (j + 3)) (i : Int) = bt a ((j + i : Nat) : Int) := by
  have e1 : bytesOf (a.extract j (j + 3)) = ((bytesOf a).drop j).take 3 := by
    unfold bytesOf
    rw [ByteArray.data_extract, Array.toList_extract, List.extract_eq_take_drop, List.map_take, List.map_drop]
    congr 1
    omega
  rw [← rd_bytesOf, e1, ← rd_D]
  unfold rd
  simp only [Int.toNat_natCast, List.getD_eq_getElem?_getD, List.getElem?_take]
  rw [if_pos hi]
theorem zzw (a : ByteArray) (j : Nat) (h : j + 3 ≤ a.size) (c0 c1 c2 : UInt8) (b : Bool) (hb : fold3 (D a j) (c0.toNat : Int) (c1.toNat : Int) (c2.toNat : Int) = b) (w : World) :
    Calls Tryd.prog 26 #[.string (a.extract j (j + 3)), .string ⟨#[c0, c1, c2]⟩] w fun e w' => e = .returned (.bool b) ∧ w = w' := by
  refine (zz _ ⟨#[c0, c1, c2]⟩ (by simp [ByteArray.size_extract]; omega) rfl w).mono fun e w' hh => ?_
  obtain ⟨⟨r, rfl, hr⟩, hw⟩ := hh
  refine ⟨?_, hw⟩
  congr 2
  rw [← hb, Bool.eq_iff_iff, hr]
  unfold fold3
  simp only [Bool.and_eq_true, decide_eq_true_eq, beq_iff_eq]
  have r0 : rd (D a j) 0 = bt a ((j + 0 : Nat) : Int) := rd_D a j 0
  have r1 : rd (D a j) 1 = bt a ((j + 1 : Nat) : Int) := rd_D a j 1
  have r2 : rd (D a j) 2 = bt a ((j + 2 : Nat) : Int) := rd_D a j 2
  rw [r0, r1, r2]
  have t0 : bt (⟨#[c0, c1, c2]⟩ : ByteArray) ((0 : Nat) : Int) = (c0.toNat : Int) := rfl
  have t1 : bt (⟨#[c0, c1, c2]⟩ : ByteArray) ((1 : Nat) : Int) = (c1.toNat : Int) := rfl
  have t2 : bt (⟨#[c0, c1, c2]⟩ : ByteArray) ((2 : Nat) : Int) = (c2.toNat : Int) := rfl
  constructor
  · intro h'
    have a0 := h' 0 (by omega); have a1 := h' 1 (by omega); have a2 := h' 2 (by omega)
    rw [ex_bt a j 0 h (by omega), t0] at a0
    rw [ex_bt a j 1 h (by omega), t1] at a1
    rw [ex_bt a j 2 h (by omega), t2] at a2
    exact ⟨by rw [D_len]; omega, a0, a1, a2⟩
  · rintro ⟨_, a0, a1, a2⟩ i hi
    rw [ex_bt a j i h hi]
    have : i = 0 ∨ i = 1 ∨ i = 2 := by omega
    rcases this with rfl | rfl | rfl
    · rw [a0, t0]
    · rw [a1, t1]
    · rw [a2, t2]
/-- The number's bytes. -/
theorem nlen_at (a : ByteArray) (p : Nat) : nlen (D a p) = if p < a.size ∧ nb (bt a (p : Int)) = true then nlen (D a (p + 1)) + 1 else 0 := by
  by_cases h : p < a.size
  · rw [D_cons a p h, nlen]
    by_cases b : nb (bt a (p : Int)) = true
    · rw [if_pos b, if_pos ⟨h, b⟩]
    · rw [if_neg b, if_neg (fun x => b x.2)]
  · rw [D_nil a p (by omega), if_neg (fun x => h x.1)]; rfl
theorem nb_or (c : Int) : (48 ≤ c ∧ c ≤ 57 ∧ nb c = true) ∨ ((c < 48 ∨ (48 ≤ c ∧ 57 < c)) ∧ ((c = 46 ∧ nb c = true) ∨ ((c == 46) = false ∧ c = 45 ∧ nb c = true) ∨ ((c == 46) = false ∧ (c == 45) = false ∧ c = 101 ∧ nb c = true) ∨ ((c == 46) = false ∧ (c == 45) = false ∧ (c == 101) = false ∧ c = 69 ∧ nb c = true) ∨
    ((c == 46) = false ∧ (c == 45) = false ∧ (c == 101) = false ∧ (c == 69) = false ∧ c = 43 ∧ nb c = true) ∨ ((c == 46) = false ∧ (c == 45) = false ∧ (c == 101) = false ∧ (c == 69) = false ∧ (c == 43) = false ∧ nb c = false))) := by
  by_cases a : 48 ≤ c ∧ c ≤ 57
  · exact .inl ⟨a.1, a.2, by unfold nb; rw [decide_eq_true a]; rfl⟩
  · refine .inr ⟨by omega, ?_⟩
    by_cases b : c = 46
    · subst b; exact .inl ⟨rfl, rfl⟩
    by_cases d : c = 45
    · subst d; exact .inr (.inl ⟨rfl, rfl, rfl⟩)
    by_cases e : c = 101
    · subst e; exact .inr (.inr (.inl ⟨rfl, rfl, rfl, rfl⟩))
    by_cases f : c = 69
    · subst f; exact .inr (.inr (.inr (.inl ⟨rfl, rfl, rfl, rfl, rfl⟩)))
    by_cases g : c = 43
    · subst g; exact .inr (.inr (.inr (.inr (.inl ⟨rfl, rfl, rfl, rfl, rfl, rfl⟩))))
    have b' : (c == 46) = false := beq_eq_false_iff_ne.mpr b
    have d' : (c == 45) = false := beq_eq_false_iff_ne.mpr d
    have e' : (c == 101) = false := beq_eq_false_iff_ne.mpr e
    have f' : (c == 69) = false := beq_eq_false_iff_ne.mpr f
    have g' : (c == 43) = false := beq_eq_false_iff_ne.mpr g
    exact .inr (.inr (.inr (.inr (.inr ⟨b', d', e', f', g', by unfold nb; rw [decide_eq_false a, b', d', e', f', g']; rfl⟩))))
def NumSaid (a : ByteArray) (o : Option Nat) (e : Ending) : Prop := match o with
  | none => ∃ x y T u, e = .returned (.tuple #[.string x, .string y, .iface T u])
  | some m => e = .returned (.tuple #[.string (a.extract 0 m), .string (cut a m), .nilIface])
theorem num_none {a : ByteArray} {o : Option Nat} (h : o = none) (x y : ByteArray) (T : TypeId) (u : Value) {e : Ending} (he : e = .returned (.tuple #[.string x, .string y, .iface T u])) : NumSaid a o e := by subst h; exact ⟨x, y, T, u, he⟩
theorem num_some {a x y : ByteArray} {o : Option Nat} {m : Nat} (h : o = some m) (hx : x = a.extract 0 m) (hy : y = cut a m) {e : Ending} (he : e = .returned (.tuple #[.string x, .string y, .nilIface])) : NumSaid a o e := by subst h hx hy; exact he
set_option maxHeartbeats 8000000 in
set_option maxRecDepth 100000 in
theorem rawNumber (a : ByteArray) (hs : a.size ≤ 1000000) (w : World) :
    Calls Tryd.prog 27 #[.string a] w fun e w' => NumSaid a (rawNum (bytesOf a)) e ∧ Below w.heap.size w w' := by
  have HL : Aside0 ((bytesOf a).length = a.size) := ⟨bytesOf_length a⟩
  go_enter Tryd.func27, Tryd.ntmps27
  go_wp2
  go_loop [0, 11] (fun v0 v => v0 = .string a ∧ ∃ j : Nat, v = .int .i64 (j : Int) ∧ j ≤ a.size ∧ Aside0 (nlen (bytesOf a) = j + nlen (D a j))) (fun v0 v => a.size - (intOf v).toNat)
  case atStart => exact ⟨rfl, 0, rfl, Nat.zero_le _, ⟨by rw [Nat.zero_add]; rfl⟩⟩
  case round =>
    obtain ⟨rfl, j, rfl, hj, HR⟩ := hrel
    by_cases hlt : j < a.size
    · have hx : ∀ h : j < a.size, ((a[j]'h).toNat : Int) = bt a (j : Int) := bt_at a (j : Int)
      have N1 := nlen_at a j
      rcases nb_or (bt a (j : Int)) with ⟨f1, f2, hb⟩ | ⟨f1, f2⟩
      · have HR' : Aside0 (nlen (bytesOf a) = j + 1 + nlen (D a (j + 1))) := ⟨by rw [HR.out, N1, if_pos ⟨hlt, hb⟩]; omega⟩
        have e1 : decide (48 ≤ bt a (j : Int)) = true := decide_eq_true f1
        have e2 : decide (bt a (j : Int) ≤ 57) = true := decide_eq_true f2
        clear N1 hb HR f1 f2
        go_wp2
        go_round
        case rel => exact ⟨rfl, j + 1, by go_num, by omega, HR'⟩
        case measure => simp [intOf]; omega
      · rcases f2 with ⟨f2, hb⟩ | ⟨f2, f3, hb⟩ | ⟨f2, f3, f4, hb⟩ | ⟨f2, f3, f4, f5, hb⟩ | ⟨f2, f3, f4, f5, f6, hb⟩ | ⟨f2, f3, f4, f5, f6, hb⟩
        rotate_right 1
        · have HJ : Aside0 (nlen (bytesOf a) = j) := ⟨by rw [HR.out, N1, if_neg (fun x => by rw [hb] at x; cases x.2)]; rfl⟩
          have HRN : Aside0 (rawNum (bytesOf a) = if j = 0 ∨ (j = 1 ∧ (bt a 0 = 45 ∨ bt a 0 = 43)) then (if (fold3 (D a j) 105 110 102 || fold3 (D a j) 110 97 110) = true then some (j + 3) else none) else some j) := ⟨by
            unfold rawNum
            rw [HJ.out, if_neg (by rw [HL.out]; omega), rd_bytesOf]⟩
          clear N1 hb HR
          have e12 : decide (48 ≤ bt a (j : Int)) = false ∨ (decide (48 ≤ bt a (j : Int)) = true ∧ decide (bt a (j : Int) ≤ 57) = false) := by
            rcases f1 with f1 | ⟨f1, g1⟩
            · exact .inl (decide_eq_false (by omega))
            · exact .inr ⟨decide_eq_true f1, decide_eq_false (by omega)⟩
          clear f1
          have hx0 : ∀ h : 0 < a.size, ((a[0]'h).toNat : Int) = bt a 0 := bt_at a 0
          have hz : 0 < a.size := by omega
          by_cases cA : j = 0 ∨ (j = 1 ∧ (bt a 0 = 45 ∨ bt a 0 = 43))
          · have HR2 : Aside0 (rawNum (bytesOf a) = if (fold3 (D a j) 105 110 102 || fold3 (D a j) 110 97 110) = true then some (j + 3) else none) := ⟨by rw [HRN.out, if_pos cA]⟩
            have cB : ((j : Int) == 0) = true ∨ (((j : Int) == 0) = false ∧ ((j : Int) == 1) = true ∧ ((bt a 0 == 45) = true ∨ ((bt a 0 == 45) = false ∧ (bt a 0 == 43) = true))) := by
              rcases cA with c | ⟨c, d⟩
              · exact .inl (beq_iff_eq.mpr (by omega))
              · refine .inr ⟨beq_eq_false_iff_ne.mpr (by omega), beq_iff_eq.mpr (by omega), ?_⟩
                by_cases e : bt a 0 = 45
                · exact .inl (beq_iff_eq.mpr e)
                · exact .inr ⟨beq_eq_false_iff_ne.mpr e, beq_iff_eq.mpr (d.resolve_left e)⟩
            clear HRN cA
            by_cases c3 : 3 ≤ a.size - j
            · have q3 : decide (3 ≤ (a.size : Int) - (j : Int)) = true := decide_eq_true (by omega)
              have q4 : (j : Int) + 3 ≤ (a.size : Int) := by omega
              have q5 : ((j : Int) + 3).toNat = j + 3 := by omega
              have q6 : 0 ≤ (j : Int) + 3 := by omega
              have q7 : (j : Int) ≤ (j : Int) + 3 := by omega
              have HX1 := Aside0.mk (zzw a j (by omega) 105 110 102 _ rfl)
              have HX2 := Aside0.mk (zzw a j (by omega) 110 97 110 _ rfl)
              clear c3
              cases z1 : fold3 (D a j) 105 110 102 with
              | true =>
                have HC : Aside0 (rawNum (bytesOf a) = some (j + 3)) := ⟨by rw [HR2.out, z1]; rfl⟩
                have HZ1 := Aside0.mk z1
                clear z1 HR2 HX2
                rcases e12 with e1 | ⟨e1, e2⟩ <;> rcases cB with g1 | ⟨g1, g2, g3 | ⟨g3, g4⟩⟩
                all_goals
                  go_wp2_with (first | (go_at_call 26; (with_reducible refine (HX1.out _).mono ?_); rintro e w' ⟨rfl, rfl⟩; erw [HZ1.out]))
                  go_quiet (fail)
                  go_wp2
                  go_ret3
                  exact ⟨num_some HC.out rfl rfl rfl, pw_below_drewN (Below.refl _ _) _⟩
              | false =>
                cases z2 : fold3 (D a j) 110 97 110 with
                | true =>
                  have HC : Aside0 (rawNum (bytesOf a) = some (j + 3)) := ⟨by rw [HR2.out, z1, z2]; rfl⟩
                  have HZ1 := Aside0.mk z1
                  have HZ2 := Aside0.mk z2
                  clear z1 z2 HR2
                  rcases e12 with e1 | ⟨e1, e2⟩ <;> rcases cB with g1 | ⟨g1, g2, g3 | ⟨g3, g4⟩⟩
                  all_goals
                    go_wp2_with (first
                      | (go_at_call 26; (with_reducible refine (HX1.out _).mono ?_); rintro e w' ⟨rfl, rfl⟩; erw [HZ1.out])
                      | (go_at_call 26; (with_reducible refine (HX2.out _).mono ?_); rintro e w' ⟨rfl, rfl⟩; erw [HZ2.out]))
                    go_quiet (fail)
                    go_wp2
                    go_ret3
                    exact ⟨num_some HC.out rfl rfl rfl, pw_below_drewN (Below.refl _ _) _⟩
                | false =>
                  have HC : Aside0 (rawNum (bytesOf a) = none) := ⟨by rw [HR2.out, z1, z2]; rfl⟩
                  have HZ1 := Aside0.mk z1
                  have HZ2 := Aside0.mk z2
                  clear z1 z2 HR2
                  rcases e12 with e1 | ⟨e1, e2⟩ <;> rcases cB with g1 | ⟨g1, g2, g3 | ⟨g3, g4⟩⟩
                  all_goals
                    go_wp2_with (first
                      | (go_at_call 26; (with_reducible refine (HX1.out _).mono ?_); rintro e w' ⟨rfl, rfl⟩; erw [HZ1.out])
                      | (go_at_call 26; (with_reducible refine (HX2.out _).mono ?_); rintro e w' ⟨rfl, rfl⟩; erw [HZ2.out])
                      | (go_at_call 12; (with_reducible refine (errNew _ _).mono ?_); rintro e w' ⟨⟨T, u, rfl⟩, hb⟩))
                    go_ret3
                    exact ⟨num_none HC.out _ _ T u rfl, hb⟩
            · have q3 : decide (3 ≤ (a.size : Int) - (j : Int)) = false := decide_eq_false (by omega)
              have HC : Aside0 (rawNum (bytesOf a) = none) := ⟨by
                have e : ∀ x y z, fold3 (D a j) x y z = false := fun x y z => by
                  unfold fold3
                  rw [decide_eq_false (by rw [D_len]; omega)]
                  rfl
                rw [HR2.out, e, e]; rfl⟩
              have c9 : a.size - j < 3 := by omega
              clear c3 HR2
              rcases e12 with e1 | ⟨e1, e2⟩ <;> rcases cB with g1 | ⟨g1, g2, g3 | ⟨g3, g4⟩⟩
              all_goals
                go_wp2_with (first | (go_at_call 12; (with_reducible refine (errNew _ _).mono ?_); rintro e w' ⟨⟨T, u, rfl⟩, hb⟩))
                all_goals first | (exfalso; omega) | (go_ret3; exact ⟨num_none HC.out _ _ T u rfl, hb⟩)
          · have HC : Aside0 (rawNum (bytesOf a) = some j) := ⟨by rw [HRN.out, if_neg cA]⟩
            have g1 : ((j : Int) == 0) = false := beq_eq_false_iff_ne.mpr (by omega)
            have cB : ((j : Int) == 1) = false ∨ (((j : Int) == 1) = true ∧ (bt a 0 == 45) = false ∧ (bt a 0 == 43) = false) := by
              by_cases c : j = 1
              · exact .inr ⟨beq_iff_eq.mpr (by omega), beq_eq_false_iff_ne.mpr (fun e => cA (.inr ⟨c, .inl e⟩)), beq_eq_false_iff_ne.mpr (fun e => cA (.inr ⟨c, .inr e⟩))⟩
              · exact .inl (beq_eq_false_iff_ne.mpr (by omega))
            clear cA HRN
            rcases e12 with e1 | ⟨e1, e2⟩ <;> rcases cB with g2 | ⟨g2, g3, g4⟩
            all_goals
              go_wp2
              go_ret3
              exact ⟨num_some HC.out rfl rfl rfl, Below.refl _ _⟩
        all_goals
          have HR' : Aside0 (nlen (bytesOf a) = j + 1 + nlen (D a (j + 1))) := ⟨by rw [HR.out, N1, if_pos ⟨hlt, hb⟩]; omega⟩
          clear N1 hb HR f1
          go_wp2
          go_round
          case rel => exact ⟨rfl, j + 1, by go_num, by omega, HR'⟩
          case measure => simp [intOf]; omega
    · obtain rfl : j = a.size := by omega
      have HC : Aside0 (rawNum (bytesOf a) = some a.size) := ⟨by
        have : nlen (bytesOf a) = a.size := by rw [HR.out, D_nil a a.size (Nat.le_refl _)]; rfl
        unfold rawNum
        rw [if_pos (by rw [this, HL.out]), HL.out]⟩
      clear hlt HR
      go_wp2
      go_ret3
      exact ⟨num_some HC.out (by simp) (by rw [FjW.cut_end a _ (Nat.le_refl _)]) rfl, Below.refl _ _⟩
end Go.Proofs.YtjfofbgnppdlgaaDoor.Fp
