/- Proved: fastjson's parseRawString, as it is called. -/
import Derived.Test.YtjfofbgnppdlgaaDoorFjW2
namespace Go.Proofs.YtjfofbgnppdlgaaDoor.FjW
open Go.RowKit Go.Proofs.YtjfofbgnppdlgaaDoorW.PrintWords Go.Proofs.YtjfofbgnppdlgaaDoorW.PrintLast Go.Proofs.YtjfofbgnppdlgaaDoorW.PrintMore
attribute [local go_sem] max2_int min2_int max_two min_two max_three min_three max_four min_four
set_option linter.unusedVariables false
set_option linter.unusedSimpArgs false

theorem bt_pred (a : ByteArray) (n : Nat) (hn : 0 < n) : ∀ h : n - 1 < a.size, ((a[n - 1]'h).toNat : Int) = bt a ((n : Int) - 1) := by
  rw [show ((n : Int) - 1) = ((n - 1 : Nat) : Int) by omega]
  exact bt_at a ((n - 1 : Nat) : Int)
set_option maxHeartbeats 8000000 in
set_option maxRecDepth 100000 in
theorem raw (a : ByteArray) (hs : a.size ≤ 1000000) (w : World) :
    Calls Tryd.prog 24 #[.string a] w fun e w' => SaidR a (Fj.qend (bytesOf a)) e ∧ Below w.heap.size w w' := by
  rcases ix_or a 34 (by decide) (by decide) with ⟨h1, h2⟩ | ⟨n, h1, h2, h3, h4⟩
  · have HC : Aside0 (Fj.qend (bytesOf a) = none) := ⟨qend_no a h2⟩
    have H1 := Aside0.mk h1
    clear h1 h2 hs
    go_enter Tryd.func24, Tryd.ntmps24
    go_wp2_with (first | (go_at_call 38; (with_reducible refine (ixCall _ _ _ H1.out _).mono ?_); rintro e w' ⟨rfl, rfl⟩) | (go_at_call 12; (with_reducible refine (errNew _ _).mono ?_); rintro e w' ⟨⟨T, u, rfl⟩, hb⟩))
    go_ret3
    exact ⟨saidR_none HC.out _ _ _ T u rfl, hb⟩
  · have H1 := Aside0.mk h1
    clear h1
    by_cases c : n = 0
    · subst c
      have HC : Aside0 (Fj.qend (bytesOf a) = some 0) := ⟨qend_at a 0 0 (Nat.le_refl _) h2 h3 h4 (fun j _ h => absurd h (Nat.not_lt_zero _)) (.inl rfl)⟩
      clear h3 h4 hs
      go_enter Tryd.func24, Tryd.ntmps24
      go_wp2_with (first | (go_at_call 38; (with_reducible refine (ixCall _ _ _ H1.out _).mono ?_); rintro e w' ⟨rfl, rfl⟩))
      go_quiet (fail)
      go_wp2
      go_ret3
      exact ⟨saidR_some (x := ByteArray.empty) HC.out (by simp) rfl rfl, pw_below_drewN (Below.refl _ _) _⟩
    · have hx : ∀ h : n - 1 < a.size, ((a[n - 1]'h).toNat : Int) = bt a ((n : Int) - 1) := bt_pred a n (by omega)
      have hn0 : 0 < n := by omega
      have e0 : ((n : Int) == 0) = false := beq_eq_false_iff_ne.mpr (by omega)
      clear c
      by_cases c : bt a ((n : Int) - 1) = 92
      · have e1 : (bt a ((n : Int) - 1) != 92) = false := bne_eq_false_iff_eq.mpr c
        have HS := Aside0.mk hs
        have HQ : Aside0 (a = cut a 0 ∧ 0 + a.size = a.size ∧ Fj.qend (bytesOf a) = (Fj.qend (bytesOf a)).map (0 + ·) ∧ bt a (n : Int) = 34 ∧ (34 : Int) ∉ (bytesOf a).take n ∧ bt a ((n : Int) - 1) = 92) := ⟨(cut_zero a).symm, Nat.zero_add _, by cases Fj.qend (bytesOf a) <;> simp, h3, h4, c⟩
        clear h3 h4 c
        go_enter Tryd.func24, Tryd.ntmps24
        go_wp2_with (first | (go_at_call 38; (with_reducible refine (ixCall _ _ _ H1.out _).mono ?_); rintro e w' ⟨rfl, rfl⟩))
        clear e1 e0 hx
        go_loopw [0, 5] (fun v0 v5 wr => ∃ (b : ByteArray) (p m : Nat), v0 = .string b ∧ v5 = .int .i64 (m : Int) ∧ 0 < m ∧ m < b.size ∧ b.size ≤ a.size ∧ w = wr ∧ Aside0 (b = cut a p ∧ p + b.size = a.size ∧ Fj.qend (bytesOf a) = (Fj.qend (bytesOf b)).map (p + ·) ∧ bt b (m : Int) = 34 ∧ (34 : Int) ∉ (bytesOf b).take m ∧ bt b ((m : Int) - 1) = 92)) (fun v0 _ _ => match v0 with | .string b => b.size | _ => 0)
        case atStart => exact ⟨a, 0, n, rfl, rfl, hn0, h2, Nat.le_refl _, rfl, HQ⟩
        case round =>
          clear HQ hn0 h2 H1
          obtain ⟨b, p, m, rfl, rfl, hm0, hm, hba, rfl, HQ⟩ := hrel
          go_upto_block 2 with (fail)
          go_cut [7] (fun v7 wc => ∃ i : Nat, v7 = .int .i64 (i : Int) ∧ i ≤ m ∧ w = wc ∧ Aside0 (Fj.qend (bytesOf b) = if (m - i) % 2 = 0 then some m else (Fj.qend (D b (m + 1))).map (m + 1 + ·)))
          case first =>
            go_wp2_with (fail)
            go_loop [7] (fun v => ∃ i : Nat, v = .int .i64 (i : Int) ∧ i ≤ m ∧ Aside0 (∀ j, i ≤ j → j < m → bt b (j : Int) = 92)) (fun v => (intOf v).toNat)
            case atStart => exact ⟨m - 1, by go_num, by omega, ⟨fun j h1 h2 => by
              obtain rfl : j = m - 1 := by omega
              have := HQ.out.2.2.2.2.2
              rw [show ((m - 1 : Nat) : Int) = (m : Int) - 1 by omega]; exact this⟩⟩
            case round =>
              obtain ⟨i, rfl, him, HR⟩ := hrel
              have HA : Aside0 (i = 0 ∨ bt b ((i : Int) - 1) ≠ 92 → Fj.qend (bytesOf b) = if (m - i) % 2 = 0 then some m else (Fj.qend (D b (m + 1))).map (m + 1 + ·)) := ⟨fun h => qend_at b m i him hm HQ.out.2.2.2.1 HQ.out.2.2.2.2.1 HR.out h⟩
              by_cases c : i = 0
              · have HZ : Aside0 _ := ⟨HA.out (.inl c)⟩
                have e0 : decide ((0 : Int) < (i : Int)) = false := decide_eq_false (by omega)
                go_wp2
                go_meet
                case rel => exact ⟨i, by rw [c]; rfl, him, rfl, HZ⟩
              · have hi0 : 0 < i := by omega
                have hx : ∀ h : i - 1 < b.size, ((b[i - 1]'h).toNat : Int) = bt b ((i : Int) - 1) := bt_pred b i hi0
                clear c
                by_cases c : bt b ((i : Int) - 1) = 92
                · have e1 : (bt b ((i : Int) - 1) == 92) = true := beq_iff_eq.mpr c
                  have HR' : Aside0 (∀ j, i - 1 ≤ j → j < m → bt b (j : Int) = 92) := ⟨fun j h1 h2 => by
                    by_cases e : j = i - 1
                    · subst e
                      rw [show ((i - 1 : Nat) : Int) = (i : Int) - 1 by omega]; exact c
                    · exact HR.out j (by omega) h2⟩
                  clear c HA HR
                  go_wp2
                  go_round
                  case rel => exact ⟨i - 1, by go_num, by omega, HR'⟩
                  case measure => simp [intOf]; omega
                · have e1 : (bt b ((i : Int) - 1) == 92) = false := beq_eq_false_iff_ne.mpr c
                  have HZ : Aside0 _ := ⟨HA.out (.inr c)⟩
                  clear c HA
                  go_wp2
                  go_meet
                  case rel => exact ⟨i, rfl, him, rfl, HZ⟩
          case rest =>
            obtain ⟨i, rfl, him, rfl, HZ⟩ := hcut
            by_cases c : (m - i) % 2 = 0
            · have HC : Aside0 (Fj.qend (bytesOf a) = some (p + m)) := ⟨by rw [HQ.out.2.2.1, HZ.out, if_pos c]; rfl⟩
              have e2 : (((m : Int) - (i : Int)) % 2 == 0) = true := beq_iff_eq.mpr (by omega)
              have hp : (a.size : Int) - (b.size : Int) = (p : Int) := by have := HQ.out.2.1; omega
              have HX : Aside0 (cut b (m + 1) = cut a (p + m + 1)) := ⟨by rw [HQ.out.1, cut_cut]; rfl⟩
              have hpm : (p : Int) + (m : Int) ≤ (a.size : Int) := by have := HQ.out.2.1; omega
              have hpn : ((p : Int) + (m : Int)).toNat = p + m := by omega
              clear c
              go_wp2
              go_quiet (fail)
              go_wp2
              go_ret3
              exact ⟨saidR_some HC.out rfl HX.out rfl, pw_below_drewN (Below.refl _ _) _⟩
            · have e2 : (((m : Int) - (i : Int)) % 2 == 0) = false := beq_eq_false_iff_ne.mpr (by omega)
              obtain ⟨d, hd⟩ : ∃ d, b.extract (m + 1) b.size = d := ⟨_, rfl⟩
              have hds : d.size = b.size - (m + 1) := by rw [← hd]; exact cut_size b (m + 1)
              have hdD : bytesOf d = D b (m + 1) := by rw [← hd]; exact cut_bytes b (m + 1)
              have HD : Aside0 (d = cut a (p + m + 1) ∧ Fj.qend (bytesOf a) = (Fj.qend (bytesOf d)).map (p + m + 1 + ·)) := ⟨by rw [← hd, HQ.out.1]; exact cut_cut a p (m + 1), by
                rw [HQ.out.2.2.1, HZ.out, if_neg c, hdD]
                cases Fj.qend (D b (m + 1)) with
                | none => rfl
                | some q => simp only [Option.map_some]; congr 1; omega⟩
              have HP : Aside0 (p + m + 1 + d.size = a.size) := ⟨by have := HQ.out.2.1; omega⟩
              clear c HQ HZ hdD
              rcases ix_or d 34 (by decide) (by decide) with ⟨k1, k2⟩ | ⟨k, k1, k2, k3, k4⟩
              · have HC : Aside0 (Fj.qend (bytesOf a) = none) := ⟨by rw [HD.out.2, qend_no d k2]; rfl⟩
                have K1 := Aside0.mk k1
                have HDD := Aside0.mk hd
                clear k1 k2 hds hd
                go_wp2_with (first | (go_at_call 38; rw [HDD.out]; (with_reducible refine (ixCall _ _ _ K1.out _).mono ?_); rintro e w' ⟨rfl, rfl⟩) | (go_at_call 12; (with_reducible refine (errNew _ _).mono ?_); rintro e w' ⟨⟨T, u, rfl⟩, hb⟩))
                go_ret3
                exact ⟨saidR_none HC.out _ _ _ T u rfl, hb⟩
              · have K1 := Aside0.mk k1
                have HDD := Aside0.mk hd
                have HX : Aside0 (cut d (k + 1) = cut a (p + m + 1 + k + 1)) := ⟨by rw [HD.out.1, cut_cut]; rfl⟩
                have hp : (a.size : Int) - (d.size : Int) = ((p + m + 1 : Nat) : Int) := by have := HP.out; omega
                have hpm : ((p + m + 1 : Nat) : Int) + (k : Int) ≤ (a.size : Int) := by have := HP.out; omega
                have hpn : (((p + m + 1 : Nat) : Int) + (k : Int)).toNat = p + m + 1 + k := by omega
                have hda : d.size < b.size := by omega
                have hdaa : d.size ≤ a.size := by omega
                clear k1 hds hd
                by_cases c : k = 0
                · have HC : Aside0 (Fj.qend (bytesOf a) = some (p + m + 1 + k)) := ⟨by
                    rw [HD.out.2, qend_at d k 0 (Nat.zero_le _) k2 k3 k4 (fun j _ h => absurd h (by omega)) (.inl rfl), c]; rfl⟩
                  have e0 : ((k : Int) == 0) = true := beq_iff_eq.mpr (by omega)
                  clear c k3 k4
                  go_wp2_with (first | (go_at_call 38; rw [HDD.out]; (with_reducible refine (ixCall _ _ _ K1.out _).mono ?_); rintro e w' ⟨rfl, rfl⟩))
                  go_quiet (fail)
                  go_wp2
                  go_ret3
                  exact ⟨saidR_some HC.out rfl HX.out rfl, pw_below_drewN (Below.refl _ _) _⟩
                · have hk0 : 0 < k := by omega
                  have e0 : ((k : Int) == 0) = false := beq_eq_false_iff_ne.mpr (by omega)
                  have hx : ∀ h : k - 1 < d.size, ((d[k - 1]'h).toNat : Int) = bt d ((k : Int) - 1) := bt_pred d k hk0
                  clear c
                  by_cases c : bt d ((k : Int) - 1) = 92
                  · have e1 : (bt d ((k : Int) - 1) != 92) = false := bne_eq_false_iff_eq.mpr c
                    have HQ' : Aside0 (d = cut a (p + m + 1) ∧ p + m + 1 + d.size = a.size ∧ Fj.qend (bytesOf a) = (Fj.qend (bytesOf d)).map (p + m + 1 + ·) ∧ bt d (k : Int) = 34 ∧ (34 : Int) ∉ (bytesOf d).take k ∧ bt d ((k : Int) - 1) = 92) := ⟨HD.out.1, HP.out, HD.out.2, k3, k4, c⟩
                    clear c k3 k4
                    go_wp2_with (first | (go_at_call 38; rw [HDD.out]; (with_reducible refine (ixCall _ _ _ K1.out _).mono ?_); rintro e w' ⟨rfl, rfl⟩))
                    go_roundw
                    case rel => exact ⟨d, p + m + 1, k, rfl, rfl, hk0, k2, hdaa, trivial, HQ'⟩
                    case measure => exact hda
                  · have HC : Aside0 (Fj.qend (bytesOf a) = some (p + m + 1 + k)) := ⟨by
                      rw [HD.out.2, qend_at d k k (Nat.le_refl _) k2 k3 k4 (fun j h h' => absurd h' (by omega)) (.inr c)]; simp⟩
                    have e1 : (bt d ((k : Int) - 1) != 92) = true := bne_iff_ne.mpr c
                    clear c k3 k4
                    go_wp2_with (first | (go_at_call 38; rw [HDD.out]; (with_reducible refine (ixCall _ _ _ K1.out _).mono ?_); rintro e w' ⟨rfl, rfl⟩))
                    go_quiet (fail)
                    go_wp2
                    go_ret3
                    exact ⟨saidR_some HC.out rfl HX.out rfl, pw_below_drewN (Below.refl _ _) _⟩
      · have HC : Aside0 (Fj.qend (bytesOf a) = some n) := ⟨by
          rw [qend_at a n n (Nat.le_refl _) h2 h3 h4 (fun j h h' => by omega) (.inr c)]
          simp⟩
        have e1 : (bt a ((n : Int) - 1) != 92) = true := bne_iff_ne.mpr c
        clear h3 h4 c
        go_enter Tryd.func24, Tryd.ntmps24
        go_wp2_with (first | (go_at_call 38; (with_reducible refine (ixCall _ _ _ H1.out _).mono ?_); rintro e w' ⟨rfl, rfl⟩))
        go_quiet (fail)
        go_wp2
        go_ret3
        exact ⟨saidR_some HC.out rfl rfl rfl, pw_below_drewN (Below.refl _ _) _⟩
end Go.Proofs.YtjfofbgnppdlgaaDoor.FjW
