/- fastjson's parseRawKey, of every text. -/
import Derived.Test.YtjfofbgnppdlgaaDoorFpBase2
import Derived.Test.YtjfofbgnppdlgaaDoorFjW3
namespace Go.Proofs.YtjfofbgnppdlgaaDoor.Fp
open Go.RowKit Go.Proofs.YtjfofbgnppdlgaaDoorW.PrintWords Go.Proofs.YtjfofbgnppdlgaaDoorW.PrintLast Go.Proofs.YtjfofbgnppdlgaaDoorW.PrintMore
open Go.Proofs.YtjfofbgnppdlgaaDoor.FjW (cut cut_cut cut_size cut_bytes cut_zero cut_bt bt_out D rd_D rd_D0 D_drop D_len D_nil D_cons ws_at skipWS errNew SaidR saidR_none saidR_some mem_take bt_get qend_at qend_no)
set_option linter.unusedVariables false
set_option linter.unusedSimpArgs false

theorem not_in (a : ByteArray) (j : Nat) (hj : j ≤ a.size) (c : Int) (h : ∀ i : Nat, i < j → bt a (i : Int) ≠ c) : c ∉ (bytesOf a).take j := fun hm => by
  obtain ⟨k, hk, e⟩ := mem_take hm
  rw [bt_get a k (by omega)] at e
  exact h k hk (Option.some.inj e)
set_option maxHeartbeats 4000000 in
set_option maxRecDepth 100000 in
theorem rawKeyA (a : ByteArray) (hs : a.size ≤ 1000000) (w : World) :
    Calls Tryd.prog 37 #[.string a] w fun e w' => SaidR a (Fj.qend (bytesOf a)) e ∧ Below w.heap.size w w' := by
  go_enter Tryd.func37, Tryd.ntmps37
  go_wp2
  go_loop [8] (fun v => ∃ j : Nat, v = .int .i64 (j : Int) ∧ j ≤ a.size ∧ Aside0 (∀ i : Nat, i < j → bt a (i : Int) ≠ 34 ∧ bt a (i : Int) ≠ 92)) (fun v => a.size - (intOf v).toNat)
  case atStart => exact ⟨0, rfl, Nat.zero_le _, ⟨fun i hi => absurd hi (Nat.not_lt_zero _)⟩⟩
  case round =>
    obtain ⟨j, rfl, hj, HJ⟩ := hrel
    by_cases hlt : j < a.size
    · have hx : ∀ h : j < a.size, ((a[j]'h).toNat : Int) = bt a (j : Int) := bt_at a (j : Int)
      by_cases c : bt a (j : Int) = 34
      · have HC : Aside0 (Fj.qend (bytesOf a) = some j) := ⟨by
          refine (qend_at a j j (Nat.le_refl _) hlt c (not_in a j hj 34 fun i hi => (HJ.out i hi).1) (fun i h1 h2 => by omega) ?_).trans (by simp)
          by_cases z : j = 0
          · exact .inl z
          · exact .inr (by rw [show (j : Int) - 1 = ((j - 1 : Nat) : Int) by omega]; exact (HJ.out (j - 1) (by omega)).2)⟩
        have e1 : (bt a (j : Int) == 34) = true := beq_iff_eq.mpr c
        have q1 : (j : Int) + 1 ≤ (a.size : Int) := by omega
        clear c HJ
        go_wp2
        go_quiet (fail)
        go_wp2
        go_ret3
        exact ⟨saidR_some HC.out rfl rfl rfl, pw_below_drewN (Below.refl _ _) _⟩
      · have e1 : (bt a (j : Int) == 34) = false := beq_eq_false_iff_ne.mpr c
        by_cases c2 : bt a (j : Int) = 92
        · have e2 : (bt a (j : Int) == 92) = true := beq_iff_eq.mpr c2
          have HS := Aside0.mk hs
          clear c c2 HJ
          cases ho : Fj.qend (bytesOf a) with
          | none =>
            have HO := Aside0.mk ho
            clear ho
            go_wp2_with (first | (go_at_call 24; (with_reducible refine (FjW.raw a HS.out _).mono ?_); rintro e w2 ⟨h, hb⟩; rw [HO.out] at h; obtain ⟨x, y, T, u, rfl⟩ := h; have HB := Aside0.mk hb; clear hb))
            go_ret3
            exact ⟨saidR_none HO.out _ _ _ T u rfl, HB.out⟩
          | some q =>
            have HO := Aside0.mk ho
            clear ho
            go_wp2_with (first | (go_at_call 24; (with_reducible refine (FjW.raw a HS.out _).mono ?_); rintro e w2 ⟨h, hb⟩; rw [HO.out] at h; have h : e = _ := h; subst h; have HB := Aside0.mk hb; clear hb))
            go_ret3
            exact ⟨saidR_some HO.out rfl rfl rfl, HB.out⟩
        · have e2 : (bt a (j : Int) == 92) = false := beq_eq_false_iff_ne.mpr c2
          have HJ' : Aside0 (∀ i : Nat, i < j + 1 → bt a (i : Int) ≠ 34 ∧ bt a (i : Int) ≠ 92) := ⟨fun i hi => by
            by_cases e : i = j
            · subst e; exact ⟨c, c2⟩
            · exact HJ.out i (by omega)⟩
          clear c c2 HJ
          go_wp2
          go_round
          case rel => exact ⟨j + 1, by go_num, by omega, HJ'⟩
          case measure => simp [intOf]; omega
    · obtain rfl : j = a.size := by omega
      have HC : Aside0 (Fj.qend (bytesOf a) = none) := ⟨qend_no a fun hm => not_in a a.size (Nat.le_refl _) 34 (fun i hi => (HJ.out i hi).1) (by rw [List.take_of_length_le (by rw [bytesOf_length]; exact Nat.le_refl _)]; exact hm)⟩
      clear hlt HJ
      go_wp2_with (first | (go_at_call 12; (with_reducible refine (errNew _ _).mono ?_); rintro e w' ⟨⟨T, u, rfl⟩, hb⟩))
      go_ret3
      exact ⟨saidR_none HC.out _ _ _ T u rfl, hb⟩
end Go.Proofs.YtjfofbgnppdlgaaDoor.Fp
