/- fastjson's parseValue, of every text: words that begin with n, and all together. -/
import Derived.Test.YtjfofbgnppdlgaaDoorFpVal2
namespace Go.Proofs.YtjfofbgnppdlgaaDoor.Fp
open Go.RowKit Go.Proofs.YtjfofbgnppdlgaaDoorW.PrintWords Go.Proofs.YtjfofbgnppdlgaaDoorW.PrintLast Go.Proofs.YtjfofbgnppdlgaaDoorW.PrintMore
open Go.Proofs.YtjfofbgnppdlgaaDoor.FjW (cut cut_cut cut_size cut_bytes cut_zero cut_bt bt_out D rd_D rd_D0 D_drop D_len D_nil D_cons ws_at skipWS errNew SaidR)
set_option linter.unusedVariables false
set_option linter.unusedSimpArgs false

set_option maxHeartbeats 8000000 in
set_option maxRecDepth 100000 in
theorem valN (k : Nat) (pb n : Nat) (bv v : Value) (w : World) (a : ByteArray) (d : Nat) (hP : Pb w pb bv v) (hC : Ca w pb n v) (hn : n + a.size ≤ 1000000) (hd : d < 300) (hq : bt a 0 = 110) (hz : 0 < a.size) :
    Calls Tryd.prog 10 #[.pointer (some ⟨pb, 1, none⟩), .string a, .int .i64 (d : Int)] w fun e w' => Out pb n bv v w a 0 (pval (k + 1) d (bytesOf a)) e w' := by
  have HP := Aside0.mk hP
  have HC := Aside0.mk hC
  have HN0 : Aside0 (n ≤ 1000000) := ⟨by omega⟩
  have e0 : ((a.size : Int) == 0) = false := beq_eq_false_iff_ne.mpr (by omega)
  have hx : ∀ h : 0 < a.size, ((a[0]'h).toNat : Int) = bt a 0 := bt_at a 0
  rw [hq] at hx
  have q1 : decide (300 < (d : Int) + 1) = false := decide_eq_false (by omega)
  have b1 : (d : Int) ≤ 300 := by omega
  have HPV := Aside0.mk ((pval_word k d a hz hd).2.2 hq)
  have HB := Aside0.mk (begins_eq a [110, 117, 108, 108] 4 rfl)
  clear hP hC hq hd
  by_cases h3 : a.size < 3
  · have HN : Aside0 (pval (k + 1) d (bytesOf a) = none) := ⟨by
      rw [HPV.out, begins_short (by rw [bytesOf_length]; exact Nat.lt_of_lt_of_le h3 (by decide)), if_neg (by decide), if_neg]
      unfold fold3
      rw [decide_eq_false (by rw [bytesOf_length]; omega), Bool.false_and]
      decide⟩
    go_enter Tryd.func10, Tryd.ntmps10
    go_wp2_with (go_at_call 12; (with_reducible refine (errNew _ _).mono ?_); rintro e w' ⟨⟨T, u, rfl⟩, hb⟩)
    go_ret3
    exact out_none HN.out n v ((Fine.refl HP.out HC.out).below hb) (by omega) _ T u rfl
  · have h3' : 3 ≤ a.size := by omega
    have q3 : (3 : Int) ≤ (a.size : Int) := by omega
    have HZ : Aside0 (∀ W, Calls Tryd.prog 26 #[.string (a.extract 0 3), .string ⟨#[110, 97, 110]⟩] W fun e w' => e = .returned (.bool (fold3 (bytesOf a) 110 97 110)) ∧ W = w') := ⟨fun W => zzw a 0 (by omega) 110 97 110 _ rfl W⟩
    clear h3
    have hbr : (4 ≤ a.size ∧ Fj.begins [110, 117, 108, 108] (bytesOf a) = true) ∨ (Fj.begins [110, 117, 108, 108] (bytesOf a) = false ∧ (a.size = 3 ∨ (4 ≤ a.size ∧ ((a.extract 0 4).toList == [110, 117, 108, 108]) = false))) := by
      by_cases h4 : a.size < 4
      · exact .inr ⟨begins_short (by rw [bytesOf_length]; exact h4), .inl (by omega)⟩
      · cases hB : Fj.begins [110, 117, 108, 108] (bytesOf a) with
        | true => exact .inl ⟨by omega, rfl⟩
        | false => exact .inr ⟨rfl, .inr ⟨by omega, HB.out.trans hB⟩⟩
    rcases hbr with ⟨h4, hB⟩ | ⟨hB, hbr⟩
    · have HN : Aside0 (pval (k + 1) d (bytesOf a) = some (.lit 0, 4)) := ⟨by rw [HPV.out, if_pos hB]⟩
      have e1 : ((a.extract 0 4).toList == [110, 117, 108, 108]) = true := HB.out.trans hB
      have q2 : (4 : Int) ≤ (a.size : Int) := by omega
      clear hB
      go_enter Tryd.func10, Tryd.ntmps10
      go_wp2
      go_region
      all_goals
        go_wp2
        go_ret3
        exact (out_lit HP.out HC.out HN.out h4 rfl rfl).same rfl ⟨rfl, rfl, rfl⟩
    · cases hf : fold3 (bytesOf a) 110 97 110 with
      | true =>
        have HN : Aside0 (pval (k + 1) d (bytesOf a) = some (.num ((bytesOf a).take 3), 3)) := ⟨by rw [HPV.out, hB, if_neg (by decide), if_pos hf]⟩
        have HF := Aside0.mk hf
        clear hB hf
        rcases hbr with h4 | ⟨h4, e1⟩
        all_goals
          go_enter Tryd.func10, Tryd.ntmps10
          go_wp2_with (first
            | (go_at_call 26; (with_reducible refine (HZ.out _).mono ?_); rintro e w2 ⟨rfl, rfl⟩; rw [HF.out])
            | (go_at_call 25; (with_reducible refine (getValue _ pb n bv v HP.out HC.out HN0.out).mono ?_); rintro e w1 ⟨b, v1, rfl, hg⟩; have HG := Aside0.mk hg; have hz4 := hg.zero 4 (by omega); have hz3 : ∀ u, (w1.setCell ⟨b, n * 5 + 4, none⟩ u).cell? ⟨b, n * 5 + 3, none⟩ = some emptyS := (fun u => (World.cell?_setCell_other _ _ _ _ (fun e => by injection e with _ e _; omega)).trans (hg.zero 3 (by omega))); have hfr := free_of hg.blt; clear hg))
          go_quiet (fail)
          go_wp2
          go_ret3
          refine (out_leaf HG.out HN.out h3' (by omega) ?ht (.inr ⟨?hx, rfl⟩) rfl).same rfl ⟨rfl, rfl, rfl⟩
          case ht => first | rfl | exact (FjW.cut_end a 3 (by omega)).symm
          case hx => rw [take_ex]
      | false =>
        have HN : Aside0 (pval (k + 1) d (bytesOf a) = none) := ⟨by rw [HPV.out, hB, if_neg (by decide), if_neg (by rw [hf]; decide)]⟩
        have HF := Aside0.mk hf
        clear hB hf
        rcases hbr with h4 | ⟨h4, e1⟩
        all_goals
          go_enter Tryd.func10, Tryd.ntmps10
          go_wp2_with (first
            | (go_at_call 26; (with_reducible refine (HZ.out _).mono ?_); rintro e w2 ⟨rfl, rfl⟩; rw [HF.out])
            | (go_at_call 12; (with_reducible refine (errNew _ _).mono ?_); rintro e w' ⟨⟨T, u, rfl⟩, hb⟩))
          go_ret3
          exact out_none HN.out n v ((Fine.refl HP.out HC.out).below hb) (by omega) _ T u rfl
/-- Every text. -/
def All (_ : List Int) : Prop := True
set_option maxHeartbeats 8000000 in
set_option maxRecDepth 100000 in
theorem valDeep (k : Nat) (pb n : Nat) (bv v : Value) (w : World) (a : ByteArray) (hP : Pb w pb bv v) (hC : Ca w pb n v) (hz : 0 < a.size) (hs : n + a.size ≤ 1000000) :
    Calls Tryd.prog 10 #[.pointer (some ⟨pb, 1, none⟩), .string a, .int .i64 ((300 : Nat) : Int)] w fun e w' => Out pb n bv v w a 0 (pval (k + 1) 300 (bytesOf a)) e w' := by
  have HP := Aside0.mk hP
  have HC := Aside0.mk hC
  have e0 : ((a.size : Int) == 0) = false := beq_eq_false_iff_ne.mpr (by omega)
  have HC1 : Aside0 (pval (k + 1) 300 (bytesOf a) = none) := ⟨by
    have hne : bytesOf a ≠ [] := fun e => by have := bytesOf_length a; rw [e] at this; simp at this; omega
    rw [pval, if_neg hne, if_pos (by omega)]⟩
  clear hP hC
  go_enter Tryd.func10, Tryd.ntmps10
  go_wp2_with (first | (go_at_call 12; (with_reducible refine (errNew _ _).mono ?_); rintro e w' ⟨⟨T, u, rfl⟩, hb⟩))
  go_ret3
  exact out_none HC1.out n v ((Fine.refl HP.out HC.out).below hb) (by omega) _ T u rfl
theorem valA (k : Nat) (hV : ∀ j, j < k → VC All j) : VC All k := by
  intro pb n bv v w a d hP hC hn hk ha hd
  obtain ⟨k, rfl⟩ : ∃ j, k = j + 1 := ⟨k - 1, by omega⟩
  by_cases hz : a.size = 0
  · have hb : bt a 0 = 0 := bt_out a 0 (by omega)
    exact valP All (fun _ _ h => h) (k + 1) hV pb n bv v w a d hP hC hn hk ha hd (by rw [hb]; decide)
  have hz : 0 < a.size := by omega
  by_cases hdd : d = 300
  · subst hdd
    exact valDeep k pb n bv v w a hP hC hz hn
  have hd' : d < 300 := by omega
  by_cases c1 : bt a 0 = 123
  · exact valO All (fun _ _ h => h) (k + 1) hV pb n bv v w a d hP hC hn hk ha hd' c1 hz
  by_cases c2 : bt a 0 = 34
  · exact valS k pb n bv v w a d hP hC hn hd' c2 hz
  by_cases c3 : bt a 0 = 116
  · exact valT k pb n bv v w a d hP hC hn hd' c3 hz
  by_cases c4 : bt a 0 = 102
  · exact valF k pb n bv v w a d hP hC hn hd' c4 hz
  by_cases c5 : bt a 0 = 110
  · exact valN k pb n bv v w a d hP hC hn hd' c5 hz
  exact valP All (fun _ _ h => h) (k + 1) hV pb n bv v w a d hP hC hn hk ha hd ⟨c1, c2, c3, c4, c5⟩
theorem vcA (k : Nat) : VC All k := by
  induction k using Nat.strongRecOn with
  | _ k ih => exact valA k ih
end Go.Proofs.YtjfofbgnppdlgaaDoor.Fp
