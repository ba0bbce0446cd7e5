/- What the reference's Character says of a text: the character whose bytes stand there, or none. -/
import Derived.Test.YtdllbnecbbggfaaDoorXFnGjQuoteValidx1
import Derived.Test.YtdllbnecbbggfaaDoorRunes
namespace Go.Proofs.YtdllbnecbbggfaaDoor.ChrXFnGjQuoteValid
open Go.RowKit Go.Proofs.YtdllbnecbbggfaaDoor Go.Proofs.YtdllbnecbbggfaaDoor.Base Go.Proofs.YtdllbnecbbggfaaDoor.Runes Go.Proofs.YtdllbnecbbggfaaDoor.XFnGjQuoteValid Go.Proofs.YtdllbnecbbggfaaDoorW.PrintWords Go.Proofs.YtdllbnecbbggfaaDoorW.PrintLast
set_option linter.unusedVariables false
set_option linter.unusedSimpArgs false

theorem drop_rd (s : ByteArray) (i : Int) (h0 : 0 ≤ i) (h1 : i < s.size) : (bytesOf s).drop i.toNat = bt s i :: (bytesOf s).drop (i + 1).toNat := by
  have hl : i.toNat < (bytesOf s).length := by rw [bytesOf_length]; omega
  rw [List.drop_eq_getElem_cons hl, show (i + 1).toNat = i.toNat + 1 by omega, ← rd_bytesOf, rd_get _ _ hl]
theorem high_eq (c : Int) : spec_high.f c = some (decide (55296 ≤ c ∧ c ≤ 56319)) := by
  unfold spec_high.f
  split
  · congr 1
    simp [*]
  · congr 1
    simp [*]
theorem low_eq (c : Int) : spec_low.f c = some (decide (56320 ≤ c ∧ c ≤ 57343)) := by
  unfold spec_low.f
  split
  · congr 1
    simp [*]
  · congr 1
    simp [*]
/-- What Character answers: of a character, that its bytes stand there. -/
def Ans (s : ByteArray) (i : Int) (o : Option (Int × Int × Bool)) : Prop :=
  o = some (65533, 1, false) ∨ ∃ c r, o = some (c, ((en c).length : Int), true) ∧ Sc c ∧ (bytesOf s).drop i.toNat = en c ++ r
theorem Ans.bad {s : ByteArray} {i : Int} : Ans s i (some (65533, 1, false)) := .inl rfl
theorem l0_step (k : Nat) (s : ByteArray) (hs : s.size ≤ 4294967296) (i x7 x8 x9 x10 : Int) (h0 : 0 ≤ i) (h1 : i + x10 < s.size) (h2 : x10 ≤ x8) (h3 : 1 ≤ x10) (h7 : 0 ≤ x7) (h8 : x7 ≤ 16777216) :
    spec_Character.l0 (k + 1) s i x7 x8 x9 x10 = if bt s (i + x10) < 128 then some (65533, 1, false) else if bt s (i + x10) > 191 then some (65533, 1, false) else spec_Character.l0 k s i (x7 * 64 + bt s (i + x10) - 128) x8 x9 (x10 + 1) := by
  have hb := bt_range s (i + x10)
  rw [spec_Character.l0, if_pos h2, w64 (i := i + x10) (by omega) (by omega), if_pos (by omega), if_pos h1, w64 (i := bt s (i + x10)) (by omega) (by omega), w64 (i := x7 * 64) (by omega) (by omega), w64 (i := x7 * 64 + bt s (i + x10)) (by omega) (by omega),
    w64i (i := x7 * 64 + bt s (i + x10) - 128) (by omega) (by omega), w64 (i := x10 + 1) (by omega) (by omega)]
theorem l0_end (k : Nat) (s : ByteArray) (i x7 x8 x9 x10 : Int) (h : x8 < x10) (h0 : 0 ≤ x8) (h1 : x8 ≤ 3) :
    spec_Character.l0 (k + 1) s i x7 x8 x9 x10 = if x7 < x9 ∨ x7 > 1114111 ∨ (55296 ≤ x7 ∧ x7 ≤ 57343) then some (65533, 1, false) else some (x7, x8 + 1, true) := by
  rw [spec_Character.l0, if_neg (by omega), w64 (i := x8 + 1) (by omega) (by omega), high_eq, low_eq]
  simp only [Option.bind_some, decide_eq_true_eq]
  repeat' split
  all_goals first | rfl | (exfalso; omega)
theorem j2_ans (k : Nat) (hk : 6 ≤ k) (s : ByteArray) (hs : s.size ≤ 4294967296) (i : Int) (h0 : 0 ≤ i) (h1 : i < s.size) :
    (192 ≤ bt s i → bt s i ≤ 223 → Ans s i (spec_Character.j2 k s i (bt s i - 192) 1 128)) ∧ (224 ≤ bt s i → bt s i ≤ 239 → Ans s i (spec_Character.j2 k s i (bt s i - 224) 2 2048)) ∧ (240 ≤ bt s i → bt s i ≤ 244 → Ans s i (spec_Character.j2 k s i (bt s i - 240) 3 65536)) := by
  obtain ⟨j, rfl⟩ : ∃ j, k = j + 6 := ⟨k - 6, by omega⟩
  have hd0 := drop_rd s i h0 h1
  have r1 := bt_range s (i + 1)
  have r2 := bt_range s (i + 2)
  have r3 := bt_range s (i + 3)
  refine ⟨fun a b => ?_, fun a b => ?_, fun a b => ?_⟩
  · rw [spec_Character.j2, w64i (i := (s.size : Int) - i) (by omega) (by omega)]
    split
    · exact .bad
    · have hd1 := drop_rd s (i + 1) (by omega) (by omega)
      rw [l0_step (j + 4) s hs i _ 1 128 1 h0 (by omega) (by omega) (by omega) (by omega) (by omega)]
      split
      · exact .bad
      · split
        · exact .bad
        · rw [l0_end (j + 3) s i _ 1 128 (1 + 1) (by omega) (by omega) (by omega)]
          split
          · exact .bad
          · have e : en ((bt s i - 192) * 64 + bt s (i + 1) - 128) = [bt s i, bt s (i + 1)] := by
              unfold en
              rw [Lib.encodeRuneZ_two (by omega) (by omega)]
              congr 1
              · omega
              · congr 1
                omega
            refine .inr ⟨_, (bytesOf s).drop (i + 1 + 1).toNat, by rw [e]; rfl, by unfold Sc; omega, ?_⟩
            rw [e, hd0, hd1]
            rfl
  · rw [spec_Character.j2, w64i (i := (s.size : Int) - i) (by omega) (by omega)]
    split
    · exact .bad
    · have hd1 := drop_rd s (i + 1) (by omega) (by omega)
      have hd2 := drop_rd s (i + 1 + 1) (by omega) (by omega)
      rw [show i + 1 + 1 = i + 2 by omega] at hd1 hd2
      rw [l0_step (j + 4) s hs i _ 2 2048 1 h0 (by omega) (by omega) (by omega) (by omega) (by omega)]
      split
      · exact .bad
      · split
        · exact .bad
        · rw [l0_step (j + 3) s hs i _ 2 2048 (1 + 1) h0 (by omega) (by omega) (by omega) (by omega) (by omega), show i + (1 + 1) = i + 2 by omega]
          split
          · exact .bad
          · split
            · exact .bad
            · rw [l0_end (j + 2) s i _ 2 2048 (1 + 1 + 1) (by omega) (by omega) (by omega)]
              split
              · exact .bad
              · have e : en (((bt s i - 224) * 64 + bt s (i + 1) - 128) * 64 + bt s (i + 2) - 128) = [bt s i, bt s (i + 1), bt s (i + 2)] := by
                  unfold en
                  rw [Lib.encodeRuneZ_three (by omega)]
                  congr 1
                  · omega
                  · congr 1
                    · omega
                    · congr 1
                      omega
                refine .inr ⟨_, (bytesOf s).drop (i + 2 + 1).toNat, by rw [e]; rfl, by unfold Sc; omega, ?_⟩
                rw [e, hd0, hd1, hd2]
                rfl
  · rw [spec_Character.j2, w64i (i := (s.size : Int) - i) (by omega) (by omega)]
    split
    · exact .bad
    · have hd1 := drop_rd s (i + 1) (by omega) (by omega)
      have hd2 := drop_rd s (i + 1 + 1) (by omega) (by omega)
      have hd3 := drop_rd s (i + 1 + 1 + 1) (by omega) (by omega)
      rw [show i + 1 + 1 = i + 2 by omega] at hd1 hd2 hd3
      rw [show i + 2 + 1 = i + 3 by omega] at hd2 hd3
      rw [l0_step (j + 4) s hs i _ 3 65536 1 h0 (by omega) (by omega) (by omega) (by omega) (by omega)]
      split
      · exact .bad
      · split
        · exact .bad
        · rw [l0_step (j + 3) s hs i _ 3 65536 (1 + 1) h0 (by omega) (by omega) (by omega) (by omega) (by omega), show i + (1 + 1) = i + 2 by omega]
          split
          · exact .bad
          · split
            · exact .bad
            · rw [l0_step (j + 2) s hs i _ 3 65536 (1 + 1 + 1) h0 (by omega) (by omega) (by omega) (by omega) (by omega), show i + (1 + 1 + 1) = i + 3 by omega]
              split
              · exact .bad
              · split
                · exact .bad
                · rw [l0_end (j + 1) s i _ 3 65536 (1 + 1 + 1 + 1) (by omega) (by omega) (by omega)]
                  split
                  · exact .bad
                  · have e : en ((((bt s i - 240) * 64 + bt s (i + 1) - 128) * 64 + bt s (i + 2) - 128) * 64 + bt s (i + 3) - 128) = [bt s i, bt s (i + 1), bt s (i + 2), bt s (i + 3)] := by
                      unfold en
                      rw [Lib.encodeRuneZ_four (by omega) (by omega)]
                      congr 1
                      · omega
                      · congr 1
                        · omega
                        · congr 1
                          · omega
                          · congr 1
                            omega
                    refine .inr ⟨_, (bytesOf s).drop (i + 3 + 1).toNat, by rw [e]; rfl, by unfold Sc; omega, ?_⟩
                    rw [e, hd0, hd1, hd2, hd3]
                    rfl
theorem char_ans (k : Nat) (hk : 9 ≤ k) (s : ByteArray) (hs : s.size ≤ 4294967296) (i : Int) (h0 : 0 ≤ i) (h1 : i < s.size) : Ans s i (spec_Character.f k s i) := by
  have hb := bt_range s i
  obtain ⟨j, rfl⟩ : ∃ j, k = j + 9 := ⟨k - 9, by omega⟩
  have J1 : ∀ b : Bool, (b = true → bt s i ≤ 239) → 224 ≤ bt s i → (b = false → 239 < bt s i) → Ans s i (spec_Character.j1 (j + 8) s i (bt s i) b) := by
    intro b h2 h3 h4
    rw [spec_Character.j1, w64i (i := bt s i - 224) (by omega) (by omega), w64i (i := bt s i - 240) (by omega) (by omega)]
    cases b with
    | true =>
      rw [if_pos rfl]
      exact (j2_ans (j + 7) (by omega) s hs i h0 h1).2.1 h3 (h2 rfl)
    | false =>
      rw [if_neg (by simp)]
      have := h4 rfl
      split
      · split
        · exact (j2_ans (j + 7) (by omega) s hs i h0 h1).2.2 (by omega) (by omega)
        · exact .bad
      · exact .bad
  unfold spec_Character.f
  rw [if_pos h0, if_pos h1, w64 (i := bt s i) (by omega) (by omega)]
  split
  · have e : en (bt s i) = [bt s i] := en_ascii (by omega) (by omega)
    refine .inr ⟨_, (bytesOf s).drop (i + 1).toNat, by rw [e]; rfl, by unfold Sc; omega, ?_⟩
    rw [e, drop_rd s i h0 h1]
    rfl
  · split
    · rw [spec_Character.j0, w64i (i := bt s i - 192) (by omega) (by omega)]
      by_cases c : bt s i ≤ 223
      · rw [if_pos (by simpa using c)]
        exact (j2_ans (j + 8) (by omega) s hs i h0 h1).1 (by omega) c
      · rw [if_neg (by simpa using c)]
        split
        · exact J1 _ (by simp) (by omega) (by simp)
        · omega
    · rw [spec_Character.j0]
      rw [if_neg (by simp)]
      split
      · omega
      · have hlt : bt s i < 224 := by omega
        rw [spec_Character.j1, if_neg (by simp), if_neg (by omega)]
        exact .bad

end Go.Proofs.YtdllbnecbbggfaaDoor.ChrXFnGjQuoteValid
