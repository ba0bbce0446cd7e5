/- Proved: the inner reader of one escape answers as the reference's Unescape, Paired and the torn half say. -/
import Derived.Test.YtdllbnecbbggfaaDoorXFnJpEscapeAtx8
import Derived.Test.YtdllbnecbbggfaaDoorUnesc2FnJpEscapeAt
namespace Go.Proofs.YtdllbnecbbggfaaDoor.Pure
open Go.RowKit Go.Proofs.YtdllbnecbbggfaaDoor Go.Proofs.YtdllbnecbbggfaaDoor.Base Go.Proofs.YtdllbnecbbggfaaDoor.XFnJpEscapeAt Go.Proofs.YtdllbnecbbggfaaDoor.UnescXFnJpEscapeAt Go.Proofs.YtdllbnecbbggfaaDoorW.PrintWords Go.Proofs.YtdllbnecbbggfaaDoorW.PrintLast
set_option linter.unusedVariables false

theorem bt_cut (s : ByteArray) (a b : Nat) (i : Int) (h0 : 0 ≤ i) (h1 : i < (b : Int) - a) (h2 : b ≤ s.size) : bt (s.extract a b) i = bt s (i + a) := by
  unfold bt
  rw [dif_pos (by rw [ByteArray.size_extract]; omega), dif_pos (by omega)]
  simp only [ByteArray.getElem_extract]
  congr 3
  omega
theorem size_cut (s : ByteArray) (a b : Nat) (h : b ≤ s.size) : (s.extract a b).size = b - a := by rw [ByteArray.size_extract]; omega
theorem U_cut (s : ByteArray) (a b : Nat) (i : Int) (h0 : 0 ≤ i) (h2 : b ≤ s.size) (h1 : i + 6 ≤ (b : Int) - a) : U (s.extract a b) i = U s (i + a) := by
  unfold U
  rw [size_cut s a b h2, bt_cut s a b i h0 (by omega) h2, bt_cut s a b (i + 1) (by omega) (by omega) h2, bt_cut s a b (i + 2) (by omega) (by omega) h2, bt_cut s a b (i + 3) (by omega) (by omega) h2,
    bt_cut s a b (i + 4) (by omega) (by omega) h2, bt_cut s a b (i + 5) (by omega) (by omega) h2,
    show i + 1 + a = i + a + 1 by omega, show i + 2 + a = i + a + 2 by omega, show i + 3 + a = i + a + 3 by omega, show i + 4 + a = i + a + 4 by omega, show i + 5 + a = i + a + 5 by omega]
  by_cases c : bt s (i + a) = 92 ∧ bt s (i + a + 1) = 117
  · rw [if_pos ⟨by omega, c.1, c.2⟩, if_pos ⟨by omega, c.1, c.2⟩]
  · rw [if_neg (fun h => c ⟨h.2.1, h.2.2⟩), if_neg (fun h => c ⟨h.2.1, h.2.2⟩)]
theorem U_over (s : ByteArray) (i : Int) (h : s.size < i + 6) : U s i = none := by
  unfold U; rw [if_neg (by omega)]

/-! ### the program's side -/
theorem h2I_eq (k : Nat) (hk : 2 ≤ k) (c : Int) : jsonparser_h2I.f k c = some (match hv c with | some v => v | none => -1) := by
  obtain ⟨j, rfl⟩ : ∃ j, k = j + 2 := ⟨k - 2, by omega⟩
  by_cases a1 : 48 ≤ c <;> by_cases a2 : c ≤ 57 <;> by_cases a3 : 97 ≤ c <;> by_cases a4 : c ≤ 102 <;> by_cases a5 : 65 ≤ c <;> by_cases a6 : c ≤ 70 <;>
    first
      | omega
      | (simp [jsonparser_h2I.f, jsonparser_h2I.j0, jsonparser_h2I.j1, hv, a1, a2, a3, a4, a5, a6]; done)
      | (simp [jsonparser_h2I.f, jsonparser_h2I.j0, jsonparser_h2I.j1, hv, a1, a2, a3, a4, a5, a6]; change _ = c - 48; omega)
      | (simp [jsonparser_h2I.f, jsonparser_h2I.j0, jsonparser_h2I.j1, hv, a1, a2, a3, a4, a5, a6]; change _ = c - 87; omega)
      | (simp [jsonparser_h2I.f, jsonparser_h2I.j0, jsonparser_h2I.j1, hv, a1, a2, a3, a4, a5, a6]; change _ = c - 55; omega)
theorem w32 {i : Int} (h0 : -2147483648 ≤ i) (h : i ≤ 2147483647) : wrap32 i = i := by unfold wrap32; omega
theorem single_eq (k : Nat) (hk : 2 ≤ k) (l : List Int) :
    jsonparser_decodeSingleUnicodeEscape.f k l = some (match (if (l.length : Int) < 6 then none else h4 (hv (rd l 2)) (hv (rd l 3)) (hv (rd l 4)) (hv (rd l 5))) with | some v => (v, true) | none => (65533, false)) := by
  unfold jsonparser_decodeSingleUnicodeEscape.f
  by_cases c : (l.length : Int) < 6
  · rw [if_pos c, if_pos c]
  · rw [if_neg c, if_neg c, if_pos (by omega), h2I_eq k hk]
    simp only [Option.bind_some]
    rw [if_pos (by omega), h2I_eq k hk]
    simp only [Option.bind_some]
    rw [if_pos (by omega), h2I_eq k hk]
    simp only [Option.bind_some]
    rw [if_pos (by omega), h2I_eq k hk]
    simp only [Option.bind_some]
    unfold h4
    cases e1 : hv (rd l 2) with
    | none => simp
    | some a =>
      have r1 := hv_range e1
      simp only [Option.bind_some]
      rw [if_neg (by omega)]
      cases e2 : hv (rd l 3) with
      | none => simp
      | some b =>
        have r2 := hv_range e2
        simp only [Option.bind_some]
        rw [if_neg (by omega)]
        cases e3 : hv (rd l 4) with
        | none => simp
        | some c =>
          have r3 := hv_range e3
          simp only [Option.bind_some]
          rw [if_neg (by omega)]
          cases e4 : hv (rd l 5) with
          | none => simp
          | some d =>
            have r4 := hv_range e4
            simp only [Option.bind_some]
            rw [if_neg (by omega)]
            rw [w64 (i := a * 4096) (by omega) (by omega), w64 (i := b * 256) (by omega) (by omega), w64 (i := c * 16) (by omega) (by omega), w64 (i := a * 4096 + b * 256) (by omega) (by omega), w64 (i := a * 4096 + b * 256 + c * 16) (by omega) (by omega), w64 (i := a * 4096 + b * 256 + c * 16 + d) (by omega) (by omega), w32 (by omega) (by omega)]
/-- What the program's reader of a unit answers at a backslash and "u". -/
def du (s : ByteArray) : Int × Int :=
  match U s 0 with
  | none => (65533, -1)
  | some v => if Low v then (65533, 6) else if High v then
      (if 8 ≤ s.size ∧ bt s 6 = 92 ∧ bt s 7 = 117 then match U s 6 with | none => (65533, -1) | some w => if Low w then (pair v w, 12) else (65533, 6) else (65533, 6))
    else (v, 6)
theorem U_list (s : ByteArray) (h1 : bt s 0 = 92) (h2 : bt s 1 = 117) : (if ((bytesOf s).length : Int) < 6 then none else h4 (hv (rd (bytesOf s) 2)) (hv (rd (bytesOf s) 3)) (hv (rd (bytesOf s) 4)) (hv (rd (bytesOf s) 5))) = U s 0 := by
  rw [bytesOf_length]
  by_cases c : (s.size : Int) < 6
  · rw [if_pos c, U_over s 0 (by omega)]
  · rw [if_neg c, U_h4 (by omega) h1 (by simpa using h2)]
    simp only [rd_bytesOf]
    rfl
theorem rd_drop (l : List Int) (n : Nat) (i : Int) (h : 0 ≤ i) : rd (l.drop n) i = rd l (i + n) := by
  unfold rd
  rw [List.getD_eq_getElem?_getD, List.getD_eq_getElem?_getD, List.getElem?_drop, show n + i.toNat = (i + n).toNat by omega]
theorem U_list6 (s : ByteArray) (h1 : bt s 6 = 92) (h2 : bt s 7 = 117) (h3 : 6 ≤ s.size) : (if (((bytesOf s).drop 6).length : Int) < 6 then none else h4 (hv (rd ((bytesOf s).drop 6) 2)) (hv (rd ((bytesOf s).drop 6) 3)) (hv (rd ((bytesOf s).drop 6) 4)) (hv (rd ((bytesOf s).drop 6) 5))) = U s 6 := by
  rw [List.length_drop, bytesOf_length]
  by_cases c : (s.size : Int) < 12
  · rw [if_pos (by omega), U_over s 6 (by omega)]
  · rw [if_neg (by omega), U_h4 (by omega) h1 (by simpa using h2)]
    rw [rd_drop _ _ _ (by omega), rd_drop _ _ _ (by omega), rd_drop _ _ _ (by omega), rd_drop _ _ _ (by omega)]
    simp only [rd_bytesOf]
    rfl
theorem du_eq (k : Nat) (hk : 3 ≤ k) (s : ByteArray) (h1 : bt s 0 = 92) (h2 : bt s 1 = 117) : jsonparser_decodeUnicodeEscape.f k (bytesOf s) = some (du s) := by
  obtain ⟨j, rfl⟩ : ∃ j, k = j + 3 := ⟨k - 3, by omega⟩
  unfold jsonparser_decodeUnicodeEscape.f du
  rw [single_eq (j + 3) (by omega), U_list s h1 h2]
  cases hU : U s 0 with
  | none => simp
  | some v =>
    have hr := U_range hU
    have ha := U_at hU
    simp only [Option.bind_some, if_true, jsonparser_isUTF16EncodedRune.f, bytesOf_length]
    by_cases c1 : Low v
    · have c1' := c1
      unfold Low at c1'
      rw [if_pos (by omega), if_pos c1]
      simp only [Option.bind_some, decide_eq_true_eq]
      rw [if_pos (by omega), if_pos (by omega)]
    · have c1' := c1
      unfold Low at c1'
      rw [if_neg c1]
      by_cases c2 : High v
      · have c2' := c2
        unfold High at c2'
        rw [if_pos (by omega), if_pos c2]
        simp only [Option.bind_some, decide_eq_true_eq, rd_bytesOf]
        rw [if_pos (by omega), if_neg (by omega)]
        by_cases c3 : (s.size : Int) < 8
        · rw [if_pos c3, if_neg (by omega)]
          simp [jsonparser_decodeUnicodeEscape.j0]
        · rw [if_neg c3, if_pos (by omega)]
          by_cases c4 : bt s 6 = 92
          · rw [if_pos c4, if_pos (by omega)]
            by_cases c5 : bt s 7 = 117
            · rw [if_pos ⟨by omega, c4, c5⟩]
              simp only [jsonparser_decodeUnicodeEscape.j0, c5, bne_self_eq_false, Bool.false_eq_true, if_false, bytesOf_length]
              rw [if_pos (by omega), single_eq (j + 2) (by omega), U_list6 s c4 c5 (by omega)]
              cases hU6 : U s 6 with
              | none => simp
              | some w =>
                have hr6 := U_range hU6
                simp only [Option.bind_some, if_true]
                by_cases c6 : Low w
                · have c6' := c6
                  unfold Low at c6'
                  rw [if_neg (by omega), if_neg (by omega), if_pos c6]
                  simp only [jsonparser_combineUTF16Surrogates.f, Option.bind_some]
                  rw [w32 (i := v - 55296) (by omega) (by omega), w32 (i := (v - 55296) * 1024) (by omega) (by omega), w32 (i := w - 56320) (by omega) (by omega), w32 (i := 65536 + (v - 55296) * 1024) (by omega) (by omega), w32 (by omega) (by omega)]
                  rfl
                · have c6' := c6
                  unfold Low at c6'
                  rw [if_neg c6]
                  by_cases c7 : w < 56320
                  · rw [if_pos c7]
                  · rw [if_neg c7, if_pos (by omega)]
            · rw [if_neg (fun h => c5 h.2.2)]
              simp [jsonparser_decodeUnicodeEscape.j0, c5]
          · rw [if_neg c4, if_neg (fun h => c4 h.2.1)]
            simp [jsonparser_decodeUnicodeEscape.j0]
      · have c2' := c2
        unfold High at c2'
        rw [if_neg c2]
        by_cases c3 : 55296 ≤ v
        · rw [if_pos c3]
          simp only [Option.bind_some, decide_eq_true_eq]
          rw [if_neg (by omega)]
        · rw [if_neg c3]
          simp

end Go.Proofs.YtdllbnecbbggfaaDoor.Pure
