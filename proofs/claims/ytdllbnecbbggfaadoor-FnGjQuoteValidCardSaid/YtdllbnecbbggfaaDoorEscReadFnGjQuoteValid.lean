/- The reference's reading of one escape. -/
import Derived.Test.YtdllbnecbbggfaaDoorUnescBaseFnGjQuoteValid
import Derived.Lib.RuneBytes
namespace Go.Proofs.YtdllbnecbbggfaaDoor.UnescXFnGjQuoteValid
open Go.RowKit Go.Proofs.YtdllbnecbbggfaaDoor.Base Go.Proofs.YtdllbnecbbggfaaDoor.XFnGjQuoteValid Go.Proofs.YtdllbnecbbggfaaDoorW.PrintWords Go.Proofs.YtdllbnecbbggfaaDoorW.PrintLast
set_option linter.unusedVariables false

def Simple (c : Int) : Prop := c = 34 ∨ c = 92 ∨ c = 47 ∨ c = 98 ∨ c = 102 ∨ c = 110 ∨ c = 114 ∨ c = 116
instance (c : Int) : Decidable (Simple c) := by unfold Simple; infer_instance
def short (c : Int) : Int := if c = 98 then 8 else if c = 102 then 12 else if c = 110 then 10 else if c = 114 then 13 else if c = 116 then 9 else c
def High (v : Int) : Prop := 55296 ≤ v ∧ v ≤ 56319
def Low (v : Int) : Prop := 56320 ≤ v ∧ v ≤ 57343
instance (c : Int) : Decidable (High c) := by unfold High; infer_instance
instance (c : Int) : Decidable (Low c) := by unfold Low; infer_instance
def pair (v w : Int) : Int := 65536 + (v - 55296) * 1024 + (w - 56320)
theorem pair_range {v w : Int} (h : High v) (g : Low w) : 65536 ≤ pair v w ∧ pair v w ≤ 1114111 := by unfold High at h; unfold Low at g; unfold pair; omega
theorem high_eq (v : Int) : spec_high.f v = some (decide (High v)) := by
  unfold spec_high.f High
  split <;> simp [*]
theorem low_eq (v : Int) : spec_low.f v = some (decide (Low v)) := by
  unfold spec_low.f Low
  split <;> simp [*]
theorem short_eq (v : Int) : spec_short.f v = some (short v) := by
  unfold spec_short.f short
  repeat' split
  all_goals rfl
theorem bt_out (s : ByteArray) (i : Int) (h : s.size ≤ i) : bt s i = 0 := by
  rw [← rd_bytesOf]
  exact rd_out _ _ (by rw [bytesOf_length]; omega)
theorem hv_zero : hv 0 = none := by decide
theorem U_h4 {s : ByteArray} {i : Int} (h0 : 0 ≤ i) (h1 : bt s i = 92) (h2 : bt s (i + 1) = 117) : U s i = h4 (hv (bt s (i + 2))) (hv (bt s (i + 3))) (hv (bt s (i + 4))) (hv (bt s (i + 5))) := by
  unfold U
  by_cases c : i + 6 ≤ s.size
  · rw [if_pos ⟨c, h1, h2⟩]
  · rw [if_neg (by omega), bt_out s (i + 5) (by omega), hv_zero]
    unfold h4
    cases hv (bt s (i + 2)) <;> cases hv (bt s (i + 3)) <;> cases hv (bt s (i + 4)) <;> rfl

theorem here_eq (s : ByteArray) (p : Int) (h : 0 ≤ p) : spec_reader_here.f s p = some (bt s p, s, p) := by
  unfold spec_reader_here.f
  by_cases c : p < s.size
  · rw [if_pos c, if_pos h]
  · rw [if_neg c, bt_out s p (by omega)]
theorem escape_simple (k : Nat) (hk : 1 ≤ k) (s : ByteArray) (p : Int) (h0 : 0 ≤ p) (h1 : p ≤ 140737488355328) (h : Simple (bt s p)) : spec_reader_escape.f k s p = some (true, s, p + 1) := by
  obtain ⟨j, rfl⟩ : ∃ j, k = j + 1 := ⟨k - 1, by omega⟩
  unfold spec_reader_escape.f
  rw [here_eq s p h0]
  simp only [Option.bind_some, spec_reader_escape.j0]
  rw [w64 (by omega) (by omega)]
  unfold Simple at h
  rcases h with h | h | h | h | h | h | h | h <;> simp [h]
theorem loop_step (k : Nat) (hk : 2 ≤ k) (s : ByteArray) (n p : Int) (h0 : 0 ≤ p) (h1 : p ≤ 140737488400000) (hn0 : 0 ≤ n) (hn : n < 4) :
    spec_reader_escape.l0 (k + 1) n s p = if (hv (bt s p)).isSome then spec_reader_escape.l0 k (n + 1) s (p + 1) else some (false, s, p) := by
  rw [spec_reader_escape.l0, if_pos hn, here_eq s p h0]
  simp only [Option.bind_some]
  rw [hexDigit_eq k hk]
  cases hv (bt s p) with
  | none => simp
  | some v =>
    simp only [Option.bind_some, if_true, Option.isSome_some]
    rw [w64 (i := n + 1) (by omega) (by omega), w64 (i := p + 1) (by omega) (by omega)]
theorem escape_u (k : Nat) (hk : 12 ≤ k) (s : ByteArray) (p : Int) (h0 : 0 ≤ p) (h1 : p ≤ 140737488355328) (h : bt s p = 117) :
    ∃ q, spec_reader_escape.f k s p = some (if (h4 (hv (bt s (p + 1))) (hv (bt s (p + 2))) (hv (bt s (p + 3))) (hv (bt s (p + 4)))).isSome then (true, s, p + 5) else (false, s, q)) := by
  obtain ⟨j, rfl⟩ : ∃ j, k = j + 12 := ⟨k - 12, by omega⟩
  have hf : spec_reader_escape.f (j + 12) s p = spec_reader_escape.l0 (j + 11) 0 s (p + 1) := by
    unfold spec_reader_escape.f
    rw [here_eq s p h0]
    simp only [Option.bind_some, spec_reader_escape.j0]
    rw [w64 (i := p + 1) (by omega) (by omega)]
    simp [h]
  rw [hf, loop_step (j + 10) (by omega) s 0 (p + 1) (by omega) (by omega) (by omega) (by omega)]
  unfold h4
  cases e1 : hv (bt s (p + 1)) with
  | none => exact ⟨_, rfl⟩
  | some a =>
    simp only [Option.isSome_some, if_true, Option.bind_some]
    rw [loop_step (j + 9) (by omega) s _ _ (by omega) (by omega) (by omega) (by omega), show p + 1 + 1 = p + 2 by omega]
    cases e2 : hv (bt s (p + 2)) with
    | none => exact ⟨_, rfl⟩
    | some a =>
      simp only [Option.isSome_some, if_true, Option.bind_some]
      rw [loop_step (j + 8) (by omega) s _ _ (by omega) (by omega) (by omega) (by omega), show p + 2 + 1 = p + 3 by omega]
      cases e3 : hv (bt s (p + 3)) with
      | none => exact ⟨_, rfl⟩
      | some a =>
        simp only [Option.isSome_some, if_true, Option.bind_some]
        rw [loop_step (j + 7) (by omega) s _ _ (by omega) (by omega) (by omega) (by omega), show p + 3 + 1 = p + 4 by omega]
        cases e4 : hv (bt s (p + 4)) with
        | none => exact ⟨_, rfl⟩
        | some a =>
          refine ⟨0, ?_⟩
          simp only [Option.isSome_some, if_true, Option.bind_some]
          rw [spec_reader_escape.l0, if_neg (by omega), show p + 4 + 1 = p + 5 by omega]
theorem escape_else (k : Nat) (hk : 1 ≤ k) (s : ByteArray) (p : Int) (h0 : 0 ≤ p) (h1 : p ≤ 140737488355328) (h : ¬ Simple (bt s p)) (hu : bt s p ≠ 117) : spec_reader_escape.f k s p = some (false, s, p) := by
  obtain ⟨j, rfl⟩ : ∃ j, k = j + 1 := ⟨k - 1, by omega⟩
  unfold spec_reader_escape.f
  rw [here_eq s p h0]
  simp only [Option.bind_some, spec_reader_escape.j0]
  unfold Simple at h
  simp only [not_or] at h
  obtain ⟨n1, n2, n3, n4, n5, n6, n7, n8⟩ := h
  simp [n1, n2, n3, n4, n5, n6, n7, n8, hu]

end Go.Proofs.YtdllbnecbbggfaaDoor.UnescXFnGjQuoteValid
