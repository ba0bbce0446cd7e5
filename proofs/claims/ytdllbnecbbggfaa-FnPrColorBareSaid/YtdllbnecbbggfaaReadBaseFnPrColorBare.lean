/- The reference's reader of escapes, a step at a time (for prints without the reference's Unquote). -/
import Derived.Test.YtdllbnecbbggfaaXFnPrColorBarex5
import Derived.Test.YtdllbnecbbggfaaBase
namespace Go.Proofs.Ytdllbnecbbggfaa.ReadXFnPrColorBare
open Go.RowKit Go.Proofs.Ytdllbnecbbggfaa.Base Go.Proofs.Ytdllbnecbbggfaa.XFnPrColorBare Go.Proofs.YtdllbnecbbggfaaW.PrintWords Go.Proofs.YtdllbnecbbggfaaW.PrintLast
set_option linter.unusedVariables false
set_option linter.unusedSimpArgs false

/-- For all k from some number on. -/
def Ev (P : Nat → Prop) : Prop := ∃ K, ∀ k, K ≤ k → P k
theorem Ev.and {P Q : Nat → Prop} (h : Ev P) (g : Ev Q) : Ev fun k => P k ∧ Q k := by
  obtain ⟨a, h⟩ := h; obtain ⟨b, g⟩ := g
  exact ⟨max a b, fun k hk => ⟨h k (by omega), g k (by omega)⟩⟩
theorem Ev.mp {P Q : Nat → Prop} (h : Ev P) (g : ∀ k, P k → Q k) : Ev Q := by
  obtain ⟨a, h⟩ := h; exact ⟨a, fun k hk => g k (h k hk)⟩
theorem Ev.all {P : Nat → Prop} (h : ∀ k, P k) : Ev P := ⟨0, fun k _ => h k⟩
theorem Ev.succ {P Q : Nat → Prop} (h : Ev P) (g : ∀ k, P k → Q (k + 1)) : Ev Q := by
  obtain ⟨a, h⟩ := h
  refine ⟨a + 1, fun k hk => ?_⟩
  obtain ⟨j, rfl⟩ : ∃ j, k = j + 1 := ⟨k - 1, by omega⟩
  exact g j (h j (by omega))
theorem Ev.ge (K : Nat) : Ev fun k => K ≤ k := ⟨K, fun k hk => hk⟩
theorem Ev.ex {P : Nat → Prop} (h : Ev P) : ∃ k, P k := by obtain ⟨a, h⟩ := h; exact ⟨a, h a (Nat.le_refl _)⟩

def hv (c : Int) : Option Int := if 48 ≤ c ∧ c ≤ 57 then some (c - 48) else if 97 ≤ c ∧ c ≤ 102 then some (c - 87) else if 65 ≤ c ∧ c ≤ 70 then some (c - 55) else none
theorem hv_range {c v : Int} (h : hv c = some v) : 0 ≤ v ∧ v ≤ 15 := by
  unfold hv at h
  repeat' split at h
  all_goals first
    | (cases h; done)
    | (obtain rfl := Option.some.inj h; omega)
theorem hexDigit_eq (k : Nat) (hk : 2 ≤ k) (c : Int) : spec_hexDigit.f k c = some (match hv c with | some v => (v, true) | none => (0, false)) := by
  obtain ⟨j, rfl⟩ : ∃ j, k = j + 2 := ⟨k - 2, by omega⟩
  by_cases a1 : 48 ≤ c <;> by_cases a2 : c ≤ 57 <;> by_cases a3 : 97 ≤ c <;> by_cases a4 : c ≤ 102 <;> by_cases a5 : 65 ≤ c <;> by_cases a6 : c ≤ 70 <;>
    first
      | omega
      | (simp [spec_hexDigit.f, spec_hexDigit.j0, spec_hexDigit.j1, hv, a1, a2, a3, a4, a5, a6]; done)
      | (simp [spec_hexDigit.f, spec_hexDigit.j0, spec_hexDigit.j1, hv, a1, a2, a3, a4, a5, a6]; omega)

def h4 (a b c d : Option Int) : Option Int := a.bind fun a => b.bind fun b => c.bind fun c => d.bind fun d => some (a * 4096 + b * 256 + c * 16 + d)
def Simple (c : Int) : Prop := c = 34 ∨ c = 92 ∨ c = 47 ∨ c = 98 ∨ c = 102 ∨ c = 110 ∨ c = 114 ∨ c = 116
theorem bt_out (s : ByteArray) (i : Int) (h : s.size ≤ i) : bt s i = 0 := by
  rw [← rd_bytesOf]
  exact rd_out _ _ (by rw [bytesOf_length]; omega)
theorem hv_zero : hv 0 = none := by decide
theorem here_eq (s : ByteArray) (p : Int) (h : 0 ≤ p) : spec_reader_here.f s p = some (bt s p, s, p) := by
  unfold spec_reader_here.f
  by_cases c : p < s.size
  · rw [if_pos c, if_pos h]
  · rw [if_neg c, bt_out s p (by omega)]
theorem escape_simple (k : Nat) (hk : 1 ≤ k) (s : ByteArray) (p : Int) (h0 : 0 ≤ p) (h1 : p ≤ 140737488355328) (h : Simple (bt s p)) : spec_reader_escape.f k s p = some (true, s, p + 1) := by
  obtain ⟨j, rfl⟩ : ∃ j, k = j + 1 := ⟨k - 1, by omega⟩
  unfold spec_reader_escape.f
  rw [here_eq s p h0]
  simp only [Option.bind_some, spec_reader_escape.j0]
  rw [w64 (by omega) (by omega)]
  unfold Simple at h
  rcases h with h | h | h | h | h | h | h | h <;> simp [h]
theorem loop_step (k : Nat) (hk : 2 ≤ k) (s : ByteArray) (n p : Int) (h0 : 0 ≤ p) (h1 : p ≤ 140737488400000) (hn0 : 0 ≤ n) (hn : n < 4) :
    spec_reader_escape.l0 (k + 1) n s p = if (hv (bt s p)).isSome then spec_reader_escape.l0 k (n + 1) s (p + 1) else some (false, s, p) := by
  rw [spec_reader_escape.l0, if_pos hn, here_eq s p h0]
  simp only [Option.bind_some]
  rw [hexDigit_eq k hk]
  cases hv (bt s p) with
  | none => simp
  | some v =>
    simp only [Option.bind_some, if_true, Option.isSome_some]
    rw [w64 (i := n + 1) (by omega) (by omega), w64 (i := p + 1) (by omega) (by omega)]
theorem escape_u (k : Nat) (hk : 12 ≤ k) (s : ByteArray) (p : Int) (h0 : 0 ≤ p) (h1 : p ≤ 140737488355328) (h : bt s p = 117) :
    ∃ q, spec_reader_escape.f k s p = some (if (h4 (hv (bt s (p + 1))) (hv (bt s (p + 2))) (hv (bt s (p + 3))) (hv (bt s (p + 4)))).isSome then (true, s, p + 5) else (false, s, q)) := by
  obtain ⟨j, rfl⟩ : ∃ j, k = j + 12 := ⟨k - 12, by omega⟩
  have hf : spec_reader_escape.f (j + 12) s p = spec_reader_escape.l0 (j + 11) 0 s (p + 1) := by
    unfold spec_reader_escape.f
    rw [here_eq s p h0]
    simp only [Option.bind_some, spec_reader_escape.j0]
    rw [w64 (i := p + 1) (by omega) (by omega)]
    simp [h]
  rw [hf, loop_step (j + 10) (by omega) s 0 (p + 1) (by omega) (by omega) (by omega) (by omega)]
  unfold h4
  cases e1 : hv (bt s (p + 1)) with
  | none => exact ⟨_, rfl⟩
  | some a =>
    simp only [Option.isSome_some, if_true, Option.bind_some]
    rw [loop_step (j + 9) (by omega) s _ _ (by omega) (by omega) (by omega) (by omega), show p + 1 + 1 = p + 2 by omega]
    cases e2 : hv (bt s (p + 2)) with
    | none => exact ⟨_, rfl⟩
    | some a =>
      simp only [Option.isSome_some, if_true, Option.bind_some]
      rw [loop_step (j + 8) (by omega) s _ _ (by omega) (by omega) (by omega) (by omega), show p + 2 + 1 = p + 3 by omega]
      cases e3 : hv (bt s (p + 3)) with
      | none => exact ⟨_, rfl⟩
      | some a =>
        simp only [Option.isSome_some, if_true, Option.bind_some]
        rw [loop_step (j + 7) (by omega) s _ _ (by omega) (by omega) (by omega) (by omega), show p + 3 + 1 = p + 4 by omega]
        cases e4 : hv (bt s (p + 4)) with
        | none => exact ⟨_, rfl⟩
        | some a =>
          refine ⟨0, ?_⟩
          simp only [Option.isSome_some, if_true, Option.bind_some]
          rw [spec_reader_escape.l0, if_neg (by omega), show p + 4 + 1 = p + 5 by omega]
theorem escape_else (k : Nat) (hk : 1 ≤ k) (s : ByteArray) (p : Int) (h0 : 0 ≤ p) (h1 : p ≤ 140737488355328) (h : ¬ Simple (bt s p)) (hu : bt s p ≠ 117) : spec_reader_escape.f k s p = some (false, s, p) := by
  obtain ⟨j, rfl⟩ : ∃ j, k = j + 1 := ⟨k - 1, by omega⟩
  unfold spec_reader_escape.f
  rw [here_eq s p h0]
  simp only [Option.bind_some, spec_reader_escape.j0]
  unfold Simple at h
  simp only [not_or] at h
  obtain ⟨n1, n2, n3, n4, n5, n6, n7, n8⟩ := h
  simp [n1, n2, n3, n4, n5, n6, n7, n8, hu]

end Go.Proofs.Ytdllbnecbbggfaa.ReadXFnPrColorBare
