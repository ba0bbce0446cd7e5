/- Plain lemmas on the reading of escapes: hexadecimal digits, units, escapes (the reference's functions as they are printed for one law). -/
import Derived.Test.YtdllbnecbbggfaaDoorXFnGjQuoteValidx12
import Derived.Test.YtdllbnecbbggfaaDoorBase
namespace Go.Proofs.YtdllbnecbbggfaaDoor.UnescXFnGjQuoteValid
open Go.RowKit Go.Proofs.YtdllbnecbbggfaaDoor.Base Go.Proofs.YtdllbnecbbggfaaDoor.XFnGjQuoteValid Go.Proofs.YtdllbnecbbggfaaDoorW.PrintWords Go.Proofs.YtdllbnecbbggfaaDoorW.PrintLast
set_option linter.unusedVariables false

/-- For all k from some number on. -/
def Ev (P : Nat → Prop) : Prop := ∃ K, ∀ k, K ≤ k → P k
theorem Ev.and {P Q : Nat → Prop} (h : Ev P) (g : Ev Q) : Ev fun k => P k ∧ Q k := by
  obtain ⟨a, h⟩ := h; obtain ⟨b, g⟩ := g
  exact ⟨max a b, fun k hk => ⟨h k (by omega), g k (by omega)⟩⟩
theorem Ev.mp {P Q : Nat → Prop} (h : Ev P) (g : ∀ k, P k → Q k) : Ev Q := by
  obtain ⟨a, h⟩ := h; exact ⟨a, fun k hk => g k (h k hk)⟩
theorem Ev.all {P : Nat → Prop} (h : ∀ k, P k) : Ev P := ⟨0, fun k _ => h k⟩
theorem Ev.succ {P Q : Nat → Prop} (h : Ev P) (g : ∀ k, P k → Q (k + 1)) : Ev Q := by
  obtain ⟨a, h⟩ := h
  refine ⟨a + 1, fun k hk => ?_⟩
  obtain ⟨j, rfl⟩ : ∃ j, k = j + 1 := ⟨k - 1, by omega⟩
  exact g j (h j (by omega))
theorem Ev.ge (K : Nat) : Ev fun k => K ≤ k := ⟨K, fun k hk => hk⟩
theorem Ev.ex {P : Nat → Prop} (h : Ev P) : ∃ k, P k := by obtain ⟨a, h⟩ := h; exact ⟨a, h a (Nat.le_refl _)⟩

def hv (c : Int) : Option Int := if 48 ≤ c ∧ c ≤ 57 then some (c - 48) else if 97 ≤ c ∧ c ≤ 102 then some (c - 87) else if 65 ≤ c ∧ c ≤ 70 then some (c - 55) else none
theorem hv_range {c v : Int} (h : hv c = some v) : 0 ≤ v ∧ v ≤ 15 := by
  unfold hv at h
  repeat' split at h
  all_goals first
    | (cases h; done)
    | (obtain rfl := Option.some.inj h; omega)
theorem hexDigit_eq (k : Nat) (hk : 2 ≤ k) (c : Int) : spec_hexDigit.f k c = some (match hv c with | some v => (v, true) | none => (0, false)) := by
  obtain ⟨j, rfl⟩ : ∃ j, k = j + 2 := ⟨k - 2, by omega⟩
  by_cases a1 : 48 ≤ c <;> by_cases a2 : c ≤ 57 <;> by_cases a3 : 97 ≤ c <;> by_cases a4 : c ≤ 102 <;> by_cases a5 : 65 ≤ c <;> by_cases a6 : c ≤ 70 <;>
    first
      | omega
      | (simp [spec_hexDigit.f, spec_hexDigit.j0, spec_hexDigit.j1, hv, a1, a2, a3, a4, a5, a6]; done)
      | (simp [spec_hexDigit.f, spec_hexDigit.j0, spec_hexDigit.j1, hv, a1, a2, a3, a4, a5, a6]; omega)

def h4 (a b c d : Option Int) : Option Int := a.bind fun a => b.bind fun b => c.bind fun c => d.bind fun d => some (a * 4096 + b * 256 + c * 16 + d)
/-- The unit (a backslash, "u", four hexadecimal digits) that begins at i. -/
def U (s : ByteArray) (i : Int) : Option Int :=
  if i + 6 ≤ s.size ∧ bt s i = 92 ∧ bt s (i + 1) = 117 then h4 (hv (bt s (i + 2))) (hv (bt s (i + 3))) (hv (bt s (i + 4))) (hv (bt s (i + 5))) else none
theorem h4_range {a b c d : Int} {v : Int} (h : h4 (hv a) (hv b) (hv c) (hv d) = some v) : 0 ≤ v ∧ v ≤ 65535 := by
  unfold h4 at h
  obtain ⟨x, hx, h⟩ := Option.bind_eq_some_iff.mp h
  obtain ⟨y, hy, h⟩ := Option.bind_eq_some_iff.mp h
  obtain ⟨z, hz, h⟩ := Option.bind_eq_some_iff.mp h
  obtain ⟨t, ht, h⟩ := Option.bind_eq_some_iff.mp h
  obtain rfl := Option.some.inj h
  have := hv_range hx; have := hv_range hy; have := hv_range hz; have := hv_range ht
  omega
theorem U_range {s : ByteArray} {i v : Int} (h : U s i = some v) : 0 ≤ v ∧ v ≤ 65535 := by
  unfold U at h
  split at h
  · exact h4_range h
  · cases h
theorem U_at {s : ByteArray} {i v : Int} (h : U s i = some v) : i + 6 ≤ s.size ∧ bt s i = 92 ∧ bt s (i + 1) = 117 := by
  unfold U at h
  split at h
  · assumption
  · cases h

theorem unit_loop_end (k : Nat) (s : ByteArray) (i x6 x7 : Int) (h : wrap64 (i + 6) ≤ x7) : spec_unit.l0 (k + 1) s i x6 x7 = some (x6, true) := by
  rw [spec_unit.l0, if_neg (by omega)]
theorem unit_loop_step (k : Nat) (hk : 2 ≤ k) (s : ByteArray) (i x6 x7 : Int) (hi : 0 ≤ i) (hs : i + 6 ≤ s.size) (hsz : s.size ≤ 140737488355328) (h0 : i ≤ x7) (h1 : x7 < i + 6) (h2 : 0 ≤ x6) (h3 : x6 ≤ 1000000) :
    spec_unit.l0 (k + 1) s i x6 x7 = match hv (bt s x7) with | some v => spec_unit.l0 k s i (x6 * 16 + v) (x7 + 1) | none => some (0, false) := by
  rw [spec_unit.l0, w64 (by omega) (by omega), if_pos h1, if_pos (by omega), if_pos (by omega), hexDigit_eq k hk]
  cases hh : hv (bt s x7) with
  | none => simp
  | some v =>
    have := hv_range hh
    simp only [Option.bind_some, if_true]
    rw [w64 (i := x6 * 16) (by omega) (by omega), w64 (i := x6 * 16 + v) (by omega) (by omega), w64 (i := x7 + 1) (by omega) (by omega)]
theorem unit_eq (k : Nat) (hk : 12 ≤ k) (s : ByteArray) (i : Int) (hi : 0 ≤ i) (hsz : s.size ≤ 140737488355328) (hi2 : i ≤ s.size) :
    spec_unit.f k s i = some (match U s i with | some v => (v, true) | none => (0, false)) := by
  obtain ⟨j, rfl⟩ : ∃ j, k = j + 12 := ⟨k - 12, by omega⟩
  unfold spec_unit.f
  rw [w64i (i := (s.size : Int) - i) (by omega) (by omega)]
  by_cases c1 : (s.size : Int) - i < 6
  · rw [if_pos c1, spec_unit.j0, if_pos rfl]
    unfold U
    rw [if_neg (by omega)]
  · rw [if_neg c1, if_pos hi, if_pos (by omega)]
    unfold U
    by_cases c2 : bt s i = 92
    · rw [if_pos c2, w64 (i := i + 1) (by omega) (by omega), if_pos (by omega), if_pos (by omega), spec_unit.j0]
      by_cases c3 : bt s (i + 1) = 117
      · rw [if_neg (by simpa using c3), if_pos ⟨by omega, c2, c3⟩, w64 (i := i + 2) (by omega) (by omega),
          unit_loop_step (j + 10) (by omega) s i 0 (i + 2) hi (by omega) hsz (by omega) (by omega) (by omega) (by omega)]
        cases e1 : hv (bt s (i + 2)) with
        | none => simp [h4]
        | some a =>
          have r1 := hv_range e1
          simp only []
          rw [unit_loop_step (j + 9) (by omega) s i _ _ hi (by omega) hsz (by omega) (by omega) (by omega) (by omega), show i + 2 + 1 = i + 3 by omega]
          cases e2 : hv (bt s (i + 3)) with
          | none => simp [h4]
          | some b =>
            have r2 := hv_range e2
            simp only []
            rw [unit_loop_step (j + 8) (by omega) s i _ _ hi (by omega) hsz (by omega) (by omega) (by omega) (by omega), show i + 3 + 1 = i + 4 by omega]
            cases e3 : hv (bt s (i + 4)) with
            | none => simp [h4]
            | some c =>
              have r3 := hv_range e3
              simp only []
              rw [unit_loop_step (j + 7) (by omega) s i _ _ hi (by omega) hsz (by omega) (by omega) (by omega) (by omega), show i + 4 + 1 = i + 5 by omega]
              cases e4 : hv (bt s (i + 5)) with
              | none => simp [h4]
              | some d =>
                have r4 := hv_range e4
                simp only []
                rw [unit_loop_end (j + 6) s i _ _ (by rw [w64 (by omega) (by omega)]; omega)]
                simp only [h4, Option.bind_some, Option.some.injEq, Prod.mk.injEq, and_true]
                omega
      · rw [if_pos (by simpa using c3), if_neg (by omega)]
    · rw [if_neg c2, spec_unit.j0, if_pos rfl, if_neg (by omega)]

end Go.Proofs.YtdllbnecbbggfaaDoor.UnescXFnGjQuoteValid
