/- The reference's Paired, a step at a time; texts between quotation marks as its reader takes them. -/
import Derived.Test.YtdllbnecbbggfaaDoorDecFnGjUnescapeJoin
namespace Go.Proofs.YtdllbnecbbggfaaDoor.UnescXFnGjUnescapeJoin
open Go.RowKit Go.Proofs.YtdllbnecbbggfaaDoor.Base Go.Proofs.YtdllbnecbbggfaaDoor.XFnGjUnescapeJoin Go.Proofs.YtdllbnecbbggfaaDoorW.PrintWords Go.Proofs.YtdllbnecbbggfaaDoorW.PrintLast
set_option linter.unusedVariables false
set_option linter.unusedSimpArgs false

theorem p_end (k : Nat) (t : ByteArray) (i : Int) (h : t.size ≤ i) : spec_Paired.l0 (k + 1) t i = some true := by
  rw [spec_Paired.l0, if_neg (by omega)]
theorem p_plain (k : Nat) (t : ByteArray) (i : Int) (hs : t.size ≤ 1000000) (h0 : 0 ≤ i) (h1 : i < t.size) (h : bt t i ≠ 92) : spec_Paired.l0 (k + 1) t i = spec_Paired.l0 k t (i + 1) := by
  rw [spec_Paired.l0, if_pos h1, if_pos h0, if_neg h, w64 (by omega) (by omega)]
theorem p_short (k : Nat) (hk : 12 ≤ k) (t : ByteArray) (i : Int) (hs : t.size ≤ 1000000) (h0 : 0 ≤ i) (h1 : i < t.size) (h : bt t i = 92) (hU : U t i = none) : spec_Paired.l0 (k + 1) t i = spec_Paired.l0 k t (i + 2) := by
  rw [spec_Paired.l0, if_pos h1, if_pos h0, if_pos h, unit_eq k hk t i h0 (by omega) (by omega), hU]
  simp only [Option.bind_some, Bool.false_eq_true, if_false]
  rw [w64 (by omega) (by omega)]
theorem p_unit (k : Nat) (hk : 12 ≤ k) (t : ByteArray) (i v : Int) (hs : t.size ≤ 1000000) (h0 : 0 ≤ i) (hU : U t i = some v) :
    spec_Paired.l0 (k + 1) t i = if High v then (match U t (i + 6) with | some w => if Low w then spec_Paired.l0 k t (i + 12) else some false | none => some false) else if Low v then some false else spec_Paired.l0 k t (i + 6) := by
  have ha := U_at hU
  rw [spec_Paired.l0, if_pos (by omega), if_pos h0, if_pos ha.2.1, unit_eq k hk t i h0 (by omega) (by omega), hU]
  simp only [Option.bind_some, if_true, high_eq, low_eq]
  rw [w64 (i := i + 6) (by omega) (by omega)]
  by_cases c : High v
  · simp only [c, decide_true, if_true]
    rw [unit_eq k hk t (i + 6) (by omega) (by omega) (by omega)]
    cases hU2 : U t (i + 6) with
    | none => simp
    | some w =>
      simp only [Option.bind_some, if_true, low_eq]
      by_cases d : Low w
      · simp only [d, decide_true, if_true]
        rw [w64 (by omega) (by omega)]
      · simp only [d, decide_false, Bool.false_eq_true, if_false]
  · simp only [c, decide_false, Bool.false_eq_true, if_false]
    by_cases d : Low v
    · simp only [d, decide_true, if_true]
    · simp only [d, decide_false, Bool.false_eq_true, if_false]

theorem lift {α : Type} {f : Nat → Option α} (hm : ∀ k, LeO (f k) (f (k + 1))) {k : Nat} {r : α} (h : f k = some r) : ∀ j, f (k + j) = some r
  | 0 => h
  | j + 1 => hm (k + j) r (lift hm h j)
/-- Paired from i on. -/
def PairedFrom (s : ByteArray) (i : Int) : Prop := ∃ k, spec_Paired.l0 k s i = some true
theorem PairedFrom.big {s : ByteArray} {i : Int} (h : PairedFrom s i) : ∃ k, 12 ≤ k ∧ spec_Paired.l0 (k + 1) s i = some true := by
  obtain ⟨k, h⟩ := h
  exact ⟨k + 12, by omega, lift (f := fun k => spec_Paired.l0 k s i) (fun k => spec_Paired.mono_l k s i) h 13⟩
theorem PairedFrom.plain {s : ByteArray} {i : Int} (h : PairedFrom s i) (hs : s.size ≤ 1000000) (h0 : 0 ≤ i) (h1 : i < s.size) (hc : bt s i ≠ 92) : PairedFrom s (i + 1) := by
  obtain ⟨k, hk, h⟩ := h.big
  rw [p_plain k s i hs h0 h1 hc] at h
  exact ⟨k, h⟩
theorem PairedFrom.short {s : ByteArray} {i : Int} (h : PairedFrom s i) (hs : s.size ≤ 1000000) (h0 : 0 ≤ i) (h1 : i < s.size) (hc : bt s i = 92) (hU : U s i = none) : PairedFrom s (i + 2) := by
  obtain ⟨k, hk, h⟩ := h.big
  rw [p_short k hk s i hs h0 h1 hc hU] at h
  exact ⟨k, h⟩
theorem PairedFrom.unit {s : ByteArray} {i v : Int} (h : PairedFrom s i) (hs : s.size ≤ 1000000) (h0 : 0 ≤ i) (hU : U s i = some v) :
    (High v ∧ ∃ w, U s (i + 6) = some w ∧ Low w ∧ PairedFrom s (i + 12)) ∨ (¬ High v ∧ ¬ Low v ∧ PairedFrom s (i + 6)) := by
  obtain ⟨k, hk, h⟩ := h.big
  rw [p_unit k hk s i v hs h0 hU] at h
  by_cases c : High v
  · rw [if_pos c] at h
    cases hU2 : U s (i + 6) with
    | none => rw [hU2] at h; cases h
    | some w =>
      rw [hU2] at h
      simp only [] at h
      by_cases d : Low w
      · rw [if_pos d] at h
        exact .inl ⟨c, w, rfl, d, ⟨k, h⟩⟩
      · rw [if_neg d] at h
        cases h
  · rw [if_neg c] at h
    by_cases d : Low v
    · rw [if_pos d] at h
      cases h
    · rw [if_neg d] at h
      exact .inr ⟨c, d, ⟨k, h⟩⟩

/-! ### between quotation marks -/
def quo (s : ByteArray) : ByteArray := ((⟨#[34]⟩ : ByteArray) ++ s) ++ (⟨#[34]⟩ : ByteArray)
theorem quo_size (s : ByteArray) : (quo s).size = s.size + 2 := by
  unfold quo
  rw [ByteArray.size_append, ByteArray.size_append]
  show 1 + s.size + 1 = _
  omega
theorem quo_in (s : ByteArray) (i : Int) (h0 : 0 ≤ i) (h1 : i < s.size) : bt (quo s) (i + 1) = bt s i := by
  rw [← rd_bytesOf, ← rd_bytesOf]
  unfold quo
  rw [bytesOf_append, bytesOf_append, show bytesOf (⟨#[34]⟩ : ByteArray) = [34] from rfl, rd_append _ _ _ (by omega), if_pos (by rw [List.length_append, bytesOf_length]; simp; omega), rd_append _ _ _ (by omega), if_neg (by simp; omega)]
  congr 1
  simp
theorem quo_end (s : ByteArray) : bt (quo s) (s.size + 1) = 34 := by
  rw [← rd_bytesOf]
  unfold quo
  rw [bytesOf_append, bytesOf_append, show bytesOf (⟨#[34]⟩ : ByteArray) = [34] from rfl, rd_append _ _ _ (by omega), if_neg (by rw [List.length_append, bytesOf_length]; simp; omega), List.length_append, bytesOf_length]
  rw [show ((s.size : Int) + 1 - (([34] : List Int).length + s.size : Nat)) = 0 by simp; omega]
  rfl
theorem hv_34 : hv 34 = none := by decide

end Go.Proofs.YtdllbnecbbggfaaDoor.UnescXFnGjUnescapeJoin
