/- The reference's side: Paired, the torn half, jpEscape. -/
import Derived.Test.YtdllbnecbbggfaaDoorEscAt1FnJpEscapeAt
namespace Go.Proofs.YtdllbnecbbggfaaDoor.Pure
open Go.RowKit Go.Proofs.YtdllbnecbbggfaaDoor Go.Proofs.YtdllbnecbbggfaaDoor.Base Go.Proofs.YtdllbnecbbggfaaDoor.XFnJpEscapeAt Go.Proofs.YtdllbnecbbggfaaDoor.UnescXFnJpEscapeAt Go.Proofs.YtdllbnecbbggfaaDoorW.PrintWords Go.Proofs.YtdllbnecbbggfaaDoorW.PrintLast
set_option linter.unusedVariables false
set_option linter.unusedSimpArgs false

theorem p_end (k : Nat) (t : ByteArray) (i : Int) (h : t.size ≤ i) : spec_Paired.l0 (k + 1) t i = some true := by
  rw [spec_Paired.l0, if_neg (by omega)]
theorem p_plain (k : Nat) (t : ByteArray) (i : Int) (hs : t.size ≤ 1000000) (h0 : 0 ≤ i) (h1 : i < t.size) (h : bt t i ≠ 92) : spec_Paired.l0 (k + 1) t i = spec_Paired.l0 k t (i + 1) := by
  rw [spec_Paired.l0, if_pos h1, if_pos h0, if_neg h, w64 (by omega) (by omega)]
theorem p_short (k : Nat) (hk : 12 ≤ k) (t : ByteArray) (i : Int) (hs : t.size ≤ 1000000) (h0 : 0 ≤ i) (h1 : i < t.size) (h : bt t i = 92) (hU : U t i = none) : spec_Paired.l0 (k + 1) t i = spec_Paired.l0 k t (i + 2) := by
  rw [spec_Paired.l0, if_pos h1, if_pos h0, if_pos h, unit_eq k hk t i h0 (by omega) (by omega), hU]
  simp only [Option.bind_some, Bool.false_eq_true, if_false]
  rw [w64 (by omega) (by omega)]
theorem p_unit (k : Nat) (hk : 12 ≤ k) (t : ByteArray) (i v : Int) (hs : t.size ≤ 1000000) (h0 : 0 ≤ i) (hU : U t i = some v) :
    spec_Paired.l0 (k + 1) t i = if High v then (match U t (i + 6) with | some w => if Low w then spec_Paired.l0 k t (i + 12) else some false | none => some false) else if Low v then some false else spec_Paired.l0 k t (i + 6) := by
  have ha := U_at hU
  rw [spec_Paired.l0, if_pos (by omega), if_pos h0, if_pos ha.2.1, unit_eq k hk t i h0 (by omega) (by omega), hU]
  simp only [Option.bind_some, if_true, high_eq, low_eq]
  rw [w64 (i := i + 6) (by omega) (by omega)]
  by_cases c : High v
  · simp only [c, decide_true, if_true]
    rw [unit_eq k hk t (i + 6) (by omega) (by omega) (by omega)]
    cases hU2 : U t (i + 6) with
    | none => simp
    | some w =>
      simp only [Option.bind_some, if_true, low_eq]
      by_cases d : Low w
      · simp only [d, decide_true, if_true]
        rw [w64 (by omega) (by omega)]
      · simp only [d, decide_false, Bool.false_eq_true, if_false]
  · simp only [c, decide_false, Bool.false_eq_true, if_false]
    by_cases d : Low v
    · simp only [d, decide_true, if_true]
    · simp only [d, decide_false, Bool.false_eq_true, if_false]
theorem p_tail (t : ByteArray) (hs : t.size ≤ 1000000) : ∀ (m : Nat) (i : Int), 0 ≤ i → (t.size : Int) < i + 6 → (t.size : Int) - i ≤ m → Ev fun k => spec_Paired.l0 k t i = some true
  | 0, i, h0, h1, hm => (Ev.ge 0).succ fun k _ => p_end k t i (by omega)
  | m + 1, i, h0, h1, hm => by
    by_cases c : i < t.size
    · by_cases d : bt t i = 92
      · exact ((p_tail t hs m (i + 2) (by omega) (by omega) (by omega)).and (Ev.ge 12)).succ fun k hk => by rw [p_short k hk.2 t i hs h0 c d (U_over t i h1)]; exact hk.1
      · exact (p_tail t hs m (i + 1) (by omega) (by omega) (by omega)).succ fun k hk => by rw [p_plain k t i hs h0 c d]; exact hk
    · exact (Ev.ge 0).succ fun k _ => p_end k t i (by omega)
/-- Paired of the first six bytes, where these are no unit. -/
theorem paired6_no (s : ByteArray) (h6 : 6 ≤ s.size) (h1 : bt s 0 = 92) (hU : U s 0 = none) : Ev fun k => spec_Paired.f k (s.extract 0 6) = some true := by
  have hz := size_cut s 0 6 h6
  have hU' : U (s.extract 0 6) 0 = none := by rw [U_cut s 0 6 0 (by omega) h6 (by omega)]; simpa using hU
  have hb : bt (s.extract 0 6) 0 = 92 := by rw [bt_cut s 0 6 0 (by omega) (by omega) h6]; simpa using h1
  exact ((p_tail (s.extract 0 6) (by omega) 6 2 (by omega) (by omega) (by omega)).and (Ev.ge 12)).succ fun k hk => by
    unfold spec_Paired.f
    rw [p_short k hk.2 _ 0 (by omega) (by omega) (by omega) hb hU']
    exact hk.1
theorem paired6 (s : ByteArray) (v : Int) (h6 : 6 ≤ s.size) (hU : U s 0 = some v) : Ev fun k => spec_Paired.f k (s.extract 0 6) = some (decide (¬ High v ∧ ¬ Low v)) := by
  have hz := size_cut s 0 6 h6
  have hU' : U (s.extract 0 6) 0 = some v := by rw [U_cut s 0 6 0 (by omega) h6 (by omega)]; simpa using hU
  refine ((Ev.ge 12).and (Ev.ge 0)).succ fun k hk => ?_
  unfold spec_Paired.f
  rw [p_unit k hk.1 _ 0 v (by omega) (by omega) hU', U_over _ (0 + 6) (by omega)]
  by_cases c : High v
  · simp [c]
  · by_cases d : Low v
    · simp [c, d]
    · simp only [c, d, if_false, not_false_eq_true, and_self, decide_true]
      obtain ⟨j, rfl⟩ : ∃ j, k = j + 1 := ⟨k - 1, by omega⟩
      exact p_end j _ _ (by omega)
theorem paired12 (s : ByteArray) (v : Int) (h6 : 12 ≤ s.size) (hU : U s 0 = some v) (hn : High v ∨ Low v) : Ev fun k => spec_Paired.f k (s.extract 0 12) = some (decide (High v ∧ ∃ w, U s 6 = some w ∧ Low w)) := by
  have hz := size_cut s 0 12 h6
  have hU' : U (s.extract 0 12) 0 = some v := by rw [U_cut s 0 12 0 (by omega) h6 (by omega)]; simpa using hU
  have hU2 : U (s.extract 0 12) (0 + 6) = U s 6 := by rw [U_cut s 0 12 (0 + 6) (by omega) h6 (by omega)]; rfl
  refine ((Ev.ge 12).and (Ev.ge 0)).succ fun k hk => ?_
  unfold spec_Paired.f
  rw [p_unit k hk.1 _ 0 v (by omega) (by omega) hU', hU2]
  by_cases c : High v
  · rw [if_pos c]
    cases hU6 : U s 6 with
    | none => simp
    | some w =>
      simp only [Option.some.injEq, exists_eq_left', c, true_and]
      by_cases d : Low w
      · simp only [d, if_true, decide_true]
        obtain ⟨j, rfl⟩ : ∃ j, k = j + 1 := ⟨k - 1, by omega⟩
        exact p_end j _ _ (by omega)
      · simp [d]
  · rw [if_neg c, if_pos (hn.resolve_left c)]
    simp [c]

/-- The first two bytes alone. -/
theorem dec2 (s : ByteArray) (h2 : 2 ≤ s.size) (h1 : bt s 0 = 92) : dec (s.extract 0 2) 2 0 = if Simple (bt s 1) then some [short (bt s 1)] else none := by
  have hz := size_cut s 0 2 h2
  have hb : bt (s.extract 0 2) 0 = 92 := by rw [bt_cut s 0 2 0 (by omega) (by omega) h2]; simpa using h1
  have hb1 : bt (s.extract 0 2) (0 + 1) = bt s 1 := by rw [bt_cut s 0 2 (0 + 1) (by omega) (by omega) h2]; rfl
  rw [dec, if_pos (by omega), if_pos hb, U_over _ 0 (by omega)]
  simp only [hb1]
  by_cases c : Simple (bt s 1)
  · rw [if_pos c, if_pos c, dec, if_neg (by omega)]
    simp
  · rw [if_neg c, if_neg c]
theorem dec6 (s : ByteArray) (h6 : 6 ≤ s.size) (h1 : bt s 0 = 92) (h2 : bt s 1 = 117) : dec (s.extract 0 6) 6 0 = (U s 0).map fun v => Lib.encodeRuneZ v := by
  have hz := size_cut s 0 6 h6
  have hb : bt (s.extract 0 6) 0 = 92 := by rw [bt_cut s 0 6 0 (by omega) (by omega) h6]; simpa using h1
  have hb1 : bt (s.extract 0 6) (0 + 1) = bt s 1 := by rw [bt_cut s 0 6 (0 + 1) (by omega) (by omega) h6]; rfl
  have hU' : U (s.extract 0 6) 0 = U s 0 := by rw [U_cut s 0 6 0 (by omega) h6 (by omega)]; rfl
  rw [dec, if_pos (by omega), if_pos hb, hU']
  cases hU : U s 0 with
  | none =>
    simp only [hb1, h2]
    rw [if_neg (by unfold Simple; omega)]
    rfl
  | some v =>
    simp only [U_over _ (0 + 6) (show ((s.extract 0 6).size : Int) < 0 + 6 + 6 by omega)]
    rw [dec, if_neg (by omega)]
    simp
theorem dec12_pair (s : ByteArray) (v w : Int) (h6 : 12 ≤ s.size) (h : U s 0 = some v) (h' : U s 6 = some w) (hv : High v) (hw : Low w) : dec (s.extract 0 12) 12 0 = some (Lib.encodeRuneZ (pair v w)) := by
  have hz := size_cut s 0 12 h6
  have ha := U_at h
  have hb : bt (s.extract 0 12) 0 = 92 := by rw [bt_cut s 0 12 0 (by omega) (by omega) h6]; simpa using ha.2.1
  have hU' : U (s.extract 0 12) 0 = some v := by rw [U_cut s 0 12 0 (by omega) h6 (by omega)]; simpa using h
  have hU2 : U (s.extract 0 12) (0 + 6) = some w := by rw [U_cut s 0 12 (0 + 6) (by omega) h6 (by omega)]; simpa using h'
  rw [dec, if_pos (by omega), if_pos hb, hU']
  simp only [hU2]
  rw [if_pos ⟨hv, hw⟩, dec, if_neg (by omega)]
  simp

/-- "\u" follows at 6, and no unit. -/
def Torn (s : ByteArray) : Prop := 8 ≤ s.size ∧ bt s 6 = 92 ∧ bt s 7 = 117 ∧ U s 6 = none
instance (s : ByteArray) : Decidable (Torn s) := by unfold Torn; infer_instance
theorem torn_eq (s : ByteArray) (h6 : 6 ≤ s.size) (hs : s.size ≤ 100000) : Ev fun k => laws_jpTorn.f k (s.extract 6 s.size) = some (decide (Torn s)) := by
  have hz := size_cut s 6 s.size (Nat.le_refl _)
  unfold laws_jpTorn.f
  by_cases c1 : ((s.extract 6 s.size).size : Int) < 2
  · have hn : ¬ Torn s := fun h => by have := h.1; omega
    refine (Ev.ge 0).succ fun k _ => ?_
    rw [if_pos c1]
    simp [laws_jpTorn.j0, hn]
  · have b0 : bt (s.extract 6 s.size) 0 = bt s 6 := by rw [bt_cut s 6 s.size 0 (by omega) (by omega) (Nat.le_refl _)]; rfl
    have b1 : bt (s.extract 6 s.size) 1 = bt s 7 := by rw [bt_cut s 6 s.size 1 (by omega) (by omega) (Nat.le_refl _)]; rfl
    by_cases c2 : bt s 6 = 92
    · by_cases c3 : bt s 7 = 117
      · by_cases c4 : ((s.extract 6 s.size).size : Int) < 6
        · have ht : Torn s := ⟨by omega, c2, c3, U_over s 6 (by omega)⟩
          refine (Ev.ge 0).succ fun k _ => ?_
          rw [if_neg c1, if_pos (by omega), b0, if_pos c2, if_pos (by omega), b1, c3]
          simp [laws_jpTorn.j0, ht]
          intro h; omega
        · have hz2 := size_cut (s.extract 6 s.size) 0 6 (by omega)
          have hd := dec6 (s.extract 6 s.size) (by omega) (by rw [b0]; exact c2) (by rw [b1]; exact c3)
          have hU : U (s.extract 6 s.size) 0 = U s 6 := by rw [U_cut s 6 s.size 0 (by omega) (Nat.le_refl _) (by omega)]; rfl
          have hu := unescape_eq ((s.extract 6 s.size).extract 0 6) (by omega)
          rw [show ((s.extract 6 s.size).extract 0 6).size = 6 from hz2, hd, hU] at hu
          generalize s.extract 6 s.size = z at *
          refine hu.succ fun k hk => ?_
          rw [if_neg c1, if_pos (by omega), b0, if_pos c2, if_pos (by omega), b1, c3]
          simp only [laws_jpTorn.j0, bne_self_eq_false, Bool.false_eq_true, if_false]
          rw [if_neg c4, if_pos (by omega), if_pos (by omega)]
          rw [hk]
          have h8 : 8 ≤ s.size := by omega
          cases hU6 : U s 6 with
          | none => simp [Torn, c2, c3, hU6, h8]
          | some w => simp [Torn, hU6]
      · have hn : ¬ Torn s := fun h => c3 h.2.2.1
        refine (Ev.ge 0).succ fun k _ => ?_
        rw [if_neg c1, if_pos (by omega), b0, if_pos c2, if_pos (by omega), b1]
        simp [laws_jpTorn.j0, hn, c3]
    · have hn : ¬ Torn s := fun h => c2 h.2.1
      refine (Ev.ge 0).succ fun k _ => ?_
      rw [if_neg c1, if_pos (by omega), b0, if_neg c2]
      simp [laws_jpTorn.j0, hn]

end Go.Proofs.YtdllbnecbbggfaaDoor.Pure
