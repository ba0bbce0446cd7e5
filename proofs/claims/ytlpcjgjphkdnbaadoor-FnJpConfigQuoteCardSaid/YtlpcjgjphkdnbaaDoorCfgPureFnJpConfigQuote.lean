/- Plain facts on the two texts of the law on single quotes: where the string ends, what stands in it, and what it is without its escape. -/
import Derived.Test.YtlpcjgjphkdnbaaDoorCfgGetFnJpConfigQuote
import Derived.Test.YtlpcjgjphkdnbaaDoorBase
namespace Go.Proofs.YtlpcjgjphkdnbaaDoor.XFnJpConfigQuote
open Go.RowKit Go.Proofs.YtlpcjgjphkdnbaaDoor.Base Go.Proofs.YtlpcjgjphkdnbaaDoorW.PrintWords Go.Proofs.YtlpcjgjphkdnbaaDoorW.PrintLast
set_option linter.unusedVariables false
set_option linter.unusedSimpArgs false

/-- Bytes without quotes and backslashes. -/
def Clear (l : List Int) : Prop := ∀ x ∈ l, x ≠ 34 ∧ x ≠ 39 ∧ x ≠ 92 ∧ 0 ≤ x ∧ x ≤ 255
theorem rd_app_l (a b : List Int) (j : Nat) (h : j < a.length) : rd (a ++ b) (j : Int) = rd a (j : Int) := by
  unfold rd
  simp only [Int.toNat_natCast, List.getD_eq_getElem?_getD]
  rw [List.getElem?_append_left h]
theorem rd_app_r (a b : List Int) (j : Nat) (h : a.length ≤ j) : rd (a ++ b) (j : Int) = rd b ((j - a.length : Nat) : Int) := by
  unfold rd
  simp only [Int.toNat_natCast, List.getD_eq_getElem?_getD]
  rw [List.getElem?_append_right h]
theorem rd_mem (l : List Int) (j : Nat) (h : j < l.length) : rd l (j : Int) ∈ l := by
  unfold rd
  simp only [Int.toNat_natCast, List.getD_eq_getElem?_getD]
  rw [List.getElem?_eq_getElem h]
  exact List.getElem_mem h
theorem bsl_clear (l : List Int) (h : ∀ x ∈ l, x ≠ 92) : unescQ.bsl l = -1 := by
  induction l with
  | nil => rfl
  | cons x r ih =>
    rw [unescQ.bsl, if_neg (h x (by simp)), ih fun y hy => h y (by simp [hy]), if_pos rfl]
theorem bsl_at (a r : List Int) (h : ∀ x ∈ a, x ≠ 92) : unescQ.bsl (a ++ 92 :: r) = a.length := by
  induction a with
  | nil => rfl
  | cons x a ih =>
    rw [List.cons_append, unescQ.bsl, if_neg (h x (by simp)), ih fun y hy => h y (by simp [hy]), if_neg (by omega)]
    simp
/-- Without the escape. -/
theorem full_one (F S : List Int) (hF : Clear F) (hS : Clear S) : unescQ.full 1 (F ++ 92 :: 39 :: S) = some (F ++ 39 :: S) := by
  unfold unescQ.full
  rw [bsl_at F (39 :: S) fun x hx => (hF x hx).2.2.1, if_neg (by omega), Int.toNat_natCast, List.drop_left, List.take_left]
  have he : unescQ.esc 1 (92 :: 39 :: S) = some (2, [39]) := by
    unfold unescQ.esc
    rw [if_neg (by simp only [List.length_cons]; omega), if_pos ⟨rfl, rfl⟩]
  rw [unescQ.un, he]
  have hb : unescQ.bsl S = -1 := bsl_clear S fun x hx => (hS x hx).2.2.1
  simp only [Option.bind_some]
  rw [if_pos (by simp only [List.length_cons, List.length_nil]; omega), show (2 : Int).toNat = 2 from rfl, show List.drop 2 (92 :: 39 :: S) = S from rfl, if_pos hb]
  rfl
theorem full_none (B : List Int) (h : ∀ x ∈ B, x ≠ 92) : unescQ.full 1 B = some B := by
  unfold unescQ.full
  rw [if_pos (bsl_clear B h)]
/-- The end of a string without backslashes. -/
theorem ends_clear (B r : List Int) (h : ∀ x ∈ B, x ≠ 39 ∧ x ≠ 92) : StrEnd.Ends (B ++ 39 :: r) 39 B.length := by
  have hj : ∀ j, j < B.length → rd (B ++ 39 :: r) (j : Int) ≠ 39 ∧ rd (B ++ 39 :: r) (j : Int) ≠ 92 := fun j hj => by
    rw [rd_app_l _ _ _ hj]; exact h _ (rd_mem B j hj)
  refine ⟨by simp, ?_, StrEnd.escd_free _ fun j h => (hj j h).2, fun j h hq => absurd hq (hj j h).1⟩
  rw [rd_app_r _ _ _ (Nat.le_refl _), Nat.sub_self]
  rfl
/-- The end of a string with one quote behind a backslash. -/
theorem ends_one (F S r : List Int) (hF : Clear F) (hS : Clear S) : StrEnd.Ends ((F ++ 92 :: 39 :: S) ++ 39 :: r) 39 (F ++ 92 :: 39 :: S).length := by
  have hlen : (F ++ 92 :: 39 :: S).length = F.length + 2 + S.length := by simp only [List.length_append, List.length_cons]; omega
  have e : (F ++ 92 :: 39 :: S) ++ 39 :: r = F ++ (92 :: 39 :: (S ++ 39 :: r)) := by simp
  rw [hlen, e]
  have a0 : ∀ j, j < F.length → rd (F ++ (92 :: 39 :: (S ++ 39 :: r))) (j : Int) ≠ 39 ∧ rd (F ++ (92 :: 39 :: (S ++ 39 :: r))) (j : Int) ≠ 92 := fun j hj => by
    rw [rd_app_l _ _ _ hj]; have := hF _ (rd_mem F j hj); exact ⟨this.2.1, this.2.2.1⟩
  have a1 : rd (F ++ (92 :: 39 :: (S ++ 39 :: r))) (F.length : Int) = 92 := by
    rw [rd_app_r _ _ _ (Nat.le_refl _), Nat.sub_self]; rfl
  have a2 : rd (F ++ (92 :: 39 :: (S ++ 39 :: r))) ((F.length + 1 : Nat) : Int) = 39 := by
    rw [rd_app_r _ _ _ (by omega), show F.length + 1 - F.length = 1 by omega]; rfl
  have a3 : ∀ i, i < S.length → rd (F ++ (92 :: 39 :: (S ++ 39 :: r))) ((F.length + 2 + i : Nat) : Int) ≠ 39 ∧ rd (F ++ (92 :: 39 :: (S ++ 39 :: r))) ((F.length + 2 + i : Nat) : Int) ≠ 92 := fun i hi => by
    have e2 : F ++ (92 :: 39 :: (S ++ 39 :: r)) = (F ++ ([92, 39] : List Int)) ++ (S ++ 39 :: r) := by simp
    rw [e2, rd_app_r _ _ _ (by simp only [List.length_append, List.length_cons, List.length_nil]; omega), show F.length + 2 + i - (F ++ ([92, 39] : List Int)).length = i by simp only [List.length_append, List.length_cons, List.length_nil]; omega, rd_app_l _ _ _ hi]
    have := hS _ (rd_mem S i hi); exact ⟨this.2.1, this.2.2.1⟩
  refine ⟨by simp only [List.length_append, List.length_cons]; omega, ?_, ?_, fun j hj hq => ?_⟩
  · have e2 : F ++ (92 :: 39 :: (S ++ 39 :: r)) = (F ++ 92 :: 39 :: S) ++ (39 :: r) := by simp
    rw [e2, rd_app_r _ _ _ (by rw [hlen]; exact Nat.le_refl _), hlen, Nat.sub_self]; rfl
  · have hs : F.length + 2 + S.length = (F.length + 1 + S.length) + 1 := by omega
    rw [hs]
    refine StrEnd.escd_not ?_
    by_cases h0 : S.length = 0
    · rw [h0, Nat.add_zero, a2]; decide
    · have := (a3 (S.length - 1) (by omega)).2
      rwa [show F.length + 2 + (S.length - 1) = F.length + 1 + S.length by omega] at this
  · by_cases h1 : j < F.length
    · exact absurd hq (a0 j h1).1
    · by_cases h2 : j = F.length
      · subst h2; rw [a1] at hq; cases hq
      · by_cases h3 : j = F.length + 1
        · subst h3
          rw [StrEnd.escd_yes a1, StrEnd.escd_free F.length fun i hi => (a0 i hi).2]; rfl
        · have := (a3 (j - (F.length + 2)) (by omega)).1
          rw [show F.length + 2 + (j - (F.length + 2)) = j by omega] at this
          exact absurd hq this
def pre : List Int := [123, 39, 97, 39, 58, 32, 39]
theorem hd_of (R : List Int) (h4 : 3 ≤ R.length) (hm : R.length ≤ 1000) (hby : ∀ x ∈ R, 0 ≤ x ∧ x ≤ 255) : Hd (pre ++ R) := by
  refine ⟨?_, ?_, ?_, rfl, rfl, rfl, rfl, rfl, rfl, rfl⟩
  · rw [List.length_append]; show 10 ≤ 7 + R.length; omega
  · rw [List.length_append]; show 7 + R.length ≤ 1000000; omega
  · intro x hx
    rcases List.mem_append.mp hx with h | h
    · have hp : ∀ x ∈ pre, 0 ≤ x ∧ x ≤ 255 := by decide
      exact hp x h
    · exact hby x h
theorem drop_pre (R : List Int) : (pre ++ R).drop 7 = R := rfl

/-- jpSimple answers; of a text that it lets through each byte is no quote and no backslash. -/
theorem simple_from (s : ByteArray) (hs : s.size ≤ 2147483647) : ∀ (m : Nat) (x : Int), 0 ≤ x → (s.size : Int) - x ≤ m → x ≤ s.size → ∃ r, laws_jpSimple.l0 (m + 1) s x = some r ∧ (r = true → s.size ≤ 100 ∧ ∀ i : Int, x ≤ i → i < s.size → bt s i ≠ 34 ∧ bt s i ≠ 39 ∧ bt s i ≠ 92)
  | m, x, h0, hm, hx => by
    rw [laws_jpSimple.l0]
    by_cases c : x < s.size
    · cases m with
      | zero => omega
      | succ m =>
        obtain ⟨r, hr, hp⟩ := simple_from s hs m (x + 1) (by omega) (by omega) (by omega)
        rw [if_pos c, if_pos h0, w64 (i := x + 1) (by omega) (by omega), hr]
        by_cases k34 : bt s x = 34
        · refine ⟨false, ?_, fun h => by cases h⟩
          rw [k34]; clear hp hr; cases r <;> decide +kernel
        · by_cases k39 : bt s x = 39
          · refine ⟨false, ?_, fun h => by cases h⟩
            rw [k39]; clear hp hr; cases r <;> decide +kernel
          · by_cases k92 : bt s x = 92
            · refine ⟨false, ?_, fun h => by cases h⟩
              rw [k92]; clear hp hr; cases r <;> decide +kernel
            · have good : r = true → s.size ≤ 100 ∧ ∀ i : Int, x ≤ i → i < s.size → bt s i ≠ 34 ∧ bt s i ≠ 39 ∧ bt s i ≠ 92 := fun h => by
                obtain ⟨h1, h2⟩ := hp h
                refine ⟨h1, fun i a b => ?_⟩
                by_cases e : i = x
                · subst e; exact ⟨k34, k39, k92⟩
                · exact h2 i (by omega) b
              have bad : (false = true → s.size ≤ 100 ∧ ∀ i : Int, x ≤ i → i < s.size → bt s i ≠ 34 ∧ bt s i ≠ 39 ∧ bt s i ≠ 92) := fun h => by cases h
              repeat' split
              all_goals first
                | exact ⟨_, rfl, good⟩
                | exact ⟨_, rfl, bad⟩
    · rw [if_neg c]
      exact ⟨_, rfl, fun h => ⟨by have := of_decide_eq_true h; omega, fun i a b => by omega⟩⟩
theorem simple_tot (s : ByteArray) (hs : s.size ≤ 2147483647) : ∃ k r, laws_jpSimple.f k s = some r ∧ (r = true → s.size ≤ 100 ∧ Clear (bytesOf s)) := by
  obtain ⟨r, hr, hp⟩ := simple_from s hs s.size 0 (by omega) (by omega) (by omega)
  refine ⟨s.size + 1, r, hr, fun h => ?_⟩
  obtain ⟨h1, h2⟩ := hp h
  refine ⟨h1, fun x hx => ?_⟩
  obtain ⟨j, hj, rfl⟩ := List.getElem_of_mem hx
  rw [bytesOf_length] at hj
  have e : (bytesOf s)[j]'(by rw [bytesOf_length]; exact hj) = bt s (j : Int) := by
    rw [← rd_bytesOf]
    unfold rd
    simp only [Int.toNat_natCast, List.getD_eq_getElem?_getD]
    rw [List.getElem?_eq_getElem (by rw [bytesOf_length]; exact hj)]
    rfl
  rw [e]
  have := h2 (j : Int) (by omega) (by omega)
  have hb := bt_range s (j : Int)
  exact ⟨this.1, this.2.1, this.2.2, hb.1, hb.2⟩

end Go.Proofs.YtlpcjgjphkdnbaaDoor.XFnJpConfigQuote
