/- The reference's UTF8 answers for every text. -/
import Derived.Test.YtdllbnecbbggfaaDoorEscReadFnGjUnescapeJoin
namespace Go.Proofs.YtdllbnecbbggfaaDoor.UnescXFnGjUnescapeJoin
open Go.RowKit Go.Proofs.YtdllbnecbbggfaaDoor.Base Go.Proofs.YtdllbnecbbggfaaDoor.XFnGjUnescapeJoin Go.Proofs.YtdllbnecbbggfaaDoorW.PrintWords Go.Proofs.YtdllbnecbbggfaaDoorW.PrintLast
set_option linter.unusedVariables false
set_option linter.unusedSimpArgs false

def CharSome (r : Option (Int × Int × Bool)) : Prop := ∃ c n ok, r = some (c, n, ok) ∧ 1 ≤ n ∧ n ≤ 4
theorem bad_some (c : Int) (ok : Bool) : CharSome (some (c, 1, ok)) := ⟨c, 1, ok, rfl, by omega, by omega⟩
theorem char_l0 (s : ByteArray) (hs : s.size ≤ 4294967296) (i x8 x9 : Int) (h0 : 0 ≤ i) (h1 : i + x8 < s.size) (h2 : 0 ≤ x8) (h3 : x8 ≤ 3) : ∀ (d : Nat) (x7 x10 : Int), 1 ≤ x10 → x10 ≤ x8 + 1 → x8 + 1 - x10 ≤ d → ∀ k, d < k → CharSome (spec_Character.l0 k s i x7 x8 x9 x10)
  | d, x7, x10, a, b, c, 0, hk => by omega
  | d, x7, x10, a, b, c, k + 1, hk => by
    rw [spec_Character.l0]
    by_cases e : x10 ≤ x8
    · rw [if_pos e, w64 (i := i + x10) (by omega) (by omega), if_pos (by omega), if_pos (by omega)]
      split
      · exact bad_some _ _
      · split
        · exact bad_some _ _
        · cases d with
          | zero => omega
          | succ d =>
            rw [w64 (i := x10 + 1) (by omega) (by omega)]
            exact char_l0 s hs i x8 x9 h0 h1 h2 h3 d _ (x10 + 1) (by omega) (by omega) (by omega) k (by omega)
    · rw [if_neg e]
      split
      · exact bad_some _ _
      · split
        · exact bad_some _ _
        · rw [high_eq]
          simp only [Option.bind_some]
          split
          · exact bad_some _ _
          · rw [low_eq]
            simp only [Option.bind_some]
            split
            · exact bad_some _ _
            · rw [w64 (by omega) (by omega)]
              exact ⟨_, _, _, rfl, by omega, by omega⟩
theorem char_j2 (s : ByteArray) (hs : s.size ≤ 4294967296) (i x7 x8 x9 : Int) (h0 : 0 ≤ i) (h1 : i < s.size) (h2 : 0 ≤ x8) (h3 : x8 ≤ 3) (k : Nat) (hk : 6 ≤ k) : CharSome (spec_Character.j2 k s i x7 x8 x9) := by
  obtain ⟨j, rfl⟩ : ∃ j, k = j + 6 := ⟨k - 6, by omega⟩
  rw [spec_Character.j2, w64i (i := (s.size : Int) - i) (by omega) (by omega)]
  split
  · exact bad_some _ _
  · exact char_l0 s hs i x8 x9 h0 (by omega) h2 h3 3 _ 1 (by omega) (by omega) (by omega) (j + 5) (by omega)
theorem char_some (s : ByteArray) (hs : s.size ≤ 4294967296) (i : Int) (h0 : 0 ≤ i) (h1 : i < s.size) (k : Nat) (hk : 8 ≤ k) : CharSome (spec_Character.f k s i) := by
  obtain ⟨j, rfl⟩ : ∃ j, k = j + 8 := ⟨k - 8, by omega⟩
  have hr := bt_range s i
  have j2 := fun x7 x8 x9 a b k hk => char_j2 s hs i x7 x8 x9 h0 h1 a b k hk
  have j1 : ∀ b, CharSome (spec_Character.j1 (j + 7) s i (bt s i) b) := fun b => by
    rw [spec_Character.j1]
    split
    · exact j2 _ _ _ (by omega) (by omega) (j + 6) (by omega)
    · split
      · split
        · exact j2 _ _ _ (by omega) (by omega) (j + 6) (by omega)
        · exact bad_some _ _
      · exact bad_some _ _
  have j0 : ∀ b, CharSome (spec_Character.j0 (j + 8) s i (bt s i) b) := fun b => by
    rw [spec_Character.j0]
    split
    · exact j2 _ _ _ (by omega) (by omega) (j + 7) (by omega)
    · split
      · exact j1 _
      · exact j1 _
  unfold spec_Character.f
  rw [if_pos h0, if_pos h1, w64 (i := bt s i) (by omega) (by omega)]
  split
  · exact bad_some _ _
  · split
    · exact j0 _
    · exact j0 _
theorem utf8_from (s : ByteArray) (hs : s.size ≤ 4294967296) : ∀ (m : Nat) (i : Int), 0 ≤ i → (s.size : Int) - i ≤ m → ∃ b : Bool, Ev fun k => spec_UTF8.l0 k s i = some b
  | 0, i, h0, hm => ⟨true, (Ev.ge 0).succ fun k _ => by rw [spec_UTF8.l0, if_neg (by omega)]⟩
  | m + 1, i, h0, hm => by
    by_cases c : i < s.size
    · obtain ⟨ch, n, ok, hc, hn1, hn4⟩ := char_some s hs i h0 c 8 (by omega)
      have hall : Ev fun k => spec_Character.f k s i = some (ch, n, ok) := ⟨8, fun k hk => by
        obtain ⟨j, rfl⟩ : ∃ j, k = 8 + j := ⟨k - 8, by omega⟩
        induction j with
        | zero => exact hc
        | succ j ih => exact spec_Character.mono s i (8 + j) _ (ih (by omega))⟩
      cases ok with
      | true =>
        by_cases hi : i + n ≤ 9223372036854775807
        · obtain ⟨b, hb⟩ := utf8_from s hs m (i + n) (by omega) (by omega)
          refine ⟨b, (hall.and hb).succ fun k hk => ?_⟩
          rw [spec_UTF8.l0, if_pos c, hk.1]
          simp only [Option.bind_some, if_true]
          rw [w64 (by omega) (by omega)]
          exact hk.2
        · omega
      | false =>
        refine ⟨false, hall.succ fun k hk => ?_⟩
        rw [spec_UTF8.l0, if_pos c, hk]
        simp
    · exact ⟨true, (Ev.ge 0).succ fun k _ => by rw [spec_UTF8.l0, if_neg c]⟩
theorem utf8_some (s : ByteArray) (hs : s.size ≤ 4294967296) : ∃ b : Bool, Ev fun k => spec_UTF8.f k s = some b := utf8_from s hs s.size 0 (by omega) (by omega)

end Go.Proofs.YtdllbnecbbggfaaDoor.UnescXFnGjUnescapeJoin
