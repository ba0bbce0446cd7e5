/- Steps through the inside of a string (RFC 8259): what both readers say of it; steps of two texts, one behind the other. -/
import Derived.Test.YtdllbnecbbggfaaDoorPairTotalFnGjUnescapeJoin
import Derived.Test.YtdllbnecbbggfaaDoorUtf8TotalFnGjUnescapeJoin
namespace Go.Proofs.YtdllbnecbbggfaaDoor.UnescXFnGjUnescapeJoin
open Go.RowKit Go.Proofs.YtdllbnecbbggfaaDoor Go.Proofs.YtdllbnecbbggfaaDoor.Base Go.Proofs.YtdllbnecbbggfaaDoor.XFnGjUnescapeJoin Go.Proofs.YtdllbnecbbggfaaDoorW.PrintWords Go.Proofs.YtdllbnecbbggfaaDoorW.PrintLast
set_option linter.unusedVariables false
set_option linter.unusedSimpArgs false

theorem bt_from (s : ByteArray) (a : Nat) (i : Int) (h0 : 0 ≤ i) (h1 : i < (s.size : Int) - a) : bt (s.extract a s.size) i = bt s (i + a) := by
  unfold bt
  rw [dif_pos (by rw [ByteArray.size_extract]; omega), dif_pos (by omega)]
  simp only [ByteArray.getElem_extract]
  congr 3
  omega
theorem hx_hv (c : Int) : gjson_runeit.hx c = hv c := rfl
theorem run_eq {s : ByteArray} {i v : Int} (h0 : 0 ≤ i) (hs : s.size ≤ 1000000) (hU : U s i = some v) : gjson_runeit.f (s.extract (i + 2).toNat s.size) = some v := by
  have ha := U_at hU
  have hz : (s.extract (i + 2).toNat s.size).size = s.size - (i + 2).toNat := by rw [ByteArray.size_extract]; omega
  have e : ((i + 2).toNat : Int) = i + 2 := Int.toNat_of_nonneg (by omega)
  rw [U_h4 h0 ha.2.1 ha.2.2] at hU
  unfold gjson_runeit.f gjson_runeit.val
  rw [if_pos (by omega), bt_from _ _ 0 (by omega) (by omega), bt_from _ _ 1 (by omega) (by omega), bt_from _ _ 2 (by omega) (by omega), bt_from _ _ 3 (by omega) (by omega), e,
    show (0 : Int) + (i + 2) = i + 2 by omega, show (1 : Int) + (i + 2) = i + 3 by omega, show (2 : Int) + (i + 2) = i + 4 by omega, show (3 : Int) + (i + 2) = i + 5 by omega]
  exact hU
theorem tab_simple {e : Int} (h : Simple e) : gjson_unescape.tab e = some (short e) := by
  unfold Simple at h
  unfold gjson_unescape.tab short
  rcases h with rfl | rfl | rfl | rfl | rfl | rfl | rfl | rfl <;> decide
theorem tab_u : gjson_unescape.tab 117 = none := by decide
def Says (s : ByteArray) (i : Int) (xs : List Int) : Prop := (∀ m : Nat, (s.size : Int) - i ≤ m → dec s m i = some xs) ∧ ∀ acc, Ev fun k => gjson_unescape.g k s acc i = some (acc ++ xs)
theorem says_end (s : ByteArray) (i : Int) (h : s.size ≤ i) : Says s i [] := by
  refine ⟨fun m hm => ?_, fun acc => (Ev.ge 0).succ fun k _ => by rw [gjson_unescape.g, if_neg (by omega), List.append_nil]⟩
  cases m with
  | zero => rfl
  | succ m => rw [dec, if_neg (by omega)]
theorem says_plain {s : ByteArray} {i : Int} {xs : List Int} (h1 : i < s.size) (hc : bt s i ≠ 92) (h32 : 32 ≤ bt s i) (h : Says s (i + 1) xs) : Says s i ([bt s i] ++ xs) := by
  refine ⟨fun m hm => ?_, fun acc => (h.2 (acc ++ [bt s i])).succ fun k hk => ?_⟩
  · obtain ⟨m, rfl⟩ : ∃ j, m = j + 1 := ⟨m - 1, by omega⟩
    rw [dec, if_pos h1, if_neg hc, h.1 m (by omega)]
    rfl
  · rw [gjson_unescape.g, if_pos h1, if_neg (by omega), if_neg hc, hk, List.append_assoc]
theorem says_simple {s : ByteArray} {i : Int} {xs : List Int} (h1 : i < s.size) (hc : bt s i = 92) (hU : U s i = none) (hsim : Simple (bt s (i + 1))) (h : Says s (i + 2) xs) : Says s i ([short (bt s (i + 1))] ++ xs) := by
  refine ⟨fun m hm => ?_, fun acc => (h.2 (acc ++ [short (bt s (i + 1))])).succ fun k hk => ?_⟩
  · obtain ⟨m, rfl⟩ : ∃ j, m = j + 1 := ⟨m - 1, by omega⟩
    rw [dec, if_pos h1, if_pos hc, hU]
    simp only []
    rw [if_pos hsim, h.1 m (by omega)]
    rfl
  · rw [gjson_unescape.g, if_pos h1, if_neg (by omega), if_pos hc, tab_simple hsim]
    simp only []
    rw [hk, List.append_assoc]
theorem says_unit {s : ByteArray} {i v : Int} {xs : List Int} (h0 : 0 ≤ i) (hs : s.size ≤ 1000000) (hU : U s i = some v) (hh : ¬ High v) (hl : ¬ Low v) (h : Says s (i + 6) xs) : Says s i (Lib.encodeRuneZ v ++ xs) := by
  have ha := U_at hU
  unfold High at hh
  unfold Low at hl
  refine ⟨fun m hm => ?_, fun acc => (h.2 (acc ++ Lib.encodeRuneZ v)).succ fun k hk => ?_⟩
  · obtain ⟨m, rfl⟩ : ∃ j, m = j + 1 := ⟨m - 1, by omega⟩
    rw [dec, if_pos (by omega), if_pos ha.2.1, hU]
    simp only []
    cases hU2 : U s (i + 6) with
    | none => simp only []; rw [h.1 m (by omega)]; rfl
    | some w => simp only []; rw [if_neg (fun c => hh c.1), h.1 m (by omega)]; rfl
  · rw [gjson_unescape.g, if_pos (by omega), if_neg (by omega), if_pos ha.2.1, ha.2.2, tab_u]
    simp only []
    rw [if_pos ⟨trivial, by omega⟩, run_eq h0 hs hU]
    simp only [Option.bind_some]
    rw [if_neg (by omega), hk, List.append_assoc]
theorem says_pair {s : ByteArray} {i v w : Int} {xs : List Int} (h0 : 0 ≤ i) (hs : s.size ≤ 1000000) (hU : U s i = some v) (hU2 : U s (i + 6) = some w) (hh : High v) (hl : Low w) (h : Says s (i + 12) xs) : Says s i (Lib.encodeRuneZ (pair v w) ++ xs) := by
  have ha := U_at hU
  have hb := U_at hU2
  have hh' := hh
  have hl' := hl
  unfold High at hh'
  unfold Low at hl'
  refine ⟨fun m hm => ?_, fun acc => (h.2 (acc ++ Lib.encodeRuneZ (pair v w))).succ fun k hk => ?_⟩
  · obtain ⟨m, rfl⟩ : ∃ j, m = j + 1 := ⟨m - 1, by omega⟩
    rw [dec, if_pos (by omega), if_pos ha.2.1, hU]
    simp only [hU2]
    rw [if_pos ⟨hh, hl⟩, h.1 m (by omega)]
    rfl
  · rw [gjson_unescape.g, if_pos (by omega), if_neg (by omega), if_pos ha.2.1, ha.2.2, tab_u]
    simp only []
    rw [if_pos ⟨trivial, by omega⟩, run_eq h0 hs hU]
    simp only [Option.bind_some]
    have r2 := run_eq (by omega) hs hU2
    rw [show i + 6 + 2 = i + 8 by omega] at r2
    rw [if_pos (by omega), if_pos ⟨by omega, hb.2.1, by rw [← hb.2.2]; congr 1; omega⟩, r2]
    simp only [Option.bind_some]
    rw [if_pos (by omega)]
    unfold pair at hk
    rw [hk, List.append_assoc]
    rfl
/-- The steps of a reader from i to the end. -/
inductive Steps (s : ByteArray) : Int → List Int → Prop
  | fin : Steps s s.size []
  | plain {i : Int} {xs : List Int} : 0 ≤ i → i < s.size → bt s i ≠ 92 → 32 ≤ bt s i → Steps s (i + 1) xs → Steps s i ([bt s i] ++ xs)
  | simple {i : Int} {xs : List Int} : 0 ≤ i → i + 1 < s.size → bt s i = 92 → U s i = none → Simple (bt s (i + 1)) → Steps s (i + 2) xs → Steps s i ([short (bt s (i + 1))] ++ xs)
  | unit {i v : Int} {xs : List Int} : 0 ≤ i → U s i = some v → ¬ High v → ¬ Low v → Steps s (i + 6) xs → Steps s i (Lib.encodeRuneZ v ++ xs)
  | pair {i v w : Int} {xs : List Int} : 0 ≤ i → U s i = some v → U s (i + 6) = some w → High v → Low w → Steps s (i + 12) xs → Steps s i (Lib.encodeRuneZ (pair v w) ++ xs)
theorem Steps.says {s : ByteArray} (hs : s.size ≤ 1000000) {i : Int} {xs : List Int} (h : Steps s i xs) : Says s i xs := by
  induction h with
  | fin => exact says_end s _ (Int.le_refl _)
  | plain h0 h1 h2 h3 _ ih => exact says_plain h1 h2 h3 ih
  | simple h0 h1 h2 h3 h4 _ ih => exact says_simple (by omega) h2 h3 h4 ih
  | unit h0 h1 h2 h3 _ ih => exact says_unit h0 hs h1 h2 h3 ih
  | pair h0 h1 h2 h3 h4 _ ih => exact says_pair h0 hs h1 h2 h3 h4 ih
theorem steps_some (s : ByteArray) (hs : s.size ≤ 1000000) (q : ByteArray) (e : Int) (he : e = s.size + 2) : ∀ (n k : Nat), k ≤ n → ∀ i : Int, 0 ≤ i → i ≤ s.size → spec_reader_quoted.l0 k (quo s) (i + 1) = some (true, q, e) → PairedFrom s i → ∃ xs, Steps s i xs
  | n, 0, hk, i, h0, h1, h, hp => by rw [spec_reader_quoted.l0] at h; cases h
  | 0, k + 1, hk, i, h0, h1, h, hp => by omega
  | n + 1, k + 1, hk, i, h0, h1, h, hp => by
    by_cases c : i < s.size
    · rcases rq_inv hs h0 c he h with ⟨c1, c2, h⟩ | ⟨c1, c2, c3, c4, h⟩ | ⟨c1, c2, v, hU, h⟩
      · obtain ⟨xs, hx⟩ := steps_some s hs q e he n k (by omega) (i + 1) (by omega) (by omega) h (hp.plain hs h0 c c1)
        exact ⟨_, .plain h0 c c1 c2 hx⟩
      · obtain ⟨xs, hx⟩ := steps_some s hs q e he n k (by omega) (i + 2) (by omega) (by omega) h (hp.short hs h0 c c1 c4)
        exact ⟨_, .simple h0 c3 c1 c4 c2 hx⟩
      · have ha := U_at hU
        rcases hp.unit hs h0 hU with ⟨hh, w, hU2, hl, hp2⟩ | ⟨hh, hl, hp2⟩
        · have hb := U_at hU2
          cases k with
          | zero => rw [spec_reader_quoted.l0] at h; cases h
          | succ k =>
            rcases rq_inv hs (by omega) (by omega) he h with ⟨d1, _, _⟩ | ⟨_, d2, _, d4, _⟩ | ⟨_, _, u, hU3, h⟩
            · exact absurd hb.2.1 d1
            · rw [d4] at hU2; cases hU2
            · obtain ⟨xs, hx⟩ := steps_some s hs q e he n k (by omega) (i + 12) (by omega) (by omega) (by rw [show i + 12 + 1 = i + 6 + 6 + 1 by omega]; exact h) hp2
              exact ⟨_, .pair h0 hU hU2 hh hl hx⟩
        · obtain ⟨xs, hx⟩ := steps_some s hs q e he n k (by omega) (i + 6) (by omega) (by omega) h hp2
          exact ⟨_, .unit h0 hU hh hl hx⟩
    · obtain rfl : i = s.size := by omega
      exact ⟨[], .fin⟩

theorem bt_left (a b : ByteArray) {i : Int} (h0 : 0 ≤ i) (h : i < a.size) : bt (a ++ b) i = bt a i := by
  rw [← rd_bytesOf, ← rd_bytesOf, bytesOf_append, rd_append _ _ _ h0, if_pos (by rw [bytesOf_length]; exact h)]
theorem bt_right (a b : ByteArray) {i : Int} (h0 : 0 ≤ i) : bt (a ++ b) (a.size + i) = bt b i := by
  rw [← rd_bytesOf, ← rd_bytesOf, bytesOf_append, rd_append _ _ _ (by omega), if_neg (by rw [bytesOf_length]; omega), bytesOf_length, show (a.size : Int) + i - a.size = i by omega]
theorem U_left {a b : ByteArray} {i v : Int} (h0 : 0 ≤ i) (h : U a i = some v) : U (a ++ b) i = some v := by
  have ha := U_at h
  unfold U at h ⊢
  rw [if_pos ha] at h
  rw [bt_left a b h0 (by omega), bt_left a b (show 0 ≤ i + 1 by omega) (by omega), bt_left a b (show 0 ≤ i + 2 by omega) (by omega), bt_left a b (show 0 ≤ i + 3 by omega) (by omega), bt_left a b (show 0 ≤ i + 4 by omega) (by omega), bt_left a b (show 0 ≤ i + 5 by omega) (by omega), if_pos ⟨by rw [ByteArray.size_append]; omega, ha.2⟩]
  exact h
theorem U_right {a b : ByteArray} {i : Int} (h0 : 0 ≤ i) : U (a ++ b) (a.size + i) = U b i := by
  unfold U
  rw [show (a.size : Int) + i + 1 = a.size + (i + 1) by omega, show (a.size : Int) + i + 2 = a.size + (i + 2) by omega, show (a.size : Int) + i + 3 = a.size + (i + 3) by omega, show (a.size : Int) + i + 4 = a.size + (i + 4) by omega, show (a.size : Int) + i + 5 = a.size + (i + 5) by omega,
    bt_right a b h0, bt_right a b (show 0 ≤ i + 1 by omega), bt_right a b (show 0 ≤ i + 2 by omega), bt_right a b (show 0 ≤ i + 3 by omega), bt_right a b (show 0 ≤ i + 4 by omega), bt_right a b (show 0 ≤ i + 5 by omega), ByteArray.size_append]
  by_cases c : i + 6 ≤ (b.size : Int) ∧ bt b i = 92 ∧ bt b (i + 1) = 117
  · rw [if_pos c, if_pos ⟨by omega, c.2⟩]
  · rw [if_neg c, if_neg (fun h => c ⟨by omega, h.2⟩)]
theorem simple_none {s : ByteArray} {i : Int} (h : Simple (bt s (i + 1))) : U s i = none := by
  cases hU : U s i with
  | none => rfl
  | some v =>
    rw [(U_at hU).2.2] at h
    unfold Simple at h
    omega
theorem Steps.shift {a b : ByteArray} {i : Int} {xs : List Int} (h : Steps b i xs) : Steps (a ++ b) (a.size + i) xs := by
  induction h with
  | fin =>
    have := @Steps.fin (a ++ b)
    rw [ByteArray.size_append] at this
    rw [show (a.size : Int) + b.size = ((a.size + b.size : Nat) : Int) by omega]
    exact this
  | plain h0 h1 h2 h3 _ ih =>
    rw [← bt_right a b h0]
    exact .plain (by omega) (by rw [ByteArray.size_append]; omega) (by rw [bt_right a b h0]; exact h2) (by rw [bt_right a b h0]; exact h3) (by rw [show ∀ i : Int, (a.size : Int) + i + 1 = a.size + (i + 1) by intros; omega]; exact ih)
  | @simple i xs h0 h1 h2 h3 h4 _ ih =>
    have e : bt (a ++ b) ((a.size : Int) + i + 1) = bt b (i + 1) := by rw [show (a.size : Int) + i + 1 = a.size + (i + 1) by omega]; exact bt_right a b (by omega)
    rw [← e]
    exact .simple (by omega) (by rw [ByteArray.size_append]; omega) (by rw [bt_right a b h0]; exact h2) (by rw [U_right h0]; exact h3) (by rw [e]; exact h4) (by rw [show (a.size : Int) + i + 2 = a.size + (i + 2) by omega]; exact ih)
  | @unit i v xs h0 h1 h2 h3 _ ih =>
    exact .unit (by omega) (by rw [U_right h0]; exact h1) h2 h3 (by rw [show (a.size : Int) + i + 6 = a.size + (i + 6) by omega]; exact ih)
  | @pair i v w xs h0 h1 h2 h3 h4 _ ih =>
    exact .pair (by omega) (by rw [U_right h0]; exact h1) (by rw [show (a.size : Int) + i + 6 = a.size + (i + 6) by omega, U_right (by omega)]; exact h2) h3 h4 (by rw [show (a.size : Int) + i + 12 = a.size + (i + 12) by omega]; exact ih)
theorem Steps.join {a b : ByteArray} {i : Int} {xs ys : List Int} (h : Steps a i xs) (g : Steps (a ++ b) a.size ys) : Steps (a ++ b) i (xs ++ ys) := by
  induction h with
  | fin => exact g
  | @plain i xs h0 h1 h2 h3 _ ih =>
    have e := bt_left a b h0 h1
    rw [List.append_assoc, ← e]
    exact .plain h0 (by rw [ByteArray.size_append]; omega) (by rw [e]; exact h2) (by rw [e]; exact h3) ih
  | @simple i xs h0 h1 h2 h3 h4 _ ih =>
    have e := bt_left a b (show 0 ≤ i + 1 by omega) h1
    rw [List.append_assoc, ← e]
    exact .simple h0 (by rw [ByteArray.size_append]; omega) (by rw [bt_left a b h0 (by omega)]; exact h2) (simple_none (by rw [e]; exact h4)) (by rw [e]; exact h4) ih
  | @unit i v xs h0 h1 h2 h3 _ ih =>
    rw [List.append_assoc]
    exact .unit h0 (U_left h0 h1) h2 h3 ih
  | @pair i v w xs h0 h1 h2 h3 h4 _ ih =>
    rw [List.append_assoc]
    exact .pair h0 (U_left h0 h1) (U_left (by omega) h2) h3 h4 ih
theorem steps_both {a b : ByteArray} {xs ys : List Int} (h : Steps a 0 xs) (g : Steps b 0 ys) : Steps (a ++ b) 0 (xs ++ ys) := by
  have := g.shift (a := a)
  rw [show (a.size : Int) + 0 = a.size by omega] at this
  exact h.join this

end Go.Proofs.YtdllbnecbbggfaaDoor.UnescXFnGjUnescapeJoin
