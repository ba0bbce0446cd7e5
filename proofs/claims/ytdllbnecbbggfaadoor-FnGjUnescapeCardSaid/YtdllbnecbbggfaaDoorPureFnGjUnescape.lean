/- Proved: gjson's unescape and the reference's Unquote say the same of the inside of a string without half surrogate pairs. -/
import Derived.Test.YtdllbnecbbggfaaDoorPairTotalFnGjUnescape
import Derived.Test.YtdllbnecbbggfaaDoorUtf8TotalFnGjUnescape
namespace Go.Proofs.YtdllbnecbbggfaaDoor.Pure
open Go.RowKit Go.Proofs.YtdllbnecbbggfaaDoor Go.Proofs.YtdllbnecbbggfaaDoor.Base Go.Proofs.YtdllbnecbbggfaaDoor.XFnGjUnescape Go.Proofs.YtdllbnecbbggfaaDoor.UnescXFnGjUnescape Go.Proofs.YtdllbnecbbggfaaDoorW.PrintWords Go.Proofs.YtdllbnecbbggfaaDoorW.PrintLast
set_option linter.unusedVariables false
set_option linter.unusedSimpArgs false

theorem bt_from (s : ByteArray) (a : Nat) (i : Int) (h0 : 0 ≤ i) (h1 : i < (s.size : Int) - a) : bt (s.extract a s.size) i = bt s (i + a) := by
  unfold bt
  rw [dif_pos (by rw [ByteArray.size_extract]; omega), dif_pos (by omega)]
  simp only [ByteArray.getElem_extract]
  congr 3
  omega
theorem hx_hv (c : Int) : gjson_runeit.hx c = hv c := rfl
theorem run_eq {s : ByteArray} {i v : Int} (h0 : 0 ≤ i) (hs : s.size ≤ 1000000) (hU : U s i = some v) : gjson_runeit.f (s.extract (i + 2).toNat s.size) = some v := by
  have ha := U_at hU
  have hz : (s.extract (i + 2).toNat s.size).size = s.size - (i + 2).toNat := by rw [ByteArray.size_extract]; omega
  have e : ((i + 2).toNat : Int) = i + 2 := Int.toNat_of_nonneg (by omega)
  rw [U_h4 h0 ha.2.1 ha.2.2] at hU
  unfold gjson_runeit.f gjson_runeit.val
  rw [if_pos (by omega), bt_from _ _ 0 (by omega) (by omega), bt_from _ _ 1 (by omega) (by omega), bt_from _ _ 2 (by omega) (by omega), bt_from _ _ 3 (by omega) (by omega), e,
    show (0 : Int) + (i + 2) = i + 2 by omega, show (1 : Int) + (i + 2) = i + 3 by omega, show (2 : Int) + (i + 2) = i + 4 by omega, show (3 : Int) + (i + 2) = i + 5 by omega]
  exact hU
theorem tab_simple {e : Int} (h : Simple e) : gjson_unescape.tab e = some (short e) := by
  unfold Simple at h
  unfold gjson_unescape.tab short
  rcases h with rfl | rfl | rfl | rfl | rfl | rfl | rfl | rfl <;> decide
theorem tab_u : gjson_unescape.tab 117 = none := by decide
def Says (s : ByteArray) (i : Int) (xs : List Int) : Prop := (∀ m : Nat, (s.size : Int) - i ≤ m → dec s m i = some xs) ∧ ∀ acc, Ev fun k => gjson_unescape.g k s acc i = some (acc ++ xs)
theorem says_end (s : ByteArray) (i : Int) (h : s.size ≤ i) : Says s i [] := by
  refine ⟨fun m hm => ?_, fun acc => (Ev.ge 0).succ fun k _ => by rw [gjson_unescape.g, if_neg (by omega), List.append_nil]⟩
  cases m with
  | zero => rfl
  | succ m => rw [dec, if_neg (by omega)]
theorem says_plain {s : ByteArray} {i : Int} {xs : List Int} (h1 : i < s.size) (hc : bt s i ≠ 92) (h32 : 32 ≤ bt s i) (h : Says s (i + 1) xs) : Says s i ([bt s i] ++ xs) := by
  refine ⟨fun m hm => ?_, fun acc => (h.2 (acc ++ [bt s i])).succ fun k hk => ?_⟩
  · obtain ⟨m, rfl⟩ : ∃ j, m = j + 1 := ⟨m - 1, by omega⟩
    rw [dec, if_pos h1, if_neg hc, h.1 m (by omega)]
    rfl
  · rw [gjson_unescape.g, if_pos h1, if_neg (by omega), if_neg hc, hk, List.append_assoc]
theorem says_simple {s : ByteArray} {i : Int} {xs : List Int} (h1 : i < s.size) (hc : bt s i = 92) (hU : U s i = none) (hsim : Simple (bt s (i + 1))) (h : Says s (i + 2) xs) : Says s i ([short (bt s (i + 1))] ++ xs) := by
  refine ⟨fun m hm => ?_, fun acc => (h.2 (acc ++ [short (bt s (i + 1))])).succ fun k hk => ?_⟩
  · obtain ⟨m, rfl⟩ : ∃ j, m = j + 1 := ⟨m - 1, by omega⟩
    rw [dec, if_pos h1, if_pos hc, hU]
    simp only []
    rw [if_pos hsim, h.1 m (by omega)]
    rfl
  · rw [gjson_unescape.g, if_pos h1, if_neg (by omega), if_pos hc, tab_simple hsim]
    simp only []
    rw [hk, List.append_assoc]
theorem says_unit {s : ByteArray} {i v : Int} {xs : List Int} (h0 : 0 ≤ i) (hs : s.size ≤ 1000000) (hU : U s i = some v) (hh : ¬ High v) (hl : ¬ Low v) (h : Says s (i + 6) xs) : Says s i (Lib.encodeRuneZ v ++ xs) := by
  have ha := U_at hU
  unfold High at hh
  unfold Low at hl
  refine ⟨fun m hm => ?_, fun acc => (h.2 (acc ++ Lib.encodeRuneZ v)).succ fun k hk => ?_⟩
  · obtain ⟨m, rfl⟩ : ∃ j, m = j + 1 := ⟨m - 1, by omega⟩
    rw [dec, if_pos (by omega), if_pos ha.2.1, hU]
    simp only []
    cases hU2 : U s (i + 6) with
    | none => simp only []; rw [h.1 m (by omega)]; rfl
    | some w => simp only []; rw [if_neg (fun c => hh c.1), h.1 m (by omega)]; rfl
  · rw [gjson_unescape.g, if_pos (by omega), if_neg (by omega), if_pos ha.2.1, ha.2.2, tab_u]
    simp only []
    rw [if_pos ⟨trivial, by omega⟩, run_eq h0 hs hU]
    simp only [Option.bind_some]
    rw [if_neg (by omega), hk, List.append_assoc]
theorem says_pair {s : ByteArray} {i v w : Int} {xs : List Int} (h0 : 0 ≤ i) (hs : s.size ≤ 1000000) (hU : U s i = some v) (hU2 : U s (i + 6) = some w) (hh : High v) (hl : Low w) (h : Says s (i + 12) xs) : Says s i (Lib.encodeRuneZ (pair v w) ++ xs) := by
  have ha := U_at hU
  have hb := U_at hU2
  have hh' := hh
  have hl' := hl
  unfold High at hh'
  unfold Low at hl'
  refine ⟨fun m hm => ?_, fun acc => (h.2 (acc ++ Lib.encodeRuneZ (pair v w))).succ fun k hk => ?_⟩
  · obtain ⟨m, rfl⟩ : ∃ j, m = j + 1 := ⟨m - 1, by omega⟩
    rw [dec, if_pos (by omega), if_pos ha.2.1, hU]
    simp only [hU2]
    rw [if_pos ⟨hh, hl⟩, h.1 m (by omega)]
    rfl
  · rw [gjson_unescape.g, if_pos (by omega), if_neg (by omega), if_pos ha.2.1, ha.2.2, tab_u]
    simp only []
    rw [if_pos ⟨trivial, by omega⟩, run_eq h0 hs hU]
    simp only [Option.bind_some]
    have r2 := run_eq (by omega) hs hU2
    rw [show i + 6 + 2 = i + 8 by omega] at r2
    rw [if_pos (by omega), if_pos ⟨by omega, hb.2.1, by rw [← hb.2.2]; congr 1; omega⟩, r2]
    simp only [Option.bind_some]
    rw [if_pos (by omega)]
    unfold pair at hk
    rw [hk, List.append_assoc]
    rfl
theorem both (s : ByteArray) (hs : s.size ≤ 1000000) (q : ByteArray) (e : Int) (he : e = s.size + 2) : ∀ (n k : Nat), k ≤ n → ∀ i : Int, 0 ≤ i → i ≤ s.size → spec_reader_quoted.l0 k (quo s) (i + 1) = some (true, q, e) → PairedFrom s i → ∃ xs, Says s i xs
  | n, 0, hk, i, h0, h1, h, hp => by rw [spec_reader_quoted.l0] at h; cases h
  | 0, k + 1, hk, i, h0, h1, h, hp => by omega
  | n + 1, k + 1, hk, i, h0, h1, h, hp => by
    by_cases c : i < s.size
    · rcases rq_inv hs h0 c he h with ⟨c1, c2, h⟩ | ⟨c1, c2, c3, c4, h⟩ | ⟨c1, c2, v, hU, h⟩
      · obtain ⟨xs, hx⟩ := both s hs q e he n k (by omega) (i + 1) (by omega) (by omega) h (hp.plain hs h0 c c1)
        exact ⟨_, says_plain c c1 c2 hx⟩
      · obtain ⟨xs, hx⟩ := both s hs q e he n k (by omega) (i + 2) (by omega) (by omega) h (hp.short hs h0 c c1 c4)
        exact ⟨_, says_simple c c1 c4 c2 hx⟩
      · have ha := U_at hU
        rcases hp.unit hs h0 hU with ⟨hh, w, hU2, hl, hp2⟩ | ⟨hh, hl, hp2⟩
        · have hb := U_at hU2
          cases k with
          | zero => rw [spec_reader_quoted.l0] at h; cases h
          | succ k =>
            rcases rq_inv hs (by omega) (by omega) he h with ⟨d1, _, _⟩ | ⟨_, d2, _, d4, _⟩ | ⟨_, _, u, hU3, h⟩
            · exact absurd hb.2.1 d1
            · rw [d4] at hU2; cases hU2
            · obtain ⟨xs, hx⟩ := both s hs q e he n k (by omega) (i + 12) (by omega) (by omega) (by rw [show i + 12 + 1 = i + 6 + 6 + 1 by omega]; exact h) hp2
              exact ⟨_, says_pair h0 hs hU hU2 hh hl hx⟩
        · obtain ⟨xs, hx⟩ := both s hs q e he n k (by omega) (i + 6) (by omega) (by omega) h hp2
          exact ⟨_, says_unit h0 hs hU hh hl hx⟩
    · exact ⟨[], says_end s i (by omega)⟩

theorem done_true (k : Nat) (s t : ByteArray) : laws_FnGjUnescape.j0 (k + 1) s t true = some true := by rw [laws_FnGjUnescape.j0, if_pos rfl]
theorem FnGjUnescape : laws_FnGjUnescape.Pure := by
  intro s _
  by_cases c1 : (s.size : Int) > 2147483647
  · exact ⟨0, by unfold laws_FnGjUnescape.f; rw [if_pos c1]⟩
  · have hq : (((⟨#[34]⟩ : ByteArray) ++ s) ++ (⟨#[34]⟩ : ByteArray)) = quo s := rfl
    have hz := quo_size s
    have h1 : ((⟨#[34]⟩ : ByteArray) ++ s).size = 1 + s.size := by rw [ByteArray.size_append]; rfl
    obtain ⟨b, e, hb⟩ := stringAt_some (quo s) (by omega)
    have start : ∀ k, laws_FnGjUnescape.f k s = (spec_StringAt.f k (quo s) 1).bind fun bt186 => (if bt186.2 = true then (if bt186.1 = ((quo s).size : Int) then (if (s.size : Int) > 4096 then (laws_FnGjUnescape.j0 k s (quo s) true) else ((spec_UTF8.f k s).bind fun t188 => (if t188 = true then ((spec_Paired.f k s).bind fun t189 => (laws_FnGjUnescape.j0 k s (quo s) (!t189))) else (laws_FnGjUnescape.j0 k s (quo s) true)))) else (laws_FnGjUnescape.j0 k s (quo s) true)) else (laws_FnGjUnescape.j0 k s (quo s) true)) := fun k => by
      unfold laws_FnGjUnescape.f
      rw [if_neg c1, if_pos (by omega), if_pos (by omega)]
      rfl
    have fin : (Ev fun k => laws_FnGjUnescape.f k s = laws_FnGjUnescape.j0 k s (quo s) true) → ∃ k, laws_FnGjUnescape.f k s = some true := fun h => by
      obtain ⟨k, hk, hk1⟩ := (h.and (Ev.ge 1)).ex
      obtain ⟨j, rfl⟩ : ∃ j, k = j + 1 := ⟨k - 1, by omega⟩
      exact ⟨j + 1, by rw [hk, done_true]⟩
    cases b with
    | false => exact fin (hb.mp fun k hk => by rw [start, hk.1]; simp)
    | true =>
      by_cases c2 : e = ((quo s).size : Int)
      · by_cases c3 : (s.size : Int) > 4096
        · exact fin (hb.mp fun k hk => by rw [start, hk.1]; simp only [Option.bind_some, if_true]; rw [if_pos c2, if_pos c3])
        · obtain ⟨u, hu⟩ := utf8_some s (by omega)
          cases u with
          | false => exact fin ((hb.and hu).mp fun k hk => by rw [start, hk.1.1]; simp only [Option.bind_some, if_true]; rw [if_pos c2, if_neg c3, hk.2]; simp)
          | true =>
            obtain ⟨pr, hp⟩ := paired_some s (by omega)
            cases pr with
            | false => exact fin (((hb.and hu).and hp).mp fun k hk => by rw [start, hk.1.1.1]; simp only [Option.bind_some, if_true]; rw [if_pos c2, if_neg c3, hk.1.2]; simp only [Option.bind_some, if_true]; rw [hk.2]; simp)
            | true =>
              obtain ⟨k0, hk0⟩ := hb.ex
              obtain ⟨k1, hk1⟩ := hp.ex
              obtain ⟨xs, hx⟩ := both s (by omega) (quo s) e (by omega) k0 k0 (Nat.le_refl _) 0 (by omega) (by omega) (by simpa using hk0.2) ⟨k1, hk1⟩
              have hun := unquote_eq s (by omega) xs (hx.1 s.size (by omega))
              have hg := hx.2 []
              obtain ⟨k, hk⟩ := ((((hb.and hu).and hp).and (Ev.succ (Q := fun k => ∃ j, k = j + 1 ∧ spec_Unquote.f j (quo s) = some (strOfNums xs) ∧ gjson_unescape.g j s [] 0 = some ([] ++ xs)) (hun.and hg) fun k hk => ⟨k, rfl, hk⟩))).ex
              obtain ⟨⟨⟨ha, hb2⟩, hc⟩, j, rfl, hd, he⟩ := hk
              refine ⟨j + 1, ?_⟩
              rw [start, ha.1]
              simp only [Option.bind_some, if_true]
              rw [if_pos c2, if_neg c3, hb2]
              simp only [Option.bind_some, if_true]
              rw [hc]
              simp only [Option.bind_some, Bool.not_true]
              rw [laws_FnGjUnescape.j0, if_neg (by decide), hd]
              unfold impl_GjUnescape.f gjson_DoorUnescape.f gjson_unescape.f
              rw [if_pos (by omega), he]
              simp
      · exact fin (hb.mp fun k hk => by rw [start, hk.1]; simp only [Option.bind_some, if_true]; rw [if_neg c2])

end Go.Proofs.YtdllbnecbbggfaaDoor.Pure
