/- What a text with escapes stands for ('dec'), and that the reference's Unquote says so. -/
import Derived.Test.YtdllbnecbbggfaaDoorEscReadFnGjQuoteValid
namespace Go.Proofs.YtdllbnecbbggfaaDoor.UnescXFnGjQuoteValid
open Go.RowKit Go.Proofs.YtdllbnecbbggfaaDoor.Base Go.Proofs.YtdllbnecbbggfaaDoor.XFnGjQuoteValid Go.Proofs.YtdllbnecbbggfaaDoorW.PrintWords Go.Proofs.YtdllbnecbbggfaaDoorW.PrintLast
set_option linter.unusedVariables false

/-- What the text stands for from i on; none: an escape is wrong. -/
def dec (s : ByteArray) : Nat → Int → Option (List Int)
  | 0, _ => some []
  | m + 1, i =>
    if i < s.size then
      if bt s i = 92 then
        match U s i with
        | some v =>
          match U s (i + 6) with
          | some v2 => if High v ∧ Low v2 then (dec s m (i + 12)).map (Lib.encodeRuneZ (pair v v2) ++ ·) else (dec s m (i + 6)).map (Lib.encodeRuneZ v ++ ·)
          | none => (dec s m (i + 6)).map (Lib.encodeRuneZ v ++ ·)
        | none => if Simple (bt s (i + 1)) then (dec s m (i + 2)).map ([short (bt s (i + 1))] ++ ·) else none
      else (dec s m (i + 1)).map ([bt s i] ++ ·)
    else some []
theorem appendUTF8_eq (k : Nat) (hk : 1 ≤ k) (acc : List Int) (v : Int) (h0 : 0 ≤ v) (h1 : v ≤ 1114111) (hl : acc.length ≤ 140737488355000) : spec_appendUTF8.f k acc v = some (acc ++ Lib.encodeRuneZ v) := by
  obtain ⟨j, rfl⟩ : ∃ j, k = j + 1 := ⟨k - 1, by omega⟩
  unfold spec_appendUTF8.f Lib.encodeRuneZ
  have td : ∀ d : Int, 0 < d → Int.tdiv v d = v / d := fun d hd => Int.tdiv_eq_ediv_of_nonneg h0
  have tm : ∀ a d : Int, 0 ≤ a → Int.tmod a d = a % d := fun a d ha => Int.tmod_eq_emod_of_nonneg ha
  by_cases c1 : v < 128
  · rw [if_pos c1, if_pos (by omega), if_pos (by omega), show v % 256 = v by omega]
  · rw [if_neg c1, if_neg (show ¬ (0 ≤ v ∧ v ≤ 127) by omega)]
    by_cases c2 : v < 2048
    · rw [if_pos c2, if_pos (show 128 ≤ v ∧ v ≤ 2047 by omega), td 64 (by omega), tm v 64 h0]
      simp only [Option.bind_some, List.length_cons, List.length_nil]
      rw [if_pos (by omega), w64 (i := v / 64) (by omega) (by omega), w64 (i := 192 + v / 64) (by omega) (by omega), w64 (i := 128 + v % 64) (by omega) (by omega)]
      rw [show (192 + v / 64) % 256 = 192 + v / 64 by omega, show (128 + v % 64) % 256 = 128 + v % 64 by omega]
    · rw [if_neg c2, if_neg (show ¬ (128 ≤ v ∧ v ≤ 2047) by omega), high_eq]
      simp only [Option.bind_some, low_eq]
      by_cases c3 : High v
      · have c3' := c3
        unfold High at c3'
        simp only [c3, decide_true, if_true, spec_appendUTF8.j0, Option.bind_some, List.length_cons, List.length_nil]
        rw [if_pos (by omega), if_neg (by omega), if_neg (by omega)]
      · have c3' := c3
        unfold High at c3'
        simp only [c3, decide_false, Bool.false_eq_true, if_false, spec_appendUTF8.j0]
        by_cases c4 : Low v
        · have c4' := c4
          unfold Low at c4'
          simp only [c4, decide_true, if_true, Option.bind_some, List.length_cons, List.length_nil]
          rw [if_pos (by omega), if_neg (by omega), if_neg (by omega)]
        · have c4' := c4
          unfold Low at c4'
          simp only [c4, decide_false, Bool.false_eq_true, if_false]
          by_cases c5 : v < 65536
          · rw [if_pos c5, if_pos (show (2048 ≤ v ∧ v < 55296) ∨ (57343 < v ∧ v ≤ 65535) by omega), td 4096 (by omega), td 64 (by omega), w64 (i := v / 64) (by omega) (by omega), tm (v / 64) 64 (by omega), tm v 64 h0]
            simp only [Option.bind_some, List.length_cons, List.length_nil]
            rw [if_pos (by omega), w64 (i := v / 4096) (by omega) (by omega), w64 (i := 224 + v / 4096) (by omega) (by omega), w64 (i := 128 + v / 64 % 64) (by omega) (by omega), w64 (i := 128 + v % 64) (by omega) (by omega)]
            rw [show (224 + v / 4096) % 256 = 224 + v / 4096 by omega, show (128 + v / 64 % 64) % 256 = 128 + v / 64 % 64 by omega, show (128 + v % 64) % 256 = 128 + v % 64 by omega]
          · rw [if_neg c5, if_neg (show ¬ ((2048 ≤ v ∧ v < 55296) ∨ (57343 < v ∧ v ≤ 65535)) by omega), if_pos (show 65536 ≤ v ∧ v ≤ 1114111 by omega), td 262144 (by omega), td 4096 (by omega), td 64 (by omega), w64 (i := v / 64) (by omega) (by omega), w64 (i := v / 4096) (by omega) (by omega), tm (v / 64) 64 (by omega), tm (v / 4096) 64 (by omega), tm v 64 h0]
            simp only [Option.bind_some, List.length_cons, List.length_nil]
            rw [if_pos (by omega), w64 (i := v / 262144) (by omega) (by omega), w64 (i := 240 + v / 262144) (by omega) (by omega), w64 (i := 128 + v / 4096 % 64) (by omega) (by omega), w64 (i := 128 + v / 64 % 64) (by omega) (by omega), w64 (i := 128 + v % 64) (by omega) (by omega)]
            rw [show (240 + v / 262144) % 256 = 240 + v / 262144 by omega, show (128 + v / 4096 % 64) % 256 = 128 + v / 4096 % 64 by omega, show (128 + v / 64 % 64) % 256 = 128 + v / 64 % 64 by omega, show (128 + v % 64) % 256 = 128 + v % 64 by omega]
theorem rune_le (r : Int) : (Lib.encodeRuneZ r).length ≤ 4 := by
  unfold Lib.encodeRuneZ
  repeat' split
  all_goals simp
theorem q_plain (k : Nat) (acc : List Int) (s : ByteArray) (i : Int) (hs : s.size ≤ 140737488350000) (ha : acc.length ≤ 140737488355000) (h0 : 0 ≤ i) (h1 : i < s.size) (h : bt s i ≠ 92) :
    spec_Unquote.l0 (k + 1) acc s i = spec_Unquote.l0 k (acc ++ [bt s i]) s (i + 1) := by
  rw [spec_Unquote.l0, if_pos h1, if_pos h0, if_neg h, if_pos (by omega), w64 (by omega) (by omega)]
theorem q_end (k : Nat) (acc : List Int) (s : ByteArray) (i : Int) (h : s.size ≤ i) : spec_Unquote.l0 (k + 1) acc s i = some (strOfNums acc) := by
  rw [spec_Unquote.l0, if_neg (by omega)]
theorem q_simple (k : Nat) (hk : 12 ≤ k) (acc : List Int) (s : ByteArray) (i : Int) (hs : s.size ≤ 140737488350000) (ha : acc.length ≤ 140737488355000) (h0 : 0 ≤ i) (h1 : i + 1 < s.size) (h : bt s i = 92) (hU : U s i = none) :
    spec_Unquote.l0 (k + 1) acc s i = spec_Unquote.l0 k (acc ++ [short (bt s (i + 1))]) s (i + 2) := by
  rw [spec_Unquote.l0, if_pos (by omega), if_pos h0, if_pos h, unit_eq k hk s i h0 (by omega) (by omega), hU]
  simp only [Option.bind_some, Bool.false_eq_true, if_false]
  rw [w64 (i := i + 1) (by omega) (by omega), if_pos (by omega), if_pos (by omega), short_eq, w64 (i := i + 2) (by omega) (by omega)]
  simp only [Option.bind_some]
  rw [if_pos (by omega)]
theorem q_pair (k : Nat) (hk : 12 ≤ k) (acc : List Int) (s : ByteArray) (i v w : Int) (hs : s.size ≤ 140737488350000) (ha : acc.length ≤ 140737488354000) (h0 : 0 ≤ i) (hU : U s i = some v) (hU2 : U s (i + 6) = some w) (hh : High v) (hl : Low w) :
    spec_Unquote.l0 (k + 1) acc s i = spec_Unquote.l0 k (acc ++ Lib.encodeRuneZ (pair v w)) s (i + 12) := by
  have h1 := U_at hU
  have h2 := U_at hU2
  have hr := pair_range hh hl
  have hh' := hh
  have hl' := hl
  unfold High at hh'
  unfold Low at hl'
  rw [spec_Unquote.l0, if_pos (by omega), if_pos h0, if_pos h1.2.1, unit_eq k hk s i h0 (by omega) (by omega), hU]
  simp only [Option.bind_some, if_true]
  rw [w64 (i := i + 6) (by omega) (by omega), unit_eq k hk s (i + 6) (by omega) (by omega) (by omega), hU2]
  simp only [Option.bind_some, if_true, high_eq, low_eq, hh, hl, decide_true]
  rw [w64 (i := v - 55296) (by omega) (by omega), w64 (i := (v - 55296) * 1024) (by omega) (by omega), w64 (i := w - 56320) (by omega) (by omega), w64 (i := 65536 + (v - 55296) * 1024) (by omega) (by omega), w64 (i := 65536 + (v - 55296) * 1024 + (w - 56320)) (by omega) (by omega), w64 (i := i + 6 + 6) (by omega) (by omega)]
  have := appendUTF8_eq k (by omega) acc (pair v w) (by omega) (by omega) (by omega)
  unfold pair at this ⊢
  rw [this]
  simp only [Option.bind_some]
  rw [show i + 6 + 6 = i + 12 by omega]
theorem q_unit (k : Nat) (hk : 12 ≤ k) (acc : List Int) (s : ByteArray) (i v : Int) (hs : s.size ≤ 140737488350000) (ha : acc.length ≤ 140737488354000) (h0 : 0 ≤ i) (hU : U s i = some v) (hn : ∀ w, U s (i + 6) = some w → ¬ (High v ∧ Low w)) :
    spec_Unquote.l0 (k + 1) acc s i = spec_Unquote.l0 k (acc ++ Lib.encodeRuneZ v) s (i + 6) := by
  have h1 := U_at hU
  have hr := U_range hU
  have happ := appendUTF8_eq k (by omega) acc v (by omega) (by omega) (by omega)
  rw [spec_Unquote.l0, if_pos (by omega), if_pos h0, if_pos h1.2.1, unit_eq k hk s i h0 (by omega) (by omega), hU]
  simp only [Option.bind_some, if_true]
  rw [w64 (i := i + 6) (by omega) (by omega), unit_eq k hk s (i + 6) (by omega) (by omega) (by omega)]
  cases hU2 : U s (i + 6) with
  | none => simp only [Option.bind_some, Bool.false_eq_true, if_false, happ]
  | some w =>
    have := hn w hU2
    simp only [Option.bind_some, if_true, high_eq, low_eq]
    by_cases c : High v
    · have d : ¬ Low w := fun d => this ⟨c, d⟩
      simp only [c, d, decide_true, decide_false, if_true, Bool.false_eq_true, if_false, happ, Option.bind_some]
    · simp only [c, decide_false, Bool.false_eq_true, if_false, happ, Option.bind_some]

theorem dec_le (s : ByteArray) : ∀ (m : Nat) (i : Int) (xs : List Int), 0 ≤ i → dec s m i = some xs → (xs.length : Int) ≤ if i < s.size then s.size - i else 0
  | 0, i, xs, h0, h => by
    simp only [dec, Option.some.injEq] at h
    subst h
    simp only [List.length_nil]
    split <;> omega
  | m + 1, i, xs, h0, h => by
    rw [dec] at h
    by_cases c1 : i < s.size
    · rw [if_pos c1] at h ⊢
      by_cases c2 : bt s i = 92
      · rw [if_pos c2] at h
        cases hU : U s i with
        | some v =>
          have ha := U_at hU
          rw [hU] at h
          simp only [] at h
          have h6 : ∀ ys, dec s m (i + 6) = some ys → (ys.length : Int) ≤ s.size - i - 6 := fun ys hy => by
            have := dec_le s m (i + 6) ys (by omega) hy
            split at this <;> omega
          have hv3 : (Lib.encodeRuneZ v).length ≤ 4 := rune_le v
          cases hU2 : U s (i + 6) with
          | some v2 =>
            have hb := U_at hU2
            rw [hU2] at h
            simp only [] at h
            split at h
            · obtain ⟨ys, hy, rfl⟩ := Option.map_eq_some_iff.mp h
              have := dec_le s m (i + 12) ys (by omega) hy
              have := rune_le (pair v v2)
              simp only [List.length_append]
              split at * <;> omega
            · obtain ⟨ys, hy, rfl⟩ := Option.map_eq_some_iff.mp h
              have := h6 ys hy
              simp only [List.length_append]
              omega
          | none =>
            rw [hU2] at h
            simp only [] at h
            obtain ⟨ys, hy, rfl⟩ := Option.map_eq_some_iff.mp h
            have := h6 ys hy
            simp only [List.length_append]
            omega
        | none =>
          rw [hU] at h
          simp only [] at h
          split at h
          · rename_i hsim
            have h2 : i + 1 < s.size := by
              refine Int.not_le.mp fun hc => ?_
              rw [bt_out s (i + 1) hc] at hsim
              unfold Simple at hsim
              omega
            obtain ⟨ys, hy, rfl⟩ := Option.map_eq_some_iff.mp h
            have := dec_le s m (i + 2) ys (by omega) hy
            simp only [List.length_append, List.length_cons, List.length_nil]
            split at this <;> omega
          · cases h
      · rw [if_neg c2] at h
        obtain ⟨ys, hy, rfl⟩ := Option.map_eq_some_iff.mp h
        have := dec_le s m (i + 1) ys (by omega) hy
        simp only [List.length_append, List.length_cons, List.length_nil]
        split at this <;> omega
    · rw [if_neg c1] at h ⊢
      simp only [Option.some.injEq] at h
      subst h
      simp

theorem unquote_loop (s : ByteArray) (hs : s.size ≤ 140737488350000) : ∀ (m : Nat) (i : Int) (acc xs : List Int), 0 ≤ i → (s.size : Int) - i ≤ m → (acc.length : Int) + (s.size - i) ≤ 140737488353000 → acc.length ≤ 140737488353000 → dec s m i = some xs →
    Ev fun k => spec_Unquote.l0 k acc s i = some (strOfNums (acc ++ xs))
  | 0, i, acc, xs, h0, hm, hl, hl2, h => by
    simp only [dec, Option.some.injEq] at h
    subst h
    exact (Ev.ge 0).succ fun k _ => by rw [q_end k acc s i (by omega), List.append_nil]
  | m + 1, i, acc, xs, h0, hm, hl, hl2, h => by
    rw [dec] at h
    by_cases c1 : i < s.size
    · rw [if_pos c1] at h
      by_cases c2 : bt s i = 92
      · rw [if_pos c2] at h
        cases hU : U s i with
        | some v =>
          have ha := U_at hU
          rw [hU] at h
          simp only [] at h
          have hv3 : (Lib.encodeRuneZ v).length ≤ 4 := rune_le v
          cases hU2 : U s (i + 6) with
          | some v2 =>
            have hb := U_at hU2
            rw [hU2] at h
            simp only [] at h
            split at h
            · rename_i hp
              obtain ⟨ys, hy, rfl⟩ := Option.map_eq_some_iff.mp h
              have hp4 := rune_le (pair v v2)
              have ih := unquote_loop s hs m (i + 12) (acc ++ Lib.encodeRuneZ (pair v v2)) ys (by omega) (by omega) (by rw [List.length_append]; omega) (by rw [List.length_append]; omega) hy
              refine (ih.and (Ev.ge 12)).succ fun k hk => ?_
              rw [q_pair k hk.2 acc s i v v2 hs (by omega) h0 hU hU2 hp.1 hp.2, hk.1, List.append_assoc]
            · rename_i hp
              obtain ⟨ys, hy, rfl⟩ := Option.map_eq_some_iff.mp h
              have ih := unquote_loop s hs m (i + 6) (acc ++ Lib.encodeRuneZ v) ys (by omega) (by omega) (by rw [List.length_append]; omega) (by rw [List.length_append]; omega) hy
              refine (ih.and (Ev.ge 12)).succ fun k hk => ?_
              rw [q_unit k hk.2 acc s i v hs (by omega) h0 hU (fun w hw => by rw [hU2] at hw; obtain rfl := Option.some.inj hw; exact hp), hk.1, List.append_assoc]
          | none =>
            rw [hU2] at h
            simp only [] at h
            obtain ⟨ys, hy, rfl⟩ := Option.map_eq_some_iff.mp h
            have ih := unquote_loop s hs m (i + 6) (acc ++ Lib.encodeRuneZ v) ys (by omega) (by omega) (by rw [List.length_append]; omega) (by rw [List.length_append]; omega) hy
            refine (ih.and (Ev.ge 12)).succ fun k hk => ?_
            rw [q_unit k hk.2 acc s i v hs (by omega) h0 hU (fun w hw => by rw [hU2] at hw; cases hw), hk.1, List.append_assoc]
        | none =>
          rw [hU] at h
          simp only [] at h
          split at h
          · rename_i hsim
            have h2 : i + 1 < s.size := by
              refine Int.not_le.mp fun hc => ?_
              rw [bt_out s (i + 1) hc] at hsim
              unfold Simple at hsim
              omega
            obtain ⟨ys, hy, rfl⟩ := Option.map_eq_some_iff.mp h
            have ih := unquote_loop s hs m (i + 2) (acc ++ [short (bt s (i + 1))]) ys (by omega) (by omega) (by simp only [List.length_append, List.length_cons, List.length_nil]; omega) (by simp only [List.length_append, List.length_cons, List.length_nil]; omega) hy
            refine (ih.and (Ev.ge 12)).succ fun k hk => ?_
            rw [q_simple k hk.2 acc s i hs (by omega) h0 h2 c2 hU, hk.1, List.append_assoc]
          · cases h
      · rw [if_neg c2] at h
        obtain ⟨ys, hy, rfl⟩ := Option.map_eq_some_iff.mp h
        have ih := unquote_loop s hs m (i + 1) (acc ++ [bt s i]) ys (by omega) (by omega) (by simp only [List.length_append, List.length_cons, List.length_nil]; omega) (by simp only [List.length_append, List.length_cons, List.length_nil]; omega) hy
        refine ih.succ fun k hk => ?_
        rw [q_plain k acc s i hs (by omega) h0 c1 c2, hk, List.append_assoc]
    · rw [if_neg c1] at h
      simp only [Option.some.injEq] at h
      subst h
      exact (Ev.ge 0).succ fun k _ => by rw [q_end k acc s i (by omega), List.append_nil]

theorem quoted_inner (s : ByteArray) : (((⟨#[34]⟩ : ByteArray) ++ s) ++ (⟨#[34]⟩ : ByteArray)).extract 1 (s.size + 1) = s := by
  have h1 : ((⟨#[34]⟩ : ByteArray)).size = 1 := rfl
  have e1 : (⟨#[34]⟩ : ByteArray).extract 1 (s.size + 1) = ByteArray.empty := ByteArray.ext (by rw [ByteArray.data_extract]; simp)
  have e2 : (⟨#[34]⟩ : ByteArray).extract 0 (s.size + 1 - (1 + s.size)) = ByteArray.empty := ByteArray.ext (by rw [ByteArray.data_extract, show s.size + 1 - (1 + s.size) = 0 by omega]; simp)
  rw [ByteArray.extract_append, ByteArray.extract_append]
  simp [h1, ByteArray.size_append, e1, e2]
/-- What Unquote answers of a text between quotation marks. -/
theorem unquote_eq (s : ByteArray) (hs : s.size ≤ 140737488350000) (xs : List Int) (hd : dec s s.size 0 = some xs) :
    Ev fun k => spec_Unquote.f k (((⟨#[34]⟩ : ByteArray) ++ s) ++ (⟨#[34]⟩ : ByteArray)) = some (strOfNums xs) := by
  have hq := unquote_loop s hs s.size 0 [] xs (by omega) (by omega) (by simp; omega) (by simp) hd
  have hsz : (((⟨#[34]⟩ : ByteArray) ++ s) ++ (⟨#[34]⟩ : ByteArray)).size = s.size + 2 := by
    rw [ByteArray.size_append, ByteArray.size_append]
    show 1 + s.size + 1 = _
    omega
  refine hq.mp fun k hk => ?_
  unfold spec_Unquote.f
  rw [hsz, w64 (i := ((s.size + 2 : Nat) : Int) - 1) (by omega) (by omega), if_pos (by omega), if_pos (by omega), show (((s.size + 2 : Nat) : Int) - 1).toNat = s.size + 1 by omega, quoted_inner, hk]
  simp

end Go.Proofs.YtdllbnecbbggfaaDoor.UnescXFnGjQuoteValid
