/- What the reference's Unescape answers: 'dec'. -/
import Derived.Test.YtdllbnecbbggfaaDoorUnescBaseFnJpEscapeAt
import Derived.Lib.RuneBytes
namespace Go.Proofs.YtdllbnecbbggfaaDoor.UnescXFnJpEscapeAt
open Go.RowKit Go.Proofs.YtdllbnecbbggfaaDoor.Base Go.Proofs.YtdllbnecbbggfaaDoor.XFnJpEscapeAt Go.Proofs.YtdllbnecbbggfaaDoorW.PrintWords Go.Proofs.YtdllbnecbbggfaaDoorW.PrintLast
set_option linter.unusedVariables false

def Simple (c : Int) : Prop := c = 34 ∨ c = 92 ∨ c = 47 ∨ c = 98 ∨ c = 102 ∨ c = 110 ∨ c = 114 ∨ c = 116
instance (c : Int) : Decidable (Simple c) := by unfold Simple; infer_instance
def short (c : Int) : Int := if c = 98 then 8 else if c = 102 then 12 else if c = 110 then 10 else if c = 114 then 13 else if c = 116 then 9 else c
def High (v : Int) : Prop := 55296 ≤ v ∧ v ≤ 56319
def Low (v : Int) : Prop := 56320 ≤ v ∧ v ≤ 57343
instance (c : Int) : Decidable (High c) := by unfold High; infer_instance
instance (c : Int) : Decidable (Low c) := by unfold Low; infer_instance
def pair (v w : Int) : Int := 65536 + (v - 55296) * 1024 + (w - 56320)
theorem pair_range {v w : Int} (h : High v) (g : Low w) : 65536 ≤ pair v w ∧ pair v w ≤ 1114111 := by unfold High at h; unfold Low at g; unfold pair; omega
theorem high_eq (v : Int) : spec_high.f v = some (decide (High v)) := by
  unfold spec_high.f High
  split <;> simp [*]
theorem low_eq (v : Int) : spec_low.f v = some (decide (Low v)) := by
  unfold spec_low.f Low
  split <;> simp [*]
theorem short_eq (v : Int) : spec_short.f v = some (short v) := by
  unfold spec_short.f short
  repeat' split
  all_goals rfl
theorem bt_out (s : ByteArray) (i : Int) (h : s.size ≤ i) : bt s i = 0 := by
  rw [← rd_bytesOf]
  exact rd_out _ _ (by rw [bytesOf_length]; omega)
theorem hv_zero : hv 0 = none := by decide
theorem U_h4 {s : ByteArray} {i : Int} (h0 : 0 ≤ i) (h1 : bt s i = 92) (h2 : bt s (i + 1) = 117) : U s i = h4 (hv (bt s (i + 2))) (hv (bt s (i + 3))) (hv (bt s (i + 4))) (hv (bt s (i + 5))) := by
  unfold U
  by_cases c : i + 6 ≤ s.size
  · rw [if_pos ⟨c, h1, h2⟩]
  · rw [if_neg (by omega), bt_out s (i + 5) (by omega), hv_zero]
    unfold h4
    cases hv (bt s (i + 2)) <;> cases hv (bt s (i + 3)) <;> cases hv (bt s (i + 4)) <;> rfl

theorem here_eq (s : ByteArray) (p : Int) (h : 0 ≤ p) : spec_reader_here.f s p = some (bt s p, s, p) := by
  unfold spec_reader_here.f
  by_cases c : p < s.size
  · rw [if_pos c, if_pos h]
  · rw [if_neg c, bt_out s p (by omega)]
theorem escape_simple (k : Nat) (hk : 1 ≤ k) (s : ByteArray) (p : Int) (h0 : 0 ≤ p) (h1 : p ≤ 140737488355328) (h : Simple (bt s p)) : spec_reader_escape.f k s p = some (true, s, p + 1) := by
  obtain ⟨j, rfl⟩ : ∃ j, k = j + 1 := ⟨k - 1, by omega⟩
  unfold spec_reader_escape.f
  rw [here_eq s p h0]
  simp only [Option.bind_some, spec_reader_escape.j0]
  rw [w64 (by omega) (by omega)]
  unfold Simple at h
  rcases h with h | h | h | h | h | h | h | h <;> simp [h]
theorem loop_step (k : Nat) (hk : 2 ≤ k) (s : ByteArray) (n p : Int) (h0 : 0 ≤ p) (h1 : p ≤ 140737488400000) (hn0 : 0 ≤ n) (hn : n < 4) :
    spec_reader_escape.l0 (k + 1) n s p = if (hv (bt s p)).isSome then spec_reader_escape.l0 k (n + 1) s (p + 1) else some (false, s, p) := by
  rw [spec_reader_escape.l0, if_pos hn, here_eq s p h0]
  simp only [Option.bind_some]
  rw [hexDigit_eq k hk]
  cases hv (bt s p) with
  | none => simp
  | some v =>
    simp only [Option.bind_some, if_true, Option.isSome_some]
    rw [w64 (i := n + 1) (by omega) (by omega), w64 (i := p + 1) (by omega) (by omega)]
theorem escape_u (k : Nat) (hk : 12 ≤ k) (s : ByteArray) (p : Int) (h0 : 0 ≤ p) (h1 : p ≤ 140737488355328) (h : bt s p = 117) :
    ∃ q, spec_reader_escape.f k s p = some (if (h4 (hv (bt s (p + 1))) (hv (bt s (p + 2))) (hv (bt s (p + 3))) (hv (bt s (p + 4)))).isSome then (true, s, p + 5) else (false, s, q)) := by
  obtain ⟨j, rfl⟩ : ∃ j, k = j + 12 := ⟨k - 12, by omega⟩
  have hf : spec_reader_escape.f (j + 12) s p = spec_reader_escape.l0 (j + 11) 0 s (p + 1) := by
    unfold spec_reader_escape.f
    rw [here_eq s p h0]
    simp only [Option.bind_some, spec_reader_escape.j0]
    rw [w64 (i := p + 1) (by omega) (by omega)]
    simp [h]
  rw [hf, loop_step (j + 10) (by omega) s 0 (p + 1) (by omega) (by omega) (by omega) (by omega)]
  unfold h4
  cases e1 : hv (bt s (p + 1)) with
  | none => exact ⟨_, rfl⟩
  | some a =>
    simp only [Option.isSome_some, if_true, Option.bind_some]
    rw [loop_step (j + 9) (by omega) s _ _ (by omega) (by omega) (by omega) (by omega), show p + 1 + 1 = p + 2 by omega]
    cases e2 : hv (bt s (p + 2)) with
    | none => exact ⟨_, rfl⟩
    | some a =>
      simp only [Option.isSome_some, if_true, Option.bind_some]
      rw [loop_step (j + 8) (by omega) s _ _ (by omega) (by omega) (by omega) (by omega), show p + 2 + 1 = p + 3 by omega]
      cases e3 : hv (bt s (p + 3)) with
      | none => exact ⟨_, rfl⟩
      | some a =>
        simp only [Option.isSome_some, if_true, Option.bind_some]
        rw [loop_step (j + 7) (by omega) s _ _ (by omega) (by omega) (by omega) (by omega), show p + 3 + 1 = p + 4 by omega]
        cases e4 : hv (bt s (p + 4)) with
        | none => exact ⟨_, rfl⟩
        | some a =>
          refine ⟨0, ?_⟩
          simp only [Option.isSome_some, if_true, Option.bind_some]
          rw [spec_reader_escape.l0, if_neg (by omega), show p + 4 + 1 = p + 5 by omega]
theorem escape_else (k : Nat) (hk : 1 ≤ k) (s : ByteArray) (p : Int) (h0 : 0 ≤ p) (h1 : p ≤ 140737488355328) (h : ¬ Simple (bt s p)) (hu : bt s p ≠ 117) : spec_reader_escape.f k s p = some (false, s, p) := by
  obtain ⟨j, rfl⟩ : ∃ j, k = j + 1 := ⟨k - 1, by omega⟩
  unfold spec_reader_escape.f
  rw [here_eq s p h0]
  simp only [Option.bind_some, spec_reader_escape.j0]
  unfold Simple at h
  simp only [not_or] at h
  obtain ⟨n1, n2, n3, n4, n5, n6, n7, n8⟩ := h
  simp [n1, n2, n3, n4, n5, n6, n7, n8, hu]

theorem l0_plain (k : Nat) (s : ByteArray) (x : Int) (hs : s.size ≤ 140737488350000) (h0 : 0 ≤ x) (h1 : x < s.size) (h : bt s x ≠ 92) : spec_Unescape.l0 (k + 1) s x = spec_Unescape.l0 k s (x + 1) := by
  rw [spec_Unescape.l0, if_pos h1, if_pos h0, if_neg h, w64 (by omega) (by omega)]
theorem l0_simple (k : Nat) (hk : 1 ≤ k) (s : ByteArray) (x : Int) (hs : s.size ≤ 140737488350000) (h0 : 0 ≤ x) (h1 : x < s.size) (h : bt s x = 92) (h2 : Simple (bt s (x + 1))) : spec_Unescape.l0 (k + 1) s x = spec_Unescape.l0 k s (x + 2) := by
  rw [spec_Unescape.l0, if_pos h1, if_pos h0, if_pos h, w64 (i := x + 1) (by omega) (by omega), escape_simple k hk s _ (by omega) (by omega) h2]
  simp only [Option.bind_some, if_true]
  rw [w64 (i := x + 1 + 1 - 1) (by omega) (by omega), w64 (by omega) (by omega), show x + 1 + 1 - 1 + 1 = x + 2 by omega]
theorem l0_unit (k : Nat) (hk : 12 ≤ k) (s : ByteArray) (x v : Int) (hs : s.size ≤ 140737488350000) (h0 : 0 ≤ x) (h : U s x = some v) : spec_Unescape.l0 (k + 1) s x = spec_Unescape.l0 k s (x + 6) := by
  have ha := U_at h
  rw [U_h4 h0 ha.2.1 ha.2.2] at h
  obtain ⟨q, hq⟩ := escape_u k hk s (x + 1) (by omega) (by omega) ha.2.2
  rw [show x + 1 + 1 = x + 2 by omega, show x + 1 + 2 = x + 3 by omega, show x + 1 + 3 = x + 4 by omega, show x + 1 + 4 = x + 5 by omega, h] at hq
  rw [spec_Unescape.l0, if_pos (by omega), if_pos h0, if_pos ha.2.1, w64 (i := x + 1) (by omega) (by omega), hq]
  simp only [Option.bind_some, Option.isSome_some, if_true]
  rw [w64 (i := x + 1 + 5 - 1) (by omega) (by omega), w64 (by omega) (by omega), show x + 1 + 5 - 1 + 1 = x + 6 by omega]
theorem l0_bad (k : Nat) (hk : 12 ≤ k) (s : ByteArray) (x : Int) (hs : s.size ≤ 140737488350000) (h0 : 0 ≤ x) (h1 : x < s.size) (h : bt s x = 92) (h2 : ¬ Simple (bt s (x + 1))) (h3 : U s x = none) :
    spec_Unescape.l0 (k + 1) s x = some (⟨#[]⟩, false) := by
  rw [spec_Unescape.l0, if_pos h1, if_pos h0, if_pos h, w64 (i := x + 1) (by omega) (by omega)]
  by_cases hu : bt s (x + 1) = 117
  · obtain ⟨q, hq⟩ := escape_u k hk s (x + 1) (by omega) (by omega) hu
    rw [U_h4 h0 h hu] at h3
    rw [show x + 1 + 1 = x + 2 by omega, show x + 1 + 2 = x + 3 by omega, show x + 1 + 3 = x + 4 by omega, show x + 1 + 4 = x + 5 by omega, h3] at hq
    rw [hq]
    simp
  · rw [escape_else k (by omega) s (x + 1) (by omega) (by omega) h2 hu]
    simp

/-- What the text stands for from i on; none: an escape is wrong. -/
def dec (s : ByteArray) : Nat → Int → Option (List Int)
  | 0, _ => some []
  | m + 1, i =>
    if i < s.size then
      if bt s i = 92 then
        match U s i with
        | some v =>
          match U s (i + 6) with
          | some v2 => if High v ∧ Low v2 then (dec s m (i + 12)).map (Lib.encodeRuneZ (pair v v2) ++ ·) else (dec s m (i + 6)).map (Lib.encodeRuneZ v ++ ·)
          | none => (dec s m (i + 6)).map (Lib.encodeRuneZ v ++ ·)
        | none => if Simple (bt s (i + 1)) then (dec s m (i + 2)).map ([short (bt s (i + 1))] ++ ·) else none
      else (dec s m (i + 1)).map ([bt s i] ++ ·)
    else some []

def Fin (s : ByteArray) (r : ByteArray × Bool) : Prop := Ev fun k => ∀ x, (s.size : Int) ≤ x → spec_Unescape.l0 k s x = some r
theorem un_good (s : ByteArray) (hs : s.size ≤ 140737488350000) (r : ByteArray × Bool) (hf : Fin s r) : ∀ (m : Nat) (i : Int) (xs : List Int), 0 ≤ i → (s.size : Int) - i ≤ m → dec s m i = some xs →
    Ev fun k => spec_Unescape.l0 k s i = some r
  | 0, i, xs, h0, hm, h => hf.mp fun k hk => hk i (by omega)
  | m + 1, i, xs, h0, hm, h => by
    rw [dec] at h
    by_cases c1 : i < s.size
    · rw [if_pos c1] at h
      by_cases c2 : bt s i = 92
      · rw [if_pos c2] at h
        cases hU : U s i with
        | some v =>
          have ha := U_at hU
          rw [hU] at h
          simp only [] at h
          cases hU2 : U s (i + 6) with
          | some v2 =>
            have hb := U_at hU2
            rw [hU2] at h
            simp only [] at h
            split at h
            · obtain ⟨ys, hy, _⟩ := Option.map_eq_some_iff.mp h
              have ih := un_good s hs r hf m (i + 12) ys (by omega) (by omega) hy
              refine ((ih.and (Ev.ge 12)).succ (Q := fun k => spec_Unescape.l0 k s (i + 6) = some r ∧ 12 ≤ k) fun k hk => ⟨?_, by omega⟩).succ fun k hk => ?_
              · rw [l0_unit k hk.2 s (i + 6) v2 hs (by omega) hU2, show i + 6 + 6 = i + 12 by omega]; exact hk.1
              · rw [l0_unit k hk.2 s i v hs (by omega) hU]; exact hk.1
            · obtain ⟨ys, hy, _⟩ := Option.map_eq_some_iff.mp h
              have ih := un_good s hs r hf m (i + 6) ys (by omega) (by omega) hy
              refine (ih.and (Ev.ge 12)).succ fun k hk => ?_
              rw [l0_unit k hk.2 s i v hs (by omega) hU]; exact hk.1
          | none =>
            rw [hU2] at h
            simp only [] at h
            obtain ⟨ys, hy, _⟩ := Option.map_eq_some_iff.mp h
            have ih := un_good s hs r hf m (i + 6) ys (by omega) (by omega) hy
            refine (ih.and (Ev.ge 12)).succ fun k hk => ?_
            rw [l0_unit k hk.2 s i v hs (by omega) hU]; exact hk.1
        | none =>
          rw [hU] at h
          simp only [] at h
          split at h
          · rename_i hsim
            obtain ⟨ys, hy, _⟩ := Option.map_eq_some_iff.mp h
            have ih := un_good s hs r hf m (i + 2) ys (by omega) (by omega) hy
            refine (ih.and (Ev.ge 1)).succ fun k hk => ?_
            rw [l0_simple k hk.2 s i hs h0 c1 c2 hsim]; exact hk.1
          · cases h
      · rw [if_neg c2] at h
        obtain ⟨ys, hy, _⟩ := Option.map_eq_some_iff.mp h
        have ih := un_good s hs r hf m (i + 1) ys (by omega) (by omega) hy
        refine ih.succ fun k hk => ?_
        rw [l0_plain k s i hs h0 c1 c2]; exact hk
    · exact hf.mp fun k hk => hk i (by omega)
theorem un_bad (s : ByteArray) (hs : s.size ≤ 140737488350000) : ∀ (m : Nat) (i : Int), 0 ≤ i → (s.size : Int) - i ≤ m → dec s m i = none →
    Ev fun k => spec_Unescape.l0 k s i = some (⟨#[]⟩, false)
  | 0, i, h0, hm, h => by cases h
  | m + 1, i, h0, hm, h => by
    rw [dec] at h
    by_cases c1 : i < s.size
    · rw [if_pos c1] at h
      by_cases c2 : bt s i = 92
      · rw [if_pos c2] at h
        cases hU : U s i with
        | some v =>
          have ha := U_at hU
          rw [hU] at h
          simp only [] at h
          cases hU2 : U s (i + 6) with
          | some v2 =>
            have hb := U_at hU2
            rw [hU2] at h
            simp only [] at h
            split at h
            · have hy := Option.map_eq_none_iff.mp h
              have ih := un_bad s hs m (i + 12) (by omega) (by omega) hy
              refine ((ih.and (Ev.ge 12)).succ (Q := fun k => spec_Unescape.l0 k s (i + 6) = some (⟨#[]⟩, false) ∧ 12 ≤ k) fun k hk => ⟨?_, by omega⟩).succ fun k hk => ?_
              · rw [l0_unit k hk.2 s (i + 6) v2 hs (by omega) hU2, show i + 6 + 6 = i + 12 by omega]; exact hk.1
              · rw [l0_unit k hk.2 s i v hs (by omega) hU]; exact hk.1
            · have hy := Option.map_eq_none_iff.mp h
              have ih := un_bad s hs m (i + 6) (by omega) (by omega) hy
              refine (ih.and (Ev.ge 12)).succ fun k hk => ?_
              rw [l0_unit k hk.2 s i v hs (by omega) hU]; exact hk.1
          | none =>
            rw [hU2] at h
            simp only [] at h
            have hy := Option.map_eq_none_iff.mp h
            have ih := un_bad s hs m (i + 6) (by omega) (by omega) hy
            refine (ih.and (Ev.ge 12)).succ fun k hk => ?_
            rw [l0_unit k hk.2 s i v hs (by omega) hU]; exact hk.1
        | none =>
          rw [hU] at h
          simp only [] at h
          split at h
          · rename_i hsim
            have hy := Option.map_eq_none_iff.mp h
            have ih := un_bad s hs m (i + 2) (by omega) (by omega) hy
            refine (ih.and (Ev.ge 1)).succ fun k hk => ?_
            rw [l0_simple k hk.2 s i hs h0 c1 c2 hsim]; exact hk.1
          · rename_i hsim
            exact (Ev.ge 12).succ fun k hk => l0_bad k hk s i hs h0 c1 c2 hsim hU
      · rw [if_neg c2] at h
        have hy := Option.map_eq_none_iff.mp h
        have ih := un_bad s hs m (i + 1) (by omega) (by omega) hy
        refine ih.succ fun k hk => ?_
        rw [l0_plain k s i hs h0 c1 c2]; exact hk
    · rw [if_neg c1] at h
      cases h

theorem appendUTF8_eq (k : Nat) (hk : 1 ≤ k) (acc : List Int) (v : Int) (h0 : 0 ≤ v) (h1 : v ≤ 1114111) (hl : acc.length ≤ 140737488355000) : spec_appendUTF8.f k acc v = some (acc ++ Lib.encodeRuneZ v) := by
  obtain ⟨j, rfl⟩ : ∃ j, k = j + 1 := ⟨k - 1, by omega⟩
  unfold spec_appendUTF8.f Lib.encodeRuneZ
  have td : ∀ d : Int, 0 < d → Int.tdiv v d = v / d := fun d hd => Int.tdiv_eq_ediv_of_nonneg h0
  have tm : ∀ a d : Int, 0 ≤ a → Int.tmod a d = a % d := fun a d ha => Int.tmod_eq_emod_of_nonneg ha
  by_cases c1 : v < 128
  · rw [if_pos c1, if_pos (by omega), if_pos (by omega), show v % 256 = v by omega]
  · rw [if_neg c1, if_neg (show ¬ (0 ≤ v ∧ v ≤ 127) by omega)]
    by_cases c2 : v < 2048
    · rw [if_pos c2, if_pos (show 128 ≤ v ∧ v ≤ 2047 by omega), td 64 (by omega), tm v 64 h0]
      simp only [Option.bind_some, List.length_cons, List.length_nil]
      rw [if_pos (by omega), w64 (i := v / 64) (by omega) (by omega), w64 (i := 192 + v / 64) (by omega) (by omega), w64 (i := 128 + v % 64) (by omega) (by omega)]
      rw [show (192 + v / 64) % 256 = 192 + v / 64 by omega, show (128 + v % 64) % 256 = 128 + v % 64 by omega]
    · rw [if_neg c2, if_neg (show ¬ (128 ≤ v ∧ v ≤ 2047) by omega), high_eq]
      simp only [Option.bind_some, low_eq]
      by_cases c3 : High v
      · have c3' := c3
        unfold High at c3'
        simp only [c3, decide_true, if_true, spec_appendUTF8.j0, Option.bind_some, List.length_cons, List.length_nil]
        rw [if_pos (by omega), if_neg (by omega), if_neg (by omega)]
      · have c3' := c3
        unfold High at c3'
        simp only [c3, decide_false, Bool.false_eq_true, if_false, spec_appendUTF8.j0]
        by_cases c4 : Low v
        · have c4' := c4
          unfold Low at c4'
          simp only [c4, decide_true, if_true, Option.bind_some, List.length_cons, List.length_nil]
          rw [if_pos (by omega), if_neg (by omega), if_neg (by omega)]
        · have c4' := c4
          unfold Low at c4'
          simp only [c4, decide_false, Bool.false_eq_true, if_false]
          by_cases c5 : v < 65536
          · rw [if_pos c5, if_pos (show (2048 ≤ v ∧ v < 55296) ∨ (57343 < v ∧ v ≤ 65535) by omega), td 4096 (by omega), td 64 (by omega), w64 (i := v / 64) (by omega) (by omega), tm (v / 64) 64 (by omega), tm v 64 h0]
            simp only [Option.bind_some, List.length_cons, List.length_nil]
            rw [if_pos (by omega), w64 (i := v / 4096) (by omega) (by omega), w64 (i := 224 + v / 4096) (by omega) (by omega), w64 (i := 128 + v / 64 % 64) (by omega) (by omega), w64 (i := 128 + v % 64) (by omega) (by omega)]
            rw [show (224 + v / 4096) % 256 = 224 + v / 4096 by omega, show (128 + v / 64 % 64) % 256 = 128 + v / 64 % 64 by omega, show (128 + v % 64) % 256 = 128 + v % 64 by omega]
          · rw [if_neg c5, if_neg (show ¬ ((2048 ≤ v ∧ v < 55296) ∨ (57343 < v ∧ v ≤ 65535)) by omega), if_pos (show 65536 ≤ v ∧ v ≤ 1114111 by omega), td 262144 (by omega), td 4096 (by omega), td 64 (by omega), w64 (i := v / 64) (by omega) (by omega), w64 (i := v / 4096) (by omega) (by omega), tm (v / 64) 64 (by omega), tm (v / 4096) 64 (by omega), tm v 64 h0]
            simp only [Option.bind_some, List.length_cons, List.length_nil]
            rw [if_pos (by omega), w64 (i := v / 262144) (by omega) (by omega), w64 (i := 240 + v / 262144) (by omega) (by omega), w64 (i := 128 + v / 4096 % 64) (by omega) (by omega), w64 (i := 128 + v / 64 % 64) (by omega) (by omega), w64 (i := 128 + v % 64) (by omega) (by omega)]
            rw [show (240 + v / 262144) % 256 = 240 + v / 262144 by omega, show (128 + v / 4096 % 64) % 256 = 128 + v / 4096 % 64 by omega, show (128 + v / 64 % 64) % 256 = 128 + v / 64 % 64 by omega, show (128 + v % 64) % 256 = 128 + v % 64 by omega]

end Go.Proofs.YtdllbnecbbggfaaDoor.UnescXFnJpEscapeAt
