/- The reference's reader of a string between quotation marks, a step at a time. -/
import Derived.Test.YtdllbnecbbggfaaDoorQuotedFnGjUnescapeJoin
namespace Go.Proofs.YtdllbnecbbggfaaDoor.UnescXFnGjUnescapeJoin
open Go.RowKit Go.Proofs.YtdllbnecbbggfaaDoor.Base Go.Proofs.YtdllbnecbbggfaaDoor.XFnGjUnescapeJoin Go.Proofs.YtdllbnecbbggfaaDoorW.PrintWords Go.Proofs.YtdllbnecbbggfaaDoorW.PrintLast
set_option linter.unusedVariables false
set_option linter.unusedSimpArgs false

/-- What the reader of one escape answers, with any number of rounds that is enough. -/
theorem esc_inv {k : Nat} {s q : ByteArray} {p e : Int} (h0 : 0 ≤ p) (h1 : p ≤ 140737488350000) (h : spec_reader_escape.f k s p = some (true, q, e)) :
    q = s ∧ ((Simple (bt s p) ∧ e = p + 1) ∨ (bt s p = 117 ∧ (h4 (hv (bt s (p + 1))) (hv (bt s (p + 2))) (hv (bt s (p + 3))) (hv (bt s (p + 4)))).isSome = true ∧ e = p + 5)) := by
  have hb : spec_reader_escape.f (k + 12) s p = some (true, q, e) := lift (f := fun k => spec_reader_escape.f k s p) (fun k => spec_reader_escape.mono s p k) h 12
  by_cases c : Simple (bt s p)
  · rw [escape_simple (k + 12) (by omega) s p h0 (by omega) c] at hb
    simp only [Option.some.injEq, Prod.mk.injEq, true_and] at hb
    exact ⟨hb.1.symm, .inl ⟨c, hb.2.symm⟩⟩
  · by_cases d : bt s p = 117
    · obtain ⟨x, hx⟩ := escape_u (k + 12) (by omega) s p h0 (by omega) d
      rw [hx] at hb
      split at hb
      · rename_i hh
        simp only [Option.some.injEq, Prod.mk.injEq, true_and] at hb
        exact ⟨hb.1.symm, .inr ⟨d, hh, hb.2.symm⟩⟩
      · simp at hb
    · rw [escape_else (k + 12) (by omega) s p h0 (by omega) c d] at hb
      simp at hb
theorem h4_some {a b c d : Option Int} (h : (h4 a b c d).isSome = true) : a.isSome = true ∧ b.isSome = true ∧ c.isSome = true ∧ d.isSome = true := by
  cases a <;> cases b <;> cases c <;> cases d <;> simp [h4] at h ⊢

theorem rq_inv {k : Nat} {s q : ByteArray} {i e : Int} (hs : s.size ≤ 1000000) (h0 : 0 ≤ i) (h1 : i < s.size) (he : e = s.size + 2) (h : spec_reader_quoted.l0 (k + 1) (quo s) (i + 1) = some (true, q, e)) :
    (bt s i ≠ 92 ∧ 32 ≤ bt s i ∧ spec_reader_quoted.l0 k (quo s) (i + 1 + 1) = some (true, q, e)) ∨
    (bt s i = 92 ∧ Simple (bt s (i + 1)) ∧ i + 1 < s.size ∧ U s i = none ∧ spec_reader_quoted.l0 k (quo s) (i + 2 + 1) = some (true, q, e)) ∨
    (bt s i = 92 ∧ bt s (i + 1) = 117 ∧ ∃ v, U s i = some v ∧ spec_reader_quoted.l0 k (quo s) (i + 6 + 1) = some (true, q, e)) := by
  have hz := quo_size s
  rw [spec_reader_quoted.l0, if_pos (by omega), if_pos (by omega), quo_in s i h0 h1] at h
  by_cases c1 : bt s i = 34
  · rw [if_pos c1, w64 (by omega) (by omega)] at h
    simp only [Option.some.injEq, Prod.mk.injEq, true_and] at h
    omega
  · rw [if_neg c1] at h
    by_cases c2 : bt s i < 32
    · rw [if_pos c2] at h
      simp at h
    · rw [if_neg c2] at h
      by_cases c3 : bt s i = 92
      · rw [if_pos c3, w64 (i := i + 1 + 1) (by omega) (by omega)] at h
        obtain ⟨⟨b, q', p'⟩, hb, h⟩ := Option.bind_eq_some_iff.mp h
        simp only [] at h
        by_cases c4 : b = true
        · subst c4
          rw [if_pos rfl] at h
          obtain ⟨rfl, hh⟩ := esc_inv (by omega) (by omega) hb
          have hlast : i + 1 = s.size → False := fun hl => by
            have hq : bt (quo s) (i + 1 + 1) = 34 := by rw [hl]; exact quo_end s
            rcases hh with ⟨hsim, hp⟩ | ⟨hu, _, _⟩
            · rw [hp] at h
              cases k with
              | zero => rw [spec_reader_quoted.l0] at h; cases h
              | succ k =>
                rw [spec_reader_quoted.l0, if_neg (by omega)] at h
                simp at h
            · rw [hq] at hu; omega
          have hlt : i + 1 < s.size := by
            rcases Int.lt_or_le (i + 1) s.size with hl | hl
            · exact hl
            · exact (hlast (by omega)).elim
          have b1 : bt (quo s) (i + 1 + 1) = bt s (i + 1) := quo_in s (i + 1) (by omega) hlt
          rcases hh with ⟨hsim, hp⟩ | ⟨hu, h4s, hp⟩
          · rw [b1] at hsim
            refine .inr (.inl ⟨c3, hsim, hlt, ?_, ?_⟩)
            · cases hU : U s i with
              | none => rfl
              | some v =>
                have := (U_at hU).2.2
                rw [this] at hsim
                unfold Simple at hsim
                omega
            · rw [hp] at h
              rw [show i + 2 + 1 = i + 1 + 1 + 1 by omega]
              exact h
          · rw [b1] at hu
            obtain ⟨s1, s2, s3, s4⟩ := h4_some h4s
            have inside : ∀ j : Int, 1 ≤ j → j ≤ 4 → (∀ x : Int, 1 ≤ x → x < j → i + 1 + x < s.size) → (hv (bt (quo s) (i + 1 + 1 + j))).isSome = true → i + 1 + j < s.size := fun j hj1 hj4 hpre hs' => by
              rcases Int.lt_or_le (i + 1 + j) s.size with hl | hl
              · exact hl
              · have hlast : i + 1 + j = s.size := by
                  rcases Int.lt_or_le 1 j with hj | hj
                  · have := hpre (j - 1) (by omega) (by omega); omega
                  · omega
                rw [show i + 1 + 1 + j = s.size + 1 by omega, quo_end, hv_34] at hs'
                cases hs'
            have l1 := inside 1 (by omega) (by omega) (fun x a b => by omega) s1
            have l2 := inside 2 (by omega) (by omega) (fun x a b => by omega) s2
            have l3 := inside 3 (by omega) (by omega) (fun x a b => by omega) s3
            have l4 := inside 4 (by omega) (by omega) (fun x a b => by omega) s4
            have hU := U_h4 (s := s) (i := i) h0 c3 hu
            rw [show i + 1 + 1 + 1 = (i + 2) + 1 by omega, show i + 1 + 1 + 2 = (i + 3) + 1 by omega, show i + 1 + 1 + 3 = (i + 4) + 1 by omega, show i + 1 + 1 + 4 = (i + 5) + 1 by omega,
              quo_in s (i + 2) (by omega) (by omega), quo_in s (i + 3) (by omega) (by omega), quo_in s (i + 4) (by omega) (by omega), quo_in s (i + 5) (by omega) (by omega), ← hU] at h4s
            obtain ⟨v, hv'⟩ := Option.isSome_iff_exists.mp h4s
            refine .inr (.inr ⟨c3, hu, v, hv', ?_⟩)
            rw [hp] at h
            rw [show i + 6 + 1 = i + 1 + 1 + 5 by omega]
            exact h
        · rw [if_neg c4] at h
          simp at h
      · rw [if_neg c3, w64 (by omega) (by omega)] at h
        exact .inl ⟨c3, by omega, h⟩

end Go.Proofs.YtdllbnecbbggfaaDoor.UnescXFnGjUnescapeJoin
