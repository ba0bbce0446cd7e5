/- The reference's Paired and its reader of strings answer for every text. -/
import Derived.Test.YtdllbnecbbggfaaDoorQuotedStrFnGjUnescapeJoin
namespace Go.Proofs.YtdllbnecbbggfaaDoor.UnescXFnGjUnescapeJoin
open Go.RowKit Go.Proofs.YtdllbnecbbggfaaDoor.Base Go.Proofs.YtdllbnecbbggfaaDoor.XFnGjUnescapeJoin Go.Proofs.YtdllbnecbbggfaaDoorW.PrintWords Go.Proofs.YtdllbnecbbggfaaDoorW.PrintLast
set_option linter.unusedVariables false
set_option linter.unusedSimpArgs false

theorem paired_from (s : ByteArray) (hs : s.size ≤ 1000000) : ∀ (m : Nat) (i : Int), 0 ≤ i → (s.size : Int) - i ≤ m → ∃ b : Bool, Ev fun k => spec_Paired.l0 k s i = some b
  | 0, i, h0, hm => ⟨true, (Ev.ge 0).succ fun k _ => p_end k s i (by omega)⟩
  | m + 1, i, h0, hm => by
    by_cases c : i < s.size
    · by_cases d : bt s i = 92
      · cases hU : U s i with
        | none =>
          obtain ⟨b, hb⟩ := paired_from s hs m (i + 2) (by omega) (by omega)
          exact ⟨b, (hb.and (Ev.ge 12)).succ fun k hk => by rw [p_short k hk.2 s i hs h0 c d hU]; exact hk.1⟩
        | some v =>
          obtain ⟨b6, hb6⟩ := paired_from s hs m (i + 6) (by omega) (by omega)
          obtain ⟨b12, hb12⟩ := paired_from s hs m (i + 12) (by omega) (by omega)
          by_cases e : High v
          · cases hU2 : U s (i + 6) with
            | none => exact ⟨false, (Ev.ge 12).succ fun k hk => by rw [p_unit k hk s i v hs h0 hU, if_pos e, hU2]⟩
            | some w =>
              by_cases f : Low w
              · exact ⟨b12, (hb12.and (Ev.ge 12)).succ fun k hk => by rw [p_unit k hk.2 s i v hs h0 hU, if_pos e, hU2]; simp only []; rw [if_pos f]; exact hk.1⟩
              · exact ⟨false, (Ev.ge 12).succ fun k hk => by rw [p_unit k hk s i v hs h0 hU, if_pos e, hU2]; simp only []; rw [if_neg f]⟩
          · by_cases f : Low v
            · exact ⟨false, (Ev.ge 12).succ fun k hk => by rw [p_unit k hk s i v hs h0 hU, if_neg e, if_pos f]⟩
            · exact ⟨b6, (hb6.and (Ev.ge 12)).succ fun k hk => by rw [p_unit k hk.2 s i v hs h0 hU, if_neg e, if_neg f]; exact hk.1⟩
      · obtain ⟨b, hb⟩ := paired_from s hs m (i + 1) (by omega) (by omega)
        exact ⟨b, hb.succ fun k hk => by rw [p_plain k s i hs h0 c d]; exact hk⟩
    · exact ⟨true, (Ev.ge 0).succ fun k _ => p_end k s i (by omega)⟩
theorem paired_some (s : ByteArray) (hs : s.size ≤ 1000000) : ∃ b : Bool, Ev fun k => spec_Paired.f k s = some b := paired_from s hs s.size 0 (by omega) (by omega)

theorem quoted_from (t : ByteArray) (hs : t.size ≤ 4294967296) : ∀ (m : Nat) (p : Int), 0 ≤ p → (t.size : Int) - p ≤ m → ∃ (b : Bool) (e : Int), Ev fun k => spec_reader_quoted.l0 k t p = some (b, t, e)
  | 0, p, h0, hm => ⟨false, p, (Ev.ge 0).succ fun k _ => by rw [spec_reader_quoted.l0, if_neg (by omega)]⟩
  | m + 1, p, h0, hm => by
    by_cases c : p < t.size
    · by_cases c1 : bt t p = 34
      · exact ⟨true, _, (Ev.ge 0).succ fun k _ => by rw [spec_reader_quoted.l0, if_pos c, if_pos h0, if_pos c1]⟩
      · by_cases c2 : bt t p < 32
        · exact ⟨false, _, (Ev.ge 0).succ fun k _ => by rw [spec_reader_quoted.l0, if_pos c, if_pos h0, if_neg c1, if_pos c2]⟩
        · by_cases c3 : bt t p = 92
          · by_cases c4 : Simple (bt t (p + 1))
            · obtain ⟨b, e, hb⟩ := quoted_from t hs m (p + 2) (by omega) (by omega)
              refine ⟨b, e, (hb.and (Ev.ge 12)).succ fun k hk => ?_⟩
              rw [spec_reader_quoted.l0, if_pos c, if_pos h0, if_neg c1, if_neg c2, if_pos c3, w64 (i := p + 1) (by omega) (by omega), escape_simple k (by omega) t (p + 1) (by omega) (by omega) c4]
              simp only [Option.bind_some, if_true]
              rw [show p + 1 + 1 = p + 2 by omega]
              exact hk.1
            · by_cases c5 : bt t (p + 1) = 117
              · by_cases c6 : (h4 (hv (bt t (p + 1 + 1))) (hv (bt t (p + 1 + 2))) (hv (bt t (p + 1 + 3))) (hv (bt t (p + 1 + 4)))).isSome = true
                · obtain ⟨b, e, hb⟩ := quoted_from t hs m (p + 6) (by omega) (by omega)
                  refine ⟨b, e, (hb.and (Ev.ge 12)).succ fun k hk => ?_⟩
                  obtain ⟨q, hq⟩ := escape_u k hk.2 t (p + 1) (by omega) (by omega) c5
                  rw [if_pos c6] at hq
                  rw [spec_reader_quoted.l0, if_pos c, if_pos h0, if_neg c1, if_neg c2, if_pos c3, w64 (i := p + 1) (by omega) (by omega), hq]
                  simp only [Option.bind_some, if_true]
                  rw [show p + 1 + 5 = p + 6 by omega]
                  exact hk.1
                · obtain ⟨q, hq⟩ := escape_u 12 (by omega) t (p + 1) (by omega) (by omega) c5
                  rw [if_neg c6] at hq
                  refine ⟨false, q, (Ev.ge 12).succ fun k hk => ?_⟩
                  have hq' : spec_reader_escape.f k t (p + 1) = some (false, t, q) := by
                    obtain ⟨j, rfl⟩ : ∃ j, k = 12 + j := ⟨k - 12, by omega⟩
                    exact lift (f := fun k => spec_reader_escape.f k t (p + 1)) (fun k => spec_reader_escape.mono t (p + 1) k) hq j
                  rw [spec_reader_quoted.l0, if_pos c, if_pos h0, if_neg c1, if_neg c2, if_pos c3, w64 (i := p + 1) (by omega) (by omega), hq']
                  simp
              · refine ⟨false, p + 1, (Ev.ge 1).succ fun k hk => ?_⟩
                rw [spec_reader_quoted.l0, if_pos c, if_pos h0, if_neg c1, if_neg c2, if_pos c3, w64 (i := p + 1) (by omega) (by omega), escape_else k hk t (p + 1) (by omega) (by omega) c4 c5]
                simp
          · obtain ⟨b, e, hb⟩ := quoted_from t hs m (p + 1) (by omega) (by omega)
            refine ⟨b, e, hb.succ fun k hk => ?_⟩
            rw [spec_reader_quoted.l0, if_pos c, if_pos h0, if_neg c1, if_neg c2, if_neg c3, w64 (i := p + 1) (by omega) (by omega)]
            exact hk
    · exact ⟨false, p, (Ev.ge 0).succ fun k _ => by rw [spec_reader_quoted.l0, if_neg c]⟩
/-- StringAt behind the first quotation mark. -/
theorem stringAt_some (t : ByteArray) (hs : t.size ≤ 4294967296) : ∃ (b : Bool) (e : Int), Ev fun k => spec_StringAt.f k t 1 = some (e, b) ∧ spec_reader_quoted.l0 k t 1 = some (b, t, e) := by
  obtain ⟨b, e, hb⟩ := quoted_from t hs t.size 1 (by omega) (by omega)
  refine ⟨b, e, hb.mp fun k hk => ⟨?_, hk⟩⟩
  unfold spec_StringAt.f spec_reader_quoted.f
  rw [w64i (i := (1 : Int) - 1) (by omega) (by omega), w64i (i := (1 : Int) - 1 + 1) (by omega) (by omega), show (1 : Int) - 1 + 1 = 1 from rfl, hk]
  rfl

end Go.Proofs.YtdllbnecbbggfaaDoor.UnescXFnGjUnescapeJoin
