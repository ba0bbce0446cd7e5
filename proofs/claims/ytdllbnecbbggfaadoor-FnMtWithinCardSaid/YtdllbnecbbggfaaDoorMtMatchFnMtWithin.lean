/- What match.match says of a text and a pattern in UTF-8: whether the text is what the terms say. -/
import Derived.Test.YtdllbnecbbggfaaDoorXFnMtWithinx7
import Derived.Test.YtdllbnecbbggfaaDoorGlob
import Derived.Test.YtdllbnecbbggfaaDoorEvs
import Derived.Laws.BitsLemmas
namespace Go.Proofs.YtdllbnecbbggfaaDoor.MtXFnMtWithin
open Go.RowKit Go.Proofs.YtdllbnecbbggfaaDoor Go.Proofs.YtdllbnecbbggfaaDoor.Base Go.Proofs.YtdllbnecbbggfaaDoor.Evs Go.Proofs.YtdllbnecbbggfaaDoor.Runes Go.Proofs.YtdllbnecbbggfaaDoor.Glob Go.Proofs.YtdllbnecbbggfaaDoor.XFnMtWithin Go.Proofs.YtdllbnecbbggfaaDoorW.PrintWords Go.Proofs.YtdllbnecbbggfaaDoorW.PrintLast
set_option linter.unusedVariables false
set_option linter.unusedSimpArgs false

theorem two63 : (2 : Int) ^ 63 = 9223372036854775808 := by decide
theorem and_one (i : Nat) (hi : i < 9223372036854775808) : bits BinOp.and IntKind.i64 (i : Int) 1 = ((i % 2 : Nat) : Int) := by
  have h := bits_mask .i64 63 (by decide) (fun n h0 h1 => by rw [two63] at h1; rw [IntKind.wrap_i64]; omega) 1 (by decide) (i : Int) (by omega) (by rw [two63]; omega)
  have e : ((2 : Int) ^ 1 - 1) = 1 := by decide
  rw [e] at h
  rw [h]
  omega
theorem lower_eq (c : Int) (h0 : 0 ≤ c) (h1 : c ≤ 1114111) : match_tolower.f c = some (lo true c) := by
  unfold match_tolower.f lo
  by_cases a : c ≥ 65
  · rw [if_pos a]
    by_cases b : c ≤ 90
    · rw [if_pos b, if_pos ⟨rfl, a, b⟩]
      congr 1
      unfold wrap32
      omega
    · rw [if_neg b, if_neg (fun h => b h.2.2)]
  · rw [if_neg a, if_neg (fun h => a h.2.1)]
theorem low_eq' (nc : Bool) (c : Int) (h0 : 0 ≤ c) (h1 : c ≤ 1114111) : match_match0.low nc c = some (lo nc c) := by
  unfold match_match0.low
  cases nc with
  | true => rw [if_pos rfl]; exact lower_eq c h0 h1
  | false => rw [if_neg (by simp)]; unfold lo; simp
theorem sc_range {c : Int} (h : Sc c) : 0 ≤ c ∧ c ≤ 1114111 := by unfold Sc at h; omega
theorem dgo_en {s : ByteArray} {c : Int} {r : List Int} (hc : Sc c) (h : bytesOf s = en c ++ r) : dgo s = (c, ((en c).length : Int)) := by
  have := sc_range hc
  unfold dgo
  rw [dec_first hc h]
  exact Prod.ext (by simp only []; omega) rfl
theorem dlast_en {s : ByteArray} {c : Int} {p : List Int} (hc : Sc c) (h : bytesOf s = p ++ en c) : dlast s = (c, ((en c).length : Int)) := by
  have := sc_range hc
  unfold dlast
  rw [dec_last hc h]
  exact Prod.ext (by simp only []; omega) rfl
theorem bytes_cut {s : ByteArray} {a r : List Int} {n : Int} (h : bytesOf s = a ++ r) (hn : n = a.length) : bytesOf (s.extract n.toNat s.size) = r := by
  rw [bytes_drop, h, hn, Int.toNat_natCast, List.drop_left]
theorem bytes_keep {s : ByteArray} {a r : List Int} {n : Int} (h : bytesOf s = a ++ r) (hn : n = a.length) : bytesOf (s.extract 0 n.toNat) = a := by
  rw [bytes_take, h, hn, Int.toNat_natCast, List.take_left]
theorem size_of {s : ByteArray} {l : List Int} (h : bytesOf s = l) : s.size = l.length := by rw [← bytesOf_length, h]

/-! ### matchTrimSuffix -/
theorem j4_go (k : Nat) (s p : ByteArray) (nc b9 : Bool) (x10 x11 : Int) (esc : Bool) (c n : Int) (hs : s.size ≤ 1000000) (hp : p.size ≤ 1000000) (hl : dlast s = (c, n)) (hn0 : 0 ≤ n) (hn : n ≤ s.size) (h11 : 0 ≤ x11) (h11' : x11 ≤ p.size)
    (h10 : 0 ≤ x10) (h10' : x10 ≤ 1114111) (hc0 : 0 ≤ c) (hc1 : c ≤ 1114111) :
    match_matchTrimSuffix.j4 (k + 1) s p nc b9 x10 x11 esc false = if (x10 = 63 ∧ esc = false) ∨ lo nc x10 = lo nc c then match_matchTrimSuffix.l0 k (s.extract 0 ((s.size : Int) - n).toNat) (p.extract 0 ((p.size : Int) - x11).toNat) nc b9 else some (s, p, false) := by
  have hd : utf8_DecodeLastRuneInString.f s = some (c, n) := by unfold utf8_DecodeLastRuneInString.f; rw [if_pos (by omega), hl]
  have e63 : lo true x10 = 63 ↔ x10 = 63 := lo_eq (by omega)
  have id : ∀ x, lo false x = x := fun x => by unfold lo; simp
  rw [match_matchTrimSuffix.j4, if_neg (by simp), hd]
  simp only [Option.bind_some]
  rw [w64i (i := (s.size : Int) - n) (by omega) (by omega), w64i (i := (p.size : Int) - x11) (by omega) (by omega)]
  have g1 : (0 : Int) ≤ (s.size : Int) - n := by omega
  have g2 : (s.size : Int) - n ≤ s.size := by omega
  have g3 : (0 : Int) ≤ (p.size : Int) - x11 := by omega
  have g4 : (p.size : Int) - x11 ≤ p.size := by omega
  cases nc with
  | true =>
    rw [if_pos rfl, lower_eq x10 h10 h10', lower_eq c hc0 hc1]
    simp only [Option.bind_some]
    by_cases a : x10 = 63
    · rw [if_pos (e63.mpr a)]
      cases esc with
      | true =>
        rw [if_pos rfl]
        by_cases b : lo true x10 = lo true c
        · rw [if_pos b, if_pos g1, if_pos g2, if_pos g3, if_pos g4, if_pos (.inr b)]
        · rw [if_neg b, if_neg (by simp [b])]
      | false => rw [if_neg (by simp), if_pos g1, if_pos g2, if_pos g3, if_pos g4, if_pos (.inl ⟨a, rfl⟩)]
    · rw [if_neg (fun h => a (e63.mp h))]
      by_cases b : lo true x10 = lo true c
      · rw [if_pos b, if_pos g1, if_pos g2, if_pos g3, if_pos g4, if_pos (.inr b)]
      · rw [if_neg b, if_neg (by simp [a, b])]
  | false =>
    rw [if_neg (by simp), id, id]
    by_cases a : x10 = 63
    · rw [if_pos a]
      cases esc with
      | true =>
        rw [if_pos rfl]
        by_cases b : x10 = c
        · rw [if_pos b, if_pos g1, if_pos g2, if_pos g3, if_pos g4, if_pos (.inr b)]
        · rw [if_neg b, if_neg (by simp [b])]
      | false => rw [if_neg (by simp), if_pos g1, if_pos g2, if_pos g3, if_pos g4, if_pos (.inl ⟨a, rfl⟩)]
    · rw [if_neg a]
      by_cases b : x10 = c
      · rw [if_pos b, if_pos g1, if_pos g2, if_pos g3, if_pos g4, if_pos (.inr b)]
      · rw [if_neg b, if_neg (by simp [a, b])]
theorem rd_mid {z L : List Int} {y : Int} {n : Nat} (i : Nat) (hi : i ≤ n) : rd ((z ++ [y] ++ List.replicate n 92) ++ L) ((z.length + n - i : Nat) : Int) = if i = n then y else 92 := by
  rw [rd_append _ _ _ (by omega), if_pos (by simp; omega), rd_append _ _ _ (by omega)]
  by_cases c : i = n
  · rw [if_pos (by simp; omega), if_pos c, rd_append _ _ _ (by omega), if_neg (by omega), show ((z.length + n - i : Nat) : Int) - (z.length : Int) = 0 by omega]
    rfl
  · rw [if_neg (by simp; omega), if_neg c, rd_get _ _ (by simp; omega), List.getElem_replicate]
theorem l1_run (s p : ByteArray) (nc b9 : Bool) (x10 : Int) (z L : List Int) (y : Int) (n : Nat) (hp : p.size ≤ 1000000) (hb : bytesOf p = (z ++ [y] ++ List.replicate n 92) ++ L) (hy : y ≠ 92) :
    ∀ (d i : Nat), d + i = n → ∀ k, match_matchTrimSuffix.l1 (k + 1 + d) s p nc b9 x10 (L.length : Int) false (i : Int) = if n % 2 = 1 then match_matchTrimSuffix.j3 k s p nc b9 x10 ((L.length : Int) + 1) true else match_matchTrimSuffix.j3 k s p nc b9 x10 (L.length : Int) false
  | d, i, hd, k => by
    have hz := size_of hb
    simp only [List.length_append, List.length_cons, List.length_nil, List.length_replicate] at hz
    have hix : wrap64 (wrap64 (wrap64 ((p.size : Int) - (L.length : Int)) - (i : Int)) - 1) = ((z.length + n - i : Nat) : Int) := by
      rw [w64i (i := (p.size : Int) - (L.length : Int)) (by omega) (by omega), w64i (i := (p.size : Int) - (L.length : Int) - (i : Int)) (by omega) (by omega), w64i (by omega) (by omega)]
      omega
    have hbt : bt p ((z.length + n - i : Nat) : Int) = if i = n then y else 92 := by
      rw [← rd_bytesOf, hb]
      exact rd_mid i (by omega)
    cases d with
    | zero =>
      obtain rfl : i = n := by omega
      rw [Nat.add_zero, match_matchTrimSuffix.l1, hix, if_pos (by omega), if_pos (by omega), hbt, if_pos rfl, if_neg hy, and_one i (by omega), w64 (by omega) (by omega)]
      by_cases c : i % 2 = 1
      · rw [if_pos (by omega), if_pos c]
      · rw [if_neg (by omega), if_neg c]
    | succ d =>
      have hbt2 : bt p ((z.length + n - i : Nat) : Int) = 92 := by rw [hbt, if_neg (by omega)]
      rw [show k + 1 + (d + 1) = (k + 1 + d) + 1 by omega, match_matchTrimSuffix.l1, hix, if_pos (by omega), if_pos (by omega), hbt2, if_pos rfl, w64 (by omega) (by omega)]
      exact l1_run s p nc b9 x10 z L y n hp hb hy d (i + 1) (by omega) k
/-- The characters of a text end with one, or there are none. -/
theorem snoc_of {α : Type} (l : List α) (h : l ≠ []) : ∃ a x, l = a ++ [x] := ⟨l.dropLast, l.getLast h, (List.dropLast_concat_getLast h).symm⟩
theorem trim_from (nc : Bool) : ∀ (n : Nat) (ps : List P) (cs : List Int) (s p : ByteArray), ps.length = n → okps ps → Scs cs → bytesOf s = enc cs → bytesOf p = pen (star :: ps) → s.size ≤ 1000000 → p.size ≤ 1000000 →
    ∃ t : ByteArray × ByteArray × Bool, (Ev fun k => match_matchTrimSuffix.l0 k s p nc true = some t) ∧
      ((t.2.2 = true ∧ ∃ cs' ps' z, cs = cs' ++ z ∧ bytesOf t.1 = enc cs' ∧ bytesOf t.2.1 = pen (star :: ps') ∧ ps'.length ≤ ps.length ∧ t.2.1.size ≤ p.size ∧ okps ps' ∧ (M nc (star :: ps) cs ↔ M nc (star :: ps') cs')) ∨ (t.2.2 = false ∧ ¬ M nc (star :: ps) cs))
  | n, ps, cs, s, p, hn, ho, hc, hs, hp, hs1, hp1 => by
    have stop : (∀ k, match_matchTrimSuffix.l0 (k + 2) s p nc true = some (s, p, true)) → ∃ t : ByteArray × ByteArray × Bool, (Ev fun k => match_matchTrimSuffix.l0 k s p nc true = some t) ∧
      ((t.2.2 = true ∧ ∃ cs' ps' z, cs = cs' ++ z ∧ bytesOf t.1 = enc cs' ∧ bytesOf t.2.1 = pen (star :: ps') ∧ ps'.length ≤ ps.length ∧ t.2.1.size ≤ p.size ∧ okps ps' ∧ (M nc (star :: ps) cs ↔ M nc (star :: ps') cs')) ∨ (t.2.2 = false ∧ ¬ M nc (star :: ps) cs)) := fun h =>
      ⟨(s, p, true), ⟨2, fun k hk => by obtain ⟨j, rfl⟩ : ∃ j, k = j + 2 := ⟨k - 2, by omega⟩; exact h j⟩, .inl ⟨rfl, cs, ps, [], by simp, hs, hp, Nat.le_refl _, Nat.le_refl _, ho, Iff.rfl⟩⟩
    by_cases c0 : cs = []
    · have hz : s.size = 0 := by rw [size_of hs, c0]; rfl
      exact stop fun k => by rw [match_matchTrimSuffix.l0, if_neg (by omega), match_matchTrimSuffix.j1, if_neg (by simp)]
    · have hz : 0 < s.size := by
        rw [size_of hs]
        have := enc_len_ge cs
        have := List.length_pos_iff.mpr c0
        omega
      have hpz := size_of hp
      rw [pen_star, List.length_cons] at hpz
      by_cases c1 : ps = []
      · have : p.size = 1 := by rw [hpz, c1]; rfl
        exact stop fun k => by rw [match_matchTrimSuffix.l0, if_pos (by omega), match_matchTrimSuffix.j1, if_neg (by simp; omega)]
      · obtain ⟨qs, q, rfl⟩ := snoc_of ps c1
        obtain ⟨ds, c, rfl⟩ := snoc_of cs c0
        have hpl := pen_len_ge (qs ++ [q])
        simp only [List.length_append, List.length_cons, List.length_nil] at hpl
        have hq : okp q := ho q (by simp)
        have hcc : Sc c := hc c (by simp)
        -- the pattern's end
        have hpb : bytesOf p = (pen (star :: qs) ++ (if q.1 = true then [92] else [])) ++ en q.2 := by
          rw [hp, ← List.cons_append, pen_append, pen_one]
          split
          · simp
          · simp
        have hlp := dlast_en hq.1 hpb
        have hfp : utf8_DecodeLastRuneInString.f p = some (q.2, ((en q.2).length : Int)) := by unfold utf8_DecodeLastRuneInString.f; rw [if_pos (by omega), hlp]
        have hsb : bytesOf s = enc ds ++ en c := by rw [hs, enc_append, enc_one]
        have hls := dlast_en hcc hsb
        have hos : okps (star :: qs) := fun x hx => by
          simp only [List.mem_cons] at hx
          rcases hx with rfl | hx
          · exact ⟨by unfold Sc star; simp, fun _ => by decide⟩
          · exact ho x (by simp [hx])
        obtain ⟨m, p0, hm, hp0⟩ := pen_back _ (star :: qs) rfl hos
        obtain ⟨z, y, rfl, hy⟩ : ∃ z y, p0 = z ++ [y] ∧ y ≠ 92 := by
          rcases hp0 with rfl | ⟨z, y, rfl, hy⟩
          · rw [pen_star] at hm
            cases m with
            | zero => simp at hm
            | succ m =>
              rw [show 2 * (m + 1) = (2 * m + 1) + 1 by omega, List.replicate_succ] at hm
              simp at hm
          · exact ⟨z, y, rfl, hy⟩
        have hb1 : bytesOf p = (z ++ [y] ++ List.replicate (2 * m + (if q.1 = true then 1 else 0)) 92) ++ en q.2 := by
          rw [hpb, hm]
          split
          · rw [List.replicate_succ', ← List.append_assoc]
          · simp
        have hrun := l1_run s p nc true q.2 z (en q.2) y _ hp1 hb1 hy (2 * m + (if q.1 = true then 1 else 0)) 0 (by omega)
        have hpar : (2 * m + (if q.1 = true then 1 else 0)) % 2 = 1 ↔ q.1 = true := by
          split
          · rename_i h; exact ⟨fun _ => h, fun _ => by omega⟩
          · rename_i h; exact ⟨fun x => by omega, fun x => absurd x h⟩
        have hszp : (p.size : Int) = (pen (star :: qs)).length + ((en q.2).length + (if q.1 = true then 1 else 0) : Int) := by
          rw [size_of hpb]
          simp only [List.length_append]
          split <;> simp <;> omega
        have hszs := size_of hsb
        rw [List.length_append] at hszs
        have qr := sc_range hq.1
        have cr := sc_range hcc
        -- up to the question
        have front : ∀ k, match_matchTrimSuffix.l0 (k + 3 + (2 * m + (if q.1 = true then 1 else 0))) s p nc true = match_matchTrimSuffix.j3 k s p nc true q.2 ((en q.2).length + (if q.1 = true then 1 else 0) : Int) q.1 := fun k => by
          rw [show k + 3 + (2 * m + (if q.1 = true then 1 else 0)) = (k + 1 + (2 * m + (if q.1 = true then 1 else 0))) + 1 + 1 by omega, match_matchTrimSuffix.l0, if_pos (by omega), match_matchTrimSuffix.j1, if_pos (by simp; omega), hfp]
          simp only [Option.bind_some]
          have := hrun k
          rw [Int.natCast_zero] at this
          rw [this]
          by_cases hb : q.1 = true
          · rw [if_pos (hpar.mpr hb), if_pos hb, hb]
          · rw [if_neg (fun h => hb (hpar.mp h)), if_neg hb, Int.add_zero, Bool.eq_false_iff.mpr hb]
        by_cases hstar : q = star
        · refine ⟨(s, p, true), ⟨5 + (2 * m + (if q.1 = true then 1 else 0)), fun k hk => ?_⟩, .inl ⟨rfl, ds ++ [c], qs ++ [q], [], by simp, hs, hp, Nat.le_refl _, Nat.le_refl _, ho, Iff.rfl⟩⟩
          obtain ⟨j, rfl⟩ : ∃ j, k = (j + 2) + 3 + (2 * m + (if q.1 = true then 1 else 0)) := ⟨k - 5 - (2 * m + (if q.1 = true then 1 else 0)), by omega⟩
          rw [front, match_matchTrimSuffix.j3, hstar, if_pos (show star.2 = 42 from rfl)]
          show match_matchTrimSuffix.j4 (j + 1) s p nc true star.2 _ star.1 true = _
          rw [match_matchTrimSuffix.j4, if_pos rfl]
        · have tail : ∀ k, match_matchTrimSuffix.j3 (k + 2) s p nc true q.2 ((en q.2).length + (if q.1 = true then 1 else 0) : Int) q.1 = match_matchTrimSuffix.j4 (k + 1) s p nc true q.2 ((en q.2).length + (if q.1 = true then 1 else 0) : Int) q.1 false := fun k => by
            rw [match_matchTrimSuffix.j3]
            by_cases h42 : q.2 = 42
            · rw [if_pos h42]
              cases hb : q.1 with
              | true => rfl
              | false => exact absurd (Prod.ext hb h42) hstar
            · rw [if_neg h42]
          have hgo := fun k => j4_go k s p nc true q.2 ((en q.2).length + (if q.1 = true then 1 else 0) : Int) q.1 c ((en c).length : Int) hs1 hp1 hls (by omega) (by omega) (by split <;> omega) (by rw [hszp]; exact Int.le_add_of_nonneg_left (by omega)) qr.1 qr.2 cr.1 cr.2
          have hfit : ((q.2 = 63 ∧ q.1 = false) ∨ lo nc q.2 = lo nc c) ↔ fit nc q c := by
            unfold fit
            constructor
            · rintro (h | h)
              · exact .inl (Prod.ext h.2 h.1)
              · exact .inr h
            · rintro (h | h)
              · rw [h]; exact .inl ⟨rfl, rfl⟩
              · exact .inr h
          have hM : M nc (star :: (qs ++ [q])) (ds ++ [c]) ↔ fit nc q c ∧ M nc (star :: qs) ds := by
            rw [← List.cons_append]
            exact M_last hstar
          by_cases hf : fit nc q c
          · have hs2 : bytesOf (s.extract 0 ((s.size : Int) - (en c).length).toNat) = enc ds := bytes_keep hsb (by omega)
            have hp2 : bytesOf (p.extract 0 ((p.size : Int) - ((en q.2).length + (if q.1 = true then 1 else 0) : Int)).toNat) = pen (star :: qs) := bytes_keep (r := (if q.1 = true then [92] else []) ++ en q.2) (by rw [hpb, List.append_assoc]) (by omega)
            cases n with
            | zero => simp at hn
            | succ n =>
            obtain ⟨t, ht, ht2⟩ := trim_from nc n qs ds _ _ (by simpa using hn) ho.left hc.left hs2 hp2 (by rw [ByteArray.size_extract]; omega) (by rw [ByteArray.size_extract]; omega)
            refine ⟨t, ?_, ?_⟩
            · obtain ⟨K, hK⟩ := ht
              refine ⟨K + 5 + (2 * m + (if q.1 = true then 1 else 0)), fun k hk => ?_⟩
              obtain ⟨j, rfl⟩ : ∃ j, k = ((K + j) + 2) + 3 + (2 * m + (if q.1 = true then 1 else 0)) := ⟨k - K - 5 - (2 * m + (if q.1 = true then 1 else 0)), by omega⟩
              rw [front, tail, hgo, if_pos (hfit.mpr hf)]
              exact hK _ (by omega)
            · rcases ht2 with ⟨h1, cs', ps', z', rfl, h3, h4, h5, h5z, h6, h7⟩ | ⟨h1, h2⟩
              · refine .inl ⟨h1, cs', ps', z' ++ [c], by rw [List.append_assoc], h3, h4, by simp; omega, by rw [ByteArray.size_extract] at h5z; omega, h6, ?_⟩
                rw [hM, h7]
                exact ⟨fun h => h.2, fun h => ⟨hf, h⟩⟩
              · exact .inr ⟨h1, fun h => h2 (hM.mp h).2⟩
          · refine ⟨(s, p, false), ⟨5 + (2 * m + (if q.1 = true then 1 else 0)), fun k hk => ?_⟩, .inr ⟨rfl, fun h => hf (hM.mp h).1⟩⟩
            obtain ⟨j, rfl⟩ : ∃ j, k = (j + 2) + 3 + (2 * m + (if q.1 = true then 1 else 0)) := ⟨k - 5 - (2 * m + (if q.1 = true then 1 else 0)), by omega⟩
            rw [front, tail, hgo, if_neg (fun h => hf (hfit.mp h))]

/-! ### match -/
theorem pen_head {q : P} {r : List P} (h : okp q) : ∃ x t, pen (q :: r) = x :: t ∧ (x = 42 ↔ q = star) := by
  rw [pen_cons]
  obtain ⟨b, c⟩ := q
  cases b with
  | true => exact ⟨92, en c ++ pen r, rfl, by simp [star]⟩
  | false =>
    rw [if_neg (by simp)]
    obtain ⟨x, t, e, h1, h2, h3, _, _⟩ := en_shape h.1
    refine ⟨x, t ++ pen r, by rw [e]; rfl, ?_⟩
    unfold star
    simp only [Prod.mk.injEq, true_and]
    rcases Int.lt_or_le c 128 with hc | hc
    · rw [(h2 hc).1]
    · have := (h3 hc).1
      constructor
      · intro h; omega
      · intro h; omega
theorem strip_some (nc : Bool) : ∀ (ps : List P) (p : ByteArray), okps ps → bytesOf p = pen (star :: ps) →
    ∃ p1 ps1, (Ev fun k => match_match0.strip k p = some p1) ∧ bytesOf p1 = pen (star :: ps1) ∧ ps1.length ≤ ps.length ∧ okps ps1 ∧ ∀ cs, M nc (star :: ps) cs ↔ M nc (star :: ps1) cs
  | [], p, ho, hp => by
    have hz : p.size = 1 := by rw [size_of hp]; rfl
    exact ⟨p, [], (Ev.ge 0).succ fun k _ => by rw [match_match0.strip, if_neg (by omega)], hp, Nat.le_refl _, ho, fun _ => Iff.rfl⟩
  | q :: r, p, ho, hp => by
    obtain ⟨x, t, e, hx⟩ := pen_head (r := r) ho.head
    have hz := size_of hp
    rw [pen_star, e] at hz
    simp only [List.length_cons] at hz
    have hb : bt p 1 = x := by
      rw [← rd_bytesOf, hp, pen_star, e]
      rfl
    by_cases c : q = star
    · subst c
      have hp2 : bytesOf (p.extract 1 p.size) = pen (star :: r) := by rw [bytes_drop, hp, pen_star]; rfl
      obtain ⟨p1, ps1, h1, h2, h3, h4, h5⟩ := strip_some nc r _ ho.tail hp2
      refine ⟨p1, ps1, h1.succ fun k hk => ?_, h2, by simp only [List.length_cons]; omega, h4, fun cs => by rw [M_star_star]; exact h5 cs⟩
      rw [match_match0.strip, if_pos (by omega), hb, if_pos (hx.mpr rfl)]
      exact hk
    · exact ⟨p, q :: r, (Ev.ge 0).succ fun k _ => by rw [match_match0.strip, if_pos (by omega), hb, if_neg (fun h => c (hx.mp h))], hp, Nat.le_refl _, ho, fun _ => Iff.rfl⟩
def Says (nc : Bool) (ps : List P) (cs : List Int) (r : Int) : Prop := (r = 1 ∧ M nc ps cs) ∨ (r = 0 ∧ ¬ M nc ps cs)
theorem Says.iff {nc : Bool} {ps qs : List P} {cs ds : List Int} {r : Int} (h : Says nc ps cs r) (e : M nc qs ds ↔ M nc ps cs) : Says nc qs ds r := by
  rcases h with ⟨h, g⟩ | ⟨h, g⟩
  · exact .inl ⟨h, e.mpr g⟩
  · exact .inr ⟨h, fun h => g (e.mp h)⟩
theorem size_nil {s : ByteArray} (h : bytesOf s = enc []) : s.size = 0 := size_of h
theorem size_cons {s : ByteArray} {c : Int} {r : List Int} (h : bytesOf s = enc (c :: r)) : s.size ≠ 0 := by
  have := en_pos c
  rw [size_of h]
  simp only [enc, List.length_append]
  omega
theorem sc_ss {s : ByteArray} {c : Int} {r : List Int} (hc : Sc c) (h : bytesOf s = enc (c :: r)) : match_match0.sc s = c ∧ match_match0.ss s = ((en c).length : Int) := by
  unfold match_match0.sc match_match0.ss
  rw [if_neg (size_cons h), if_neg (size_cons h), dgo_en hc (by simpa [enc] using h)]
  exact ⟨rfl, rfl⟩
theorem ext_le (s : ByteArray) (n : Nat) (hs : s.size ≤ 1000000) : (s.extract n s.size).size ≤ 1000000 := by rw [ByteArray.size_extract]; omega
theorem m_some (nc : Bool) : ∀ (N : Nat) (ps : List P) (cs : List Int) (s p : ByteArray), ps.length + cs.length ≤ N → okps ps → Scs cs → bytesOf s = enc cs → bytesOf p = pen ps → s.size ≤ 1000000 → p.size ≤ 1000000 →
    ∃ r, (Ev fun k => match_match0.m k s p nc = some r) ∧ Says nc ps cs r
  | N, [], cs, s, p, hN, ho, hc, hs, hp, hs1, hp1 => by
    have hz : p.size = 0 := size_of hp
    cases cs with
    | nil => exact ⟨1, (Ev.ge 0).succ fun k _ => by rw [match_match0.m, if_pos hz, if_pos (size_nil hs)], .inl ⟨rfl, rfl⟩⟩
    | cons c r => exact ⟨0, (Ev.ge 0).succ fun k _ => by rw [match_match0.m, if_pos hz, if_neg (size_cons hs)], .inr ⟨rfl, fun h => by cases h⟩⟩
  | 0, q :: qs, cs, s, p, hN, ho, hc, hs, hp, hs1, hp1 => by simp at hN
  | N + 1, q :: qs, cs, s, p, hN, ho, hc, hs, hp, hs1, hp1 => by
    have hpz : p.size ≠ 0 := by
      have := pen_len_ge (q :: qs)
      rw [size_of hp]
      simp only [List.length_cons] at this
      omega
    have hq := ho.head
    simp only [List.length_cons] at hN
    obtain ⟨b, c2⟩ := q
    have qr := sc_range hq.1
    cases b with
    | true =>
      have hst : ((true, c2) : P) ≠ star := by simp [star]
      have hpb : bytesOf p = en 92 ++ (en c2 ++ pen qs) := by rw [hp, pen_cons, if_pos rfl]; rfl
      have hd := dgo_en sc92 hpb
      have e1 : ((en 92).length : Int) = 1 := rfl
      rw [e1] at hd
      have hq2 : bytesOf (p.extract (1 : Int).toNat p.size) = en c2 ++ pen qs := bytes_cut hpb rfl
      have hd2 := dgo_en hq.1 hq2
      have hz2 : (p.extract (1 : Int).toNat p.size).size ≠ 0 := by
        rw [size_of hq2, List.length_append]
        have := en_pos c2
        omega
      cases cs with
      | nil => exact ⟨0, (Ev.ge 0).succ fun k _ => by rw [match_match0.m, if_neg hpz, hd, if_neg (by decide), if_neg (by decide), if_pos (size_nil hs)], .inr ⟨rfl, M_step_nil hst⟩⟩
      | cons c r =>
        have cr := sc_range hc.head
        obtain ⟨es, ess⟩ := sc_ss hc.head hs
        have hM : M nc ((true, c2) :: qs) (c :: r) ↔ lo nc c2 = lo nc c ∧ M nc qs r := by
          rw [M_step hst]
          unfold fit
          simp
        have open_ : ∀ k, match_match0.m (k + 1) s p nc = if lo nc c = lo nc c2 then match_match0.m k (s.extract ((en c).length : Int).toNat s.size) ((p.extract (1 : Int).toNat p.size).extract ((en c2).length : Int).toNat (p.extract (1 : Int).toNat p.size).size) nc else some 0 := fun k => by
          rw [match_match0.m, if_neg hpz, hd, if_neg (by decide), if_neg (by decide), if_neg (size_cons hs), if_pos rfl]
          simp only []
          rw [if_neg hz2, es, ess, hd2, low_eq' nc c cr.1 cr.2]
          simp only [Option.bind_some]
          rw [low_eq' nc c2 qr.1 qr.2]
          simp only [Option.bind_some]
        by_cases hf : lo nc c = lo nc c2
        · obtain ⟨x, hx, hx2⟩ := m_some nc N qs r (s.extract ((en c).length : Int).toNat s.size) ((p.extract (1 : Int).toNat p.size).extract ((en c2).length : Int).toNat (p.extract (1 : Int).toNat p.size).size) (by simp only [List.length_cons] at hN; omega) ho.tail hc.tail (bytes_cut (by simpa [enc] using hs) rfl) (bytes_cut hq2 rfl) (ext_le _ _ hs1) (ext_le _ _ (ext_le _ _ hp1))
          exact ⟨x, hx.succ fun k hk => by rw [open_, if_pos hf]; exact hk, hx2.iff (by rw [hM]; exact ⟨fun h => h.2, fun h => ⟨hf.symm, h⟩⟩)⟩
        · exact ⟨0, (Ev.ge 0).succ fun k _ => by rw [open_, if_neg hf], .inr ⟨rfl, fun h => hf (hM.mp h).1.symm⟩⟩
    | false =>
      have hpb : bytesOf p = en c2 ++ pen qs := by rw [hp, pen_cons, if_neg (by simp)]
      have hd := dgo_en hq.1 hpb
      have n92 : c2 ≠ 92 := hq.2 rfl
      by_cases c63 : c2 = 63
      · subst c63
        have hst : ((false, 63) : P) ≠ star := by simp [star]
        cases cs with
        | nil => exact ⟨0, (Ev.ge 0).succ fun k _ => by rw [match_match0.m, if_neg hpz, hd, if_pos rfl, if_pos (size_nil hs)], .inr ⟨rfl, M_step_nil hst⟩⟩
        | cons c r =>
          obtain ⟨es, ess⟩ := sc_ss hc.head hs
          obtain ⟨x, hx, hx2⟩ := m_some nc N qs r (s.extract ((en c).length : Int).toNat s.size) (p.extract ((en 63).length : Int).toNat p.size) (by simp only [List.length_cons] at hN; omega) ho.tail hc.tail (bytes_cut (by simpa [enc] using hs) rfl) (bytes_cut hpb rfl) (ext_le _ _ hs1) (ext_le _ _ hp1)
          refine ⟨x, hx.succ fun k hk => ?_, hx2.iff ?_⟩
          · rw [match_match0.m, if_neg hpz, hd, if_pos rfl, if_neg (size_cons hs), ess]
            exact hk
          · rw [M_step hst]
            exact ⟨fun h => h.2, fun h => ⟨.inl rfl, h⟩⟩
      · by_cases c42 : c2 = 42
        · subst c42
          obtain ⟨p1, ps1, h1, h2, h3, h4, h5⟩ := strip_some nc qs p ho.tail hp
          have hp1z : p1.size ≤ 1000000 := by
            have a1 := size_of h2
            have key : p1.size ≤ p.size := by
              obtain ⟨k, hk⟩ := h1.ex
              have : ∀ (k : Nat) (p q : ByteArray), match_match0.strip k p = some q → q.size ≤ p.size := by
                intro k
                induction k with
                | zero => intro p q h; cases h
                | succ k ih =>
                  intro p q h
                  rw [match_match0.strip] at h
                  split at h
                  · split at h
                    · have := ih _ _ h
                      rw [ByteArray.size_extract] at this
                      omega
                    · obtain rfl := Option.some.inj h; exact Nat.le_refl _
                  · obtain rfl := Option.some.inj h; exact Nat.le_refl _
              exact this k p p1 hk
            omega
          have hstar : ((false, 42) : P) = star := rfl
          rw [hstar]
          have front : ∀ k p1', match_match0.strip k p = some p1' → match_match0.m (k + 1) s p nc = if p1'.size = 1 then some 1 else (match_matchTrimSuffix.f k s p1' nc).bind fun t => if t.2.2 = true then (if t.2.1.size = 1 then some 1 else if t.2.1.size = 0 then none else (match_match0.m k t.1 (t.2.1.extract 1 t.2.1.size) nc).bind fun r => if r = 0 then (if t.1.size = 0 then some 0 else if match_match0.ss s ≤ t.1.size then match_match0.m k (t.1.extract (match_match0.ss s).toNat t.1.size) t.2.1 nc else none) else some r) else some 0 := fun k p1' hk => by
            rw [match_match0.m, if_neg hpz, hd, if_neg (by decide), if_pos rfl, hk]
            simp only [Option.bind_some]
          by_cases z1 : p1.size = 1
          · have : ps1 = [] := by
              have a1 := size_of h2
              rw [pen_star, List.length_cons] at a1
              have := pen_len_ge ps1
              exact List.eq_nil_of_length_eq_zero (by omega)
            subst this
            exact ⟨1, h1.succ fun k hk => by rw [front k p1 hk, if_pos z1], .inl ⟨rfl, (h5 cs).mpr M_star_only⟩⟩
          · obtain ⟨t, ht, ht2⟩ := trim_from nc ps1.length ps1 cs s p1 rfl h4 hc hs h2 hs1 hp1z
            have ht' : Ev fun k => match_matchTrimSuffix.f k s p1 nc = some t := ht
            rcases ht2 with ⟨e1, cs', ps', zz, hcs, g1, g2, g3, g3z, g4, g5⟩ | ⟨e1, g⟩
            · by_cases z2 : t.2.1.size = 1
              · have : ps' = [] := by
                  have a1 := size_of g2
                  rw [pen_star, List.length_cons] at a1
                  have := pen_len_ge ps'
                  exact List.eq_nil_of_length_eq_zero (by omega)
                subst this
                refine ⟨1, (h1.and ht').succ fun k hk => ?_, .inl ⟨rfl, (h5 cs).mpr (g5.mpr M_star_only)⟩⟩
                rw [front k p1 hk.1, if_neg z1, hk.2]
                simp only [Option.bind_some]
                rw [if_pos e1, if_pos z2]
              · have z3 : t.2.1.size ≠ 0 := by
                  rw [size_of g2, pen_star, List.length_cons]; omega
                have hlen : cs'.length ≤ cs.length := by rw [hcs, List.length_append]; omega
                have hcs' : Scs cs' := fun x hx => hc x (by rw [hcs]; simp [hx])
                have hq3 : bytesOf (t.2.1.extract 1 t.2.1.size) = pen ps' := by rw [bytes_drop, g2, pen_star]; rfl
                have hsz : t.1.size ≤ s.size := by
                  rw [size_of g1, size_of hs, hcs, enc_append, List.length_append]; omega
                have hsz2 : t.2.1.size ≤ 1000000 := by omega
                obtain ⟨x, hx, hx2⟩ := m_some nc N ps' cs' t.1 (t.2.1.extract 1 t.2.1.size) (by omega) g4 hcs' g1 hq3 (by omega) (ext_le _ _ hsz2)
                rcases hx2 with ⟨rfl, hm⟩ | ⟨rfl, hm⟩
                · refine ⟨1, ((h1.and ht').and hx).succ fun k hk => ?_, .inl ⟨rfl, (h5 cs).mpr (g5.mpr (M_star.mpr ⟨[], cs', rfl, hm⟩))⟩⟩
                  rw [front k p1 hk.1.1, if_neg z1, hk.1.2]
                  simp only [Option.bind_some]
                  rw [if_pos e1, if_neg z2, if_neg z3, hk.2]
                  simp only [Option.bind_some]
                  rw [if_neg (by decide)]
                · cases cs' with
                  | nil =>
                    refine ⟨0, ((h1.and ht').and hx).succ fun k hk => ?_, .inr ⟨rfl, fun h => hm (M_star_nil.mp (g5.mp ((h5 cs).mp h)))⟩⟩
                    rw [front k p1 hk.1.1, if_neg z1, hk.1.2]
                    simp only [Option.bind_some]
                    rw [if_pos e1, if_neg z2, if_neg z3, hk.2]
                    simp only [Option.bind_some]
                    rw [if_pos trivial, if_pos (size_nil g1)]
                  | cons c ds =>
                    have hs' : bytesOf s = enc (c :: (ds ++ zz)) := by rw [hs, hcs]; rfl
                    obtain ⟨es, ess⟩ := sc_ss hcs'.head hs'
                    have hcut : bytesOf (t.1.extract ((en c).length : Int).toNat t.1.size) = enc ds := bytes_cut (by simpa [enc] using g1) rfl
                    have hlt : ((en c).length : Int) ≤ t.1.size := by
                      rw [size_of g1]
                      simp only [enc, List.length_append]
                      omega
                    obtain ⟨y, hy, hy2⟩ := m_some nc N (star :: ps') ds (t.1.extract ((en c).length : Int).toNat t.1.size) t.2.1 (by simp only [List.length_cons] at hlen ⊢; omega) (fun x hx => by
                      simp only [List.mem_cons] at hx
                      rcases hx with rfl | hx
                      · exact hq
                      · exact g4 x hx) hcs'.tail hcut g2 (ext_le _ _ (by omega)) hsz2
                    refine ⟨y, (((h1.and ht').and hx).and hy).succ fun k hk => ?_, hy2.iff ?_⟩
                    · rw [front k p1 hk.1.1.1, if_neg z1, hk.1.1.2]
                      simp only [Option.bind_some]
                      rw [if_pos e1, if_neg z2, if_neg z3, hk.1.2]
                      simp only [Option.bind_some]
                      rw [if_pos trivial, if_neg (size_cons g1), ess, if_pos hlt]
                      exact hk.2
                    · rw [h5, g5, M_star_cons]
                      exact ⟨fun h => h.resolve_left hm, .inr⟩
            · refine ⟨0, (h1.and ht').succ fun k hk => ?_, .inr ⟨rfl, fun h => g ((h5 cs).mp h)⟩⟩
              rw [front k p1 hk.1, if_neg z1, hk.2]
              simp only [Option.bind_some]
              rw [if_neg (by rw [e1]; simp)]
        · have hst : ((false, c2) : P) ≠ star := by simp [star, c42]
          cases cs with
          | nil => exact ⟨0, (Ev.ge 0).succ fun k _ => by rw [match_match0.m, if_neg hpz, hd, if_neg c63, if_neg c42, if_pos (size_nil hs)], .inr ⟨rfl, M_step_nil hst⟩⟩
          | cons c r =>
            have cr := sc_range hc.head
            obtain ⟨es, ess⟩ := sc_ss hc.head hs
            have hM : M nc ((false, c2) :: qs) (c :: r) ↔ lo nc c2 = lo nc c ∧ M nc qs r := by
              rw [M_step hst]
              unfold fit
              simp [c63]
            have open_ : ∀ k, match_match0.m (k + 1) s p nc = if lo nc c = lo nc c2 then match_match0.m k (s.extract ((en c).length : Int).toNat s.size) (p.extract ((en c2).length : Int).toNat p.size) nc else some 0 := fun k => by
              rw [match_match0.m, if_neg hpz, hd, if_neg c63, if_neg c42, if_neg (size_cons hs), if_neg n92, es, ess, low_eq' nc c cr.1 cr.2]
              simp only [Option.bind_some]
              rw [low_eq' nc c2 qr.1 qr.2]
              simp only [Option.bind_some]
            by_cases hf : lo nc c = lo nc c2
            · obtain ⟨x, hx, hx2⟩ := m_some nc N qs r (s.extract ((en c).length : Int).toNat s.size) (p.extract ((en c2).length : Int).toNat p.size) (by simp only [List.length_cons] at hN; omega) ho.tail hc.tail (bytes_cut (by simpa [enc] using hs) rfl) (bytes_cut hpb rfl) (ext_le _ _ hs1) (ext_le _ _ hp1)
              exact ⟨x, hx.succ fun k hk => by rw [open_, if_pos hf]; exact hk, hx2.iff (by rw [hM]; exact ⟨fun h => h.2, fun h => ⟨hf.symm, h⟩⟩)⟩
            · exact ⟨0, (Ev.ge 0).succ fun k _ => by rw [open_, if_neg hf], .inr ⟨rfl, fun h => hf (hM.mp h).1.symm⟩⟩

end Go.Proofs.YtdllbnecbbggfaaDoor.MtXFnMtWithin
