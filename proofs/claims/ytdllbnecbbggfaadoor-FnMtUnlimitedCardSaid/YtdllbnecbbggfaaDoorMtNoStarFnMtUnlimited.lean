/- What match.match with a limit says of a text and a pattern in UTF-8 without a star: whether the text is what the terms say. -/
import Derived.Test.YtdllbnecbbggfaaDoorXFnMtUnlimitedx8
import Derived.Test.YtdllbnecbbggfaaDoorGlob
import Derived.Test.YtdllbnecbbggfaaDoorEvs
namespace Go.Proofs.YtdllbnecbbggfaaDoor.MtXFnMtUnlimited
open Go.RowKit Go.Proofs.YtdllbnecbbggfaaDoor Go.Proofs.YtdllbnecbbggfaaDoor.Base Go.Proofs.YtdllbnecbbggfaaDoor.Evs Go.Proofs.YtdllbnecbbggfaaDoor.Runes Go.Proofs.YtdllbnecbbggfaaDoor.Glob Go.Proofs.YtdllbnecbbggfaaDoor.XFnMtUnlimited Go.Proofs.YtdllbnecbbggfaaDoorW.PrintWords Go.Proofs.YtdllbnecbbggfaaDoorW.PrintLast
set_option linter.unusedVariables false
set_option linter.unusedSimpArgs false

theorem lower_eq (c : Int) (h0 : 0 ≤ c) (h1 : c ≤ 1114111) : match_tolower.f c = some (lo true c) := by
  unfold match_tolower.f lo
  by_cases a : c ≥ 65
  · rw [if_pos a]
    by_cases b : c ≤ 90
    · rw [if_pos b, if_pos ⟨rfl, a, b⟩]
      congr 1
      unfold wrap32
      omega
    · rw [if_neg b, if_neg (fun h => b h.2.2)]
  · rw [if_neg a, if_neg (fun h => a h.2.1)]
theorem low_eq' (nc : Bool) (c : Int) (h0 : 0 ≤ c) (h1 : c ≤ 1114111) : match_matchLimit0.low nc c = some (lo nc c) := by
  unfold match_matchLimit0.low
  cases nc with
  | true => rw [if_pos rfl]; exact lower_eq c h0 h1
  | false => rw [if_neg (by simp)]; unfold lo; simp
theorem sc_range {c : Int} (h : Sc c) : 0 ≤ c ∧ c ≤ 1114111 := by unfold Sc at h; omega
theorem dgo_en {s : ByteArray} {c : Int} {r : List Int} (hc : Sc c) (h : bytesOf s = en c ++ r) : dgo s = (c, ((en c).length : Int)) := by
  have := sc_range hc
  unfold dgo
  rw [dec_first hc h]
  exact Prod.ext (by simp only []; omega) rfl
theorem bytes_cut {s : ByteArray} {a r : List Int} {n : Int} (h : bytesOf s = a ++ r) (hn : n = a.length) : bytesOf (s.extract n.toNat s.size) = r := by
  rw [bytes_drop, h, hn, Int.toNat_natCast, List.drop_left]
theorem size_of {s : ByteArray} {l : List Int} (h : bytesOf s = l) : s.size = l.length := by rw [← bytesOf_length, h]

def Says (nc : Bool) (ps : List P) (cs : List Int) (r : Int) : Prop := (r = 1 ∧ M nc ps cs) ∨ (r = 0 ∧ ¬ M nc ps cs)
theorem Says.iff {nc : Bool} {ps qs : List P} {cs ds : List Int} {r : Int} (h : Says nc ps cs r) (e : M nc qs ds ↔ M nc ps cs) : Says nc qs ds r := by
  rcases h with ⟨h, g⟩ | ⟨h, g⟩
  · exact .inl ⟨h, e.mpr g⟩
  · exact .inr ⟨h, fun h => g (e.mp h)⟩
theorem size_nil {s : ByteArray} (h : bytesOf s = enc []) : s.size = 0 := size_of h
theorem size_cons {s : ByteArray} {c : Int} {r : List Int} (h : bytesOf s = enc (c :: r)) : s.size ≠ 0 := by
  have := en_pos c
  rw [size_of h]
  simp only [enc, List.length_append]
  omega
theorem sc_ss {s : ByteArray} {c : Int} {r : List Int} (hc : Sc c) (h : bytesOf s = enc (c :: r)) : match_matchLimit0.sc s = c ∧ match_matchLimit0.ss s = ((en c).length : Int) := by
  unfold match_matchLimit0.sc match_matchLimit0.ss
  rw [if_neg (size_cons h), if_neg (size_cons h), dgo_en hc (by simpa [enc] using h)]
  exact ⟨rfl, rfl⟩
theorem ext_le (s : ByteArray) (n : Nat) (hs : s.size ≤ 1000000) : (s.extract n s.size).size ≤ 1000000 := by rw [ByteArray.size_extract]; omega
theorem m_some (nc : Bool) : ∀ (N : Nat) (ps : List P) (cs : List Int) (s p : ByteArray), ps.length + cs.length ≤ N → (∀ p ∈ ps, p ≠ star) → okps ps → Scs cs → bytesOf s = enc cs → bytesOf p = pen ps → s.size ≤ 1000000 → p.size ≤ 1000000 →
    ∃ r, (Ev fun k => match_matchLimit0.m k s p nc = some r) ∧ Says nc ps cs r
  | N, [], cs, s, p, hN, hns, ho, hc, hs, hp, hs1, hp1 => by
    have hz : p.size = 0 := size_of hp
    cases cs with
    | nil => exact ⟨1, (Ev.ge 0).succ fun k _ => by rw [match_matchLimit0.m, if_pos hz, if_pos (size_nil hs)], .inl ⟨rfl, rfl⟩⟩
    | cons c r => exact ⟨0, (Ev.ge 0).succ fun k _ => by rw [match_matchLimit0.m, if_pos hz, if_neg (size_cons hs)], .inr ⟨rfl, fun h => by cases h⟩⟩
  | 0, q :: qs, cs, s, p, hN, hns, ho, hc, hs, hp, hs1, hp1 => by simp at hN
  | N + 1, q :: qs, cs, s, p, hN, hns, ho, hc, hs, hp, hs1, hp1 => by
    have hpz : p.size ≠ 0 := by
      have := pen_len_ge (q :: qs)
      rw [size_of hp]
      simp only [List.length_cons] at this
      omega
    have hq := ho.head
    simp only [List.length_cons] at hN
    obtain ⟨b, c2⟩ := q
    have qr := sc_range hq.1
    cases b with
    | true =>
      have hst : ((true, c2) : P) ≠ star := by simp [star]
      have hpb : bytesOf p = en 92 ++ (en c2 ++ pen qs) := by rw [hp, pen_cons, if_pos rfl]; rfl
      have hd := dgo_en sc92 hpb
      have e1 : ((en 92).length : Int) = 1 := rfl
      rw [e1] at hd
      have hq2 : bytesOf (p.extract (1 : Int).toNat p.size) = en c2 ++ pen qs := bytes_cut hpb rfl
      have hd2 := dgo_en hq.1 hq2
      have hz2 : (p.extract (1 : Int).toNat p.size).size ≠ 0 := by
        rw [size_of hq2, List.length_append]
        have := en_pos c2
        omega
      cases cs with
      | nil => exact ⟨0, (Ev.ge 0).succ fun k _ => by rw [match_matchLimit0.m, if_neg hpz, hd, if_neg (by decide), if_neg (by decide), if_pos (size_nil hs)], .inr ⟨rfl, M_step_nil hst⟩⟩
      | cons c r =>
        have cr := sc_range hc.head
        obtain ⟨es, ess⟩ := sc_ss hc.head hs
        have hM : M nc ((true, c2) :: qs) (c :: r) ↔ lo nc c2 = lo nc c ∧ M nc qs r := by
          rw [M_step hst]
          unfold fit
          simp
        have open_ : ∀ k, match_matchLimit0.m (k + 1) s p nc = if lo nc c = lo nc c2 then match_matchLimit0.m k (s.extract ((en c).length : Int).toNat s.size) ((p.extract (1 : Int).toNat p.size).extract ((en c2).length : Int).toNat (p.extract (1 : Int).toNat p.size).size) nc else some 0 := fun k => by
          rw [match_matchLimit0.m, if_neg hpz, hd, if_neg (by decide), if_neg (by decide), if_neg (size_cons hs), if_pos rfl]
          simp only []
          rw [if_neg hz2, es, ess, hd2, low_eq' nc c cr.1 cr.2]
          simp only [Option.bind_some]
          rw [low_eq' nc c2 qr.1 qr.2]
          simp only [Option.bind_some]
        by_cases hf : lo nc c = lo nc c2
        · obtain ⟨x, hx, hx2⟩ := m_some nc N qs r (s.extract ((en c).length : Int).toNat s.size) ((p.extract (1 : Int).toNat p.size).extract ((en c2).length : Int).toNat (p.extract (1 : Int).toNat p.size).size) (by simp only [List.length_cons] at hN; omega) (fun x hx => hns x (List.mem_cons_of_mem _ hx)) ho.tail hc.tail (bytes_cut (by simpa [enc] using hs) rfl) (bytes_cut hq2 rfl) (ext_le _ _ hs1) (ext_le _ _ (ext_le _ _ hp1))
          exact ⟨x, hx.succ fun k hk => by rw [open_, if_pos hf]; exact hk, hx2.iff (by rw [hM]; exact ⟨fun h => h.2, fun h => ⟨hf.symm, h⟩⟩)⟩
        · exact ⟨0, (Ev.ge 0).succ fun k _ => by rw [open_, if_neg hf], .inr ⟨rfl, fun h => hf (hM.mp h).1.symm⟩⟩
    | false =>
      have hpb : bytesOf p = en c2 ++ pen qs := by rw [hp, pen_cons, if_neg (by simp)]
      have hd := dgo_en hq.1 hpb
      have n92 : c2 ≠ 92 := hq.2 rfl
      by_cases c63 : c2 = 63
      · subst c63
        have hst : ((false, 63) : P) ≠ star := by simp [star]
        cases cs with
        | nil => exact ⟨0, (Ev.ge 0).succ fun k _ => by rw [match_matchLimit0.m, if_neg hpz, hd, if_pos rfl, if_pos (size_nil hs)], .inr ⟨rfl, M_step_nil hst⟩⟩
        | cons c r =>
          obtain ⟨es, ess⟩ := sc_ss hc.head hs
          obtain ⟨x, hx, hx2⟩ := m_some nc N qs r (s.extract ((en c).length : Int).toNat s.size) (p.extract ((en 63).length : Int).toNat p.size) (by simp only [List.length_cons] at hN; omega) (fun x hx => hns x (List.mem_cons_of_mem _ hx)) ho.tail hc.tail (bytes_cut (by simpa [enc] using hs) rfl) (bytes_cut hpb rfl) (ext_le _ _ hs1) (ext_le _ _ hp1)
          refine ⟨x, hx.succ fun k hk => ?_, hx2.iff ?_⟩
          · rw [match_matchLimit0.m, if_neg hpz, hd, if_pos rfl, if_neg (size_cons hs), ess]
            exact hk
          · rw [M_step hst]
            exact ⟨fun h => h.2, fun h => ⟨.inl rfl, h⟩⟩
      · have c42 : c2 ≠ 42 := fun h => hns _ (List.mem_cons_self ..) (by rw [h]; rfl)
        have hst : ((false, c2) : P) ≠ star := by simp [star, c42]
        cases cs with
        | nil => exact ⟨0, (Ev.ge 0).succ fun k _ => by rw [match_matchLimit0.m, if_neg hpz, hd, if_neg c63, if_neg c42, if_pos (size_nil hs)], .inr ⟨rfl, M_step_nil hst⟩⟩
        | cons c r =>
          have cr := sc_range hc.head
          obtain ⟨es, ess⟩ := sc_ss hc.head hs
          have hM : M nc ((false, c2) :: qs) (c :: r) ↔ lo nc c2 = lo nc c ∧ M nc qs r := by
            rw [M_step hst]
            unfold fit
            simp [c63]
          have open_ : ∀ k, match_matchLimit0.m (k + 1) s p nc = if lo nc c = lo nc c2 then match_matchLimit0.m k (s.extract ((en c).length : Int).toNat s.size) (p.extract ((en c2).length : Int).toNat p.size) nc else some 0 := fun k => by
            rw [match_matchLimit0.m, if_neg hpz, hd, if_neg c63, if_neg c42, if_neg (size_cons hs), if_neg n92, es, ess, low_eq' nc c cr.1 cr.2]
            simp only [Option.bind_some]
            rw [low_eq' nc c2 qr.1 qr.2]
            simp only [Option.bind_some]
          by_cases hf : lo nc c = lo nc c2
          · obtain ⟨x, hx, hx2⟩ := m_some nc N qs r (s.extract ((en c).length : Int).toNat s.size) (p.extract ((en c2).length : Int).toNat p.size) (by simp only [List.length_cons] at hN; omega) (fun x hx => hns x (List.mem_cons_of_mem _ hx)) ho.tail hc.tail (bytes_cut (by simpa [enc] using hs) rfl) (bytes_cut hpb rfl) (ext_le _ _ hs1) (ext_le _ _ hp1)
            exact ⟨x, hx.succ fun k hk => by rw [open_, if_pos hf]; exact hk, hx2.iff (by rw [hM]; exact ⟨fun h => h.2, fun h => ⟨hf.symm, h⟩⟩)⟩
          · exact ⟨0, (Ev.ge 0).succ fun k _ => by rw [open_, if_neg hf], .inr ⟨rfl, fun h => hf (hM.mp h).1.symm⟩⟩

end Go.Proofs.YtdllbnecbbggfaaDoor.MtXFnMtUnlimited
