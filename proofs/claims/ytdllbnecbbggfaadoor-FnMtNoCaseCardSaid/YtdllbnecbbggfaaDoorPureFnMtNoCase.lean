/- Proved: for every text and pattern in UTF-8 of at most 2^12 bytes, the pattern not ending with a backslash alone, MatchNoCase reports whether the text is made of what the pattern's terms say, capital letters of ASCII counting as small ones. -/
import Derived.Test.YtdllbnecbbggfaaDoorMtSpecFnMtNoCase
import Derived.Test.YtdllbnecbbggfaaDoorMtMatchFnMtNoCase
namespace Go.Proofs.YtdllbnecbbggfaaDoor.Pure
open Go.RowKit Go.Proofs.YtdllbnecbbggfaaDoor Go.Proofs.YtdllbnecbbggfaaDoor.Base Go.Proofs.YtdllbnecbbggfaaDoor.Evs Go.Proofs.YtdllbnecbbggfaaDoor.Runes Go.Proofs.YtdllbnecbbggfaaDoor.Glob Go.Proofs.YtdllbnecbbggfaaDoor.MtXFnMtNoCase Go.Proofs.YtdllbnecbbggfaaDoor.XFnMtNoCase Go.Proofs.YtdllbnecbbggfaaDoorW.PrintWords Go.Proofs.YtdllbnecbbggfaaDoorW.PrintLast
set_option linter.unusedVariables false
set_option linter.unusedSimpArgs false

theorem strOf_bytes (l : List Int) (h : ∀ x ∈ l, 0 ≤ x ∧ x ≤ 255) : bytesOf (strOfNums l) = l := by
  unfold bytesOf strOfNums
  simp only [List.map_map]
  conv => rhs; rw [← List.map_id l]
  refine List.map_congr_left fun x hx => ?_
  have := h x hx
  show ((UInt8.ofNat x.toNat).toNat : Int) = x
  rw [UInt8.toNat_ofNat']
  omega
theorem bytes_in (s : ByteArray) : ∀ x ∈ bytesOf s, 0 ≤ x ∧ x ≤ 255 := by
  intro x hx
  obtain ⟨i, hi, rfl⟩ := List.getElem_of_mem hx
  have := bytes_range s i
  rw [rd_get _ _ (by simpa using hi)] at this
  simpa using this
theorem small_bytes (s : ByteArray) : bytesOf (strOfNums ((bytesOf s).map (lo true))) = (bytesOf s).map (lo true) := by
  refine strOf_bytes _ fun x hx => ?_
  obtain ⟨y, hy, rfl⟩ := List.mem_map.mp hx
  have := bytes_in s y hy
  unfold lo
  split <;> omega
theorem small_f (s : ByteArray) (hs : s.size ≤ 140737488351232) : spec_Small.f s = some (strOfNums ((bytesOf s).map (lo true))) := by
  unfold spec_Small.f
  rw [if_pos hs]
theorem small_size (s : ByteArray) : (strOfNums ((bytesOf s).map (lo true))).size = s.size := by
  rw [← bytesOf_length, small_bytes, List.length_map, bytesOf_length]
theorem small_text {s : ByteArray} {d : List Int} (hd : Scs d) (h : bytesOf (strOfNums ((bytesOf s).map (lo true))) = enc d) : ∃ c, Scs c ∧ bytesOf s = enc c ∧ c.map (lo true) = d := by
  rw [small_bytes] at h
  obtain ⟨c, h1, h2, h3⟩ := lo_enc_inv true hd (fun x hx => (bytes_in s x hx).1) h
  exact ⟨c, h1, h2, h3⟩
theorem small_pattern {s : ByteArray} {qs : List P} (hq : okps qs) (h : bytesOf (strOfNums ((bytesOf s).map (lo true))) = pen qs) : ∃ ps, okps ps ∧ bytesOf s = pen ps ∧ ps.map (lop true) = qs := by
  obtain ⟨c, h1, h2, h3⟩ := small_text (scs_pcs hq) h
  obtain ⟨ps, h4, rfl⟩ := pcs_lo_inv h3
  exact ⟨ps, fun p hp => lop_ok (nc := true) (hq _ (by rw [← h4]; exact List.mem_map_of_mem hp)), h2, h4⟩
theorem FnMtNoCase : laws_FnMtNoCase.Pure := by
  intro s p hs hp
  have big : ∀ b : Bool, b = true → laws_FnMtNoCase.j0 1 s p b = some true := fun b hb => by rw [laws_FnMtNoCase.j0, if_pos hb]
  by_cases c1 : (s.size : Int) > 2147483647
  · exact ⟨1, by unfold laws_FnMtNoCase.f; rw [if_pos c1]; exact big true rfl⟩
  · by_cases c2 : (p.size : Int) > 2147483647
    · exact ⟨1, by unfold laws_FnMtNoCase.f; rw [if_neg c1]; exact big _ (by simpa using c2)⟩
    · have start : ∀ k, laws_FnMtNoCase.f (k + 1) s p = ((laws_mtTold.f k (strOfNums ((bytesOf s).map (lo true))) (strOfNums ((bytesOf p).map (lo true)))).bind fun bt167 => (if bt167.2 = true then ((impl_MtNoCase.f k s p).bind fun t169 => (some (t169 == bt167.1))) else (some true))) := fun k => by
        unfold laws_FnMtNoCase.f
        rw [if_neg c1, laws_FnMtNoCase.j0, if_neg (by simpa using c2), small_f s hs]
        simp only [Option.bind_some]
        rw [small_f p hp]
        simp only [Option.bind_some]
      by_cases c3 : (s.size : Int) > 4096
      · exact ⟨1, by rw [start 0]; unfold laws_mtTold.f; rw [if_pos (by rw [small_size]; exact c3)]; rfl⟩
      · by_cases c4 : (p.size : Int) > 4096
        · exact ⟨1, by rw [start 0]; unfold laws_mtTold.f; rw [if_neg (by rw [small_size]; exact c3), if_pos (by rw [small_size]; exact c4)]; rfl⟩
        · obtain ⟨o, ho, ho2⟩ := told_some (strOfNums ((bytesOf s).map (lo true))) (strOfNums ((bytesOf p).map (lo true))) (by rw [small_size]; omega) (by rw [small_size]; omega)
          have told : Ev fun k => laws_mtTold.f k (strOfNums ((bytesOf s).map (lo true))) (strOfNums ((bytesOf p).map (lo true))) = some o := ho.mp fun k hk => by
            unfold laws_mtTold.f
            rw [if_neg (by rw [small_size]; exact c3), if_neg (by rw [small_size]; exact c4), hk]
            rfl
          cases e : o.2 with
          | false =>
            obtain ⟨k, hk⟩ := told.ex
            exact ⟨k + 1, by rw [start, hk]; simp only [Option.bind_some]; rw [if_neg (by rw [e]; simp)]⟩
          | true =>
            obtain ⟨ds, qs, h1, h2, h3, h4, h5⟩ := ho2 e
            obtain ⟨cs, g1, g2, rfl⟩ := small_text h1 h3
            obtain ⟨ps, g3, g4, rfl⟩ := small_pattern h2 h4
            rw [M_lo] at h5
            have fin : ∃ b : Bool, (Ev fun k => match_match0.f k s p true = some b) ∧ (b = true ↔ M true ps cs) := by
              by_cases c5 : bytesOf p = [42]
              · refine ⟨true, Ev.all fun k => by unfold match_match0.f; rw [if_pos c5], fun _ => ?_, fun _ => rfl⟩
                have : ps = [star] := by
                  have e1 : pen ps = pen [star] := by rw [← g4, c5]; rfl
                  cases ps with
                  | nil => cases e1
                  | cons q r =>
                    obtain ⟨x, t, ex, hx⟩ := pen_head (r := r) g3.head
                    rw [ex] at e1
                    have hx42 : x = 42 := by simpa [pen, enc, pcs, pc, star] using (List.cons.inj e1).1
                    have hq := hx.mp hx42
                    subst hq
                    rw [pen_star] at ex
                    have ht : t = [] := (List.cons.inj e1).2
                    rw [ht] at ex
                    have : pen r = [] := (List.cons.inj ex).2
                    cases r with
                    | nil => rfl
                    | cons q2 r2 => exact absurd this pen_ne
                rw [this]
                exact M_star_only
              · obtain ⟨r, hr, hr2⟩ := m_some true (ps.length + cs.length) ps cs s p (Nat.le_refl _) g3 g1 g2 g4 (by omega) (by omega)
                refine ⟨decide (r = 1), hr.mp fun k hk => by unfold match_match0.f; rw [if_neg c5, hk]; rfl, ?_⟩
                rw [decide_eq_true_eq]
                rcases hr2 with ⟨rfl, h⟩ | ⟨rfl, h⟩
                · exact ⟨fun _ => h, fun _ => rfl⟩
                · exact ⟨fun h => by omega, fun g => absurd g h⟩
            obtain ⟨b, hb, hb2⟩ := fin
            obtain ⟨k, hk1, hk2⟩ := (told.and hb).ex
            refine ⟨k + 1, ?_⟩
            rw [start, hk1]
            simp only [Option.bind_some]
            rw [if_pos e]
            unfold impl_MtNoCase.f match_MatchNoCase.f
            rw [hk2]
            simp only [Option.bind_some, Option.some.injEq, beq_iff_eq]
            rw [Bool.eq_iff_iff, hb2, h5]

end Go.Proofs.YtdllbnecbbggfaaDoor.Pure
