/- Proved: with a limit from 0 to 10^6, MatchLimit is not stopped at a pattern without a star, and reports whether the text is made of what the pattern's terms say (both in UTF-8 of at most 2^12 bytes, the pattern not ending with a backslash alone). -/
import Derived.Test.YtdllbnecbbggfaaDoorMtSpecFnMtUnlimited
import Derived.Test.YtdllbnecbbggfaaDoorMtNoStarFnMtUnlimited
namespace Go.Proofs.YtdllbnecbbggfaaDoor.Pure
open Go.RowKit Go.Proofs.YtdllbnecbbggfaaDoor Go.Proofs.YtdllbnecbbggfaaDoor.Base Go.Proofs.YtdllbnecbbggfaaDoor.Evs Go.Proofs.YtdllbnecbbggfaaDoor.Runes Go.Proofs.YtdllbnecbbggfaaDoor.Glob Go.Proofs.YtdllbnecbbggfaaDoor.MtXFnMtUnlimited Go.Proofs.YtdllbnecbbggfaaDoor.XFnMtUnlimited Go.Proofs.YtdllbnecbbggfaaDoorW.PrintWords Go.Proofs.YtdllbnecbbggfaaDoorW.PrintLast
set_option linter.unusedVariables false
set_option linter.unusedSimpArgs false

/-- No star among so many bytes from a place on. -/
def ns (p : ByteArray) : Nat → Int → Bool
  | 0, _ => true
  | m + 1, i => (bt p i != 42) && ns p m (i + 1)
def fin (k : Nat) (s p : ByteArray) (lim : Int) (fits g : Bool) : Option Bool :=
  if g = true then (if lim < 0 then (some true) else (if lim > 1000000 then (some true) else ((impl_MtLimit.f k s p lim).bind fun bt163 => (if bt163.2 = true then (some false) else (some (bt163.1 == fits)))))) else (some true)
theorem loop (s p : ByteArray) (hp : p.size ≤ 2147483647) (lim : Int) (fits : Bool) : ∀ (m : Nat) (i : Int) (g : Bool), 0 ≤ i → i + m = p.size → ∀ k, laws_FnMtUnlimited.l0 (k + 1 + m) s p lim fits g i = fin k s p lim fits (g && ns p m i)
  | 0, i, g, h0, hm, k => by
    rw [Nat.add_zero, laws_FnMtUnlimited.l0, if_neg (by omega)]
    unfold fin ns
    rw [Bool.and_true]
  | m + 1, i, g, h0, hm, k => by
    have ih := loop s p hp lim fits m (i + 1)
    rw [show k + 1 + (m + 1) = (k + 1 + m) + 1 by omega, laws_FnMtUnlimited.l0, if_pos (by omega), w64 (by omega) (by omega)]
    cases g with
    | true =>
      rw [if_pos rfl, if_pos h0, ih _ (by omega) (by omega) k]
      rfl
    | false =>
      rw [if_neg (by simp), ih _ (by omega) (by omega) k]
      rfl
theorem ns_all (p : ByteArray) : ∀ (m : Nat) (i : Int), ns p m i = true → ∀ j : Int, i ≤ j → j < i + m → bt p j ≠ 42
  | 0, i, h, j, h1, h2 => by omega
  | m + 1, i, h, j, h1, h2 => by
    rw [ns, Bool.and_eq_true] at h
    by_cases c : j = i
    · subst c
      exact bne_iff_ne.mp h.1
    · exact ns_all p m (i + 1) h.2 j (by omega) (by omega)
theorem star_in : ∀ {ps : List P}, star ∈ ps → (42 : Int) ∈ pen ps
  | p :: r, h => by
    rw [pen_cons]
    simp only [List.mem_cons] at h
    rcases h with h | h
    · rw [← h]
      exact List.mem_append_left _ (by decide)
    · exact List.mem_append_right _ (star_in h)
theorem FnMtUnlimited : laws_FnMtUnlimited.Pure := by
  intro s p lim hs hp _
  have J0 : ∀ b : Bool, b = true → laws_FnMtUnlimited.j0 1 s p lim b = some true := fun b hb => by rw [laws_FnMtUnlimited.j0, if_pos hb]
  by_cases c1 : (s.size : Int) > 2147483647
  · exact ⟨1, by unfold laws_FnMtUnlimited.f; rw [if_pos c1]; exact J0 true rfl⟩
  · by_cases c2 : (p.size : Int) > 2147483647
    · exact ⟨1, by unfold laws_FnMtUnlimited.f; rw [if_neg c1]; exact J0 _ (by simpa using c2)⟩
    · have start : ∀ k o, laws_mtTold.f (k + 1 + p.size) s p = some o → laws_FnMtUnlimited.f (k + 1 + p.size + 1) s p lim = fin k s p lim o.1 (o.2 && ns p p.size 0) := fun k o ho => by
        unfold laws_FnMtUnlimited.f
        rw [if_neg c1, laws_FnMtUnlimited.j0, if_neg (by simpa using c2), ho]
        simp only [Option.bind_some]
        exact loop s p (by omega) lim o.1 p.size 0 o.2 (by omega) (by omega) k
      have shift : ∀ {P : Nat → Prop}, Ev P → Ev fun k => P (k + 1 + p.size) := fun {P} ⟨K, h⟩ => ⟨K, fun k hk => h _ (by omega)⟩
      have bad : ∀ o : Bool × Bool, (Ev fun k => laws_mtTold.f k s p = some o) → (o.2 && ns p p.size 0) = false → ∃ k, laws_FnMtUnlimited.f k s p lim = some true := fun o ho hb => by
        obtain ⟨k, hk⟩ := (shift ho).ex
        exact ⟨_, by rw [start k o hk, hb]; rfl⟩
      by_cases c3 : (s.size : Int) > 4096
      · exact bad (false, false) (Ev.all fun k => by unfold laws_mtTold.f; rw [if_pos c3]) rfl
      · by_cases c4 : (p.size : Int) > 4096
        · exact bad (false, false) (Ev.all fun k => by unfold laws_mtTold.f; rw [if_neg c3, if_pos c4]) rfl
        · obtain ⟨o, ho, ho2⟩ := told_some s p (by omega) (by omega)
          have told : Ev fun k => laws_mtTold.f k s p = some o := ho.mp fun k hk => by
            unfold laws_mtTold.f
            rw [if_neg c3, if_neg c4, hk]
            rfl
          cases e : (o.2 && ns p p.size 0) with
          | false => exact bad o told e
          | true =>
            rw [Bool.and_eq_true] at e
            obtain ⟨cs, ps, h1, h2, h3, h4, h5⟩ := ho2 e.1
            have hno : ∀ x ∈ pen ps, x ≠ 42 := by
              intro x hx
              rw [← h4] at hx
              obtain ⟨i, hi, rfl⟩ := List.getElem_of_mem hx
              rw [bytesOf_length] at hi
              have := ns_all p p.size 0 e.2 i (by omega) (by omega)
              rw [← rd_bytesOf, rd_get _ _ (by rw [Int.toNat_natCast, bytesOf_length]; exact hi)] at this
              simpa using this
            have hns : ∀ q ∈ ps, q ≠ star := fun q hq hs => hno 42 (star_in (by rw [← hs]; exact hq)) rfl
            by_cases l1 : lim < 0
            · obtain ⟨k, hk⟩ := (shift told).ex
              refine ⟨_, by rw [start k o hk]; unfold fin; rw [if_pos (by rw [e.1, e.2]; rfl), if_pos l1]⟩
            · by_cases l2 : lim > 1000000
              · obtain ⟨k, hk⟩ := (shift told).ex
                refine ⟨_, by rw [start k o hk]; unfold fin; rw [if_pos (by rw [e.1, e.2]; rfl), if_neg l1, if_pos l2]⟩
              · obtain ⟨r, hr, hr2⟩ := m_some false _ ps cs s p (Nat.le_refl _) hns h2 h1 h3 h4 (by omega) (by omega)
                obtain ⟨k, hk1, hk2⟩ := ((shift told).and hr).ex
                refine ⟨_, by
                  rw [start k o hk1]
                  unfold fin impl_MtLimit.f match_MatchLimit.f match_matchLimit0.f
                  rw [if_pos (by rw [e.1, e.2]; rfl), if_neg l1, if_neg l2, if_pos ⟨by omega, by omega, by omega, fun h => hno 42 (by rw [← h4, h]; decide) rfl⟩, hk2]
                  simp only [Option.bind_some]
                  rw [if_pos (by rcases hr2 with ⟨h, _⟩ | ⟨h, _⟩ <;> omega)]
                  simp only [Option.bind_some]
                  rw [if_neg (by simp)]
                  congr 1
                  rw [beq_iff_eq, Bool.eq_iff_iff, h5, decide_eq_true_eq]
                  rcases hr2 with ⟨rfl, h⟩ | ⟨rfl, h⟩
                  · exact ⟨fun _ => h, fun _ => rfl⟩
                  · exact ⟨fun h => by omega, fun g => absurd g h⟩⟩

end Go.Proofs.YtdllbnecbbggfaaDoor.Pure
