/- The reference's Characters, Globs and Fits: what they say of texts, patterns, characters. -/
import Derived.Test.YtdllbnecbbggfaaDoorXFnMtUnlimitedx8
import Derived.Test.YtdllbnecbbggfaaDoorSpecCharFnMtUnlimited
import Derived.Test.YtdllbnecbbggfaaDoorGlob
import Derived.Test.YtdllbnecbbggfaaDoorEvs
namespace Go.Proofs.YtdllbnecbbggfaaDoor.MtXFnMtUnlimited
open Go.RowKit Go.Proofs.YtdllbnecbbggfaaDoor Go.Proofs.YtdllbnecbbggfaaDoor.Base Go.Proofs.YtdllbnecbbggfaaDoor.Evs Go.Proofs.YtdllbnecbbggfaaDoor.Runes Go.Proofs.YtdllbnecbbggfaaDoor.Glob Go.Proofs.YtdllbnecbbggfaaDoor.ChrXFnMtUnlimited Go.Proofs.YtdllbnecbbggfaaDoor.XFnMtUnlimited Go.Proofs.YtdllbnecbbggfaaDoorW.PrintWords Go.Proofs.YtdllbnecbbggfaaDoorW.PrintLast
set_option linter.unusedVariables false
set_option linter.unusedSimpArgs false

theorem char_ev (s : ByteArray) (hs : s.size ≤ 4294967296) (i : Int) (h0 : 0 ≤ i) (h1 : i < s.size) :
    (Ev fun k => spec_Character.f k s i = some (65533, 1, false)) ∨ ∃ c r, (Ev fun k => spec_Character.f k s i = some (c, ((en c).length : Int), true)) ∧ Sc c ∧ (bytesOf s).drop i.toNat = en c ++ r := by
  rcases char_ans 9 (Nat.le_refl _) s hs i h0 h1 with h | ⟨c, r, h, hc, hr⟩
  · exact .inl (Ev.of (f := fun k => spec_Character.f k s i) (fun k => spec_Character.mono s i k) h)
  · exact .inr ⟨c, r, Ev.of (f := fun k => spec_Character.f k s i) (fun k => spec_Character.mono s i k) h, hc, hr⟩
theorem drop_more {s : ByteArray} {i : Int} {a r : List Int} (h0 : 0 ≤ i) (h : (bytesOf s).drop i.toNat = a ++ r) : (bytesOf s).drop (i + a.length).toNat = r := by
  rw [show (i + (a.length : Int)).toNat = i.toNat + a.length by omega, ← List.drop_drop, h, List.drop_left]
theorem drop_len {s : ByteArray} {i : Int} {a r : List Int} (h0 : 0 ≤ i) (h1 : i < s.size) (h : (bytesOf s).drop i.toNat = a ++ r) : i + a.length ≤ s.size := by
  have := congrArg List.length h
  rw [List.length_drop, bytesOf_length, List.length_append] at this
  omega
theorem drop_end {s : ByteArray} {i : Int} (h : s.size ≤ i) : (bytesOf s).drop i.toNat = [] := List.drop_eq_nil_of_le (by rw [bytesOf_length]; omega)

theorem chars_from (s : ByteArray) (hs : s.size ≤ 1000000) : ∀ (m : Nat) (i : Int) (acc : List Int), 0 ≤ i → acc.length ≤ i → i ≤ s.size → (s.size : Int) - i ≤ m →
    ∃ o : List Int × Bool, (Ev fun k => spec_Characters.l0 k s acc i = some o) ∧ (o.2 = true → ∃ cs, o.1 = acc ++ cs ∧ Scs cs ∧ (bytesOf s).drop i.toNat = enc cs)
  | m, i, acc, h0, ha, hi, hm => by
    by_cases c : i < s.size
    · cases m with
      | zero => omega
      | succ m =>
      rcases char_ev s (by omega) i h0 c with h | ⟨ch, r, h, hc, hr⟩
      · refine ⟨([], false), h.succ fun k hk => ?_, fun e => by cases e⟩
        rw [spec_Characters.l0, if_pos c, hk]
        simp
      · have hl := drop_len h0 c hr
        have hp := en_pos ch
        obtain ⟨o, ho, ho2⟩ := chars_from s hs m (i + (en ch).length) (acc ++ [ch]) (by omega) (by simp; omega) hl (by omega)
        refine ⟨o, (h.and ho).succ fun k hk => ?_, fun e => ?_⟩
        · rw [spec_Characters.l0, if_pos c, hk.1]
          simp only [Option.bind_some, if_true]
          rw [if_pos (by omega), w64 (by omega) (by omega)]
          exact hk.2
        · obtain ⟨cs, h1, h2, h3⟩ := ho2 e
          refine ⟨ch :: cs, by rw [h1, List.append_assoc]; rfl, ?_, ?_⟩
          · intro x hx
            simp only [List.mem_cons] at hx
            rcases hx with rfl | hx
            · exact hc
            · exact h2 x hx
          · rw [hr, ← drop_more h0 hr, h3]
            rfl
    · refine ⟨(acc, true), (Ev.ge 0).succ fun k _ => by rw [spec_Characters.l0, if_neg c], fun _ => ⟨[], by simp, fun x hx => by simp at hx, ?_⟩⟩
      exact drop_end (by omega)
theorem chars_some (s : ByteArray) (hs : s.size ≤ 1000000) : ∃ o : List Int × Bool, (Ev fun k => spec_Characters.f k s = some o) ∧ (o.2 = true → Scs o.1 ∧ bytesOf s = enc o.1) := by
  obtain ⟨o, ho, ho2⟩ := chars_from s hs s.size 0 [] (by omega) (by simp) (by omega) (by omega)
  refine ⟨o, ho, fun e => ?_⟩
  obtain ⟨cs, h1, h2, h3⟩ := ho2 e
  rw [h1, List.nil_append]
  exact ⟨h2, by simpa using h3⟩

/-! ### patterns -/
def term (p : P) : S97 := if p = star then ⟨true, false, 0⟩ else if p = (false, 63) then ⟨false, true, 0⟩ else ⟨false, false, p.2⟩
theorem okps_cons {p : P} {ps : List P} (h : okp p) (g : okps ps) : okps (p :: ps) := by
  intro x hx
  simp only [List.mem_cons] at hx
  rcases hx with rfl | hx
  · exact h
  · exact g x hx
theorem globs_from (s : ByteArray) (hs : s.size ≤ 1000000) : ∀ (m : Nat) (i : Int) (acc : List S97), 0 ≤ i → acc.length ≤ i → i ≤ s.size → (s.size : Int) - i ≤ m →
    ∃ o : List S97 × Bool, (Ev fun k => spec_Globs.l0 k s acc i = some o) ∧ (o.2 = true → ∃ ps, o.1 = acc ++ ps.map term ∧ okps ps ∧ (bytesOf s).drop i.toNat = pen ps)
  | m, i, acc, h0, ha, hi, hm => by
    by_cases c : i < s.size
    · cases m with
      | zero => omega
      | succ m =>
      rcases char_ev s (by omega) i h0 c with h | ⟨ch, r, h, hc, hr⟩
      · refine ⟨([], false), h.succ fun k hk => ?_, fun e => by cases e⟩
        rw [spec_Globs.l0, if_pos c, hk]
        simp
      · have hl := drop_len h0 c hr
        have hp := en_pos ch
        by_cases c92 : ch = 92
        · subst c92
          have e1 : ((en 92).length : Int) = 1 := rfl
          rw [e1] at h
          by_cases cend : i + 1 = s.size
          · refine ⟨([], false), h.succ fun k hk => ?_, fun e => by cases e⟩
            rw [spec_Globs.l0, if_pos c, hk]
            simp only [Option.bind_some, if_true]
            rw [if_neg (by decide), if_neg (by decide), w64 (by omega) (by omega), if_pos cend]
          · rcases char_ev s (by omega) (i + 1) (by omega) (by omega) with g | ⟨c2, r2, g, hc2, hr2⟩
            · refine ⟨([], false), (h.and g).succ fun k hk => ?_, fun e => by cases e⟩
              rw [spec_Globs.l0, if_pos c, hk.1]
              simp only [Option.bind_some, if_true]
              rw [if_neg (by decide), if_neg (by decide), w64 (by omega) (by omega), if_neg cend, hk.2]
              simp
            · have hl2 := drop_len (by omega) (by omega) hr2
              have hp2 := en_pos c2
              obtain ⟨o, ho, ho2⟩ := globs_from s hs m (i + 1 + (en c2).length) (acc ++ [⟨false, false, c2⟩]) (by omega) (by simp; omega) hl2 (by omega)
              refine ⟨o, ((h.and g).and ho).succ fun k hk => ?_, fun e => ?_⟩
              · rw [spec_Globs.l0, if_pos c, hk.1.1]
                simp only [Option.bind_some, if_true]
                rw [if_neg (by decide), if_neg (by decide), w64 (i := i + 1) (by omega) (by omega), if_neg cend, hk.1.2]
                simp only [Option.bind_some, if_true]
                rw [if_pos (by omega), w64 (by omega) (by omega)]
                exact hk.2
              · obtain ⟨ps, h1, h2, h3⟩ := ho2 e
                refine ⟨(true, c2) :: ps, ?_, okps_cons ⟨hc2, fun h => by cases h⟩ h2, ?_⟩
                · rw [h1, List.append_assoc]
                  rfl
                · have hd1 := drop_more h0 hr
                  rw [e1] at hd1
                  rw [pen_cons, if_pos rfl, hr, ← hd1, hr2, ← drop_more (by omega) hr2, h3]
                  rfl
        · have fin : ∀ t : S97, t = term (false, ch) → (∀ k acc', spec_Character.f k s i = some (ch, ((en ch).length : Int), true) → acc'.length ≤ i → spec_Globs.l0 (k + 1) s acc' i = spec_Globs.l0 k s (acc' ++ [t]) (i + (en ch).length)) →
              ∃ o : List S97 × Bool, (Ev fun k => spec_Globs.l0 k s acc i = some o) ∧ (o.2 = true → ∃ ps, o.1 = acc ++ ps.map term ∧ okps ps ∧ (bytesOf s).drop i.toNat = pen ps) := by
            intro t ht hstep
            obtain ⟨o, ho, ho2⟩ := globs_from s hs m (i + (en ch).length) (acc ++ [t]) (by omega) (by simp; omega) hl (by omega)
            refine ⟨o, (h.and ho).succ fun k hk => ?_, fun e => ?_⟩
            · rw [hstep k acc hk.1 ha]
              exact hk.2
            · obtain ⟨ps, h1, h2, h3⟩ := ho2 e
              refine ⟨(false, ch) :: ps, ?_, okps_cons ⟨hc, fun _ => c92⟩ h2, ?_⟩
              · rw [h1, List.append_assoc, ht]
                rfl
              · rw [pen_cons, if_neg (by simp), hr, ← drop_more h0 hr, h3]
          by_cases c42 : ch = 42
          · refine fin ⟨true, false, 0⟩ (by subst c42; rfl) fun k acc' hk ha' => ?_
            rw [spec_Globs.l0, if_pos c, hk]
            simp only [Option.bind_some, if_true]
            rw [if_pos c42, if_pos (by omega), w64 (by omega) (by omega)]
          · by_cases c63 : ch = 63
            · refine fin ⟨false, true, 0⟩ (by subst c63; rfl) fun k acc' hk ha' => ?_
              rw [spec_Globs.l0, if_pos c, hk]
              simp only [Option.bind_some, if_true]
              rw [if_neg c42, if_pos c63, if_pos (by omega), w64 (by omega) (by omega)]
            · refine fin ⟨false, false, ch⟩ (by unfold term star; rw [if_neg (by simp [c42]), if_neg (by simp [c63])]) fun k acc' hk ha' => ?_
              rw [spec_Globs.l0, if_pos c, hk]
              simp only [Option.bind_some, if_true]
              rw [if_neg c42, if_neg c63, if_neg c92, if_pos (by omega), w64 (by omega) (by omega)]
    · refine ⟨(acc, true), (Ev.ge 0).succ fun k _ => by rw [spec_Globs.l0, if_neg c], fun _ => ⟨[], by simp, fun x hx => by simp at hx, ?_⟩⟩
      exact drop_end (by omega)
theorem globs_some (s : ByteArray) (hs : s.size ≤ 1000000) : ∃ o : List S97 × Bool, (Ev fun k => spec_Globs.f k s = some o) ∧ (o.2 = true → ∃ ps, o.1 = ps.map term ∧ okps ps ∧ bytesOf s = pen ps) := by
  obtain ⟨o, ho, ho2⟩ := globs_from s hs s.size 0 [] (by omega) (by simp) (by omega) (by omega)
  refine ⟨o, ho, fun e => ?_⟩
  obtain ⟨ps, h1, h2, h3⟩ := ho2 e
  exact ⟨ps, by rw [h1, List.nil_append], h2, by simpa using h3⟩

/-! ### Fits -/
/-- The places that are reached behind terms. -/
def Reach (ps : List P) (cs : List Int) (l : List Bool) : Prop := l.length = cs.length + 1 ∧ ∀ i, i ≤ cs.length → (l.getD i false = true ↔ M false ps (cs.take i))
/-- .. as far as they have been told. -/
def Part (ps : List P) (cs : List Int) (l : List Bool) (n : Nat) : Prop := l.length = cs.length + 1 ∧ (∀ i, i < n → i ≤ cs.length → (l.getD i false = true ↔ M false ps (cs.take i))) ∧ ∀ i, n ≤ i → l.getD i false = false
theorem rdOf_nat (l : List Bool) (i : Nat) : rdOf false l (i : Int) = l.getD i false := by unfold rdOf; rw [Int.toNat_natCast]
theorem take_snoc' (cs : List Int) (i : Nat) (h : i < cs.length) : cs.take (i + 1) = cs.take i ++ [rd cs (i : Int)] := by
  rw [List.take_succ_eq_append_getElem h, rd_get _ _ (by omega)]
  rfl
theorem M_snoc_star {nc : Bool} {ps : List P} {cs : List Int} {c : Int} : M nc (ps ++ [star]) (cs ++ [c]) ↔ M nc ps (cs ++ [c]) ∨ M nc (ps ++ [star]) cs := by
  rw [M_last_star, M_last_star]
  constructor
  · rintro ⟨a, b, e, h⟩
    by_cases hb : b = []
    · subst hb
      left
      rw [e, List.append_nil]
      exact h
    · right
      obtain ⟨b', y, rfl⟩ : ∃ b' y, b = b' ++ [y] := ⟨b.dropLast, b.getLast hb, (List.dropLast_concat_getLast hb).symm⟩
      rw [← List.append_assoc] at e
      obtain ⟨e1, _⟩ := List.append_inj' e rfl
      exact ⟨a, b', e1, h⟩
  · rintro (h | ⟨a, b, e, h⟩)
    · exact ⟨cs ++ [c], [], by simp, h⟩
    · exact ⟨a, b ++ [c], by rw [e, List.append_assoc], h⟩
theorem M_snoc_star_nil {nc : Bool} {ps : List P} : M nc (ps ++ [star]) [] ↔ M nc ps [] := by
  rw [M_last_star]
  constructor
  · rintro ⟨a, b, e, h⟩
    rw [(List.append_eq_nil_iff.mp e.symm).1] at h
    exact h
  · intro h; exact ⟨[], [], rfl, h⟩
theorem getD_set (l : List Bool) (i j : Nat) (b : Bool) (h : i < l.length) : (l.set i b).getD j false = if i = j then b else l.getD j false := by
  rw [List.getD_eq_getElem?_getD, List.getD_eq_getElem?_getD, List.getElem?_set]
  by_cases c : i = j
  · subst c
    rw [if_pos rfl, if_pos h, if_pos rfl]
    rfl
  · rw [if_neg c, if_neg c]
theorem Part.set {ps : List P} {cs : List Int} {l : List Bool} {n : Nat} (h : Part ps cs l n) (hn : n ≤ cs.length) (b : Bool) (hb : b = true ↔ M false ps (cs.take n)) : Part ps cs (l.set n b) (n + 1) := by
  obtain ⟨h1, h2, h3⟩ := h
  refine ⟨by rw [List.length_set]; exact h1, fun i hi hc => ?_, fun i hi => ?_⟩
  · rw [getD_set _ _ _ _ (by omega)]
    by_cases c : n = i
    · rw [if_pos c, ← c]; exact hb
    · rw [if_neg c]; exact h2 i (by omega) hc
  · rw [getD_set _ _ _ _ (by omega), if_neg (by omega)]
    exact h3 i (by omega)
theorem Part.skip {ps : List P} {cs : List Int} {l : List Bool} {n : Nat} (h : Part ps cs l n) (hb : ¬ M false ps (cs.take n)) : Part ps cs l (n + 1) := by
  obtain ⟨h1, h2, h3⟩ := h
  refine ⟨h1, fun i hi hc => ?_, fun i hi => h3 i (by omega)⟩
  by_cases c : n = i
  · rw [← c, h3 n (Nat.le_refl _)]
    constructor
    · intro h; cases h
    · intro h; exact absurd h hb
  · exact h2 i (by omega) hc
theorem term_star : term star = ⟨true, false, 0⟩ := rfl
theorem term_one : term (false, 63) = ⟨false, true, 0⟩ := rfl
theorem fit_false {p : P} {c : Int} : fit false p c ↔ p = (false, 63) ∨ p.2 = c := by
  unfold fit lo
  simp
/-- One term more. -/
theorem fits_row (cs : List Int) (hc : cs.length ≤ 1000000) (ps : List P) (p : P) (reached : List Bool) (hr : Reach ps cs reached) (ts : List S97) (n j : Int) :
    ∀ (m i : Nat) (next : List Bool), cs.length + 1 - i ≤ m → i ≤ cs.length + 1 → Part (ps ++ [p]) cs next i →
    ∃ next', Reach (ps ++ [p]) cs next' ∧ ∀ r, (Ev fun k => spec_Fits.l0 k cs next' ts n (wrap64 (j + 1)) = some r) → Ev fun k => spec_Fits.l1 k cs reached next (i : Int) ts n j (term p).f0 (term p).f1 (term p).f2 = some r
  | m, i, next, hm, hi, hp => by
    by_cases c : i ≤ cs.length
    · cases m with
      | zero => omega
      | succ m =>
      have step : ∀ next2, Part (ps ++ [p]) cs next2 (i + 1) → (∀ k, spec_Fits.l1 (k + 1) cs reached next (i : Int) ts n j (term p).f0 (term p).f1 (term p).f2 = spec_Fits.l1 k cs reached next2 ((i + 1 : Nat) : Int) ts n j (term p).f0 (term p).f1 (term p).f2) →
          ∃ next', Reach (ps ++ [p]) cs next' ∧ ∀ r, (Ev fun k => spec_Fits.l0 k cs next' ts n (wrap64 (j + 1)) = some r) → Ev fun k => spec_Fits.l1 k cs reached next (i : Int) ts n j (term p).f0 (term p).f1 (term p).f2 = some r := by
        intro next2 hp2 hs
        obtain ⟨nx, h1, h2⟩ := fits_row cs hc ps p reached hr ts n j m (i + 1) next2 (by omega) (by omega) hp2
        exact ⟨nx, h1, fun r hr => (h2 r hr).succ fun k hk => by rw [hs k]; exact hk⟩
      have wi : wrap64 ((i : Int) + 1) = ((i + 1 : Nat) : Int) := by rw [w64 (by omega) (by omega)]; rfl
      have hlr := hr.1
      have hln := hp.1
      have hri := hr.2 i c
      by_cases s1 : p = star
      · subst s1
        rw [term_star] at step ⊢
        by_cases c1 : reached.getD i false = true
        · refine step (next.set i true) (hp.set c true ?_) fun k => ?_
          · have : M false ps (cs.take i) := hri.mp c1
            exact ⟨fun _ => M_last_star.mpr ⟨cs.take i, [], by simp, this⟩, fun _ => rfl⟩
          · rw [spec_Fits.l1, if_pos (by omega), if_pos rfl, if_pos (by omega), if_pos (by omega), rdOf_nat, if_pos c1, if_pos (by omega), wi]
            rfl
        · have nm : ¬ M false ps (cs.take i) := fun h => c1 (hri.mpr h)
          by_cases c2 : i = 0
          · refine step (next.set i false) (hp.set c false ?_) fun k => ?_
            · subst c2
              rw [List.take_zero, M_snoc_star_nil]
              constructor
              · intro h; cases h
              · intro h; exact absurd h nm
            · rw [spec_Fits.l1, if_pos (by omega), if_pos rfl, if_pos (by omega), if_pos (by omega), rdOf_nat, if_neg c1, if_neg (by omega), if_pos (by omega), wi]
              rfl
          · obtain ⟨i', rfl⟩ : ∃ i', i = i' + 1 := ⟨i - 1, by omega⟩
            have wm : wrap64 (((i' + 1 : Nat) : Int) - 1) = (i' : Int) := by rw [w64i (by omega) (by omega)]; omega
            refine step (next.set (i' + 1) (next.getD i' false)) (hp.set c _ ?_) fun k => ?_
            · rw [take_snoc' cs i' (by omega), M_snoc_star, ← take_snoc' cs i' (by omega), hp.2.1 i' (by omega) (by omega)]
              exact ⟨fun h => .inr h, fun h => h.resolve_left nm⟩
            · rw [spec_Fits.l1, if_pos (by omega), if_pos rfl, if_pos (by omega), if_pos (by omega), rdOf_nat, if_neg c1, if_pos (by omega), wm, if_pos (by omega), if_pos (by omega), if_pos (by omega), rdOf_nat, wi]
              rfl
      · have f0 : (term p).f0 = false := by unfold term; rw [if_neg s1]; split <;> rfl
        rw [f0] at step ⊢
        by_cases c2 : i = 0
        · refine step next (hp.skip ?_) fun k => ?_
          · subst c2
            rw [List.take_zero]
            exact M_last_ne s1
          · rw [spec_Fits.l1, if_pos (by omega), if_neg (by simp), if_neg (by omega), wi]
        · obtain ⟨i', rfl⟩ : ∃ i', i = i' + 1 := ⟨i - 1, by omega⟩
          have wm : wrap64 (((i' + 1 : Nat) : Int) - 1) = (i' : Int) := by rw [w64i (by omega) (by omega)]; omega
          have hml : M false (ps ++ [p]) (cs.take (i' + 1)) ↔ fit false p (rd cs (i' : Int)) ∧ M false ps (cs.take i') := by
            rw [take_snoc' cs i' (by omega)]
            exact M_last s1
          have hri' := hr.2 i' (by omega)
          by_cases c1 : reached.getD i' false = true
          · by_cases s2 : p = (false, 63)
            · have f1 : (term p).f1 = true := by rw [s2]; rfl
              rw [f1] at step ⊢
              refine step (next.set (i' + 1) true) (hp.set c true ?_) fun k => ?_
              · rw [hml]
                exact ⟨fun _ => ⟨fit_false.mpr (.inl s2), hri'.mp c1⟩, fun _ => rfl⟩
              · rw [spec_Fits.l1, if_pos (by omega), if_neg (by simp), if_pos (by omega), wm, if_pos (by omega), if_pos (by omega), rdOf_nat, if_pos c1, if_pos rfl, if_pos (by omega), if_pos (by omega), wi]
                rfl
            · have f1 : (term p).f1 = false := by unfold term; rw [if_neg s1, if_neg s2]
              have f2 : (term p).f2 = p.2 := by unfold term; rw [if_neg s1, if_neg s2]
              rw [f1, f2] at step ⊢
              refine step (next.set (i' + 1) (p.2 == rd cs (i' : Int))) (hp.set c _ ?_) fun k => ?_
              · rw [hml, fit_false, beq_iff_eq]
                constructor
                · intro h; exact ⟨.inr h, hri'.mp c1⟩
                · rintro ⟨h | h, _⟩
                  · exact absurd h s2
                  · exact h
              · rw [spec_Fits.l1, if_pos (by omega), if_neg (by simp), if_pos (by omega), wm, if_pos (by omega), if_pos (by omega), rdOf_nat, if_pos c1, if_neg (by simp), if_pos (by omega), if_pos (by omega), if_pos (by omega), wi]
                rfl
          · refine step next (hp.skip ?_) fun k => ?_
            · rw [hml]
              rintro ⟨_, h⟩
              exact c1 (hri'.mpr h)
            · rw [spec_Fits.l1, if_pos (by omega), if_neg (by simp), if_pos (by omega), wm, if_pos (by omega), if_pos (by omega), rdOf_nat, if_neg c1, wi]
    · obtain rfl : i = cs.length + 1 := by omega
      refine ⟨next, ⟨hp.1, fun x hx => hp.2.1 x (by omega) hx⟩, fun r h => h.succ fun k hk => ?_⟩
      rw [spec_Fits.l1, if_neg (show ¬ ((cs.length + 1 : Nat) : Int) ≤ (cs.length : Int) by omega)]
      exact hk
theorem rep_false (n i : Nat) : (List.replicate n false).getD i false = false := by
  rw [List.getD_eq_getElem?_getD, List.getElem?_replicate]
  split <;> rfl
theorem fits_from (cs : List Int) (hc : cs.length ≤ 1000000) (ps : List P) (hps : ps.length ≤ 1000000) : ∀ (m j : Nat) (reached : List Bool), ps.length - j ≤ m → j ≤ ps.length → Reach (ps.take j) cs reached →
    ∃ b : Bool, (Ev fun k => spec_Fits.l0 k cs reached (ps.map term) (ps.length : Int) (j : Int) = some b) ∧ (b = true ↔ M false ps cs)
  | m, j, reached, hm, hj, hr => by
    by_cases c : j < ps.length
    · cases m with
      | zero => omega
      | succ m =>
      have ht : ps.take (j + 1) = ps.take j ++ [ps[j]] := List.take_succ_eq_append_getElem c
      have start : Part (ps.take j ++ [ps[j]]) cs (List.replicate (cs.length + 1) false) 0 := ⟨by simp, fun i hi => by omega, fun i _ => rep_false _ _⟩
      obtain ⟨nx, h1, h2⟩ := fits_row cs hc (ps.take j) ps[j] reached hr (ps.map term) (ps.length : Int) (j : Int) (cs.length + 1) 0 _ (by omega) (by omega) start
      rw [← ht] at h1
      obtain ⟨b, hb, hb2⟩ := fits_from cs hc ps hps m (j + 1) nx (by omega) (by omega) h1
      refine ⟨b, (h2 b ?_).succ fun k hk => ?_, hb2⟩
      · rw [w64 (by omega) (by omega)]
        exact hb
      · have hw : wrap64 ((cs.length : Int) + 1) = ((cs.length + 1 : Nat) : Int) := by rw [w64 (by omega) (by omega)]; rfl
        have hrd : rd_T97 (ps.map term) (j : Int) = term ps[j] := by
          unfold rd_T97
          rw [Int.toNat_natCast, List.getD_eq_getElem?_getD, List.getElem?_map, List.getElem?_eq_getElem c]
          rfl
        rw [spec_Fits.l0, if_pos (by omega), if_pos (by omega), if_pos (by rw [List.length_map]; omega), hw, if_pos (by omega), if_pos (by rw [Int.toNat_natCast]; omega), hrd, Int.toNat_natCast]
        exact hk
    · obtain rfl : j = ps.length := by omega
      rw [List.take_of_length_le (Nat.le_refl _)] at hr
      refine ⟨reached.getD cs.length false, (Ev.ge 0).succ fun k _ => ?_, ?_⟩
      · have := hr.1
        rw [spec_Fits.l0, if_neg (by omega), if_pos (by omega), if_pos (by omega), rdOf_nat]
      · rw [hr.2 cs.length (Nat.le_refl _), List.take_of_length_le (Nat.le_refl _)]
theorem fits_some (cs : List Int) (hc : cs.length ≤ 1000000) (ps : List P) (hps : ps.length ≤ 1000000) : ∃ b : Bool, (Ev fun k => spec_Fits.f k cs (ps.map term) = some b) ∧ (b = true ↔ M false ps cs) := by
  have start : Reach (ps.take 0) cs ((List.replicate (cs.length + 1) false).set 0 true) := by
    refine ⟨by simp, fun i hi => ?_⟩
    rw [getD_set _ _ _ _ (by simp), List.take_zero, M_nil]
    by_cases c : 0 = i
    · rw [if_pos c, ← c]; simp
    · rw [if_neg c, rep_false]
      constructor
      · intro h; cases h
      · intro h
        have := congrArg List.length h
        rw [List.length_take, List.length_nil] at this
        omega
  obtain ⟨b, hb, hb2⟩ := fits_from cs hc ps hps ps.length 0 _ (by omega) (by omega) start
  refine ⟨b, hb.mp fun k hk => ?_, hb2⟩
  have hw : wrap64 ((cs.length : Int) + 1) = ((cs.length + 1 : Nat) : Int) := by rw [w64 (by omega) (by omega)]; rfl
  unfold spec_Fits.f
  rw [hw, if_pos (by omega), Int.toNat_natCast, if_pos (by omega)]
  simp only [Option.bind_some, List.length_replicate, List.length_map]
  rw [if_pos (by omega)]
  exact hk
/-- What mtTold says: good is true of a text and a pattern in UTF-8 alone. -/
theorem told_some (s p : ByteArray) (hs : s.size ≤ 1000000) (hp : p.size ≤ 1000000) :
    ∃ o : Bool × Bool, (Ev fun k => spec_Matches.f k s p = some o) ∧ (o.2 = true → ∃ cs ps, Scs cs ∧ okps ps ∧ bytesOf s = enc cs ∧ bytesOf p = pen ps ∧ (o.1 = true ↔ M false ps cs)) := by
  obtain ⟨a, ha, ha2⟩ := chars_some s hs
  obtain ⟨b, hb, hb2⟩ := globs_some p hp
  cases e1 : a.2 with
  | false =>
    refine ⟨(false, false), (ha.and hb).mp fun k hk => ?_, fun h => by cases h⟩
    unfold spec_Matches.f
    rw [hk.1]
    simp only [Option.bind_some]
    rw [hk.2]
    simp [e1]
  | true =>
    cases e2 : b.2 with
    | false =>
      refine ⟨(false, false), (ha.and hb).mp fun k hk => ?_, fun h => by cases h⟩
      unfold spec_Matches.f
      rw [hk.1]
      simp only [Option.bind_some]
      rw [hk.2]
      simp [e1, e2]
    | true =>
      obtain ⟨h1, h2⟩ := ha2 e1
      obtain ⟨ps, h3, h4, h5⟩ := hb2 e2
      have l1 : a.1.length ≤ 1000000 := by
        have := congrArg List.length h2
        rw [bytesOf_length] at this
        have := enc_len_ge a.1
        omega
      have l2 : ps.length ≤ 1000000 := by
        have := congrArg List.length h5
        rw [bytesOf_length] at this
        have := pen_len_ge ps
        omega
      obtain ⟨x, hx, hx2⟩ := fits_some a.1 l1 ps l2
      refine ⟨(x, true), ((ha.and hb).and hx).mp fun k hk => ?_, fun _ => ⟨a.1, ps, h1, h4, h2, h5, hx2⟩⟩
      unfold spec_Matches.f
      rw [hk.1.1]
      simp only [Option.bind_some]
      rw [hk.1.2]
      simp only [Option.bind_some, e1, e2, if_true]
      rw [h3, hk.2]
      rfl

end Go.Proofs.YtdllbnecbbggfaaDoor.MtXFnMtUnlimited
