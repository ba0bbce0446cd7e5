/- Proved: the inner reader of one escape answers as the reference's Unescape, Paired and the torn half say. -/
import Derived.Test.YtdllbnecbbggfaaDoorEscAt2FnJpEscapeAt
namespace Go.Proofs.YtdllbnecbbggfaaDoor.Pure
open Go.RowKit Go.Proofs.YtdllbnecbbggfaaDoor Go.Proofs.YtdllbnecbbggfaaDoor.Base Go.Proofs.YtdllbnecbbggfaaDoor.XFnJpEscapeAt Go.Proofs.YtdllbnecbbggfaaDoor.UnescXFnJpEscapeAt Go.Proofs.YtdllbnecbbggfaaDoorW.PrintWords Go.Proofs.YtdllbnecbbggfaaDoorW.PrintLast
set_option linter.unusedVariables false
set_option linter.unusedSimpArgs false

def J (k : Nat) (s : ByteArray) (i : Int) := laws_jpEscape.l0 k s ([12, 6, 2] : List Int) 3 i
theorem j_end (k : Nat) (s : ByteArray) : J (k + 1) s 3 = some (-1, ⟨#[]⟩) := by
  unfold J
  rw [laws_jpEscape.l0, if_neg (by omega)]
theorem rd0 : rd ([12, 6, 2] : List Int) 0 = 12 := rfl
theorem rd1 : rd ([12, 6, 2] : List Int) 1 = 6 := rfl
theorem rd2 : rd ([12, 6, 2] : List Int) 2 = 2 := rfl
theorem j_next (k : Nat) (s : ByteArray) (n i : Int) (x : ByteArray) (h0 : 0 ≤ i) (h1 : i < 3) : laws_jpEscape.j2 (k + 1) s n x ([12, 6, 2] : List Int) 3 i true = J k s (i + 1) := by
  unfold J
  rw [laws_jpEscape.j2, if_pos rfl, w64 (by omega) (by omega)]
theorem j_skip (k : Nat) (s : ByteArray) (i : Int) (h0 : 0 ≤ i) (h1 : i < 3) (h : (s.size : Int) < rd ([12, 6, 2] : List Int) i) : J (k + 2) s i = J k s (i + 1) := by
  unfold J
  rw [laws_jpEscape.l0, if_pos h1, if_pos h0, if_pos (by simpa using h1), if_pos h, laws_jpEscape.j1, if_pos rfl, w64 (by omega) (by omega)]
theorem j_two (k : Nat) (s : ByteArray) (h : 2 ≤ s.size) (h1 : bt s 0 = 92) : J (k + 2) s 2 = (spec_Unescape.f k (s.extract 0 2)).bind fun b => if b.2 = true then laws_jpEscape.j2 k s 2 b.1 ([12, 6, 2] : List Int) 3 2 ((bt s 1) == 117) else laws_jpEscape.j2 k s 2 b.1 ([12, 6, 2] : List Int) 3 2 true := by
  unfold J
  rw [laws_jpEscape.l0, if_pos (by omega), if_pos (by omega), if_pos (by decide), rd2, if_neg (by omega), if_pos (by omega), laws_jpEscape.j1, h1]
  rw [if_neg (by decide), if_pos (by omega), if_pos (by omega)]
  congr 1
  funext b
  by_cases c : b.2 = true
  · rw [if_pos c, if_pos c, if_neg (by omega), if_neg (by omega), if_pos rfl, if_pos (by omega)]
  · rw [if_neg c, if_neg c]
theorem j_six (k : Nat) (s : ByteArray) (h : 6 ≤ s.size) (h1 : bt s 0 = 92) : J (k + 2) s 1 = (spec_Unescape.f k (s.extract 0 6)).bind fun b => if b.2 = true then (if bt s 1 = 117 then laws_jpEscape.j2 k s 6 b.1 ([12, 6, 2] : List Int) 3 1 false else laws_jpEscape.j2 k s 6 b.1 ([12, 6, 2] : List Int) 3 1 true) else laws_jpEscape.j2 k s 6 b.1 ([12, 6, 2] : List Int) 3 1 true := by
  unfold J
  rw [laws_jpEscape.l0, if_pos (by omega), if_pos (by omega), if_pos (by decide), rd1, if_neg (by omega), if_pos (by omega), laws_jpEscape.j1, h1]
  rw [if_neg (by decide), if_pos (by omega), if_pos (by omega)]
  congr 1
  funext b
  by_cases c : b.2 = true
  · rw [if_pos c, if_pos c, if_neg (by omega), if_pos rfl, if_pos (by omega), if_neg (by omega : ¬ (6 : Int) = 2)]
  · rw [if_neg c, if_neg c]
theorem j_twelve (k : Nat) (s : ByteArray) (h : 12 ≤ s.size) (h1 : bt s 0 = 92) : J (k + 2) s 0 = (spec_Unescape.f k (s.extract 0 12)).bind fun b => if b.2 = true then ((spec_Paired.f k (s.extract 0 6)).bind fun t => if t = true then laws_jpEscape.j2 k s 12 b.1 ([12, 6, 2] : List Int) 3 0 true else ((spec_Paired.f k (s.extract 0 12)).bind fun t => if t = true then laws_jpEscape.j2 k s 12 b.1 ([12, 6, 2] : List Int) 3 0 false else laws_jpEscape.j2 k s 12 b.1 ([12, 6, 2] : List Int) 3 0 true)) else laws_jpEscape.j2 k s 12 b.1 ([12, 6, 2] : List Int) 3 0 true := by
  unfold J
  rw [laws_jpEscape.l0, if_pos (by omega), if_pos (by omega), if_pos (by decide), rd0, if_neg (by omega), if_pos (by omega), laws_jpEscape.j1, h1]
  rw [if_neg (by decide), if_pos (by omega), if_pos (by omega)]
  congr 1
  funext b
  by_cases c : b.2 = true
  · rw [if_pos c, if_pos c, if_pos rfl, if_pos (by omega), if_pos (by omega)]
    congr 1
    funext t
    by_cases d : t = true
    · rw [if_pos d, if_pos d]
    · rw [if_neg d, if_neg d, if_pos (by omega), if_pos (by omega)]
      congr 1
  · rw [if_neg c, if_neg c]

/-- From 2 on. -/
theorem J2 (s : ByteArray) (hs : s.size ≤ 100000) (h1 : bt s 0 = 92) : Ev fun k => J k s 2 = some (if 2 ≤ s.size ∧ Simple (bt s 1) then (2, strOfNums [short (bt s 1)]) else (-1, ⟨#[]⟩)) := by
  by_cases c : 2 ≤ s.size
  · have hz := size_cut s 0 2 c
    have hu := unescape_eq (s.extract 0 2) (by omega)
    rw [show (s.extract 0 2).size = 2 from hz, dec2 s c h1] at hu
    refine ((((hu.and (Ev.ge 2)).succ (Q := fun k => 2 ≤ k ∧ J (k + 1) s 2 = some (if 2 ≤ s.size ∧ Simple (bt s 1) then (2, strOfNums [short (bt s 1)]) else (-1, ⟨#[]⟩))) fun k hk => ⟨by omega, ?_⟩)).succ (Q := fun k => J k s 2 = _) fun k hk => hk.2)
    rw [j_two k s c h1, hk.1]
    obtain ⟨j, rfl⟩ : ∃ j, k = j + 2 := ⟨k - 2, by have := hk.2; omega⟩
    by_cases d : Simple (bt s 1)
    · have hne : (bt s 1 == 117) = false := beq_eq_false_iff_ne.mpr (by unfold Simple at d; omega)
      simp only [d, if_true, Option.bind_some, hne, laws_jpEscape.j2, Bool.false_eq_true, if_false, c, and_self]
      rw [if_neg (by omega)]
    · simp only [d, if_false, Option.bind_some, Bool.false_eq_true, and_false]
      rw [j_next (j + 1) s 2 2 _ (by omega) (by omega)]
      exact j_end j s
  · refine ((Ev.ge 0).succ (Q := fun k => J (k + 2) s 2 = some (if 2 ≤ s.size ∧ Simple (bt s 1) then (2, strOfNums [short (bt s 1)]) else (-1, ⟨#[]⟩))) fun k _ => ?_).succ (Q := fun k => J (k + 1) s 2 = _) (fun k hk => hk) |>.succ fun k hk => hk
    rw [j_skip (k + 1) s 2 (by omega) (by omega) (by rw [rd2]; omega), if_neg (fun h => c h.1)]
    exact j_end k s
/-- From 1 on, at a letter. -/
theorem J1_letter (s : ByteArray) (hs : s.size ≤ 100000) (h1 : bt s 0 = 92) (hne : bt s 1 ≠ 117) {r : Int × ByteArray} (hr : Ev fun k => J k s 2 = some r) : Ev fun k => J k s 1 = some r := by
  by_cases c : 6 ≤ s.size
  · have hz := size_cut s 0 6 c
    have hu := unescape_eq (s.extract 0 6) (by omega)
    refine ((((hu.and (hr.succ (Q := fun k => ∃ j, k = j + 1 ∧ J j s 2 = some r) fun k hk => ⟨k, rfl, hk⟩))).succ (Q := fun k => J (k + 1) s 1 = some r) fun k hk => ?_)).succ (Q := fun k => J k s 1 = some r) fun k hk => hk
    obtain ⟨hk1, j, rfl, hj⟩ := hk
    rw [j_six (j + 1) s c h1, hk1]
    simp only [Option.bind_some, if_neg hne]
    rw [j_next j s 6 1 _ (by omega) (by omega)]
    simpa using hj
  · refine (hr.succ (Q := fun k => J (k + 1) s 1 = some r) fun k hk => ?_).succ fun k hk => hk
    rw [j_skip k s 1 (by omega) (by omega) (by rw [rd1]; omega)]
    exact hk
theorem J1_unit (s : ByteArray) (hs : s.size ≤ 100000) (h1 : bt s 0 = 92) (he : bt s 1 = 117) (v : Int) (hU : U s 0 = some v) :
    Ev fun k => J k s 1 = some (if (High v ∨ Low v) ∧ Torn s then (-1, ⟨#[]⟩) else (6, strOfNums (Lib.encodeRuneZ v))) := by
  have ha := U_at hU
  have c : 6 ≤ s.size := by omega
  have hz := size_cut s 0 6 c
  have hu := unescape_eq (s.extract 0 6) (by omega)
  rw [show (s.extract 0 6).size = 6 from hz, dec6 s c h1 he, hU] at hu
  have hp := paired6 s v c hU
  have ht := torn_eq s c (by omega)
  refine ((hu.and ((hp.and ht).succ (Q := fun k => ∃ j, k = j + 1 ∧ spec_Paired.f j (s.extract 0 6) = some (decide (¬ High v ∧ ¬ Low v)) ∧ laws_jpTorn.f j (s.extract 6 s.size) = some (decide (Torn s))) fun k hk => ⟨k, rfl, hk⟩)).succ (Q := fun k => J (k + 1) s 1 = some (if (High v ∨ Low v) ∧ Torn s then (-1, ⟨#[]⟩) else (6, strOfNums (Lib.encodeRuneZ v)))) fun k hk => ?_).succ fun k hk => hk
  obtain ⟨hk1, j, rfl, hj1, hj2⟩ := hk
  rw [j_six (j + 1) s c h1, hk1]
  simp only [Option.bind_some, Option.map_some, if_true, he, laws_jpEscape.j2, Bool.false_eq_true, if_false]
  rw [if_pos (by omega), if_pos (by omega), hj1]
  simp only [Option.bind_some, hj2, decide_eq_true_eq]
  by_cases d : High v ∨ Low v
  · rw [if_neg (fun h => d.elim h.1 h.2)]
    by_cases e : Torn s
    · rw [if_pos e, if_pos ⟨d, e⟩]
    · rw [if_neg e, if_neg (fun h => e h.2)]
  · rw [if_pos ⟨fun h => d (.inl h), fun h => d (.inr h)⟩, if_neg (fun h => d h.1)]
theorem J1_none (s : ByteArray) (hs : s.size ≤ 100000) (h1 : bt s 0 = 92) (he : bt s 1 = 117) (hU : U s 0 = none) : Ev fun k => J k s 1 = some (-1, ⟨#[]⟩) := by
  have hr := J2 s hs h1
  rw [if_neg (fun h => by have := h.2; rw [he] at this; unfold Simple at this; omega)] at hr
  by_cases c : 6 ≤ s.size
  · have hz := size_cut s 0 6 c
    have hu := unescape_eq (s.extract 0 6) (by omega)
    rw [show (s.extract 0 6).size = 6 from hz, dec6 s c h1 he, hU] at hu
    refine ((((hu.and (hr.succ (Q := fun k => ∃ j, k = j + 1 ∧ J j s 2 = some (-1, ⟨#[]⟩)) fun k hk => ⟨k, rfl, hk⟩))).succ (Q := fun k => J (k + 1) s 1 = some (-1, ⟨#[]⟩)) fun k hk => ?_)).succ (Q := fun k => J k s 1 = some (-1, ⟨#[]⟩)) fun k hk => hk
    obtain ⟨hk1, j, rfl, hj⟩ := hk
    rw [j_six (j + 1) s c h1, hk1]
    simp only [Option.bind_some, Option.map_none, Bool.false_eq_true, if_false]
    rw [j_next j s 6 1 _ (by omega) (by omega)]
    exact hj
  · refine (hr.succ (Q := fun k => J (k + 1) s 1 = some (-1, ⟨#[]⟩)) fun k hk => ?_).succ fun k hk => hk
    rw [j_skip k s 1 (by omega) (by omega) (by rw [rd1]; omega)]
    exact hk
/-- From 0 on, where the twelve bytes are no pair. -/
theorem J0_other (s : ByteArray) (hs : s.size ≤ 100000) (h1 : bt s 0 = 92) (hn : ∀ v w, U s 0 = some v → U s 6 = some w → ¬ (High v ∧ Low w)) {r : Int × ByteArray} (hr : Ev fun k => J k s 1 = some r) : Ev fun k => J k s 0 = some r := by
  by_cases c : 12 ≤ s.size
  · have hz := size_cut s 0 12 c
    have hu := unescape_eq (s.extract 0 12) (by omega)
    have hp : (Ev fun k => spec_Paired.f k (s.extract 0 6) = some true) ∨ ((Ev fun k => spec_Paired.f k (s.extract 0 6) = some false) ∧ Ev fun k => spec_Paired.f k (s.extract 0 12) = some false) := by
      cases hU : U s 0 with
      | none => exact .inl (paired6_no s (by omega) h1 hU)
      | some v =>
        have p6 := paired6 s v (by omega) hU
        by_cases d : High v ∨ Low v
        · refine .inr ⟨p6.mp fun k hk => by rw [hk, decide_eq_false (fun h => d.elim h.1 h.2)], (paired12 s v c hU d).mp fun k hk => ?_⟩
          rw [hk]
          simp only [Option.some.injEq, decide_eq_false_iff_not]
          rintro ⟨hh, w, hw, hl⟩
          exact hn v w hU hw ⟨hh, hl⟩
        · exact .inl (p6.mp fun k hk => by rw [hk, decide_eq_true ⟨fun h => d (.inl h), fun h => d (.inr h)⟩])
    have hr' := hr.succ (Q := fun k => ∃ j, k = j + 1 ∧ J j s 1 = some r) fun k hk => ⟨k, rfl, hk⟩
    rcases hp with hp | ⟨hp, hq⟩
    · refine (((hu.and hp).and hr').succ (Q := fun k => J (k + 1) s 0 = some r) fun k hk => ?_).succ fun k hk => hk
      obtain ⟨⟨hk1, hk2⟩, j, rfl, hj⟩ := hk
      rw [j_twelve (j + 1) s c h1, hk1]
      simp only [Option.bind_some, hk2, if_true]
      rw [j_next j s 12 0 _ (by omega) (by omega)]
      simpa using hj
    · refine ((((hu.and hp).and hq).and hr').succ (Q := fun k => J (k + 1) s 0 = some r) fun k hk => ?_).succ fun k hk => hk
      obtain ⟨⟨⟨hk1, hk2⟩, hk3⟩, j, rfl, hj⟩ := hk
      rw [j_twelve (j + 1) s c h1, hk1]
      simp only [Option.bind_some, hk2, hk3, Bool.false_eq_true, if_false]
      rw [j_next j s 12 0 _ (by omega) (by omega)]
      simpa using hj
  · refine (hr.succ (Q := fun k => J (k + 1) s 0 = some r) fun k hk => ?_).succ fun k hk => hk
    rw [j_skip k s 0 (by omega) (by omega) (by rw [rd0]; omega)]
    exact hk
theorem J0_pair (s : ByteArray) (hs : s.size ≤ 100000) (h1 : bt s 0 = 92) (v w : Int) (hU : U s 0 = some v) (hU2 : U s 6 = some w) (hv : High v) (hw : Low w) : Ev fun k => J k s 0 = some (12, strOfNums (Lib.encodeRuneZ (pair v w))) := by
  have hb := U_at hU2
  have c : 12 ≤ s.size := by omega
  have hz := size_cut s 0 12 c
  have hu := unescape_eq (s.extract 0 12) (by omega)
  rw [show (s.extract 0 12).size = 12 from hz, dec12_pair s v w c hU hU2 hv hw] at hu
  have p6 := paired6 s v (by omega) hU
  have p12 := paired12 s v c hU (.inl hv)
  refine ((((hu.and p6).and p12).and (Ev.ge 1)).succ (Q := fun k => J (k + 1) s 0 = some (12, strOfNums (Lib.encodeRuneZ (pair v w)))) fun k hk => ?_).succ fun k hk => hk
  obtain ⟨⟨⟨hk1, hk2⟩, hk3⟩, hk4⟩ := hk
  obtain ⟨j, rfl⟩ : ∃ j, k = j + 1 := ⟨k - 1, by omega⟩
  rw [j_twelve (j + 1) s c h1, hk1]
  simp only [Option.bind_some, hk2, hk3, if_true]
  rw [if_neg (by simp [hv]), if_pos (by simp [hv, hU2, hw]), laws_jpEscape.j2, if_neg (by decide), if_neg (by omega)]

theorem jp_eq (k : Nat) (s : ByteArray) : laws_jpEscape.f k s = J k s 0 := rfl

/-! ### the program and the reference -/
theorem g_two (k : Nat) (s : ByteArray) (h1 : bt s 0 = 92) (h : ¬ 2 ≤ s.size) : jsonparser_DoorEscapeAt.g k (bytesOf s) = some (-1, none) := by
  unfold jsonparser_DoorEscapeAt.g
  rw [bytesOf_length, if_pos (by omega)]
theorem tab_simple {e : Int} (h : Simple e) : jsonparser_DoorEscapeAt.tab e = some (short e) := by
  unfold Simple at h
  unfold jsonparser_DoorEscapeAt.tab short
  rcases h with rfl | rfl | rfl | rfl | rfl | rfl | rfl | rfl <;> decide
theorem tab_not {e : Int} (h : ¬ Simple e) : jsonparser_DoorEscapeAt.tab e = none := by
  unfold Simple at h
  simp only [not_or] at h
  obtain ⟨n1, n2, n3, n4, n5, n6, n7, n8⟩ := h
  unfold jsonparser_DoorEscapeAt.tab
  rw [if_neg n1, if_neg n2, if_neg n3, if_neg n4, if_neg n5, if_neg n6, if_neg n7, if_neg n8]
theorem g_simple (k : Nat) (s : ByteArray) (h1 : bt s 0 = 92) (h : 2 ≤ s.size) (hs : Simple (bt s 1)) : jsonparser_DoorEscapeAt.g k (bytesOf s) = some (2, some [short (bt s 1)]) := by
  unfold jsonparser_DoorEscapeAt.g
  rw [bytesOf_length, if_neg (by omega), rd_bytesOf, rd_bytesOf, if_neg (by simpa using h1), tab_simple hs]
theorem g_else (k : Nat) (s : ByteArray) (h1 : bt s 0 = 92) (h : 2 ≤ s.size) (hs : ¬ Simple (bt s 1)) (he : bt s 1 ≠ 117) : jsonparser_DoorEscapeAt.g k (bytesOf s) = some (-1, none) := by
  unfold jsonparser_DoorEscapeAt.g
  rw [bytesOf_length, if_neg (by omega), rd_bytesOf, rd_bytesOf, if_neg (by simpa using h1), tab_not hs]
  exact if_neg he
theorem g_u (k : Nat) (hk : 3 ≤ k) (s : ByteArray) (h1 : bt s 0 = 92) (h : 2 ≤ s.size) (he : bt s 1 = 117) :
    jsonparser_DoorEscapeAt.g k (bytesOf s) = if (du s).2 = -1 then some (-1, none) else if -2147483648 ≤ (du s).1 ∧ (du s).1 ≤ 2147483647 then some ((du s).2, some (Lib.encodeRuneZ (du s).1)) else none := by
  unfold jsonparser_DoorEscapeAt.g
  rw [bytesOf_length, if_neg (by omega), rd_bytesOf, rd_bytesOf, if_neg (by simpa using h1), tab_not (by rw [he]; unfold Simple; omega)]
  simp only [he, if_true, du_eq k hk s h1 he, Option.bind_some]
theorem impl_eq (k : Nat) (s : ByteArray) (hs : s.size ≤ 100000) (n : Int) (o : Option (List Int)) (h : jsonparser_DoorEscapeAt.g k (bytesOf s) = some (n, o)) : impl_JpEscapeAt.f k s = some (n, strOfNums (o.getD [])) := by
  unfold impl_JpEscapeAt.f jsonparser_DoorEscapeAt.f
  rw [if_pos (by omega), h]
  rfl
theorem sur (v : Int) (h : High v ∨ Low v) : Lib.encodeRuneZ v = Lib.encodeRuneZ 65533 := by
  unfold High Low at h
  rw [show Lib.encodeRuneZ 65533 = [239, 191, 189] from by decide]
  unfold Lib.encodeRuneZ
  rw [if_neg (by omega), if_neg (by omega), if_neg (by omega), if_neg (by omega)]
/-- Both answer the same. -/
def Agree (s : ByteArray) : Prop := Ev fun k => ∃ n a b, impl_JpEscapeAt.f k s = some (n, a) ∧ laws_jpEscape.f k s = some (n, b) ∧ (n < 0 ∨ a = b)
theorem agree (s : ByteArray) (hs : s.size ≤ 100000) (h1 : bt s 0 = 92) (hl : ∀ v, U s 0 = some v → Low v → ¬ Torn s) : Agree s := by
  have no_pair : (∀ v w, U s 0 = some v → U s 6 = some w → ¬ (High v ∧ Low w)) ∨ ∃ v w, U s 0 = some v ∧ U s 6 = some w ∧ High v ∧ Low w := by
    by_cases c : ∃ v w, U s 0 = some v ∧ U s 6 = some w ∧ High v ∧ Low w
    · exact .inr c
    · exact .inl fun v w a b d => c ⟨v, w, a, b, d⟩
  by_cases c2 : 2 ≤ s.size
  · by_cases he : bt s 1 = 117
    · have hns : ¬ Simple (bt s 1) := by rw [he]; unfold Simple; omega
      cases hU : U s 0 with
      | none =>
        have hd : du s = (65533, -1) := by unfold du; rw [hU]
        refine ((J0_other s hs h1 (fun v w a => by rw [hU] at a; cases a) (J1_none s hs h1 he hU)).and (Ev.ge 3)).mp fun k hk => ?_
        have hg := g_u k hk.2 s h1 c2 he
        rw [hd] at hg
        exact ⟨-1, _, _, impl_eq k s hs (-1) none hg, by rw [jp_eq]; exact hk.1, .inl (by omega)⟩
      | some v =>
        have hr := U_range hU
        have ha := U_at hU
        by_cases hlow : Low v
        · have hd : du s = (65533, 6) := by unfold du; rw [hU]; simp [hlow]
          have hj := J1_unit s hs h1 he v hU
          rw [if_neg (fun h => hl v hU hlow h.2)] at hj
          refine ((J0_other s hs h1 (fun v' w a b d => by rw [hU] at a; obtain rfl := Option.some.inj a; have := d.1; unfold High at this; unfold Low at hlow; omega) hj).and (Ev.ge 3)).mp fun k hk => ?_
          have hg := g_u k hk.2 s h1 c2 he
          rw [hd] at hg
          exact ⟨6, _, _, impl_eq k s hs 6 (some (Lib.encodeRuneZ 65533)) hg, by rw [jp_eq]; exact hk.1, .inr (by rw [sur v (.inr hlow)]; rfl)⟩
        · by_cases hhigh : High v
          · have hj := J1_unit s hs h1 he v hU
            by_cases c8 : 8 ≤ s.size ∧ bt s 6 = 92 ∧ bt s 7 = 117
            · cases hU6 : U s 6 with
              | none =>
                have hd : du s = (65533, -1) := by unfold du; rw [hU]; simp [hlow, hhigh, c8, hU6]
                rw [if_pos ⟨.inl hhigh, c8.1, c8.2.1, c8.2.2, hU6⟩] at hj
                refine ((J0_other s hs h1 (fun v' w a b => by rw [hU6] at b; cases b) hj).and (Ev.ge 3)).mp fun k hk => ?_
                have hg := g_u k hk.2 s h1 c2 he
                rw [hd] at hg
                exact ⟨-1, _, _, impl_eq k s hs (-1) none hg, by rw [jp_eq]; exact hk.1, .inl (by omega)⟩
              | some w =>
                by_cases hw : Low w
                · have hd : du s = (pair v w, 12) := by unfold du; rw [hU]; simp [hlow, hhigh, c8, hU6, hw]
                  have hpr := pair_range hhigh hw
                  refine ((J0_pair s hs h1 v w hU hU6 hhigh hw).and (Ev.ge 3)).mp fun k hk => ?_
                  have hg := g_u k hk.2 s h1 c2 he
                  rw [hd] at hg
                  simp only [] at hg
                  rw [if_neg (by omega), if_pos (by omega)] at hg
                  exact ⟨12, _, _, impl_eq k s hs 12 (some (Lib.encodeRuneZ (pair v w))) hg, by rw [jp_eq]; exact hk.1, .inr rfl⟩
                · have hd : du s = (65533, 6) := by unfold du; rw [hU]; simp [hlow, hhigh, c8, hU6, hw]
                  rw [if_neg (fun h => by have := h.2.2.2.2; rw [hU6] at this; cases this)] at hj
                  refine ((J0_other s hs h1 (fun v' w' a b d => by rw [hU6] at b; obtain rfl := Option.some.inj b; exact hw d.2) hj).and (Ev.ge 3)).mp fun k hk => ?_
                  have hg := g_u k hk.2 s h1 c2 he
                  rw [hd] at hg
                  exact ⟨6, _, _, impl_eq k s hs 6 (some (Lib.encodeRuneZ 65533)) hg, by rw [jp_eq]; exact hk.1, .inr (by rw [sur v (.inl hhigh)]; rfl)⟩
            · have hd : du s = (65533, 6) := by unfold du; rw [hU]; simp only []; rw [if_neg hlow, if_pos hhigh, if_neg c8]
              rw [if_neg (fun h => c8 ⟨h.2.1, h.2.2.1, h.2.2.2.1⟩)] at hj
              refine ((J0_other s hs h1 (fun v' w' a b d => by have hb := U_at b; exact c8 ⟨by omega, hb.2.1, hb.2.2⟩) hj).and (Ev.ge 3)).mp fun k hk => ?_
              have hg := g_u k hk.2 s h1 c2 he
              rw [hd] at hg
              exact ⟨6, _, _, impl_eq k s hs 6 (some (Lib.encodeRuneZ 65533)) hg, by rw [jp_eq]; exact hk.1, .inr (by rw [sur v (.inl hhigh)]; rfl)⟩
          · have hd : du s = (v, 6) := by unfold du; rw [hU]; simp [hlow, hhigh]
            have hj := J1_unit s hs h1 he v hU
            rw [if_neg (fun h => h.1.elim hhigh hlow)] at hj
            refine ((J0_other s hs h1 (fun v' w a b d => by rw [hU] at a; obtain rfl := Option.some.inj a; exact hhigh d.1) hj).and (Ev.ge 3)).mp fun k hk => ?_
            have hg := g_u k hk.2 s h1 c2 he
            rw [hd] at hg
            simp only [] at hg
            rw [if_neg (by omega), if_pos (by omega)] at hg
            exact ⟨6, _, _, impl_eq k s hs 6 (some (Lib.encodeRuneZ v)) hg, by rw [jp_eq]; exact hk.1, .inr rfl⟩
    · have hnu : U s 0 = none := by
        cases hU : U s 0 with
        | none => rfl
        | some v => exact absurd (U_at hU).2.2 he
      have hj2 := J2 s hs h1
      have hj := J0_other s hs h1 (fun v w a => by rw [hnu] at a; cases a) (J1_letter s hs h1 he hj2)
      by_cases hsim : Simple (bt s 1)
      · rw [if_pos ⟨c2, hsim⟩] at hj
        exact hj.mp fun k hk => ⟨2, _, _, impl_eq k s hs 2 (some [short (bt s 1)]) (g_simple k s h1 c2 hsim), by rw [jp_eq]; exact hk, .inr rfl⟩
      · rw [if_neg (fun h => hsim h.2)] at hj
        exact hj.mp fun k hk => ⟨-1, _, _, impl_eq k s hs (-1) none (g_else k s h1 c2 hsim he), by rw [jp_eq]; exact hk, .inl (by omega)⟩
  · have hnu : U s 0 = none := U_over s 0 (by omega)
    have hne : bt s 1 ≠ 117 := by rw [bt_out s 1 (by omega)]; omega
    have hj := J0_other s hs h1 (fun v w a => by rw [hnu] at a; cases a) (J1_letter s hs h1 hne (J2 s hs h1))
    rw [if_neg (fun h => c2 h.1)] at hj
    exact hj.mp fun k hk => ⟨-1, _, _, impl_eq k s hs (-1) none (g_two k s h1 c2), by rw [jp_eq]; exact hk, .inl (by omega)⟩

/-! ### the guard -/
theorem hv_d {c : Int} (h : hv c = some 13) : c = 68 ∨ c = 100 := by
  unfold hv at h
  repeat' split at h
  all_goals first
    | (cases h; done)
    | (have := Option.some.inj h; omega)
theorem hv_hi {c v : Int} (h : hv c = some v) (hv12 : 12 ≤ v) : (67 ≤ c ∧ c ≤ 70) ∨ (99 ≤ c ∧ c ≤ 102) := by
  unfold hv at h
  repeat' split at h
  all_goals first
    | (cases h; done)
    | (have := Option.some.inj h; omega)
theorem low_bytes {s : ByteArray} {v : Int} (h : U s 0 = some v) (hl : Low v) : (bt s 2 = 68 ∨ bt s 2 = 100) ∧ ((67 ≤ bt s 3 ∧ bt s 3 ≤ 70) ∨ (99 ≤ bt s 3 ∧ bt s 3 ≤ 102)) := by
  have ha := U_at h
  rw [U_h4 (by omega) ha.2.1 ha.2.2] at h
  unfold h4 at h
  obtain ⟨x, hx, h⟩ := Option.bind_eq_some_iff.mp h
  obtain ⟨y, hy, h⟩ := Option.bind_eq_some_iff.mp h
  obtain ⟨z, hz, h⟩ := Option.bind_eq_some_iff.mp h
  obtain ⟨t, ht, h⟩ := Option.bind_eq_some_iff.mp h
  obtain rfl := Option.some.inj h
  have := hv_range hx; have := hv_range hy; have := hv_range hz; have := hv_range ht
  unfold Low at hl
  have e : x = 13 := by omega
  subst e
  exact ⟨hv_d hx, hv_hi hy (by omega)⟩
theorem or_d {c : Int} (h : c = 68 ∨ c = 100) : Go.bits .or .u8 c 32 = 100 := by rcases h with rfl | rfl <;> decide +kernel
theorem or_hi {c : Int} (h : (67 ≤ c ∧ c ≤ 70) ∨ (99 ≤ c ∧ c ≤ 102)) : Go.bits .or .u8 c 32 ≥ 99 ∧ Go.bits .or .u8 c 32 ≤ 102 := by
  have : c = 67 ∨ c = 68 ∨ c = 69 ∨ c = 70 ∨ c = 99 ∨ c = 100 ∨ c = 101 ∨ c = 102 := by omega
  rcases this with rfl | rfl | rfl | rfl | rfl | rfl | rfl | rfl <;> decide +kernel
theorem guard (s : ByteArray) (h0 : 0 < s.size) (hs : s.size ≤ 65536) (h1 : bt s 0 = 92) :
    ∃ g : Bool, (Ev fun k => laws_FnJpEscapeAt.j0 (k + 1) s false = laws_FnJpEscapeAt.j1 k s g) ∧ (g = false → ∀ v, U s 0 = some v → Low v → ¬ Torn s) := by
  have ht : ∀ v, U s 0 = some v → 6 ≤ s.size := fun v h => by have := U_at h; omega
  by_cases c7 : (s.size : Int) > 7
  · by_cases he : bt s 1 = 117
    · by_cases c2 : Go.bits .or .u8 (bt s 2) 32 = 100
      · by_cases c3 : Go.bits .or .u8 (bt s 3) 32 ≥ 99
        · by_cases c4 : Go.bits .or .u8 (bt s 3) 32 ≤ 102
          · refine ⟨decide (Torn s), (torn_eq s (by omega) (by omega)).mp fun k hk => ?_, fun h v _ _ => of_decide_eq_false h⟩
            rw [laws_FnJpEscapeAt.j0, if_neg (by decide), if_pos c7, if_pos (by omega), if_pos he, if_pos (by omega), if_pos c2, if_pos (by omega), if_pos c3, if_pos c4, if_pos (by omega), hk]
            rfl
          · refine ⟨false, Ev.all fun k => ?_, fun _ v hU hl => absurd (or_hi (low_bytes hU hl).2).2 c4⟩
            rw [laws_FnJpEscapeAt.j0, if_neg (by decide), if_pos c7, if_pos (by omega), if_pos he, if_pos (by omega), if_pos c2, if_pos (by omega), if_pos c3, if_neg c4]
        · refine ⟨false, Ev.all fun k => ?_, fun _ v hU hl => absurd (or_hi (low_bytes hU hl).2).1 c3⟩
          rw [laws_FnJpEscapeAt.j0, if_neg (by decide), if_pos c7, if_pos (by omega), if_pos he, if_pos (by omega), if_pos c2, if_pos (by omega), if_neg c3]
      · refine ⟨false, Ev.all fun k => ?_, fun _ v hU hl => absurd (or_d (low_bytes hU hl).1) c2⟩
        rw [laws_FnJpEscapeAt.j0, if_neg (by decide), if_pos c7, if_pos (by omega), if_pos he, if_pos (by omega), if_neg c2]
    · refine ⟨false, Ev.all fun k => ?_, fun _ v hU hl => absurd (U_at hU).2.2 he⟩
      rw [laws_FnJpEscapeAt.j0, if_neg (by decide), if_pos c7, if_pos (by omega), if_neg he]
  · refine ⟨false, Ev.all fun k => ?_, fun _ v hU hl h => by have := h.1; omega⟩
    rw [laws_FnJpEscapeAt.j0, if_neg (by decide), if_neg c7]
theorem FnJpEscapeAt : laws_FnJpEscapeAt.Pure := by
  intro s _
  unfold laws_FnJpEscapeAt.f
  by_cases c1 : (s.size : Int) > 2147483647
  · exact ⟨0, if_pos c1⟩
  · simp only [if_neg c1]
    by_cases c2 : s.toList = ([] : List UInt8)
    · exact ⟨1, by rw [if_pos c2]; rfl⟩
    · simp only [if_neg c2]
      have h0 : 0 < s.size := by
        refine Nat.pos_of_ne_zero fun h => c2 ?_
        rw [ByteArray.toList_eq]
        have : s.data.size = 0 := h
        simp [Array.eq_empty_of_size_eq_zero this]
      by_cases c3 : bt s 0 = 92
      · by_cases c4 : (s.size : Int) > 65536
        · exact ⟨1, by rw [if_pos (by omega), if_pos c3, decide_eq_true c4]; rfl⟩
        · obtain ⟨g, hg, hlow⟩ := guard s h0 (by omega) c3
          cases g with
          | true =>
            obtain ⟨k, hk⟩ := (hg.and (Ev.ge 1)).ex
            obtain ⟨j, rfl⟩ : ∃ j, k = j + 1 := ⟨k - 1, by have := hk.2; omega⟩
            exact ⟨j + 2, by rw [if_pos (by omega), if_pos c3, decide_eq_false c4, hk.1]; rfl⟩
          | false =>
            have ha := agree s (by omega) c3 (hlow rfl)
            obtain ⟨k, hk, j, rfl, n, a, b, e1, e2, e3⟩ := (hg.and (Ev.succ (Q := fun k => ∃ j, k = j + 1 ∧ ∃ n a b, impl_JpEscapeAt.f j s = some (n, a) ∧ laws_jpEscape.f j s = some (n, b) ∧ (n < 0 ∨ a = b)) ha fun k hk => ⟨k, rfl, hk⟩)).ex
            refine ⟨j + 2, ?_⟩
            rw [if_pos (by omega), if_pos c3, decide_eq_false c4, hk, laws_FnJpEscapeAt.j1, if_neg (by decide), e1]
            simp only [Option.bind_some, e2, if_true]
            by_cases c5 : n < 0
            · rw [if_pos c5]
            · rw [if_neg c5, e3.resolve_left c5]
              simp
      · exact ⟨1, by rw [if_pos (by omega), if_neg c3]; rfl⟩

end Go.Proofs.YtdllbnecbbggfaaDoor.Pure
