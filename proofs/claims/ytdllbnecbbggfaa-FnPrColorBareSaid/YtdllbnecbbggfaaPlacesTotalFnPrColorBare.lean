/- The reference's reader of JSON texts answers for every text ('Places'). -/
import Derived.Test.YtdllbnecbbggfaaReadBaseFnPrColorBare
namespace Go.Proofs.Ytdllbnecbbggfaa.ReadXFnPrColorBare
open Go.RowKit Go.Proofs.Ytdllbnecbbggfaa.Base Go.Proofs.Ytdllbnecbbggfaa.XFnPrColorBare Go.Proofs.YtdllbnecbbggfaaW.PrintWords Go.Proofs.YtdllbnecbbggfaaW.PrintLast
set_option linter.unusedVariables false
set_option linter.unusedSimpArgs false

/-- It answers, from some number of steps on always the same, and of the answer Q. -/
def Tot {α : Type} (f : Nat → Option α) (Q : α → Prop) : Prop := ∃ r, (Ev fun k => f k = some r) ∧ Q r
theorem Tot.bind {α β : Type} {f : Nat → Option α} {g : Nat → α → Option β} {Q : α → Prop} {R : β → Prop} (h : Tot f Q) (hg : ∀ r, Q r → Tot (fun k => g k r) R) : Tot (fun k => (f k).bind (g k)) R := by
  obtain ⟨r, hr, hq⟩ := h
  obtain ⟨t, ht, hR⟩ := hg r hq
  exact ⟨t, (hr.and ht).mp fun k hk => by show (f k).bind (g k) = some t; rw [hk.1]; exact hk.2, hR⟩
theorem Tot.succ {α : Type} {f g : Nat → Option α} {Q : α → Prop} (h : ∀ k, f (k + 1) = g k) (hg : Tot g Q) : Tot f Q := by
  obtain ⟨r, hr, hq⟩ := hg
  exact ⟨r, hr.succ fun k hk => (h k).trans hk, hq⟩
theorem Tot.ret {α : Type} {Q : α → Prop} {r : α} (h : Q r) : Tot (fun _ => some r) Q := ⟨r, Ev.all fun _ => rfl, h⟩
theorem Tot.eq {α : Type} {f : Nat → Option α} {Q : α → Prop} {r : α} (hf : ∀ k, f k = some r) (h : Q r) : Tot f Q := ⟨r, Ev.all hf, h⟩
theorem Tot.ite {α : Type} {c : Prop} [Decidable c] {f g : Nat → Option α} {Q : α → Prop} (h : c → Tot f Q) (g' : ¬ c → Tot g Q) : Tot (fun k => if c then f k else g k) Q := by
  by_cases hc : c
  · obtain ⟨r, hr, hq⟩ := h hc
    exact ⟨r, hr.mp fun k hk => by show (if c then f k else g k) = some r; rw [if_pos hc]; exact hk, hq⟩
  · obtain ⟨r, hr, hq⟩ := g' hc
    exact ⟨r, hr.mp fun k hk => by show (if c then f k else g k) = some r; rw [if_neg hc]; exact hk, hq⟩
theorem Tot.mono {α : Type} {f : Nat → Option α} {Q R : α → Prop} (h : Tot f Q) (g : ∀ r, Q r → R r) : Tot f R := by
  obtain ⟨r, hr, hq⟩ := h
  exact ⟨r, hr, g r hq⟩

theorem tot_lift {α : Type} {f : Nat → Option α} (hm : ∀ k, LeO (f k) (f (k + 1))) {k : Nat} {r : α} (h : f k = some r) : ∀ j, f (k + j) = some r
  | 0 => h
  | j + 1 => hm (k + j) r (tot_lift hm h j)
variable {s : ByteArray}
theorem here_tot (hs : s.size ≤ 1000000) (p : Int) (h0 : 0 ≤ p) : Tot (fun _ => spec_reader_here.f s p) (fun r => r = (bt s p, s, p)) := Tot.eq (fun _ => here_eq s p h0) rfl
theorem take_tot (hs : s.size ≤ 1000000) (p c : Int) (h0 : 0 ≤ p) (h1 : p ≤ s.size) : Tot (fun _ => spec_reader_take.f s p c) (fun r => r = (true, s, p + 1) ∧ p < s.size ∧ bt s p = c ∨ r = (false, s, p)) := by
  unfold spec_reader_take.f
  by_cases c1 : p < s.size
  · by_cases c2 : bt s p = c
    · exact Tot.eq (fun _ => by rw [if_pos c1, if_pos h0, if_pos c2, w64 (by omega) (by omega)]) (.inl ⟨rfl, c1, c2⟩)
    · exact Tot.eq (fun _ => by rw [if_pos c1, if_pos h0, if_neg c2]) (.inr rfl)
  · exact Tot.eq (fun _ => by rw [if_neg c1]) (.inr rfl)
theorem blanks_from (hs : s.size ≤ 1000000) : ∀ (m : Nat) (p : Int), 0 ≤ p → p ≤ s.size → (s.size : Int) - p ≤ m → Tot (fun k => spec_reader_blanks.l0 k s p) (fun r => r.1 = s ∧ p ≤ r.2 ∧ r.2 ≤ s.size)
  | m, p, h0, h1, hm => by
    by_cases c : p < s.size
    · cases m with
      | zero => omega
      | succ m =>
        refine Tot.succ (fun k => by rw [spec_reader_blanks.l0, if_pos c, if_pos h0]) ?_
        refine Tot.bind (f := fun _ => spec_Blank.f (bt s p)) (Q := fun _ => True) ?_ fun b _ => ?_
        · unfold spec_Blank.f
          repeat' split
          all_goals exact Tot.ret trivial
        · refine Tot.ite (fun _ => ?_) (fun _ => Tot.ret ⟨rfl, by simp only []; omega, by simp only []; omega⟩)
          rw [w64 (by omega) (by omega)]
          exact (blanks_from hs m (p + 1) (by omega) (by omega) (by omega)).mono fun r h => ⟨h.1, by omega, h.2.2⟩
    · exact Tot.succ (fun k => by rw [spec_reader_blanks.l0, if_neg c]) (Tot.ret ⟨rfl, by simp only []; omega, by simp only []; omega⟩)
theorem blanks_tot (hs : s.size ≤ 1000000) (p : Int) (h0 : 0 ≤ p) (h1 : p ≤ s.size) : Tot (fun k => spec_reader_blanks.f k s p) (fun r => r.1 = s ∧ p ≤ r.2 ∧ r.2 ≤ s.size) := by
  unfold spec_reader_blanks.f
  exact blanks_from hs s.size p h0 h1 (by omega)
/-- What a reader answers: the text as it is; if it is well, it has gone on. -/
def Went (s : ByteArray) (p : Int) (r : Bool × ByteArray × Int) : Prop := r.2.1 = s ∧ (r.1 = true → p < r.2.2 ∧ r.2.2 ≤ s.size)
theorem quoted_tot (hs : s.size ≤ 1000000) : ∀ (m : Nat) (p : Int), 0 ≤ p → (s.size : Int) - p ≤ m → Tot (fun k => spec_reader_quoted.l0 k s p) (Went s p)
  | m, p, h0, hm => by
    by_cases c : p < s.size
    · cases m with
      | zero => omega
      | succ m =>
        refine Tot.succ (fun k => by rw [spec_reader_quoted.l0, if_pos c, if_pos h0, w64 (i := p + 1) (by omega) (by omega)]) ?_
        refine Tot.ite (fun _ => Tot.ret ⟨rfl, fun _ => by simp only []; omega⟩) fun c1 => Tot.ite (fun _ => Tot.ret ⟨rfl, fun h => by cases h⟩) fun c2 => Tot.ite (fun c3 => ?_) (fun c3 => ?_)
        · by_cases c4 : Simple (bt s (p + 1))
          · have c5 : p + 1 < s.size := by
              refine Int.not_le.mp fun hc => ?_
              rw [bt_out s (p + 1) hc] at c4
              revert c4
              unfold Simple
              decide
            refine Tot.bind (f := fun k => spec_reader_escape.f k s (p + 1)) (Q := fun r => r = (true, s, p + 1 + 1)) ⟨_, (Ev.ge 1).mp fun k hk => escape_simple k hk s (p + 1) (by omega) (by omega) c4, rfl⟩ fun r hr => ?_
            subst hr
            simp only [if_true]
            exact (quoted_tot hs m (p + 1 + 1) (by omega) (by omega)).mono fun r h => ⟨h.1, fun hb => by have := h.2 hb; omega⟩
          · by_cases c5 : bt s (p + 1) = 117
            · by_cases c6 : (h4 (hv (bt s (p + 1 + 1))) (hv (bt s (p + 1 + 2))) (hv (bt s (p + 1 + 3))) (hv (bt s (p + 1 + 4)))).isSome = true
              · refine Tot.bind (f := fun k => spec_reader_escape.f k s (p + 1)) (Q := fun r => r = (true, s, p + 1 + 5)) ⟨_, (Ev.ge 12).mp fun k hk => by
                  obtain ⟨q, hq⟩ := escape_u k hk s (p + 1) (by omega) (by omega) c5
                  rw [if_pos c6] at hq
                  exact hq, rfl⟩ fun r hr => ?_
                subst hr
                simp only [if_true]
                exact (quoted_tot hs m (p + 1 + 5) (by omega) (by omega)).mono fun r h => ⟨h.1, fun hb => by have := h.2 hb; omega⟩
              · obtain ⟨q, hq⟩ := escape_u 12 (by omega) s (p + 1) (by omega) (by omega) c5
                rw [if_neg c6] at hq
                refine Tot.bind (f := fun k => spec_reader_escape.f k s (p + 1)) (Q := fun r => r = (false, s, q)) ⟨_, (Ev.ge 12).mp fun k hk => by
                  obtain ⟨j, rfl⟩ : ∃ j, k = 12 + j := ⟨k - 12, by omega⟩
                  exact tot_lift (f := fun k => spec_reader_escape.f k s (p + 1)) (fun k => spec_reader_escape.mono s (p + 1) k) hq j, rfl⟩ fun r hr => ?_
                subst hr
                exact Tot.ret ⟨rfl, fun h => by cases h⟩
            · refine Tot.bind (f := fun k => spec_reader_escape.f k s (p + 1)) (Q := fun r => r = (false, s, p + 1)) ⟨_, (Ev.ge 1).mp fun k hk => escape_else k hk s (p + 1) (by omega) (by omega) c4 c5, rfl⟩ fun r hr => ?_
              subst hr
              exact Tot.ret ⟨rfl, fun h => by cases h⟩
        · exact (quoted_tot hs m (p + 1) (by omega) (by omega)).mono fun r h => ⟨h.1, fun hb => by have := h.2 hb; omega⟩
    · exact Tot.succ (fun k => by rw [spec_reader_quoted.l0, if_neg c]) (Tot.ret ⟨rfl, fun h => by cases h⟩)

theorem bt_digit {p : Int} (h : 48 ≤ bt s p) : p < s.size := by
  refine Int.not_le.mp fun hc => ?_
  rw [bt_out s p hc] at h
  omega
theorem digits_from (hs : s.size ≤ 1000000) : ∀ (m : Nat) (p q : Int), 0 ≤ p → p ≤ s.size → (s.size : Int) - p ≤ m → Tot (fun k => spec_reader_digits.l0 k q (bt s p) s p) (fun r => r.2.1 = s ∧ p ≤ r.2.2 ∧ r.2.2 ≤ s.size ∧ (r.1 = true → q < r.2.2))
  | m, p, q, h0, h1, hm => by
    have stop : Tot (fun _ => some (decide (p > q), s, p)) (fun r => r.2.1 = s ∧ p ≤ r.2.2 ∧ r.2.2 ≤ s.size ∧ (r.1 = true → q < r.2.2)) := Tot.ret ⟨rfl, Int.le_refl _, h1, fun h => of_decide_eq_true h⟩
    by_cases c1 : 48 ≤ bt s p
    · by_cases c2 : bt s p ≤ 57
      · have hp := bt_digit c1
        cases m with
        | zero => omega
        | succ m =>
          refine Tot.succ (fun k => by rw [spec_reader_digits.l0, if_pos c1, if_pos c2, w64 (i := p + 1) (by omega) (by omega)]) ?_
          refine Tot.bind (here_tot hs (p + 1) (by omega)) fun r hr => ?_
          subst hr
          exact (digits_from hs m (p + 1) q (by omega) (by omega) (by omega)).mono fun r h => ⟨h.1, by omega, h.2.2⟩
      · exact Tot.succ (fun k => by rw [spec_reader_digits.l0, if_pos c1, if_neg c2]) stop
    · exact Tot.succ (fun k => by rw [spec_reader_digits.l0, if_neg c1]) stop
theorem digits_tot (hs : s.size ≤ 1000000) (p : Int) (h0 : 0 ≤ p) (h1 : p ≤ s.size) : Tot (fun k => spec_reader_digits.f k s p) (fun r => r.2.1 = s ∧ p ≤ r.2.2 ∧ r.2.2 ≤ s.size ∧ (r.1 = true → p < r.2.2)) := by
  unfold spec_reader_digits.f
  refine Tot.bind (here_tot hs p h0) fun r hr => ?_
  subst hr
  exact digits_from hs s.size p p h0 h1 (by omega)
def Num (s : ByteArray) (p : Int) (r : Bool × ByteArray × Int) : Prop := r.2.1 = s ∧ (r.1 = true → p ≤ r.2.2 ∧ r.2.2 ≤ s.size)
theorem j2_tot (hs : s.size ≤ 1000000) (x : Bool) (p : Int) (h0 : 0 ≤ p) (h1 : p ≤ s.size) : Tot (fun k => spec_reader_number.j2 k x s p) (Num s p) := by
  cases x with
  | false => exact Tot.succ (fun k => by rw [spec_reader_number.j2, if_neg (by decide)]) (Tot.ret ⟨rfl, fun _ => ⟨Int.le_refl _, h1⟩⟩)
  | true =>
    refine Tot.succ (fun k => by rw [spec_reader_number.j2, if_pos rfl]) ?_
    refine Tot.bind (take_tot hs p 43 h0 h1) fun r hr => ?_
    rcases hr with ⟨rfl, a, b⟩ | rfl
    · simp only [if_true]
      exact Tot.bind (digits_tot hs (p + 1) (by omega) (by omega)) fun r hr => Tot.ret ⟨hr.1, fun hb => ⟨by have := hr.2.1; simp only []; omega, hr.2.2.1⟩⟩
    · simp only [Bool.false_eq_true, if_false]
      refine Tot.bind (take_tot hs p 45 h0 h1) fun r hr => ?_
      rcases hr with ⟨rfl, a, b⟩ | rfl
      · exact Tot.bind (digits_tot hs (p + 1) (by omega) (by omega)) fun r hr => Tot.ret ⟨hr.1, fun hb => ⟨by have := hr.2.1; simp only []; omega, hr.2.2.1⟩⟩
      · exact Tot.bind (digits_tot hs p (by omega) (by omega)) fun r hr => Tot.ret ⟨hr.1, fun hb => ⟨hr.2.1, hr.2.2.1⟩⟩
theorem Num.from {p q : Int} {r : Bool × ByteArray × Int} (h : Num s q r) (hpq : p ≤ q) : Num s p r := ⟨h.1, fun hb => by have := h.2 hb; omega⟩
theorem j1_tot (hs : s.size ≤ 1000000) (x : Bool) (p : Int) (h0 : 0 ≤ p) (h1 : p ≤ s.size) : Tot (fun k => spec_reader_number.j1 k x s p) (Num s p) := by
  cases x with
  | true => exact Tot.succ (fun k => by rw [spec_reader_number.j1, if_pos rfl]) (Tot.ret ⟨rfl, fun h => by cases h⟩)
  | false =>
    refine Tot.succ (fun k => by rw [spec_reader_number.j1, if_neg (by decide)]) ?_
    refine Tot.bind (take_tot hs p 101 h0 h1) fun r hr => ?_
    rcases hr with ⟨rfl, a, b⟩ | rfl
    · simp only [if_true]
      exact (j2_tot hs true (p + 1) (by omega) (by omega)).mono fun r h => h.from (by omega)
    · simp only [Bool.false_eq_true, if_false]
      refine Tot.bind (take_tot hs p 69 h0 h1) fun r hr => ?_
      rcases hr with ⟨rfl, a, b⟩ | rfl
      · exact (j2_tot hs true (p + 1) (by omega) (by omega)).mono fun r h => h.from (by omega)
      · exact j2_tot hs false p h0 h1
theorem j0_tot (hs : s.size ≤ 1000000) (x : Bool) (p : Int) (h0 : 0 ≤ p) (h1 : p ≤ s.size) : Tot (fun k => spec_reader_number.j0 k x s p) (Num s p) := by
  cases x with
  | true => exact Tot.succ (fun k => by rw [spec_reader_number.j0, if_pos rfl]) (Tot.ret ⟨rfl, fun h => by cases h⟩)
  | false =>
    refine Tot.succ (fun k => by rw [spec_reader_number.j0, if_neg (by decide)]) ?_
    refine Tot.bind (take_tot hs p 46 h0 h1) fun r hr => ?_
    rcases hr with ⟨rfl, a, b⟩ | rfl
    · simp only [if_true]
      refine Tot.bind (digits_tot hs (p + 1) (by omega) (by omega)) fun r hr => ?_
      obtain ⟨r1, r2, r3⟩ := r
      obtain ⟨e, hr2, hr3, hr4⟩ := hr
      simp only [] at e hr2 hr3 hr4 ⊢
      subst e
      exact (j1_tot hs (!r1) r3 (by omega) (by omega)).mono fun r h => h.from (by omega)
    · simp only [Bool.false_eq_true, if_false]
      exact j1_tot hs false p h0 h1
theorem number_tot (hs : s.size ≤ 1000000) (p : Int) (h0 : 0 ≤ p) (h1 : p ≤ s.size) : Tot (fun k => spec_reader_number.f k s p) (Went s p) := by
  unfold spec_reader_number.f
  have rest : ∀ q, p ≤ q → q ≤ s.size → Tot (fun k => (spec_reader_take.f s q 48).bind fun bt127 => (if bt127.1 = true then (spec_reader_number.j0 k false bt127.2.1 bt127.2.2) else ((spec_reader_digits.f k bt127.2.1 bt127.2.2).bind fun bt130 => (spec_reader_number.j0 k (!bt130.1) bt130.2.1 bt130.2.2)))) (Went s p) := by
    intro q hq1 hq2
    refine Tot.bind (take_tot hs q 48 (by omega) hq2) fun r hr => ?_
    rcases hr with ⟨rfl, a, b⟩ | rfl
    · simp only [if_true]
      exact (j0_tot hs false (q + 1) (by omega) (by omega)).mono fun r h => ⟨h.1, fun hb => by have := h.2 hb; omega⟩
    · simp only [Bool.false_eq_true, if_false]
      refine Tot.bind (digits_tot hs q (by omega) hq2) fun r hr => ?_
      obtain ⟨r1, r2, r3⟩ := r
      obtain ⟨e, hr2, hr3, hr4⟩ := hr
      simp only [] at e hr2 hr3 hr4 ⊢
      subst e
      cases r1 with
      | true => exact (j0_tot hs (!true) r3 (by omega) (by omega)).mono fun r h => ⟨h.1, fun hb => by have := h.2 hb; have := hr4 rfl; omega⟩
      | false => exact Tot.succ (fun k => by rw [spec_reader_number.j0, if_pos (by decide)]) (Tot.ret ⟨rfl, fun h => by cases h⟩)
  refine Tot.bind (take_tot hs p 45 h0 h1) fun r hr => ?_
  rcases hr with ⟨rfl, a, b⟩ | rfl
  · exact rest (p + 1) (by omega) (by omega)
  · exact rest p (by omega) (by omega)
theorem word_tot (hs : s.size ≤ 1000000) (p : Int) (x : ByteArray) (h0 : 0 ≤ p) (h1 : p ≤ s.size) (hx0 : 1 ≤ x.size) (hx1 : x.size ≤ 100) : Tot (fun _ => spec_reader_word.f s p x) (fun r => (r = (true, s, p + x.size) ∧ p + x.size ≤ s.size) ∨ r = (false, s, p)) := by
  unfold spec_reader_word.f
  rw [w64 (i := (s.size : Int) - p) (by omega) (by omega), w64 (i := p + (x.size : Int)) (by omega) (by omega)]
  by_cases c1 : (s.size : Int) - p < x.size
  · exact Tot.eq (fun _ => by rw [if_pos c1]) (.inr rfl)
  · by_cases c2 : (s.extract p.toNat (p + (x.size : Int)).toNat).toList = x.toList
    · exact Tot.eq (fun _ => by rw [if_neg c1, if_pos h0, if_pos (by omega), if_pos (by omega), if_pos c2]) (.inl ⟨rfl, by omega⟩)
    · exact Tot.eq (fun _ => by rw [if_neg c1, if_pos h0, if_pos (by omega), if_pos (by omega), if_neg c2]) (.inr rfl)

/-! ### values, members, elements -/
def V (s : ByteArray) (n : Nat) : Prop := ∀ p : Int, 0 ≤ p → p ≤ s.size → (s.size : Int) - p < n → Tot (fun k => spec_reader_value.f k s p) (fun r => r.2.2.2.2.2.2.1 = s ∧ (r.2.2.2.2.2.1 = true → p < r.2.2.2.2.2.2.2 ∧ r.2.2.2.2.2.2.2 ≤ s.size))
def M (s : ByteArray) (n : Nat) : Prop := ∀ (p : Int) xs ys, 0 ≤ p → p ≤ s.size → (s.size : Int) - p < n → (xs.length : Int) ≤ p → (ys.length : Int) ≤ p → Tot (fun k => spec_reader_members.l0 k xs ys s p) (fun r => r.2.2.2.1 = s ∧ (r.2.2.1 = true → p < r.2.2.2.2 ∧ r.2.2.2.2 ≤ s.size))
def E (s : ByteArray) (n : Nat) : Prop := ∀ (p : Int) ys, 0 ≤ p → p ≤ s.size → (s.size : Int) - p < n → (ys.length : Int) ≤ p → Tot (fun k => spec_reader_elements.l0 k ys s p) (fun r => r.2.2.1 = s ∧ (r.2.1 = true → p < r.2.2.2 ∧ r.2.2.2 ≤ s.size))
theorem vj0_tot (hs : s.size ≤ 1000000) (x : Bool) (p a b c : Int) (h0 : 0 ≤ p) (h1 : p ≤ s.size) : Tot (fun k => spec_reader_value.j0 k true x s p a b c) (fun r => r.2.2.2.2.2.2.1 = s ∧ (r.2.2.2.2.2.1 = true → p < r.2.2.2.2.2.2.2 ∧ r.2.2.2.2.2.2.2 ≤ s.size)) := by
  have z4 : (⟨#[110, 117, 108, 108]⟩ : ByteArray).size = 4 := rfl
  have z5 : (⟨#[102, 97, 108, 115, 101]⟩ : ByteArray).size = 5 := rfl
  have z4' : (⟨#[116, 114, 117, 101]⟩ : ByteArray).size = 4 := rfl
  cases x with
  | true =>
    refine Tot.succ (fun k => by rw [spec_reader_value.j0, if_pos rfl]) ?_
    exact Tot.bind (number_tot hs p h0 h1) fun r hr => Tot.ret ⟨hr.1, hr.2⟩
  | false =>
    refine Tot.succ (fun k => by rw [spec_reader_value.j0, if_neg (by decide)]) ?_
    refine Tot.bind (word_tot hs p _ h0 h1 (by rw [z4]; omega) (by rw [z4]; omega)) fun r hr => ?_
    rcases hr with ⟨rfl, g⟩ | rfl
    · simp only [if_true]
      rw [z4] at g ⊢
      exact Tot.ret ⟨rfl, fun _ => ⟨by simp only []; omega, by simp only []; omega⟩⟩
    · simp only [Bool.false_eq_true, if_false]
      refine Tot.bind (word_tot hs p _ h0 h1 (by rw [z5]; omega) (by rw [z5]; omega)) fun r hr => ?_
      rcases hr with ⟨rfl, g⟩ | rfl
      · simp only [if_true]
        rw [z5] at g ⊢
        exact Tot.ret ⟨rfl, fun _ => ⟨by simp only []; omega, by simp only []; omega⟩⟩
      · simp only [Bool.false_eq_true, if_false]
        refine Tot.bind (word_tot hs p _ h0 h1 (by rw [z4']; omega) (by rw [z4']; omega)) fun r hr => ?_
        rcases hr with ⟨rfl, g⟩ | rfl
        · simp only [if_true]
          rw [z4'] at g ⊢
          exact Tot.ret ⟨rfl, fun _ => ⟨by simp only []; omega, by simp only []; omega⟩⟩
        · simp only [Bool.false_eq_true, if_false]
          exact Tot.ret ⟨rfl, fun h => by cases h⟩
theorem bt_in {p : Int} (h : bt s p ≠ 0) : p < s.size := by
  refine Int.not_le.mp fun hc => h (bt_out s p hc)
theorem mem_tot (hs : s.size ≤ 1000000) {n : Nat} (hM : M s n) (p : Int) (h0 : 0 ≤ p) (h1 : p < s.size) (hn : (s.size : Int) - p < n + 1) : Tot (fun k => spec_reader_members.f k s p) (fun r => r.2.2.2.1 = s ∧ (r.2.2.1 = true → p < r.2.2.2.2 ∧ r.2.2.2.2 ≤ s.size)) := by
  refine Tot.succ (fun k => by rw [spec_reader_members.f, w64 (i := p + 1) (by omega) (by omega)]) ?_
  refine Tot.bind (blanks_tot hs (p + 1) (by omega) (by omega)) fun r hr => ?_
  obtain ⟨r1, q⟩ := r
  obtain ⟨e, hq1, hq2⟩ := hr
  simp only [] at e hq1 hq2 ⊢
  subst e
  refine Tot.bind (take_tot hs q 125 (by omega) hq2) fun r hr => ?_
  rcases hr with ⟨rfl, a, b⟩ | rfl
  · simp only [if_true]
    exact Tot.ret ⟨rfl, fun _ => ⟨by simp only []; omega, by simp only []; omega⟩⟩
  · simp only [Bool.false_eq_true, if_false]
    exact (hM q [] [] (by omega) hq2 (by omega) (by simp; omega) (by simp; omega)).mono fun r h => ⟨h.1, fun hb => by have := h.2 hb; omega⟩
theorem ele_tot (hs : s.size ≤ 1000000) {n : Nat} (hE : E s n) (p : Int) (h0 : 0 ≤ p) (h1 : p < s.size) (hn : (s.size : Int) - p < n + 1) : Tot (fun k => spec_reader_elements.f k s p) (fun r => r.2.2.1 = s ∧ (r.2.1 = true → p < r.2.2.2 ∧ r.2.2.2 ≤ s.size)) := by
  refine Tot.succ (fun k => by rw [spec_reader_elements.f, w64 (i := p + 1) (by omega) (by omega)]) ?_
  refine Tot.bind (blanks_tot hs (p + 1) (by omega) (by omega)) fun r hr => ?_
  obtain ⟨r1, q⟩ := r
  obtain ⟨e, hq1, hq2⟩ := hr
  simp only [] at e hq1 hq2 ⊢
  subst e
  refine Tot.bind (take_tot hs q 93 (by omega) hq2) fun r hr => ?_
  rcases hr with ⟨rfl, a, b⟩ | rfl
  · simp only [if_true]
    exact Tot.ret ⟨rfl, fun _ => ⟨by simp only []; omega, by simp only []; omega⟩⟩
  · simp only [Bool.false_eq_true, if_false]
    exact (hE q [] (by omega) hq2 (by omega) (by simp; omega)).mono fun r h => ⟨h.1, fun hb => by have := h.2 hb; omega⟩
theorem val_step (hs : s.size ≤ 1000000) {n : Nat} (hM : M s n) (hE : E s n) : V s (n + 1) := by
  intro p h0 h1 hn
  refine Tot.succ (fun k => by rw [spec_reader_value.f]) ?_
  refine Tot.bind (here_tot hs p h0) fun r hr => ?_
  subst hr
  simp only []
  refine Tot.ite (fun c => ?_) fun c1 => Tot.ite (fun c => ?_) fun c2 => Tot.ite (fun c => ?_) fun c3 => Tot.ite (fun c => ?_) fun c4 => Tot.ite (fun c => ?_) fun c5 => ?_
  · exact Tot.bind (mem_tot hs hM p h0 (bt_in (by omega)) (by omega)) fun r hr => Tot.ret ⟨hr.1, hr.2⟩
  · exact Tot.bind (ele_tot hs hE p h0 (bt_in (by omega)) (by omega)) fun r hr => Tot.ret ⟨hr.1, hr.2⟩
  · have hp := bt_in (s := s) (p := p) (by omega)
    refine Tot.bind (f := fun k => spec_reader_quoted.f k s p) (Q := Went s p) ?_ fun r hr => Tot.ret ⟨hr.1, hr.2⟩
    unfold spec_reader_quoted.f
    rw [w64 (by omega) (by omega)]
    exact (quoted_tot hs s.size (p + 1) (by omega) (by omega)).mono fun r h => ⟨h.1, fun hb => by have := h.2 hb; omega⟩
  · exact vj0_tot hs true p _ _ _ h0 h1
  · exact vj0_tot hs _ p _ _ _ h0 h1
  · exact vj0_tot hs _ p _ _ _ h0 h1
theorem ele_step (hs : s.size ≤ 1000000) {n : Nat} (hV : V s (n + 1)) (hE : E s n) : E s (n + 1) := by
  intro p ys h0 h1 hn hy
  refine Tot.succ (fun k => by rw [spec_reader_elements.l0]) ?_
  refine Tot.bind (hV p h0 h1 (by omega)) fun r hr => ?_
  obtain ⟨v1, v2, v3, v4, v5, ok, t, e⟩ := r
  obtain ⟨ht, he⟩ := hr
  simp only [] at ht he ⊢
  subst ht
  refine Tot.ite (fun c => ?_) fun c => Tot.ret ⟨rfl, fun h => by cases h⟩
  have he := he c
  refine Tot.ite (fun _ => ?_) fun c => absurd (show ys.length < 1954687338268 by omega) c
  simp only [Option.bind_some]
  refine Tot.bind (blanks_tot hs e (by omega) (by omega)) fun r hr => ?_
  obtain ⟨t, q⟩ := r
  obtain ⟨ht, hq1, hq2⟩ := hr
  simp only [] at ht hq1 hq2 ⊢
  subst ht
  refine Tot.bind (take_tot hs q 93 (by omega) hq2) fun r hr => ?_
  rcases hr with ⟨rfl, a, b⟩ | rfl
  · simp only [if_true]
    exact Tot.ret ⟨rfl, fun _ => ⟨by simp only []; omega, by simp only []; omega⟩⟩
  · simp only [Bool.false_eq_true, if_false]
    refine Tot.bind (take_tot hs q 44 (by omega) hq2) fun r hr => ?_
    rcases hr with ⟨rfl, a, b⟩ | rfl
    · simp only [if_true]
      refine Tot.bind (blanks_tot hs (q + 1) (by omega) (by omega)) fun r hr => ?_
      obtain ⟨t, z⟩ := r
      obtain ⟨ht, hz1, hz2⟩ := hr
      simp only [] at ht hz1 hz2 ⊢
      subst ht
      exact (hE z _ (by omega) hz2 (by omega) (by rw [List.length_append]; simp; omega)).mono fun r h => ⟨h.1, fun hb => by have := h.2 hb; omega⟩
    · simp only [Bool.false_eq_true, if_false]
      exact Tot.ret ⟨rfl, fun h => by cases h⟩
theorem mem_step (hs : s.size ≤ 1000000) {n : Nat} (hV : V s (n + 1)) (hM : M s n) : M s (n + 1) := by
  intro p xs ys h0 h1 hn hx hy
  have j1 : ∀ (x : Bool) (e : Int), (x = false → p < e ∧ e ≤ s.size) → Tot (fun k => spec_reader_members.j1 k xs ys p x s e) (fun r => r.2.2.2.1 = s ∧ (r.2.2.1 = true → p < r.2.2.2.2 ∧ r.2.2.2.2 ≤ s.size)) := by
    intro x e hxe
    cases x with
    | true => exact Tot.succ (fun k => by rw [spec_reader_members.j1, if_pos rfl]) (Tot.ret ⟨rfl, fun h => by cases h⟩)
    | false =>
      have he := hxe rfl
      refine Tot.succ (fun k => by rw [spec_reader_members.j1, if_neg (by decide), if_pos (by omega), Option.bind_some]) ?_
      refine Tot.bind (blanks_tot hs e (by omega) (by omega)) fun r hr => ?_
      obtain ⟨t, q⟩ := r
      obtain ⟨ht, hq1, hq2⟩ := hr
      simp only [] at ht hq1 hq2 ⊢
      subst ht
      refine Tot.bind (take_tot hs q 58 (by omega) hq2) fun r hr => ?_
      rcases hr with ⟨rfl, a, b⟩ | rfl
      · simp only [if_true]
        refine Tot.bind (blanks_tot hs (q + 1) (by omega) (by omega)) fun r hr => ?_
        obtain ⟨t, z⟩ := r
        obtain ⟨ht, hz1, hz2⟩ := hr
        simp only [] at ht hz1 hz2 ⊢
        subst ht
        refine Tot.bind (hV z (by omega) hz2 (by omega)) fun r hr => ?_
        obtain ⟨v1, v2, v3, v4, v5, ok, t, y⟩ := r
        obtain ⟨ht, hy1⟩ := hr
        simp only [] at ht hy1 ⊢
        subst ht
        refine Tot.ite (fun c => ?_) fun c => Tot.ret ⟨rfl, fun h => by cases h⟩
        have hy1 := hy1 c
        refine Tot.ite (fun _ => ?_) fun c => absurd (show ys.length < 1954687338268 by omega) c
        simp only [Option.bind_some]
        refine Tot.bind (blanks_tot hs y (by omega) (by omega)) fun r hr => ?_
        obtain ⟨t, u⟩ := r
        obtain ⟨ht, hu1, hu2⟩ := hr
        simp only [] at ht hu1 hu2 ⊢
        subst ht
        refine Tot.bind (take_tot hs u 125 (by omega) hu2) fun r hr => ?_
        rcases hr with ⟨rfl, a, b⟩ | rfl
        · simp only [if_true]
          exact Tot.ret ⟨rfl, fun _ => ⟨by simp only []; omega, by simp only []; omega⟩⟩
        · simp only [Bool.false_eq_true, if_false]
          refine Tot.bind (take_tot hs u 44 (by omega) hu2) fun r hr => ?_
          rcases hr with ⟨rfl, a, b⟩ | rfl
          · simp only [if_true]
            refine Tot.bind (blanks_tot hs (u + 1) (by omega) (by omega)) fun r hr => ?_
            obtain ⟨t, o⟩ := r
            obtain ⟨ht, ho1, ho2⟩ := hr
            simp only [] at ht ho1 ho2 ⊢
            subst ht
            exact (hM o _ _ (by omega) ho2 (by omega) (by rw [List.length_append]; simp; omega) (by rw [List.length_append]; simp; omega)).mono fun r h => ⟨h.1, fun hb => by have := h.2 hb; omega⟩
          · simp only [Bool.false_eq_true, if_false]
            exact Tot.ret ⟨rfl, fun h => by cases h⟩
      · simp only [Bool.false_eq_true, if_false]
        exact Tot.ret ⟨rfl, fun h => by cases h⟩
  refine Tot.succ (fun k => by rw [spec_reader_members.l0]) ?_
  refine Tot.bind (here_tot hs p h0) fun r hr => ?_
  subst hr
  refine Tot.ite (fun c => ?_) fun c => j1 true p (fun h => by cases h)
  have hp := bt_in (s := s) (p := p) (by omega)
  refine Tot.bind (f := fun k => spec_reader_quoted.f k s p) (Q := Went s p) ?_ fun r hr => ?_
  · unfold spec_reader_quoted.f
    rw [w64 (by omega) (by omega)]
    exact (quoted_tot hs s.size (p + 1) (by omega) (by omega)).mono fun r h => ⟨h.1, fun hb => by have := h.2 hb; omega⟩
  · obtain ⟨b, t, e⟩ := r
    obtain ⟨ht, he⟩ := hr
    simp only [] at ht he ⊢
    subst ht
    exact j1 (!b) e (fun h => he (by simpa using h))
theorem all_tot (hs : s.size ≤ 1000000) : ∀ n : Nat, V s n ∧ M s n ∧ E s n
  | 0 => ⟨fun p _ _ h => by omega, fun p _ _ _ _ h => by omega, fun p _ _ _ h => by omega⟩
  | n + 1 => by
    obtain ⟨hV, hM, hE⟩ := all_tot hs n
    have hV1 := val_step hs hM hE
    exact ⟨hV1, mem_step hs hV1 hM, ele_step hs hV1 hE⟩
/-- The reader answers, whatever the text. -/
theorem places_tot (s : ByteArray) (hs : s.size ≤ 1000000) : Tot (fun k => spec_Places.f k s) (fun _ => True) := by
  have hA := (all_tot hs (s.size + 1)).1
  unfold spec_Places.f
  refine Tot.bind (blanks_tot hs 0 (by omega) (by omega)) fun r hr => ?_
  obtain ⟨t, p⟩ := r
  obtain ⟨ht, hp1, hp2⟩ := hr
  simp only [] at ht hp1 hp2 ⊢
  subst ht
  refine Tot.bind (hA p hp1 hp2 (by omega)) fun r hr => ?_
  obtain ⟨v1, v2, v3, v4, v5, ok, t, e⟩ := r
  obtain ⟨ht, he⟩ := hr
  simp only [] at ht he ⊢
  subst ht
  refine Tot.ite (fun c => ?_) fun c => Tot.ret trivial
  have he := he c
  refine Tot.bind (blanks_tot hs e (by omega) (by omega)) fun r hr => ?_
  exact Tot.ite (fun c => Tot.ret trivial) fun c => Tot.ret trivial

end Go.Proofs.Ytdllbnecbbggfaa.ReadXFnPrColorBare
