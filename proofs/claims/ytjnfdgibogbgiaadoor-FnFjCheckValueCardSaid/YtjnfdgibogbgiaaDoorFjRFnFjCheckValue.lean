/- The reference's reader of escapes, a step at a time (for prints without the reference's Unquote).
   Answers that are there from some number of steps on.
   The reference's reader of JSON texts answers as the plain functions of FjPlain say (blanks, digits, numbers, strings).
   The reference's reader of JSON values answers as the plain function Fj.val says.
   The reference's reader of JSON values answers as the plain function Fj.val says: arrays and objects.
   The reference's reader of JSON values answers as the plain function Fj.val says, whatever the text. -/
import Derived.Test.YtjnfdgibogbgiaaDoorXFnFjCheckValuex8
import Derived.Test.YtjnfdgibogbgiaaDoorBase
import Derived.Test.YtjnfdgibogbgiaaDoorFjA
namespace Go.Proofs.YtjnfdgibogbgiaaDoor.ReadXFnFjCheckValue
open Go.RowKit Go.Proofs.YtjnfdgibogbgiaaDoor.Base Go.Proofs.YtjnfdgibogbgiaaDoor.XFnFjCheckValue Go.Proofs.YtjnfdgibogbgiaaDoorW.PrintWords Go.Proofs.YtjnfdgibogbgiaaDoorW.PrintLast
set_option linter.unusedVariables false
set_option linter.unusedSimpArgs false

/-- For all k from some number on. -/
def Ev (P : Nat → Prop) : Prop := ∃ K, ∀ k, K ≤ k → P k
theorem Ev.and {P Q : Nat → Prop} (h : Ev P) (g : Ev Q) : Ev fun k => P k ∧ Q k := by
  obtain ⟨a, h⟩ := h; obtain ⟨b, g⟩ := g
  exact ⟨max a b, fun k hk => ⟨h k (by omega), g k (by omega)⟩⟩
theorem Ev.mp {P Q : Nat → Prop} (h : Ev P) (g : ∀ k, P k → Q k) : Ev Q := by
  obtain ⟨a, h⟩ := h; exact ⟨a, fun k hk => g k (h k hk)⟩
theorem Ev.all {P : Nat → Prop} (h : ∀ k, P k) : Ev P := ⟨0, fun k _ => h k⟩
theorem Ev.succ {P Q : Nat → Prop} (h : Ev P) (g : ∀ k, P k → Q (k + 1)) : Ev Q := by
  obtain ⟨a, h⟩ := h
  refine ⟨a + 1, fun k hk => ?_⟩
  obtain ⟨j, rfl⟩ : ∃ j, k = j + 1 := ⟨k - 1, by omega⟩
  exact g j (h j (by omega))
theorem Ev.ge (K : Nat) : Ev fun k => K ≤ k := ⟨K, fun k hk => hk⟩
theorem Ev.ex {P : Nat → Prop} (h : Ev P) : ∃ k, P k := by obtain ⟨a, h⟩ := h; exact ⟨a, h a (Nat.le_refl _)⟩

def hv (c : Int) : Option Int := if 48 ≤ c ∧ c ≤ 57 then some (c - 48) else if 97 ≤ c ∧ c ≤ 102 then some (c - 87) else if 65 ≤ c ∧ c ≤ 70 then some (c - 55) else none
theorem hv_range {c v : Int} (h : hv c = some v) : 0 ≤ v ∧ v ≤ 15 := by
  unfold hv at h
  repeat' split at h
  all_goals first
    | (cases h; done)
    | (obtain rfl := Option.some.inj h; omega)
theorem hexDigit_eq (k : Nat) (hk : 2 ≤ k) (c : Int) : spec_hexDigit.f k c = some (match hv c with | some v => (v, true) | none => (0, false)) := by
  obtain ⟨j, rfl⟩ : ∃ j, k = j + 2 := ⟨k - 2, by omega⟩
  by_cases a1 : 48 ≤ c <;> by_cases a2 : c ≤ 57 <;> by_cases a3 : 97 ≤ c <;> by_cases a4 : c ≤ 102 <;> by_cases a5 : 65 ≤ c <;> by_cases a6 : c ≤ 70 <;>
    first
      | omega
      | (simp [spec_hexDigit.f, spec_hexDigit.j0, spec_hexDigit.j1, hv, a1, a2, a3, a4, a5, a6]; done)
      | (simp [spec_hexDigit.f, spec_hexDigit.j0, spec_hexDigit.j1, hv, a1, a2, a3, a4, a5, a6]; omega)

def h4 (a b c d : Option Int) : Option Int := a.bind fun a => b.bind fun b => c.bind fun c => d.bind fun d => some (a * 4096 + b * 256 + c * 16 + d)
def Simple (c : Int) : Prop := c = 34 ∨ c = 92 ∨ c = 47 ∨ c = 98 ∨ c = 102 ∨ c = 110 ∨ c = 114 ∨ c = 116
theorem bt_out (s : ByteArray) (i : Int) (h : s.size ≤ i) : bt s i = 0 := by
  rw [← rd_bytesOf]
  exact rd_out _ _ (by rw [bytesOf_length]; omega)
theorem hv_zero : hv 0 = none := by decide
theorem here_eq (s : ByteArray) (p : Int) (h : 0 ≤ p) : spec_reader_here.f s p = some (bt s p, s, p) := by
  unfold spec_reader_here.f
  by_cases c : p < s.size
  · rw [if_pos c, if_pos h]
  · rw [if_neg c, bt_out s p (by omega)]
theorem escape_simple (k : Nat) (hk : 1 ≤ k) (s : ByteArray) (p : Int) (h0 : 0 ≤ p) (h1 : p ≤ 140737488355328) (h : Simple (bt s p)) : spec_reader_escape.f k s p = some (true, s, p + 1) := by
  obtain ⟨j, rfl⟩ : ∃ j, k = j + 1 := ⟨k - 1, by omega⟩
  unfold spec_reader_escape.f
  rw [here_eq s p h0]
  simp only [Option.bind_some, spec_reader_escape.j0]
  rw [w64 (by omega) (by omega)]
  unfold Simple at h
  rcases h with h | h | h | h | h | h | h | h <;> simp [h]
theorem loop_step (k : Nat) (hk : 2 ≤ k) (s : ByteArray) (n p : Int) (h0 : 0 ≤ p) (h1 : p ≤ 140737488400000) (hn0 : 0 ≤ n) (hn : n < 4) :
    spec_reader_escape.l0 (k + 1) n s p = if (hv (bt s p)).isSome then spec_reader_escape.l0 k (n + 1) s (p + 1) else some (false, s, p) := by
  rw [spec_reader_escape.l0, if_pos hn, here_eq s p h0]
  simp only [Option.bind_some]
  rw [hexDigit_eq k hk]
  cases hv (bt s p) with
  | none => simp
  | some v =>
    simp only [Option.bind_some, if_true, Option.isSome_some]
    rw [w64 (i := n + 1) (by omega) (by omega), w64 (i := p + 1) (by omega) (by omega)]
theorem escape_u (k : Nat) (hk : 12 ≤ k) (s : ByteArray) (p : Int) (h0 : 0 ≤ p) (h1 : p ≤ 140737488355328) (h : bt s p = 117) :
    ∃ q, spec_reader_escape.f k s p = some (if (h4 (hv (bt s (p + 1))) (hv (bt s (p + 2))) (hv (bt s (p + 3))) (hv (bt s (p + 4)))).isSome then (true, s, p + 5) else (false, s, q)) := by
  obtain ⟨j, rfl⟩ : ∃ j, k = j + 12 := ⟨k - 12, by omega⟩
  have hf : spec_reader_escape.f (j + 12) s p = spec_reader_escape.l0 (j + 11) 0 s (p + 1) := by
    unfold spec_reader_escape.f
    rw [here_eq s p h0]
    simp only [Option.bind_some, spec_reader_escape.j0]
    rw [w64 (i := p + 1) (by omega) (by omega)]
    simp [h]
  rw [hf, loop_step (j + 10) (by omega) s 0 (p + 1) (by omega) (by omega) (by omega) (by omega)]
  unfold h4
  cases e1 : hv (bt s (p + 1)) with
  | none => exact ⟨_, rfl⟩
  | some a =>
    simp only [Option.isSome_some, if_true, Option.bind_some]
    rw [loop_step (j + 9) (by omega) s _ _ (by omega) (by omega) (by omega) (by omega), show p + 1 + 1 = p + 2 by omega]
    cases e2 : hv (bt s (p + 2)) with
    | none => exact ⟨_, rfl⟩
    | some a =>
      simp only [Option.isSome_some, if_true, Option.bind_some]
      rw [loop_step (j + 8) (by omega) s _ _ (by omega) (by omega) (by omega) (by omega), show p + 2 + 1 = p + 3 by omega]
      cases e3 : hv (bt s (p + 3)) with
      | none => exact ⟨_, rfl⟩
      | some a =>
        simp only [Option.isSome_some, if_true, Option.bind_some]
        rw [loop_step (j + 7) (by omega) s _ _ (by omega) (by omega) (by omega) (by omega), show p + 3 + 1 = p + 4 by omega]
        cases e4 : hv (bt s (p + 4)) with
        | none => exact ⟨_, rfl⟩
        | some a =>
          refine ⟨0, ?_⟩
          simp only [Option.isSome_some, if_true, Option.bind_some]
          rw [spec_reader_escape.l0, if_neg (by omega), show p + 4 + 1 = p + 5 by omega]
theorem escape_else (k : Nat) (hk : 1 ≤ k) (s : ByteArray) (p : Int) (h0 : 0 ≤ p) (h1 : p ≤ 140737488355328) (h : ¬ Simple (bt s p)) (hu : bt s p ≠ 117) : spec_reader_escape.f k s p = some (false, s, p) := by
  obtain ⟨j, rfl⟩ : ∃ j, k = j + 1 := ⟨k - 1, by omega⟩
  unfold spec_reader_escape.f
  rw [here_eq s p h0]
  simp only [Option.bind_some, spec_reader_escape.j0]
  unfold Simple at h
  simp only [not_or] at h
  obtain ⟨n1, n2, n3, n4, n5, n6, n7, n8⟩ := h
  simp [n1, n2, n3, n4, n5, n6, n7, n8, hu]

end Go.Proofs.YtjnfdgibogbgiaaDoor.ReadXFnFjCheckValue
namespace Go.Proofs.YtjnfdgibogbgiaaDoor.ReadXFnFjCheckValue
open Go.RowKit Go.Proofs.YtjnfdgibogbgiaaDoor.Base Go.Proofs.YtjnfdgibogbgiaaDoor.XFnFjCheckValue Go.Proofs.YtjnfdgibogbgiaaDoorW.PrintWords Go.Proofs.YtjnfdgibogbgiaaDoorW.PrintLast
set_option linter.unusedVariables false
set_option linter.unusedSimpArgs false

/-- It answers, from some number of steps on always the same, and of the answer Q. -/
def Tot {α : Type} (f : Nat → Option α) (Q : α → Prop) : Prop := ∃ r, (Ev fun k => f k = some r) ∧ Q r
theorem Tot.bind {α β : Type} {f : Nat → Option α} {g : Nat → α → Option β} {Q : α → Prop} {R : β → Prop} (h : Tot f Q) (hg : ∀ r, Q r → Tot (fun k => g k r) R) : Tot (fun k => (f k).bind (g k)) R := by
  obtain ⟨r, hr, hq⟩ := h
  obtain ⟨t, ht, hR⟩ := hg r hq
  exact ⟨t, (hr.and ht).mp fun k hk => by show (f k).bind (g k) = some t; rw [hk.1]; exact hk.2, hR⟩
theorem Tot.succ {α : Type} {f g : Nat → Option α} {Q : α → Prop} (h : ∀ k, f (k + 1) = g k) (hg : Tot g Q) : Tot f Q := by
  obtain ⟨r, hr, hq⟩ := hg
  exact ⟨r, hr.succ fun k hk => (h k).trans hk, hq⟩
theorem Tot.ret {α : Type} {Q : α → Prop} {r : α} (h : Q r) : Tot (fun _ => some r) Q := ⟨r, Ev.all fun _ => rfl, h⟩
theorem Tot.eq {α : Type} {f : Nat → Option α} {Q : α → Prop} {r : α} (hf : ∀ k, f k = some r) (h : Q r) : Tot f Q := ⟨r, Ev.all hf, h⟩
theorem Tot.ite {α : Type} {c : Prop} [Decidable c] {f g : Nat → Option α} {Q : α → Prop} (h : c → Tot f Q) (g' : ¬ c → Tot g Q) : Tot (fun k => if c then f k else g k) Q := by
  by_cases hc : c
  · obtain ⟨r, hr, hq⟩ := h hc
    exact ⟨r, hr.mp fun k hk => by show (if c then f k else g k) = some r; rw [if_pos hc]; exact hk, hq⟩
  · obtain ⟨r, hr, hq⟩ := g' hc
    exact ⟨r, hr.mp fun k hk => by show (if c then f k else g k) = some r; rw [if_neg hc]; exact hk, hq⟩
theorem Tot.mono {α : Type} {f : Nat → Option α} {Q R : α → Prop} (h : Tot f Q) (g : ∀ r, Q r → R r) : Tot f R := by
  obtain ⟨r, hr, hq⟩ := h
  exact ⟨r, hr, g r hq⟩

theorem tot_lift {α : Type} {f : Nat → Option α} (hm : ∀ k, LeO (f k) (f (k + 1))) {k : Nat} {r : α} (h : f k = some r) : ∀ j, f (k + j) = some r
  | 0 => h
  | j + 1 => hm (k + j) r (tot_lift hm h j)
variable {s : ByteArray}
theorem here_tot (hs : s.size ≤ 1000000) (p : Int) (h0 : 0 ≤ p) : Tot (fun _ => spec_reader_here.f s p) (fun r => r = (bt s p, s, p)) := Tot.eq (fun _ => here_eq s p h0) rfl
theorem take_tot (hs : s.size ≤ 1000000) (p c : Int) (h0 : 0 ≤ p) (h1 : p ≤ s.size) : Tot (fun _ => spec_reader_take.f s p c) (fun r => r = (true, s, p + 1) ∧ p < s.size ∧ bt s p = c ∨ r = (false, s, p)) := by
  unfold spec_reader_take.f
  by_cases c1 : p < s.size
  · by_cases c2 : bt s p = c
    · exact Tot.eq (fun _ => by rw [if_pos c1, if_pos h0, if_pos c2, w64 (by omega) (by omega)]) (.inl ⟨rfl, c1, c2⟩)
    · exact Tot.eq (fun _ => by rw [if_pos c1, if_pos h0, if_neg c2]) (.inr rfl)
  · exact Tot.eq (fun _ => by rw [if_neg c1]) (.inr rfl)
theorem bt_digit {p : Int} (h : 48 ≤ bt s p) : p < s.size := by
  refine Int.not_le.mp fun hc => ?_
  rw [bt_out s p hc] at h
  omega
end Go.Proofs.YtjnfdgibogbgiaaDoor.ReadXFnFjCheckValue
namespace Go.Proofs.YtjnfdgibogbgiaaDoor.ReadXFnFjCheckValue
open Go.RowKit Go.Proofs.YtjnfdgibogbgiaaDoor.Base Go.Proofs.YtjnfdgibogbgiaaDoor.XFnFjCheckValue Go.Proofs.YtjnfdgibogbgiaaDoorW.PrintWords Go.Proofs.YtjnfdgibogbgiaaDoorW.PrintLast
set_option linter.unusedVariables false
set_option linter.unusedSimpArgs false

variable {s : ByteArray}
/-- The bytes of s from p on. -/
abbrev D (s : ByteArray) (p : Nat) : List Int := (bytesOf s).drop p
theorem rd_D (p j : Nat) : rd (D s p) (j : Int) = bt s ((p + j : Nat) : Int) := by
  rw [← rd_bytesOf]
  unfold rd
  simp only [Int.toNat_natCast, List.getD_eq_getElem?_getD, List.getElem?_drop]
theorem rd_D0 (p : Nat) : rd (D s p) 0 = bt s (p : Int) := rd_D p 0
theorem D_cons (p : Nat) (h : p < s.size) : D s p = bt s (p : Int) :: D s (p + 1) := by
  have hl : p < (bytesOf s).length := by rw [bytesOf_length]; exact h
  have e : (bytesOf s)[p]'hl = bt s (p : Int) := by
    rw [← rd_bytesOf]
    unfold rd
    simp only [Int.toNat_natCast, List.getD_eq_getElem?_getD]
    rw [List.getElem?_eq_getElem hl]
    rfl
  rw [← e]
  exact List.drop_eq_getElem_cons hl
theorem D_nil (p : Nat) (h : s.size ≤ p) : D s p = [] := List.drop_of_length_le (by rw [bytesOf_length]; exact h)
theorem D_drop (p m : Nat) : (D s p).drop m = D s (p + m) := by rw [List.drop_drop]
theorem D_len (p : Nat) : (D s p).length = s.size - p := by rw [List.length_drop, bytesOf_length]
theorem blank_eq (c : Int) : spec_Blank.f c = some (Fj.blank c) := by
  unfold spec_Blank.f Fj.blank
  by_cases a : c = 32
  · subst a; rfl
  · by_cases b : c = 9
    · subst b; rfl
    · by_cases d : c = 10
      · subst d; rfl
      · by_cases e : c = 13
        · subst e; rfl
        · have a' := beq_eq_false_iff_ne.mpr a
          have b' := beq_eq_false_iff_ne.mpr b
          have d' := beq_eq_false_iff_ne.mpr d
          have e' := beq_eq_false_iff_ne.mpr e
          simp [a, b, d, e, a', b', d', e']
theorem ws_at (p : Nat) : Fj.ws (D s p) = if p < s.size ∧ Fj.blank (bt s (p : Int)) = true then Fj.ws (D s (p + 1)) + 1 else 0 := by
  by_cases h : p < s.size
  · rw [D_cons p h, Fj.ws]
    by_cases b : Fj.blank (bt s (p : Int)) = true
    · rw [if_pos b, if_pos ⟨h, b⟩]
    · rw [if_neg b, if_neg (fun x => b x.2)]
  · rw [D_nil p (by omega), if_neg (fun x => h x.1)]; rfl
theorem blanks_ex (hs : s.size ≤ 1000000) : ∀ (m p : Nat), p ≤ s.size → s.size - p ≤ m → Tot (fun k => spec_reader_blanks.l0 k s (p : Int)) (fun r => r = (s, ((p + Fj.ws (D s p) : Nat) : Int)))
  | m, p, h1, hm => by
    by_cases c : p < s.size
    · cases m with
      | zero => omega
      | succ m =>
        refine Tot.succ (fun k => by rw [spec_reader_blanks.l0, if_pos (by omega), if_pos (by omega)]) ?_
        refine Tot.bind (f := fun _ => spec_Blank.f (bt s (p : Int))) (Q := fun b => b = Fj.blank (bt s (p : Int))) (Tot.eq (fun _ => blank_eq _) rfl) fun b hb => ?_
        subst hb
        refine Tot.ite (fun hb => ?_) (fun hb => Tot.ret ?_)
        · rw [w64 (by omega) (by omega)]
          refine (blanks_ex hs m (p + 1) (by omega) (by omega)).mono fun r h => ?_
          rw [h, ws_at p, if_pos ⟨c, hb⟩]
          congr 2
          omega
        · rw [ws_at p, if_neg (fun x => hb x.2)]; rfl
    · exact Tot.succ (fun k => by rw [spec_reader_blanks.l0, if_neg (by omega)]) (Tot.ret (by rw [ws_at p, if_neg (fun x => c x.1)]; rfl))
theorem blanks_is (hs : s.size ≤ 1000000) (p : Nat) (h1 : p ≤ s.size) : Tot (fun k => spec_reader_blanks.f k s (p : Int)) (fun r => r = (s, ((p + Fj.ws (D s p) : Nat) : Int))) := by
  unfold spec_reader_blanks.f
  exact blanks_ex hs s.size p h1 (by omega)
theorem digs_at (p : Nat) : Fj.digs (D s p) = if 48 ≤ bt s (p : Int) ∧ bt s (p : Int) ≤ 57 then Fj.digs (D s (p + 1)) + 1 else 0 := by
  by_cases h : p < s.size
  · rw [D_cons p h, Fj.digs]
  · rw [D_nil p (by omega), bt_out s p (by omega), if_neg (by omega)]; rfl
theorem digits_ex (hs : s.size ≤ 1000000) : ∀ (m p : Nat) (q : Int), p ≤ s.size → s.size - p ≤ m → Tot (fun k => spec_reader_digits.l0 k q (bt s (p : Int)) s (p : Int)) (fun r => r = (decide (((p + Fj.digs (D s p) : Nat) : Int) > q), s, ((p + Fj.digs (D s p) : Nat) : Int)))
  | m, p, q, h1, hm => by
    by_cases c : 48 ≤ bt s (p : Int) ∧ bt s (p : Int) ≤ 57
    · have hp := bt_digit c.1
      cases m with
      | zero => omega
      | succ m =>
        refine Tot.succ (fun k => by rw [spec_reader_digits.l0, if_pos c.1, if_pos c.2, w64 (i := (p : Int) + 1) (by omega) (by omega)]) ?_
        refine Tot.bind (here_tot hs ((p : Int) + 1) (by omega)) fun r hr => ?_
        subst hr
        refine (digits_ex hs m (p + 1) q (by omega) (by omega)).mono fun r h => ?_
        rw [h, digs_at p, if_pos c]
        have e : p + 1 + Fj.digs (D s (p + 1)) = p + (Fj.digs (D s (p + 1)) + 1) := by omega
        rw [e]
    · have e : p + Fj.digs (D s p) = p := by rw [digs_at p, if_neg c]; rfl
      have fin : Tot (fun _ => some (decide ((p : Int) > q), s, (p : Int))) (fun r => r = (decide (((p + Fj.digs (D s p) : Nat) : Int) > q), s, ((p + Fj.digs (D s p) : Nat) : Int))) := Tot.ret (by rw [e])
      by_cases c1 : 48 ≤ bt s (p : Int)
      · exact Tot.succ (fun k => by rw [spec_reader_digits.l0, if_pos c1, if_neg (fun x => c ⟨c1, x⟩)]) fin
      · exact Tot.succ (fun k => by rw [spec_reader_digits.l0, if_neg c1]) fin
theorem digits_is (hs : s.size ≤ 1000000) (p : Nat) (h1 : p ≤ s.size) : Tot (fun k => spec_reader_digits.f k s (p : Int)) (fun r => r = (decide (Fj.digs (D s p) ≠ 0), s, ((p + Fj.digs (D s p) : Nat) : Int))) := by
  unfold spec_reader_digits.f
  refine Tot.bind (here_tot hs (p : Int) (by omega)) fun r hr => ?_
  subst hr
  refine (digits_ex hs s.size p (p : Int) h1 (by omega)).mono fun r h => ?_
  rw [h]
  congr 1
  exact decide_eq_decide.mpr (by omega)
/-- What a reader answers, exactly. -/
def Ans (s : ByteArray) (o : Option Nat) (r : Bool × ByteArray × Int) : Prop := r.2.1 = s ∧ match o with
  | some e => r.1 = true ∧ r.2.2 = (e : Int) ∧ e ≤ s.size
  | none => r.1 = false
/-- One byte. -/
theorem take_is (hs : s.size ≤ 1000000) (p : Nat) (c : Int) (h1 : p ≤ s.size) (hc : c ≠ 0) : Tot (fun _ => spec_reader_take.f s (p : Int) c) (fun r => r = if bt s (p : Int) = c then (true, s, ((p + 1 : Nat) : Int)) else (false, s, (p : Int))) := by
  unfold spec_reader_take.f
  by_cases c1 : (p : Int) < s.size
  · by_cases c2 : bt s (p : Int) = c
    · exact Tot.eq (fun _ => by rw [if_pos c1, if_pos (by omega), if_pos c2, w64 (by omega) (by omega)]) (by rw [if_pos c2]; rfl)
    · exact Tot.eq (fun _ => by rw [if_pos c1, if_pos (by omega), if_neg c2]) (by rw [if_neg c2])
  · have hz := bt_out s (p : Int) (by omega)
    exact Tot.eq (fun _ => by rw [if_neg c1]) (by rw [hz, if_neg (Ne.symm hc)])
theorem in_text {p : Nat} {c : Int} (h : bt s (p : Int) = c) (hc : c ≠ 0) : p < s.size := by
  refine Nat.lt_of_not_le fun hle => ?_
  rw [bt_out s (p : Int) (by omega)] at h
  exact hc h.symm
theorem digs_size (p : Nat) : p ≤ s.size → p + Fj.digs (D s p) ≤ s.size := fun h => by
  have := Fj.digs_le (D s p)
  rw [D_len] at this
  omega
/-- The reference's numbers: behind the letter, behind the fraction, behind the whole part; all at places of the text. -/
def nE (s : ByteArray) (p : Nat) : Option Nat :=
  if bt s (p : Int) = 43 ∨ bt s (p : Int) = 45 then (if Fj.digs (D s (p + 1)) = 0 then none else some (p + 1 + Fj.digs (D s (p + 1)))) else (if Fj.digs (D s p) = 0 then none else some (p + Fj.digs (D s p)))
def nX (s : ByteArray) (p : Nat) : Option Nat := if bt s (p : Int) = 101 ∨ bt s (p : Int) = 69 then nE s (p + 1) else some p
def nF (s : ByteArray) (p : Nat) : Option Nat := if bt s (p : Int) = 46 then (if Fj.digs (D s (p + 1)) = 0 then none else nX s (p + 1 + Fj.digs (D s (p + 1)))) else nX s p
def nW (s : ByteArray) (p : Nat) : Option Nat := if bt s (p : Int) = 48 then nF s (p + 1) else (if Fj.digs (D s p) = 0 then none else nF s (p + Fj.digs (D s p)))
def nN (s : ByteArray) (p : Nat) : Option Nat := if bt s (p : Int) = 45 then nW s (p + 1) else nW s p
theorem digits_ans (hs : s.size ≤ 1000000) (p : Nat) (h1 : p ≤ s.size) : Tot (fun k => spec_reader_digits.f k s (p : Int)) (Ans s (if Fj.digs (D s p) = 0 then none else some (p + Fj.digs (D s p)))) := by
  refine (digits_is hs p h1).mono fun r h => ?_
  subst h
  by_cases c : Fj.digs (D s p) = 0
  · rw [if_pos c]; exact ⟨rfl, by simp [c]⟩
  · rw [if_neg c]; exact ⟨rfl, by simp [c], rfl, digs_size p h1⟩
theorem j2_is (hs : s.size ≤ 1000000) (p : Nat) (h1 : p ≤ s.size) : Tot (fun k => spec_reader_number.j2 k true s (p : Int)) (Ans s (nE s p)) := by
  refine Tot.succ (fun k => by rw [spec_reader_number.j2, if_pos rfl]) ?_
  refine Tot.bind (take_is hs p 43 h1 (by decide)) fun r hr => ?_
  subst hr
  unfold nE
  by_cases c1 : bt s (p : Int) = 43
  · have := in_text c1 (by decide)
    simp only [c1, if_true, true_or]
    refine Tot.bind (digits_ans hs (p + 1) (by omega)) fun r hr => Tot.ret ?_
    exact hr
  · simp only [c1, if_false, Bool.false_eq_true, false_or]
    refine Tot.bind (take_is hs p 45 h1 (by decide)) fun r hr => ?_
    subst hr
    by_cases c2 : bt s (p : Int) = 45
    · have := in_text c2 (by decide)
      simp only [c2, if_true]
      refine Tot.bind (digits_ans hs (p + 1) (by omega)) fun r hr => Tot.ret ?_
      exact hr
    · simp only [c2, if_false]
      refine Tot.bind (digits_ans hs p (by omega)) fun r hr => Tot.ret ?_
      exact hr
theorem j1_is (hs : s.size ≤ 1000000) (p : Nat) (h1 : p ≤ s.size) : Tot (fun k => spec_reader_number.j1 k false s (p : Int)) (Ans s (nX s p)) := by
  refine Tot.succ (fun k => by rw [spec_reader_number.j1, if_neg (by decide)]) ?_
  refine Tot.bind (take_is hs p 101 h1 (by decide)) fun r hr => ?_
  subst hr
  unfold nX
  by_cases c1 : bt s (p : Int) = 101
  · have := in_text c1 (by decide)
    simp only [c1, if_true, true_or]
    exact j2_is hs (p + 1) (by omega)
  · simp only [c1, if_false, Bool.false_eq_true, false_or]
    refine Tot.bind (take_is hs p 69 h1 (by decide)) fun r hr => ?_
    subst hr
    by_cases c2 : bt s (p : Int) = 69
    · have := in_text c2 (by decide)
      simp only [c2, if_true]
      exact j2_is hs (p + 1) (by omega)
    · simp only [c2, if_false]
      exact Tot.succ (fun k => by rw [spec_reader_number.j2, if_neg (by decide)]) (Tot.ret ⟨rfl, rfl, rfl, h1⟩)
theorem j0_is (hs : s.size ≤ 1000000) (p : Nat) (h1 : p ≤ s.size) : Tot (fun k => spec_reader_number.j0 k false s (p : Int)) (Ans s (nF s p)) := by
  refine Tot.succ (fun k => by rw [spec_reader_number.j0, if_neg (by decide)]) ?_
  refine Tot.bind (take_is hs p 46 h1 (by decide)) fun r hr => ?_
  subst hr
  unfold nF
  by_cases c1 : bt s (p : Int) = 46
  · have hp := in_text c1 (by decide)
    simp only [c1, if_true]
    refine Tot.bind (digits_is hs (p + 1) (by omega)) fun r hr => ?_
    subst hr
    by_cases c2 : Fj.digs (D s (p + 1)) = 0
    · simp only [c2, ne_eq, not_true_eq_false, decide_false, Bool.not_false, if_true]
      exact Tot.succ (fun k => by rw [spec_reader_number.j1, if_pos rfl]) (Tot.ret ⟨rfl, rfl⟩)
    · simp only [c2, ne_eq, not_false_eq_true, decide_true, Bool.not_true, if_false]
      exact j1_is hs (p + 1 + Fj.digs (D s (p + 1))) (digs_size (p + 1) (by omega))
  · simp only [c1, if_false, Bool.false_eq_true]
    exact j1_is hs p h1
theorem number_is (hs : s.size ≤ 1000000) (p : Nat) (h1 : p ≤ s.size) : Tot (fun k => spec_reader_number.f k s (p : Int)) (Ans s (nN s p)) := by
  unfold spec_reader_number.f nN
  have rest : ∀ q : Nat, q ≤ s.size → Tot (fun k => (spec_reader_take.f s (q : Int) 48).bind fun bt127 => (if bt127.1 = true then (spec_reader_number.j0 k false bt127.2.1 bt127.2.2) else ((spec_reader_digits.f k bt127.2.1 bt127.2.2).bind fun bt130 => (spec_reader_number.j0 k (!bt130.1) bt130.2.1 bt130.2.2)))) (Ans s (nW s q)) := by
    intro q hq
    refine Tot.bind (take_is hs q 48 hq (by decide)) fun r hr => ?_
    subst hr
    unfold nW
    by_cases c1 : bt s (q : Int) = 48
    · have := in_text c1 (by decide)
      simp only [c1, if_true]
      exact j0_is hs (q + 1) (by omega)
    · simp only [c1, if_false, Bool.false_eq_true]
      refine Tot.bind (digits_is hs q hq) fun r hr => ?_
      subst hr
      by_cases c2 : Fj.digs (D s q) = 0
      · simp only [c2, ne_eq, not_true_eq_false, decide_false, Bool.not_false, if_true]
        exact Tot.succ (fun k => by rw [spec_reader_number.j0, if_pos rfl]) (Tot.ret ⟨rfl, rfl⟩)
      · simp only [c2, ne_eq, not_false_eq_true, decide_true, Bool.not_true, if_false]
        exact j0_is hs (q + Fj.digs (D s q)) (digs_size q hq)
  refine Tot.bind (take_is hs p 45 h1 (by decide)) fun r hr => ?_
  subst hr
  by_cases c1 : bt s (p : Int) = 45
  · have := in_text c1 (by decide)
    simp only [c1, if_true]
    exact rest (p + 1) (by omega)
  · simp only [c1, if_false]
    exact rest p h1

/-- The numbers of fastjson's Validate are the reference's, but that a first zero has no digit behind it. -/
theorem expo_eq (a m : Nat) : (Fj.expo (D s a) m).map (a + ·) = nX s (a + m) := by
  unfold Fj.expo nX nE
  simp only [rd_D, D_drop]
  have e1 : a + (m + 1) = a + m + 1 := by omega
  have e2 : a + (m + 2) = a + m + 1 + 1 := by omega
  rw [e1, e2]
  by_cases c : bt s ((a + m : Nat) : Int) = 101 ∨ bt s ((a + m : Nat) : Int) = 69
  · rw [if_pos c, if_pos c]
    by_cases d : bt s ((a + m + 1 : Nat) : Int) = 45 ∨ bt s ((a + m + 1 : Nat) : Int) = 43
    · rw [if_pos d, if_pos d.symm]
      by_cases z : Fj.digs (D s (a + m + 1 + 1)) = 0
      · rw [if_pos z, if_pos z]; rfl
      · rw [if_neg z, if_neg z]
        simp only [Option.map_some]
        congr 1; omega
    · have d' : ¬ (bt s ((a + m + 1 : Nat) : Int) = 43 ∨ bt s ((a + m + 1 : Nat) : Int) = 45) := fun x => d x.symm
      rw [if_neg d, if_neg d']
      by_cases z : Fj.digs (D s (a + m + 1)) = 0
      · rw [if_pos z, if_pos z]; rfl
      · rw [if_neg z, if_neg z]
        simp only [Option.map_some]
        congr 1; omega
  · rw [if_neg c, if_neg c]; rfl
theorem frac_eq (a m : Nat) : (Fj.frac (D s a) m).map (a + ·) = nF s (a + m) := by
  unfold Fj.frac nF
  simp only [rd_D, D_drop]
  have e1 : a + (m + 1) = a + m + 1 := by omega
  rw [e1]
  by_cases c : bt s ((a + m : Nat) : Int) = 46
  · rw [if_pos c, if_pos c]
    by_cases z : Fj.digs (D s (a + m + 1)) = 0
    · rw [if_pos z, if_pos z]; rfl
    · rw [if_neg z, if_neg z, expo_eq]
      congr 1; omega
  · rw [if_neg c, if_neg c]; exact expo_eq a m
/-- A whole part that is a zero, and a digit behind it. -/
def Zero2 (s : ByteArray) (p : Nat) : Prop := bt s (p : Int) = 48 ∧ 48 ≤ bt s ((p + 1 : Nat) : Int) ∧ bt s ((p + 1 : Nat) : Int) ≤ 57
theorem zero2_nW {p : Nat} (h : Zero2 s p) : nW s p = some (p + 1) := by
  obtain ⟨h1, h2, h3⟩ := h
  unfold nW nF nX
  rw [if_pos h1, if_neg (by omega), if_neg (by omega)]
theorem whole_eq (a m : Nat) : (Zero2 s (a + m) ∧ Fj.whole (D s a) m = none) ∨ (¬ Zero2 s (a + m) ∧ (Fj.whole (D s a) m).map (a + ·) = nW s (a + m)) := by
  unfold Fj.whole nW
  simp only [rd_D, D_drop]
  by_cases c : bt s ((a + m : Nat) : Int) = 48
  · have hd := digs_at (s := s) (a + m)
    rw [if_pos (by omega)] at hd
    by_cases z : Fj.digs (D s (a + m + 1)) = 0
    · right
      have hz : ¬ Zero2 s (a + m) := fun h => by
        rw [digs_at, if_pos h.2] at z
        omega
      refine ⟨hz, ?_⟩
      rw [if_neg (by omega), if_neg (by omega), if_pos c, hd, z, frac_eq]
      rfl
    · left
      refine ⟨⟨c, ?_⟩, ?_⟩
      · by_cases y : 48 ≤ bt s ((a + m + 1 : Nat) : Int) ∧ bt s ((a + m + 1 : Nat) : Int) ≤ 57
        · exact y
        · rw [digs_at, if_neg y] at z; exact absurd rfl z
      · rw [if_neg (by omega), if_pos ⟨c, by omega⟩]
  · right
    refine ⟨fun h => c h.1, ?_⟩
    rw [if_neg c]
    by_cases z : Fj.digs (D s (a + m)) = 0
    · rw [if_pos z, if_pos z]; rfl
    · rw [if_neg z, if_neg z, if_neg (fun h => c h.1), frac_eq]
      congr 1; omega
theorem num_eq (a : Nat) : ((Zero2 s a ∨ bt s (a : Int) = 45 ∧ Zero2 s (a + 1)) ∧ Fj.num (D s a) = none) ∨ (¬ (Zero2 s a ∨ bt s (a : Int) = 45 ∧ Zero2 s (a + 1)) ∧ (Fj.num (D s a)).map (a + ·) = nN s a) := by
  unfold Fj.num nN
  rw [rd_D0]
  by_cases c : bt s (a : Int) = 45
  · rw [if_pos c, if_pos c]
    have hz : ¬ Zero2 s a := fun h => by have := h.1; omega
    rcases whole_eq (s := s) a 1 with ⟨h1, h2⟩ | ⟨h1, h2⟩
    · exact .inl ⟨.inr ⟨c, h1⟩, h2⟩
    · exact .inr ⟨fun h => h.elim hz fun x => h1 x.2, h2⟩
  · rw [if_neg c, if_neg c]
    rcases whole_eq (s := s) a 0 with ⟨h1, h2⟩ | ⟨h1, h2⟩
    · exact .inl ⟨.inl h1, h2⟩
    · exact .inr ⟨fun h => h.elim h1 fun x => c x.1, h2⟩

/-! Strings. -/
theorem hexd_eq (c : Int) : Fj.hexd c = (hv c).isSome := by
  unfold Fj.hexd hv
  by_cases a : 48 ≤ c ∧ c ≤ 57
  · rw [if_pos a]; simp [a]
  · rw [if_neg a]
    by_cases b : 97 ≤ c ∧ c ≤ 102
    · rw [if_pos b]; simp [a, b]
    · rw [if_neg b]
      by_cases d : 65 ≤ c ∧ c ≤ 70
      · rw [if_pos d]; simp [a, b, d]
      · rw [if_neg d]; simp [a, b, d]
theorem simple8_eq (c : Int) : Fj.simple8 c = true ↔ Simple c := by
  unfold Fj.simple8 Simple
  simp only [Bool.or_eq_true, beq_iff_eq]
def hex4 (s : ByteArray) (p : Nat) : Bool := Fj.hexd (bt s (p : Int)) && (Fj.hexd (bt s ((p + 1 : Nat) : Int)) && (Fj.hexd (bt s ((p + 2 : Nat) : Int)) && Fj.hexd (bt s ((p + 3 : Nat) : Int))))
theorem hexd_in {p : Nat} (h : Fj.hexd (bt s (p : Int)) = true) : p < s.size := by
  refine Nat.lt_of_not_le fun hle => ?_
  rw [bt_out s (p : Int) (by omega)] at h
  exact absurd h (by decide)
theorem quo_at (p : Nat) (h : p < s.size) : Fj.quo (D s p) = if bt s (p : Int) = 34 then some 1 else if bt s (p : Int) < 32 then none else if bt s (p : Int) = 92 then
      (if Fj.simple8 (bt s ((p + 1 : Nat) : Int)) = true then (Fj.quo (D s (p + 2))).map (· + 2) else if bt s ((p + 1 : Nat) : Int) = 117 then (if hex4 s (p + 2) = true then (Fj.quo (D s (p + 6))).map (· + 6) else none) else none)
    else (Fj.quo (D s (p + 1))).map (· + 1) := by
  rw [D_cons p h, Fj.quo.eq_def]
  simp only []
  by_cases c34 : bt s (p : Int) = 34
  · rw [if_pos c34, if_pos c34]
  · rw [if_neg c34, if_neg c34]
    by_cases c32 : bt s (p : Int) < 32
    · rw [if_pos c32, if_pos c32]
    · rw [if_neg c32, if_neg c32]
      by_cases c92 : bt s (p : Int) = 92
      · rw [if_pos c92, if_pos c92]
        by_cases h1 : p + 1 < s.size
        · rw [D_cons (p + 1) h1]
          simp only []
          by_cases k : Fj.simple8 (bt s ((p + 1 : Nat) : Int)) = true
          · rw [if_pos k, if_pos k]
          · rw [if_neg k, if_neg k]
            by_cases u : bt s ((p + 1 : Nat) : Int) = 117
            · rw [if_pos u, if_pos u]
              by_cases h5 : p + 5 < s.size
              · rw [D_cons (p + 1 + 1) (by omega), D_cons (p + 1 + 1 + 1) (by omega), D_cons (p + 1 + 1 + 1 + 1) (by omega), D_cons (p + 1 + 1 + 1 + 1 + 1) (by omega)]
                rfl
              · have hx : hex4 s (p + 2) = false := by
                  cases hh : hex4 s (p + 2) with
                  | false => rfl
                  | true =>
                    unfold hex4 at hh
                    simp only [Bool.and_eq_true] at hh
                    have := hexd_in hh.2.2.2
                    omega
                rw [hx, if_neg (by decide)]
                have hl : (D s (p + 1 + 1)).length < 4 := by rw [D_len]; omega
                match hD : D s (p + 1 + 1), hl with
                | [], _ => rfl
                | [_], _ => rfl
                | [_, _], _ => rfl
                | [_, _, _], _ => rfl
            · rw [if_neg u, if_neg u]
        · have hz : bt s ((p + 1 : Nat) : Int) = 0 := bt_out s _ (by omega)
          rw [D_nil (p + 1) (by omega), hz]
          rfl
      · rw [if_neg c92, if_neg c92]
theorem Ans.shift {o : Option Nat} {p n : Nat} {r : Bool × ByteArray × Int} (h : Ans s (o.map (p + n + ·)) r) : Ans s ((o.map (· + n)).map (p + ·)) r := by
  cases o with
  | none => exact h
  | some e =>
    have e1 : p + (e + n) = p + n + e := by omega
    simp only [Option.map_some] at h ⊢
    rw [e1]
    exact h
theorem quoted_is (hs : s.size ≤ 1000000) : ∀ (m p : Nat), s.size - p ≤ m → Tot (fun k => spec_reader_quoted.l0 k s (p : Int)) (Ans s ((Fj.quo (D s p)).map (p + ·)))
  | m, p, hm => by
    by_cases c : p < s.size
    · cases m with
      | zero => omega
      | succ m =>
        refine Tot.succ (fun k => by rw [spec_reader_quoted.l0, if_pos (by omega), if_pos (by omega), w64 (i := (p : Int) + 1) (by omega) (by omega)]) ?_
        rw [quo_at p c]
        refine Tot.ite (fun c34 => Tot.ret ?_) fun c34 => Tot.ite (fun c32 => Tot.ret ?_) fun c32 => Tot.ite (fun c92 => ?_) (fun c92 => ?_)
        · rw [if_pos c34]; exact ⟨rfl, rfl, rfl, show p + 1 ≤ s.size by omega⟩
        · rw [if_neg c34, if_pos c32]; exact ⟨rfl, rfl⟩
        · rw [if_neg c34, if_neg c32, if_pos c92]
          by_cases c4 : Simple (bt s ((p + 1 : Nat) : Int))
          · rw [if_pos ((simple8_eq _).mpr c4)]
            refine Tot.bind (f := fun k => spec_reader_escape.f k s ((p : Int) + 1)) (Q := fun r => r = (true, s, (p : Int) + 1 + 1)) ⟨_, (Ev.ge 1).mp fun k hk => escape_simple k hk s ((p : Int) + 1) (by omega) (by omega) c4, rfl⟩ fun r hr => ?_
            subst hr
            simp only [if_true]
            exact (quoted_is hs m (p + 2) (by omega)).mono fun r h => h.shift
          · rw [if_neg (fun x => c4 ((simple8_eq _).mp x))]
            by_cases c5 : bt s ((p + 1 : Nat) : Int) = 117
            · rw [if_pos c5]
              have e4 : hex4 s (p + 2) = (h4 (hv (bt s ((p : Int) + 1 + 1))) (hv (bt s ((p : Int) + 1 + 2))) (hv (bt s ((p : Int) + 1 + 3))) (hv (bt s ((p : Int) + 1 + 4)))).isSome := by
                unfold hex4 h4
                rw [hexd_eq, hexd_eq, hexd_eq, hexd_eq]
                have x1 : ((p + 2 : Nat) : Int) = (p : Int) + 1 + 1 := by omega
                have x2 : ((p + 2 + 1 : Nat) : Int) = (p : Int) + 1 + 2 := by omega
                have x3 : ((p + 2 + 2 : Nat) : Int) = (p : Int) + 1 + 3 := by omega
                have x4 : ((p + 2 + 3 : Nat) : Int) = (p : Int) + 1 + 4 := by omega
                rw [x1, x2, x3, x4]
                cases hv (bt s ((p : Int) + 1 + 1)) <;> cases hv (bt s ((p : Int) + 1 + 2)) <;> cases hv (bt s ((p : Int) + 1 + 3)) <;> cases hv (bt s ((p : Int) + 1 + 4)) <;> rfl
              rw [e4]
              by_cases c6 : (h4 (hv (bt s ((p : Int) + 1 + 1))) (hv (bt s ((p : Int) + 1 + 2))) (hv (bt s ((p : Int) + 1 + 3))) (hv (bt s ((p : Int) + 1 + 4)))).isSome = true
              · rw [if_pos c6]
                refine Tot.bind (f := fun k => spec_reader_escape.f k s ((p : Int) + 1)) (Q := fun r => r = (true, s, (p : Int) + 1 + 5)) ⟨_, (Ev.ge 12).mp fun k hk => by
                  obtain ⟨q, hq⟩ := escape_u k hk s ((p : Int) + 1) (by omega) (by omega) (show bt s ((p : Int) + 1) = 117 from c5)
                  rw [if_pos c6] at hq
                  exact hq, rfl⟩ fun r hr => ?_
                subst hr
                simp only [if_true]
                have e6 : (p : Int) + 1 + 5 = ((p + 6 : Nat) : Int) := by omega
                rw [e6]
                exact (quoted_is hs m (p + 6) (by omega)).mono fun r h => h.shift
              · rw [if_neg c6]
                obtain ⟨q, hq⟩ := escape_u 12 (by omega) s ((p : Int) + 1) (by omega) (by omega) (show bt s ((p : Int) + 1) = 117 from c5)
                rw [if_neg c6] at hq
                refine Tot.bind (f := fun k => spec_reader_escape.f k s ((p : Int) + 1)) (Q := fun r => r = (false, s, q)) ⟨_, (Ev.ge 12).mp fun k hk => by
                  obtain ⟨j, rfl⟩ : ∃ j, k = 12 + j := ⟨k - 12, by omega⟩
                  exact tot_lift (f := fun k => spec_reader_escape.f k s ((p : Int) + 1)) (fun k => spec_reader_escape.mono s ((p : Int) + 1) k) hq j, rfl⟩ fun r hr => ?_
                subst hr
                exact Tot.ret ⟨rfl, rfl⟩
            · rw [if_neg c5]
              refine Tot.bind (f := fun k => spec_reader_escape.f k s ((p : Int) + 1)) (Q := fun r => r = (false, s, (p : Int) + 1)) ⟨_, (Ev.ge 1).mp fun k hk => escape_else k hk s ((p : Int) + 1) (by omega) (by omega) c4 c5, rfl⟩ fun r hr => ?_
              subst hr
              exact Tot.ret ⟨rfl, rfl⟩
        · rw [if_neg c34, if_neg c32, if_neg c92]
          exact (quoted_is hs m (p + 1) (by omega)).mono fun r h => h.shift
    · rw [D_nil p (by omega), show Fj.quo [] = none by rw [Fj.quo.eq_def]]
      exact Tot.succ (fun k => by rw [spec_reader_quoted.l0, if_neg (by omega)]) (Tot.ret (r := (false, s, (p : Int))) ⟨rfl, rfl⟩)

end Go.Proofs.YtjnfdgibogbgiaaDoor.ReadXFnFjCheckValue
namespace Go.Proofs.YtjnfdgibogbgiaaDoor.ReadXFnFjCheckValue
open Go.RowKit Go.Proofs.YtjnfdgibogbgiaaDoor.Base Go.Proofs.YtjnfdgibogbgiaaDoor.XFnFjCheckValue Go.Proofs.YtjnfdgibogbgiaaDoorW.PrintWords Go.Proofs.YtjnfdgibogbgiaaDoorW.PrintLast
set_option linter.unusedVariables false
set_option linter.unusedSimpArgs false

variable {s : ByteArray}
theorem begins_head {x : Int} {w l : List Int} (h : Fj.begins (x :: w) l = true) : rd l 0 = x := by
  unfold Fj.begins at h
  rw [beq_iff_eq] at h
  cases l with
  | nil => simp at h
  | cons c r =>
    simp only [List.length_cons, List.take_succ_cons, List.cons.injEq] at h
    exact h.1
theorem begins_len {w l : List Int} (h : Fj.begins w l = true) : w.length ≤ l.length := by
  unfold Fj.begins at h
  rw [beq_iff_eq] at h
  have := congrArg List.length h
  rw [List.length_take] at this
  omega
theorem word_is (hs : s.size ≤ 1000000) (p : Nat) (x : ByteArray) (h1 : p ≤ s.size) (hx0 : 1 ≤ x.size) (hx1 : x.size ≤ 100) :
    Tot (fun _ => spec_reader_word.f s (p : Int) x) (fun r => r = if Fj.begins (bytesOf x) (D s p) = true then (true, s, ((p + x.size : Nat) : Int)) else (false, s, (p : Int))) := by
  unfold spec_reader_word.f
  rw [w64 (i := (s.size : Int) - (p : Int)) (by omega) (by omega), w64 (i := (p : Int) + (x.size : Int)) (by omega) (by omega)]
  have hb : Fj.begins (bytesOf x) (D s p) = true ↔ (D s p).take x.size = bytesOf x := by
    unfold Fj.begins
    rw [beq_iff_eq, bytesOf_length]
  by_cases c1 : (s.size : Int) - (p : Int) < x.size
  · have hn : ¬ Fj.begins (bytesOf x) (D s p) = true := fun h => by
      have := begins_len h
      rw [bytesOf_length, D_len] at this
      omega
    exact Tot.eq (fun _ => by rw [if_pos c1]) (by rw [if_neg hn])
  · have he : (s.extract ((p : Nat) : Int).toNat ((p : Int) + (x.size : Int)).toNat).toList = x.toList ↔ (D s p).take x.size = bytesOf x := by
      rw [show ((p : Int) + (x.size : Int)).toNat = p + x.size by omega, Int.toNat_natCast]
      have e2 : bytesOf (s.extract p (p + x.size)) = (D s p).take x.size := by
        unfold D bytesOf
        rw [ByteArray.data_extract, Array.toList_extract]
        simp [List.map_drop, List.map_take, List.extract_eq_take_drop]
      constructor
      · intro h
        rw [← e2, toList_inj h]
      · intro h
        rw [← e2] at h
        rw [bytes_inj h]
    by_cases c2 : (s.extract ((p : Nat) : Int).toNat ((p : Int) + (x.size : Int)).toNat).toList = x.toList
    · exact Tot.eq (fun _ => by rw [if_neg c1, if_pos (by omega), if_pos (by omega), if_pos (by omega), if_pos c2]) (by rw [if_pos (hb.mpr (he.mp c2))]; rfl)
    · exact Tot.eq (fun _ => by rw [if_neg c1, if_pos (by omega), if_pos (by omega), if_pos (by omega), if_neg c2]) (by rw [if_neg (fun h => c2 (he.mpr (hb.mp h)))])
/-- The words. -/
def wordv (s : ByteArray) (p : Nat) : Option Nat :=
  if Fj.begins [110, 117, 108, 108] (D s p) = true then some (p + 4) else if Fj.begins [102, 97, 108, 115, 101] (D s p) = true then some (p + 5) else if Fj.begins [116, 114, 117, 101] (D s p) = true then some (p + 4) else none
theorem vnum_is (hs : s.size ≤ 1000000) (p : Nat) (a b c : Int) (h1 : p ≤ s.size) : Tot (fun k => spec_reader_value.j0 k true true s (p : Int) a b c) (fun r => r.1 = 3 ∧ r.2.2.1 = r.2.2.2.2.2.2.2 ∧ Ans s (nN s p) (r.2.2.2.2.2.1, r.2.2.2.2.2.2.1, r.2.2.2.2.2.2.2)) := by
  refine Tot.succ (fun k => by rw [spec_reader_value.j0, if_pos rfl]) ?_
  exact Tot.bind (number_is hs p h1) fun r hr => Tot.ret ⟨rfl, rfl, hr⟩
theorem begins_in {w : List Int} {p : Nat} (h1 : p ≤ s.size) (h : Fj.begins w (D s p) = true) : p + w.length ≤ s.size := by
  have := begins_len h
  rw [D_len] at this
  omega
theorem vword_is (hs : s.size ≤ 1000000) (p : Nat) (b c : Int) (h1 : p ≤ s.size) : Tot (fun k => spec_reader_value.j0 k true false s (p : Int) 0 b c) (fun r => r.1 ≠ 3 ∧ r.2.2.1 = r.2.2.2.2.2.2.2 ∧ Ans s (wordv s p) (r.2.2.2.2.2.1, r.2.2.2.2.2.2.1, r.2.2.2.2.2.2.2)) := by
  refine Tot.succ (fun k => by rw [spec_reader_value.j0, if_neg (by decide)]) ?_
  unfold wordv
  refine Tot.bind (word_is hs p ⟨#[110, 117, 108, 108]⟩ h1 (by decide) (by decide)) fun r hr => ?_
  subst hr
  rw [show bytesOf ⟨#[110, 117, 108, 108]⟩ = [110, 117, 108, 108] from rfl]
  by_cases k1 : Fj.begins [110, 117, 108, 108] (D s p) = true
  · simp only [k1, if_true]
    exact Tot.ret ⟨by show (0 : Int) ≠ 3; decide, rfl, rfl, rfl, rfl, begins_in h1 k1⟩
  · simp only [k1, if_false, Bool.false_eq_true]
    refine Tot.bind (word_is hs p ⟨#[102, 97, 108, 115, 101]⟩ h1 (by decide) (by decide)) fun r hr => ?_
    subst hr
    rw [show bytesOf ⟨#[102, 97, 108, 115, 101]⟩ = [102, 97, 108, 115, 101] from rfl]
    by_cases k2 : Fj.begins [102, 97, 108, 115, 101] (D s p) = true
    · simp only [k2, if_true]
      exact Tot.ret ⟨by show (1 : Int) ≠ 3; decide, rfl, rfl, rfl, rfl, begins_in h1 k2⟩
    · simp only [k2, if_false, Bool.false_eq_true]
      refine Tot.bind (word_is hs p ⟨#[116, 114, 117, 101]⟩ h1 (by decide) (by decide)) fun r hr => ?_
      subst hr
      rw [show bytesOf ⟨#[116, 114, 117, 101]⟩ = [116, 114, 117, 101] from rfl]
      by_cases k3 : Fj.begins [116, 114, 117, 101] (D s p) = true
      · simp only [k3, if_true]
        exact Tot.ret ⟨by show (2 : Int) ≠ 3; decide, rfl, rfl, rfl, rfl, begins_in h1 k3⟩
      · simp only [k3, if_false, Bool.false_eq_true]
        exact Tot.ret ⟨by show (0 : Int) ≠ 3; decide, rfl, rfl, rfl⟩
/-- What the reader of a value answers, against the strict one's answer. -/
def AnsV (s : ByteArray) (p : Nat) (o : Option Nat) (r : Int × Int × Int × (List S50) × (List S28) × Bool × ByteArray × Int) : Prop :=
  r.2.2.2.2.2.2.1 = s ∧ r.2.2.1 = r.2.2.2.2.2.2.2 ∧ match o with
  | some e => r.2.2.2.2.2.1 = true ∧ r.2.2.2.2.2.2.2 = (e : Int) ∧ p < e ∧ e ≤ s.size ∧ (r.1 = 3 → ¬ (Zero2 s p ∨ bt s (p : Int) = 45 ∧ Zero2 s (p + 1)))
  | none => r.2.2.2.2.2.1 = false ∨ (r.2.2.2.2.2.1 = true ∧ r.1 = 3 ∧ (Zero2 s p ∧ r.2.2.2.2.2.2.2 = ((p + 1 : Nat) : Int) ∨ bt s (p : Int) = 45 ∧ Zero2 s (p + 1) ∧ r.2.2.2.2.2.2.2 = ((p + 2 : Nat) : Int)))

theorem val_word (k p : Nat) (h1 : p ≤ s.size) (c1 : bt s (p : Int) ≠ 123) (c2 : bt s (p : Int) ≠ 91) (c3 : bt s (p : Int) ≠ 34) (c4 : bt s (p : Int) ≠ 45) (c5 : ¬ (48 ≤ bt s (p : Int) ∧ bt s (p : Int) ≤ 57)) :
    (Fj.val (k + 1) (D s p)).map (p + ·) = wordv s p := by
  have hw : ∀ x w, bt s (p : Int) ≠ x → ¬ Fj.begins (x :: w) (D s p) = true := fun x w h hb => h (by rw [← rd_D0]; exact begins_head hb)
  unfold wordv
  rw [Fj.val, rd_D0]
  by_cases h0 : D s p = []
  · rw [if_pos h0]
    have hp : s.size ≤ p := by
      have := congrArg List.length h0
      rw [D_len] at this
      simp at this
      omega
    have hz : bt s (p : Int) = 0 := bt_out s _ (by omega)
    rw [if_neg (hw 110 _ (by omega)), if_neg (hw 102 _ (by omega)), if_neg (hw 116 _ (by omega))]
    rfl
  · rw [if_neg h0, if_neg c1, if_neg c2, if_neg c3]
    by_cases k1 : bt s (p : Int) = 116
    · rw [if_pos k1, if_neg (hw 110 _ (by omega)), if_neg (hw 102 _ (by omega))]
      split <;> rfl
    · rw [if_neg k1]
      by_cases k2 : bt s (p : Int) = 102
      · rw [if_pos k2, if_neg (hw 110 _ (by omega)), if_neg (hw 116 _ (by omega))]
        split <;> rfl
      · rw [if_neg k2]
        by_cases k3 : bt s (p : Int) = 110
        · rw [if_pos k3, if_neg (hw 102 _ (by omega)), if_neg (hw 116 _ (by omega))]
          split <;> rfl
        · rw [if_neg k3, if_neg (hw 110 _ k3), if_neg (hw 102 _ k2), if_neg (hw 116 _ k1)]
          have hd : Fj.digs (D s p) = 0 := by rw [digs_at, if_neg c5]
          unfold Fj.num Fj.whole
          rw [rd_D0, if_neg c4, List.drop_zero, if_pos hd]
          rfl
theorem nN_gt {p e : Nat} (h : nN s p = some e) : p < e := by
  have hX : ∀ q e, nX s q = some e → q ≤ e := fun q e h => by
    unfold nX nE at h
    repeat' split at h
    all_goals first
      | (cases h; done)
      | (obtain rfl := Option.some.inj h; omega)
  have hF : ∀ q e, nF s q = some e → q ≤ e := fun q e h => by
    unfold nF at h
    split at h
    · split at h
      · cases h
      · have := hX _ _ h; omega
    · exact hX _ _ h
  have hW : ∀ q e, nW s q = some e → q < e := fun q e h => by
    unfold nW at h
    split at h
    · have := hF _ _ h; omega
    · split at h
      · cases h
      · rename_i z; have := hF _ _ h; omega
  unfold nN at h
  split at h
  · have := hW _ _ h; omega
  · exact hW _ _ h
/-- Numbers. -/
theorem val_num (hs : s.size ≤ 1000000) (k p : Nat) (b c : Int) (h1 : p ≤ s.size) (hc : bt s (p : Int) = 45 ∨ (48 ≤ bt s (p : Int) ∧ bt s (p : Int) ≤ 57)) :
    Tot (fun k => spec_reader_value.j0 k true true s (p : Int) 0 b c) (AnsV s p ((Fj.val (k + 1) (D s p)).map (p + ·))) := by
  refine (vnum_is hs p 0 b c h1).mono fun r h => ?_
  obtain ⟨e1, e2, e3, e4⟩ := h
  have hv : Fj.val (k + 1) (D s p) = Fj.num (D s p) := by
    have hp : p < s.size := by
      refine Nat.lt_of_not_le fun hle => ?_
      rw [bt_out s (p : Int) (by omega)] at hc
      omega
    rw [Fj.val, rd_D0, if_neg (by rw [D_cons p hp]; simp), if_neg (by omega), if_neg (by omega), if_neg (by omega), if_neg (by omega), if_neg (by omega), if_neg (by omega)]
  rw [hv]
  refine ⟨e3, e2, ?_⟩
  rcases num_eq (s := s) p with ⟨z, hn⟩ | ⟨z, hn⟩
  · rw [hn]
    have hz : nN s p = some (if bt s (p : Int) = 45 then p + 2 else p + 1) := by
      unfold nN
      rcases z with z | ⟨z1, z2⟩
      · have := z.1
        rw [if_neg (by omega), if_neg (by omega)]
        exact zero2_nW z
      · rw [if_pos z1, if_pos z1]
        exact zero2_nW z2
    rw [hz] at e4
    obtain ⟨f1, f2, f3⟩ := e4
    refine .inr ⟨f1, e1, ?_⟩
    rcases z with z | ⟨z1, z2⟩
    · have := z.1
      rw [if_neg (by omega)] at f2
      exact .inl ⟨z, f2⟩
    · rw [if_pos z1] at f2
      exact .inr ⟨z1, z2, f2⟩
  · rw [hn]
    cases hN : nN s p with
    | none => rw [hN] at e4; exact .inl e4
    | some e =>
      rw [hN] at e4
      obtain ⟨f1, f2, f3⟩ := e4
      exact ⟨f1, f2, nN_gt hN, f3, fun _ => z⟩

end Go.Proofs.YtjnfdgibogbgiaaDoor.ReadXFnFjCheckValue
namespace Go.Proofs.YtjnfdgibogbgiaaDoor.ReadXFnFjCheckValue
open Go.RowKit Go.Proofs.YtjnfdgibogbgiaaDoor.Base Go.Proofs.YtjnfdgibogbgiaaDoor.XFnFjCheckValue Go.Proofs.YtjnfdgibogbgiaaDoorW.PrintWords Go.Proofs.YtjnfdgibogbgiaaDoorW.PrintLast
set_option linter.unusedVariables false
set_option linter.unusedSimpArgs false

variable {s : ByteArray}
/-- The next byte that is no blank. -/
def nx (s : ByteArray) (p : Nat) : Nat := p + Fj.ws (D s p)
theorem nx_ge (p : Nat) : p ≤ nx s p := by unfold nx; omega
theorem nx_le (p : Nat) (h : p ≤ s.size) : nx s p ≤ s.size := by
  unfold nx
  have := Fj.ws_le (D s p)
  rw [D_len] at this
  omega
def cont (s : ByteArray) (next : Nat → Option Nat) (close : Int) (u : Nat) : Option Nat :=
  if bt s (u : Int) = 44 then next (u + 1) else if bt s (u : Int) = close then some (u + 1) else none
theorem elems_at (f p : Nat) : (Fj.elems (f + 1) (D s p)).map (p + ·) = match Fj.val f (D s (nx s p)) with
    | none => none
    | some v => cont s (fun o => (Fj.elems f (D s o)).map (o + ·)) 93 (nx s (nx s p + v)) := by
  rw [Fj.elems, D_drop]
  show Option.map _ (match Fj.val f (D s (nx s p)) with | none => none | some v => _) = _
  cases Fj.val f (D s (nx s p)) with
  | none => rfl
  | some v =>
    simp only [rd_D, D_drop]
    have e1 : p + (Fj.ws (D s p) + v) = nx s p + v := by unfold nx; omega
    have e2 : p + (Fj.ws (D s p) + v + Fj.ws (D s (p + (Fj.ws (D s p) + v)))) = nx s (nx s p + v) := by
      rw [e1]
      show _ = (nx s p + v) + Fj.ws (D s (nx s p + v))
      unfold nx; omega
    have e3 : p + (Fj.ws (D s p) + v + Fj.ws (D s (p + (Fj.ws (D s p) + v))) + 1) = nx s (nx s p + v) + 1 := by omega
    rw [e2, e3]
    unfold cont
    by_cases c1 : bt s ((nx s (nx s p + v) : Nat) : Int) = 44
    · rw [if_pos c1, if_pos c1]
      show _ = (Fj.elems f (D s (nx s (nx s p + v) + 1))).map (nx s (nx s p + v) + 1 + ·)
      cases Fj.elems f (D s (nx s (nx s p + v) + 1)) with
      | none => rfl
      | some e =>
        simp only [Option.map_some]
        congr 1; omega
    · rw [if_neg c1, if_neg c1]
      by_cases c2 : bt s ((nx s (nx s p + v) : Nat) : Int) = 93
      · rw [if_pos c2, if_pos c2]
        simp only [Option.map_some]
        congr 1
      · rw [if_neg c2, if_neg c2]; rfl
theorem mems_at (f p : Nat) : (Fj.mems (f + 1) (D s p)).map (p + ·) = if bt s (nx s p : Int) = 34 then (match Fj.quo (D s (nx s p + 1)) with
    | none => none
    | some q => if bt s (nx s (nx s p + 1 + q) : Int) = 58 then (match Fj.val f (D s (nx s (nx s (nx s p + 1 + q) + 1))) with
      | none => none
      | some v => cont s (fun o => (Fj.mems f (D s o)).map (o + ·)) 125 (nx s (nx s (nx s (nx s p + 1 + q) + 1) + v))) else none) else none := by
  rw [Fj.mems]
  simp only [rd_D, D_drop]
  show Option.map _ (if bt s (nx s p : Int) = 34 then _ else none) = _
  by_cases c0 : bt s (nx s p : Int) = 34
  · rw [if_pos c0, if_pos c0]
    have e0 : p + (Fj.ws (D s p) + 1) = nx s p + 1 := by unfold nx; omega
    rw [e0]
    cases Fj.quo (D s (nx s p + 1)) with
    | none => rfl
    | some q =>
      simp only []
      have e1 : p + (Fj.ws (D s p) + 1 + q) = nx s p + 1 + q := by unfold nx; omega
      have e2 : p + (Fj.ws (D s p) + 1 + q + Fj.ws (D s (p + (Fj.ws (D s p) + 1 + q)))) = nx s (nx s p + 1 + q) := by
        rw [e1]
        show _ = (nx s p + 1 + q) + Fj.ws (D s (nx s p + 1 + q))
        unfold nx; omega
      rw [e2]
      by_cases c1 : bt s ((nx s (nx s p + 1 + q) : Nat) : Int) = 58
      · rw [if_pos c1, if_pos c1]
        have e3 : p + (Fj.ws (D s p) + 1 + q + Fj.ws (D s (p + (Fj.ws (D s p) + 1 + q))) + 1) = nx s (nx s p + 1 + q) + 1 := by omega
        rw [e3]
        show Option.map _ (match Fj.val f (D s (nx s (nx s (nx s p + 1 + q) + 1))) with | none => none | some v => _) = _
        cases Fj.val f (D s (nx s (nx s (nx s p + 1 + q) + 1))) with
        | none => rfl
        | some v =>
          simp only []
          have e4 : p + (Fj.ws (D s p) + 1 + q + Fj.ws (D s (p + (Fj.ws (D s p) + 1 + q))) + 1 + Fj.ws (D s (nx s (nx s p + 1 + q) + 1)) + v) = nx s (nx s (nx s p + 1 + q) + 1) + v := by
            show _ = (nx s (nx s p + 1 + q) + 1) + Fj.ws (D s (nx s (nx s p + 1 + q) + 1)) + v
            omega
          rw [e4]
          have e5 : p + (Fj.ws (D s p) + 1 + q + Fj.ws (D s (p + (Fj.ws (D s p) + 1 + q))) + 1 + Fj.ws (D s (nx s (nx s p + 1 + q) + 1)) + v + Fj.ws (D s (nx s (nx s (nx s p + 1 + q) + 1) + v))) = nx s (nx s (nx s (nx s p + 1 + q) + 1) + v) := by
            show _ = (nx s (nx s (nx s p + 1 + q) + 1) + v) + Fj.ws (D s (nx s (nx s (nx s p + 1 + q) + 1) + v))
            omega
          have e6 : p + (Fj.ws (D s p) + 1 + q + Fj.ws (D s (p + (Fj.ws (D s p) + 1 + q))) + 1 + Fj.ws (D s (nx s (nx s p + 1 + q) + 1)) + v + Fj.ws (D s (nx s (nx s (nx s p + 1 + q) + 1) + v)) + 1) = nx s (nx s (nx s (nx s p + 1 + q) + 1) + v) + 1 := by omega
          rw [e5, e6]
          unfold cont
          by_cases c2 : bt s ((nx s (nx s (nx s (nx s p + 1 + q) + 1) + v) : Nat) : Int) = 44
          · rw [if_pos c2, if_pos c2]
            show _ = (Fj.mems f (D s (nx s (nx s (nx s (nx s p + 1 + q) + 1) + v) + 1))).map (nx s (nx s (nx s (nx s p + 1 + q) + 1) + v) + 1 + ·)
            cases Fj.mems f (D s (nx s (nx s (nx s (nx s p + 1 + q) + 1) + v) + 1)) with
            | none => rfl
            | some e =>
              simp only [Option.map_some]
              congr 1; omega
          · rw [if_neg c2, if_neg c2]
            by_cases c3 : bt s ((nx s (nx s (nx s (nx s p + 1 + q) + 1) + v) : Nat) : Int) = 125
            · rw [if_pos c3, if_pos c3]
              simp only [Option.map_some]
              congr 1
            · rw [if_neg c3, if_neg c3]; rfl
      · rw [if_neg c1, if_neg c1]; rfl
  · rw [if_neg c0, if_neg c0]; rfl

def VX (s : ByteArray) (n : Nat) : Prop := ∀ p : Nat, p ≤ s.size → s.size - p < n → ∀ f, 2 * n + 1 ≤ f → Tot (fun k => spec_reader_value.f k s (p : Int)) (AnsV s p ((Fj.val f (D s p)).map (p + ·)))
def AnsE (s : ByteArray) (p : Nat) (o : Option Nat) (r : (List S28) × Bool × ByteArray × Int) : Prop := r.2.2.1 = s ∧ match o with
  | some e => r.2.1 = true ∧ r.2.2.2 = (e : Int) ∧ p < e ∧ e ≤ s.size
  | none => r.2.1 = false
def EX (s : ByteArray) (n : Nat) : Prop := ∀ (p : Nat) ys, p ≤ s.size → s.size - p < n → ∀ f, 2 * n + 2 ≤ f → ys.length ≤ nx s p → Tot (fun k => spec_reader_elements.l0 k ys s (nx s p : Int)) (AnsE s p ((Fj.elems f (D s p)).map (p + ·)))
def AnsM (s : ByteArray) (p : Nat) (o : Option Nat) (r : (List S50) × (List S28) × Bool × ByteArray × Int) : Prop := r.2.2.2.1 = s ∧ match o with
  | some e => r.2.2.1 = true ∧ r.2.2.2.2 = (e : Int) ∧ p < e ∧ e ≤ s.size
  | none => r.2.2.1 = false
def MX (s : ByteArray) (n : Nat) : Prop := ∀ (p : Nat) xs ys, p ≤ s.size → s.size - p < n → ∀ f, 2 * n + 2 ≤ f → xs.length ≤ nx s p → ys.length ≤ nx s p → Tot (fun k => spec_reader_members.l0 k xs ys s (nx s p : Int)) (AnsM s p ((Fj.mems f (D s p)).map (p + ·)))
theorem blanks_nx (hs : s.size ≤ 1000000) (p : Nat) (h1 : p ≤ s.size) : Tot (fun k => spec_reader_blanks.f k s (p : Int)) (fun r => r = (s, (nx s p : Int))) := blanks_is hs p h1
theorem AnsE.from {p q : Nat} {o : Option Nat} {r : (List S28) × Bool × ByteArray × Int} (h : AnsE s q o r) (hpq : p ≤ q) : AnsE s p o r := by
  refine ⟨h.1, ?_⟩
  cases o with
  | none => exact h.2
  | some e => exact ⟨h.2.1, h.2.2.1, Nat.lt_of_le_of_lt hpq h.2.2.2.1, h.2.2.2.2⟩
/-- A digit is no blank: the reader stays. -/
theorem nx_digit {p : Nat} (h : 48 ≤ bt s (p : Int) ∧ bt s (p : Int) ≤ 57) : nx s p = p := by
  unfold nx
  rw [ws_at, if_neg]
  · rfl
  · intro x
    have := x.2
    unfold Fj.blank at this
    simp only [Bool.or_eq_true, beq_iff_eq] at this
    omega
theorem etail (hs : s.size ≤ 1000000) {n : Nat} (hE : EX s n) (p y f : Nat) (x : List S28) (hyl : y ≤ s.size) (hpy : p < y) (hn : s.size - p < n + 1) (hf : 2 * n + 2 ≤ f) (hx : x.length ≤ y) :
    Tot (fun k => (spec_reader_blanks.f k s (y : Int)).bind fun bt220 => ((spec_reader_take.f bt220.1 bt220.2 93).bind fun bt222 => (if bt222.1 = true then (some (x, true, bt222.2.1, bt222.2.2)) else ((spec_reader_take.f bt222.2.1 bt222.2.2 44).bind fun bt225 => (if bt225.1 = true then ((spec_reader_blanks.f k bt225.2.1 bt225.2.2).bind fun bt228 => (spec_reader_elements.l0 k x bt228.1 bt228.2)) else (some (([] : List (S28)), false, bt225.2.1, bt225.2.2)))))))
      (AnsE s p (cont s (fun o => (Fj.elems f (D s o)).map (o + ·)) 93 (nx s y))) := by
  have hu := nx_le y hyl
  have huy := nx_ge (s := s) y
  refine Tot.bind (blanks_nx hs y hyl) fun r hr => ?_
  subst hr
  refine Tot.bind (take_is hs (nx s y) 93 hu (by decide)) fun r hr => ?_
  subst hr
  unfold cont
  by_cases c1 : bt s (nx s y : Int) = 93
  · have hin := in_text c1 (by decide)
    have c1' : ¬ bt s (nx s y : Int) = 44 := by omega
    rw [if_neg c1', if_pos c1]
    simp only [c1, if_true]
    exact Tot.ret (r := (x, true, s, ((nx s y + 1 : Nat) : Int))) ⟨rfl, rfl, rfl, by omega, by omega⟩
  · simp only [c1, if_false, Bool.false_eq_true]
    refine Tot.bind (take_is hs (nx s y) 44 hu (by decide)) fun r hr => ?_
    subst hr
    by_cases c2 : bt s (nx s y : Int) = 44
    · have hin := in_text c2 (by decide)
      simp only [c2, if_true]
      refine Tot.bind (blanks_nx hs (nx s y + 1) (by omega)) fun r hr => ?_
      subst hr
      have h3 := nx_ge (s := s) (nx s y + 1)
      exact (hE (nx s y + 1) x (by omega) (by omega) f hf (by omega)).mono fun r h => h.from (by omega)
    · simp only [c2, if_false, Bool.false_eq_true]
      exact Tot.ret ⟨rfl, rfl⟩
theorem cont_digit {next : Nat → Option Nat} {c : Int} {y : Nat} (h : 48 ≤ bt s (y : Int) ∧ bt s (y : Int) ≤ 57) (hc : ¬ (48 ≤ c ∧ c ≤ 57)) : cont s next c (nx s y) = none := by
  rw [nx_digit h]
  unfold cont
  rw [if_neg (by omega), if_neg (by omega)]
theorem ele_exact (hs : s.size ≤ 1000000) {n : Nat} (hV : VX s (n + 1)) (hE : EX s n) : EX s (n + 1) := by
  intro p ys h1 hn f hf hy
  obtain ⟨f, rfl⟩ : ∃ g, f = g + 1 := ⟨f - 1, by omega⟩
  have hq := nx_le p h1
  have hpq := nx_ge (s := s) p
  refine Tot.succ (fun k => by rw [spec_reader_elements.l0]) ?_
  refine Tot.bind (hV (nx s p) hq (by omega) f (by omega)) fun r hr => ?_
  obtain ⟨v1, v2, v3, v4, v5, ok, t, e⟩ := r
  obtain ⟨ht, h3, hm⟩ := hr
  simp only [] at ht h3 hm ⊢
  subst ht
  rw [elems_at]
  have step : ∀ (y : Nat), y ≤ t.size → nx t p < y → e = (y : Int) → Tot (fun k => (if ys.length < 1954687338268 then ((some (ys ++ [(⟨v1, v2, v3, v4, v5⟩ : S28)] : List (S28))).bind fun y217 => ((spec_reader_blanks.f k t e).bind fun bt220 => ((spec_reader_take.f bt220.1 bt220.2 93).bind fun bt222 => (if bt222.1 = true then (some (y217, true, bt222.2.1, bt222.2.2)) else ((spec_reader_take.f bt222.2.1 bt222.2.2 44).bind fun bt225 => (if bt225.1 = true then ((spec_reader_blanks.f k bt225.2.1 bt225.2.2).bind fun bt228 => (spec_reader_elements.l0 k y217 bt228.1 bt228.2)) else (some (([] : List (S28)), false, bt225.2.1, bt225.2.2)))))))) else (none)))
      (AnsE t p (cont t (fun o => (Fj.elems f (D t o)).map (o + ·)) 93 (nx t y))) := by
    intro y hy1 hy2 he
    subst he
    refine Tot.ite (fun _ => ?_) fun c => absurd (show ys.length < 1954687338268 by omega) c
    simp only [Option.bind_some]
    exact etail hs hE p y f _ hy1 (by omega) hn (by omega) (by rw [List.length_append]; simp; omega)
  cases hv : Fj.val f (D t (nx t p)) with
  | some v =>
    rw [hv] at hm
    obtain ⟨m1, m2, m3, m4, m5⟩ := hm
    refine Tot.ite (fun _ => step (nx t p + v) m4 m3 m2) fun c => absurd m1 c
  | none =>
    rw [hv] at hm
    refine Tot.ite (fun c => ?_) fun c => Tot.ret ⟨rfl, rfl⟩
    rcases hm with m | ⟨m1, m2, m3⟩
    · rw [m] at c; cases c
    · rcases m3 with ⟨z, m4⟩ | ⟨z0, z, m4⟩
      · have hin := bt_digit z.2.1
        have h := step (nx t p + 1) (by omega) (by omega) m4
        rw [cont_digit z.2 (by decide)] at h
        exact h
      · have hin := bt_digit z.2.1
        have h := step (nx t p + 2) (by omega) (by omega) m4
        rw [cont_digit (y := nx t p + 2) z.2 (by decide)] at h
        exact h

theorem AnsM.from {p q : Nat} {o : Option Nat} {r : (List S50) × (List S28) × Bool × ByteArray × Int} (h : AnsM s q o r) (hpq : p ≤ q) : AnsM s p o r := by
  refine ⟨h.1, ?_⟩
  cases o with
  | none => exact h.2
  | some e => exact ⟨h.2.1, h.2.2.1, Nat.lt_of_le_of_lt hpq h.2.2.2.1, h.2.2.2.2⟩
theorem mtail (hs : s.size ≤ 1000000) {n : Nat} (hM : MX s n) (p y f : Nat) (w : List S50) (x : List S28) (hyl : y ≤ s.size) (hpy : p < y) (hn : s.size - p < n + 1) (hf : 2 * n + 2 ≤ f) (hw : w.length ≤ y) (hx : x.length ≤ y) :
    Tot (fun k => (spec_reader_blanks.f k s (y : Int)).bind fun bt189 => ((spec_reader_take.f bt189.1 bt189.2 125).bind fun bt191 => (if bt191.1 = true then (some (w, x, true, bt191.2.1, bt191.2.2)) else ((spec_reader_take.f bt191.2.1 bt191.2.2 44).bind fun bt194 => (if bt194.1 = true then ((spec_reader_blanks.f k bt194.2.1 bt194.2.2).bind fun bt197 => (spec_reader_members.l0 k w x bt197.1 bt197.2)) else (some (([] : List (S50)), ([] : List (S28)), false, bt194.2.1, bt194.2.2)))))))
      (AnsM s p (cont s (fun o => (Fj.mems f (D s o)).map (o + ·)) 125 (nx s y))) := by
  have hu := nx_le y hyl
  have huy := nx_ge (s := s) y
  refine Tot.bind (blanks_nx hs y hyl) fun r hr => ?_
  subst hr
  refine Tot.bind (take_is hs (nx s y) 125 hu (by decide)) fun r hr => ?_
  subst hr
  unfold cont
  by_cases c1 : bt s (nx s y : Int) = 125
  · have hin := in_text c1 (by decide)
    have c1' : ¬ bt s (nx s y : Int) = 44 := by omega
    rw [if_neg c1', if_pos c1]
    simp only [c1, if_true]
    exact Tot.ret (r := (w, x, true, s, ((nx s y + 1 : Nat) : Int))) ⟨rfl, rfl, rfl, by omega, by omega⟩
  · simp only [c1, if_false, Bool.false_eq_true]
    refine Tot.bind (take_is hs (nx s y) 44 hu (by decide)) fun r hr => ?_
    subst hr
    by_cases c2 : bt s (nx s y : Int) = 44
    · have hin := in_text c2 (by decide)
      simp only [c2, if_true]
      refine Tot.bind (blanks_nx hs (nx s y + 1) (by omega)) fun r hr => ?_
      subst hr
      have h3 := nx_ge (s := s) (nx s y + 1)
      exact (hM (nx s y + 1) w x (by omega) (by omega) f hf (by omega) (by omega)).mono fun r h => h.from (by omega)
    · simp only [c2, if_false, Bool.false_eq_true]
      exact Tot.ret ⟨rfl, rfl⟩
theorem mem_exact (hs : s.size ≤ 1000000) {n : Nat} (hV : VX s (n + 1)) (hM : MX s n) : MX s (n + 1) := by
  intro p xs ys h1 hn f hf hx hy
  obtain ⟨f, rfl⟩ : ∃ g, f = g + 1 := ⟨f - 1, by omega⟩
  have hq := nx_le p h1
  have hpq := nx_ge (s := s) p
  have bad : ∀ e : Int, Tot (fun k => spec_reader_members.j1 k xs ys (nx s p : Int) true s e) (AnsM s p none) := fun e =>
    Tot.succ (fun k => by rw [spec_reader_members.j1, if_pos rfl]) (Tot.ret ⟨rfl, rfl⟩)
  rw [mems_at]
  refine Tot.succ (fun k => by rw [spec_reader_members.l0]) ?_
  refine Tot.bind (here_tot hs (nx s p : Int) (by omega)) fun r hr => ?_
  subst hr
  refine Tot.ite (fun c => ?_) fun c => ?_
  rotate_left
  · rw [if_neg c]; exact bad _
  rw [if_pos c]
  have hin := in_text (s := s) (p := nx s p) c (by decide)
  refine Tot.bind (f := fun k => spec_reader_quoted.f k s (nx s p : Int)) (Q := Ans s ((Fj.quo (D s (nx s p + 1))).map (nx s p + 1 + ·))) ?_ fun r hr => ?_
  · unfold spec_reader_quoted.f
    rw [w64 (by omega) (by omega)]
    exact quoted_is hs s.size (nx s p + 1) (by omega)
  obtain ⟨b, t, e⟩ := r
  obtain ⟨ht, hm⟩ := hr
  simp only [] at ht hm ⊢
  subst ht
  cases hqu : Fj.quo (D t (nx t p + 1)) with
  | none =>
    rw [hqu] at hm
    simp only [Option.map_none] at hm
    subst hm
    exact bad _
  | some q =>
    rw [hqu] at hm
    obtain ⟨m1, m2, m3⟩ := hm
    simp only [] at m1 m2 m3 ⊢
    subst m1 m2
    have hzl := nx_le (nx t p + 1 + q) m3
    have hzg := nx_ge (s := t) (nx t p + 1 + q)
    refine Tot.succ (fun k => by rw [Bool.not_true, spec_reader_members.j1, if_neg (by decide), if_pos (show xs.length < 8796093022208 by omega), Option.bind_some]) ?_
    refine Tot.bind (blanks_nx hs (nx t p + 1 + q) m3) fun r hr => ?_
    subst hr
    refine Tot.bind (take_is hs (nx t (nx t p + 1 + q)) 58 hzl (by decide)) fun r hr => ?_
    subst hr
    by_cases c1 : bt t (nx t (nx t p + 1 + q) : Int) = 58
    · have hin1 := in_text c1 (by decide)
      rw [if_pos c1]
      simp only [c1, if_true]
      refine Tot.bind (blanks_nx hs (nx t (nx t p + 1 + q) + 1) (by omega)) fun r hr => ?_
      subst hr
      have hal := nx_le (s := t) (nx t (nx t p + 1 + q) + 1) (by omega)
      have hag := nx_ge (s := t) (nx t (nx t p + 1 + q) + 1)
      generalize hA : nx t (nx t (nx t p + 1 + q) + 1) = A at *
      refine Tot.bind (hV A hal (by omega) f (by omega)) fun r hr => ?_
      obtain ⟨v1, v2, v3, v4, v5, ok, t2, e⟩ := r
      obtain ⟨ht, h3, hm⟩ := hr
      simp only [] at ht h3 hm ⊢
      subst ht
      have step : ∀ (y : Nat), y ≤ t2.size → A < y → e = (y : Int) → Tot (fun k => (if ys.length < 1954687338268 then ((some (ys ++ [(⟨v1, v2, v3, v4, v5⟩ : S28)] : List (S28))).bind fun y186 => ((spec_reader_blanks.f k t2 e).bind fun bt189 => ((spec_reader_take.f bt189.1 bt189.2 125).bind fun bt191 => (if bt191.1 = true then (some (xs ++ [(⟨(nx t2 p : Int), ((nx t2 p + 1 + q : Nat) : Int)⟩ : S50)], y186, true, bt191.2.1, bt191.2.2)) else ((spec_reader_take.f bt191.2.1 bt191.2.2 44).bind fun bt194 => (if bt194.1 = true then ((spec_reader_blanks.f k bt194.2.1 bt194.2.2).bind fun bt197 => (spec_reader_members.l0 k (xs ++ [(⟨(nx t2 p : Int), ((nx t2 p + 1 + q : Nat) : Int)⟩ : S50)]) y186 bt197.1 bt197.2)) else (some (([] : List (S50)), ([] : List (S28)), false, bt194.2.1, bt194.2.2)))))))) else (none)))
          (AnsM t2 p (cont t2 (fun o => (Fj.mems f (D t2 o)).map (o + ·)) 125 (nx t2 y))) := by
        intro y hy1 hy2 he
        subst he
        refine Tot.ite (fun _ => ?_) fun c => absurd (show ys.length < 1954687338268 by omega) c
        simp only [Option.bind_some]
        exact mtail hs hM p y f _ _ hy1 (by omega) hn (by omega) (by rw [List.length_append]; simp; omega) (by rw [List.length_append]; simp; omega)
      cases hv : Fj.val f (D t2 A) with
      | some v =>
        rw [hv] at hm
        obtain ⟨m1, m2, m3, m4, m5⟩ := hm
        refine Tot.ite (fun _ => step (A + v) m4 m3 m2) fun c => absurd m1 c
      | none =>
        rw [hv] at hm
        refine Tot.ite (fun c => ?_) fun c => Tot.ret ⟨rfl, rfl⟩
        rcases hm with m | ⟨m1, m2, m3⟩
        · rw [m] at c; cases c
        · rcases m3 with ⟨z, m4⟩ | ⟨z0, z, m4⟩
          · have hin := bt_digit z.2.1
            have h := step (A + 1) (by omega) (by omega) m4
            rw [cont_digit z.2 (by decide)] at h
            exact h
          · have hin := bt_digit z.2.1
            have h := step (A + 2) (by omega) (by omega) m4
            rw [cont_digit (y := A + 2) z.2 (by decide)] at h
            exact h
    · rw [if_neg c1]
      simp only [c1, if_false, Bool.false_eq_true]
      exact Tot.ret ⟨rfl, rfl⟩

end Go.Proofs.YtjnfdgibogbgiaaDoor.ReadXFnFjCheckValue
namespace Go.Proofs.YtjnfdgibogbgiaaDoor.ReadXFnFjCheckValue
open Go.RowKit Go.Proofs.YtjnfdgibogbgiaaDoor.Base Go.Proofs.YtjnfdgibogbgiaaDoor.XFnFjCheckValue Go.Proofs.YtjnfdgibogbgiaaDoorW.PrintWords Go.Proofs.YtjnfdgibogbgiaaDoorW.PrintLast
set_option linter.unusedVariables false
set_option linter.unusedSimpArgs false

variable {s : ByteArray}
theorem val_obj (f p : Nat) (hp : p < s.size) (c : bt s (p : Int) = 123) : (Fj.val (f + 1) (D s p)).map (p + ·) = if bt s (nx s (p + 1) : Int) = 125 then some (nx s (p + 1) + 1) else (Fj.mems f (D s (p + 1))).map (p + 1 + ·) := by
  rw [Fj.val, rd_D0, if_neg (by rw [D_cons p hp]; simp), if_pos c]
  simp only [rd_D, D_drop]
  show Option.map _ (if bt s (nx s (p + 1) : Int) = 125 then _ else _) = _
  by_cases k : bt s (nx s (p + 1) : Int) = 125
  · rw [if_pos k, if_pos k]
    simp only [Option.map_some]
    congr 1
    show p + (Fj.ws (D s (p + 1)) + 2) = p + 1 + Fj.ws (D s (p + 1)) + 1
    omega
  · rw [if_neg k, if_neg k]
    cases Fj.mems f (D s (p + 1)) with
    | none => rfl
    | some e => simp only [Option.map_some]; congr 1; omega
theorem val_arr (f p : Nat) (hp : p < s.size) (c : bt s (p : Int) = 91) : (Fj.val (f + 1) (D s p)).map (p + ·) = if bt s (nx s (p + 1) : Int) = 93 then some (nx s (p + 1) + 1) else (Fj.elems f (D s (p + 1))).map (p + 1 + ·) := by
  rw [Fj.val, rd_D0, if_neg (by rw [D_cons p hp]; simp), if_neg (by omega), if_pos c]
  simp only [rd_D, D_drop]
  show Option.map _ (if bt s (nx s (p + 1) : Int) = 93 then _ else _) = _
  by_cases k : bt s (nx s (p + 1) : Int) = 93
  · rw [if_pos k, if_pos k]
    simp only [Option.map_some]
    congr 1
    show p + (Fj.ws (D s (p + 1)) + 2) = p + 1 + Fj.ws (D s (p + 1)) + 1
    omega
  · rw [if_neg k, if_neg k]
    cases Fj.elems f (D s (p + 1)) with
    | none => rfl
    | some e => simp only [Option.map_some]; congr 1; omega
theorem val_str (f p : Nat) (hp : p < s.size) (c : bt s (p : Int) = 34) : (Fj.val (f + 1) (D s p)).map (p + ·) = (Fj.quo (D s (p + 1))).map (p + 1 + ·) := by
  rw [Fj.val, rd_D0, if_neg (by rw [D_cons p hp]; simp), if_neg (by omega), if_neg (by omega), if_pos c, D_drop]
  cases Fj.quo (D s (p + 1)) with
  | none => rfl
  | some e => simp only [Option.map_some]; congr 1; omega
theorem members_is (hs : s.size ≤ 1000000) {n : Nat} (hM : MX s n) (p f : Nat) (hp : p < s.size) (hn : s.size - p < n + 1) (hf : 2 * n + 2 ≤ f) :
    Tot (fun k => spec_reader_members.f k s (p : Int)) (AnsM s p (if bt s (nx s (p + 1) : Int) = 125 then some (nx s (p + 1) + 1) else (Fj.mems f (D s (p + 1))).map (p + 1 + ·))) := by
  have hq := nx_le (s := s) (p + 1) (by omega)
  have hg := nx_ge (s := s) (p + 1)
  refine Tot.succ (fun k => by rw [spec_reader_members.f, w64 (i := (p : Int) + 1) (by omega) (by omega)]) ?_
  refine Tot.bind (blanks_nx hs (p + 1) (by omega)) fun r hr => ?_
  subst hr
  refine Tot.bind (take_is hs (nx s (p + 1)) 125 hq (by decide)) fun r hr => ?_
  subst hr
  by_cases c : bt s (nx s (p + 1) : Int) = 125
  · have hin := in_text c (by decide)
    simp only [c, if_true]
    exact Tot.ret (r := ([], [], true, s, ((nx s (p + 1) + 1 : Nat) : Int))) ⟨rfl, rfl, rfl, by omega, by omega⟩
  · simp only [c, if_false, Bool.false_eq_true]
    exact (hM (p + 1) [] [] (by omega) (by omega) f hf (by simp) (by simp)).mono fun r h => h.from (by omega)
theorem elements_is (hs : s.size ≤ 1000000) {n : Nat} (hE : EX s n) (p f : Nat) (hp : p < s.size) (hn : s.size - p < n + 1) (hf : 2 * n + 2 ≤ f) :
    Tot (fun k => spec_reader_elements.f k s (p : Int)) (AnsE s p (if bt s (nx s (p + 1) : Int) = 93 then some (nx s (p + 1) + 1) else (Fj.elems f (D s (p + 1))).map (p + 1 + ·))) := by
  have hq := nx_le (s := s) (p + 1) (by omega)
  have hg := nx_ge (s := s) (p + 1)
  refine Tot.succ (fun k => by rw [spec_reader_elements.f, w64 (i := (p : Int) + 1) (by omega) (by omega)]) ?_
  refine Tot.bind (blanks_nx hs (p + 1) (by omega)) fun r hr => ?_
  subst hr
  refine Tot.bind (take_is hs (nx s (p + 1)) 93 hq (by decide)) fun r hr => ?_
  subst hr
  by_cases c : bt s (nx s (p + 1) : Int) = 93
  · have hin := in_text c (by decide)
    simp only [c, if_true]
    exact Tot.ret (r := ([], true, s, ((nx s (p + 1) + 1 : Nat) : Int))) ⟨rfl, rfl, rfl, by omega, by omega⟩
  · simp only [c, if_false, Bool.false_eq_true]
    exact (hE (p + 1) [] (by omega) (by omega) f hf (by simp)).mono fun r h => h.from (by omega)
theorem word_gt {p e : Nat} (h : wordv s p = some e) : p < e := by
  unfold wordv at h
  repeat' split at h
  all_goals first
    | (cases h; done)
    | (obtain rfl := Option.some.inj h; omega)
theorem word_ans {p : Nat} {r : Int × Int × Int × (List S50) × (List S28) × Bool × ByteArray × Int} (h : r.1 ≠ 3 ∧ r.2.2.1 = r.2.2.2.2.2.2.2 ∧ Ans s (wordv s p) (r.2.2.2.2.2.1, r.2.2.2.2.2.2.1, r.2.2.2.2.2.2.2)) : AnsV s p (wordv s p) r := by
  obtain ⟨e1, e2, e3, e4⟩ := h
  refine ⟨e3, e2, ?_⟩
  cases hw : wordv s p with
  | none => rw [hw] at e4; exact .inl e4
  | some e =>
    rw [hw] at e4
    exact ⟨e4.1, e4.2.1, word_gt hw, e4.2.2, fun x => absurd x e1⟩
theorem val_exact (hs : s.size ≤ 1000000) {n : Nat} (hM : MX s n) (hE : EX s n) : VX s (n + 1) := by
  intro p h1 hn f hf
  obtain ⟨f, rfl⟩ : ∃ g, f = g + 1 := ⟨f - 1, by omega⟩
  refine Tot.succ (fun k => by rw [spec_reader_value.f]) ?_
  refine Tot.bind (here_tot hs (p : Int) (by omega)) fun r hr => ?_
  subst hr
  simp only []
  refine Tot.ite (fun c => ?_) fun c1 => Tot.ite (fun c => ?_) fun c2 => Tot.ite (fun c => ?_) fun c3 => Tot.ite (fun c => ?_) fun c4 => Tot.ite (fun c => ?_) fun c5 => ?_
  · have hp := in_text c (by decide)
    rw [val_obj f p hp c]
    refine Tot.bind (members_is hs hM p f hp (by omega) (by omega)) fun r hr => Tot.ret ⟨hr.1, rfl, ?_⟩
    have h2 := hr.2
    revert h2
    generalize (if bt s (nx s (p + 1) : Int) = 125 then some (nx s (p + 1) + 1) else (Fj.mems f (D s (p + 1))).map (p + 1 + ·)) = o
    intro h2
    cases o with
    | none => exact .inl h2
    | some e => exact ⟨h2.1, h2.2.1, h2.2.2.1, h2.2.2.2, fun h => absurd (show (6 : Int) = 3 from h) (by decide)⟩
  · have hp := in_text c (by decide)
    rw [val_arr f p hp c]
    refine Tot.bind (elements_is hs hE p f hp (by omega) (by omega)) fun r hr => Tot.ret ⟨hr.1, rfl, ?_⟩
    have h2 := hr.2
    revert h2
    generalize (if bt s (nx s (p + 1) : Int) = 93 then some (nx s (p + 1) + 1) else (Fj.elems f (D s (p + 1))).map (p + 1 + ·)) = o
    intro h2
    cases o with
    | none => exact .inl h2
    | some e => exact ⟨h2.1, h2.2.1, h2.2.2.1, h2.2.2.2, fun h => absurd (show (5 : Int) = 3 from h) (by decide)⟩
  · have hp := in_text c (by decide)
    rw [val_str f p hp c]
    refine Tot.bind (f := fun k => spec_reader_quoted.f k s (p : Int)) (Q := Ans s ((Fj.quo (D s (p + 1))).map (p + 1 + ·))) ?_ fun r hr => Tot.ret ⟨hr.1, rfl, ?_⟩
    · unfold spec_reader_quoted.f
      rw [w64 (by omega) (by omega)]
      exact quoted_is hs s.size (p + 1) (by omega)
    · have h2 := hr.2
      cases hq : Fj.quo (D s (p + 1)) with
      | none => rw [hq] at h2; exact .inl h2
      | some e =>
        rw [hq] at h2
        exact ⟨h2.1, h2.2.1, by show p < p + 1 + e; omega, h2.2.2, fun h => absurd (show (4 : Int) = 3 from h) (by decide)⟩
  · exact val_num hs f p _ _ h1 (.inl c)
  · by_cases c6 : bt s (p : Int) ≤ 57
    · rw [decide_eq_true c6]
      exact val_num hs f p _ _ h1 (.inr ⟨c, c6⟩)
    · rw [decide_eq_false c6]
      refine (vword_is hs p _ _ h1).mono fun r h => ?_
      rw [val_word f p h1 c1 c2 c3 c4 (fun x => c6 x.2)]
      exact word_ans h
  · refine (vword_is hs p _ _ h1).mono fun r h => ?_
    rw [val_word f p h1 c1 c2 c3 c4 (fun x => c5 x.1)]
    exact word_ans h
theorem all_exact (hs : s.size ≤ 1000000) : ∀ n : Nat, VX s n ∧ MX s n ∧ EX s n
  | 0 => ⟨fun p _ h => by omega, fun p _ _ _ h => by omega, fun p _ _ h => by omega⟩
  | n + 1 => by
    obtain ⟨hV, hM, hE⟩ := all_exact hs n
    have hV1 := val_exact hs hM hE
    exact ⟨hV1, mem_exact hs hV1 hM, ele_exact hs hV1 hE⟩
/-- The reader of a value at a place. -/
theorem value_is (hs : s.size ≤ 1000000) (p : Nat) (h1 : p ≤ s.size) (f : Nat) (hf : 2 * s.size + 3 ≤ f) : Tot (fun k => spec_reader_value.f k s (p : Int)) (AnsV s p ((Fj.val f (D s p)).map (p + ·))) :=
  (all_exact hs (s.size + 1)).1 p h1 (by omega) f (by omega)

end Go.Proofs.YtjnfdgibogbgiaaDoor.ReadXFnFjCheckValue
