/- Patterns as lists of terms, a term told as it is written (with or without a backslash ahead, and its character): when characters are what terms say. -/
import Derived.Test.YtdllbnecbbggfaaDoorRunes
namespace Go.Proofs.YtdllbnecbbggfaaDoor.Glob
open Go.RowKit Go.Proofs.YtdllbnecbbggfaaDoor.Base Go.Proofs.YtdllbnecbbggfaaDoor.Runes Go.Proofs.YtdllbnecbbggfaaDoorW.PrintWords Go.Proofs.YtdllbnecbbggfaaDoorW.PrintLast
set_option linter.unusedVariables false
set_option linter.unusedSimpArgs false

abbrev P := Bool × Int
def star : P := (false, 42)
/-- A small letter for a capital one of ASCII. -/
def lo (nc : Bool) (c : Int) : Int := if nc = true ∧ 65 ≤ c ∧ c ≤ 90 then c + 32 else c
def fit (nc : Bool) (p : P) (c : Int) : Prop := p = (false, 63) ∨ lo nc p.2 = lo nc c
instance (nc : Bool) (p : P) (c : Int) : Decidable (fit nc p c) := by unfold fit; exact inferInstance
def M (nc : Bool) : List P → List Int → Prop
  | [], cs => cs = []
  | p :: ps, cs => if p = star then ∃ a b, cs = a ++ b ∧ M nc ps b else ∃ c r, cs = c :: r ∧ fit nc p c ∧ M nc ps r
theorem M_nil {nc : Bool} {cs : List Int} : M nc [] cs ↔ cs = [] := Iff.rfl
theorem M_star {nc : Bool} {ps : List P} {cs : List Int} : M nc (star :: ps) cs ↔ ∃ a b, cs = a ++ b ∧ M nc ps b := by rw [M, if_pos rfl]
theorem M_char {nc : Bool} {p : P} {ps : List P} {cs : List Int} (h : p ≠ star) : M nc (p :: ps) cs ↔ ∃ c r, cs = c :: r ∧ fit nc p c ∧ M nc ps r := by rw [M, if_neg h]
theorem M_app {nc : Bool} : ∀ {ps qs : List P} {cs : List Int}, M nc (ps ++ qs) cs ↔ ∃ a b, cs = a ++ b ∧ M nc ps a ∧ M nc qs b
  | [], qs, cs => by
    constructor
    · intro h; exact ⟨[], cs, rfl, rfl, h⟩
    · rintro ⟨a, b, rfl, rfl, h⟩; exact h
  | p :: ps, qs, cs => by
    rw [List.cons_append]
    by_cases c : p = star
    · subst c
      rw [M_star]
      constructor
      · rintro ⟨a, b, rfl, h⟩
        obtain ⟨u, v, rfl, h1, h2⟩ := M_app.mp h
        exact ⟨a ++ u, v, by rw [List.append_assoc], M_star.mpr ⟨a, u, rfl, h1⟩, h2⟩
      · rintro ⟨a, b, rfl, h1, h2⟩
        obtain ⟨u, v, rfl, h3⟩ := M_star.mp h1
        exact ⟨u, v ++ b, by rw [List.append_assoc], M_app.mpr ⟨v, b, rfl, h3, h2⟩⟩
    · rw [M_char c]
      constructor
      · rintro ⟨x, r, rfl, hf, h⟩
        obtain ⟨u, v, rfl, h1, h2⟩ := M_app.mp h
        exact ⟨x :: u, v, rfl, (M_char c).mpr ⟨x, u, rfl, hf, h1⟩, h2⟩
      · rintro ⟨a, b, rfl, h1, h2⟩
        obtain ⟨x, r, rfl, hf, h1⟩ := (M_char c).mp h1
        exact ⟨x, r ++ b, rfl, hf, M_app.mpr ⟨r, b, rfl, h1, h2⟩⟩
theorem M_one {nc : Bool} {q : P} {cs : List Int} (h : q ≠ star) : M nc [q] cs ↔ ∃ c, cs = [c] ∧ fit nc q c := by
  rw [M_char h]
  constructor
  · rintro ⟨c, r, rfl, hf, rfl⟩; exact ⟨c, rfl, hf⟩
  · rintro ⟨c, rfl, hf⟩; exact ⟨c, [], rfl, hf, rfl⟩
theorem M_last {nc : Bool} {ps : List P} {q : P} {cs : List Int} {c : Int} (h : q ≠ star) : M nc (ps ++ [q]) (cs ++ [c]) ↔ fit nc q c ∧ M nc ps cs := by
  rw [M_app]
  constructor
  · rintro ⟨a, b, e, h1, h2⟩
    obtain ⟨x, rfl, hf⟩ := (M_one h).mp h2
    obtain ⟨rfl, e2⟩ := List.append_inj' e rfl
    obtain rfl : c = x := by simpa using e2
    exact ⟨hf, h1⟩
  · rintro ⟨hf, h1⟩
    exact ⟨cs, [c], rfl, h1, (M_one h).mpr ⟨c, rfl, hf⟩⟩
theorem M_last_ne {nc : Bool} {ps : List P} {q : P} (h : q ≠ star) : ¬ M nc (ps ++ [q]) [] := by
  rw [M_app]
  rintro ⟨a, b, e, _, h2⟩
  obtain ⟨x, rfl, _⟩ := (M_one h).mp h2
  simp at e
theorem M_last_star {nc : Bool} {ps : List P} {cs : List Int} : M nc (ps ++ [star]) cs ↔ ∃ a b, cs = a ++ b ∧ M nc ps a := by
  rw [M_app]
  constructor
  · rintro ⟨a, b, e, h1, _⟩; exact ⟨a, b, e, h1⟩
  · rintro ⟨a, b, e, h1⟩; exact ⟨a, b, e, h1, M_star.mpr ⟨b, [], by simp, rfl⟩⟩
theorem M_star_cons {nc : Bool} {ps : List P} {c : Int} {r : List Int} : M nc (star :: ps) (c :: r) ↔ M nc ps (c :: r) ∨ M nc (star :: ps) r := by
  rw [M_star, M_star]
  constructor
  · rintro ⟨a, b, e, h⟩
    cases a with
    | nil => left; rw [e]; exact h
    | cons x a =>
      simp only [List.cons_append, List.cons.injEq] at e
      exact .inr ⟨a, b, e.2, h⟩
  · rintro (h | ⟨a, b, rfl, h⟩)
    · exact ⟨[], c :: r, rfl, h⟩
    · exact ⟨c :: a, b, rfl, h⟩
theorem M_star_nil {nc : Bool} {ps : List P} : M nc (star :: ps) [] ↔ M nc ps [] := by
  rw [M_star]
  constructor
  · rintro ⟨a, b, e, h⟩
    have := List.append_eq_nil_iff.mp e.symm
    rw [this.2] at h
    exact h
  · intro h; exact ⟨[], [], rfl, h⟩
theorem M_star_star {nc : Bool} {ps : List P} {cs : List Int} : M nc (star :: star :: ps) cs ↔ M nc (star :: ps) cs := by
  rw [M_star]
  constructor
  · rintro ⟨a, b, rfl, h⟩
    obtain ⟨u, v, rfl, h3⟩ := M_star.mp h
    exact M_star.mpr ⟨a ++ u, v, by rw [List.append_assoc], h3⟩
  · intro h
    exact ⟨[], cs, rfl, h⟩
theorem M_star_only {nc : Bool} {cs : List Int} : M nc [star] cs := M_star.mpr ⟨cs, [], by simp, rfl⟩
theorem M_step {nc : Bool} {p : P} {ps : List P} {c : Int} {r : List Int} (h : p ≠ star) : M nc (p :: ps) (c :: r) ↔ fit nc p c ∧ M nc ps r := by
  rw [M_char h]
  constructor
  · rintro ⟨x, y, e, hf, h⟩
    simp only [List.cons.injEq] at e
    obtain ⟨rfl, rfl⟩ := e
    exact ⟨hf, h⟩
  · rintro ⟨hf, h⟩; exact ⟨c, r, rfl, hf, h⟩
theorem M_step_nil {nc : Bool} {p : P} {ps : List P} (h : p ≠ star) : ¬ M nc (p :: ps) [] := by
  rw [M_char h]
  rintro ⟨x, y, e, _⟩
  cases e

/-! ### how terms are written -/
def pc (p : P) : List Int := if p.1 = true then [92, p.2] else [p.2]
/-- The characters of terms. -/
def pcs : List P → List Int
  | [] => []
  | p :: r => pc p ++ pcs r
theorem pcs_append (a b : List P) : pcs (a ++ b) = pcs a ++ pcs b := by
  induction a with
  | nil => rfl
  | cons c r ih => simp only [List.cons_append, pcs, ih, List.append_assoc]
def okp (p : P) : Prop := Sc p.2 ∧ (p.1 = false → p.2 ≠ 92)
def okps (l : List P) : Prop := ∀ p ∈ l, okp p
theorem okps.head {p : P} {r : List P} (h : okps (p :: r)) : okp p := h p (by simp)
theorem okps.tail {p : P} {r : List P} (h : okps (p :: r)) : okps r := fun x hx => h x (by simp [hx])
theorem okps.left {a b : List P} (h : okps (a ++ b)) : okps a := fun x hx => h x (by simp [hx])
theorem okps.right {a b : List P} (h : okps (a ++ b)) : okps b := fun x hx => h x (by simp [hx])
theorem sc92 : Sc 92 := by unfold Sc; omega
theorem scs_pcs : ∀ {l : List P}, okps l → Scs (pcs l)
  | [], _ => fun c hc => by simp [pcs] at hc
  | p :: r, h => fun c hc => by
    simp only [pcs, List.mem_append] at hc
    rcases hc with hc | hc
    · unfold pc at hc
      split at hc
      · simp only [List.mem_cons, List.not_mem_nil, or_false] at hc
        rcases hc with rfl | rfl
        · exact sc92
        · exact h.head.1
      · simp only [List.mem_cons, List.not_mem_nil, or_false] at hc
        subst hc
        exact h.head.1
    · exact scs_pcs h.tail c hc
/-- The bytes of terms. -/
def pen (l : List P) : List Int := enc (pcs l)
theorem pen_nil : pen [] = [] := rfl
theorem pen_append (a b : List P) : pen (a ++ b) = pen a ++ pen b := by unfold pen; rw [pcs_append, enc_append]
theorem en92 : en 92 = [92] := rfl
theorem pen_one (p : P) : pen [p] = if p.1 = true then 92 :: en p.2 else en p.2 := by
  unfold pen pcs pcs pc
  split
  · simp [enc, en92]
  · simp [enc]
theorem pen_cons (p : P) (r : List P) : pen (p :: r) = (if p.1 = true then 92 :: en p.2 else en p.2) ++ pen r := by
  rw [← pen_one, ← pen_append]; rfl
theorem pen_star (r : List P) : pen (star :: r) = 42 :: pen r := by rw [pen_cons]; rfl
theorem pen_ne {p : P} {r : List P} : pen (p :: r) ≠ [] := by
  rw [pen_cons]
  split
  · simp
  · intro h
    exact en_ne _ (List.append_eq_nil_iff.mp h).1
theorem enc_len_ge : ∀ l : List Int, l.length ≤ (enc l).length
  | [] => Nat.le_refl _
  | c :: r => by
    have := enc_len_ge r
    have := en_pos c
    simp only [enc, List.length_append, List.length_cons]
    omega
theorem pen_len_ge : ∀ l : List P, l.length ≤ (pen l).length
  | [] => Nat.le_refl _
  | p :: r => by
    have := pen_len_ge r
    have := en_pos p.2
    rw [pen_cons, List.length_append, List.length_cons]
    split
    · simp only [List.length_cons]; omega
    · omega
/-- How many backslashes stand at the end. -/
def tailBS : List Int → Nat
  | [] => 0
  | x :: r => if (r.all (· == 92)) = true ∧ x = 92 then r.length + 1 else tailBS r
/-- A text of terms ends with an even number of backslashes. -/
def back (l : List Int) (m : Nat) : Prop := ∃ p, l = p ++ List.replicate m 92 ∧ (p = [] ∨ ∃ q x, p = q ++ [x] ∧ x ≠ 92)
theorem back_snoc {l : List Int} {m : Nat} (h : back l m) : back (l ++ [92]) (m + 1) := by
  obtain ⟨p, rfl, hp⟩ := h
  exact ⟨p, by rw [List.append_assoc, List.replicate_succ'], hp⟩
theorem back_other {l : List Int} {x : Int} (h : x ≠ 92) : back (l ++ [x]) 0 := ⟨l ++ [x], by simp, .inr ⟨l, x, rfl, h⟩⟩
theorem en_last {c : Int} (h : Sc c) : ∃ t x, en c = t ++ [x] ∧ (x = 92 ↔ c = 92) ∧ (c = 92 → t = []) := by
  obtain ⟨x, t, e, h1, h2, h3, h4, _⟩ := en_shape h
  rcases Int.lt_or_le c 128 with hc | hc
  · obtain ⟨rfl, rfl⟩ := h2 hc
    exact ⟨[], x, e, Iff.rfl, fun _ => rfl⟩
  · obtain ⟨hx, ht⟩ := h3 hc
    have e2 : t = t.dropLast ++ [t.getLast ht] := (List.dropLast_concat_getLast ht).symm
    have hl := h4 (t.getLast ht) (List.getLast_mem ht)
    refine ⟨x :: t.dropLast, t.getLast ht, by rw [e, List.cons_append, ← e2], ⟨fun h => by omega, fun h => by omega⟩, fun h => by omega⟩
theorem pen_back : ∀ (n : Nat) (l : List P), l.length = n → okps l → ∃ m, back (pen l) (2 * m)
  | 0, l, hl, h => by
    obtain rfl : l = [] := List.eq_nil_of_length_eq_zero hl
    exact ⟨0, [], rfl, .inl rfl⟩
  | n + 1, l, hl, h => by
    have hne : l ≠ [] := fun e => by rw [e] at hl; cases hl
    have e : l = l.dropLast ++ [l.getLast hne] := (List.dropLast_concat_getLast hne).symm
    generalize l.dropLast = q at e
    generalize l.getLast hne = p at e
    subst e
    obtain ⟨m, hm⟩ := pen_back n q (by simpa using hl) h.left
    have hp : okp p := h p (by simp)
    obtain ⟨t, x, ex, hx, ht⟩ := en_last hp.1
    rw [pen_append, pen_one]
    by_cases hc : p.2 = 92
    · cases hb : p.1 with
      | false => exact absurd hc (hp.2 hb)
      | true =>
        rw [if_pos rfl, hc, en92]
        have := back_snoc (back_snoc hm)
        rw [List.append_assoc] at this
        exact ⟨m + 1, this⟩
    · have hx92 : x ≠ 92 := fun h => hc (hx.mp h)
      refine ⟨0, ?_⟩
      split
      · rw [ex, ← List.cons_append, ← List.append_assoc]
        exact back_other hx92
      · rw [ex, ← List.append_assoc]
        exact back_other hx92

/-! ### capital letters for small ones -/
theorem lo_sc {nc : Bool} {c : Int} (h : Sc c) : Sc (lo nc c) := by
  unfold lo
  unfold Sc at *
  split <;> omega
theorem lo_en {c : Int} (nc : Bool) (h : Sc c) : (en c).map (lo nc) = en (lo nc c) := by
  obtain ⟨x, t, e, h1, h2, h3, h4, _⟩ := en_shape h
  rcases Int.lt_or_le c 128 with hc | hc
  · obtain ⟨rfl, rfl⟩ := h2 hc
    rw [e]
    have h0 : 0 ≤ lo nc x := by unfold lo; split <;> omega
    have h8 : lo nc x < 128 := by unfold lo; split <;> omega
    rw [en_ascii h0 h8]
    rfl
  · obtain ⟨hx, ht⟩ := h3 hc
    have hid : lo nc c = c := by unfold lo; rw [if_neg (by omega)]
    have hall : ∀ y ∈ en c, lo nc y = y := by
      intro y hy
      rw [e] at hy
      unfold lo
      rw [if_neg]
      simp only [List.mem_cons] at hy
      rcases hy with rfl | hy
      · omega
      · have := h4 y hy; omega
    rw [hid]
    conv => rhs; rw [← List.map_id (en c)]
    exact List.map_congr_left hall
theorem lo_enc (nc : Bool) : ∀ {l : List Int}, Scs l → (enc l).map (lo nc) = enc (l.map (lo nc))
  | [], _ => rfl
  | c :: r, h => by rw [enc, List.map_append, lo_en nc h.head, lo_enc nc h.tail]; rfl
theorem lo_enc_inv (nc : Bool) : ∀ {d l : List Int}, Scs d → (∀ x ∈ l, 0 ≤ x) → l.map (lo nc) = enc d → ∃ c, Scs c ∧ l = enc c ∧ c.map (lo nc) = d
  | [], l, hd, hl, h => by
    simp only [enc, List.map_eq_nil_iff] at h
    exact ⟨[], fun _ hc => by simp at hc, h, rfl⟩
  | c :: r, l, hd, hl, h => by
    simp only [enc] at h
    obtain ⟨l1, l2, rfl, e1, e2⟩ := List.map_eq_append_iff.mp h
    obtain ⟨q, hq, rfl, hq2⟩ := lo_enc_inv nc hd.tail (fun x hx => hl x (by simp [hx])) e2
    obtain ⟨x, t, e, h1, h2, h3, h4, _⟩ := en_shape hd.head
    rcases Int.lt_or_le c 128 with hc | hc
    · obtain ⟨rfl, rfl⟩ := h2 hc
      rw [e] at e1
      obtain ⟨y, hy, hy2⟩ := List.map_eq_singleton_iff.mp e1
      subst hy
      have hy0 := hl y (by simp)
      have hlt : y < 128 := by
        have := hy2
        unfold lo at this
        split at this <;> omega
      refine ⟨y :: q, ?_, by simp only [enc]; rw [en_ascii hy0 hlt], by simp [hy2, hq2]⟩
      intro z hz
      simp only [List.mem_cons] at hz
      rcases hz with rfl | hz
      · unfold Sc; omega
      · exact hq z hz
    · obtain ⟨hx, ht⟩ := h3 hc
      have hall : ∀ y ∈ l1, lo nc y = y := by
        intro y hy
        have hm : lo nc y ∈ en c := by rw [← e1]; exact List.mem_map_of_mem hy
        rw [e] at hm
        have hge : 128 ≤ lo nc y := by
          simp only [List.mem_cons] at hm
          rcases hm with hm | hm
          · omega
          · exact (h4 _ hm).1
        unfold lo at hge ⊢
        split at hge
        · omega
        · rw [if_neg (by assumption)]
      have e3 : l1 = en c := by
        rw [← e1]
        conv => lhs; rw [← List.map_id l1]
        exact (List.map_congr_left hall).symm
      have hid : lo nc c = c := by unfold lo; rw [if_neg (by omega)]
      refine ⟨c :: q, ?_, by rw [e3]; rfl, by simp [hid, hq2]⟩
      intro z hz
      simp only [List.mem_cons] at hz
      rcases hz with rfl | hz
      · exact hd.head
      · exact hq z hz
def lop (nc : Bool) (p : P) : P := (p.1, lo nc p.2)
theorem lo_eq {nc : Bool} {c d : Int} (hd : d < 65 ∨ 122 < d ∨ (90 < d ∧ d < 97)) : lo nc c = d ↔ c = d := by
  unfold lo
  split <;> omega
theorem lop_ok {nc : Bool} {p : P} (h : okp (lop nc p)) : okp p := by
  obtain ⟨h1, h2⟩ := h
  refine ⟨?_, fun hb hc => h2 hb ((lo_eq (by omega)).mpr hc)⟩
  unfold lop lo at h1
  unfold Sc at *
  simp only [] at h1
  split at h1 <;> omega
theorem lop_star {nc : Bool} {p : P} : lop nc p = star ↔ p = star := by
  obtain ⟨b, c⟩ := p
  unfold lop star
  simp only [Prod.mk.injEq]
  exact and_congr Iff.rfl (lo_eq (by omega))
theorem lop_any {nc : Bool} {p : P} : lop nc p = (false, 63) ↔ p = (false, 63) := by
  obtain ⟨b, c⟩ := p
  unfold lop
  simp only [Prod.mk.injEq]
  exact and_congr Iff.rfl (lo_eq (by omega))
/-- Terms and characters with small letters: without a look at capitals. -/
theorem M_lo {nc : Bool} : ∀ {ps : List P} {cs : List Int}, M false (ps.map (lop nc)) (cs.map (lo nc)) ↔ M nc ps cs
  | [], cs => by simp [M]
  | p :: ps, cs => by
    rw [List.map_cons]
    by_cases c : p = star
    · rw [lop_star.mpr c, c, M_star, M_star]
      constructor
      · rintro ⟨a, b, e, h⟩
        obtain ⟨u, v, rfl, rfl, rfl⟩ := List.map_eq_append_iff.mp e
        exact ⟨u, v, rfl, M_lo.mp h⟩
      · rintro ⟨a, b, rfl, h⟩
        exact ⟨_, _, List.map_append .., M_lo.mpr h⟩
    · rw [M_char c, M_char (fun h => c (lop_star.mp h))]
      constructor
      · rintro ⟨x, r, e, hf, h⟩
        obtain ⟨u, v, rfl, rfl, rfl⟩ := List.map_eq_cons_iff.mp e
        refine ⟨u, v, rfl, ?_, M_lo.mp h⟩
        rcases hf with hf | hf
        · exact .inl (lop_any.mp hf)
        · right
          simpa [lo, lop] using hf
      · rintro ⟨x, r, rfl, hf, h⟩
        refine ⟨_, _, List.map_cons .., ?_, M_lo.mpr h⟩
        rcases hf with hf | hf
        · exact .inl (lop_any.mpr hf)
        · right
          simpa [lo, lop] using hf
theorem pcs_lo_inv {nc : Bool} : ∀ {qs : List P} {cs : List Int}, cs.map (lo nc) = pcs qs → ∃ ps, ps.map (lop nc) = qs ∧ cs = pcs ps
  | [], cs, h => by
    simp only [pcs, List.map_eq_nil_iff] at h
    exact ⟨[], rfl, h⟩
  | (b, q) :: qs, cs, h => by
    simp only [pcs] at h
    obtain ⟨l1, l2, rfl, e1, e2⟩ := List.map_eq_append_iff.mp h
    obtain ⟨ps, hps, rfl⟩ := pcs_lo_inv e2
    cases b with
    | true =>
      unfold pc at e1
      simp only [if_true] at e1
      obtain ⟨x, t, rfl, hx, ht⟩ := List.map_eq_cons_iff.mp e1
      obtain ⟨y, rfl, hy⟩ := List.map_eq_singleton_iff.mp ht
      have hx := (lo_eq (by omega)).mp hx
      subst hx
      exact ⟨(true, y) :: ps, by simp [lop, hy, hps], by simp [pcs, pc]⟩
    | false =>
      unfold pc at e1
      simp only [Bool.false_eq_true, if_false] at e1
      obtain ⟨y, rfl, hy⟩ := List.map_eq_singleton_iff.mp e1
      exact ⟨(false, y) :: ps, by simp [lop, hy, hps], by simp [pcs, pc]⟩

end Go.Proofs.YtdllbnecbbggfaaDoor.Glob
