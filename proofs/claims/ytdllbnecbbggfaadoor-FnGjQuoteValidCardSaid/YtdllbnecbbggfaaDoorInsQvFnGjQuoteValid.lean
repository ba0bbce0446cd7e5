/- The inside of a JSON string as a list of bytes ('Ins'), and what the reference's reader, gjson's validstring and the reference's Unquote say of it. -/
import Derived.Test.YtdllbnecbbggfaaDoorDecFnGjQuoteValid
import Derived.Test.YtdllbnecbbggfaaDoorUtf8EnFnGjQuoteValid
namespace Go.Proofs.YtdllbnecbbggfaaDoor.UnescXFnGjQuoteValid
open Go.RowKit Go.Proofs.YtdllbnecbbggfaaDoor Go.Proofs.YtdllbnecbbggfaaDoor.Base Go.Proofs.YtdllbnecbbggfaaDoor.XFnGjQuoteValid Go.Proofs.YtdllbnecbbggfaaDoorW.PrintWords Go.Proofs.YtdllbnecbbggfaaDoorW.PrintLast
set_option linter.unusedVariables false
set_option linter.unusedSimpArgs false

inductive Ins : List Int → Prop
  | nil : Ins []
  | plain {c : Int} {r : List Int} : 32 ≤ c → c ≠ 34 → c ≠ 92 → Ins r → Ins (c :: r)
  | esc {e : Int} {r : List Int} : Simple e → Ins r → Ins (92 :: e :: r)
  | uni {a b c d v : Int} {r : List Int} : h4 (hv a) (hv b) (hv c) (hv d) = some v → v < 55296 → Ins r → Ins (92 :: 117 :: a :: b :: c :: d :: r)
theorem Ins.append {a b : List Int} (h : Ins a) (g : Ins b) : Ins (a ++ b) := by
  induction h with
  | nil => exact g
  | plain h1 h2 h3 _ ih => exact .plain h1 h2 h3 ih
  | esc h1 _ ih => exact .esc h1 ih
  | uni h1 h2 _ ih => exact .uni h1 h2 ih
theorem Ins.high {l : List Int} (h : ∀ x ∈ l, 128 ≤ x) : Ins l := by
  induction l with
  | nil => exact .nil
  | cons c r ih =>
    have := h c (by simp)
    exact .plain (by omega) (by omega) (by omega) (ih fun x hx => h x (by simp [hx]))
theorem drop_more {l r : List Int} {i : Nat} (p : List Int) (h : l.drop i = p ++ r) : l.drop (i + p.length) = r := by
  rw [← List.drop_drop, h, List.drop_left]
/-- The reader of a string goes over it. -/
theorem ins_quoted (s : ByteArray) (hs : s.size ≤ 4294967296) {r : List Int} (hr : Ins r) : ∀ (i : Nat) (q : List Int), (bytesOf s).drop i = r ++ 34 :: q → Ev fun k => spec_reader_quoted.l0 k s (i : Int) = some (true, s, (i : Int) + r.length + 1) := by
  have hL := bytesOf_length s
  induction hr with
  | nil =>
    intro i q h
    have hl := congrArg List.length h
    rw [List.length_drop, hL] at hl
    simp only [List.nil_append, List.length_cons] at hl
    have b0 := ChrXFnGjQuoteValid.bt_of_drop h 0
    rw [show (i : Int) + ((0 : Nat) : Int) = i by omega] at b0
    refine (Ev.ge 0).succ fun k _ => ?_
    rw [spec_reader_quoted.l0, if_pos (by omega), if_pos (by omega), if_pos (by rw [b0]; rfl), w64 (by omega) (by omega)]
    simp
  | @plain c r h1 h2 h3 _ ih =>
    intro i q h
    have hl := congrArg List.length h
    rw [List.length_drop, hL] at hl
    simp only [List.cons_append, List.length_cons, List.length_append] at hl
    have b0 := ChrXFnGjQuoteValid.bt_of_drop h 0
    rw [show (i : Int) + ((0 : Nat) : Int) = i by omega] at b0
    have b0' : bt s i = c := b0
    have := ih (i + 1) q (drop_more [c] h)
    refine this.succ fun k hk => ?_
    rw [spec_reader_quoted.l0, if_pos (by omega), if_pos (by omega), if_neg (by omega), if_neg (by omega), if_neg (by omega), w64 (by omega) (by omega)]
    rw [show (((i + 1 : Nat)) : Int) = (i : Int) + 1 by omega] at hk
    rw [hk]
    congr 3
    simp only [List.length_cons]
    omega
  | @esc e r h1 _ ih =>
    intro i q h
    have hl := congrArg List.length h
    rw [List.length_drop, hL] at hl
    simp only [List.cons_append, List.length_cons, List.length_append] at hl
    have b0 := ChrXFnGjQuoteValid.bt_of_drop h 0
    have b1 := ChrXFnGjQuoteValid.bt_of_drop h 1
    rw [show (i : Int) + ((0 : Nat) : Int) = i by omega] at b0
    rw [show (i : Int) + ((1 : Nat) : Int) = i + 1 by omega] at b1
    have b0' : bt s i = 92 := b0
    have b1' : bt s (i + 1) = e := b1
    have := ih (i + 2) q (drop_more [92, e] h)
    refine (this.and (Ev.ge 1)).succ fun k hk => ?_
    rw [spec_reader_quoted.l0, if_pos (by omega), if_pos (by omega), if_neg (by omega), if_neg (by omega), if_pos b0', w64 (by omega) (by omega), escape_simple k hk.2 s (i + 1) (by omega) (by omega) (by rw [b1']; exact h1)]
    have hk1 := hk.1
    rw [show (((i + 2 : Nat)) : Int) = (i : Int) + 1 + 1 by omega] at hk1
    simp only [Option.bind_some, if_true]
    rw [hk1]
    congr 3
    simp only [List.length_cons]
    omega
  | @uni a b c d v r h1 h2 _ ih =>
    intro i q h
    have hl := congrArg List.length h
    rw [List.length_drop, hL] at hl
    simp only [List.cons_append, List.length_cons, List.length_append] at hl
    have b0 := ChrXFnGjQuoteValid.bt_of_drop h 0
    have b1 := ChrXFnGjQuoteValid.bt_of_drop h 1
    have b2 := ChrXFnGjQuoteValid.bt_of_drop h 2
    have b3 := ChrXFnGjQuoteValid.bt_of_drop h 3
    have b4 := ChrXFnGjQuoteValid.bt_of_drop h 4
    have b5 := ChrXFnGjQuoteValid.bt_of_drop h 5
    rw [show (i : Int) + ((0 : Nat) : Int) = i by omega] at b0
    have b0' : bt s i = 92 := b0
    have b1' : bt s (i + 1) = 117 := b1
    have b2' : bt s (i + 1 + 1) = a := by rw [show (i : Int) + 1 + 1 = i + ((2 : Nat) : Int) by omega]; exact b2
    have b3' : bt s (i + 1 + 2) = b := by rw [show (i : Int) + 1 + 2 = i + ((3 : Nat) : Int) by omega]; exact b3
    have b4' : bt s (i + 1 + 3) = c := by rw [show (i : Int) + 1 + 3 = i + ((4 : Nat) : Int) by omega]; exact b4
    have b5' : bt s (i + 1 + 4) = d := by rw [show (i : Int) + 1 + 4 = i + ((5 : Nat) : Int) by omega]; exact b5
    have := ih (i + 6) q (drop_more [92, 117, a, b, c, d] h)
    refine (this.and (Ev.ge 12)).succ fun k hk => ?_
    obtain ⟨z, hz⟩ := escape_u k hk.2 s (i + 1) (by omega) (by omega) b1'
    rw [b2', b3', b4', b5', h1] at hz
    rw [spec_reader_quoted.l0, if_pos (by omega), if_pos (by omega), if_neg (by omega), if_neg (by omega), if_pos b0', w64 (by omega) (by omega), hz]
    have hk1 := hk.1
    rw [show (((i + 6 : Nat)) : Int) = (i : Int) + 1 + 5 by omega] at hk1
    simp only [Option.isSome_some, Option.bind_some, if_true]
    rw [hk1]
    congr 3
    simp only [List.length_cons]
    omega
/-- gjson's validstring, the same. -/
theorem hv_ishex {c v : Int} (h : hv c = some v) : gjson_ishex.f c = some true := by
  unfold hv at h
  unfold gjson_ishex.f
  repeat' split at h
  all_goals first
    | (cases h; done)
    | skip
  · rw [if_pos (by omega), if_pos (by omega)]
  · rw [if_pos (by omega), if_neg (by omega), if_pos (by omega), if_pos (by omega)]
  · rw [if_pos (by omega), if_neg (by omega), if_neg (by omega), if_pos (by omega)]
    simp
    omega
theorem h4_all {a b c d v : Int} (h : h4 (hv a) (hv b) (hv c) (hv d) = some v) : gjson_ishex.f a = some true ∧ gjson_ishex.f b = some true ∧ gjson_ishex.f c = some true ∧ gjson_ishex.f d = some true := by
  unfold h4 at h
  obtain ⟨x, hx, h⟩ := Option.bind_eq_some_iff.mp h
  obtain ⟨y, hy, h⟩ := Option.bind_eq_some_iff.mp h
  obtain ⟨z, hz, h⟩ := Option.bind_eq_some_iff.mp h
  obtain ⟨t, ht, h⟩ := Option.bind_eq_some_iff.mp h
  exact ⟨hv_ishex hx, hv_ishex hy, hv_ishex hz, hv_ishex ht⟩
theorem rd_of_drop {l : List Int} {i : Nat} {r : List Int} (h : l.drop i = r) (j : Nat) : rd l ((i : Int) + (j : Int)) = rd r (j : Int) := by
  rw [← h, ChrXFnGjQuoteValid.rd_drop]
  congr 1
theorem ins_valid (l : List Int) {r : List Int} (hr : Ins r) : ∀ (i : Nat) (q : List Int), l.drop i = r ++ 34 :: q → Ev fun k => gjson_validstring.v k l (i : Int) = some ((i : Int) + r.length + 1) := by
  induction hr with
  | nil =>
    intro i q h
    have hl := congrArg List.length h
    rw [List.length_drop] at hl
    simp only [List.nil_append, List.length_cons] at hl
    have b0 := rd_of_drop h 0
    rw [show (i : Int) + ((0 : Nat) : Int) = i by omega] at b0
    have b0' : rd l i = 34 := b0
    refine (Ev.ge 0).succ fun k _ => ?_
    rw [gjson_validstring.v, if_neg (by omega), if_neg (by omega), if_neg (by omega), if_pos b0']
    simp
  | @plain c r h1 h2 h3 _ ih =>
    intro i q h
    have hl := congrArg List.length h
    rw [List.length_drop] at hl
    simp only [List.cons_append, List.length_cons, List.length_append] at hl
    have b0 := rd_of_drop h 0
    rw [show (i : Int) + ((0 : Nat) : Int) = i by omega] at b0
    have b0' : rd l i = c := b0
    have := ih (i + 1) q (drop_more [c] h)
    refine this.succ fun k hk => ?_
    rw [gjson_validstring.v, if_neg (by omega), if_neg (by omega), if_neg (by omega), if_neg (by omega)]
    rw [show (((i + 1 : Nat)) : Int) = (i : Int) + 1 by omega] at hk
    rw [hk]
    congr 1
    simp only [List.length_cons]
    omega
  | @esc e r h1 _ ih =>
    intro i q h
    have hl := congrArg List.length h
    rw [List.length_drop] at hl
    simp only [List.cons_append, List.length_cons, List.length_append] at hl
    have b0 := rd_of_drop h 0
    have b1 := rd_of_drop h 1
    rw [show (i : Int) + ((0 : Nat) : Int) = i by omega] at b0
    have b0' : rd l i = 92 := b0
    have b1' : rd l (i + 1) = e := b1
    have := ih (i + 2) q (drop_more [92, e] h)
    refine this.succ fun k hk => ?_
    have hL : gjson_validstring.ltr (rd l (i + 1)) = true := by
      rw [b1']
      unfold Simple at h1
      unfold gjson_validstring.ltr
      rcases h1 with rfl | rfl | rfl | rfl | rfl | rfl | rfl | rfl <;> decide
    rw [gjson_validstring.v, if_neg (by omega), if_neg (by omega), if_pos b0', if_neg (by omega), if_pos hL]
    rw [show (((i + 2 : Nat)) : Int) = (i : Int) + 2 by omega] at hk
    rw [hk]
    congr 1
    simp only [List.length_cons]
    omega
  | @uni a b c d v r h1 h2 _ ih =>
    intro i q h
    have hl := congrArg List.length h
    rw [List.length_drop] at hl
    simp only [List.cons_append, List.length_cons, List.length_append] at hl
    have b0 := rd_of_drop h 0
    rw [show (i : Int) + ((0 : Nat) : Int) = i by omega] at b0
    have b0' : rd l i = 92 := b0
    have b1' : rd l (i + 1) = 117 := rd_of_drop h 1
    have b2' : rd l (i + 2) = a := rd_of_drop h 2
    have b3' : rd l (i + 3) = b := rd_of_drop h 3
    have b4' : rd l (i + 4) = c := rd_of_drop h 4
    have b5' : rd l (i + 5) = d := rd_of_drop h 5
    have := ih (i + 6) q (drop_more [92, 117, a, b, c, d] h)
    refine this.succ fun k hk => ?_
    obtain ⟨k2, k3, k4, k5⟩ := h4_all h1
    have hL : ¬ gjson_validstring.ltr (rd l (i + 1)) = true := by rw [b1']; decide
    rw [gjson_validstring.v, if_neg (by omega), if_neg (by omega), if_pos b0', if_neg (by omega), if_neg hL, if_pos (by rw [b1', b2', b3', b4', b5']; exact ⟨rfl, by omega, k2, k3, k4, k5⟩)]
    rw [show (((i + 6 : Nat)) : Int) = (i : Int) + 6 by omega] at hk
    rw [hk]
    congr 1
    simp only [List.length_cons]
    omega
/-- It stands for something. -/
theorem ins_dec (s : ByteArray) {r : List Int} (hr : Ins r) : ∀ (i : Nat), (bytesOf s).drop i = r → ∀ m : Nat, ∃ xs, dec s m (i : Int) = some xs := by
  have hL := bytesOf_length s
  induction hr with
  | nil =>
    intro i h m
    have hl := congrArg List.length h
    rw [List.length_drop, hL] at hl
    simp only [List.length_nil] at hl
    cases m with
    | zero => exact ⟨[], rfl⟩
    | succ m => exact ⟨[], by rw [dec, if_neg (by omega)]⟩
  | @plain c r h1 h2 h3 _ ih =>
    intro i h m
    have hl := congrArg List.length h
    rw [List.length_drop, hL] at hl
    simp only [List.length_cons] at hl
    have b0 := ChrXFnGjQuoteValid.bt_of_drop h 0
    rw [show (i : Int) + ((0 : Nat) : Int) = i by omega] at b0
    have b0' : bt s i = c := b0
    cases m with
    | zero => exact ⟨[], rfl⟩
    | succ m =>
      obtain ⟨xs, hx⟩ := ih (i + 1) (drop_more [c] h) m
      rw [show (((i + 1 : Nat)) : Int) = (i : Int) + 1 by omega] at hx
      exact ⟨_, by rw [dec, if_pos (by omega), if_neg (by omega), hx]; rfl⟩
  | @esc e r h1 _ ih =>
    intro i h m
    have hl := congrArg List.length h
    rw [List.length_drop, hL] at hl
    simp only [List.length_cons] at hl
    have b0 := ChrXFnGjQuoteValid.bt_of_drop h 0
    rw [show (i : Int) + ((0 : Nat) : Int) = i by omega] at b0
    have b0' : bt s i = 92 := b0
    have b1' : bt s (i + 1) = e := ChrXFnGjQuoteValid.bt_of_drop h 1
    cases m with
    | zero => exact ⟨[], rfl⟩
    | succ m =>
      obtain ⟨xs, hx⟩ := ih (i + 2) (drop_more [92, e] h) m
      rw [show (((i + 2 : Nat)) : Int) = (i : Int) + 2 by omega] at hx
      have hU : U s i = none := by
        unfold U
        rw [if_neg]
        rintro ⟨_, _, h⟩
        rw [b1'] at h
        subst h
        revert h1
        unfold Simple
        decide
      exact ⟨_, by rw [dec, if_pos (by omega), if_pos b0', hU]; simp only []; rw [b1', if_pos h1, hx]; rfl⟩
  | @uni a b c d v r h1 h2 _ ih =>
    intro i h m
    have hl := congrArg List.length h
    rw [List.length_drop, hL] at hl
    simp only [List.length_cons] at hl
    have b0 := ChrXFnGjQuoteValid.bt_of_drop h 0
    rw [show (i : Int) + ((0 : Nat) : Int) = i by omega] at b0
    have b0' : bt s i = 92 := b0
    have b1' : bt s (i + 1) = 117 := ChrXFnGjQuoteValid.bt_of_drop h 1
    have b2' : bt s (i + 2) = a := ChrXFnGjQuoteValid.bt_of_drop h 2
    have b3' : bt s (i + 3) = b := ChrXFnGjQuoteValid.bt_of_drop h 3
    have b4' : bt s (i + 4) = c := ChrXFnGjQuoteValid.bt_of_drop h 4
    have b5' : bt s (i + 5) = d := ChrXFnGjQuoteValid.bt_of_drop h 5
    cases m with
    | zero => exact ⟨[], rfl⟩
    | succ m =>
      obtain ⟨xs, hx⟩ := ih (i + 6) (drop_more [92, 117, a, b, c, d] h) m
      rw [show (((i + 6 : Nat)) : Int) = (i : Int) + 6 by omega] at hx
      have hU : U s i = some v := by
        unfold U
        rw [if_pos ⟨by omega, b0', b1'⟩, b2', b3', b4', b5', h1]
      have hnh : ∀ w, ¬ (High v ∧ Low w) := fun w h => by have := h.1; unfold High at this; omega
      rw [dec, if_pos (by omega), if_pos b0', hU]
      simp only []
      cases hU2 : U s (i + 6) with
      | none => exact ⟨_, by simp only []; rw [hx]; rfl⟩
      | some w => exact ⟨_, by simp only []; rw [if_neg (hnh w), hx]; rfl⟩

end Go.Proofs.YtdllbnecbbggfaaDoor.UnescXFnGjQuoteValid
