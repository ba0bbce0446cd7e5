-- Written by xprint.py of this session (a program that runs the kit's print and adds to it); Lean checks it.
import Derived.Test.YtjnfdgibogbgiaaDoorXFnFjCheckValuex0
namespace Go.Proofs.YtjnfdgibogbgiaaDoor.XFnFjCheckValue
open Go.RowKit Go.Proofs.YtjnfdgibogbgiaaDoorW.PrintWords Go.Proofs.YtjnfdgibogbgiaaDoorW.PrintLast Go.Proofs.YtjnfdgibogbgiaaDoorW.PrintMore
attribute [local go_sem] max2_int min2_int max_two min_two max_three min_three max_four min_four   -- for this text's walks alone
set_option linter.unusedVariables false
set_option linter.unusedSimpArgs false

--EXT
/-! ### impl_FjCheckValue: function 6 (by hand) -/
/-- Steady, as the program asks it: 'low' a byte below 32 has been met and no quotation mark since. -/
def impl_FjCheckValue.std : Bool → List Int → Bool
  | _, [] => true
  | low, c :: r => if c = 34 then impl_FjCheckValue.std false r else if c = 92 then (if low = true then false else impl_FjCheckValue.std low r) else if c < 32 then impl_FjCheckValue.std true r else impl_FjCheckValue.std low r
theorem impl_FjCheckValue.std_low : ∀ l : List Int, impl_FjCheckValue.std true l = true → (∀ x y : List Int, l = x ++ 92 :: y → (34 : Int) ∈ x) ∧ impl_FjCheckValue.std false l = true
  | [], _ => ⟨(fun x y e => by cases x <;> cases e), rfl⟩
  | c :: r, h => by
    rw [impl_FjCheckValue.std] at h
    by_cases c1 : c = 34
    · rw [if_pos c1] at h
      refine ⟨fun x y e => ?_, by rw [impl_FjCheckValue.std, if_pos c1]; exact h⟩
      cases x with
      | nil => simp only [List.nil_append, List.cons.injEq] at e; omega
      | cons a x => simp only [List.cons_append, List.cons.injEq] at e; rw [← e.1, c1]; exact List.mem_cons_self ..
    · rw [if_neg c1] at h
      by_cases c2 : c = 92
      · rw [if_pos c2, if_pos rfl] at h; cases h
      · rw [if_neg c2] at h
        have h' : impl_FjCheckValue.std true r = true := by
          by_cases c3 : c < 32
          · rw [if_pos c3] at h; exact h
          · rw [if_neg c3] at h; exact h
        obtain ⟨g1, g2⟩ := impl_FjCheckValue.std_low r h'
        refine ⟨fun x y e => ?_, ?_⟩
        · cases x with
          | nil => simp only [List.nil_append, List.cons.injEq] at e; exact absurd e.1 c2
          | cons a x => simp only [List.cons_append, List.cons.injEq] at e; exact List.mem_cons_of_mem _ (g1 x y e.2)
        · rw [impl_FjCheckValue.std, if_neg c1, if_neg c2]
          by_cases c3 : c < 32
          · rw [if_pos c3]; exact h'
          · rw [if_neg c3]; exact g2
theorem impl_FjCheckValue.std_steady : ∀ l : List Int, impl_FjCheckValue.std false l = true → Fj.Steady l
  | [], _ => trivial
  | c :: r, h => by
    rw [impl_FjCheckValue.std] at h
    by_cases c1 : c = 34
    · rw [if_pos c1] at h
      exact ⟨fun h32 => by omega, impl_FjCheckValue.std_steady r h⟩
    · rw [if_neg c1] at h
      by_cases c2 : c = 92
      · rw [if_pos c2, if_neg (by decide)] at h
        exact ⟨fun h32 => by omega, impl_FjCheckValue.std_steady r h⟩
      · rw [if_neg c2] at h
        by_cases c3 : c < 32
        · rw [if_pos c3] at h
          obtain ⟨g1, g2⟩ := impl_FjCheckValue.std_low r h
          exact ⟨fun _ => g1, impl_FjCheckValue.std_steady r g2⟩
        · rw [if_neg c3] at h
          exact ⟨fun h32 => absurd h32 c3, impl_FjCheckValue.std_steady r h⟩
def impl_FjCheckValue.ans (a0 : ByteArray) : ByteArray × Bool := match Fj.val (2 * a0.size + 3) (bytesOf a0) with
  | some m => (a0.extract m a0.size, true)
  | none => (⟨#[]⟩, false)
def impl_FjCheckValue.f (a0 : ByteArray) : Option (ByteArray × Bool) := if a0.size ≤ 1000000 ∧ impl_FjCheckValue.std false (bytesOf a0) = true then some (impl_FjCheckValue.ans a0) else none
set_option maxHeartbeats 2000000 in
theorem impl_FjCheckValue.door (a0 : ByteArray) (o : Option Nat) (w : World) (hC : ∀ w, Glob w → Calls Tryd.prog 10 #[.string a0] w fun e w' => FjW.Said a0 o e ∧ Below w.heap.size w w') (hG : Glob w) :
    Calls Tryd.prog 8 #[.string a0] w fun e w' => FjW.Said a0 o e ∧ Below w.heap.size w w' := by
  have HC := am (hC w hG)
  clear hC hG
  cases o with
  | none =>
    go_enter Tryd.func8, Tryd.ntmps8
    go_wp2_with (go_at_call 10; (with_reducible refine HC.out.mono ?_); rintro e w' ⟨⟨x, T, u, rfl⟩, hb⟩; have HB1 := am hb; clear hb)
    go_ret2
    exact ⟨FjW.said_none rfl _ T u rfl, HB1.out⟩
  | some m =>
    go_enter Tryd.func8, Tryd.ntmps8
    go_wp2_with (go_at_call 10; (with_reducible refine HC.out.mono ?_); rintro e w' ⟨h, hb⟩; unfold FjW.Said at h; simp only [] at h; subst h; have HB1 := am hb; clear hb)
    go_ret2
    exact ⟨FjW.said_some rfl rfl rfl, HB1.out⟩
set_option maxHeartbeats 2000000 in
theorem impl_FjCheckValue.calls (a0 : ByteArray) (r1 : ByteArray) (r2 : Bool) (w : World) (hG : Glob w) (h : impl_FjCheckValue.f a0 = some (r1, r2)) :
    Calls Tryd.prog 6 #[.string a0] w fun e w' => e = .returned (.tuple #[.string r1, .bool r2]) ∧ Below w.heap.size w w' := by
  unfold impl_FjCheckValue.f at h
  by_cases c : a0.size ≤ 1000000 ∧ impl_FjCheckValue.std false (bytesOf a0) = true
  · rw [if_pos c] at h
    have HC := am (impl_FjCheckValue.door a0 (Fj.val (2 * a0.size + 3) (bytesOf a0)) w (fun w1 hG1 => FjW.value a0 _ w1 c.1 (impl_FjCheckValue.std_steady _ c.2) (Nat.le_succ _) hG1) hG)
    unfold impl_FjCheckValue.ans at h
    cases hv : Fj.val (2 * a0.size + 3) (bytesOf a0) with
    | none =>
      rw [hv] at h HC
      simp only [Option.some.injEq, Prod.mk.injEq] at h
      obtain ⟨rfl, rfl⟩ := h
      clear hv c hG
      go_enter Tryd.func6, Tryd.ntmps6
      go_wp2_with (go_at_call 8; (with_reducible refine HC.out.mono ?_); rintro e w' ⟨⟨x, T, u, rfl⟩, hb⟩; have HB1 := am hb; clear hb)
      go_ret2
      exact ⟨rfl, HB1.out⟩
    | some m =>
      rw [hv] at h HC
      simp only [Option.some.injEq, Prod.mk.injEq] at h
      obtain ⟨rfl, rfl⟩ := h
      clear hv c hG
      go_enter Tryd.func6, Tryd.ntmps6
      go_wp2_with (go_at_call 8; (with_reducible refine HC.out.mono ?_); rintro e w' ⟨h, hb⟩; unfold FjW.Said at h; simp only [] at h; subst h; have HB1 := am hb; clear hb)
      go_ret2
      exact ⟨rfl, HB1.out⟩
  · rw [if_neg c] at h; cases h


end Go.Proofs.YtjnfdgibogbgiaaDoor.XFnFjCheckValue
