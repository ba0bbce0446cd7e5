/- Of a steady text of at most 4000 bytes fastjson's inner check of a value takes the JSON value that begins it, as the reference does: both come to the one plain function Fj.val. -/
import Derived.Test.YtjnfdgibogbgiaaDoorXFnFjCheckValuex8
import Derived.Test.YtjnfdgibogbgiaaDoorFjRFnFjCheckValue
namespace Go.Proofs.YtjnfdgibogbgiaaDoor.Pure
open Go.RowKit Go.Proofs.YtjnfdgibogbgiaaDoor.Base Go.Proofs.YtjnfdgibogbgiaaDoor.XFnFjCheckValue Go.Proofs.YtjnfdgibogbgiaaDoor.ReadXFnFjCheckValue Go.Proofs.YtjnfdgibogbgiaaDoorW.PrintWords Go.Proofs.YtjnfdgibogbgiaaDoorW.PrintLast
set_option linter.unusedVariables false
set_option linter.unusedSimpArgs false

/-- fjSteady's loop. -/
theorem steady_run (s : ByteArray) (hs : s.size ≤ 1000000) : ∀ (n p : Nat) (low : Bool), p ≤ s.size → s.size - p ≤ n → Ev fun k => laws_fjSteady.l0 k s low (p : Int) = some (impl_FjCheckValue.std low (D s p))
  | n, p, low, h1, h2 => by
    by_cases h : p < s.size
    · obtain ⟨m, rfl⟩ : ∃ m, n = m + 1 := ⟨n - 1, by omega⟩
      have ih := fun lo => steady_run s hs m (p + 1) lo (by omega) (by omega)
      have e1 : wrap64 ((p : Int) + 1) = ((p + 1 : Nat) : Int) := by rw [w64 (by omega) (by omega)]; rfl
      have hp0 : (0 : Int) ≤ (p : Int) := by omega
      have hp1 : (p : Int) < (s.size : Int) := by omega
      have hD : D s p = bt s (p : Int) :: D s (p + 1) := D_cons p h
      rw [hD, impl_FjCheckValue.std]
      by_cases c1 : bt s (p : Int) = 34
      · refine (ih false).succ fun k hk => ?_
        rw [laws_fjSteady.l0, if_pos hp1, if_pos hp0, if_pos c1, if_pos c1, e1]
        exact hk
      · rw [if_neg c1]
        by_cases c2 : bt s (p : Int) = 92
        · rw [if_pos c2]
          cases low with
          | true =>
            rw [if_pos rfl]
            refine (Ev.ge 2).mp fun k hk => ?_
            obtain ⟨j, rfl⟩ : ∃ j, k = j + 1 + 1 := ⟨k - 2, by omega⟩
            rw [laws_fjSteady.l0, if_pos hp1, if_pos hp0, if_neg c1, if_pos c2, laws_fjSteady.j1, if_pos rfl]
          | false =>
            rw [if_neg (by decide)]
            refine ((ih false).succ (Q := fun k => laws_fjSteady.j1 k s false (p : Int) false = some (impl_FjCheckValue.std false (D s (p + 1)))) fun k hk => ?_).succ fun k hk => ?_
            · rw [laws_fjSteady.j1, if_neg (by decide), if_pos hp0, if_pos hp1, if_neg (by omega), e1]
              exact hk
            · rw [laws_fjSteady.l0, if_pos hp1, if_pos hp0, if_neg c1, if_pos c2]
              exact hk
        · rw [if_neg c2]
          by_cases c3 : bt s (p : Int) < 32
          · rw [if_pos c3]
            refine ((ih true).succ (Q := fun k => laws_fjSteady.j1 k s low (p : Int) false = some (impl_FjCheckValue.std true (D s (p + 1)))) fun k hk => ?_).succ fun k hk => ?_
            · rw [laws_fjSteady.j1, if_neg (by decide), if_pos hp0, if_pos hp1, if_pos c3, e1]
              exact hk
            · rw [laws_fjSteady.l0, if_pos hp1, if_pos hp0, if_neg c1, if_neg c2]
              exact hk
          · rw [if_neg c3]
            refine ((ih low).succ (Q := fun k => laws_fjSteady.j1 k s low (p : Int) false = some (impl_FjCheckValue.std low (D s (p + 1)))) fun k hk => ?_).succ fun k hk => ?_
            · rw [laws_fjSteady.j1, if_neg (by decide), if_pos hp0, if_pos hp1, if_neg c3, e1]
              exact hk
            · rw [laws_fjSteady.l0, if_pos hp1, if_pos hp0, if_neg c1, if_neg c2]
              exact hk
    · have e : D s p = [] := List.drop_of_length_le (by rw [bytesOf_length]; omega)
      rw [e, impl_FjCheckValue.std]
      refine (Ev.ge 1).mp fun k hk => ?_
      obtain ⟨j, rfl⟩ : ∃ j, k = j + 1 := ⟨k - 1, by omega⟩
      rw [laws_fjSteady.l0, if_neg (by omega)]
/-- What the reference says begins a text. -/
theorem behind_run (s : ByteArray) (hs : s.size ≤ 1000000) : Ev fun k => laws_behind.f k s = some (impl_FjCheckValue.ans s) := by
  obtain ⟨r, hr, ha⟩ := value_is hs 0 (Nat.zero_le _) (2 * s.size + 3) (Nat.le_refl _)
  refine hr.mp fun k hk => ?_
  have hk' : spec_reader_value.f k s 0 = some r := hk
  unfold laws_behind.f
  rw [hk']
  simp only [Option.bind_some]
  obtain ⟨t1, t2, t3, t4, t5, t6, t7, t8⟩ := r
  obtain ⟨e1, e2, e3⟩ := ha
  simp only [] at e1 e2 e3
  dsimp only
  unfold impl_FjCheckValue.ans
  have hD : D s 0 = bytesOf s := List.drop_zero
  rw [hD] at e3
  cases hv : Fj.val (2 * s.size + 3) (bytesOf s) with
  | none =>
    rw [hv] at e3
    simp only [Option.map_none] at e3
    rcases e3 with e3 | ⟨e3, e4, e5⟩
    · rw [if_neg (by rw [e3]; decide)]
    · rw [if_pos e3]
      have hz : ∀ {p : Nat}, Zero2 s p → p + 1 < s.size := fun {p} h => by
        by_cases c : p + 1 < s.size
        · exact c
        · have h1 := h.2.1
          rw [bt_out s ((p + 1 : Nat) : Int) (by omega)] at h1
          omega
      rcases e5 with ⟨z, e5⟩ | ⟨m, z, e5⟩
      · have hlt := hz z
        have e6 : t3 = 1 := by rw [e2, e5]; rfl
        subst e6
        rw [if_pos ⟨by omega, by omega, by omega⟩]
        rw [if_pos]
        obtain ⟨z1, z2, z3⟩ := z
        unfold spec_Begins.led
        rw [e4]
        have y1 : bt s 0 = 48 := z1
        have y2 : 48 ≤ bt s 1 := z2
        have y3 : bt s 1 ≤ 57 := z3
        simp [y1, y2, y3]
        omega
      · have hlt := hz z
        have e6 : t3 = 2 := by rw [e2, e5]; rfl
        subst e6
        rw [if_pos ⟨by omega, by omega, by omega⟩]
        rw [if_pos]
        obtain ⟨z1, z2, z3⟩ := z
        unfold spec_Begins.led
        rw [e4]
        have y0 : bt s 0 = 45 := m
        have y1 : bt s 1 = 48 := z1
        have y2 : 48 ≤ bt s 2 := z2
        have y3 : bt s 2 ≤ 57 := z3
        simp [y0, y1, y2, y3]
        omega
  | some m =>
    rw [hv] at e3
    simp only [Option.map_some, Nat.zero_add] at e3
    obtain ⟨e3, e4, e5, e6, e7⟩ := e3
    have e8 : t3 = (m : Int) := by rw [e2, e4]
    subst e8
    rw [if_pos e3, if_pos ⟨by omega, by omega, by omega⟩]
    have hl : spec_Begins.led s t1 (m : Int) = false := by
      rw [Bool.eq_false_iff]
      intro hl
      unfold spec_Begins.led at hl
      simp only [Bool.and_eq_true, Bool.or_eq_true, beq_iff_eq, decide_eq_true_eq] at hl
      obtain ⟨h1, h2, h3, h4, h5, h6⟩ := hl
      refine e7 h1 ?_
      rcases h3 with h3 | ⟨h3, h7⟩
      · obtain rfl : m = 1 := by omega
        exact .inl ⟨h2, h5, h6⟩
      · obtain rfl : m = 2 := by omega
        exact .inr ⟨h7, h2, h5, h6⟩
    rw [if_neg (by rw [hl]; decide)]
    rw [Int.toNat_natCast]
theorem FnFjCheckValue : laws_FnFjCheckValue.Pure := by
  intro s hs0
  by_cases g1 : (s.size : Int) > 2147483647
  · exact ⟨0, by unfold laws_FnFjCheckValue.f; rw [if_pos g1]⟩
  by_cases g2 : (s.size : Int) > 4000
  · exact ⟨1, by unfold laws_FnFjCheckValue.f; rw [if_neg g1, if_pos g2, laws_FnFjCheckValue.j0, if_pos rfl]⟩
  have hs : s.size ≤ 1000000 := by omega
  have hst := steady_run s hs s.size 0 false (Nat.zero_le _) (by omega)
  have hD : D s 0 = bytesOf s := List.drop_zero
  rw [hD] at hst
  obtain ⟨K1, hst⟩ := hst
  obtain ⟨K2, hb⟩ := behind_run s hs
  refine ⟨K1 + K2 + 1, ?_⟩
  have h1 := hb (K1 + K2) (by omega)
  have h2 : laws_fjSteady.f (K1 + K2 + 1) s = some (impl_FjCheckValue.std false (bytesOf s)) := hst (K1 + K2 + 1) (by omega)
  have h3 : ∃ m, impl_FjCheckValue.f (⟨#[49]⟩ : ByteArray) = some (m, true) := ⟨_, rfl⟩
  unfold laws_FnFjCheckValue.f
  rw [if_neg g1, if_neg g2, h2]
  simp only [Option.bind_some]
  rw [laws_FnFjCheckValue.j0]
  cases hd : impl_FjCheckValue.std false (bytesOf s) with
  | false => rfl
  | true =>
    have h4 : impl_FjCheckValue.f s = some (impl_FjCheckValue.ans s) := by
      unfold impl_FjCheckValue.f
      rw [if_pos ⟨hs, hd⟩]
    obtain ⟨m, h3⟩ := h3
    rw [h1, h4, h3]
    generalize impl_FjCheckValue.ans s = a
    obtain ⟨x, y⟩ := a
    cases y <;> simp
end Go.Proofs.YtjnfdgibogbgiaaDoor.Pure
