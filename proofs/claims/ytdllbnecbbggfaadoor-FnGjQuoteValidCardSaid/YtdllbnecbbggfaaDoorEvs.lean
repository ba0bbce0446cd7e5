/- For all numbers of rounds from some number on. -/
import Derived.Test.YtdllbnecbbggfaaDoorBase
namespace Go.Proofs.YtdllbnecbbggfaaDoor.Evs
open Go.RowKit Go.Proofs.YtdllbnecbbggfaaDoor.Base Go.Proofs.YtdllbnecbbggfaaDoorW.PrintWords Go.Proofs.YtdllbnecbbggfaaDoorW.PrintLast

/-- For all k from some number on. -/
def Ev (P : Nat → Prop) : Prop := ∃ K, ∀ k, K ≤ k → P k
theorem Ev.and {P Q : Nat → Prop} (h : Ev P) (g : Ev Q) : Ev fun k => P k ∧ Q k := by
  obtain ⟨a, h⟩ := h; obtain ⟨b, g⟩ := g
  exact ⟨max a b, fun k hk => ⟨h k (by omega), g k (by omega)⟩⟩
theorem Ev.mp {P Q : Nat → Prop} (h : Ev P) (g : ∀ k, P k → Q k) : Ev Q := by
  obtain ⟨a, h⟩ := h; exact ⟨a, fun k hk => g k (h k hk)⟩
theorem Ev.all {P : Nat → Prop} (h : ∀ k, P k) : Ev P := ⟨0, fun k _ => h k⟩
theorem Ev.succ {P Q : Nat → Prop} (h : Ev P) (g : ∀ k, P k → Q (k + 1)) : Ev Q := by
  obtain ⟨a, h⟩ := h
  refine ⟨a + 1, fun k hk => ?_⟩
  obtain ⟨j, rfl⟩ : ∃ j, k = j + 1 := ⟨k - 1, by omega⟩
  exact g j (h j (by omega))
theorem Ev.ge (K : Nat) : Ev fun k => K ≤ k := ⟨K, fun _ hk => hk⟩
theorem Ev.ex {P : Nat → Prop} (h : Ev P) : ∃ k, P k := by obtain ⟨a, h⟩ := h; exact ⟨a, h a (Nat.le_refl _)⟩
/-- What one number of rounds gives, every greater one gives. -/
theorem lift {α : Type} {f : Nat → Option α} (hm : ∀ k, LeO (f k) (f (k + 1))) {k : Nat} {r : α} (h : f k = some r) : ∀ j, f (k + j) = some r
  | 0 => h
  | j + 1 => hm (k + j) r (lift hm h j)
theorem Ev.of {α : Type} {f : Nat → Option α} (hm : ∀ k, LeO (f k) (f (k + 1))) {k : Nat} {r : α} (h : f k = some r) : Ev fun k => f k = some r :=
  ⟨k, fun j hj => by
    obtain ⟨i, rfl⟩ : ∃ i, j = k + i := ⟨j - k, by omega⟩
    exact lift hm h i⟩

end Go.Proofs.YtdllbnecbbggfaaDoor.Evs
