/- Proved: gjson's Escape never makes a text shorter, makes it at most twice as long, and makes no two texts the same, for texts of at most 2^11 bytes. -/
import Derived.Test.YtdllbnecbbggfaaXFnGjEscapeAnyx3
import Derived.Test.YtdllbnecbbggfaaBase
namespace Go.Proofs.Ytdllbnecbbggfaa.Pure
open Go.RowKit Go.Proofs.Ytdllbnecbbggfaa.Base Go.Proofs.Ytdllbnecbbggfaa.XFnGjEscapeAny Go.Proofs.YtdllbnecbbggfaaW.PrintWords Go.Proofs.YtdllbnecbbggfaaW.PrintLast

theorem esc_ge (a : List Int) : a.length ≤ (gjson_Escape.esc a).length := by
  induction a with
  | nil => simp [gjson_Escape.esc]
  | cons c r ih =>
    simp only [gjson_Escape.esc, gjson_Escape.one, List.length_append, List.length_cons]
    split <;> simp <;> omega
theorem back_unsafe : gjson_Escape.safe 92 = false := by decide +kernel
theorem esc_inj : ∀ a b : List Int, gjson_Escape.esc a = gjson_Escape.esc b → a = b := by
  intro a
  induction a with
  | nil =>
    intro b h
    cases b with
    | nil => rfl
    | cons c r =>
      simp only [gjson_Escape.esc, gjson_Escape.one] at h
      split at h <;> simp at h
  | cons c r ih =>
    intro b h
    cases b with
    | nil =>
      simp only [gjson_Escape.esc, gjson_Escape.one] at h
      split at h <;> simp at h
    | cons d s =>
      simp only [gjson_Escape.esc, gjson_Escape.one] at h
      by_cases hc : gjson_Escape.safe c = true
      · by_cases hd : gjson_Escape.safe d = true
        · rw [if_pos hc, if_pos hd] at h
          simp only [List.cons_append, List.nil_append, List.cons.injEq] at h
          rw [h.1, ih s h.2]
        · rw [if_pos hc, if_neg hd] at h
          simp only [List.cons_append, List.nil_append, List.cons.injEq] at h
          rw [h.1, back_unsafe] at hc
          cases hc
      · by_cases hd : gjson_Escape.safe d = true
        · rw [if_neg hc, if_pos hd] at h
          simp only [List.cons_append, List.nil_append, List.cons.injEq] at h
          rw [← h.1, back_unsafe] at hd
          cases hd
        · rw [if_neg hc, if_neg hd] at h
          simp only [List.cons_append, List.nil_append, List.cons.injEq] at h
          rw [h.2.1, ih s h.2.2]
theorem esc_bytes (a : List Int) (h : ∀ c ∈ a, 0 ≤ c ∧ c ≤ 255) : ∀ c ∈ gjson_Escape.esc a, 0 ≤ c ∧ c ≤ 255 := by
  induction a with
  | nil => simp [gjson_Escape.esc]
  | cons c r ih =>
    intro x hx
    simp only [gjson_Escape.esc, gjson_Escape.one, List.mem_append] at hx
    rcases hx with hx | hx
    · split at hx
      · simp at hx; subst hx; exact h _ (by simp)
      · simp at hx
        rcases hx with rfl | rfl
        · omega
        · exact h _ (by simp)
    · exact ih (fun y hy => h y (by simp [hy])) x hx
theorem bytes_mem (s : ByteArray) : ∀ c ∈ bytesOf s, 0 ≤ c ∧ c ≤ 255 := by
  intro c hc
  unfold bytesOf at hc
  obtain ⟨b, _, rfl⟩ := List.mem_map.1 hc
  have := b.toNat_lt
  omega
theorem bytesOf_strOfNums (l : List Int) (h : ∀ c ∈ l, 0 ≤ c ∧ c ≤ 255) : bytesOf (strOfNums l) = l := by
  unfold bytesOf strOfNums
  simp only [List.map_map]
  refine (List.map_congr_left (g := id) fun c hc => ?_).trans (List.map_id l)
  have := h c hc
  simp
  omega
theorem strOfNums_esc_inj (a b : ByteArray) (h : strOfNums (gjson_Escape.esc (bytesOf a)) = strOfNums (gjson_Escape.esc (bytesOf b))) : a = b := by
  have h2 := congrArg bytesOf h
  rw [bytesOf_strOfNums _ (esc_bytes _ (bytes_mem a)), bytesOf_strOfNums _ (esc_bytes _ (bytes_mem b))] at h2
  exact bytes_inj (esc_inj _ _ h2)

theorem size_nums (l : List Int) : (strOfNums l).size = l.length := strOfNums_size l
theorem FnGjEscapeAny : laws_FnGjEscapeAny.Pure := by
  intro a b ha hb
  unfold laws_FnGjEscapeAny.f
  refine ⟨1, ?_⟩
  by_cases c1 : (a.size : Int) > 2147483647
  · rw [if_pos c1]; simp only [laws_FnGjEscapeAny.j0]; rw [if_pos (by decide)]
  · rw [if_neg c1]
    by_cases c2 : (b.size : Int) > 2147483647
    · rw [decide_eq_true c2]; simp only [laws_FnGjEscapeAny.j0]; rw [if_pos (by decide)]
    · rw [decide_eq_false c2]; simp only [laws_FnGjEscapeAny.j0]; rw [if_neg (by decide)]
      rw [w64 (by omega) (by omega)]
      by_cases c3 : (a.size : Int) + (b.size : Int) > 4096
      · rw [if_pos c3]
      · rw [if_neg c3]
        have e1 : impl_GjEscape.f a = some (strOfNums (gjson_Escape.esc (bytesOf a))) := by
          unfold impl_GjEscape.f gjson_Escape.f
          rw [if_pos (by omega)]; rfl
        have e2 : impl_GjEscape.f b = some (strOfNums (gjson_Escape.esc (bytesOf b))) := by
          unfold impl_GjEscape.f gjson_Escape.f
          rw [if_pos (by omega)]; rfl
        rw [e1, e2]
        simp only [Option.bind_some]
        have l1 := esc_ge (bytesOf a)
        have l2 := gjson_Escape.esc_le (bytesOf a)
        rw [bytesOf_length] at l1 l2
        rw [size_nums, if_pos (by omega), w64 (by omega) (by omega), if_pos (by omega)]
        congr 1
        by_cases h : a = b
        · subst h; simp
        · have h1 : ¬ (strOfNums (gjson_Escape.esc (bytesOf a))).toList = (strOfNums (gjson_Escape.esc (bytesOf b))).toList := fun e => h (strOfNums_esc_inj a b (toList_inj e))
          have h2 : ¬ a.toList = b.toList := fun e => h (toList_inj e)
          rw [beq_eq_false_iff_ne.mpr h1, beq_eq_false_iff_ne.mpr h2]; rfl

end Go.Proofs.Ytdllbnecbbggfaa.Pure
