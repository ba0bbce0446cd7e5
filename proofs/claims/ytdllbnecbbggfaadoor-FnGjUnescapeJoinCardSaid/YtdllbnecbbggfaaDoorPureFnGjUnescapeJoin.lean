/- Proved: of two insides of strings (RFC 8259, UTF-8, no half surrogate pairs), one behind the other, come the characters of both. -/
import Derived.Test.YtdllbnecbbggfaaDoorSaysFnGjUnescapeJoin
namespace Go.Proofs.YtdllbnecbbggfaaDoor.Pure
open Go.RowKit Go.Proofs.YtdllbnecbbggfaaDoor Go.Proofs.YtdllbnecbbggfaaDoor.Base Go.Proofs.YtdllbnecbbggfaaDoor.XFnGjUnescapeJoin Go.Proofs.YtdllbnecbbggfaaDoor.UnescXFnGjUnescapeJoin Go.Proofs.YtdllbnecbbggfaaDoorW.PrintWords Go.Proofs.YtdllbnecbbggfaaDoorW.PrintLast
set_option linter.unusedVariables false
set_option linter.unusedSimpArgs false

/-- What the law asks of one text, and goes on. -/
def chain (k : Nat) (s : ByteArray) (X : Option Bool) : Option Bool :=
  (spec_StringAt.f k (((⟨#[34]⟩ : ByteArray) ++ s) ++ (⟨#[34]⟩ : ByteArray)) 1).bind fun bt193 => (if bt193.2 = true then (if bt193.1 = (wrap64 ((s.size : Int) + 2)) then (if (s.size : Int) > 4096 then (some true) else ((spec_UTF8.f k s).bind fun t195 => (if t195 = true then ((spec_Paired.f k s).bind fun t196 => (if t196 = true then X else (some true))) else (some true)))) else (some true)) else (some true))
theorem chain_some (s : ByteArray) (hs : s.size ≤ 2147483647) : (Ev fun k => ∀ X, chain k s X = some true) ∨ ((∃ xs, UnescXFnGjUnescapeJoin.Steps s 0 xs) ∧ s.size ≤ 4096 ∧ Ev fun k => ∀ X, chain k s X = X) := by
  have hz := quo_size s
  obtain ⟨b, e, hb⟩ := stringAt_some (quo s) (by omega)
  have hw : wrap64 ((s.size : Int) + 2) = ((quo s).size : Int) := by rw [w64 (by omega) (by omega)]; omega
  cases b with
  | false => exact .inl (hb.mp fun k hk X => by unfold chain; rw [show (((⟨#[34]⟩ : ByteArray) ++ s) ++ (⟨#[34]⟩ : ByteArray)) = quo s from rfl, hk.1]; simp)
  | true =>
    by_cases c2 : e = ((quo s).size : Int)
    · by_cases c3 : (s.size : Int) > 4096
      · exact .inl (hb.mp fun k hk X => by unfold chain; rw [show (((⟨#[34]⟩ : ByteArray) ++ s) ++ (⟨#[34]⟩ : ByteArray)) = quo s from rfl, hk.1]; simp only [Option.bind_some, if_true]; rw [hw, if_pos c2, if_pos c3])
      · obtain ⟨u, hu⟩ := utf8_some s (by omega)
        cases u with
        | false => exact .inl ((hb.and hu).mp fun k hk X => by unfold chain; rw [show (((⟨#[34]⟩ : ByteArray) ++ s) ++ (⟨#[34]⟩ : ByteArray)) = quo s from rfl, hk.1.1]; simp only [Option.bind_some, if_true]; rw [hw, if_pos c2, if_neg c3, hk.2]; simp)
        | true =>
          obtain ⟨pr, hp⟩ := paired_some s (by omega)
          cases pr with
          | false => exact .inl (((hb.and hu).and hp).mp fun k hk X => by unfold chain; rw [show (((⟨#[34]⟩ : ByteArray) ++ s) ++ (⟨#[34]⟩ : ByteArray)) = quo s from rfl, hk.1.1.1]; simp only [Option.bind_some, if_true]; rw [hw, if_pos c2, if_neg c3, hk.1.2]; simp only [Option.bind_some, if_true]; rw [hk.2]; simp)
          | true =>
            obtain ⟨k0, hk0⟩ := hb.ex
            obtain ⟨k1, hk1⟩ := hp.ex
            obtain ⟨xs, hx⟩ := steps_some s (by omega) (quo s) e (by omega) k0 k0 (Nat.le_refl _) 0 (by omega) (by omega) (by simpa using hk0.2) ⟨k1, hk1⟩
            refine .inr ⟨⟨xs, hx⟩, by omega, ((hb.and hu).and hp).mp fun k hk X => ?_⟩
            unfold chain
            rw [show (((⟨#[34]⟩ : ByteArray) ++ s) ++ (⟨#[34]⟩ : ByteArray)) = quo s from rfl, hk.1.1.1]
            simp only [Option.bind_some, if_true]
            rw [hw, if_pos c2, if_neg c3, hk.1.2]
            simp only [Option.bind_some, if_true]
            rw [hk.2]
            simp
    · exact .inl (hb.mp fun k hk X => by unfold chain; rw [show (((⟨#[34]⟩ : ByteArray) ++ s) ++ (⟨#[34]⟩ : ByteArray)) = quo s from rfl, hk.1]; simp only [Option.bind_some, if_true]; rw [hw, if_neg c2])
theorem shift {P : Nat → Prop} (h : Ev P) : Ev fun k => P (k + 1) := by
  obtain ⟨K, h⟩ := h
  exact ⟨K, fun k hk => h (k + 1) (by omega)⟩
theorem str_append (a b : List Int) : strOfNums (a ++ b) = strOfNums a ++ strOfNums b := by
  unfold strOfNums
  apply ByteArray.ext
  simp
theorem str_size (a : List Int) : (strOfNums a).size = a.length := by
  unfold strOfNums
  show (List.map _ a).toArray.size = _
  simp
theorem FnGjUnescapeJoin : laws_FnGjUnescapeJoin.Pure := by
  intro a b ha hb
  have J0 : ∀ k c, c = true → laws_FnGjUnescapeJoin.j0 (k + 1) a b c = some true := fun k c hc => by rw [laws_FnGjUnescapeJoin.j0, if_pos hc]
  by_cases c1 : (a.size : Int) > 2147483647
  · exact ⟨1, by unfold laws_FnGjUnescapeJoin.f; rw [if_pos c1]; exact J0 0 true rfl⟩
  · by_cases c2 : (b.size : Int) > 2147483647
    · exact ⟨1, by unfold laws_FnGjUnescapeJoin.f; rw [if_neg c1]; exact J0 0 _ (by simpa using c2)⟩
    · have start : ∀ k, laws_FnGjUnescapeJoin.f (k + 1) a b = laws_FnGjUnescapeJoin.l0 k a b [a, b] 2 0 := fun k => by
        unfold laws_FnGjUnescapeJoin.f
        rw [if_neg c1, laws_FnGjUnescapeJoin.j0, if_neg (by simpa using c2)]
        rfl
      have z34 : (⟨#[34]⟩ : ByteArray).size = 1 := rfl
      have round0 : ∀ k, laws_FnGjUnescapeJoin.l0 (k + 1) a b [a, b] 2 0 = chain k a (laws_FnGjUnescapeJoin.l0 k a b [a, b] 2 1) := fun k => by
        rw [laws_FnGjUnescapeJoin.l0, if_pos (by decide), if_pos (by decide), if_pos (by simp)]
        have e : rdOf ByteArray.empty [a, b] 0 = a := rfl
        rw [e, if_pos (by omega), if_pos (by rw [ByteArray.size_append, z34]; omega), w64 (i := (0 : Int) + 1) (by omega) (by omega)]
        rfl
      have round1 : ∀ k, laws_FnGjUnescapeJoin.l0 (k + 1) a b [a, b] 2 1 = chain k b (laws_FnGjUnescapeJoin.l0 k a b [a, b] 2 2) := fun k => by
        rw [laws_FnGjUnescapeJoin.l0, if_pos (by decide), if_pos (by decide), if_pos (by simp)]
        have e : rdOf ByteArray.empty [a, b] 1 = b := rfl
        rw [e, if_pos (by omega), if_pos (by rw [ByteArray.size_append, z34]; omega), w64 (i := (1 : Int) + 1) (by omega) (by omega)]
        rfl
      rcases chain_some a (by omega) with h | ⟨⟨xs, hx⟩, hal, h⟩
      · obtain ⟨k, hk⟩ := h.ex
        exact ⟨k + 1 + 1, by rw [start, round0, hk]⟩
      · rcases chain_some b (by omega) with g | ⟨⟨ys, hy⟩, hbl, g⟩
        · obtain ⟨k, h1, h2⟩ := ((shift h).and g).ex
          exact ⟨k + 1 + 1 + 1, by rw [start, round0, h1, round1, h2]⟩
        · have hs := (steps_both hx hy).says (by rw [ByteArray.size_append]; omega)
          have hxs := hx.says (by omega)
          have hys := hy.says (by omega)
          have hg := hs.2 []
          have ua := unquote_eq a (by omega) xs (hxs.1 a.size (by omega))
          have ub := unquote_eq b (by omega) ys (hys.1 b.size (by omega))
          have la := dec_le a a.size 0 xs (by omega) (hxs.1 a.size (by omega))
          have lb := dec_le b b.size 0 ys (by omega) (hys.1 b.size (by omega))
          have la' : xs.length ≤ 4096 := by split at la <;> omega
          have lb' : ys.length ≤ 4096 := by split at lb <;> omega
          obtain ⟨k, ⟨h1, h2⟩, ⟨h3, h4⟩, h5⟩ := (((shift (shift h)).and (shift g)).and ((ua.and ub).and hg)).ex
          refine ⟨k + 1 + 1 + 1 + 1, ?_⟩
          rw [start, round0, h1, round1, h2, laws_FnGjUnescapeJoin.l0, if_neg (by decide), if_pos (by omega)]
          unfold impl_GjUnescape.f gjson_DoorUnescape.f gjson_unescape.f
          rw [if_pos (by rw [ByteArray.size_append]; omega), h5]
          simp only [Option.map_some, Option.bind_some, List.nil_append]
          rw [if_pos (by omega), if_pos (by rw [ByteArray.size_append, z34]; omega), h3]
          simp only [Option.bind_some]
          rw [if_pos (by omega), if_pos (by rw [ByteArray.size_append, z34]; omega), h4]
          simp only [Option.bind_some]
          rw [if_pos (by rw [str_size, str_size]; omega), str_append]
          simp

end Go.Proofs.YtdllbnecbbggfaaDoor.Pure
