/- Proved: a text of letters of ASCII alone is valid JSON for gjson just if it is "true", "false" or "null", and so it is as an element behind a 1 in an array; for every text. -/
import Derived.Test.YtdllbnecbbggfaaXFnGjValidWordx7
import Derived.Test.YtdllbnecbbggfaaBase
namespace Go.Proofs.Ytdllbnecbbggfaa.Pure
open Go.RowKit Go.Proofs.Ytdllbnecbbggfaa.Base Go.Proofs.Ytdllbnecbbggfaa.XFnGjValidWord Go.Proofs.YtdllbnecbbggfaaW.PrintWords Go.Proofs.YtdllbnecbbggfaaW.PrintLast

theorem or_letter (x : Int) (h0 : 0 ≤ x) (h1 : x ≤ 255) : (97 ≤ Go.bits .or .u8 x 32 ∧ Go.bits .or .u8 x 32 ≤ 122) ↔ (65 ≤ x ∧ x ≤ 90 ∨ 97 ≤ x ∧ x ≤ 122) := by
  have key : ∀ x : Nat, x < 256 → ((97 ≤ Go.bits .or .u8 (x : Int) 32 ∧ Go.bits .or .u8 (x : Int) 32 ≤ 122) ↔ (65 ≤ (x : Int) ∧ (x : Int) ≤ 90 ∨ 97 ≤ (x : Int) ∧ (x : Int) ≤ 122)) := by decide +kernel
  obtain ⟨n, rfl⟩ : ∃ n : Nat, x = n := ⟨x.toNat, by omega⟩
  exact key n (by omega)

def Letter (x : Int) : Prop := 65 ≤ x ∧ x ≤ 90 ∨ 97 ≤ x ∧ x ≤ 122

/-- A text L in which letters stand from p to p + n, and behind them a blank, or nothing. -/
structure Word (L : List Int) (p n : Int) : Prop where
  p0 : 0 ≤ p
  n0 : 0 < n
  le : p + n ≤ L.length
  most : (L.length : Int) ≤ 100000
  letters : ∀ i, p ≤ i → i < p + n → Letter (rd L i)
  after : p + n < L.length → rd L (p + n) = 32

def isTrue (L : List Int) (p n : Int) : Prop := n = 4 ∧ rd L p = 116 ∧ rd L (p + 1) = 114 ∧ rd L (p + 2) = 117 ∧ rd L (p + 3) = 101
def isFalse (L : List Int) (p n : Int) : Prop := n = 5 ∧ rd L p = 102 ∧ rd L (p + 1) = 97 ∧ rd L (p + 2) = 108 ∧ rd L (p + 3) = 115 ∧ rd L (p + 4) = 101
def isNull (L : List Int) (p n : Int) : Prop := n = 4 ∧ rd L p = 110 ∧ rd L (p + 1) = 117 ∧ rd L (p + 2) = 108 ∧ rd L (p + 3) = 108
def isWord (L : List Int) (p n : Int) : Prop := isTrue L p n ∨ isFalse L p n ∨ isNull L p n

theorem true_at (L : List Int) (a : Int) (h0 : 0 ≤ a) (hm : (L.length : Int) ≤ 100000) (ha : a ≤ L.length) :
    (gjson_validtrue.f L a = some (a + 3, true) ∧ a + 3 ≤ L.length ∧ rd L a = 114 ∧ rd L (a + 1) = 117 ∧ rd L (a + 2) = 101) ∨
    (gjson_validtrue.f L a = some (a, false) ∧ ¬ (a + 3 ≤ L.length ∧ rd L a = 114 ∧ rd L (a + 1) = 117 ∧ rd L (a + 2) = 101)) := by
  unfold gjson_validtrue.f
  rw [w64 (i := a + 3) (by omega) (by omega), w64 (i := a + 1) (by omega) (by omega), w64 (i := a + 2) (by omega) (by omega)]
  by_cases c1 : a + 3 ≤ (L.length : Int)
  · rw [if_pos c1, if_pos h0, if_pos (by omega)]
    by_cases c2 : rd L a = 114
    · rw [if_pos c2, if_pos (by omega), if_pos (by omega)]
      by_cases c3 : rd L (a + 1) = 117
      · rw [if_pos c3, if_pos (by omega), if_pos (by omega)]
        by_cases c4 : rd L (a + 2) = 101
        · rw [if_pos c4]; exact .inl ⟨rfl, c1, c2, c3, c4⟩
        · rw [if_neg c4]; exact .inr ⟨rfl, fun h => c4 h.2.2.2⟩
      · rw [if_neg c3]; exact .inr ⟨rfl, fun h => c3 h.2.2.1⟩
    · rw [if_neg c2]; exact .inr ⟨rfl, fun h => c2 h.2.1⟩
  · rw [if_neg c1]; exact .inr ⟨rfl, fun h => c1 h.1⟩

theorem null_at (L : List Int) (a : Int) (h0 : 0 ≤ a) (hm : (L.length : Int) ≤ 100000) (ha : a ≤ L.length) :
    (gjson_validnull.f L a = some (a + 3, true) ∧ a + 3 ≤ L.length ∧ rd L a = 117 ∧ rd L (a + 1) = 108 ∧ rd L (a + 2) = 108) ∨
    (gjson_validnull.f L a = some (a, false) ∧ ¬ (a + 3 ≤ L.length ∧ rd L a = 117 ∧ rd L (a + 1) = 108 ∧ rd L (a + 2) = 108)) := by
  unfold gjson_validnull.f
  rw [w64 (i := a + 3) (by omega) (by omega), w64 (i := a + 1) (by omega) (by omega), w64 (i := a + 2) (by omega) (by omega)]
  by_cases c1 : a + 3 ≤ (L.length : Int)
  · rw [if_pos c1, if_pos h0, if_pos (by omega)]
    by_cases c2 : rd L a = 117
    · rw [if_pos c2, if_pos (by omega), if_pos (by omega)]
      by_cases c3 : rd L (a + 1) = 108
      · rw [if_pos c3, if_pos (by omega), if_pos (by omega)]
        by_cases c4 : rd L (a + 2) = 108
        · rw [if_pos c4]; exact .inl ⟨rfl, c1, c2, c3, c4⟩
        · rw [if_neg c4]; exact .inr ⟨rfl, fun h => c4 h.2.2.2⟩
      · rw [if_neg c3]; exact .inr ⟨rfl, fun h => c3 h.2.2.1⟩
    · rw [if_neg c2]; exact .inr ⟨rfl, fun h => c2 h.2.1⟩
  · rw [if_neg c1]; exact .inr ⟨rfl, fun h => c1 h.1⟩

theorem false_at (L : List Int) (a : Int) (h0 : 0 ≤ a) (hm : (L.length : Int) ≤ 100000) (ha : a ≤ L.length) :
    (gjson_validfalse.f L a = some (a + 4, true) ∧ a + 4 ≤ L.length ∧ rd L a = 97 ∧ rd L (a + 1) = 108 ∧ rd L (a + 2) = 115 ∧ rd L (a + 3) = 101) ∨
    (gjson_validfalse.f L a = some (a, false) ∧ ¬ (a + 4 ≤ L.length ∧ rd L a = 97 ∧ rd L (a + 1) = 108 ∧ rd L (a + 2) = 115 ∧ rd L (a + 3) = 101)) := by
  unfold gjson_validfalse.f
  rw [w64 (i := a + 4) (by omega) (by omega), w64 (i := a + 3) (by omega) (by omega), w64 (i := a + 1) (by omega) (by omega), w64 (i := a + 2) (by omega) (by omega)]
  by_cases c1 : a + 4 ≤ (L.length : Int)
  · rw [if_pos c1, if_pos h0, if_pos (by omega)]
    by_cases c2 : rd L a = 97
    · rw [if_pos c2, if_pos (by omega), if_pos (by omega)]
      by_cases c3 : rd L (a + 1) = 108
      · rw [if_pos c3, if_pos (by omega), if_pos (by omega)]
        by_cases c4 : rd L (a + 2) = 115
        · rw [if_pos c4, if_pos (by omega), if_pos (by omega)]
          by_cases c5 : rd L (a + 3) = 101
          · rw [if_pos c5]; exact .inl ⟨rfl, c1, c2, c3, c4, c5⟩
          · rw [if_neg c5]; exact .inr ⟨rfl, fun h => c5 h.2.2.2.2⟩
        · rw [if_neg c4]; exact .inr ⟨rfl, fun h => c4 h.2.2.2.1⟩
      · rw [if_neg c3]; exact .inr ⟨rfl, fun h => c3 h.2.2.1⟩
    · rw [if_neg c2]; exact .inr ⟨rfl, fun h => c2 h.2.1⟩
  · rw [if_neg c1]; exact .inr ⟨rfl, fun h => c1 h.1⟩

theorem Word.ge {L : List Int} {p n : Int} (h : Word L p n) (m : Int) (hm : p + m ≤ L.length) (hl : ∀ i, p ≤ i → i < p + m → rd L i ≠ 32) : m ≤ n := by
  rcases Int.lt_or_le n m with hlt | hle
  · exact absurd (h.after (by omega)) (hl _ (by have := h.n0; omega) (by omega))
  · exact hle

/-- What validany says of a place where letters stand. -/
theorem any_word {L : List Int} {p n : Int} (h : Word L p n) (k : Nat) :
    ∃ q b, gjson_validany.f (k + 4) L p = some (q, b) ∧ (b = true → p + 4 ≤ q ∧ q ≤ p + n ∧ (q = p + n → isWord L p n)) ∧ (isWord L p n → b = true ∧ q = p + n) := by
  obtain ⟨p0, n0, hle, hm, hl, ha⟩ := id h
  have hc := hl p (by omega) (by omega)
  unfold Letter at hc
  have red : gjson_validany.f (k + 4) L p = (if rd L p = 116 then ((gjson_validtrue.f L (p + 1)).bind fun bt127 => (some (bt127.1, bt127.2))) else (if rd L p = 102 then ((gjson_validfalse.f L (p + 1)).bind fun bt129 => (some (bt129.1, bt129.2))) else (if rd L p = 110 then ((gjson_validnull.f L (p + 1)).bind fun bt131 => (some (bt131.1, bt131.2))) else (some (p, false))))) := by
    have e13 : (rd L p == 13) = false := beq_eq_false_iff_ne.mpr (by omega)
    have e57 : (rd L p == 57) = false := beq_eq_false_iff_ne.mpr (by omega)
    simp only [gjson_validany.f, gjson_validany.l0]
    rw [if_pos (by omega), if_pos p0, if_neg (by omega), if_neg (by omega), if_neg (by omega), e13]
    simp only [gjson_validany.j1]
    rw [if_neg (by decide), if_neg (by omega), if_neg (by omega), if_neg (by omega), if_neg (by omega), if_neg (by omega), if_neg (by omega), if_neg (by omega), if_neg (by omega), if_neg (by omega), if_neg (by omega), if_neg (by omega), if_neg (by omega), if_neg (by omega), e57]
    simp only [gjson_validany.j2]
    rw [if_neg (by decide), w64 (i := p + 1) (by omega) (by omega)]
  rw [red]
  have e2 : p + 1 + 1 = p + 2 := by omega
  have e3 : p + 1 + 2 = p + 3 := by omega
  have e4 : p + 1 + 3 = p + 4 := by omega
  by_cases c1 : rd L p = 116
  · rw [if_pos c1]
    rcases true_at L (p + 1) (by omega) hm (by omega) with ⟨e, g1, g2, g3, g4⟩ | ⟨e, g⟩
    · rw [e2] at g3; rw [e3] at g4
      have hn : 4 ≤ n := h.ge 4 (by omega) (fun i a b => by
        rcases (show i = p ∨ i = p + 1 ∨ i = p + 2 ∨ i = p + 3 by omega) with rfl | rfl | rfl | rfl <;> omega)
      refine ⟨_, _, by rw [e]; rfl, fun _ => ⟨by omega, by omega, fun hq => .inl ⟨by omega, c1, g2, g3, g4⟩⟩, fun hw => ⟨rfl, ?_⟩⟩
      rcases hw with ⟨h1, _⟩ | ⟨_, h2, _⟩ | ⟨_, h2, _⟩ <;> omega
    · refine ⟨_, _, by rw [e]; rfl, (fun hb => by cases hb), fun hw => absurd ?_ g⟩
      rw [e2, e3]
      rcases hw with ⟨h1, h2, h3, h4, h5⟩ | ⟨_, h2, _⟩ | ⟨_, h2, _⟩
      · exact ⟨by omega, h3, h4, h5⟩
      · omega
      · omega
  · rw [if_neg c1]
    by_cases c2 : rd L p = 102
    · rw [if_pos c2]
      rcases false_at L (p + 1) (by omega) hm (by omega) with ⟨e, g1, g2, g3, g4, g5⟩ | ⟨e, g⟩
      · rw [e2] at g3; rw [e3] at g4; rw [e4] at g5
        have hn : 5 ≤ n := h.ge 5 (by omega) (fun i a b => by
          rcases (show i = p ∨ i = p + 1 ∨ i = p + 2 ∨ i = p + 3 ∨ i = p + 4 by omega) with rfl | rfl | rfl | rfl | rfl <;> omega)
        refine ⟨_, _, by rw [e]; rfl, fun _ => ⟨by omega, by omega, fun hq => .inr (.inl ⟨by omega, c2, g2, g3, g4, g5⟩)⟩, fun hw => ⟨rfl, ?_⟩⟩
        rcases hw with ⟨h1, h2, _⟩ | ⟨h1, h2, _⟩ | ⟨_, h2, _⟩ <;> omega
      · refine ⟨_, _, by rw [e]; rfl, (fun hb => by cases hb), fun hw => absurd ?_ g⟩
        rw [e2, e3, e4]
        rcases hw with ⟨h1, h2, h3, h4, h5⟩ | ⟨h1, h2, h3, h4, h5, h6⟩ | ⟨_, h2, _⟩
        · omega
        · exact ⟨by omega, h3, h4, h5, h6⟩
        · omega
    · rw [if_neg c2]
      by_cases c3 : rd L p = 110
      · rw [if_pos c3]
        rcases null_at L (p + 1) (by omega) hm (by omega) with ⟨e, g1, g2, g3, g4⟩ | ⟨e, g⟩
        · rw [e2] at g3; rw [e3] at g4
          have hn : 4 ≤ n := h.ge 4 (by omega) (fun i a b => by
            rcases (show i = p ∨ i = p + 1 ∨ i = p + 2 ∨ i = p + 3 by omega) with rfl | rfl | rfl | rfl <;> omega)
          refine ⟨_, _, by rw [e]; rfl, fun _ => ⟨by omega, by omega, fun hq => .inr (.inr ⟨by omega, c3, g2, g3, g4⟩)⟩, fun hw => ⟨rfl, ?_⟩⟩
          rcases hw with ⟨h1, h2, _⟩ | ⟨h1, h2, _⟩ | ⟨h1, h2, _⟩ <;> omega
        · refine ⟨_, _, by rw [e]; rfl, (fun hb => by cases hb), fun hw => absurd ?_ g⟩
          rw [e2, e3]
          rcases hw with ⟨h1, h2, h3, h4, h5⟩ | ⟨_, h2, _⟩ | ⟨h1, h2, h3, h4, h5⟩
          · omega
          · omega
          · exact ⟨by omega, h3, h4, h5⟩
      · rw [if_neg c3]
        refine ⟨_, _, rfl, (fun hb => by cases hb), fun hw => ?_⟩
        rcases hw with ⟨_, h2, _⟩ | ⟨_, h2, _⟩ | ⟨_, h2, _⟩
        · exact absurd h2 c1
        · exact absurd h2 c2
        · exact absurd h2 c3

theorem comma_44 {L : List Int} {q : Int} (k : Nat) (e : Int) (h0 : 0 ≤ q) (h1 : q < L.length) (h2 : rd L q = 44) : gjson_validcomma.f (k + 2) L q e = some (q, true) := by
  have e13 : ((44 : Int) == 13) = false := by decide
  unfold gjson_validcomma.f
  simp only [gjson_validcomma.l0]
  rw [if_pos h1, if_pos h0, h2, if_neg (by omega), if_neg (by omega), if_neg (by omega), e13]
  simp only [gjson_validcomma.j1]
  rw [if_neg (by decide), if_pos (by decide)]
theorem comma_end {L : List Int} {q : Int} (k : Nat) (h0 : 0 ≤ q) (h1 : q < L.length) (h2 : rd L q = 93) : gjson_validcomma.f (k + 2) L q 93 = some (q, true) := by
  have e13 : ((93 : Int) == 13) = false := by decide
  unfold gjson_validcomma.f
  simp only [gjson_validcomma.l0]
  rw [if_pos h1, if_pos h0, h2, if_neg (by omega), if_neg (by omega), if_neg (by omega), e13]
  simp only [gjson_validcomma.j1]
  rw [if_neg (by decide), if_neg (by omega), if_pos (by decide)]
theorem comma_blank {L : List Int} {q : Int} (k : Nat) (e : Int) (h0 : 0 ≤ q) (h1 : q < L.length) (hm : (L.length : Int) ≤ 100000) (h2 : rd L q = 32) : gjson_validcomma.f (k + 2) L q e = gjson_validcomma.f k L (q + 1) e := by
  have e32 : ((32 : Int) == 32) = true := by decide
  unfold gjson_validcomma.f
  simp only [gjson_validcomma.l0]
  rw [if_pos h1, if_pos h0, h2, if_pos (by decide), e32]
  simp only [gjson_validcomma.j1]
  rw [if_pos (by decide), w64 (i := q + 1) (by omega) (by omega)]
theorem comma_letter {L : List Int} {q : Int} (k : Nat) (h0 : 0 ≤ q) (h1 : q < L.length) (h2 : Letter (rd L q)) : gjson_validcomma.f (k + 2) L q 93 = some (q, false) := by
  unfold Letter at h2
  have e13 : (rd L q == 13) = false := beq_eq_false_iff_ne.mpr (by omega)
  unfold gjson_validcomma.f
  simp only [gjson_validcomma.l0]
  rw [if_pos h1, if_pos h0, if_neg (by omega), if_neg (by omega), if_neg (by omega), e13]
  simp only [gjson_validcomma.j1]
  rw [if_neg (by decide), if_neg (by omega), if_neg (by omega)]

/-- A text of letters alone. -/
theorem payload_word {L : List Int} {n : Int} (h : Word L 0 n) (hn : n = L.length) (k : Nat) :
    ∃ q b, gjson_validpayload.f (k + 6) L 0 = some (q, b) ∧ (b = true ↔ isWord L 0 n) := by
  obtain ⟨p0, n0, hle, hm, hl, ha⟩ := id h
  have hc := hl 0 (by omega) (by omega)
  unfold Letter at hc
  obtain ⟨q, b, e, h1, h2⟩ := any_word h k
  have e13 : (rd L 0 == 13) = false := beq_eq_false_iff_ne.mpr (by omega)
  unfold gjson_validpayload.f
  simp only [gjson_validpayload.l0]
  rw [if_pos (by omega), if_pos (by omega), if_neg (by omega), if_neg (by omega), if_neg (by omega), e13]
  simp only [gjson_validpayload.j1]
  rw [if_neg (by decide), e]
  simp only [Option.bind_some]
  cases b with
  | false =>
    rw [if_neg (by decide)]
    exact ⟨_, _, rfl, (fun hb => by cases hb), fun hw => (h2 hw).1⟩
  | true =>
    rw [if_pos (by decide)]
    obtain ⟨g1, g2, g3⟩ := h1 rfl
    simp only [gjson_validpayload.l1]
    by_cases c : q < (L.length : Int)
    · have hq := hl q (by omega) (by omega)
      unfold Letter at hq
      rw [if_pos c, if_pos (by omega), if_neg (by omega), if_neg (by omega), if_neg (by omega), if_neg (by omega)]
      exact ⟨_, _, rfl, ⟨(fun hb => by cases hb), fun hw => by have := (h2 hw).2; omega⟩⟩
    · rw [if_neg c]
      exact ⟨_, _, rfl, ⟨fun _ => g3 (by omega), fun _ => rfl⟩⟩

/-- The same text as the second element of an array. -/
theorem payload_array {L : List Int} {n : Int} (h : Word L 3 n) (hn : 3 + n + 2 = L.length) (h0 : rd L 0 = 91) (h1 : rd L 1 = 49) (h2 : rd L 2 = 44) (h3 : rd L (3 + n) = 32) (h4 : rd L (3 + n + 1) = 93) (k : Nat) :
    ∃ q b, gjson_validpayload.f (k + 14) L 0 = some (q, b) ∧ (b = true ↔ isWord L 3 n) := by
  obtain ⟨p0, n0, hle, hm, hl, ha⟩ := id h
  have hc := hl 3 (by omega) (by omega)
  unfold Letter at hc
  obtain ⟨q, b, e, g1, g2⟩ := any_word h k
  -- the number 1
  have num : gjson_validnumber.f L 2 = some (2, true) := by
    unfold gjson_validnumber.f
    rw [if_pos ⟨by omega, by omega, by omega, h1, h2⟩]
  have any1 : gjson_validany.f (k + 1 + 4) L 1 = some (2, true) := by
    have e13 : ((49 : Int) == 13) = false := by decide
    have e49 : ((49 : Int) == 49) = true := by decide
    simp only [gjson_validany.f, gjson_validany.l0]
    rw [if_pos (by omega), if_pos (by omega), h1, if_neg (by omega), if_neg (by omega), if_neg (by omega), e13]
    simp only [gjson_validany.j1]
    rw [if_neg (by decide), if_neg (by omega), if_neg (by omega), if_neg (by omega), if_neg (by omega), if_neg (by omega), if_pos (by decide), e49]
    simp only [gjson_validany.j2]
    rw [if_pos (by decide), w64 (i := 1 + 1) (by omega) (by omega), show (1 + 1 : Int) = 2 from rfl, num]
    rfl
  -- the array, from behind the comma on
  have behind : ∃ q' b', gjson_validarray.l1 (k + 5) L 3 = some (q', b') ∧ (b' = true ↔ isWord L 3 n) ∧ (b' = true → q' = L.length) := by
    simp only [gjson_validarray.l1]
    rw [if_pos (by omega), e]
    simp only [Option.bind_some]
    cases b with
    | false =>
      rw [if_neg (by decide)]
      exact ⟨_, _, rfl, ⟨(fun hb => by cases hb), fun hw => (g2 hw).1⟩, (fun hb => by cases hb)⟩
    | true =>
      obtain ⟨q1, q2, q3⟩ := g1 rfl
      rw [if_pos (by decide)]
      by_cases c : q = 3 + n
      · subst c
        have hcm : gjson_validcomma.f (k + 4) L (3 + n) 93 = some (3 + n + 1, true) := by
          rw [comma_blank (k + 2) 93 (by omega) (by omega) hm h3]
          exact comma_end k (by omega) (by omega) h4
        rw [hcm]
        simp only [Option.bind_some]
        rw [if_pos (by decide), if_pos (by omega), if_pos (by omega), if_pos h4, w64 (i := 3 + n + 1 + 1) (by omega) (by omega)]
        exact ⟨_, _, rfl, ⟨fun _ => q3 rfl, fun _ => rfl⟩, fun _ => by omega⟩
      · have hq := hl q (by omega) (by omega)
        unfold Letter at hq
        have hcm : gjson_validcomma.f (k + 4) L q 93 = some (q, false) := comma_letter (k + 2) (by omega) (by omega) (hl q (by omega) (by omega))
        rw [hcm]
        simp only [Option.bind_some]
        rw [if_neg (by decide)]
        exact ⟨_, _, rfl, ⟨fun hb => (by cases hb), fun hw => absurd (g2 hw).2 c⟩, (fun hb => by cases hb)⟩
  obtain ⟨q', b', eb, hb, hq⟩ := behind
  have arr : gjson_validarray.f (k + 9) L 1 = some (q', b') := by
    have e13 : ((49 : Int) == 13) = false := by decide
    simp only [gjson_validarray.f, gjson_validarray.l0]
    rw [if_pos (by omega), if_pos (by omega), h1, if_neg (by omega), if_neg (by omega), if_neg (by omega), e13]
    simp only [gjson_validarray.j1]
    rw [if_neg (by decide), if_neg (by omega)]
    rw [gjson_validarray.l1, if_pos (by omega), any1]
    simp only [Option.bind_some]
    rw [if_pos (by decide), comma_44 (k + 3) 93 (by omega) (by omega) h2]
    simp only [Option.bind_some]
    rw [if_pos (by decide), if_pos (by omega), if_pos (by omega), h2, if_neg (by omega), w64 (i := 2 + 1) (by omega) (by omega)]
    exact eb
  have any0 : gjson_validany.f (k + 12) L 0 = some (q', b') := by
    have e13 : ((91 : Int) == 13) = false := by decide
    simp only [gjson_validany.f, gjson_validany.l0]
    rw [if_pos (by omega), if_pos (by omega), h0, if_neg (by omega), if_neg (by omega), if_neg (by omega), e13]
    simp only [gjson_validany.j1]
    rw [if_neg (by decide), if_neg (by omega), if_pos (by decide), w64 (i := 0 + 1) (by omega) (by omega), show (0 + 1 : Int) = 1 from rfl, arr]
    rfl
  have e13 : ((91 : Int) == 13) = false := by decide
  unfold gjson_validpayload.f
  simp only [gjson_validpayload.l0]
  rw [if_pos (by omega), if_pos (by omega), h0, if_neg (by omega), if_neg (by omega), if_neg (by omega), e13]
  simp only [gjson_validpayload.j1]
  rw [if_neg (by decide), any0]
  simp only [Option.bind_some]
  cases b' with
  | false =>
    rw [if_neg (by decide)]
    exact ⟨_, _, rfl, hb⟩
  | true =>
    rw [if_pos (by decide)]
    have := hq rfl
    simp only [gjson_validpayload.l1]
    rw [if_neg (by omega)]
    exact ⟨_, _, rfl, hb⟩

theorem valid_some {s : ByteArray} {k : Nat} {q : Int} {b : Bool} (hs : s.size ≤ 140737488351232) (h : gjson_validpayload.f k (bytesOf s) 0 = some (q, b)) : impl_GjValid.f k s = some b := by
  unfold impl_GjValid.f gjson_Valid.f
  rw [if_pos hs, h]
  rfl

def isWordText (s : ByteArray) : Prop := s.toList = [116, 114, 117, 101] ∨ s.toList = [102, 97, 108, 115, 101] ∨ s.toList = [110, 117, 108, 108]
theorem len4 {B : List Int} {a b c d : Int} (hl : (B.length : Int) = 4) (h0 : rd B 0 = a) (h1 : rd B 1 = b) (h2 : rd B 2 = c) (h3 : rd B 3 = d) : B = [a, b, c, d] := by
  match B, hl with
  | [w, x, y, z], _ => simp [rd] at h0 h1 h2 h3; simp [*]
theorem len5 {B : List Int} {a b c d e : Int} (hl : (B.length : Int) = 5) (h0 : rd B 0 = a) (h1 : rd B 1 = b) (h2 : rd B 2 = c) (h3 : rd B 3 = d) (h4 : rd B 4 = e) : B = [a, b, c, d, e] := by
  match B, hl with
  | [v, w, x, y, z], _ => simp [rd] at h0 h1 h2 h3 h4; simp [*]
theorem word_text (s : ByteArray) : isWordText s ↔ isWord (bytesOf s) 0 (bytesOf s).length := by
  unfold isWordText isWord isTrue isFalse isNull
  rw [toList_bytes, toList_bytes, toList_bytes]
  constructor
  · rintro (h | h | h) <;> rw [h] <;> simp [rd]
  · rintro (⟨h, h0, h1, h2, h3⟩ | ⟨h, h0, h1, h2, h3, h4⟩ | ⟨h, h0, h1, h2, h3⟩)
    · exact .inl (len4 h h0 h1 h2 h3)
    · exact .inr (.inl (len5 h h0 h1 h2 h3 h4))
    · exact .inr (.inr (len4 h h0 h1 h2 h3))
/-- The word stands as well behind other bytes. -/
theorem word_moved {A B C : List Int} (hA : (A.length : Int) = 3) (hB : 0 < B.length) : isWord (A ++ B ++ C) 3 B.length ↔ isWord B 0 B.length := by
  have mv : ∀ i : Int, 0 ≤ i → i < B.length → rd (A ++ B ++ C) (3 + i) = rd B i := by
    intro i h0 h1
    rw [rd_append _ _ _ (by omega), if_pos (by rw [List.length_append]; omega), rd_append _ _ _ (by omega), if_neg (by omega)]
    congr 1; omega
  unfold isWord isTrue isFalse isNull
  have m0 := mv 0 (by omega) (by omega)
  have m1 := mv 1 (by omega)
  have m2 := mv 2 (by omega)
  have m3 := mv 3 (by omega)
  have m4 := mv 4 (by omega)
  simp only [Int.zero_add, Int.add_zero, Int.reduceAdd] at *
  constructor
  · rintro (⟨h, r⟩ | ⟨h, r⟩ | ⟨h, r⟩)
    · rw [m0, m1 (by omega), m2 (by omega), m3 (by omega)] at r; exact .inl ⟨h, r⟩
    · rw [m0, m1 (by omega), m2 (by omega), m3 (by omega), m4 (by omega)] at r; exact .inr (.inl ⟨h, r⟩)
    · rw [m0, m1 (by omega), m2 (by omega), m3 (by omega)] at r; exact .inr (.inr ⟨h, r⟩)
  · rintro (⟨h, r⟩ | ⟨h, r⟩ | ⟨h, r⟩)
    · rw [← m0, ← m1 (by omega), ← m2 (by omega), ← m3 (by omega)] at r; exact .inl ⟨h, r⟩
    · rw [← m0, ← m1 (by omega), ← m2 (by omega), ← m3 (by omega), ← m4 (by omega)] at r; exact .inr (.inl ⟨h, r⟩)
    · rw [← m0, ← m1 (by omega), ← m2 (by omega), ← m3 (by omega)] at r; exact .inr (.inr ⟨h, r⟩)

/-- What Valid says of the text and of the array. -/
theorem both (s : ByteArray) (k : Nat) (hm : s.size ≤ 4096) (h0 : 0 < s.size) (hl : ∀ i : Int, 0 ≤ i → i < s.size → Letter (bt s i)) (b : Bool) (hb : b = true ↔ isWordText s) :
    impl_GjValid.f (k + 14) s = some b ∧ impl_GjValid.f (k + 14) (((⟨#[91, 49, 44]⟩ : ByteArray) ++ s) ++ (⟨#[32, 93]⟩ : ByteArray)) = some b := by
  have hn : (bytesOf s).length = s.size := bytesOf_length s
  have w1 : Word (bytesOf s) 0 (bytesOf s).length := ⟨by omega, by omega, by omega, by omega, fun i a c => by rw [rd_bytesOf]; exact hl i a (by omega), fun h => by omega⟩
  obtain ⟨q, b1, e1, g1⟩ := payload_word w1 rfl (k + 8)
  have hA : bytesOf (((⟨#[91, 49, 44]⟩ : ByteArray) ++ s) ++ (⟨#[32, 93]⟩ : ByteArray)) = [91, 49, 44] ++ bytesOf s ++ [32, 93] := by rw [bytesOf_append, bytesOf_append]; rfl
  have hz : ((([91, 49, 44] : List Int) ++ bytesOf s ++ [32, 93]).length : Int) = 3 + s.size + 2 := by simp [hn]; omega
  have at_ : ∀ i : Int, 3 ≤ i → i < 3 + s.size → rd ([91, 49, 44] ++ bytesOf s ++ [32, 93]) i = bt s (i - 3) := by
    intro i a c
    rw [rd_append _ _ _ (by omega), if_pos (by simp; omega), rd_append _ _ _ (by omega), if_neg (by simp; omega), rd_bytesOf]
    rfl
  have behind : ∀ i : Int, 0 ≤ i → rd ([91, 49, 44] ++ bytesOf s ++ [32, 93]) (3 + s.size + i) = rd [32, 93] i := by
    intro i a
    rw [rd_append _ _ _ (by omega), if_neg (by simp; omega)]
    congr 1; simp; omega
  have ahead : ∀ i : Int, 0 ≤ i → i < 3 → rd ([91, 49, 44] ++ bytesOf s ++ [32, 93]) i = rd [91, 49, 44] i := by
    intro i a c
    rw [rd_append _ _ _ (by omega), if_pos (by simp; omega), rd_append _ _ _ (by omega), if_pos (by simp; omega)]
  have w2 : Word ([91, 49, 44] ++ bytesOf s ++ [32, 93]) 3 (bytesOf s).length := ⟨by omega, by omega, by omega, by omega, fun i a c => by rw [at_ i a (by omega)]; exact hl _ (by omega) (by omega), fun _ => by
    have := behind 0 (by omega)
    rw [hn, ← Int.add_zero (3 + (s.size : Int)), this]; rfl⟩
  obtain ⟨q2, b2, e2, g2⟩ := payload_array w2 (by omega) (ahead 0 (by omega) (by omega)) (ahead 1 (by omega) (by omega)) (ahead 2 (by omega) (by omega)) (by
    have := behind 0 (by omega)
    rw [hn, ← Int.add_zero (3 + (s.size : Int)), this]; rfl) (by
    have := behind 1 (by omega)
    rw [hn, this]; rfl) k
  rw [word_moved (by rfl) (by omega), ← word_text] at g2
  rw [← word_text] at g1
  rw [← hA] at e2
  obtain rfl : b1 = b := by rw [Bool.eq_iff_iff, g1, hb]
  obtain rfl : b2 = b1 := by rw [Bool.eq_iff_iff, g2, hb]
  have hz2 : (((⟨#[91, 49, 44]⟩ : ByteArray) ++ s) ++ (⟨#[32, 93]⟩ : ByteArray)).size ≤ 140737488351232 := by
    rw [← bytesOf_length, hA]; omega
  exact ⟨valid_some (by omega) e1, valid_some hz2 e2⟩

theorem law_all (s : ByteArray) (hm : s.size ≤ 140737488351232) : ∀ (m : Nat) (x : Int), 0 ≤ x → x + m = s.size → (∀ i : Int, 0 ≤ i → i < x → Letter (bt s i)) → laws_FnGjValidWord.l0 (m + 15) s x = some true := by
  intro m
  induction m with
  | zero =>
    intro x h0 hx hl
    have hxs : x = s.size := by omega
    rw [laws_FnGjValidWord.l0, if_neg (by omega)]
    have z1 : 3 + s.size ≤ 9223372036854775807 := by omega
    have z2 : ((⟨#[91, 49, 44]⟩ : ByteArray) ++ s).size + 2 ≤ 9223372036854775807 := by
      rw [← bytesOf_length, bytesOf_append, List.length_append, bytesOf_length s]
      have : (bytesOf (⟨#[91, 49, 44]⟩ : ByteArray)).length = 3 := rfl
      omega
    have emp : ∀ l : List UInt8, l ≠ [] → s.toList = l → ¬ s.toList = [] := fun l hl h e => hl (h ▸ e)
    by_cases hbig : (s.size : Int) > 4096
    · by_cases a : s.toList = ([116, 114, 117, 101] : List UInt8)
      · rw [if_pos a, if_pos hbig]
      · rw [if_neg a]
        by_cases b : s.toList = ([102, 97, 108, 115, 101] : List UInt8)
        · rw [if_pos b, if_pos hbig]
        · rw [if_neg b, if_pos hbig]
    · by_cases he : s.toList = []
      · rw [if_neg (fun h => emp _ (by simp) h he), if_neg (fun h => emp _ (by simp) h he), if_neg hbig, if_pos he]
      · have hpos : 0 < s.size := by
          rcases Nat.eq_zero_or_pos s.size with h | h
          · exact absurd (by rw [ByteArray.toList_eq]; exact List.eq_nil_of_length_eq_zero (by rw [data_length]; exact h)) he
          · exact h
        have bo : ∀ b : Bool, (b = true ↔ isWordText s) → _ := fun b hb => both s 0 (by omega) hpos (fun i a c => hl i a (by omega)) b hb
        by_cases a : s.toList = ([116, 114, 117, 101] : List UInt8)
        · obtain ⟨e1, e2⟩ := bo true ⟨fun _ => .inl a, fun _ => rfl⟩
          rw [if_pos a, if_neg hbig, if_neg he, e1]
          simp only [Option.bind_some]
          rw [if_pos (by decide), if_pos z1, if_pos z2, e2]
          rfl
        · rw [if_neg a]
          by_cases b : s.toList = ([102, 97, 108, 115, 101] : List UInt8)
          · obtain ⟨e1, e2⟩ := bo true ⟨fun _ => .inr (.inl b), fun _ => rfl⟩
            rw [if_pos b, if_neg hbig, if_neg he, e1]
            simp only [Option.bind_some]
            rw [if_pos (by decide), if_pos z1, if_pos z2, e2]
            rfl
          · obtain ⟨e1, e2⟩ := bo (s.toList == ([110, 117, 108, 108] : List UInt8)) ⟨fun h => .inr (.inr (by simpa using h)), fun h => by
              rcases h with h | h | h
              · exact absurd h a
              · exact absurd h b
              · simpa using h⟩
            rw [if_neg b, if_neg hbig, if_neg he, e1]
            simp only [Option.bind_some]
            rw [if_pos (by simp), if_pos z1, if_pos z2, e2]
            simp
  | succ m ih =>
    intro x h0 hx hl
    have hr := bt_range s x
    rw [show m + 1 + 15 = (m + 15) + 1 from by omega, laws_FnGjValidWord.l0, if_pos (by omega), if_pos h0]
    have ho := or_letter (bt s x) hr.1 hr.2
    by_cases c1 : Go.bits .or .u8 (bt s x) 32 < 97
    · rw [if_pos c1]
    · rw [if_neg c1]
      by_cases c2 : Go.bits .or .u8 (bt s x) 32 > 122
      · rw [if_pos c2]
      · rw [if_neg c2, w64 (by omega) (by omega)]
        refine ih (x + 1) (by omega) (by omega) fun i a b => ?_
        rcases Int.lt_or_le i x with h | h
        · exact hl i a h
        · obtain rfl : i = x := by omega
          exact ho.mp ⟨by omega, by omega⟩

theorem FnGjValidWord : laws_FnGjValidWord.Pure := by
  intro s hs
  unfold laws_FnGjValidWord.f
  by_cases c : (s.size : Int) > 2147483647
  · exact ⟨0, by rw [if_pos c]⟩
  · exact ⟨s.size + 15, by rw [if_neg c]; exact law_all s hs s.size 0 (by omega) (by omega) (fun i a b => by omega)⟩


end Go.Proofs.Ytdllbnecbbggfaa.Pure
