/- Characters and their bytes in UTF-8: lists of characters, and what Go's decoders say at the begin and at the end of their bytes. -/
import Derived.Test.YtdllbnecbbggfaaDoorBase
import Derived.Lib.RuneBytes
import Derived.Shelf.Unicode.DecodeLast
namespace Go.Proofs.YtdllbnecbbggfaaDoor.Runes
open Go.RowKit Go.Proofs.YtdllbnecbbggfaaDoor.Base Go.Proofs.YtdllbnecbbggfaaDoorW.PrintWords Go.Proofs.YtdllbnecbbggfaaDoorW.PrintLast
set_option linter.unusedVariables false
set_option linter.unusedSimpArgs false

/-- A character of Unicode that UTF-8 can say. -/
def Sc (c : Int) : Prop := (0 ≤ c ∧ c < 55296) ∨ (57343 < c ∧ c ≤ 1114111)
abbrev en (c : Int) : List Int := Lib.encodeRuneZ c
def enc : List Int → List Int
  | [] => []
  | c :: r => en c ++ enc r
theorem enc_append (a b : List Int) : enc (a ++ b) = enc a ++ enc b := by
  induction a with
  | nil => rfl
  | cons c r ih => simp only [List.cons_append, enc, ih, List.append_assoc]
theorem enc_one (c : Int) : enc [c] = en c := by simp [enc]
/-- The first byte, and the others. -/
theorem en_shape {c : Int} (h : Sc c) : ∃ x t, en c = x :: t ∧ (0 ≤ x ∧ x ≤ 255) ∧ (c < 128 → x = c ∧ t = []) ∧ (128 ≤ c → 192 ≤ x ∧ t ≠ []) ∧ (∀ y ∈ t, 128 ≤ y ∧ y ≤ 191) ∧ t.length ≤ 3 := by
  unfold Sc at h
  unfold en
  by_cases c1 : c ≤ 127
  · rw [Lib.encodeRuneZ_one (by omega) c1]
    exact ⟨c, [], rfl, by omega, fun _ => ⟨rfl, rfl⟩, fun _ => by omega, by simp, by simp⟩
  · by_cases c2 : c ≤ 2047
    · rw [Lib.encodeRuneZ_two (by omega) c2]
      refine ⟨_, _, rfl, by omega, fun _ => by omega, fun _ => ⟨by omega, by simp⟩, ?_, by simp⟩
      intro y hy
      simp only [List.mem_cons, List.not_mem_nil, or_false] at hy
      omega
    · by_cases c3 : c ≤ 65535
      · rw [Lib.encodeRuneZ_three (by omega)]
        refine ⟨_, _, rfl, by omega, fun _ => by omega, fun _ => ⟨by omega, by simp⟩, ?_, by simp⟩
        intro y hy
        simp only [List.mem_cons, List.not_mem_nil, or_false] at hy
        omega
      · rw [Lib.encodeRuneZ_four (by omega) (by omega)]
        refine ⟨_, _, rfl, by omega, fun _ => by omega, fun _ => ⟨by omega, by simp⟩, ?_, by simp⟩
        intro y hy
        simp only [List.mem_cons, List.not_mem_nil, or_false] at hy
        omega
theorem en_ne (c : Int) : en c ≠ [] := by
  unfold en Lib.encodeRuneZ
  repeat' split
  all_goals simp
theorem en_pos (c : Int) : 1 ≤ (en c).length := by
  have := en_ne c
  cases h : en c with
  | nil => exact absurd h this
  | cons => simp
theorem en_le (c : Int) : (en c).length ≤ 4 := by
  unfold en Lib.encodeRuneZ
  repeat' split
  all_goals simp
theorem en_ascii {c : Int} (h0 : 0 ≤ c) (h1 : c < 128) : en c = [c] := Lib.encodeRuneZ_one h0 (by omega)

/-! ### Go's decoders -/
theorem get_rd (s : ByteArray) (i : Nat) : ((s.get! i).toNat : Int) = rd (bytesOf s) i := by
  rw [← Lib.getD_get!]
  unfold rd bytesOf
  rw [Int.toNat_natCast, List.getD_eq_getElem?_getD, List.getD_eq_getElem?_getD, List.getElem?_map]
  cases s.data.toList[i]? <;> simp
theorem rd_cons0 (x : Int) (l : List Int) : rd (x :: l) 0 = x := rfl
theorem rd_cons1 (x y : Int) (l : List Int) : rd (x :: y :: l) 1 = y := rfl
theorem rd_cons2 (x y z : Int) (l : List Int) : rd (x :: y :: z :: l) 2 = z := rfl
theorem rd_cons3 (x y z t : Int) (l : List Int) : rd (x :: y :: z :: t :: l) 3 = t := rfl
theorem decodeN_one {n : Nat} {a b c d : Nat} (h : a < 128) : Lib.decodeN n a b c d = (a, 1) := by
  unfold Lib.decodeN
  rw [if_pos h]
/-- The first character of the bytes of one and more. -/
theorem dec_first {s : ByteArray} {c : Int} {r : List Int} (hc : Sc c) (h : bytesOf s = en c ++ r) : Lib.decodeGo s = (c.toNat, (en c).length) := by
  have hl : s.size = (en c).length + r.length := by rw [← bytesOf_length, h, List.length_append]
  have hp := en_pos c
  have g0 := get_rd s 0
  have g1 := get_rd s 1
  have g2 := get_rd s 2
  have g3 := get_rd s 3
  rw [h] at g0 g1 g2 g3
  unfold Lib.decodeGo
  rw [if_neg (by omega), Lib.decode_at, Nat.sub_zero, Nat.zero_add, Nat.zero_add, Nat.zero_add]
  generalize (s.get! 0).toNat = b0 at *
  generalize (s.get! 1).toNat = b1 at *
  generalize (s.get! 2).toNat = b2 at *
  generalize (s.get! 3).toNat = b3 at *
  unfold Sc at hc
  unfold en at *
  by_cases c1 : c ≤ 127
  · rw [Lib.encodeRuneZ_one (by omega) c1] at *
    simp only [List.cons_append, List.nil_append, Int.natCast_zero, rd_cons0, List.length_cons, List.length_nil] at *
    rw [decodeN_one (by omega)]
    exact Prod.ext (by simp only []; omega) rfl
  · by_cases c2 : c ≤ 2047
    · rw [Lib.encodeRuneZ_two (by omega) c2] at *
      simp only [List.cons_append, List.nil_append, Int.natCast_zero, Int.natCast_one, rd_cons0, rd_cons1, List.length_cons, List.length_nil] at *
      unfold Lib.decodeN
      rw [if_neg (by omega), if_pos (by omega), if_pos (by omega)]
      exact Prod.ext (by simp only []; omega) rfl
    · by_cases c3 : c ≤ 65535
      · rw [Lib.encodeRuneZ_three (by omega)] at *
        simp only [List.cons_append, List.nil_append, Int.natCast_zero, Int.natCast_one, rd_cons0, rd_cons1, List.length_cons, List.length_nil] at *
        have g2' : (b2 : Int) = 128 + c % 64 := g2
        unfold Lib.decodeN
        rw [if_neg (by omega), if_neg (by omega), if_pos (by omega), if_pos (by omega)]
        exact Prod.ext (by simp only []; omega) rfl
      · rw [Lib.encodeRuneZ_four (by omega) (by omega)] at *
        simp only [List.cons_append, List.nil_append, Int.natCast_zero, Int.natCast_one, rd_cons0, rd_cons1, List.length_cons, List.length_nil] at *
        have g2' : (b2 : Int) = 128 + c / 64 % 64 := g2
        have g3' : (b3 : Int) = 128 + c % 64 := g3
        unfold Lib.decodeN
        rw [if_neg (by omega), if_neg (by omega), if_neg (by omega), if_pos (by omega), if_pos (by omega)]
        exact Prod.ext (by simp only []; omega) rfl
theorem bytes_drop (s : ByteArray) (a : Nat) : bytesOf (s.extract a s.size) = (bytesOf s).drop a := by
  unfold bytesOf
  rw [ByteArray.data_extract, Array.toList_extract]
  have hl : s.data.toList.length = s.size := (Lib.size_eq s).symm
  simp
  rw [List.take_of_length_le (by simp)]
theorem bytes_take (s : ByteArray) (a : Nat) : bytesOf (s.extract 0 a) = (bytesOf s).take a := by
  unfold bytesOf
  rw [ByteArray.data_extract, Array.toList_extract, List.map_take]
  simp

theorem start_of {s : ByteArray} {i : Nat} {v : Int} (h : rd (bytesOf s) i = v) (hv : v < 128 ∨ 192 ≤ v) : Lib.runeStartB (s.data.toList.getD i 0) = true := by
  have := get_rd s i
  rw [h, ← Lib.getD_get!] at this
  unfold Lib.runeStartB
  simp only [bne_iff_ne, ne_eq]
  omega
theorem no_start_of {s : ByteArray} {i : Nat} {v : Int} (h : rd (bytesOf s) i = v) (hv : 128 ≤ v ∧ v ≤ 191) : Lib.runeStartB (s.data.toList.getD i 0) = false := by
  have := get_rd s i
  rw [h, ← Lib.getD_get!] at this
  unfold Lib.runeStartB
  simp only [bne_eq_false_iff_eq]
  omega
theorem rd_back (p l : List Int) (i : Nat) : rd (p ++ l) ((p.length + i : Nat) : Int) = rd l i := by
  rw [rd_append _ _ _ (by omega), if_neg (by omega)]
  congr 1
  omega
/-- The last character of the bytes of one and more. -/
theorem dec_last {s : ByteArray} {c : Int} {p : List Int} (hc : Sc c) (h : bytesOf s = p ++ en c) : Lib.decodeLastL s.data.toList = (c.toNat, (en c).length) := by
  have hl : s.size = p.length + (en c).length := by rw [← bytesOf_length, h, List.length_append]
  have hll : s.data.toList.length = s.size := (Lib.size_eq s).symm
  have hp := en_pos c
  have g0 := get_rd s (p.length + 0)
  have g1 := get_rd s (p.length + 1)
  have g2 := get_rd s (p.length + 2)
  have g3 := get_rd s (p.length + 3)
  rw [h, rd_back] at g0 g1 g2 g3
  have k0 : rd (bytesOf s) ((p.length + 0 : Nat) : Int) = rd (en c) ((0 : Nat) : Int) := by rw [h, rd_back]
  have k1 : rd (bytesOf s) ((p.length + 1 : Nat) : Int) = rd (en c) ((1 : Nat) : Int) := by rw [h, rd_back]
  have k2 : rd (bytesOf s) ((p.length + 2 : Nat) : Int) = rd (en c) ((2 : Nat) : Int) := by rw [h, rd_back]
  have hdrop : bytesOf (s.extract p.length s.size) = en c ++ [] := by rw [bytes_drop, h, List.drop_left, List.append_nil]
  have hD := dec_first hc hdrop
  have fin : 128 ≤ (s.get! (s.size - 1)).toNat → Lib.lastStart s.data.toList = p.length → Lib.decodeLastL s.data.toList = (c.toNat, (en c).length) := fun h1 h2 => by
    rw [Lib.decodeLastL_eq s (by omega) h1, h2]
    unfold Lib.lastOf
    rw [hD]
    simp only []
    rw [if_pos (by omega)]
  have hc' := hc
  unfold Sc at hc'
  by_cases c1 : c ≤ 127
  · have e : en c = [c] := en_ascii (by omega) (by omega)
    rw [e] at g0 hl ⊢
    simp only [Int.natCast_zero, rd_cons0, List.length_cons, List.length_nil] at g0 hl ⊢
    unfold Lib.decodeLastL
    rw [if_neg (by intro hn; rw [hn] at hll; simp at hll; omega), hll, Lib.getD_get!, show s.size - 1 = p.length + 0 by omega, if_pos (by omega)]
    exact Prod.ext (by simp only []; omega) rfl
  · by_cases c2 : c ≤ 2047
    · have e : en c = [192 + c / 64, 128 + c % 64] := Lib.encodeRuneZ_two (by omega) c2
      rw [e] at g0 g1 k0 hl
      simp only [Int.natCast_zero, Int.natCast_one, rd_cons0, rd_cons1, List.length_cons, List.length_nil] at g0 g1 k0 hl
      refine fin (by rw [show s.size - 1 = p.length + 1 by omega]; omega) ?_
      exact Lib.lastStart_at2 _ p.length (by omega) (start_of k0 (by omega))
    · by_cases c3 : c ≤ 65535
      · have e : en c = [224 + c / 4096, 128 + c / 64 % 64, 128 + c % 64] := Lib.encodeRuneZ_three (by omega)
        rw [e] at g0 g1 g2 k0 k1 hl
        simp only [Int.natCast_zero, Int.natCast_one, rd_cons0, rd_cons1, List.length_cons, List.length_nil] at g0 g1 k0 k1 hl
        have g2' : ((s.get! (p.length + 2)).toNat : Int) = 128 + c % 64 := g2
        refine fin (by rw [show s.size - 1 = p.length + 2 by omega]; omega) ?_
        exact Lib.lastStart_at3 _ p.length (by omega) (no_start_of k1 (by omega)) (start_of k0 (by omega))
      · have e : en c = [240 + c / 262144, 128 + c / 4096 % 64, 128 + c / 64 % 64, 128 + c % 64] := Lib.encodeRuneZ_four (by omega) (by omega)
        rw [e] at g0 g1 g2 g3 k0 k1 k2 hl
        simp only [Int.natCast_zero, Int.natCast_one, rd_cons0, rd_cons1, List.length_cons, List.length_nil] at g0 g1 k0 k1 hl
        have g2' : ((s.get! (p.length + 2)).toNat : Int) = 128 + c / 64 % 64 := g2
        have g3' : ((s.get! (p.length + 3)).toNat : Int) = 128 + c % 64 := g3
        have k2' : rd (bytesOf s) ((p.length + 2 : Nat) : Int) = 128 + c / 64 % 64 := k2
        refine fin (by rw [show s.size - 1 = p.length + 3 by omega]; omega) ?_
        exact Lib.lastStart_at4 _ p.length (by omega) (no_start_of k2' (by omega)) (no_start_of k1 (by omega)) (start_of k0 (by omega))

/-! ### the bytes tell the characters -/
theorem en_inj {c d : Int} {r q : List Int} (hc : Sc c) (hd : Sc d) (h : en c ++ r = en d ++ q) : c = d ∧ r = q := by
  have hb : ∀ x ∈ en c ++ r, True := fun _ _ => trivial
  have key : c = d := by
    unfold Sc at hc hd
    unfold en at h
    by_cases c1 : c ≤ 127
    · rw [Lib.encodeRuneZ_one (by omega) c1] at h
      by_cases d1 : d ≤ 127
      · rw [Lib.encodeRuneZ_one (by omega) d1] at h
        simp only [List.cons_append, List.nil_append, List.cons.injEq] at h
        exact h.1
      · by_cases d2 : d ≤ 2047
        · rw [Lib.encodeRuneZ_two (by omega) d2] at h
          simp only [List.cons_append, List.nil_append, List.cons.injEq] at h
          omega
        · by_cases d3 : d ≤ 65535
          · rw [Lib.encodeRuneZ_three (by omega)] at h
            simp only [List.cons_append, List.nil_append, List.cons.injEq] at h
            omega
          · rw [Lib.encodeRuneZ_four (by omega) (by omega)] at h
            simp only [List.cons_append, List.nil_append, List.cons.injEq] at h
            omega
    · by_cases c2 : c ≤ 2047
      · rw [Lib.encodeRuneZ_two (by omega) c2] at h
        by_cases d1 : d ≤ 127
        · rw [Lib.encodeRuneZ_one (by omega) d1] at h
          simp only [List.cons_append, List.nil_append, List.cons.injEq] at h
          omega
        · by_cases d2 : d ≤ 2047
          · rw [Lib.encodeRuneZ_two (by omega) d2] at h
            simp only [List.cons_append, List.nil_append, List.cons.injEq] at h
            omega
          · by_cases d3 : d ≤ 65535
            · rw [Lib.encodeRuneZ_three (by omega)] at h
              simp only [List.cons_append, List.nil_append, List.cons.injEq] at h
              omega
            · rw [Lib.encodeRuneZ_four (by omega) (by omega)] at h
              simp only [List.cons_append, List.nil_append, List.cons.injEq] at h
              omega
      · by_cases c3 : c ≤ 65535
        · rw [Lib.encodeRuneZ_three (by omega)] at h
          by_cases d1 : d ≤ 127
          · rw [Lib.encodeRuneZ_one (by omega) d1] at h
            simp only [List.cons_append, List.nil_append, List.cons.injEq] at h
            omega
          · by_cases d2 : d ≤ 2047
            · rw [Lib.encodeRuneZ_two (by omega) d2] at h
              simp only [List.cons_append, List.nil_append, List.cons.injEq] at h
              omega
            · by_cases d3 : d ≤ 65535
              · rw [Lib.encodeRuneZ_three (by omega)] at h
                simp only [List.cons_append, List.nil_append, List.cons.injEq] at h
                omega
              · rw [Lib.encodeRuneZ_four (by omega) (by omega)] at h
                simp only [List.cons_append, List.nil_append, List.cons.injEq] at h
                omega
        · rw [Lib.encodeRuneZ_four (by omega) (by omega)] at h
          by_cases d1 : d ≤ 127
          · rw [Lib.encodeRuneZ_one (by omega) d1] at h
            simp only [List.cons_append, List.nil_append, List.cons.injEq] at h
            omega
          · by_cases d2 : d ≤ 2047
            · rw [Lib.encodeRuneZ_two (by omega) d2] at h
              simp only [List.cons_append, List.nil_append, List.cons.injEq] at h
              omega
            · by_cases d3 : d ≤ 65535
              · rw [Lib.encodeRuneZ_three (by omega)] at h
                simp only [List.cons_append, List.nil_append, List.cons.injEq] at h
                omega
              · rw [Lib.encodeRuneZ_four (by omega) (by omega)] at h
                simp only [List.cons_append, List.nil_append, List.cons.injEq] at h
                omega
  subst key
  exact ⟨rfl, List.append_cancel_left h⟩
def Scs (l : List Int) : Prop := ∀ c ∈ l, Sc c
theorem Scs.tail {c : Int} {r : List Int} (h : Scs (c :: r)) : Scs r := fun x hx => h x (by simp [hx])
theorem Scs.head {c : Int} {r : List Int} (h : Scs (c :: r)) : Sc c := h c (by simp)
theorem Scs.left {a b : List Int} (h : Scs (a ++ b)) : Scs a := fun x hx => h x (by simp [hx])
theorem Scs.right {a b : List Int} (h : Scs (a ++ b)) : Scs b := fun x hx => h x (by simp [hx])
theorem enc_nil {l : List Int} (h : enc l = []) : l = [] := by
  cases l with
  | nil => rfl
  | cons c r =>
    simp only [enc, List.append_eq_nil_iff] at h
    exact absurd h.1 (en_ne c)
theorem enc_inj : ∀ {a b : List Int}, Scs a → Scs b → enc a = enc b → a = b
  | [], b, _, _, h => (enc_nil h.symm).symm
  | c :: r, [], _, _, h => by
    simp only [enc, List.append_eq_nil_iff] at h
    exact absurd h.1 (en_ne c)
  | c :: r, d :: q, ha, hb, h => by
    simp only [enc] at h
    obtain ⟨rfl, h2⟩ := en_inj ha.head hb.head h
    rw [enc_inj ha.tail hb.tail h2]
/-- What stands at the begin of the bytes of characters, and is the bytes of characters, is the bytes of the first of them. -/
theorem enc_prefix : ∀ {a b : List Int} {y : List Int}, Scs a → Scs b → enc a = enc b ++ y → ∃ r, a = b ++ r ∧ y = enc r
  | a, [], y, ha, hb, h => ⟨a, rfl, by simpa [enc] using h.symm⟩
  | [], d :: q, y, ha, hb, h => by
    simp only [enc] at h
    have h1 : (en d ++ enc q ++ y).length = 0 := by rw [← h]; rfl
    have h2 := en_pos d
    simp only [List.length_append] at h1
    omega
  | c :: r, d :: q, y, ha, hb, h => by
    simp only [enc, List.append_assoc] at h
    obtain ⟨rfl, h2⟩ := en_inj ha.head hb.head h
    obtain ⟨z, rfl, h3⟩ := enc_prefix ha.tail hb.tail h2
    exact ⟨z, rfl, h3⟩
/-- A byte that begins a character stands at the begin of one. -/
theorem enc_split : ∀ {a x t : List Int} {h : Int}, Scs a → enc a = x ++ h :: t → (h < 128 ∨ 191 < h) → ∃ p q, a = p ++ q ∧ x = enc p ∧ enc q = h :: t
  | [], x, t, h, ha, he, hh => by
    simp [enc] at he
  | c :: r, x, t, h, ha, he, hh => by
    by_cases hx : x = []
    · subst hx
      exact ⟨[], c :: r, rfl, rfl, by simpa using he⟩
    · simp only [enc] at he
      rcases List.append_eq_append_iff.mp he with ⟨a', hx', hr⟩ | ⟨b', hc', ht⟩
      · obtain ⟨p, q, rfl, hp, hq⟩ := enc_split ha.tail hr hh
        exact ⟨c :: p, q, rfl, by rw [hx', hp]; rfl, hq⟩
      · cases b' with
        | nil =>
          simp only [List.append_nil] at hc'
          simp only [List.nil_append] at ht
          exact ⟨[c], r, rfl, by rw [enc_one]; exact hc'.symm, ht.symm⟩
        | cons y b' =>
          simp only [List.cons_append, List.cons.injEq] at ht
          obtain ⟨v, w, e, _, _, _, hw, _⟩ := en_shape ha.head
          rw [e] at hc'
          cases x with
          | nil => exact absurd rfl hx
          | cons x0 x' =>
            simp only [List.cons_append, List.cons.injEq] at hc'
            have := hw y (by rw [hc'.2]; simp)
            omega
/-- Characters within characters. -/
theorem enc_within {a b x y : List Int} (ha : Scs a) (hb : Scs b) (hne : b ≠ []) (h : enc a = x ++ (enc b ++ y)) : ∃ p q, a = p ++ (b ++ q) ∧ x = enc p := by
  cases b with
  | nil => exact absurd rfl hne
  | cons c r =>
    obtain ⟨v, w, e, _, h1, h2, _, _⟩ := en_shape hb.head
    have he : enc (c :: r) ++ y = v :: (w ++ enc r ++ y) := by simp only [enc, e, List.cons_append]
    rw [he] at h
    have hv : v < 128 ∨ 191 < v := by
      rcases Int.lt_or_le c 128 with hc | hc
      · exact .inl (by rw [(h1 hc).1]; exact hc)
      · have := (h2 hc).1; exact .inr (by omega)
    obtain ⟨p, q, rfl, hp, hq⟩ := enc_split ha h hv
    rw [← he] at hq
    obtain ⟨z, rfl, _⟩ := enc_prefix ha.right hb hq
    exact ⟨p, z, rfl, hp⟩

end Go.Proofs.YtdllbnecbbggfaaDoor.Runes
