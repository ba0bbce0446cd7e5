/- The reference's Character and UTF8 of a text that is the bytes of characters; what Go's decoder tells is a character's bytes. -/
import Derived.Test.YtdllbnecbbggfaaDoorSpecCharFnGjQuoteValid
import Derived.Test.YtdllbnecbbggfaaDoorEvs
namespace Go.Proofs.YtdllbnecbbggfaaDoor.ChrXFnGjQuoteValid
open Go.RowKit Go.Proofs.YtdllbnecbbggfaaDoor Go.Proofs.YtdllbnecbbggfaaDoor.Base Go.Proofs.YtdllbnecbbggfaaDoor.Evs Go.Proofs.YtdllbnecbbggfaaDoor.Runes Go.Proofs.YtdllbnecbbggfaaDoor.XFnGjQuoteValid Go.Proofs.YtdllbnecbbggfaaDoorW.PrintWords Go.Proofs.YtdllbnecbbggfaaDoorW.PrintLast
set_option linter.unusedVariables false
set_option linter.unusedSimpArgs false

theorem rd_drop (l : List Int) (i j : Nat) : rd (l.drop i) (j : Int) = rd l ((i + j : Nat) : Int) := by
  simp [rd, List.getD_eq_getElem?_getD, List.getElem?_drop]
  rw [show ((i : Int) + (j : Int)).toNat = i + j by omega]
theorem bt_of_drop {s : ByteArray} {i : Nat} {l : List Int} (h : (bytesOf s).drop i = l) (j : Nat) : bt s ((i : Int) + (j : Int)) = rd l (j : Int) := by
  rw [← h, rd_drop, ← rd_bytesOf]
  congr 1
theorem char_en (k : Nat) (hk : 9 ≤ k) (s : ByteArray) (hs : s.size ≤ 4294967296) (i : Nat) {c : Int} {r : List Int} (hc : Sc c) (h : (bytesOf s).drop i = en c ++ r) : spec_Character.f k s (i : Int) = some (c, ((en c).length : Int), true) := by
  obtain ⟨j, rfl⟩ : ∃ j, k = j + 9 := ⟨k - 9, by omega⟩
  have hl : (s.size : Int) = i + (en c).length + r.length := by
    have := congrArg List.length h
    rw [List.length_drop, bytesOf_length, List.length_append] at this
    have := en_pos c
    omega
  have hp := en_pos c
  have g0 := bt_of_drop h 0
  have g1 := bt_of_drop h 1
  have g2 := bt_of_drop h 2
  have g3 := bt_of_drop h 3
  rw [show ((0 : Nat) : Int) = 0 from rfl, Int.add_zero] at g0
  rw [show ((1 : Nat) : Int) = 1 from rfl] at g1
  rw [show ((2 : Nat) : Int) = 2 from rfl] at g2
  rw [show ((3 : Nat) : Int) = 3 from rfl] at g3
  have hsc := hc
  unfold Sc at hc
  unfold en at *
  unfold spec_Character.f
  rw [if_pos (by omega), if_pos (by omega)]
  by_cases c1 : c ≤ 127
  · rw [Lib.encodeRuneZ_one (by omega) c1] at *
    simp only [List.cons_append, List.nil_append, rd_cons0, List.length_cons, List.length_nil] at *
    rw [g0, w64 (by omega) (by omega), if_pos (by omega)]
    rfl
  · by_cases c2 : c ≤ 2047
    · rw [Lib.encodeRuneZ_two (by omega) c2] at *
      simp only [List.cons_append, List.nil_append, rd_cons0, rd_cons1, List.length_cons, List.length_nil] at *
      rw [g0, w64 (i := 192 + c / 64) (by omega) (by omega), if_neg (by omega), if_pos (by omega), show decide (192 + c / 64 ≤ 223) = true from decide_eq_true (by omega)]
      rw [spec_Character.j0, if_pos rfl, w64 (by omega) (by omega), spec_Character.j2, w64i (i := (s.size : Int) - i) (by omega) (by omega), if_neg (by omega)]
      rw [l0_step (j + 6) s hs i _ 1 128 1 (by omega) (by omega) (by omega) (by omega) (by omega) (by omega), g1, if_neg (by omega), if_neg (by omega)]
      rw [l0_end (j + 5) s i _ 1 128 (1 + 1) (by omega) (by omega) (by omega), if_neg (by omega)]
      exact congrArg some (Prod.ext (by simp only []; omega) rfl)
    · by_cases c3 : c ≤ 65535
      · rw [Lib.encodeRuneZ_three (by omega)] at *
        simp only [List.cons_append, List.nil_append, rd_cons0, rd_cons1, rd_cons2, List.length_cons, List.length_nil] at *
        rw [g0, w64 (i := 224 + c / 4096) (by omega) (by omega), if_neg (by omega), if_pos (by omega), show decide (224 + c / 4096 ≤ 223) = false from decide_eq_false (by omega)]
        rw [spec_Character.j0, if_neg (by decide), if_pos (by omega), show decide (224 + c / 4096 ≤ 239) = true from decide_eq_true (by omega), spec_Character.j1, if_pos rfl, w64 (by omega) (by omega), spec_Character.j2, w64i (i := (s.size : Int) - i) (by omega) (by omega), if_neg (by omega)]
        rw [l0_step (j + 5) s hs i _ 2 2048 1 (by omega) (by omega) (by omega) (by omega) (by omega) (by omega), g1, if_neg (by omega), if_neg (by omega)]
        rw [l0_step (j + 4) s hs i _ 2 2048 (1 + 1) (by omega) (by omega) (by omega) (by omega) (by omega) (by omega), show (i : Int) + (1 + 1) = i + 2 by omega, g2, if_neg (by omega), if_neg (by omega)]
        rw [l0_end (j + 3) s i _ 2 2048 (1 + 1 + 1) (by omega) (by omega) (by omega), if_neg (by omega)]
        exact congrArg some (Prod.ext (by simp only []; omega) rfl)
      · rw [Lib.encodeRuneZ_four (by omega) (by omega)] at *
        simp only [List.cons_append, List.nil_append, rd_cons0, rd_cons1, rd_cons2, rd_cons3, List.length_cons, List.length_nil] at *
        rw [g0, w64 (i := 240 + c / 262144) (by omega) (by omega), if_neg (by omega), if_pos (by omega), show decide (240 + c / 262144 ≤ 223) = false from decide_eq_false (by omega)]
        rw [spec_Character.j0, if_neg (by decide), if_pos (by omega), show decide (240 + c / 262144 ≤ 239) = false from decide_eq_false (by omega), spec_Character.j1, if_neg (by decide), if_pos (by omega), if_pos (by omega), w64 (by omega) (by omega), spec_Character.j2, w64i (i := (s.size : Int) - i) (by omega) (by omega), if_neg (by omega)]
        rw [l0_step (j + 5) s hs i _ 3 65536 1 (by omega) (by omega) (by omega) (by omega) (by omega) (by omega), g1, if_neg (by omega), if_neg (by omega)]
        rw [l0_step (j + 4) s hs i _ 3 65536 (1 + 1) (by omega) (by omega) (by omega) (by omega) (by omega) (by omega), show (i : Int) + (1 + 1) = i + 2 by omega, g2, if_neg (by omega), if_neg (by omega)]
        rw [l0_step (j + 3) s hs i _ 3 65536 (1 + 1 + 1) (by omega) (by omega) (by omega) (by omega) (by omega) (by omega), show (i : Int) + (1 + 1 + 1) = i + 3 by omega, g3, if_neg (by omega), if_neg (by omega)]
        rw [l0_end (j + 2) s i _ 3 65536 (1 + 1 + 1 + 1) (by omega) (by omega) (by omega), if_neg (by omega)]
        exact congrArg some (Prod.ext (by simp only []; omega) rfl)
/-- A text made of characters' bytes is UTF-8. -/
theorem utf8_from (s : ByteArray) (hs : s.size ≤ 4294967296) : ∀ (cs : List Int) (i : Nat), Scs cs → (bytesOf s).drop i = enc cs → i ≤ s.size → Ev fun k => spec_UTF8.l0 k s (i : Int) = some true
  | [], i, _, h, hi => by
    have : s.size ≤ i := by
      have := congrArg List.length h
      rw [List.length_drop, bytesOf_length] at this
      simp [enc] at this
      omega
    exact (Ev.ge 1).mp fun k hk => by
      obtain ⟨j, rfl⟩ : ∃ j, k = j + 1 := ⟨k - 1, by omega⟩
      rw [spec_UTF8.l0, if_neg (by omega)]
  | c :: r, i, hc, h, hi => by
    have hl := congrArg List.length h
    rw [List.length_drop, bytesOf_length, enc, List.length_append] at hl
    have hp := en_pos c
    have h4 := en_le c
    have ih := utf8_from s hs r (i + (en c).length) hc.tail (by rw [← List.drop_drop, h, enc, List.drop_left]) (by omega)
    refine ((Ev.ge 9).and ih).succ fun k hk => ?_
    rw [spec_UTF8.l0, if_pos (by omega), char_en k hk.1 s hs i hc.head (by rw [h, enc])]
    simp only [Option.bind_some, if_true]
    rw [w64 (by omega) (by omega)]
    have := hk.2
    rwa [show (((i + (en c).length : Nat) : Int)) = (i : Int) + ((en c).length : Int) by omega] at this
theorem utf8_enc (s : ByteArray) (hs : s.size ≤ 4294967296) (cs : List Int) (hc : Scs cs) (h : bytesOf s = enc cs) : Ev fun k => spec_UTF8.f k s = some true :=
  (utf8_from s hs cs 0 hc (by simpa using h) (by omega)).mp fun k hk => by unfold spec_UTF8.f; simpa using hk

/-- What Go's decoder tells of one that is right: a character, and its bytes stand there. -/
theorem decodeN_sound {n b0 b1 b2 b3 : Nat} (h0 : b0 < 256) (h1 : b1 < 256) (h2 : b2 < 256) (h3 : b3 < 256) (hn : 1 ≤ n) (hb : ¬ ((Lib.decodeN n b0 b1 b2 b3).1 = 65533 ∧ (Lib.decodeN n b0 b1 b2 b3).2 = 1)) :
    Sc ((Lib.decodeN n b0 b1 b2 b3).1 : Int) ∧ en ((Lib.decodeN n b0 b1 b2 b3).1 : Int) = ([b0, b1, b2, b3].take (Lib.decodeN n b0 b1 b2 b3).2).map (fun x : Nat => (x : Int)) ∧ (Lib.decodeN n b0 b1 b2 b3).2 ≤ n := by
  unfold Lib.decodeN at hb ⊢
  unfold Sc en
  repeat' split at hb
  all_goals first
    | (exact absurd ⟨rfl, rfl⟩ hb)
    | skip
  · rename_i c
    simp only [c, if_true]
    rw [Lib.encodeRuneZ_one (by omega) (by omega)]
    exact ⟨by omega, rfl, hn⟩
  · rename_i c1 c2 c3
    simp only [c1, c2, c3, if_true, if_false, and_self]
    rw [Lib.encodeRuneZ_two (by omega) (by omega)]
    refine ⟨by omega, ?_, by omega⟩
    show [_, _] = [(b0 : Int), (b1 : Int)]
    congr 1
    · omega
    · congr 1
      omega
  · rename_i c1 c2 c3 c4
    rw [if_neg c1, if_neg c2, if_pos c3, if_pos c4]
    rw [Lib.encodeRuneZ_three (by omega)]
    refine ⟨by omega, ?_, by omega⟩
    show [_, _, _] = [(b0 : Int), (b1 : Int), (b2 : Int)]
    congr 1
    · omega
    · congr 1
      · omega
      · congr 1
        omega
  · rename_i c1 c2 c3 c4 c5
    rw [if_neg c1, if_neg c2, if_neg c3, if_pos c4, if_pos c5]
    rw [Lib.encodeRuneZ_four (by omega) (by omega)]
    refine ⟨by omega, ?_, by omega⟩
    show [_, _, _, _] = [(b0 : Int), (b1 : Int), (b2 : Int), (b3 : Int)]
    congr 1
    · omega
    · congr 1
      · omega
      · congr 1
        · omega
        · congr 1
          omega
theorem take_bytes (s : ByteArray) (m : Nat) (h4 : m ≤ 4) (hs : m ≤ s.size) : (bytesOf s).take m = ([(s.get! 0).toNat, (s.get! 1).toNat, (s.get! 2).toNat, (s.get! 3).toNat].take m).map (fun x : Nat => (x : Int)) := by
  have hl := bytesOf_length s
  refine List.ext_getElem (by simp [hl]; omega) fun i h1 h2 => ?_
  have hi : i < m := by rw [List.length_take] at h1; omega
  have e : (bytesOf s)[i]'(by omega) = rd (bytesOf s) i := by rw [rd_get _ _ (by simp; omega)]; simp
  rw [List.getElem_take, e, ← get_rd]
  have : i = 0 ∨ i = 1 ∨ i = 2 ∨ i = 3 := by omega
  rcases this with rfl | rfl | rfl | rfl <;> simp
theorem dgo_sound (s : ByteArray) (h0 : 0 < s.size) (hb : ¬ ((dgo s).1 = 65533 ∧ (dgo s).2 = 1)) : Sc (dgo s).1 ∧ (bytesOf s).take (dgo s).2.toNat = en (dgo s).1 := by
  unfold dgo Lib.decodeGo at hb ⊢
  rw [if_neg (by omega), Lib.decode_at, Nat.sub_zero, Nat.zero_add, Nat.zero_add, Nat.zero_add] at hb ⊢
  have hlt : ∀ i, (s.get! i).toNat < 256 := fun i => (s.get! i).toNat_lt
  simp only [] at hb ⊢
  obtain ⟨a, b, c⟩ := decodeN_sound (hlt 0) (hlt 1) (hlt 2) (hlt 3) (n := s.size) h0 (fun h => hb ⟨by omega, by omega⟩)
  exact ⟨a, by rw [b, Int.toNat_natCast]; exact take_bytes s _ (Lib.decodeN_le4 _ _ _ _ _) c⟩

end Go.Proofs.YtdllbnecbbggfaaDoor.ChrXFnGjQuoteValid
