/- Proved: ParseString of the inside of a JSON string that is written for some bytes (at most 2^16; quotation marks, backslashes and control characters as escapes) gives these bytes. -/
import Derived.Test.YtdllbnecbbggfaaDoorXFnJpParseStringBackx4
import Derived.Test.YtdllbnecbbggfaaDoorBase
import Derived.Test.YtdllbnecbbggfaaDoorEvs
namespace Go.Proofs.YtdllbnecbbggfaaDoor.Pure
open Go.RowKit Go.Proofs.YtdllbnecbbggfaaDoor Go.Proofs.YtdllbnecbbggfaaDoor.Base Go.Proofs.YtdllbnecbbggfaaDoor.Evs Go.Proofs.YtdllbnecbbggfaaDoor.XFnJpParseStringBack Go.Proofs.YtdllbnecbbggfaaDoorW.PrintWords Go.Proofs.YtdllbnecbbggfaaDoorW.PrintLast
set_option linter.unusedVariables false
set_option linter.unusedSimpArgs false

def hexd (d : Int) : Int := if d < 10 then 48 + d else 87 + d
/-- How a byte is written. -/
def qb (c : Int) : List Int :=
  if c = 8 then [92, 98] else if c = 12 then [92, 102] else if c = 10 then [92, 110] else if c = 13 then [92, 114] else if c = 9 then [92, 116] else if c = 34 then [92, 34] else if c = 92 then [92, 92]
  else if c < 32 then [92, 117, 48, 48, 48 + c / 16, hexd (c % 16)] else [c]
def qbs : List Int → List Int
  | [] => []
  | c :: r => qb c ++ qbs r
theorem qbs_append (a b : List Int) : qbs (a ++ b) = qbs a ++ qbs b := by
  induction a with
  | nil => rfl
  | cons c r ih => simp only [List.cons_append, qbs, ih, List.append_assoc]
theorem qb_le (c : Int) : (qb c).length ≤ 6 := by
  unfold qb
  repeat' split
  all_goals simp
theorem qbs_le : ∀ l : List Int, (qbs l).length ≤ 6 * l.length
  | [] => by simp [qbs]
  | c :: r => by
    have := qbs_le r
    have := qb_le c
    simp only [qbs, List.length_append, List.length_cons]
    omega
theorem hexd_eq (c : Int) (h0 : 0 ≤ c) (h1 : c ≤ 255) : spec_digitOf.f (wrap64 (Int.tmod c 16)) false = some (hexd (c % 16)) := by
  rw [Int.tmod_eq_emod_of_nonneg h0, w64 (by omega) (by omega)]
  unfold spec_digitOf.f hexd
  by_cases c1 : c % 16 < 10
  · rw [if_pos c1, if_pos c1, w64 (by omega) (by omega)]
    congr 1
    omega
  · rw [if_neg c1, if_neg c1, if_neg (by simp), w64 (i := 97 + c % 16) (by omega) (by omega), w64 (by omega) (by omega)]
    congr 1
    omega
theorem quote_step (k : Nat) (s : ByteArray) (hs : s.size ≤ 65536) (acc : List Int) (ha : acc.length ≤ 1000000) (i : Int) (h0 : 0 ≤ i) (h1 : i < s.size) :
    spec_Quote.l0 (k + 2) s acc i = spec_Quote.l0 k s (acc ++ qb (bt s i)) (i + 1) := by
  have hb := bt_range s i
  have hx := hexd_eq (bt s i) hb.1 hb.2
  rw [spec_Quote.l0, if_pos h1, if_pos h0]
  generalize bt s i = c at *
  have short : ∀ x, qb c = [92, x] → spec_Quote.j1 (k + 1) s acc i c x true = spec_Quote.l0 k s (acc ++ qb c) (i + 1) := fun x h => by
    rw [spec_Quote.j1, if_pos rfl, h]
    simp only [Option.bind_some, List.length_cons, List.length_nil]
    rw [if_pos (by omega), w64 (by omega) (by omega)]
  have long : ∀ x, c ≠ 8 → c ≠ 12 → c ≠ 10 → c ≠ 13 → c ≠ 9 → c ≠ 34 → c ≠ 92 → spec_Quote.j1 (k + 1) s acc i c x false = spec_Quote.l0 k s (acc ++ qb c) (i + 1) := fun x n1 n2 n3 n4 n5 n6 n7 => by
    rw [spec_Quote.j1, if_neg (by simp)]
    unfold qb
    rw [if_neg n1, if_neg n2, if_neg n3, if_neg n4, if_neg n5, if_neg n6, if_neg n7]
    by_cases c32 : c < 32
    · rw [if_pos c32, if_pos c32, hx]
      simp only [Option.bind_some, List.length_cons, List.length_nil]
      rw [if_pos (by omega), w64 (by omega) (by omega), Int.tdiv_eq_ediv_of_nonneg hb.1, show (48 + c / 16 % 256) % 256 = 48 + c / 16 by omega]
    · rw [if_neg c32, if_neg c32, if_pos (by omega), w64 (by omega) (by omega)]
  unfold spec_shortOf.f
  by_cases e1 : c = 8
  · rw [if_pos e1]; simp only [Option.bind_some, if_true]; rw [show (c != 47) = true by rw [e1]; rfl]; exact short 98 (by rw [e1]; rfl)
  · by_cases e2 : c = 12
    · rw [if_neg e1, if_pos e2]; simp only [Option.bind_some, if_true]; rw [show (c != 47) = true by rw [e2]; rfl]; exact short 102 (by rw [e2]; rfl)
    · by_cases e3 : c = 10
      · rw [if_neg e1, if_neg e2, if_pos e3]; simp only [Option.bind_some, if_true]; rw [show (c != 47) = true by rw [e3]; rfl]; exact short 110 (by rw [e3]; rfl)
      · by_cases e4 : c = 13
        · rw [if_neg e1, if_neg e2, if_neg e3, if_pos e4]; simp only [Option.bind_some, if_true]; rw [show (c != 47) = true by rw [e4]; rfl]; exact short 114 (by rw [e4]; rfl)
        · by_cases e5 : c = 9
          · rw [if_neg e1, if_neg e2, if_neg e3, if_neg e4, if_pos e5]; simp only [Option.bind_some, if_true]; rw [show (c != 47) = true by rw [e5]; rfl]; exact short 116 (by rw [e5]; rfl)
          · rw [if_neg e1, if_neg e2, if_neg e3, if_neg e4, if_neg e5]
            by_cases e6 : c = 34
            · rw [if_pos e6]; simp only [Option.bind_some, if_true]; rw [show (c != 47) = true by rw [e6]; rfl]; exact short c (by rw [e6]; rfl)
            · rw [if_neg e6]
              by_cases e7 : c = 92
              · rw [if_pos e7]; simp only [Option.bind_some, if_true]; rw [show (c != 47) = true by rw [e7]; rfl]; exact short c (by rw [e7]; rfl)
              · rw [if_neg e7]
                by_cases e8 : c = 47
                · rw [if_pos e8]; simp only [Option.bind_some, if_true]; rw [show (c != 47) = false by rw [e8]; rfl]; exact long c e1 e2 e3 e4 e5 e6 e7
                · rw [if_neg e8]; simp only [Option.bind_some, Bool.false_eq_true, if_false]; exact long 0 e1 e2 e3 e4 e5 e6 e7
theorem drop_rd (s : ByteArray) (i : Int) (h0 : 0 ≤ i) (h1 : i < s.size) : (bytesOf s).drop i.toNat = bt s i :: (bytesOf s).drop (i + 1).toNat := by
  have hl : i.toNat < (bytesOf s).length := by rw [bytesOf_length]; omega
  rw [List.drop_eq_getElem_cons hl, show (i + 1).toNat = i.toNat + 1 by omega, ← rd_bytesOf, rd_get _ _ hl]
theorem quote_from (s : ByteArray) (hs : s.size ≤ 65536) : ∀ (m : Nat) (i : Int) (acc : List Int), 0 ≤ i → i + m = s.size → acc.length ≤ 6 * i + 1 → ∀ k, spec_Quote.l0 (k + 1 + 2 * m) s acc i = some (strOfNums (acc ++ qbs ((bytesOf s).drop i.toNat) ++ [34]))
  | 0, i, acc, h0, hm, ha, k => by
    rw [Nat.mul_zero, Nat.add_zero, spec_Quote.l0, if_neg (by omega), if_pos (by omega), List.drop_eq_nil_of_le (by rw [bytesOf_length]; omega)]
    simp [qbs]
  | m + 1, i, acc, h0, hm, ha, k => by
    have := qb_le (bt s i)
    have ih := quote_from s hs m (i + 1) (acc ++ qb (bt s i)) (by omega) (by omega) (by rw [List.length_append]; omega) k
    rw [show k + 1 + 2 * (m + 1) = (k + 1 + 2 * m) + 2 by omega, quote_step _ s hs acc (by omega) i h0 (by omega), ih, drop_rd s i h0 (by omega), qbs, List.append_assoc, List.append_assoc, List.append_assoc, List.append_assoc]

/-! ### back -/
theorem h2_digit (k : Nat) (hk : 2 ≤ k) (c : Int) (h : (48 ≤ c ∧ c ≤ 57)) : jsonparser_h2I.f k c = some (c - 48) := by
  obtain ⟨j, rfl⟩ : ∃ j, k = j + 2 := ⟨k - 2, by omega⟩
  unfold jsonparser_h2I.f
  rw [if_pos (by omega), jsonparser_h2I.j0, if_pos (by simpa using h.2)]
  congr 1
  omega
theorem h2_hexd (k : Nat) (hk : 2 ≤ k) (d : Int) (h : (0 ≤ d ∧ d ≤ 15)) : jsonparser_h2I.f k (hexd d) = some d := by
  unfold hexd
  by_cases c : d < 10
  · rw [if_pos c, h2_digit k hk _ (by omega)]
    congr 1
    omega
  · rw [if_neg c]
    obtain ⟨j, rfl⟩ : ∃ j, k = j + 2 := ⟨k - 2, by omega⟩
    unfold jsonparser_h2I.f
    rw [if_pos (by omega), jsonparser_h2I.j0, if_neg (by simp; omega), if_pos (by omega), jsonparser_h2I.j1, if_neg (by simp; omega), if_pos (by omega), if_pos (by omega)]
    congr 1
    omega
/-- An escape that Quote writes, read. -/
theorem esc_qb (k : Nat) (hk : 2 ≤ k) (c : Int) (h0 : 0 ≤ c) (h1 : c ≤ 255) (hc : qb c ≠ [c]) (R : List Int) : impl_JpParseString.esc k (qb c ++ R) = some (((qb c).length : Int), [c]) := by
  have short : ∀ x, qb c = [92, x] → impl_JpParseString.tab x = some c → impl_JpParseString.esc k (qb c ++ R) = some (((qb c).length : Int), [c]) := fun x hx ht => by
    rw [hx]
    unfold impl_JpParseString.esc
    simp only [List.cons_append, List.nil_append, List.length_cons, List.length_nil]
    rw [if_neg (by omega), if_neg (by simp [rd]), show rd (92 :: x :: R) 1 = x from rfl, ht]
    rfl
  by_cases e1 : c = 8
  · exact short 98 (by rw [e1]; rfl) (by rw [e1]; rfl)
  · by_cases e2 : c = 12
    · exact short 102 (by rw [e2]; rfl) (by rw [e2]; rfl)
    · by_cases e3 : c = 10
      · exact short 110 (by rw [e3]; rfl) (by rw [e3]; rfl)
      · by_cases e4 : c = 13
        · exact short 114 (by rw [e4]; rfl) (by rw [e4]; rfl)
        · by_cases e5 : c = 9
          · exact short 116 (by rw [e5]; rfl) (by rw [e5]; rfl)
          · by_cases e6 : c = 34
            · exact short 34 (by rw [e6]; rfl) (by rw [e6]; rfl)
            · by_cases e7 : c = 92
              · exact short 92 (by rw [e7]; rfl) (by rw [e7]; rfl)
              · by_cases e8 : c < 32
                · have hq : qb c = [92, 117, 48, 48, 48 + c / 16, hexd (c % 16)] := by
                    unfold qb
                    rw [if_neg e1, if_neg e2, if_neg e3, if_neg e4, if_neg e5, if_neg e6, if_neg e7, if_pos e8]
                  rw [hq]
                  have hd : jsonparser_decodeUnicodeEscape.f k ([92, 117, 48, 48, 48 + c / 16, hexd (c % 16)] ++ R) = some (c, 6) := by
                    unfold jsonparser_decodeUnicodeEscape.f jsonparser_decodeSingleUnicodeEscape.f
                    simp only [List.cons_append, List.nil_append, List.length_cons, List.length_nil]
                    rw [if_neg (by omega), if_pos (by omega), show ∀ a b c d e f, rd (a :: b :: c :: d :: e :: f :: R) 2 = c from fun _ _ _ _ _ _ => rfl, h2_digit k hk 48 (by omega)]
                    simp only [Option.bind_some]
                    rw [if_pos (by omega), show ∀ a b c d e f, rd (a :: b :: c :: d :: e :: f :: R) 3 = d from fun _ _ _ _ _ _ => rfl, h2_digit k hk 48 (by omega)]
                    simp only [Option.bind_some]
                    rw [if_pos (by omega), show ∀ a b c d e f, rd (a :: b :: c :: d :: e :: f :: R) 4 = e from fun _ _ _ _ _ _ => rfl, h2_digit k hk (48 + c / 16) (by omega)]
                    simp only [Option.bind_some]
                    rw [if_pos (by omega), show ∀ a b c d e f, rd (a :: b :: c :: d :: e :: f :: R) 5 = f from fun _ _ _ _ _ _ => rfl, h2_hexd k hk (c % 16) (by omega)]
                    simp only [Option.bind_some]
                    rw [if_neg (by decide), if_neg (by decide), if_neg (by omega), if_neg (by omega)]
                    have hv : wrap32 (wrap64 (wrap64 (wrap64 (wrap64 ((48 - 48) * 4096) + wrap64 ((48 - 48) * 256)) + wrap64 ((48 + c / 16 - 48) * 16)) + c % 16)) = c := by
                      rw [w64 (i := (48 - 48) * 4096) (by omega) (by omega), w64 (i := (48 - 48) * 256) (by omega) (by omega), w64 (i := (48 + c / 16 - 48) * 16) (by omega) (by omega), w64 (i := (48 - 48) * 4096 + (48 - 48) * 256) (by omega) (by omega), w64 (i := (48 - 48) * 4096 + (48 - 48) * 256 + (48 + c / 16 - 48) * 16) (by omega) (by omega), w64 (by omega) (by omega)]
                      unfold wrap32
                      omega
                    rw [hv]
                    simp only [Option.bind_some, if_true]
                    unfold jsonparser_isUTF16EncodedRune.f
                    rw [if_neg (by omega)]
                    simp
                  unfold impl_JpParseString.esc
                  rw [hd]
                  simp only [List.cons_append, List.nil_append, List.length_cons, List.length_nil]
                  have er : rd (92 :: 117 :: 48 :: 48 :: (48 + c / 16) :: hexd (c % 16) :: R) 1 = 117 := rfl
                  rw [if_neg (by omega), if_neg (by simp [rd])]
                  simp only [er, show impl_JpParseString.tab 117 = none from rfl, if_true, Option.bind_some]
                  rw [if_neg (by decide), if_pos (by omega), Lib.encodeRuneZ_one h0 (by omega)]
                  rfl
                · exfalso
                  refine hc ?_
                  unfold qb
                  rw [if_neg e1, if_neg e2, if_neg e3, if_neg e4, if_neg e5, if_neg e6, if_neg e7, if_neg e8]
theorem full_cons (k : Nat) (c : Int) (hc : c ≠ 92) (R : List Int) : impl_JpParseString.full k (c :: R) = (impl_JpParseString.full k R).map (c :: ·) := by
  have hr := impl_JpParseString.bsl_range R
  unfold impl_JpParseString.full
  rw [impl_JpParseString.bsl, if_neg hc]
  by_cases d : impl_JpParseString.bsl R = -1
  · rw [if_pos d, if_pos rfl, if_pos d]
    rfl
  · rw [if_neg d, if_neg d, if_neg (by omega), show (impl_JpParseString.bsl R + 1).toNat = (impl_JpParseString.bsl R).toNat + 1 by omega, List.drop_succ_cons, List.take_succ_cons]
    cases impl_JpParseString.un k (R.drop (impl_JpParseString.bsl R).toNat) <;> rfl
theorem full_esc (k : Nat) (hk : 2 ≤ k) (c : Int) (h0 : 0 ≤ c) (h1 : c ≤ 255) (hc : qb c ≠ [c]) (R : List Int) : impl_JpParseString.full (k + 1) (qb c ++ R) = (impl_JpParseString.full k R).map (c :: ·) := by
  have h92 : ∃ t, qb c = 92 :: t := by
    unfold qb at hc ⊢
    repeat' split
    all_goals first | exact ⟨_, rfl⟩ | (exfalso; simp_all)
  obtain ⟨t, ht⟩ := h92
  have hb : impl_JpParseString.bsl (qb c ++ R) = 0 := by rw [ht, List.cons_append, impl_JpParseString.bsl, if_pos rfl]
  have he := esc_qb (k + 1) (by omega) c h0 h1 hc R
  have hpos : 1 ≤ (qb c).length := by rw [ht]; simp
  rw [impl_JpParseString.full, hb, if_neg (by decide), show (0 : Int).toNat = 0 from rfl, List.drop_zero, List.take_zero, impl_JpParseString.un, he]
  simp only [Option.bind_some, List.length_append, List.length_cons, List.length_nil, Int.toNat_natCast]
  rw [if_pos (by omega), List.drop_left]
  unfold impl_JpParseString.full
  by_cases d : impl_JpParseString.bsl R = -1
  · rw [if_pos d, if_pos d]
    rfl
  · rw [if_neg d, if_neg d]
    cases impl_JpParseString.un k (R.drop (impl_JpParseString.bsl R).toNat) <;> simp
theorem full_qbs : ∀ (l : List Int), (∀ x ∈ l, 0 ≤ x ∧ x ≤ 255) → ∀ k, impl_JpParseString.full (k + 2 + l.length) (qbs l) = some l
  | [], _, k => rfl
  | c :: r, h, k => by
    have hc := h c (by simp)
    have ih := full_qbs r (fun x hx => h x (by simp [hx]))
    by_cases p : qb c = [c]
    · have h92 : c ≠ 92 := fun e => by
        rw [e] at p
        exact absurd p (by decide)
      have := ih (k + 1)
      rw [qbs, p, List.singleton_append, full_cons _ c h92, List.length_cons, show k + 2 + (r.length + 1) = k + 1 + 2 + r.length by omega, this]
      rfl
    · rw [qbs, List.length_cons, show k + 2 + (r.length + 1) = (k + 2 + r.length) + 1 by omega, full_esc _ (by omega) c hc.1 hc.2 p, ih k]
      rfl
theorem strOf_bytes (l : List Int) (h : ∀ x ∈ l, 0 ≤ x ∧ x ≤ 255) : bytesOf (strOfNums l) = l := by
  unfold bytesOf strOfNums
  simp only [List.map_map]
  conv => rhs; rw [← List.map_id l]
  refine List.map_congr_left fun x hx => ?_
  have := h x hx
  show ((UInt8.ofNat x.toNat).toNat : Int) = x
  rw [UInt8.toNat_ofNat']
  omega
theorem bytes_in (s : ByteArray) : ∀ x ∈ bytesOf s, 0 ≤ x ∧ x ≤ 255 := by
  intro x hx
  obtain ⟨i, hi, rfl⟩ := List.getElem_of_mem hx
  have := bytes_range s i
  rw [rd_get _ _ (by simpa using hi)] at this
  simpa using this
theorem qb_in (c : Int) (h : 0 ≤ c ∧ c ≤ 255) : ∀ x ∈ qb c, 0 ≤ x ∧ x ≤ 255 := by
  intro x hx
  unfold qb hexd at hx
  repeat' split at hx
  all_goals (simp only [List.mem_cons, List.not_mem_nil, or_false] at hx; omega)
theorem qbs_in : ∀ (l : List Int), (∀ x ∈ l, 0 ≤ x ∧ x ≤ 255) → ∀ x ∈ qbs l, 0 ≤ x ∧ x ≤ 255
  | [], _, x, hx => by simp [qbs] at hx
  | c :: r, h, x, hx => by
    simp only [qbs, List.mem_append] at hx
    rcases hx with hx | hx
    · exact qb_in c (h c (by simp)) x hx
    · exact qbs_in r (fun y hy => h y (by simp [hy])) x hx
theorem cut_bytes (t : ByteArray) (i j : Nat) : bytesOf (t.extract i j) = ((bytesOf t).take j).drop i := by
  unfold bytesOf
  rw [ByteArray.data_extract, Array.toList_extract, ← List.map_take, ← List.map_drop, List.drop_take]
theorem strOf_of (s : ByteArray) : strOfNums (bytesOf s) = s := bytes_inj (strOf_bytes _ (bytes_in s))
theorem FnJpParseStringBack : laws_FnJpParseStringBack.Pure := by
  intro s _
  by_cases c1 : (s.size : Int) > 2147483647
  · exact ⟨0, by unfold laws_FnJpParseStringBack.f; rw [if_pos c1]⟩
  · by_cases c2 : (s.size : Int) > 65536
    · exact ⟨0, by unfold laws_FnJpParseStringBack.f; rw [if_neg c1, if_pos c2]⟩
    · have hq := quote_from s (by omega) s.size 0 [34] (by omega) (by omega) (by simp)
      rw [show (0 : Int).toNat = 0 from rfl, List.drop_zero] at hq
      have hin : ∀ x ∈ [34] ++ qbs (bytesOf s) ++ [34], (0 : Int) ≤ x ∧ x ≤ 255 := by
        intro x hx
        simp only [List.mem_append, List.mem_cons, List.not_mem_nil, or_false] at hx
        rcases hx with (rfl | hx) | rfl
        · omega
        · exact qbs_in _ (bytes_in s) x hx
        · omega
      have hb := strOf_bytes _ hin
      generalize strOfNums ([34] ++ qbs (bytesOf s) ++ [34]) = t at hq hb
      have hl := qbs_le (bytesOf s)
      rw [bytesOf_length] at hl
      have hz : t.size = (qbs (bytesOf s)).length + 2 := by
        rw [← bytesOf_length, hb]
        simp
      have hi : bytesOf (t.extract 1 (t.size - 1)) = qbs (bytesOf s) := by
        rw [cut_bytes, hb, show t.size - 1 = (qbs (bytesOf s)).length + 1 by omega]
        simp
      have hsz : (t.extract 1 (t.size - 1)).size ≤ 1000000 := by
        rw [← bytesOf_length, hi]; omega
      have hfull := full_qbs (bytesOf s) (bytes_in s)
      rw [bytesOf_length] at hfull
      refine ⟨2 + s.size + 1 + 2 * s.size, ?_⟩
      unfold laws_FnJpParseStringBack.f
      have hq' : spec_Quote.f (2 + s.size + 1 + 2 * s.size) s = some t := hq (2 + s.size)
      rw [if_neg c1, if_neg c2, hq']
      simp only [Option.bind_some]
      rw [w64 (i := (t.size : Int) - 1) (by omega) (by omega), if_pos (by omega), if_pos (by omega), show ((t.size : Int) - 1).toNat = t.size - 1 by omega]
      unfold impl_JpParseString.f
      rw [if_pos hsz, hi, show 2 + s.size + 1 + 2 * s.size = (1 + 2 * s.size) + 2 + s.size by omega, hfull]
      simp only [Option.bind_some, if_true]
      rw [strOf_of]
      simp

end Go.Proofs.YtdllbnecbbggfaaDoor.Pure
