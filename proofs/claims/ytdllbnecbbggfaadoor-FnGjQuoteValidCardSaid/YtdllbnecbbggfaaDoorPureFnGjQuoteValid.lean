/- Proved: AppendJSONString gives a JSON string in UTF-8 for whatever bytes (at most 2^12). -/
import Derived.Test.YtdllbnecbbggfaaDoorInsQvFnGjQuoteValid
namespace Go.Proofs.YtdllbnecbbggfaaDoor.Pure
open Go.RowKit Go.Proofs.YtdllbnecbbggfaaDoor Go.Proofs.YtdllbnecbbggfaaDoor.Base Go.Proofs.YtdllbnecbbggfaaDoor.Runes Go.Proofs.YtdllbnecbbggfaaDoor.XFnGjQuoteValid Go.Proofs.YtdllbnecbbggfaaDoor.UnescXFnGjQuoteValid Go.Proofs.YtdllbnecbbggfaaDoorW.PrintWords Go.Proofs.YtdllbnecbbggfaaDoorW.PrintLast
set_option linter.unusedVariables false
set_option linter.unusedSimpArgs false

theorem strOf_bytes (l : List Int) (h : ∀ x ∈ l, 0 ≤ x ∧ x ≤ 255) : bytesOf (strOfNums l) = l := by
  unfold bytesOf strOfNums
  simp only [List.map_map]
  conv => rhs; rw [← List.map_id l]
  refine List.map_congr_left fun x hx => ?_
  have := h x hx
  show ((UInt8.ofNat x.toNat).toNat : Int) = x
  rw [UInt8.toNat_ofNat']
  omega
theorem enc_ascii : ∀ l : List Int, (∀ x ∈ l, 0 ≤ x ∧ x < 128) → enc l = l ∧ Scs l
  | [], _ => ⟨rfl, by simp [Scs]⟩
  | x :: r, h => by
    obtain ⟨a, b⟩ := enc_ascii r fun y hy => h y (by simp [hy])
    have hx := h x (by simp)
    refine ⟨by rw [enc, en_ascii hx.1 hx.2, a]; rfl, fun y hy => ?_⟩
    rcases List.mem_cons.mp hy with rfl | hy
    · unfold Sc; omega
    · exact b y hy
/-- What is written for one character: part of a string's inside, and characters' bytes. -/
def Good (l : List Int) : Prop := Ins l ∧ ∃ cs, l = enc cs ∧ Scs cs
theorem Good.append {a b : List Int} (h : Good a) (g : Good b) : Good (a ++ b) := by
  obtain ⟨h1, c, rfl, hc⟩ := h
  obtain ⟨g1, d, rfl, hd⟩ := g
  refine ⟨h1.append g1, c ++ d, (enc_append c d).symm, fun x hx => ?_⟩
  rcases List.mem_append.mp hx with hx | hx
  · exact hc x hx
  · exact hd x hx
theorem Good.nil : Good [] := ⟨.nil, [], rfl, by simp [Scs]⟩
theorem good_of {l : List Int} (h : Ins l) (ha : ∀ x ∈ l, 0 ≤ x ∧ x < 128) : Good l := ⟨h, l, (enc_ascii l ha).1.symm, (enc_ascii l ha).2⟩
theorem hexc_range (n : Nat) (h : n < 16) : 48 ≤ hexc n ∧ hexc n < 128 := by
  unfold hexc
  split <;> omega
theorem hv_hexc (n : Nat) (h : n < 16) : hv (hexc n) = some (n : Int) := by
  unfold hexc hv
  split
  · rw [if_pos (by omega)]
    congr 1
    omega
  · rw [if_neg (by omega), if_pos (by omega)]
    congr 1
    omega
theorem good_esc {e : Int} (h : Simple e) : Good [92, e] := good_of (.esc h .nil) (by
  unfold Simple at h
  intro x hx
  simp only [List.mem_cons, List.mem_nil_iff, or_false] at hx
  omega)
theorem good_uni (a b : Nat) (x y : Int) (va vb : Int) (ha : hv x = some va) (hb : hv y = some vb) (h1 : a < 16) (h2 : b < 16) (hx : 0 ≤ x ∧ x < 128) (hy : 0 ≤ y ∧ y < 128) (hv : va * 4096 + vb * 256 + a * 16 + b < 55296) : Good [92, 117, x, y, hexc a, hexc b] := by
  have r1 := hexc_range a h1
  have r2 := hexc_range b h2
  refine good_of (.uni (v := va * 4096 + vb * 256 + a * 16 + b) (by rw [ha, hb, hv_hexc a h1, hv_hexc b h2]; rfl) hv .nil) ?_
  intro z hz
  simp only [List.mem_cons, List.mem_nil_iff, or_false] at hz
  omega
theorem good_hex (c : Int) (h0 : 0 ≤ c) (h1 : c < 256) : Good (gjson_AppendJSONString.hex c) :=
  good_uni (c / 16).toNat (c % 16).toNat 48 48 0 0 (by decide) (by decide) (by omega) (by omega) (by omega) (by omega) (by omega)
theorem enc_high {c : Int} (hc : Sc c) (h : ∀ x r, en c = x :: r → 128 ≤ x) : Good (en c) := by
  obtain ⟨x, t, he, hx, hs1, hs2, ht, _⟩ := en_shape hc
  have h1 := h x t he
  refine ⟨.high fun y hy => ?_, [c], (enc_one c).symm, fun y hy => ?_⟩
  · rw [he] at hy
    rcases List.mem_cons.mp hy with rfl | hy
    · exact h1
    · exact (ht y hy).1
  · rw [List.mem_singleton.mp hy]
    exact hc
theorem piece_good (s : ByteArray) (hs : s.size ≤ 65536) (i : Nat) (hi : i < s.size) : Good (gjson_AppendJSONString.piece s i).1 ∧ ∃ n : Nat, (gjson_AppendJSONString.piece s i).2 = (n : Int) ∧ 1 ≤ n ∧ i + n ≤ s.size := by
  obtain ⟨b0, b1⟩ := bt_range s i
  have one : ∀ l : List Int, Good l → Good ((l, (1 : Int)) : List Int × Int).1 ∧ ∃ n : Nat, ((l, (1 : Int)) : List Int × Int).2 = (n : Int) ∧ 1 ≤ n ∧ i + n ≤ s.size := fun l h => ⟨h, 1, rfl, by omega, by omega⟩
  unfold gjson_AppendJSONString.piece
  by_cases h32 : bt s i < 32
  · rw [if_pos h32]
    repeat' split
    · exact one _ (good_esc (by unfold Simple; omega))
    · exact one _ (good_esc (by unfold Simple; omega))
    · exact one _ (good_esc (by unfold Simple; omega))
    · exact one _ (good_esc (by unfold Simple; omega))
    · exact one _ (good_esc (by unfold Simple; omega))
    · exact one _ (good_hex _ b0 (by omega))
  rw [if_neg h32]
  by_cases h62 : bt s i = 62
  · rw [if_pos h62]; exact one _ (good_hex _ b0 (by omega))
  rw [if_neg h62]
  by_cases h60 : bt s i = 60
  · rw [if_pos h60]; exact one _ (good_hex _ b0 (by omega))
  rw [if_neg h60]
  by_cases h38 : bt s i = 38
  · rw [if_pos h38]; exact one _ (good_hex _ b0 (by omega))
  rw [if_neg h38]
  by_cases h92 : bt s i = 92
  · rw [if_pos h92]; exact one _ (good_esc (by unfold Simple; omega))
  rw [if_neg h92]
  by_cases h34 : bt s i = 34
  · rw [if_pos h34]; exact one _ (good_esc (by unfold Simple; omega))
  rw [if_neg h34]
  by_cases h127 : 127 < bt s i
  · rw [if_pos h127]
    unfold gjson_AppendJSONString.high
    simp only []
    have hes : (s.extract (i : Int).toNat s.size).size = s.size - i := by rw [ByteArray.size_extract]; omega
    have hdb := dgo_bounds (s.extract (i : Int).toNat s.size)
    have hsd := ChrXFnGjQuoteValid.dgo_sound (s.extract (i : Int).toNat s.size) (by omega)
    have hbd : bytesOf (s.extract (i : Int).toNat s.size) = (bytesOf s).drop i := by rw [Int.toNat_natCast]; exact bytes_drop s i
    rw [hbd] at hsd
    rw [hes] at hdb
    generalize dgo (s.extract (i : Int).toNat s.size) = d at *
    obtain ⟨r, n⟩ := d
    simp only [] at hdb hsd ⊢
    by_cases hbad : r = 65533 ∧ n = 1
    · rw [if_pos hbad]
      refine one _ ?_
      have : ([239, 191, 189] : List Int) = en 65533 := by decide
      rw [this]
      exact enc_high (by unfold Sc; omega) (by
        intro x r h
        rw [← this] at h
        injection h with h _
        omega)
    · rw [if_neg hbad]
      obtain ⟨hsc, hen⟩ := hsd hbad
      have hn : ∃ m : Nat, n = (m : Int) ∧ 1 ≤ m ∧ i + m ≤ s.size := ⟨n.toNat, by omega, by omega, by omega⟩
      by_cases h8 : r = 8232 ∨ r = 8233
      · rw [if_pos h8]
        refine ⟨?_, hn⟩
        rcases h8 with rfl | rfl
        · exact good_uni 2 8 50 48 2 0 (by decide) (by decide) (by omega) (by omega) (by omega) (by omega) (by omega)
        · exact good_uni 2 9 50 48 2 0 (by decide) (by decide) (by omega) (by omega) (by omega) (by omega) (by omega)
      · rw [if_neg h8]
        refine ⟨?_, hn⟩
        have e : bytesOf (s.extract (i : Int).toNat ((i : Int) + n).toNat) = en r := by
          rw [← hen]
          unfold bytesOf
          rw [ByteArray.data_extract, Array.toList_extract, ← List.map_drop, ← List.map_take]
          congr 1
          rw [Int.toNat_natCast]
          show (s.data.toList.drop i).take (((i : Int) + n).toNat - i) = _
          rw [show ((i : Int) + n).toNat - i = n.toNat by omega]
        show Good (bytesOf (s.extract (i : Int).toNat ((i : Int) + n).toNat))
        rw [e]
        refine enc_high hsc fun x t hx => ?_
        have hd := ChrXFnGjQuoteValid.drop_rd s i (by omega) (by omega)
        rw [Int.toNat_natCast] at hd
        rw [hx, hd] at hen
        obtain ⟨m, hm⟩ : ∃ m, n.toNat = m + 1 := ⟨n.toNat - 1, by omega⟩
        rw [hm, List.take_succ_cons] at hen
        injection hen with h _
        omega
  · rw [if_neg h127]
    exact one _ (good_of (.plain (by omega) h34 h92 .nil) (by
      intro x hx
      rw [List.mem_singleton.mp hx]
      omega))
theorem piece_len (s : ByteArray) (i : Nat) : (gjson_AppendJSONString.piece s i).1.length ≤ 6 := by
  unfold gjson_AppendJSONString.piece gjson_AppendJSONString.high gjson_AppendJSONString.hex
  have hdb := dgo_bounds (s.extract (i : Int).toNat s.size)
  simp only []
  generalize dgo (s.extract (i : Int).toNat s.size) = d at *
  repeat' split
  all_goals first
    | (simp; done)
    | skip
  simp only [bytesOf_length, ByteArray.size_extract]
  omega
theorem g_good (s : ByteArray) (hs : s.size ≤ 65536) : ∀ (m i : Nat), s.size - i ≤ m → i ≤ s.size → ∃ body, (body.length ≤ 6 * (s.size - i) ∧ Good body) ∧ Ev fun k => ∀ acc, gjson_AppendJSONString.g k s acc (i : Int) = some (acc ++ body ++ [34])
  | m, i, hm, hi => by
    by_cases c : i < s.size
    · cases m with
      | zero => omega
      | succ m =>
        obtain ⟨hg, n, hn, h1, h2⟩ := piece_good s hs i c
        obtain ⟨body, ⟨hlb, hb⟩, hk⟩ := g_good s hs m (i + n) (by omega) (by omega)
        have hpl := piece_len s i
        refine ⟨_, ⟨by rw [List.length_append]; omega, hg.append hb⟩, hk.succ fun k hk acc => ?_⟩
        rw [gjson_AppendJSONString.g, if_pos (by omega), hn]
        have := hk (acc ++ (gjson_AppendJSONString.piece s i).1)
        rw [show (((i + n : Nat)) : Int) = (i : Int) + n by omega] at this
        rw [this]
        simp
    · exact ⟨[], ⟨by simp, .nil⟩, (Ev.ge 0).succ fun k _ acc => by rw [gjson_AppendJSONString.g, if_neg (by omega)]; simp⟩
theorem en_range (c : Int) (hc : Sc c) : ∀ x ∈ en c, 0 ≤ x ∧ x ≤ 255 := by
  obtain ⟨x, t, he, hx, _, _, ht, _⟩ := en_shape hc
  intro y hy
  rw [he] at hy
  rcases List.mem_cons.mp hy with rfl | hy
  · exact hx
  · have := ht y hy
    omega
theorem enc_range : ∀ cs, Scs cs → ∀ x ∈ enc cs, 0 ≤ x ∧ x ≤ 255
  | [], _, x, hx => by simp [enc] at hx
  | c :: r, h, x, hx => by
    rw [enc] at hx
    rcases List.mem_append.mp hx with hx | hx
    · exact en_range c h.head x hx
    · exact enc_range r h.tail x hx
theorem blanks_none (k : Nat) (s : ByteArray) (i : Int) (h0 : 0 ≤ i) (h : (s.size : Int) ≤ i ∨ bt s i = 34) : spec_reader_blanks.f (k + 1) s i = some (s, i) := by
  unfold spec_reader_blanks.f
  rw [spec_reader_blanks.l0]
  by_cases c : i < s.size
  · rw [if_pos c, if_pos h0]
    have : bt s i = 34 := by omega
    rw [this, show spec_Blank.f 34 = some false by unfold spec_Blank.f; rw [if_neg (by omega), if_neg (by omega), if_neg (by omega)]; simp]
    simp
  · rw [if_neg c]
theorem FnGjQuoteValid : laws_FnGjQuoteValid.Pure := by
  intro s hs
  by_cases c1 : (s.size : Int) > 2147483647
  · exact ⟨0, by unfold laws_FnGjQuoteValid.f; rw [if_pos c1]⟩
  by_cases c2 : (s.size : Int) > 4096
  · exact ⟨0, by unfold laws_FnGjQuoteValid.f; rw [if_neg c1, if_pos c2]⟩
  obtain ⟨body, ⟨hlen, hb⟩, hg⟩ := g_good s (by omega) s.size 0 (by omega) (by omega)
  obtain ⟨hins, cs, hcs, hsc⟩ := hb
  have hr := enc_range cs hsc
  rw [← hcs] at hr
  -- the text between quotation marks
  have hq : strOfNums ([34] ++ body ++ [34]) = ((⟨#[34]⟩ : ByteArray) ++ strOfNums body) ++ (⟨#[34]⟩ : ByteArray) := by
    apply bytes_inj
    rw [strOf_bytes _ (by
      intro x hx
      simp only [List.mem_append, List.mem_singleton] at hx
      rcases hx with (rfl | hx) | rfl
      · omega
      · exact hr x hx
      · omega), bytesOf_append, bytesOf_append, strOf_bytes _ hr]
    rfl
  have hbq : bytesOf (strOfNums ([34] ++ body ++ [34])) = [34] ++ body ++ [34] := by rw [hq, bytesOf_append, bytesOf_append, strOf_bytes _ hr]; rfl
  generalize hqq : strOfNums ([34] ++ body ++ [34]) = q at *
  have hqs : q.size = body.length + 2 := by rw [← bytesOf_length, hbq]; simp
  have hrd := ins_quoted q (by omega) hins 1 [] (by rw [hbq]; simp)
  have hvs := ins_valid (bytesOf q) hins 1 [] (by rw [hbq]; simp)
  have hbs : (strOfNums body).size = body.length := by rw [← bytesOf_length, strOf_bytes _ hr]
  obtain ⟨xs, hx⟩ := ins_dec (strOfNums body) hins 0 (by rw [strOf_bytes _ hr]; rfl) (strOfNums body).size
  have hun := unquote_eq (strOfNums body) (by omega) xs (by simpa using hx)
  rw [← hq] at hun
  have hut : Ev fun k => spec_UTF8.f k q = some true := ChrXFnGjQuoteValid.utf8_enc q (by omega) ([34] ++ cs ++ [34]) (by
    intro x hx
    simp only [List.mem_append, List.mem_singleton] at hx
    rcases hx with (rfl | hx) | rfl
    · unfold Sc; omega
    · exact hsc x hx
    · unfold Sc; omega) (by rw [hbq, enc_append, enc_append, ← hcs, show enc [34] = [34] by decide])
  have b0 : bt q 0 = 34 := by rw [← rd_bytesOf, hbq]; rfl
  have r0 : rd (bytesOf q) 0 = 34 := by rw [hbq]; rfl
  have hgl : (bytesOf q).length = body.length + 2 := by rw [bytesOf_length]; exact hqs
  obtain ⟨K, hK⟩ := (((hg.and hrd).and hvs).and hun).and hut
  have f1 : ∀ j acc, K ≤ j → gjson_AppendJSONString.g j s acc 0 = some (acc ++ body ++ [34]) := fun j acc hj => by have := (hK j hj).1.1.1.1 acc; simpa using this
  have f2 : ∀ j, K ≤ j → spec_reader_quoted.l0 j q 1 = some (true, q, (q.size : Int)) := fun j hj => by
    have := (hK j hj).1.1.1.2
    rw [show (((1 : Nat) : Int) + (body.length : Int) + 1) = (q.size : Int) by omega] at this
    exact this
  have f3 : ∀ j, K ≤ j → gjson_validstring.v j (bytesOf q) 1 = some (q.size : Int) := fun j hj => by
    have := (hK j hj).1.1.2
    rw [show (((1 : Nat) : Int) + (body.length : Int) + 1) = (q.size : Int) by omega] at this
    exact this
  have f4 : ∀ j, K ≤ j → spec_Unquote.f j q = some (strOfNums xs) := fun j hj => (hK j hj).1.2
  have f5 : ∀ j, K ≤ j → spec_UTF8.f j q = some true := fun j hj => (hK j hj).2
  have t1 : impl_GjQuote.f (K + 20) s = some q := by
    unfold impl_GjQuote.f gjson_AppendJSONString.f
    rw [if_pos (by omega), f1 _ _ (by omega), Option.map_some, hqq]
  have t2 : spec_Places.f (K + 20) q = some (4, 0, (q.size : Int), [], [], true) := by
    unfold spec_Places.f
    rw [blanks_none (K + 19) q 0 (by omega) (.inr b0)]
    simp only [Option.bind_some]
    unfold spec_reader_value.f
    rw [here_eq q 0 (by omega), b0]
    simp only [Option.bind_some]
    rw [if_neg (by omega), if_neg (by omega), if_pos trivial]
    unfold spec_reader_quoted.f
    rw [w64 (i := (0 : Int) + 1) (by omega) (by omega), show (0 : Int) + 1 = 1 from rfl, f2 _ (by omega)]
    simp only [Option.bind_some, if_true]
    rw [blanks_none (K + 19) q _ (by omega) (.inl (Int.le_refl _))]
    simp
  have t3 : ∃ n, spec_Tree.f (K + 20) q 4 0 (q.size : Int) [] [] = some (4, n, [], []) := by
    refine ⟨strOfNums xs, ?_⟩
    rw [spec_Tree.f, if_neg (by omega), if_pos rfl, if_pos (by omega), if_pos (by omega), if_pos (by omega)]
    rw [show q.extract (0 : Int).toNat ((q.size : Int)).toNat = q by rw [Int.toNat_natCast]; exact ByteArray.extract_zero_size, f4 (K + 19) (by omega)]
    simp only [Option.bind_some]
    rw [spec_Tree.j0, spec_Tree.l0, if_neg (by simp), spec_Tree.l1, if_neg (by simp)]
  have t4 : impl_GjValid.f (K + 20) q = some true := by
    unfold impl_GjValid.f gjson_Valid.f
    rw [if_pos (by omega)]
    unfold gjson_validpayload.f
    rw [gjson_validpayload.l0, if_pos (by omega), if_pos (by omega), r0, if_neg (by omega), if_neg (by omega), if_neg (by omega), gjson_validpayload.j1, if_neg (by decide)]
    unfold gjson_validany.f
    rw [gjson_validany.l0, if_pos (by omega), if_pos (by omega), r0, if_neg (by omega), if_neg (by omega), if_neg (by omega), gjson_validany.j1, if_neg (by decide), if_neg (by omega), if_neg (by omega), if_pos rfl]
    unfold gjson_validstring.f
    rw [w64 (i := (0 : Int) + 1) (by omega) (by omega), show (0 : Int) + 1 = 1 from rfl, if_pos (by omega), f3 _ (by omega)]
    simp only [Option.map_some, Option.bind_some, if_true]
    rw [gjson_validpayload.l1, if_neg (by omega)]
    rfl
  obtain ⟨n, t3⟩ := t3
  refine ⟨K + 20, ?_⟩
  unfold laws_FnGjQuoteValid.f
  rw [if_neg c1, if_neg c2, t1]
  simp only [Option.bind_some]
  unfold spec_Read.f
  rw [t2]
  simp only [Option.bind_some, if_true]
  rw [t3]
  simp only [Option.bind_some, if_true]
  rw [f5 _ (by omega)]
  simp only [Option.bind_some, if_true]
  rw [t4]
  rfl

end Go.Proofs.YtdllbnecbbggfaaDoor.Pure
