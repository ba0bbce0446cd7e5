/- Brackets in brackets, with a number within or without: what is read of them. -/
import Derived.Test.YtjfofbgnppdlgaaDoorFpRd
namespace Go.Proofs.YtjfofbgnppdlgaaDoor.Fp
open Go.RowKit Go.Proofs.YtjfofbgnppdlgaaDoorW.PrintWords Go.Proofs.YtjfofbgnppdlgaaDoorW.PrintLast Go.Proofs.YtjfofbgnppdlgaaDoorW.PrintMore
open Go.Proofs.YtjfofbgnppdlgaaDoor.FjW (cut cut_cut cut_size cut_bytes cut_zero cut_bt bt_out D rd_D rd_D0 D_drop D_len D_nil D_cons ws_at skipWS errNew)
set_option linter.unusedVariables false
set_option linter.unusedSimpArgs false

def one (num : Bool) : List Int := if num = true then [49] else []
def c1 (num : Bool) : Nat := if num = true then 1 else 0
/-- n brackets, with j brackets more behind. -/
def L (num : Bool) : Nat → Nat → List Int
  | 0, j => one num ++ List.replicate j 93
  | n + 1, j => 91 :: L num n (j + 1)
def nv (num : Bool) : Nat → FV
  | 0 => if num = true then .num [49] else .arr []
  | n + 1 => if num = false ∧ n = 0 then .arr [] else .arr [nv num n]
theorem L_len (num : Bool) : ∀ n j, (L num n j).length = 2 * n + j + c1 num
  | 0, j => by cases num <;> simp [L, one, c1]
  | n + 1, j => by rw [L, List.length_cons, L_len num n (j + 1)]; omega
theorem L_drop (num : Bool) : ∀ n j, (L num n j).drop (2 * n + c1 num) = List.replicate j 93
  | 0, j => by cases num <;> simp [L, one, c1]
  | n + 1, j => by
    have := L_drop num n (j + 1)
    rw [L, show 2 * (n + 1) + c1 num = (2 * n + c1 num + 1) + 1 by omega, List.drop_succ_cons, ← List.drop_drop, this]
    simp [List.replicate_succ]
theorem ws_93 (j : Nat) : Fj.ws (List.replicate j (93 : Int)) = 0 := by
  cases j with
  | zero => rfl
  | succ j => rw [List.replicate_succ, Fj.ws, if_neg (by decide)]
theorem ws_cons {c : Int} (r : List Int) (h : Fj.blank c = false) : Fj.ws (c :: r) = 0 := by rw [Fj.ws, if_neg (by rw [h]; simp)]
theorem rd0 (c : Int) (r : List Int) : rd (c :: r) 0 = c := rfl
theorem L_head (num : Bool) (n j : Nat) (h : num = true ∨ 0 < n) : ∃ r, L num n j = 91 :: r ∨ L num n j = 49 :: r := by
  cases n with
  | zero =>
    obtain rfl : num = true := h.resolve_right (by omega)
    exact ⟨_, .inr rfl⟩
  | succ n => exact ⟨_, .inl rfl⟩
theorem rd_drop (l : List Int) (m : Nat) : rd l (m : Int) = rd (l.drop m) 0 := by
  unfold rd
  simp [List.getD_eq_getElem?_getD]
theorem nlen_93 (j : Nat) : nlen (List.replicate j (93 : Int)) = 0 := by
  cases j with
  | zero => rfl
  | succ j => rw [List.replicate_succ, nlen, if_neg (by decide)]
theorem pval_br (k d : Nat) (l : List Int) (hd : d + 1 ≤ 300) : pval (k + 1) d (91 :: l) = if rd l (Fj.ws l : Int) = 93 then some (.arr [], Fj.ws l + 2) else (pels k (d + 1) l).map fun r => (.arr r.1, r.2 + 1) := by
  rw [pval, if_neg (by simp), if_neg (by omega), if_neg (show ¬ rd (91 :: l) 0 = 123 by rw [rd0]; decide), if_pos (show rd (91 :: l) 0 = 91 from rfl)]
  rfl
theorem pval_49 (k d : Nat) (l : List Int) (hd : d + 1 ≤ 300) : pval (k + 1) d (49 :: l) = (rawNum (49 :: l)).map fun n => (.num ((49 :: l).take n), n) := by
  rw [pval, if_neg (by simp), if_neg (by omega), if_neg (show ¬ rd (49 :: l) 0 = 123 by rw [rd0]; decide), if_neg (show ¬ rd (49 :: l) 0 = 91 by rw [rd0]; decide), if_neg (show ¬ rd (49 :: l) 0 = 34 by rw [rd0]; decide), if_neg (show ¬ rd (49 :: l) 0 = 116 by rw [rd0]; decide), if_neg (show ¬ rd (49 :: l) 0 = 102 by rw [rd0]; decide), if_neg (show ¬ rd (49 :: l) 0 = 110 by rw [rd0]; decide)]
theorem pval_deep (k d : Nat) (c : Int) (l : List Int) (hd : 300 < d + 1) : pval (k + 1) d (c :: l) = none := by
  rw [pval, if_neg (by simp), if_pos hd]
theorem pval_one (k d j : Nat) (hk : 1 ≤ k) : pval k d (49 :: List.replicate j 93) = if d + 1 ≤ 300 then some (.num [49], 1) else none := by
  obtain ⟨k, rfl⟩ : ∃ i, k = i + 1 := ⟨k - 1, by omega⟩
  by_cases h : d + 1 ≤ 300
  · rw [pval_49 k d _ h, if_pos h]
    have hn : nlen (49 :: List.replicate j (93 : Int)) = 1 := by rw [nlen, if_pos (by decide), nlen_93]
    have hr : rawNum (49 :: List.replicate j (93 : Int)) = some 1 := by
      unfold rawNum
      rw [hn]
      by_cases e : j = 0
      · subst e; rfl
      · rw [if_neg (by simp; omega), if_neg (by rw [rd0]; omega)]
    rw [hr]; rfl
  · rw [pval_deep k d _ _ (by omega), if_neg h]
theorem nest (num : Bool) : ∀ n j k d, (num = true ∨ 0 < n) → 2 * n + 2 ≤ k → pval k d (L num n j) = if d + n + c1 num ≤ 300 then some (nv num n, 2 * n + c1 num) else none
  | 0, j, k, d, h, hk => by
    obtain rfl : num = true := h.resolve_right (by omega)
    exact pval_one k d j (by omega)
  | n + 1, j, k, d, _, hk => by
    obtain ⟨k, rfl⟩ : ∃ i, k = i + 1 + 1 := ⟨k - 2, by omega⟩
    rw [L]
    by_cases hd : d + 1 ≤ 300
    · rw [pval_br _ _ _ hd]
      by_cases e : num = false ∧ n = 0
      · obtain ⟨rfl, rfl⟩ := e
        have e1 : L false 0 (j + 1) = 93 :: List.replicate j 93 := rfl
        have e2 : Fj.ws (93 :: List.replicate j (93 : Int)) = 0 := ws_cons _ (by decide)
        rw [e1, e2, if_pos (by rfl), if_pos (by simp [c1]; omega)]
        rfl
      · have hh : num = true ∨ 0 < n := by
          cases num with
          | true => exact .inl rfl
          | false => exact .inr (Nat.pos_of_ne_zero fun x => e ⟨rfl, x⟩)
        have hw : Fj.ws (L num n (j + 1)) = 0 ∧ rd (L num n (j + 1)) 0 ≠ 93 := by
          obtain ⟨r, h | h⟩ := L_head num n (j + 1) hh <;> rw [h] <;> exact ⟨ws_cons _ (by decide), by rw [rd0]; decide⟩
        have ih := nest num n (j + 1) k (d + 1) hh (by omega)
        have h93 : rd (L num n (j + 1)) ((2 * n + c1 num : Nat) : Int) = 93 := by rw [rd_drop, L_drop, List.replicate_succ, rd0]
        rw [hw.1, if_neg (show ¬ rd (L num n (j + 1)) ((0 : Nat) : Int) = 93 from hw.2), pels, hw.1, List.drop_zero, ih]
        by_cases hd2 : d + 1 + n + c1 num ≤ 300
        · rw [if_pos hd2, if_pos (by omega)]
          simp only [Nat.zero_add]
          rw [L_drop, ws_93, show 2 * n + c1 num + 0 = 2 * n + c1 num from rfl, h93, if_neg (by decide), if_pos rfl, nv, if_neg e]
          simp only [Option.map_some]
          congr 2
          omega
        · rw [if_neg hd2, if_neg (by omega)]; rfl
    · rw [pval_deep _ _ _ _ (by omega), if_neg (by omega)]
/-- A text without backslashes is left as it is. -/
def Id1 (s : ByteArray) : ByteArray := s
theorem good_nv (num : Bool) : ∀ n, Good Id1 (nv num n)
  | 0 => by
    cases num with
    | true => exact .num [49] (by decide)
    | false => exact .arr [] (by simp) (fun v h => by simp at h)
  | n + 1 => by
    rw [nv]
    split
    · exact .arr [] (by simp) (fun v h => by simp at h)
    · exact .arr _ (by simp) (fun v h => by simp at h; rw [h]; exact good_nv num n)
/-- n objects of one member each, an empty one within, and j braces more behind. -/
def LO : Nat → Nat → List Int
  | 0, j => 123 :: 125 :: List.replicate j 125
  | n + 1, j => 123 :: 34 :: 97 :: 34 :: 58 :: LO n (j + 1)
def ov : Nat → FV
  | 0 => .obj []
  | n + 1 => .obj [([97], ov n)]
theorem LO_len : ∀ n j, (LO n j).length = 6 * n + 2 + j
  | 0, j => by simp [LO]; omega
  | n + 1, j => by simp only [LO, List.length_cons, LO_len n (j + 1)]; omega
theorem LO_drop : ∀ n j, (LO n j).drop (6 * n + 2) = List.replicate j 125
  | 0, j => rfl
  | n + 1, j => by
    have := LO_drop n (j + 1)
    rw [LO, show 6 * (n + 1) + 2 = (6 * n + 2) + 1 + 5 by omega]
    show ((LO n (j + 1)).drop (6 * n + 2 + 1)) = _
    rw [← List.drop_drop, this]
    simp [List.replicate_succ]
theorem ws_125 (j : Nat) : Fj.ws (List.replicate j (125 : Int)) = 0 := by
  cases j with
  | zero => rfl
  | succ j => rw [List.replicate_succ, Fj.ws, if_neg (by decide)]
theorem pval_ob (k d : Nat) (l : List Int) (hd : d + 1 ≤ 300) : pval (k + 1) d (123 :: l) = if rd l (Fj.ws l : Int) = 125 then some (.obj [], Fj.ws l + 2) else (pmems k (d + 1) l).map fun r => (.obj r.1, r.2 + 1) := by
  rw [pval, if_neg (by simp), if_neg (by omega), if_pos (show rd (123 :: l) 0 = 123 from rfl)]
  rfl
theorem LO_head (n j : Nat) : ∃ r, LO n j = 123 :: r := by
  cases n with
  | zero => exact ⟨_, rfl⟩
  | succ n => exact ⟨_, rfl⟩
theorem nestO : ∀ n j k d, 2 * n + 2 ≤ k → pval k d (LO n j) = if d + n + 1 ≤ 300 then some (ov n, 6 * n + 2) else none
  | 0, j, k, d, hk => by
    obtain ⟨k, rfl⟩ : ∃ i, k = i + 1 := ⟨k - 1, by omega⟩
    rw [LO]
    by_cases hd : d + 1 ≤ 300
    · have e2 : Fj.ws (125 :: List.replicate j (125 : Int)) = 0 := ws_cons _ (by decide)
      rw [pval_ob _ _ _ hd, e2, if_pos (by rfl), if_pos (by omega)]
      rfl
    · rw [pval_deep _ _ _ _ (by omega), if_neg (by omega)]
  | n + 1, j, k, d, hk => by
    obtain ⟨k, rfl⟩ : ∃ i, k = i + 1 + 1 := ⟨k - 2, by omega⟩
    rw [LO]
    by_cases hd : d + 1 ≤ 300
    · rw [pval_ob _ _ _ hd]
      have w0 : Fj.ws (34 :: 97 :: 34 :: 58 :: LO n (j + 1)) = 0 := ws_cons _ (by decide)
      rw [w0, if_neg (show ¬ rd (34 :: 97 :: 34 :: 58 :: LO n (j + 1)) ((0 : Nat) : Int) = 125 by show ¬ (34 : Int) = 125; decide), pmems, w0]
      simp only []
      have hq : Fj.qend ((34 :: 97 :: 34 :: 58 :: LO n (j + 1)).drop (0 + 1)) = some 1 := by
        show Fj.qend (97 :: 34 :: 58 :: LO n (j + 1)) = some 1
        rw [Fj.qend_other (by decide) (by decide), Fj.qend_34]; rfl
      rw [if_pos (show rd (34 :: 97 :: 34 :: 58 :: LO n (j + 1)) ((0 : Nat) : Int) = 34 from rfl), hq]
      simp only []
      have w3 : Fj.ws ((34 :: 97 :: 34 :: 58 :: LO n (j + 1)).drop (0 + 1 + (1 + 1))) = 0 := by
        show Fj.ws (58 :: LO n (j + 1)) = 0
        exact ws_cons _ (by decide)
      rw [w3, if_pos (show rd (34 :: 97 :: 34 :: 58 :: LO n (j + 1)) ((0 + 1 + (1 + 1) + 0 : Nat) : Int) = 58 from rfl)]
      have hdr : (34 :: 97 :: 34 :: 58 :: LO n (j + 1)).drop (0 + 1 + (1 + 1) + 0 + 1) = LO n (j + 1) := rfl
      obtain ⟨r, hr⟩ := LO_head n (j + 1)
      have w4 : Fj.ws (LO n (j + 1)) = 0 := by rw [hr]; exact ws_cons _ (by decide)
      rw [hdr, w4, List.drop_zero, nestO n (j + 1) k (d + 1) (by omega)]
      by_cases hd2 : d + 1 + n + 1 ≤ 300
      · rw [if_pos hd2, if_pos (by omega)]
        simp only []
        have hdm : (34 :: 97 :: 34 :: 58 :: LO n (j + 1)).drop (0 + 1 + (1 + 1) + 0 + 1 + 0 + (6 * n + 2)) = List.replicate (j + 1) 125 := by
          rw [show 0 + 1 + (1 + 1) + 0 + 1 + 0 + (6 * n + 2) = (6 * n + 2) + 4 by omega]
          exact LO_drop n (j + 1)
        rw [hdm, ws_125, rd_drop, show 0 + 1 + (1 + 1) + 0 + 1 + 0 + (6 * n + 2) + 0 = 0 + 1 + (1 + 1) + 0 + 1 + 0 + (6 * n + 2) by omega, hdm, List.replicate_succ, rd0, if_neg (by decide), if_pos rfl]
        simp only [Option.map_some, ov]
        congr 2
        omega
      · rw [if_neg hd2, if_neg (by omega)]; rfl
    · rw [pval_deep _ _ _ _ (by omega), if_neg (by omega)]
theorem good_ov : ∀ n, Good Id1 (ov n)
  | 0 => .obj [] (by simp) (fun m h => by simp at h) (fun m h => by simp at h)
  | n + 1 => .obj _ (by simp) (fun m h => by
      simp at h; subst h
      exact plain Id1 (strOfNums [97]) (by decide) (by decide) rfl) (fun m h => by simp at h; subst h; exact good_ov n)
def FjSaid (ok : Bool) (e : Ending) : Prop := ∃ k t A0 m0 c0 A n c, e = .returned (.tuple #[.agg #[.int .i64 k, .string t, .slice A0 m0 c0, .slice A n c], .bool ok])
theorem read_of (a : ByteArray) (hs : a.size ≤ 400000) (hx : Fj.ws (bytesOf a) = 0) (o : Option (FV × Nat)) (hp : pval (2 * a.size + 1) 0 (bytesOf a) = o) (hg : ∀ r, o = some r → Good Id1 r.1 ∧ a.size ≤ r.2) (w : World) :
    Calls Tryd.prog 5 #[.string a] w fun e w' => FjSaid o.isSome e ∧ Below w.heap.size w w' := by
  have hx0 : nx a 0 = 0 := by show 0 + Fj.ws (bytesOf a) = 0; rw [hx]
  have ho : okP a = o.map Prod.fst := by
    unfold okP
    rw [hp]
    cases o with
    | none => rfl
    | some r => simp only []; rw [if_pos (Nat.le_trans (hg r rfl).2 (nx_ge _ _))]; rfl
  refine (read Id1 w a a hs (by rw [hx0, cut_zero]) (fun fv h => ?_)).mono fun e w' h => ⟨?_, h.2⟩
  · rw [ho] at h
    cases o with
    | none => cases h
    | some r => simp only [Option.map_some, Option.some.injEq] at h; rw [← h]; exact (hg r rfl).1
  · obtain ⟨k, t, A0, m0, c0, A, n', c, he⟩ := h.1
    refine ⟨k, t, A0, m0, c0, A, n', c, ?_⟩
    rw [he, ho, Option.isSome_map]
/-- The whole reading, of arrays. -/
theorem readNest (num : Bool) (n : Nat) (hn : 0 < n) (hl : n ≤ 1500) (a : ByteArray) (ha : bytesOf a = L num n 0) (w : World) :
    Calls Tryd.prog 5 #[.string a] w fun e w' => FjSaid (decide (n + c1 num ≤ 300)) e ∧ Below w.heap.size w w' := by
  have hsz : a.size = 2 * n + c1 num := by rw [← bytesOf_length, ha, L_len]; omega
  have hc : c1 num ≤ 1 := by unfold c1; split <;> omega
  obtain ⟨m, rfl⟩ : ∃ m, n = m + 1 := ⟨n - 1, by omega⟩
  have hp : pval (2 * a.size + 1) 0 (bytesOf a) = if m + 1 + c1 num ≤ 300 then some (nv num (m + 1), 2 * (m + 1) + c1 num) else none := by
    rw [ha, nest num (m + 1) 0 (2 * a.size + 1) 0 (.inr hn) (by omega), Nat.zero_add]
  have h := read_of a (by omega) (by rw [ha, L]; exact ws_cons _ (by decide)) _ hp (fun r hr => by
    split at hr
    · injection hr with hr; rw [← hr]; exact ⟨good_nv num (m + 1), by rw [hsz]; exact Nat.le_refl _⟩
    · cases hr) w
  have e : (if m + 1 + c1 num ≤ 300 then some (nv num (m + 1), 2 * (m + 1) + c1 num) else none).isSome = decide (m + 1 + c1 num ≤ 300) := by
    by_cases h : m + 1 + c1 num ≤ 300
    · rw [if_pos h, decide_eq_true h]; rfl
    · rw [if_neg h, decide_eq_false h]; rfl
  rwa [e] at h
/-- The whole reading, of objects. -/
theorem readNestO (n : Nat) (hl : n ≤ 1500) (a : ByteArray) (ha : bytesOf a = LO n 0) (w : World) :
    Calls Tryd.prog 5 #[.string a] w fun e w' => FjSaid (decide (n + 1 ≤ 300)) e ∧ Below w.heap.size w w' := by
  have hsz : a.size = 6 * n + 2 := by rw [← bytesOf_length, ha, LO_len]
  have hp : pval (2 * a.size + 1) 0 (bytesOf a) = if n + 1 ≤ 300 then some (ov n, 6 * n + 2) else none := by
    rw [ha, nestO n 0 (2 * a.size + 1) 0 (by omega), Nat.zero_add]
  have h := read_of a (by omega) (by obtain ⟨r, hr⟩ := LO_head n 0; rw [ha, hr]; exact ws_cons _ (by decide)) _ hp (fun r hr => by
    split at hr
    · injection hr with hr; rw [← hr]; exact ⟨good_ov n, by rw [hsz]; exact Nat.le_refl _⟩
    · cases hr) w
  have e : (if n + 1 ≤ 300 then some (ov n, 6 * n + 2) else none).isSome = decide (n + 1 ≤ 300) := by
    by_cases h : n + 1 ≤ 300
    · rw [if_pos h, decide_eq_true h]; rfl
    · rw [if_neg h, decide_eq_false h]; rfl
  rwa [e] at h
end Go.Proofs.YtjfofbgnppdlgaaDoor.Fp
