/- Proved: errors.New and fastjson's skipWS, as they are called.
   Numbers as fastjson's Validate takes them, at places of the text; and validateNumber walked.
   The first of a byte in a text; the closing quote by the backslashes ahead of the first quotation mark.
   Proved: fastjson's parseRawString, as it is called.
   Proved: strconv.ParseUint of four bytes at base 16, as it is called: an error just if one is no hexadecimal digit.
   Proved: strconv.ParseUint of four bytes at base 16; fastjson's validateString, as they are called.
   Proved: fastjson's validateString, as it is called. -/
import Derived.Test.YtjnfdgibogbgiaaDoorProg
import Derived.Test.YtjnfdgibogbgiaaDoorFjA
import Derived.Below
import Derived.Deep.Draws
import Derived.Deep.LoopGhost
import Derived.Deep.QuietTactic
import Derived.BigQuiet
import Derived.WideLaws
import Derived.Deep.DeepCutAuto
import Derived.Deep.CutBlock
import Derived.Deep.RegionHeld3
import Derived.Laws.Rows
import Derived.OrdersHeld
import Derived.Test.YtjnfdgibogbgiaaDoorWWords
import Derived.Test.YtjnfdgibogbgiaaDoorWLast
import Derived.Test.YtjnfdgibogbgiaaDoorWTab
import Derived.Test.YtjnfdgibogbgiaaDoorWFour
import Derived.Test.YtjnfdgibogbgiaaDoorWAt
import Derived.Test.YtjnfdgibogbgiaaDoorWNEv
import Derived.Test.YtjnfdgibogbgiaaDoorWMore
import Derived.Test.YtjnfdgibogbgiaaDoorIdxStr
import Derived.Lib.IndexLaws
import Derived.Test.YtjnfdgibogbgiaaDoorGlobFj
import Derived.Test.YtjnfdgibogbgiaaDoorToErr
import Derived.Lib.ConvBytes
import Derived.BigGuard
namespace Go.Proofs.YtjnfdgibogbgiaaDoor.FjW
open Go.RowKit Go.Proofs.YtjnfdgibogbgiaaDoorW.PrintWords Go.Proofs.YtjnfdgibogbgiaaDoorW.PrintLast Go.Proofs.YtjnfdgibogbgiaaDoorW.PrintMore
attribute [local go_sem] max2_int min2_int max_two min_two max_three min_three max_four min_four
set_option linter.unusedVariables false
set_option linter.unusedSimpArgs false

/-- A text from its byte m on. -/
abbrev cut (a : ByteArray) (m : Nat) : ByteArray := a.extract m a.size
theorem bt_out (s : ByteArray) (i : Int) (h : s.size ≤ i) : bt s i = 0 := by
  rw [← rd_bytesOf]
  exact Base.rd_out _ _ (by rw [bytesOf_length]; omega)
theorem cut_bytes (a : ByteArray) (m : Nat) : bytesOf (cut a m) = (bytesOf a).drop m := by
  unfold bytesOf
  rw [ByteArray.data_extract, Array.toList_extract, List.extract_eq_take_drop, ← List.map_drop, List.take_of_length_le (by rw [List.length_drop, data_length]; omega)]
theorem cut_size (a : ByteArray) (m : Nat) : (cut a m).size = a.size - m := by
  rw [← bytesOf_length, cut_bytes, List.length_drop, bytesOf_length]
theorem cut_zero (a : ByteArray) : cut a 0 = a := Base.bytes_inj (by rw [cut_bytes, List.drop_zero])
theorem cut_cut (a : ByteArray) (m n : Nat) : cut (cut a m) n = cut a (m + n) := Base.bytes_inj (by rw [cut_bytes, cut_bytes, cut_bytes, List.drop_drop])
theorem cut_end (a : ByteArray) (m : Nat) (h : a.size ≤ m) : cut a m = ⟨#[]⟩ := Base.bytes_inj (by rw [cut_bytes, List.drop_of_length_le (by rw [bytesOf_length]; exact h)]; rfl)
/-- The bytes of s from p on. -/
abbrev D (s : ByteArray) (p : Nat) : List Int := (bytesOf s).drop p
theorem cut_D (a : ByteArray) (m p : Nat) : D (cut a m) p = D a (m + p) := by rw [D, cut_bytes, List.drop_drop]
theorem rd_D (s : ByteArray) (p j : Nat) : rd (D s p) (j : Int) = bt s ((p + j : Nat) : Int) := by
  rw [← rd_bytesOf]
  unfold rd
  simp only [Int.toNat_natCast, List.getD_eq_getElem?_getD, List.getElem?_drop]
theorem rd_D0 (s : ByteArray) (p : Nat) : rd (D s p) 0 = bt s (p : Int) := rd_D s p 0
theorem cut_bt (a : ByteArray) (m j : Nat) : bt (cut a m) (j : Int) = bt a ((m + j : Nat) : Int) := by
  rw [← rd_bytesOf, cut_bytes, rd_D]
theorem D_cons (s : ByteArray) (p : Nat) (h : p < s.size) : D s p = bt s (p : Int) :: D s (p + 1) := by
  have hl : p < (bytesOf s).length := by rw [bytesOf_length]; exact h
  have e : (bytesOf s)[p]'hl = bt s (p : Int) := by
    rw [← rd_bytesOf]
    unfold rd
    simp only [Int.toNat_natCast, List.getD_eq_getElem?_getD]
    rw [List.getElem?_eq_getElem hl]
    rfl
  rw [← e]
  exact List.drop_eq_getElem_cons hl
theorem D_nil (s : ByteArray) (p : Nat) (h : s.size ≤ p) : D s p = [] := List.drop_of_length_le (by rw [bytesOf_length]; exact h)
theorem D_drop (s : ByteArray) (p m : Nat) : (D s p).drop m = D s (p + m) := by rw [List.drop_drop]
theorem D_len (s : ByteArray) (p : Nat) : (D s p).length = s.size - p := by rw [List.length_drop, bytesOf_length]
theorem ws_at (s : ByteArray) (p : Nat) : Fj.ws (D s p) = if p < s.size ∧ Fj.blank (bt s (p : Int)) = true then Fj.ws (D s (p + 1)) + 1 else 0 := by
  by_cases h : p < s.size
  · rw [D_cons s p h, Fj.ws]
    by_cases b : Fj.blank (bt s (p : Int)) = true
    · rw [if_pos b, if_pos ⟨h, b⟩]
    · rw [if_neg b, if_neg (fun x => b x.2)]
  · rw [D_nil s p (by omega), if_neg (fun x => h x.1)]; rfl
theorem blank_no {c : Int} (h1 : (c == 32) = false) (h2 : (c == 10) = false) (h3 : (c == 9) = false) (h4 : (c == 13) = false) : Fj.blank c = false := by
  unfold Fj.blank; rw [h1, h2, h3, h4]; rfl
/-- A byte is one of the four blanks, or none. -/
theorem blank_or (c : Int) : (c = 32 ∧ Fj.blank c = true) ∨ ((c != 32) = true ∧ c = 10 ∧ Fj.blank c = true) ∨ ((c != 32) = true ∧ (c != 10) = true ∧ c = 9 ∧ Fj.blank c = true) ∨
    ((c != 32) = true ∧ (c != 10) = true ∧ (c != 9) = true ∧ c = 13 ∧ Fj.blank c = true) ∨ ((c != 32) = true ∧ (c != 10) = true ∧ (c != 9) = true ∧ (c != 13) = true ∧ Fj.blank c = false) := by
  by_cases a : c = 32
  · subst a; exact .inl ⟨rfl, rfl⟩
  · by_cases b : c = 10
    · subst b; exact .inr (.inl ⟨bne_iff_ne.mpr a, rfl, rfl⟩)
    · by_cases d : c = 9
      · subst d; exact .inr (.inr (.inl ⟨bne_iff_ne.mpr a, bne_iff_ne.mpr b, rfl, rfl⟩))
      · by_cases e : c = 13
        · subst e; exact .inr (.inr (.inr (.inl ⟨bne_iff_ne.mpr a, bne_iff_ne.mpr b, bne_iff_ne.mpr d, rfl, rfl⟩)))
        · exact .inr (.inr (.inr (.inr ⟨bne_iff_ne.mpr a, bne_iff_ne.mpr b, bne_iff_ne.mpr d, bne_iff_ne.mpr e, blank_no (beq_eq_false_iff_ne.mpr a) (beq_eq_false_iff_ne.mpr b) (beq_eq_false_iff_ne.mpr d) (beq_eq_false_iff_ne.mpr e)⟩)))
/-- An error: some value that is not nil. -/
def Err (v : Value) : Prop := ∃ T u, v = .iface T u
set_option maxHeartbeats 1000000 in
theorem errNew (t : ByteArray) (w : World) :
    Calls Tryd.prog 17 #[.string t] w fun e w' => (∃ T u, e = .returned (.iface T u)) ∧ Below w.heap.size w w' := by
  have HB := Aside0.mk (Below.refl w.heap.size w)
  go_enter Tryd.func17, Tryd.ntmps17
  go_wp2
  go_ret
  exact ⟨⟨_, _, rfl⟩, below_alloc (Below.refl _ _) _⟩
set_option maxHeartbeats 2000000 in
theorem skipSlow (a : ByteArray) (hs : a.size ≤ 1000000) (w : World) :
    Calls Tryd.prog 33 #[.string a] w fun e w' => e = .returned (.string (cut a (Fj.ws (bytesOf a)))) ∧ w' = w := by
  have HS := Aside0.mk hs
  by_cases h0 : a.size = 0
  · have HC : Aside0 (cut a (Fj.ws (bytesOf a)) = a) := ⟨by
      have : Fj.ws (bytesOf a) = 0 := by
        have := Fj.ws_le (bytesOf a)
        rw [bytesOf_length] at this
        omega
      rw [this, cut_zero]⟩
    have e1 : ((a.size : Int) == 0) = true := beq_iff_eq.mpr (by omega)
    clear h0 hs
    go_enter Tryd.func33, Tryd.ntmps33
    go_wp2
    go_ret
    exact ⟨by rw [HC.out]; rfl, rfl⟩
  · have e1 : ((a.size : Int) == 0) = false := beq_eq_false_iff_ne.mpr (by omega)
    have hz : 0 < a.size := by omega
    clear h0
    have W0 : Fj.ws (bytesOf a) = if 0 < a.size ∧ Fj.blank (bt a 0) = true then Fj.ws (D a 1) + 1 else 0 := ws_at a 0
    have hx : ∀ h : 0 < a.size, ((a[0]'h).toNat : Int) = bt a 0 := bt_at a 0
    rcases blank_or (bt a 0) with ⟨f1, hb⟩ | ⟨f1, f2, hb⟩ | ⟨f1, f2, f3, hb⟩ | ⟨f1, f2, f3, f4, hb⟩ | ⟨f1, f2, f3, f4, hb⟩
    rotate_right 1
    · have HC : Aside0 (cut a (Fj.ws (bytesOf a)) = a) := ⟨by
        rw [W0, if_neg (by rw [hb]; simp), cut_zero]⟩
      clear W0 hb
      go_enter Tryd.func33, Tryd.ntmps33
      go_wp2
      go_ret
      exact ⟨by rw [HC.out]; rfl, rfl⟩
    all_goals
      have HW : Aside0 (Fj.ws (bytesOf a) = 1 + Fj.ws (D a 1)) := ⟨by
        rw [W0, if_pos ⟨hz, hb⟩]; omega⟩
      clear W0 hb
      go_enter Tryd.func33, Tryd.ntmps33
      go_wp2
      clear hx
      go_loop [3] (fun v => ∃ j : Nat, v = .int .i64 (j : Int) ∧ 1 ≤ j ∧ j ≤ a.size ∧ Aside0 (Fj.ws (bytesOf a) = j + Fj.ws (D a j))) (fun v => a.size - (intOf v).toNat)
      case atStart => exact ⟨1, rfl, Nat.le_refl _, by omega, HW⟩
      case round =>
        clear HW
        clear f1
        obtain ⟨j, rfl, hj1, hj2, HW⟩ := hrel
        by_cases hlt : j < a.size
        · have hx : ∀ h : j < a.size, ((a[j]'h).toNat : Int) = bt a (j : Int) := bt_at a (j : Int)
          have W1 := ws_at a j
          rcases blank_or (bt a (j : Int)) with ⟨g1, hb⟩ | ⟨g1, g2, hb⟩ | ⟨g1, g2, g3, hb⟩ | ⟨g1, g2, g3, g4, hb⟩ | ⟨g1, g2, g3, g4, hb⟩
          rotate_right 1
          · have HC : Aside0 (Fj.ws (bytesOf a) = j) := ⟨by rw [HW.out, W1, if_neg (by rw [hb]; simp), Nat.add_zero]⟩
            clear W1 hb
            go_wp2
            go_ret
            exact ⟨by rw [HC.out]; rfl, rfl⟩
          all_goals
            have HW' : Aside0 (Fj.ws (bytesOf a) = j + 1 + Fj.ws (D a (j + 1))) := ⟨by rw [HW.out, W1, if_pos ⟨hlt, hb⟩]; omega⟩
            clear W1 hb HW
            go_wp2
            go_round
            case rel => exact ⟨j + 1, by go_num, by omega, by omega, HW'⟩
            case measure => simp [intOf]; omega
        · have HC : Aside0 (cut a (Fj.ws (bytesOf a)) = ⟨#[]⟩) := ⟨by rw [HW.out]; exact cut_end a _ (by omega)⟩
          obtain rfl : j = a.size := by omega
          clear hlt HW
          go_wp2
          go_ret
          exact ⟨by rw [HC.out]; rfl, rfl⟩
theorem skipWS (a : ByteArray) (hs : a.size ≤ 1000000) (w : World) :
    Calls Tryd.prog 26 #[.string a] w fun e w' => e = .returned (.string (cut a (Fj.ws (bytesOf a)))) ∧ w' = w := by
  have HS := Aside0.mk hs
  by_cases h0 : a.size = 0
  · have e1 : ((a.size : Int) == 0) = true := beq_iff_eq.mpr (by omega)
    have HC : Aside0 (cut a (Fj.ws (bytesOf a)) = a) := ⟨by
      have : Fj.ws (bytesOf a) = 0 := by
        have := Fj.ws_le (bytesOf a)
        rw [bytesOf_length] at this
        omega
      rw [this, cut_zero]⟩
    clear h0 hs
    go_enter Tryd.func26, Tryd.ntmps26
    go_wp2
    go_ret
    exact ⟨by rw [HC.out]; rfl, rfl⟩
  · have e1 : ((a.size : Int) == 0) = false := beq_eq_false_iff_ne.mpr (by omega)
    have hz : 0 < a.size := by omega
    clear h0
    have W0 : Fj.ws (bytesOf a) = if 0 < a.size ∧ Fj.blank (bt a 0) = true then Fj.ws (D a 1) + 1 else 0 := ws_at a 0
    have hx : ∀ h : 0 < a.size, ((a[0]'h).toNat : Int) = bt a 0 := bt_at a 0
    by_cases c : 32 < bt a 0
    · have e2 : decide (32 < bt a 0) = true := decide_eq_true c
      have HC : Aside0 (cut a (Fj.ws (bytesOf a)) = a) := ⟨by
        have hb : Fj.blank (bt a 0) = false := blank_no (beq_eq_false_iff_ne.mpr (by omega)) (beq_eq_false_iff_ne.mpr (by omega)) (beq_eq_false_iff_ne.mpr (by omega)) (beq_eq_false_iff_ne.mpr (by omega))
        rw [W0, if_neg (by rw [hb]; simp), cut_zero]⟩
      clear W0 c
      go_enter Tryd.func26, Tryd.ntmps26
      go_wp2
      go_ret
      exact ⟨by rw [HC.out]; rfl, rfl⟩
    · have e2 : decide (32 < bt a 0) = false := decide_eq_false c
      clear W0 c
      go_enter Tryd.func26, Tryd.ntmps26
      go_wp2_with (first | (go_at_call 33; (with_reducible refine (skipSlow a HS.out _).mono ?_); rintro e w' ⟨rfl, rfl⟩))
      go_ret
      exact ⟨rfl, rfl⟩
end Go.Proofs.YtjnfdgibogbgiaaDoor.FjW
namespace Go.Proofs.YtjnfdgibogbgiaaDoor.FjW
open Go.RowKit Go.Proofs.YtjnfdgibogbgiaaDoorW.PrintWords Go.Proofs.YtjnfdgibogbgiaaDoorW.PrintLast Go.Proofs.YtjnfdgibogbgiaaDoorW.PrintMore
attribute [local go_sem] max2_int min2_int max_two min_two max_three min_three max_four min_four
set_option linter.unusedVariables false
set_option linter.unusedSimpArgs false

section
variable {s : ByteArray}
theorem digs_at (s : ByteArray) (p : Nat) : Fj.digs (D s p) = if 48 ≤ bt s (p : Int) ∧ bt s (p : Int) ≤ 57 then Fj.digs (D s (p + 1)) + 1 else 0 := by
  by_cases h : p < s.size
  · rw [D_cons s p h, Fj.digs]
  · rw [D_nil s p (by omega), bt_out s p (by omega), if_neg (by omega)]; rfl
theorem digs_size (p : Nat) : p ≤ s.size → p + Fj.digs (D s p) ≤ s.size := fun h => by
  have := Fj.digs_le (D s p)
  rw [D_len] at this
  omega
/-- A number's end: behind the letter, behind the fraction, behind the whole part. -/
def eE (s : ByteArray) (p : Nat) : Option Nat :=
  if bt s (p : Int) = 43 ∨ bt s (p : Int) = 45 then (if Fj.digs (D s (p + 1)) = 0 then none else some (p + 1 + Fj.digs (D s (p + 1)))) else (if Fj.digs (D s p) = 0 then none else some (p + Fj.digs (D s p)))
def eX (s : ByteArray) (p : Nat) : Option Nat := if bt s (p : Int) = 101 ∨ bt s (p : Int) = 69 then eE s (p + 1) else some p
def eF (s : ByteArray) (p : Nat) : Option Nat := if bt s (p : Int) = 46 then (if Fj.digs (D s (p + 1)) = 0 then none else eX s (p + 1 + Fj.digs (D s (p + 1)))) else eX s p
def eW (s : ByteArray) (p : Nat) : Option Nat := if Fj.digs (D s p) = 0 then none else if bt s (p : Int) = 48 ∧ Fj.digs (D s p) ≠ 1 then none else eF s (p + Fj.digs (D s p))
def eN (s : ByteArray) (p : Nat) : Option Nat := if bt s (p : Int) = 45 then eW s (p + 1) else eW s p
theorem expo_eq (a m : Nat) : (Fj.expo (D s a) m).map (a + ·) = eX s (a + m) := by
  unfold Fj.expo eX eE
  simp only [rd_D, D_drop]
  have e1 : a + (m + 1) = a + m + 1 := by omega
  have e2 : a + (m + 2) = a + m + 1 + 1 := by omega
  rw [e1, e2]
  by_cases c : bt s ((a + m : Nat) : Int) = 101 ∨ bt s ((a + m : Nat) : Int) = 69
  · rw [if_pos c, if_pos c]
    by_cases d : bt s ((a + m + 1 : Nat) : Int) = 45 ∨ bt s ((a + m + 1 : Nat) : Int) = 43
    · rw [if_pos d, if_pos d.symm]
      by_cases z : Fj.digs (D s (a + m + 1 + 1)) = 0
      · rw [if_pos z, if_pos z]; rfl
      · rw [if_neg z, if_neg z]
        simp only [Option.map_some]
        congr 1; omega
    · have d' : ¬ (bt s ((a + m + 1 : Nat) : Int) = 43 ∨ bt s ((a + m + 1 : Nat) : Int) = 45) := fun x => d x.symm
      rw [if_neg d, if_neg d']
      by_cases z : Fj.digs (D s (a + m + 1)) = 0
      · rw [if_pos z, if_pos z]; rfl
      · rw [if_neg z, if_neg z]
        simp only [Option.map_some]
        congr 1; omega
  · rw [if_neg c, if_neg c]; rfl
theorem frac_eq (a m : Nat) : (Fj.frac (D s a) m).map (a + ·) = eF s (a + m) := by
  unfold Fj.frac eF
  simp only [rd_D, D_drop]
  have e1 : a + (m + 1) = a + m + 1 := by omega
  rw [e1]
  by_cases c : bt s ((a + m : Nat) : Int) = 46
  · rw [if_pos c, if_pos c]
    by_cases z : Fj.digs (D s (a + m + 1)) = 0
    · rw [if_pos z, if_pos z]; rfl
    · rw [if_neg z, if_neg z, expo_eq]
      congr 1; omega
  · rw [if_neg c, if_neg c]; exact expo_eq a m
theorem whole_eq (a m : Nat) : (Fj.whole (D s a) m).map (a + ·) = eW s (a + m) := by
  unfold Fj.whole eW
  simp only [rd_D, D_drop]
  by_cases z : Fj.digs (D s (a + m)) = 0
  · rw [if_pos z, if_pos z]; rfl
  · rw [if_neg z, if_neg z]
    by_cases y : bt s ((a + m : Nat) : Int) = 48 ∧ Fj.digs (D s (a + m)) ≠ 1
    · rw [if_pos y, if_pos y]; rfl
    · rw [if_neg y, if_neg y, frac_eq]
      congr 1; omega
theorem num_eq (a : Nat) : (Fj.num (D s a)).map (a + ·) = eN s a := by
  unfold Fj.num eN
  rw [rd_D0]
  by_cases c : bt s (a : Int) = 45
  · rw [if_pos c, if_pos c]; exact whole_eq a 1
  · rw [if_neg c, if_neg c]; exact whole_eq a 0
theorem eW_none {p : Nat} (h : Fj.digs (D s p) = 0) : eW s p = none := if_pos h
theorem digs_out {p : Nat} (h : s.size ≤ p) : Fj.digs (D s p) = 0 := by rw [D_nil s p h]; rfl
theorem eN_out {p : Nat} (h : s.size ≤ p) : eN s p = none := by
  have hz : bt s ((p : Nat) : Int) = 0 := bt_out s _ (by omega)
  unfold eN
  rw [if_neg (by rw [hz]; decide), eW_none (digs_out h)]
theorem eX_end : eX s s.size = some s.size := by
  have hz : bt s ((s.size : Nat) : Int) = 0 := bt_out s _ (by omega)
  unfold eX
  rw [hz, if_neg (by decide)]
theorem eF_end : eF s s.size = some s.size := by
  have hz : bt s ((s.size : Nat) : Int) = 0 := bt_out s _ (by omega)
  unfold eF
  rw [hz, if_neg (by decide), eX_end]
theorem eE_out {p : Nat} (h : s.size ≤ p) : eE s p = none := by
  have hz : bt s ((p : Nat) : Int) = 0 := bt_out s _ (by omega)
  unfold eE
  rw [hz, if_neg (by decide), if_pos (digs_out h)]
theorem num_eq0 : Fj.num (bytesOf s) = eN s 0 := by
  have h : (Fj.num (D s 0)).map (0 + ·) = eN s 0 := num_eq 0
  rw [show D s 0 = bytesOf s from List.drop_zero] at h
  rw [← h]
  cases Fj.num (bytesOf s) <;> simp
end
/-- What a function that checks answers: the text behind what it took, or an error. -/
def Said (a : ByteArray) (o : Option Nat) (e : Ending) : Prop := match o with
  | some m => e = .returned (.tuple #[.string (cut a m), .nilIface])
  | none => ∃ t T u, e = .returned (.tuple #[.string t, .iface T u])
theorem said_none {a : ByteArray} {o : Option Nat} {e : Ending} (h : o = none) (t : ByteArray) (T : TypeId) (u : Value) (he : e = .returned (.tuple #[.string t, .iface T u])) : Said a o e := by
  subst h; exact ⟨t, T, u, he⟩
theorem said_some {a t : ByteArray} {o : Option Nat} {e : Ending} {m : Nat} (h : o = some m) (ht : t = cut a m) (he : e = .returned (.tuple #[.string t, .nilIface])) : Said a o e := by
  subst h; subst ht; exact he
-- WALK (printed by wip/ext/mk_fjnum.py)
set_option maxHeartbeats 8000000 in
set_option maxRecDepth 100000 in
theorem number (a : ByteArray) (hs : a.size ≤ 1000000) (w : World) :
    Calls Tryd.prog 21 #[.string a] w fun e w' => Said a (Fj.num (bytesOf a)) e ∧ Below w.heap.size w w' := by
  rw [num_eq0]
  by_cases h0 : a.size = 0
  · have HC : Aside0 (eN a 0 = none) := ⟨eN_out (by omega)⟩
    have e1 : ((a.size : Int) == 0) = true := beq_iff_eq.mpr (by omega)
    clear h0 hs
    go_enter Tryd.func21, Tryd.ntmps21
    go_wp2_with (first | (go_at_call 17; (with_reducible refine (errNew _ _).mono ?_); rintro e w' ⟨⟨T, u, rfl⟩, hb⟩))
    go_ret2
    exact ⟨said_none HC.out _ T u rfl, hb⟩
  · have e1 : ((a.size : Int) == 0) = false := beq_eq_false_iff_ne.mpr (by omega)
    have hz : 0 < a.size := by omega
    have hx : ∀ h : 0 < a.size, ((a[0]'h).toNat : Int) = bt a 0 := bt_at a 0
    have HZ := Aside0.mk hz
    have HS := Aside0.mk hs
    clear h0 hs
    go_enter Tryd.func21, Tryd.ntmps21
    go_upto_if 12 with (fail)
    go_cut [0] (fun v0 wc => ∃ (b : ByteArray) (q : Nat), v0 = .string b ∧ Aside0 (b = cut a q ∧ q < a.size ∧ eN a 0 = eW a q) ∧ w = wc)
    case first =>
      by_cases c : bt a 0 = 45
      · obtain ⟨b, hb⟩ : ∃ b, a.extract 1 a.size = b := ⟨_, rfl⟩
        have hsz : b.size = a.size - 1 := by rw [← hb]; exact cut_size a 1
        have HN : Aside0 (eN a 0 = eW a 1) := ⟨if_pos c⟩
        have c' : (bt a 0 == 45) = true := beq_iff_eq.mpr c
        by_cases c1 : b.size = 0
        · have e2 : ((b.size : Int) == 0) = true := beq_iff_eq.mpr (by omega)
          have HC : Aside0 (eN a 0 = none) := ⟨by rw [HN.out]; exact eW_none (digs_out (by omega))⟩
          clear c HN hsz c1
          go_wp2_with (first | (go_at_call 17; (with_reducible refine (errNew _ _).mono ?_); rintro e w' ⟨⟨T, u, rfl⟩, hb⟩))
          go_ret2
          exact ⟨said_none HC.out _ T u rfl, hb⟩
        · have e2 : ((b.size : Int) == 0) = false := beq_eq_false_iff_ne.mpr (by omega)
          have HQ : Aside0 (b = cut a 1 ∧ 1 < a.size ∧ eN a 0 = eW a 1) := ⟨hb.symm, by omega, HN.out⟩
          clear c HN hsz c1
          go_wp2
          go_meet
          case rel => exact ⟨b, 1, rfl, HQ, rfl⟩
      · have c' : (bt a 0 == 45) = false := beq_eq_false_iff_ne.mpr c
        have HQ : Aside0 (a = cut a 0 ∧ 0 < a.size ∧ eN a 0 = eW a 0) := ⟨(cut_zero a).symm, hz, if_neg c⟩
        clear c
        go_wp2
        go_meet
        case rel => exact ⟨a, 0, rfl, HQ, rfl⟩
    case rest =>
      clear hx e1 hz
      obtain ⟨b, q, rfl, HQ, rfl⟩ := hcut
      have hbs : b.size ≤ 1000000 := by have := HS.out; rw [HQ.out.1, cut_size]; omega
      have HBS := Aside0.mk hbs
      go_upto_block 0 with (fail)
      go_cut [4] (fun v4 wc => ∃ d : Nat, v4 = .int .i64 (d : Int) ∧ Aside0 (Fj.digs (D b 0) = d) ∧ w = wc)
      case first =>
        go_wp2_with (fail)
        go_loop [4] (fun v => ∃ j : Nat, v = .int .i64 (j : Int) ∧ j ≤ b.size ∧ Aside0 (Fj.digs (D b 0) = j + Fj.digs (D b j))) (fun v => b.size - (intOf v).toNat)
        case atStart => exact ⟨0, rfl, Nat.zero_le _, ⟨(Nat.zero_add _).symm⟩⟩
        case round =>
          obtain ⟨j, rfl, hj, HD⟩ := hrel
          by_cases hlt : j < b.size
          · have hx : ∀ h : j < b.size, ((b[j]'h).toNat : Int) = bt b (j : Int) := bt_at b (j : Int)
            have hd := digs_at b j
            by_cases c1 : bt b (j : Int) < 48
            · have e2 : decide (bt b (j : Int) < 48) = true := decide_eq_true c1
              have HJ : Aside0 (Fj.digs (D b 0) = j) := ⟨by rw [HD.out, hd, if_neg (by omega)]; rfl⟩
              clear c1 hd HD
              go_wp2
              go_meet
              case rel => exact ⟨_, rfl, HJ, rfl⟩
            · have e2 : decide (bt b (j : Int) < 48) = false := decide_eq_false c1
              by_cases c2 : 57 < bt b (j : Int)
              · have e3 : decide (57 < bt b (j : Int)) = true := decide_eq_true c2
                have HJ : Aside0 (Fj.digs (D b 0) = j) := ⟨by rw [HD.out, hd, if_neg (by omega)]; rfl⟩
                clear c1 c2 hd HD
                go_wp2
                go_meet
                case rel => exact ⟨_, rfl, HJ, rfl⟩
              · have e3 : decide (57 < bt b (j : Int)) = false := decide_eq_false c2
                have HJ : Aside0 (Fj.digs (D b 0) = j + 1 + Fj.digs (D b (j + 1))) := ⟨by rw [HD.out, hd, if_pos (by omega)]; omega⟩
                clear c1 c2 hd HD
                go_wp2
                go_round
                case rel => exact ⟨j + 1, by go_num, by omega, HJ⟩
                case measure => simp [intOf]; omega
          · have HJ : Aside0 (Fj.digs (D b 0) = j) := ⟨by rw [HD.out, digs_out (by omega)]; rfl⟩
            obtain rfl : j = b.size := by omega
            clear hlt HD
            go_wp2
            go_meet
            case rel => exact ⟨_, rfl, HJ, rfl⟩
      case rest =>
        obtain ⟨d, rfl, HD, rfl⟩ := hcut
        have HDa : Aside0 (Fj.digs (D a q) = d) := ⟨by have := HD.out; rw [HQ.out.1, cut_D, Nat.add_zero] at this; exact this⟩
        have HBsz : Aside0 (b.size = a.size - q) := ⟨by rw [HQ.out.1]; exact cut_size a q⟩
        have hz : 0 < b.size := by have := HQ.out.2.1; have := HBsz.out; omega
        have hx : ∀ h : 0 < b.size, ((b[0]'h).toNat : Int) = bt b 0 := bt_at b 0
        have HB0 : Aside0 (bt b 0 = bt a q) := ⟨by rw [HQ.out.1]; exact cut_bt a q 0⟩
        have hdle : d ≤ b.size := by have h := digs_size (s := b) (p := 0) (Nat.zero_le _); rw [HD.out] at h; omega
        clear HD
        by_cases c1 : d = 0
        · have HC : Aside0 (eN a 0 = none) := ⟨by rw [HQ.out.2.2]; exact eW_none (by rw [HDa.out, c1])⟩
          subst c1
          go_wp2_with (first | (go_at_call 17; (with_reducible refine (errNew _ _).mono ?_); rintro e w' ⟨⟨T, u, rfl⟩, hb⟩))
          go_ret2
          exact ⟨said_none HC.out _ T u rfl, hb⟩
        · have e1 : decide ((d : Int) ≤ 0) = false := decide_eq_false (by omega)
          go_upto_region 13 with (fail)
          go_cut [46] (fun v46 wc => v46 = .bool (decide (bt a q = 48 ∧ d ≠ 1)) ∧ w = wc)
          case first =>
            by_cases c2 : bt b 0 = 48
            · have e2 : (bt b 0 == 48) = true := beq_iff_eq.mpr c2
              by_cases c3 : d = 1
              · have HC : Aside0 (decide (bt a q = 48 ∧ d ≠ 1) = false) := ⟨decide_eq_false fun h => h.2 c3⟩
                have e3 : ((d : Int) != 1) = false := by rw [c3]; rfl
                clear c2
                go_wp2
                go_meet
                case rel => exact ⟨by rw [HC.out], rfl⟩
              · have HC : Aside0 (decide (bt a q = 48 ∧ d ≠ 1) = true) := ⟨decide_eq_true ⟨HB0.out.symm.trans c2, c3⟩⟩
                have e3 : ((d : Int) != 1) = true := bne_iff_ne.mpr (by omega)
                clear c2
                go_wp2
                go_meet
                case rel => exact ⟨by rw [HC.out], rfl⟩
            · have e2 : (bt b 0 == 48) = false := beq_eq_false_iff_ne.mpr c2
              have HC : Aside0 (decide (bt a q = 48 ∧ d ≠ 1) = false) := ⟨decide_eq_false fun h => c2 (HB0.out.trans h.1)⟩
              clear c2
              go_wp2
              go_meet
              case rel => exact ⟨by rw [HC.out], rfl⟩
          case rest =>
            obtain ⟨rfl, rfl⟩ := hcut
            by_cases c5 : bt a q = 48 ∧ d ≠ 1
            · have e5 : decide (bt a q = 48 ∧ d ≠ 1) = true := decide_eq_true c5
              have HC : Aside0 (eN a 0 = none) := ⟨by
                rw [HQ.out.2.2]
                unfold eW
                rw [HDa.out, if_neg c1, if_pos c5]⟩
              rw [e5]
              clear c5 e5
              go_wp2_with (first | (go_at_call 17; (with_reducible refine (errNew _ _).mono ?_); rintro e w' ⟨⟨T, u, rfl⟩, hb⟩))
              go_ret2
              exact ⟨said_none HC.out _ T u rfl, hb⟩
            · have e5 : decide (bt a q = 48 ∧ d ≠ 1) = false := decide_eq_false c5
              have HF : Aside0 (eN a 0 = eF a (q + d)) := ⟨by
                rw [HQ.out.2.2]
                unfold eW
                rw [HDa.out, if_neg c1, if_neg c5]⟩
              rw [e5]
              clear c5 e5
              clear hx hz HB0 HDa
              by_cases c2 : b.size ≤ d
              · have e2 : decide ((b.size : Int) ≤ (d : Int)) = true := decide_eq_true (by omega)
                have HC : Aside0 (eN a 0 = some a.size) := ⟨by
                  have := HQ.out.2.1
                  have := HBsz.out
                  rw [HF.out, show q + d = a.size from by omega]
                  exact eF_end⟩
                go_wp2
                go_ret2
                exact ⟨said_some HC.out (cut_end a _ (Nat.le_refl _)).symm rfl, Below.refl _ _⟩
              · have e2 : decide ((b.size : Int) ≤ (d : Int)) = false := decide_eq_false (by omega)
                have hdl : d < b.size := by omega
                have hx : ∀ h : d < b.size, ((b[d]'h).toNat : Int) = bt b (d : Int) := bt_at b (d : Int)
                have HB0 : Aside0 (bt b (d : Int) = bt a ((q + d : Nat) : Int)) := ⟨by rw [HQ.out.1]; exact cut_bt a q d⟩
                clear c2
                go_upto_if 56 with (fail)
                go_cut [0, 4] (fun v0 v4 wc => ∃ (b : ByteArray) (q d : Nat), v0 = .string b ∧ v4 = .int .i64 (d : Int) ∧ Aside0 (b = cut a q ∧ q + d < a.size ∧ d < b.size ∧ eN a 0 = eX a (q + d)) ∧ w = wc)
                case first =>
                  by_cases c3 : bt b (d : Int) = 46
                  · have e3 : (bt b (d : Int) == 46) = true := beq_iff_eq.mpr c3
                    have hw1 : wrap64 ((d : Int) + 1) = ((d + 1 : Nat) : Int) := by unfold wrap64; omega
                    obtain ⟨b2, hb2⟩ : ∃ b2, b.extract (d + 1) b.size = b2 := ⟨_, rfl⟩
                    have HB2 : Aside0 (b2 = cut a (q + d + 1)) := ⟨by rw [← hb2, HQ.out.1]; exact cut_cut a q (d + 1)⟩
                    have HS2 : Aside0 (b2.size = a.size - (q + d + 1)) := ⟨by rw [HB2.out]; exact cut_size _ _⟩
                    have HF2 : Aside0 (eN a 0 = (if Fj.digs (D a (q + d + 1)) = 0 then none else eX a (q + d + 1 + Fj.digs (D a (q + d + 1))))) := ⟨by
                      rw [HF.out]
                      unfold eF
                      rw [if_pos (HB0.out.symm.trans c3)]⟩
                    have hbs2 : b2.size ≤ 1000000 := by have := HS2.out; have := HS.out; omega
                    clear HF c3
                    go_upto_region 18 with (fail)
                    go_cut [0] (fun v0 wc => v0 = .string b2 ∧ w = wc)
                    case first =>
                      go_wp2
                      go_meet
                      case rel => exact ⟨rfl, rfl⟩
                    case rest =>
                    obtain ⟨rfl, rfl⟩ := hcut
                    clear hw1 hb2 hx e3
                    by_cases c4 : b2.size = 0
                    · have e4 : ((b2.size : Int) == 0) = true := beq_iff_eq.mpr (by omega)
                      have HC : Aside0 (eN a 0 = none) := ⟨by rw [HF2.out, if_pos (digs_out (by have := HS2.out; omega))]⟩
                      clear c4
                      go_wp2_with (first | (go_at_call 17; (with_reducible refine (errNew _ _).mono ?_); rintro e w' ⟨⟨T, u, rfl⟩, hb⟩))
                      go_ret2
                      exact ⟨said_none HC.out _ T u rfl, hb⟩
                    · have e4 : ((b2.size : Int) == 0) = false := beq_eq_false_iff_ne.mpr (by omega)
                      clear c4
                      go_upto_block 2 with (fail)
                      go_cut [4] (fun v4 wc => ∃ d : Nat, v4 = .int .i64 (d : Int) ∧ Aside0 (Fj.digs (D b2 0) = d) ∧ w = wc)
                      case first =>
                        go_wp2_with (fail)
                        go_loop [4] (fun v => ∃ j : Nat, v = .int .i64 (j : Int) ∧ j ≤ b2.size ∧ Aside0 (Fj.digs (D b2 0) = j + Fj.digs (D b2 j))) (fun v => b2.size - (intOf v).toNat)
                        case atStart => exact ⟨0, rfl, Nat.zero_le _, ⟨(Nat.zero_add _).symm⟩⟩
                        case round =>
                          obtain ⟨j, rfl, hj, HD⟩ := hrel
                          by_cases hlt : j < b2.size
                          · have hx : ∀ h : j < b2.size, ((b2[j]'h).toNat : Int) = bt b2 (j : Int) := bt_at b2 (j : Int)
                            have hd := digs_at b2 j
                            by_cases c1 : bt b2 (j : Int) < 48
                            · have e2 : decide (bt b2 (j : Int) < 48) = true := decide_eq_true c1
                              have HJ : Aside0 (Fj.digs (D b2 0) = j) := ⟨by rw [HD.out, hd, if_neg (by omega)]; rfl⟩
                              clear c1 hd HD
                              go_wp2
                              go_meet
                              case rel => exact ⟨_, rfl, HJ, rfl⟩
                            · have e2 : decide (bt b2 (j : Int) < 48) = false := decide_eq_false c1
                              by_cases c2 : 57 < bt b2 (j : Int)
                              · have e3 : decide (57 < bt b2 (j : Int)) = true := decide_eq_true c2
                                have HJ : Aside0 (Fj.digs (D b2 0) = j) := ⟨by rw [HD.out, hd, if_neg (by omega)]; rfl⟩
                                clear c1 c2 hd HD
                                go_wp2
                                go_meet
                                case rel => exact ⟨_, rfl, HJ, rfl⟩
                              · have e3 : decide (57 < bt b2 (j : Int)) = false := decide_eq_false c2
                                have HJ : Aside0 (Fj.digs (D b2 0) = j + 1 + Fj.digs (D b2 (j + 1))) := ⟨by rw [HD.out, hd, if_pos (by omega)]; omega⟩
                                clear c1 c2 hd HD
                                go_wp2
                                go_round
                                case rel => exact ⟨j + 1, by go_num, by omega, HJ⟩
                                case measure => simp [intOf]; omega
                          · have HJ : Aside0 (Fj.digs (D b2 0) = j) := ⟨by rw [HD.out, digs_out (by omega)]; rfl⟩
                            obtain rfl : j = b2.size := by omega
                            clear hlt HD
                            go_wp2
                            go_meet
                            case rel => exact ⟨_, rfl, HJ, rfl⟩
                      case rest =>
                        obtain ⟨d2, rfl, HD2, rfl⟩ := hcut
                        have HDa2 : Aside0 (Fj.digs (D a (q + d + 1)) = d2) := ⟨by have := HD2.out; rw [HB2.out, cut_D, Nat.add_zero] at this; exact this⟩
                        have hdle2 : d2 ≤ b2.size := by have h := digs_size (s := b2) (p := 0) (Nat.zero_le _); rw [HD2.out] at h; omega
                        clear HD2
                        by_cases c5 : d2 = 0
                        · have HC : Aside0 (eN a 0 = none) := ⟨by rw [HF2.out, HDa2.out, if_pos c5]⟩
                          subst c5
                          go_wp2_with (first | (go_at_call 17; (with_reducible refine (errNew _ _).mono ?_); rintro e w' ⟨⟨T, u, rfl⟩, hb⟩))
                          go_ret2
                          exact ⟨said_none HC.out _ T u rfl, hb⟩
                        · have HF3 : Aside0 (eN a 0 = eX a (q + d + 1 + d2)) := ⟨by rw [HF2.out, HDa2.out, if_neg c5]⟩
                          have e5 : ((d2 : Int) == 0) = false := beq_eq_false_iff_ne.mpr (by omega)
                          clear HF2
                          by_cases c6 : b2.size ≤ d2
                          · have e6 : decide ((b2.size : Int) ≤ (d2 : Int)) = true := decide_eq_true (by omega)
                            have HC : Aside0 (eN a 0 = some a.size) := ⟨by
                              have := HS2.out
                              have := HBsz.out
                              have := HQ.out.2.1
                              rw [HF3.out, show q + d + 1 + d2 = a.size from by omega]
                              exact eX_end⟩
                            go_wp2
                            go_ret2
                            exact ⟨said_some HC.out (cut_end a _ (Nat.le_refl _)).symm rfl, Below.refl _ _⟩
                          · have e6 : decide ((b2.size : Int) ≤ (d2 : Int)) = false := decide_eq_false (by omega)
                            have HQ2 : Aside0 (b2 = cut a (q + d + 1) ∧ q + d + 1 + d2 < a.size ∧ d2 < b2.size ∧ eN a 0 = eX a (q + d + 1 + d2)) := ⟨HB2.out, by have := HS2.out; omega, by omega, HF3.out⟩
                            go_wp2
                            go_meet
                            case rel => exact ⟨b2, q + d + 1, d2, rfl, rfl, HQ2, rfl⟩
                  · have e3 : (bt b (d : Int) == 46) = false := beq_eq_false_iff_ne.mpr c3
                    have HQ2 : Aside0 (b = cut a q ∧ q + d < a.size ∧ d < b.size ∧ eN a 0 = eX a (q + d)) := ⟨HQ.out.1, by have := HBsz.out; omega, hdl, by
                      rw [HF.out]
                      unfold eF
                      rw [if_neg (fun h => c3 (HB0.out.trans h))]⟩
                    clear c3
                    go_wp2
                    go_meet
                    case rel => exact ⟨b, q, d, rfl, rfl, HQ2, rfl⟩
                case rest =>
                  clear hx HB0 hdl e2 e1 c1 hdle hbs HF HBsz HBS HQ
                  obtain ⟨b, q, d, rfl, rfl, HQ, rfl⟩ := hcut
                  have HBsz : Aside0 (b.size = a.size - q) := ⟨by rw [HQ.out.1]; exact cut_size a q⟩
                  have hbs : b.size ≤ 1000000 := by have := HS.out; have := HBsz.out; omega
                  have hdl : d < b.size := HQ.out.2.2.1
                  have hx : ∀ h : d < b.size, ((b[d]'h).toNat : Int) = bt b (d : Int) := bt_at b (d : Int)
                  have HB0 : Aside0 (bt b (d : Int) = bt a ((q + d : Nat) : Int)) := ⟨by rw [HQ.out.1]; exact cut_bt a q d⟩
                  go_upto_region 29 with (fail)
                  go_cut [99] (fun v99 wc => v99 = .bool (decide (bt a ((q + d : Nat) : Int) = 101 ∨ bt a ((q + d : Nat) : Int) = 69)) ∧ w = wc)
                  case first =>
                    by_cases c2 : bt b (d : Int) = 101
                    · have e2 : (bt b (d : Int) == 101) = true := beq_iff_eq.mpr c2
                      have HC : Aside0 (decide (bt a ((q + d : Nat) : Int) = 101 ∨ bt a ((q + d : Nat) : Int) = 69) = true) := ⟨decide_eq_true (.inl (HB0.out.symm.trans c2))⟩
                      clear c2
                      go_wp2
                      go_meet
                      case rel => exact ⟨by rw [HC.out], rfl⟩
                    · have e2 : (bt b (d : Int) == 101) = false := beq_eq_false_iff_ne.mpr c2
                      by_cases c3 : bt b (d : Int) = 69
                      · have e3 : (bt b (d : Int) == 69) = true := beq_iff_eq.mpr c3
                        have HC : Aside0 (decide (bt a ((q + d : Nat) : Int) = 101 ∨ bt a ((q + d : Nat) : Int) = 69) = true) := ⟨decide_eq_true (.inr (HB0.out.symm.trans c3))⟩
                        clear c2 c3
                        go_wp2
                        go_meet
                        case rel => exact ⟨by rw [HC.out], rfl⟩
                      · have e3 : (bt b (d : Int) == 69) = false := beq_eq_false_iff_ne.mpr c3
                        have HC : Aside0 (decide (bt a ((q + d : Nat) : Int) = 101 ∨ bt a ((q + d : Nat) : Int) = 69) = false) := ⟨decide_eq_false fun h => h.elim (fun h => c2 (HB0.out.trans h)) (fun h => c3 (HB0.out.trans h))⟩
                        clear c2 c3
                        go_wp2
                        go_meet
                        case rel => exact ⟨by rw [HC.out], rfl⟩
                  case rest =>
                    obtain ⟨rfl, rfl⟩ := hcut
                    by_cases c7 : bt a ((q + d : Nat) : Int) = 101 ∨ bt a ((q + d : Nat) : Int) = 69
                    rotate_left 1
                    · have e7 : decide (bt a ((q + d : Nat) : Int) = 101 ∨ bt a ((q + d : Nat) : Int) = 69) = false := decide_eq_false c7
                      have HC : Aside0 (eN a 0 = some (q + d)) := ⟨by rw [HQ.out.2.2.2]; exact if_neg c7⟩
                      rw [e7]
                      clear c7 e7 hx
                      go_wp2
                      go_ret2
                      exact ⟨said_some HC.out (by rw [HQ.out.1]; exact cut_cut a q d) rfl, Below.refl _ _⟩
                    · have e7 : decide (bt a ((q + d : Nat) : Int) = 101 ∨ bt a ((q + d : Nat) : Int) = 69) = true := decide_eq_true c7
                      have HE : Aside0 (eN a 0 = eE a (q + d + 1)) := ⟨by rw [HQ.out.2.2.2]; exact if_pos c7⟩
                      rw [e7]
                      clear c7 e7 hx
                      have hw1 : wrap64 ((d : Int) + 1) = ((d + 1 : Nat) : Int) := by unfold wrap64; omega
                      obtain ⟨b2, hb2⟩ : ∃ b2, b.extract (d + 1) b.size = b2 := ⟨_, rfl⟩
                      have HB2 : Aside0 (b2 = cut a (q + d + 1)) := ⟨by rw [← hb2, HQ.out.1]; exact cut_cut a q (d + 1)⟩
                      have HS2 : Aside0 (b2.size = a.size - (q + d + 1)) := ⟨by rw [HB2.out]; exact cut_size _ _⟩
                      have hbs2 : b2.size ≤ 1000000 := by have := HS2.out; have := HS.out; omega
                      by_cases c4 : b2.size = 0
                      · have e4 : ((b2.size : Int) == 0) = true := beq_iff_eq.mpr (by omega)
                        have HC : Aside0 (eN a 0 = none) := ⟨by rw [HE.out]; exact eE_out (by have := HS2.out; omega)⟩
                        clear c4
                        go_wp2_with (first | (go_at_call 17; (with_reducible refine (errNew _ _).mono ?_); rintro e w' ⟨⟨T, u, rfl⟩, hb⟩))
                        go_ret2
                        exact ⟨said_none HC.out _ T u rfl, hb⟩
                      · have e4 : ((b2.size : Int) == 0) = false := beq_eq_false_iff_ne.mpr (by omega)
                        have hz2 : 0 < b2.size := by omega
                        have hx2 : ∀ h : 0 < b2.size, ((b2[0]'h).toNat : Int) = bt b2 0 := bt_at b2 0
                        have HB1 : Aside0 (bt b2 0 = bt a ((q + d + 1 : Nat) : Int)) := ⟨by rw [HB2.out]; exact cut_bt a (q + d + 1) 0⟩
                        clear c4
                        go_upto_region 33 with (fail)
                        go_cut [116] (fun v116 wc => v116 = .bool (decide (bt a ((q + d + 1 : Nat) : Int) = 43 ∨ bt a ((q + d + 1 : Nat) : Int) = 45)) ∧ w = wc)
                        case first =>
                          by_cases c2 : bt b2 0 = 45
                          · have e2 : (bt b2 0 == 45) = true := beq_iff_eq.mpr c2
                            have HC : Aside0 (decide (bt a ((q + d + 1 : Nat) : Int) = 43 ∨ bt a ((q + d + 1 : Nat) : Int) = 45) = true) := ⟨decide_eq_true (.inr (HB1.out.symm.trans c2))⟩
                            clear c2
                            go_wp2
                            go_meet
                            case rel => exact ⟨by rw [HC.out], rfl⟩
                          · have e2 : (bt b2 0 == 45) = false := beq_eq_false_iff_ne.mpr c2
                            by_cases c3 : bt b2 0 = 43
                            · have e3 : (bt b2 0 == 43) = true := beq_iff_eq.mpr c3
                              have HC : Aside0 (decide (bt a ((q + d + 1 : Nat) : Int) = 43 ∨ bt a ((q + d + 1 : Nat) : Int) = 45) = true) := ⟨decide_eq_true (.inl (HB1.out.symm.trans c3))⟩
                              clear c2 c3
                              go_wp2
                              go_meet
                              case rel => exact ⟨by rw [HC.out], rfl⟩
                            · have e3 : (bt b2 0 == 43) = false := beq_eq_false_iff_ne.mpr c3
                              have HC : Aside0 (decide (bt a ((q + d + 1 : Nat) : Int) = 43 ∨ bt a ((q + d + 1 : Nat) : Int) = 45) = false) := ⟨decide_eq_false fun h => h.elim (fun h => c3 (HB1.out.trans h)) (fun h => c2 (HB1.out.trans h))⟩
                              clear c2 c3
                              go_wp2
                              go_meet
                              case rel => exact ⟨by rw [HC.out], rfl⟩
                        case rest =>
                          obtain ⟨rfl, rfl⟩ := hcut
                          clear hx2
                          go_upto_if 116 with (fail)
                          go_cut [0] (fun v0 wc => ∃ (b : ByteArray) (q : Nat), v0 = .string b ∧ Aside0 (b = cut a q ∧ q < a.size ∧ eN a 0 = (if Fj.digs (D a q) = 0 then none else some (q + Fj.digs (D a q)))) ∧ w = wc)
                          case first =>
                            by_cases c8 : bt a ((q + d + 1 : Nat) : Int) = 43 ∨ bt a ((q + d + 1 : Nat) : Int) = 45
                            · have e8 : decide (bt a ((q + d + 1 : Nat) : Int) = 43 ∨ bt a ((q + d + 1 : Nat) : Int) = 45) = true := decide_eq_true c8
                              have HE2 : Aside0 (eN a 0 = (if Fj.digs (D a (q + d + 1 + 1)) = 0 then none else some (q + d + 1 + 1 + Fj.digs (D a (q + d + 1 + 1))))) := ⟨by rw [HE.out]; exact if_pos c8⟩
                              rw [e8]
                              clear c8 e8
                              obtain ⟨b3, hb3⟩ : ∃ b3, b2.extract 1 b2.size = b3 := ⟨_, rfl⟩
                              have HB3 : Aside0 (b3 = cut a (q + d + 1 + 1)) := ⟨by rw [← hb3, HB2.out]; exact cut_cut a (q + d + 1) 1⟩
                              have HS3 : Aside0 (b3.size = a.size - (q + d + 1 + 1)) := ⟨by rw [HB3.out]; exact cut_size _ _⟩
                              by_cases c9 : b3.size = 0
                              · have e9 : ((b3.size : Int) == 0) = true := beq_iff_eq.mpr (by omega)
                                have HC : Aside0 (eN a 0 = none) := ⟨by rw [HE2.out, if_pos (digs_out (by have := HS3.out; omega))]⟩
                                clear c9
                                go_wp2_with (first | (go_at_call 17; (with_reducible refine (errNew _ _).mono ?_); rintro e w' ⟨⟨T, u, rfl⟩, hb⟩))
                                go_ret2
                                exact ⟨said_none HC.out _ T u rfl, hb⟩
                              · have e9 : ((b3.size : Int) == 0) = false := beq_eq_false_iff_ne.mpr (by omega)
                                have HQ3 : Aside0 (b3 = cut a (q + d + 1 + 1) ∧ q + d + 1 + 1 < a.size ∧ eN a 0 = (if Fj.digs (D a (q + d + 1 + 1)) = 0 then none else some (q + d + 1 + 1 + Fj.digs (D a (q + d + 1 + 1))))) := ⟨HB3.out, by have := HS3.out; omega, HE2.out⟩
                                clear c9
                                go_wp2
                                go_meet
                                case rel => exact ⟨b3, _, rfl, HQ3, rfl⟩
                            · have e8 : decide (bt a ((q + d + 1 : Nat) : Int) = 43 ∨ bt a ((q + d + 1 : Nat) : Int) = 45) = false := decide_eq_false c8
                              have HQ3 : Aside0 (b2 = cut a (q + d + 1) ∧ q + d + 1 < a.size ∧ eN a 0 = (if Fj.digs (D a (q + d + 1)) = 0 then none else some (q + d + 1 + Fj.digs (D a (q + d + 1))))) := ⟨HB2.out, by have := HS2.out; omega, by rw [HE.out]; exact if_neg c8⟩
                              rw [e8]
                              clear c8 e8
                              go_wp2
                              go_meet
                              case rel => exact ⟨b2, _, rfl, HQ3, rfl⟩
                          case rest =>
                            clear hb2 HB2 HS2 hbs2 hdl hbs HBsz HB0 HB1 hz2 e4 HE HQ hw1
                            obtain ⟨b, q, rfl, HQ, rfl⟩ := hcut
                            have HBsz : Aside0 (b.size = a.size - q) := ⟨by rw [HQ.out.1]; exact cut_size a q⟩
                            have hbs : b.size ≤ 1000000 := by have := HS.out; have := HBsz.out; omega
                            go_upto_block 4 with (fail)
                            go_cut [4] (fun v4 wc => ∃ d : Nat, v4 = .int .i64 (d : Int) ∧ Aside0 (Fj.digs (D b 0) = d) ∧ w = wc)
                            case first =>
                              go_wp2_with (fail)
                              go_loop [4] (fun v => ∃ j : Nat, v = .int .i64 (j : Int) ∧ j ≤ b.size ∧ Aside0 (Fj.digs (D b 0) = j + Fj.digs (D b j))) (fun v => b.size - (intOf v).toNat)
                              case atStart => exact ⟨0, rfl, Nat.zero_le _, ⟨(Nat.zero_add _).symm⟩⟩
                              case round =>
                                obtain ⟨j, rfl, hj, HD⟩ := hrel
                                by_cases hlt : j < b.size
                                · have hx : ∀ h : j < b.size, ((b[j]'h).toNat : Int) = bt b (j : Int) := bt_at b (j : Int)
                                  have hd := digs_at b j
                                  by_cases c1 : bt b (j : Int) < 48
                                  · have e2 : decide (bt b (j : Int) < 48) = true := decide_eq_true c1
                                    have HJ : Aside0 (Fj.digs (D b 0) = j) := ⟨by rw [HD.out, hd, if_neg (by omega)]; rfl⟩
                                    clear c1 hd HD
                                    go_wp2
                                    go_meet
                                    case rel => exact ⟨_, rfl, HJ, rfl⟩
                                  · have e2 : decide (bt b (j : Int) < 48) = false := decide_eq_false c1
                                    by_cases c2 : 57 < bt b (j : Int)
                                    · have e3 : decide (57 < bt b (j : Int)) = true := decide_eq_true c2
                                      have HJ : Aside0 (Fj.digs (D b 0) = j) := ⟨by rw [HD.out, hd, if_neg (by omega)]; rfl⟩
                                      clear c1 c2 hd HD
                                      go_wp2
                                      go_meet
                                      case rel => exact ⟨_, rfl, HJ, rfl⟩
                                    · have e3 : decide (57 < bt b (j : Int)) = false := decide_eq_false c2
                                      have HJ : Aside0 (Fj.digs (D b 0) = j + 1 + Fj.digs (D b (j + 1))) := ⟨by rw [HD.out, hd, if_pos (by omega)]; omega⟩
                                      clear c1 c2 hd HD
                                      go_wp2
                                      go_round
                                      case rel => exact ⟨j + 1, by go_num, by omega, HJ⟩
                                      case measure => simp [intOf]; omega
                                · have HJ : Aside0 (Fj.digs (D b 0) = j) := ⟨by rw [HD.out, digs_out (by omega)]; rfl⟩
                                  obtain rfl : j = b.size := by omega
                                  clear hlt HD
                                  go_wp2
                                  go_meet
                                  case rel => exact ⟨_, rfl, HJ, rfl⟩
                            case rest =>
                              obtain ⟨d, rfl, HD, rfl⟩ := hcut
                              have HDa : Aside0 (Fj.digs (D a q) = d) := ⟨by have := HD.out; rw [HQ.out.1, cut_D, Nat.add_zero] at this; exact this⟩
                              have hdle : d ≤ b.size := by have h := digs_size (s := b) (p := 0) (Nat.zero_le _); rw [HD.out] at h; omega
                              clear HD
                              by_cases c5 : d = 0
                              · have HC : Aside0 (eN a 0 = none) := ⟨by rw [HQ.out.2.2, HDa.out, if_pos c5]⟩
                                subst c5
                                go_wp2_with (first | (go_at_call 17; (with_reducible refine (errNew _ _).mono ?_); rintro e w' ⟨⟨T, u, rfl⟩, hb⟩))
                                go_ret2
                                exact ⟨said_none HC.out _ T u rfl, hb⟩
                              · have HC : Aside0 (eN a 0 = some (q + d)) := ⟨by rw [HQ.out.2.2, HDa.out, if_neg c5]⟩
                                have e5 : ((d : Int) == 0) = false := beq_eq_false_iff_ne.mpr (by omega)
                                by_cases c6 : b.size ≤ d
                                · have e6 : decide ((b.size : Int) ≤ (d : Int)) = true := decide_eq_true (by omega)
                                  have HE : Aside0 ((⟨#[]⟩ : ByteArray) = cut a (q + d)) := ⟨(cut_end a _ (by have := HBsz.out; omega)).symm⟩
                                  go_wp2
                                  go_ret2
                                  exact ⟨said_some HC.out HE.out rfl, Below.refl _ _⟩
                                · have e6 : decide ((b.size : Int) ≤ (d : Int)) = false := decide_eq_false (by omega)
                                  go_wp2
                                  go_ret2
                                  exact ⟨said_some HC.out (by rw [HQ.out.1]; exact cut_cut a q d) rfl, Below.refl _ _⟩
end Go.Proofs.YtjnfdgibogbgiaaDoor.FjW
namespace Go.Proofs.YtjnfdgibogbgiaaDoor.FjW
open Go.RowKit Go.Proofs.YtjnfdgibogbgiaaDoorW.PrintWords Go.Proofs.YtjnfdgibogbgiaaDoorW.PrintLast Go.Proofs.YtjnfdgibogbgiaaDoorW.PrintMore
attribute [local go_sem] max2_int min2_int max_two min_two max_three min_three max_four min_four
set_option linter.unusedVariables false
set_option linter.unusedSimpArgs false

/-- strings.IndexByte of a text and a byte. -/
def ixOf (a : ByteArray) (c : Int) : Int := Lib.indexByte a.data.toList c.toNat.toUInt8
theorem ixCall (a : ByteArray) (c v : Int) (h : ixOf a c = v) (w : World) : Calls Tryd.prog 28 #[.string a, .int .u8 c] w fun e w' => e = .returned (.int .i64 v) ∧ w = w' := by
  subst h
  exact (Tryd.strings_IndexByte a c w).mono fun _ _ h => ⟨h.1, h.2.symm⟩
theorem bytesOf_get (a : ByteArray) (k : Nat) : (bytesOf a)[k]? = (a.data.toList[k]?).map fun b => (b.toNat : Int) := by
  unfold bytesOf; rw [List.getElem?_map]
theorem mem_take {l : List Int} {c : Int} {n : Nat} (h : c ∈ l.take n) : ∃ k, k < n ∧ l[k]? = some c := by
  obtain ⟨k, hk⟩ := List.getElem?_of_mem h
  rw [List.getElem?_take] at hk
  split at hk
  · exact ⟨k, by assumption, hk⟩
  · cases hk
theorem u8c {c : Int} (h0 : 0 ≤ c) (h1 : c ≤ 255) (b : UInt8) : (b.toNat : Int) = c ↔ b = c.toNat.toUInt8 := by
  constructor
  · intro h
    apply UInt8.toNat_inj.mp
    have : c.toNat < 256 := by omega
    rw [Nat.toUInt8, UInt8.toNat_ofNat']
    omega
  · intro h
    subst h
    rw [Nat.toUInt8, UInt8.toNat_ofNat']
    omega
theorem ix_or (a : ByteArray) (c : Int) (h0 : 0 ≤ c) (h1 : c ≤ 255) : (ixOf a c = -1 ∧ c ∉ bytesOf a) ∨ ∃ n : Nat, ixOf a c = (n : Int) ∧ n < a.size ∧ bt a (n : Int) = c ∧ c ∉ (bytesOf a).take n := by
  have hg := Lib.indexByte_ge a.data.toList c.toNat.toUInt8
  by_cases h : ixOf a c = -1
  · refine .inl ⟨h, fun hm => ?_⟩
    obtain ⟨k, hk⟩ := List.getElem?_of_mem hm
    rw [bytesOf_get] at hk
    obtain ⟨b, hb, e⟩ := Option.map_eq_some_iff.mp hk
    rw [(u8c h0 h1 b).mp e] at hb
    exact Lib.indexByte_none h k hb
  · obtain ⟨n, hn⟩ : ∃ n : Nat, ixOf a c = (n : Int) := ⟨(ixOf a c).toNat, by unfold ixOf at *; omega⟩
    obtain ⟨g1, g2⟩ := Lib.indexByte_some (o := n) hn
    have hl : n < (bytesOf a).length := by
      rw [bytesOf, List.length_map]
      exact (List.getElem?_eq_some_iff.mp g1).1
    refine .inr ⟨n, hn, by rw [bytesOf_length] at hl; exact hl, ?_, fun hm => ?_⟩
    · rw [← rd_bytesOf]
      unfold rd
      rw [Int.toNat_natCast, List.getD_eq_getElem?_getD, bytesOf_get, g1]
      exact (u8c h0 h1 _).mpr rfl
    · obtain ⟨k, hk, e⟩ := mem_take hm
      rw [bytesOf_get] at e
      obtain ⟨b, hb, e⟩ := Option.map_eq_some_iff.mp e
      rw [(u8c h0 h1 b).mp e] at hb
      exact g2 k hk hb
theorem bt_get (a : ByteArray) (k : Nat) (h : k < a.size) : (bytesOf a)[k]? = some (bt a (k : Int)) := by
  have hl : k < (bytesOf a).length := by rw [bytesOf_length]; exact h
  rw [List.getElem?_eq_getElem hl, ← rd_bytesOf]
  unfold rd
  rw [Int.toNat_natCast, List.getD_eq_getElem?_getD, List.getElem?_eq_getElem hl]; rfl
theorem split_at (b : ByteArray) (n i : Nat) (hi : i ≤ n) (hn : n < b.size) (h34 : bt b (n : Int) = 34) (hr : ∀ j, i ≤ j → j < n → bt b (j : Int) = 92) :
    bytesOf b = (bytesOf b).take i ++ (List.replicate (n - i) 92 ++ 34 :: D b (n + 1)) := by
  have e1 : D b n = 34 :: D b (n + 1) := by rw [← h34]; exact D_cons b n hn
  rw [← e1]
  have e2 : (List.replicate (n - i) (92 : Int)) = (D b i).take (n - i) := by
    refine List.ext_getElem? fun k => ?_
    rw [List.getElem?_replicate, List.getElem?_take]
    split
    · rw [List.getElem?_drop, bt_get b (i + k) (by omega), hr (i + k) (by omega) (by omega)]
    · rfl
  rw [e2]
  have e3 : D b n = (D b i).drop (n - i) := by rw [D_drop]; congr 1; omega
  rw [e3, List.take_append_drop, List.take_append_drop]
/-- The first quotation mark, with the backslashes ahead of it. -/
theorem qend_at (b : ByteArray) (n i : Nat) (hi : i ≤ n) (hn : n < b.size) (h34 : bt b (n : Int) = 34) (hno : (34 : Int) ∉ (bytesOf b).take n) (hr : ∀ j, i ≤ j → j < n → bt b (j : Int) = 92) (hx : i = 0 ∨ bt b ((i : Int) - 1) ≠ 92) :
    Fj.qend (bytesOf b) = if (n - i) % 2 = 0 then some n else (Fj.qend (D b (n + 1))).map (n + 1 + ·) := by
  have hs := split_at b n i hi hn h34 hr
  have hl : ((bytesOf b).take i).length = i := by rw [List.length_take, bytesOf_length]; omega
  have hq := Fj.qend_first ((bytesOf b).take i) (D b (n + 1)) (n - i) (by
    rcases hx with h | h
    · left; rw [h]; rfl
    · by_cases h0 : i = 0
      · left; rw [h0]; rfl
      · right
        obtain ⟨m, rfl⟩ : ∃ m, i = m + 1 := ⟨i - 1, by omega⟩
        refine ⟨(bytesOf b).take m, bt b (m : Int), ?_, by rw [show ((m + 1 : Nat) : Int) - 1 = (m : Int) by omega] at h; exact h⟩
        rw [List.take_add_one, bt_get b m (by omega)]; rfl) (fun hm => hno (by
          have : (bytesOf b).take i = ((bytesOf b).take n).take i := by rw [List.take_take]; congr 1; omega
          rw [this] at hm
          exact List.mem_of_mem_take hm))
  rw [← hs, hl] at hq
  rw [hq]
  rw [show i + (n - i) = n from by omega]
theorem qend_no (b : ByteArray) (h : (34 : Int) ∉ bytesOf b) : Fj.qend (bytesOf b) = none := Fj.qend_without _ _ (Nat.le_refl _) h
/-- A string's inside and what is behind it, or an error. -/
def SaidR (a : ByteArray) (o : Option Nat) (e : Ending) : Prop := match o with
  | none => ∃ (x y : ByteArray) (T : TypeId) (u : Value), e = .returned (.tuple #[.string x, .string y, .iface T u])
  | some q => e = .returned (.tuple #[.string (a.extract 0 q), .string (cut a (q + 1)), .nilIface])
theorem saidR_none {a : ByteArray} {o : Option Nat} (h : o = none) (e : Ending) (x y : ByteArray) (T : TypeId) (u : Value) (he : e = .returned (.tuple #[.string x, .string y, .iface T u])) : SaidR a o e := by
  subst h; exact ⟨x, y, T, u, he⟩
theorem saidR_some {a x y : ByteArray} {o : Option Nat} {q : Nat} (h : o = some q) (hx : x = a.extract 0 q) (hy : y = cut a (q + 1)) {e : Ending} (he : e = .returned (.tuple #[.string x, .string y, .nilIface])) : SaidR a o e := by
  subst h; subst hx; subst hy; exact he
end Go.Proofs.YtjnfdgibogbgiaaDoor.FjW
namespace Go.Proofs.YtjnfdgibogbgiaaDoor.FjW
open Go.RowKit Go.Proofs.YtjnfdgibogbgiaaDoorW.PrintWords Go.Proofs.YtjnfdgibogbgiaaDoorW.PrintLast Go.Proofs.YtjnfdgibogbgiaaDoorW.PrintMore
attribute [local go_sem] max2_int min2_int max_two min_two max_three min_three max_four min_four
set_option linter.unusedVariables false
set_option linter.unusedSimpArgs false

theorem bt_pred (a : ByteArray) (n : Nat) (hn : 0 < n) : ∀ h : n - 1 < a.size, ((a[n - 1]'h).toNat : Int) = bt a ((n : Int) - 1) := by
  rw [show ((n : Int) - 1) = ((n - 1 : Nat) : Int) by omega]
  exact bt_at a ((n - 1 : Nat) : Int)
set_option maxHeartbeats 8000000 in
set_option maxRecDepth 100000 in
theorem raw (a : ByteArray) (hs : a.size ≤ 1000000) (w : World) :
    Calls Tryd.prog 29 #[.string a] w fun e w' => SaidR a (Fj.qend (bytesOf a)) e ∧ Below w.heap.size w w' := by
  rcases ix_or a 34 (by decide) (by decide) with ⟨h1, h2⟩ | ⟨n, h1, h2, h3, h4⟩
  · have HC : Aside0 (Fj.qend (bytesOf a) = none) := ⟨qend_no a h2⟩
    have H1 := Aside0.mk h1
    clear h1 h2 hs
    go_enter Tryd.func29, Tryd.ntmps29
    go_wp2_with (first | (go_at_call 28; (with_reducible refine (ixCall _ _ _ H1.out _).mono ?_); rintro e w' ⟨rfl, rfl⟩) | (go_at_call 17; (with_reducible refine (errNew _ _).mono ?_); rintro e w' ⟨⟨T, u, rfl⟩, hb⟩))
    go_ret3
    exact ⟨saidR_none HC.out _ _ _ T u rfl, hb⟩
  · have H1 := Aside0.mk h1
    clear h1
    by_cases c : n = 0
    · subst c
      have HC : Aside0 (Fj.qend (bytesOf a) = some 0) := ⟨qend_at a 0 0 (Nat.le_refl _) h2 h3 h4 (fun j _ h => absurd h (Nat.not_lt_zero _)) (.inl rfl)⟩
      clear h3 h4 hs
      go_enter Tryd.func29, Tryd.ntmps29
      go_wp2_with (first | (go_at_call 28; (with_reducible refine (ixCall _ _ _ H1.out _).mono ?_); rintro e w' ⟨rfl, rfl⟩))
      go_quiet (fail)
      go_wp2
      go_ret3
      exact ⟨saidR_some (x := ByteArray.empty) HC.out (by simp) rfl rfl, pw_below_drewN (Below.refl _ _) _⟩
    · have hx : ∀ h : n - 1 < a.size, ((a[n - 1]'h).toNat : Int) = bt a ((n : Int) - 1) := bt_pred a n (by omega)
      have hn0 : 0 < n := by omega
      have e0 : ((n : Int) == 0) = false := beq_eq_false_iff_ne.mpr (by omega)
      clear c
      by_cases c : bt a ((n : Int) - 1) = 92
      · have e1 : (bt a ((n : Int) - 1) != 92) = false := bne_eq_false_iff_eq.mpr c
        have HS := Aside0.mk hs
        have HQ : Aside0 (a = cut a 0 ∧ 0 + a.size = a.size ∧ Fj.qend (bytesOf a) = (Fj.qend (bytesOf a)).map (0 + ·) ∧ bt a (n : Int) = 34 ∧ (34 : Int) ∉ (bytesOf a).take n ∧ bt a ((n : Int) - 1) = 92) := ⟨(cut_zero a).symm, Nat.zero_add _, by cases Fj.qend (bytesOf a) <;> simp, h3, h4, c⟩
        clear h3 h4 c
        go_enter Tryd.func29, Tryd.ntmps29
        go_wp2_with (first | (go_at_call 28; (with_reducible refine (ixCall _ _ _ H1.out _).mono ?_); rintro e w' ⟨rfl, rfl⟩))
        clear e1 e0 hx
        go_loopw [0, 5] (fun v0 v5 wr => ∃ (b : ByteArray) (p m : Nat), v0 = .string b ∧ v5 = .int .i64 (m : Int) ∧ 0 < m ∧ m < b.size ∧ b.size ≤ a.size ∧ w = wr ∧ Aside0 (b = cut a p ∧ p + b.size = a.size ∧ Fj.qend (bytesOf a) = (Fj.qend (bytesOf b)).map (p + ·) ∧ bt b (m : Int) = 34 ∧ (34 : Int) ∉ (bytesOf b).take m ∧ bt b ((m : Int) - 1) = 92)) (fun v0 _ _ => match v0 with | .string b => b.size | _ => 0)
        case atStart => exact ⟨a, 0, n, rfl, rfl, hn0, h2, Nat.le_refl _, rfl, HQ⟩
        case round =>
          clear HQ hn0 h2 H1
          obtain ⟨b, p, m, rfl, rfl, hm0, hm, hba, rfl, HQ⟩ := hrel
          go_upto_block 2 with (fail)
          go_cut [7] (fun v7 wc => ∃ i : Nat, v7 = .int .i64 (i : Int) ∧ i ≤ m ∧ w = wc ∧ Aside0 (Fj.qend (bytesOf b) = if (m - i) % 2 = 0 then some m else (Fj.qend (D b (m + 1))).map (m + 1 + ·)))
          case first =>
            go_wp2_with (fail)
            go_loop [7] (fun v => ∃ i : Nat, v = .int .i64 (i : Int) ∧ i ≤ m ∧ Aside0 (∀ j, i ≤ j → j < m → bt b (j : Int) = 92)) (fun v => (intOf v).toNat)
            case atStart => exact ⟨m - 1, by go_num, by omega, ⟨fun j h1 h2 => by
              obtain rfl : j = m - 1 := by omega
              have := HQ.out.2.2.2.2.2
              rw [show ((m - 1 : Nat) : Int) = (m : Int) - 1 by omega]; exact this⟩⟩
            case round =>
              obtain ⟨i, rfl, him, HR⟩ := hrel
              have HA : Aside0 (i = 0 ∨ bt b ((i : Int) - 1) ≠ 92 → Fj.qend (bytesOf b) = if (m - i) % 2 = 0 then some m else (Fj.qend (D b (m + 1))).map (m + 1 + ·)) := ⟨fun h => qend_at b m i him hm HQ.out.2.2.2.1 HQ.out.2.2.2.2.1 HR.out h⟩
              by_cases c : i = 0
              · have HZ : Aside0 _ := ⟨HA.out (.inl c)⟩
                have e0 : decide ((0 : Int) < (i : Int)) = false := decide_eq_false (by omega)
                go_wp2
                go_meet
                case rel => exact ⟨i, by rw [c]; rfl, him, rfl, HZ⟩
              · have hi0 : 0 < i := by omega
                have hx : ∀ h : i - 1 < b.size, ((b[i - 1]'h).toNat : Int) = bt b ((i : Int) - 1) := bt_pred b i hi0
                clear c
                by_cases c : bt b ((i : Int) - 1) = 92
                · have e1 : (bt b ((i : Int) - 1) == 92) = true := beq_iff_eq.mpr c
                  have HR' : Aside0 (∀ j, i - 1 ≤ j → j < m → bt b (j : Int) = 92) := ⟨fun j h1 h2 => by
                    by_cases e : j = i - 1
                    · subst e
                      rw [show ((i - 1 : Nat) : Int) = (i : Int) - 1 by omega]; exact c
                    · exact HR.out j (by omega) h2⟩
                  clear c HA HR
                  go_wp2
                  go_round
                  case rel => exact ⟨i - 1, by go_num, by omega, HR'⟩
                  case measure => simp [intOf]; omega
                · have e1 : (bt b ((i : Int) - 1) == 92) = false := beq_eq_false_iff_ne.mpr c
                  have HZ : Aside0 _ := ⟨HA.out (.inr c)⟩
                  clear c HA
                  go_wp2
                  go_meet
                  case rel => exact ⟨i, rfl, him, rfl, HZ⟩
          case rest =>
            obtain ⟨i, rfl, him, rfl, HZ⟩ := hcut
            by_cases c : (m - i) % 2 = 0
            · have HC : Aside0 (Fj.qend (bytesOf a) = some (p + m)) := ⟨by rw [HQ.out.2.2.1, HZ.out, if_pos c]; rfl⟩
              have e2 : (((m : Int) - (i : Int)) % 2 == 0) = true := beq_iff_eq.mpr (by omega)
              have hp : (a.size : Int) - (b.size : Int) = (p : Int) := by have := HQ.out.2.1; omega
              have HX : Aside0 (cut b (m + 1) = cut a (p + m + 1)) := ⟨by rw [HQ.out.1, cut_cut]; rfl⟩
              have hpm : (p : Int) + (m : Int) ≤ (a.size : Int) := by have := HQ.out.2.1; omega
              have hpn : ((p : Int) + (m : Int)).toNat = p + m := by omega
              clear c
              go_wp2
              go_quiet (fail)
              go_wp2
              go_ret3
              exact ⟨saidR_some HC.out rfl HX.out rfl, pw_below_drewN (Below.refl _ _) _⟩
            · have e2 : (((m : Int) - (i : Int)) % 2 == 0) = false := beq_eq_false_iff_ne.mpr (by omega)
              obtain ⟨d, hd⟩ : ∃ d, b.extract (m + 1) b.size = d := ⟨_, rfl⟩
              have hds : d.size = b.size - (m + 1) := by rw [← hd]; exact cut_size b (m + 1)
              have hdD : bytesOf d = D b (m + 1) := by rw [← hd]; exact cut_bytes b (m + 1)
              have HD : Aside0 (d = cut a (p + m + 1) ∧ Fj.qend (bytesOf a) = (Fj.qend (bytesOf d)).map (p + m + 1 + ·)) := ⟨by rw [← hd, HQ.out.1]; exact cut_cut a p (m + 1), by
                rw [HQ.out.2.2.1, HZ.out, if_neg c, hdD]
                cases Fj.qend (D b (m + 1)) with
                | none => rfl
                | some q => simp only [Option.map_some]; congr 1; omega⟩
              have HP : Aside0 (p + m + 1 + d.size = a.size) := ⟨by have := HQ.out.2.1; omega⟩
              clear c HQ HZ hdD
              rcases ix_or d 34 (by decide) (by decide) with ⟨k1, k2⟩ | ⟨k, k1, k2, k3, k4⟩
              · have HC : Aside0 (Fj.qend (bytesOf a) = none) := ⟨by rw [HD.out.2, qend_no d k2]; rfl⟩
                have K1 := Aside0.mk k1
                have HDD := Aside0.mk hd
                clear k1 k2 hds hd
                go_wp2_with (first | (go_at_call 28; rw [HDD.out]; (with_reducible refine (ixCall _ _ _ K1.out _).mono ?_); rintro e w' ⟨rfl, rfl⟩) | (go_at_call 17; (with_reducible refine (errNew _ _).mono ?_); rintro e w' ⟨⟨T, u, rfl⟩, hb⟩))
                go_ret3
                exact ⟨saidR_none HC.out _ _ _ T u rfl, hb⟩
              · have K1 := Aside0.mk k1
                have HDD := Aside0.mk hd
                have HX : Aside0 (cut d (k + 1) = cut a (p + m + 1 + k + 1)) := ⟨by rw [HD.out.1, cut_cut]; rfl⟩
                have hp : (a.size : Int) - (d.size : Int) = ((p + m + 1 : Nat) : Int) := by have := HP.out; omega
                have hpm : ((p + m + 1 : Nat) : Int) + (k : Int) ≤ (a.size : Int) := by have := HP.out; omega
                have hpn : (((p + m + 1 : Nat) : Int) + (k : Int)).toNat = p + m + 1 + k := by omega
                have hda : d.size < b.size := by omega
                have hdaa : d.size ≤ a.size := by omega
                clear k1 hds hd
                by_cases c : k = 0
                · have HC : Aside0 (Fj.qend (bytesOf a) = some (p + m + 1 + k)) := ⟨by
                    rw [HD.out.2, qend_at d k 0 (Nat.zero_le _) k2 k3 k4 (fun j _ h => absurd h (by omega)) (.inl rfl), c]; rfl⟩
                  have e0 : ((k : Int) == 0) = true := beq_iff_eq.mpr (by omega)
                  clear c k3 k4
                  go_wp2_with (first | (go_at_call 28; rw [HDD.out]; (with_reducible refine (ixCall _ _ _ K1.out _).mono ?_); rintro e w' ⟨rfl, rfl⟩))
                  go_quiet (fail)
                  go_wp2
                  go_ret3
                  exact ⟨saidR_some HC.out rfl HX.out rfl, pw_below_drewN (Below.refl _ _) _⟩
                · have hk0 : 0 < k := by omega
                  have e0 : ((k : Int) == 0) = false := beq_eq_false_iff_ne.mpr (by omega)
                  have hx : ∀ h : k - 1 < d.size, ((d[k - 1]'h).toNat : Int) = bt d ((k : Int) - 1) := bt_pred d k hk0
                  clear c
                  by_cases c : bt d ((k : Int) - 1) = 92
                  · have e1 : (bt d ((k : Int) - 1) != 92) = false := bne_eq_false_iff_eq.mpr c
                    have HQ' : Aside0 (d = cut a (p + m + 1) ∧ p + m + 1 + d.size = a.size ∧ Fj.qend (bytesOf a) = (Fj.qend (bytesOf d)).map (p + m + 1 + ·) ∧ bt d (k : Int) = 34 ∧ (34 : Int) ∉ (bytesOf d).take k ∧ bt d ((k : Int) - 1) = 92) := ⟨HD.out.1, HP.out, HD.out.2, k3, k4, c⟩
                    clear c k3 k4
                    go_wp2_with (first | (go_at_call 28; rw [HDD.out]; (with_reducible refine (ixCall _ _ _ K1.out _).mono ?_); rintro e w' ⟨rfl, rfl⟩))
                    go_roundw
                    case rel => exact ⟨d, p + m + 1, k, rfl, rfl, hk0, k2, hdaa, trivial, HQ'⟩
                    case measure => exact hda
                  · have HC : Aside0 (Fj.qend (bytesOf a) = some (p + m + 1 + k)) := ⟨by
                      rw [HD.out.2, qend_at d k k (Nat.le_refl _) k2 k3 k4 (fun j h h' => absurd h' (by omega)) (.inr c)]; simp⟩
                    have e1 : (bt d ((k : Int) - 1) != 92) = true := bne_iff_ne.mpr c
                    clear c k3 k4
                    go_wp2_with (first | (go_at_call 28; rw [HDD.out]; (with_reducible refine (ixCall _ _ _ K1.out _).mono ?_); rintro e w' ⟨rfl, rfl⟩))
                    go_quiet (fail)
                    go_wp2
                    go_ret3
                    exact ⟨saidR_some HC.out rfl HX.out rfl, pw_below_drewN (Below.refl _ _) _⟩
      · have HC : Aside0 (Fj.qend (bytesOf a) = some n) := ⟨by
          rw [qend_at a n n (Nat.le_refl _) h2 h3 h4 (fun j h h' => by omega) (.inr c)]
          simp⟩
        have e1 : (bt a ((n : Int) - 1) != 92) = true := bne_iff_ne.mpr c
        clear h3 h4 c
        go_enter Tryd.func29, Tryd.ntmps29
        go_wp2_with (first | (go_at_call 28; (with_reducible refine (ixCall _ _ _ H1.out _).mono ?_); rintro e w' ⟨rfl, rfl⟩))
        go_quiet (fail)
        go_wp2
        go_ret3
        exact ⟨saidR_some HC.out rfl rfl rfl, pw_below_drewN (Below.refl _ _) _⟩
end Go.Proofs.YtjnfdgibogbgiaaDoor.FjW
namespace Go.Proofs.YtjnfdgibogbgiaaDoor.FjW
open Go.RowKit Go.Proofs.YtjnfdgibogbgiaaDoorW.PrintWords Go.Proofs.YtjnfdgibogbgiaaDoorW.PrintLast Go.Proofs.YtjnfdgibogbgiaaDoorW.PrintMore
attribute [local go_sem] max2_int min2_int max_two min_two max_three min_three max_four min_four
set_option linter.unusedVariables false
set_option linter.unusedSimpArgs false

/-- The first byte's bit 32 set: a letter's small form. -/
theorem low_or : ∀ n : Fin 256, (48 ≤ n.val ∧ n.val ≤ 57 ∧ Fj.hexd (n.val : Int) = true) ∨
    (¬ (48 ≤ n.val ∧ n.val ≤ 57) ∧ 97 ≤ bits .or .u8 (n.val : Int) 32 ∧ bits .or .u8 (n.val : Int) 32 ≤ 102 ∧ Fj.hexd (n.val : Int) = true) ∨
    (¬ (48 ≤ n.val ∧ n.val ≤ 57) ∧ (bits .or .u8 (n.val : Int) 32 < 97 ∨ 102 < bits .or .u8 (n.val : Int) 32) ∧ Fj.hexd (n.val : Int) = false) := by
  decide +kernel
theorem low_cases (c : Int) (h0 : 0 ≤ c) (h1 : c ≤ 255) : (48 ≤ c ∧ c ≤ 57 ∧ Fj.hexd c = true) ∨
    (¬ (48 ≤ c ∧ c ≤ 57) ∧ 97 ≤ bits .or .u8 c 32 ∧ bits .or .u8 c 32 ≤ 102 ∧ Fj.hexd c = true) ∨
    (¬ (48 ≤ c ∧ c ≤ 57) ∧ (bits .or .u8 c 32 < 97 ∨ 102 < bits .or .u8 c 32) ∧ Fj.hexd c = false) := by
  obtain ⟨n, rfl⟩ : ∃ n : Nat, c = (n : Int) := ⟨c.toNat, by omega⟩
  have := low_or ⟨n, by omega⟩
  simp only [] at this
  rcases this with ⟨a, b, c⟩ | ⟨a, b, c, d⟩ | ⟨a, b, c⟩
  · exact .inl ⟨by omega, by omega, c⟩
  · exact .inr (.inl ⟨by omega, b, c, d⟩)
  · exact .inr (.inr ⟨by omega, b, c⟩)
/-- Four hexadecimal digits. -/
def hx4 (t : ByteArray) : Bool := Fj.hexd (bt t 0) && (Fj.hexd (bt t 1) && (Fj.hexd (bt t 2) && Fj.hexd (bt t 3)))
def Hx (t : ByteArray) (E : TypeId) (e : Ending) : Prop := if hx4 t = true then ∃ v : Int, e = .returned (.tuple #[.int .u64 v, .nilIface]) else e = .returned (.tuple #[.int .u64 0, .iface E (.int .i64 2)])
theorem hx_yes {t : ByteArray} {E : TypeId} {e : Ending} (h : ∀ j : Nat, j < 4 → Fj.hexd (bt t (j : Int)) = true) (v : Int) (he : e = .returned (.tuple #[.int .u64 v, .nilIface])) : Hx t E e := by
  have h0 := h 0 (by decide); have h1 := h 1 (by decide); have h2 := h 2 (by decide); have h3 := h 3 (by decide)
  unfold Hx
  rw [if_pos (by unfold hx4; simp only [Bool.and_eq_true]; exact ⟨h0, h1, h2, h3⟩)]
  exact ⟨v, he⟩
theorem hx_no {t : ByteArray} {E : TypeId} {e : Ending} (j : Nat) (hj : j < 4) (h : Fj.hexd (bt t (j : Int)) = false) (he : e = .returned (.tuple #[.int .u64 0, .iface E (.int .i64 2)])) : Hx t E e := by
  unfold Hx
  rw [if_neg]
  · exact he
  · unfold hx4
    simp only [Bool.and_eq_true]
    rintro ⟨a, b, c, d⟩
    match j, hj with
    | 0, _ => rw [show Fj.hexd (bt t 0) = false from h] at a; cases a
    | 1, _ => rw [show Fj.hexd (bt t 1) = false from h] at b; cases b
    | 2, _ => rw [show Fj.hexd (bt t 2) = false from h] at c; cases c
    | 3, _ => rw [show Fj.hexd (bt t 3) = false from h] at d; cases d
set_option maxHeartbeats 8000000 in
set_option maxRecDepth 100000 in
theorem hexIn (t : ByteArray) (ht : t.size = 4) (w : World) :
    Calls Tryd.prog 35 #[.string t, .int .i64 16, .int .i64 16] w fun e w' => Hx t 63 e ∧ Below w.heap.size w w' := by
  have hemp : t.toList.isEmpty = false := by
    rw [← decide_eq_emptyBytes]
    exact decide_eq_false (fun h => by rw [h] at ht; cases ht)
  have hcv := Lib.run_convert_string_bytes (P := Tryd.prog) w 9 65 5 t (u := .string) Tryd.underlying9 Tryd.underlying65 Tryd.underlying5
  have hB0 : ∀ j, j < t.size → (Lib.bytesWorld w 5 t).cell? ⟨w.heap.size, j, none⟩ = some (.int .u8 (bt t (j : Int))) := fun j hj => by
    rw [Lib.bytesWorld_cell w 5 t j hj, ← rd_bytesOf]
    unfold rd
    have h' : j < t.data.toList.length := by rw [data_length]; exact hj
    simp [bytesOf, List.getD_eq_getElem?_getD, List.getElem?_eq_getElem h']
  have HBW := Aside0.mk (bytes_below (Below.refl w.heap.size w) (Nat.le_refl _) 5 t)
  obtain ⟨W1, hW1⟩ : ∃ W1, W1 = Lib.bytesWorld w 5 t := ⟨_, rfl⟩
  rw [← hW1] at hcv hB0 HBW
  have HB := Aside0.mk hB0
  clear hB0 hW1
  rw [ht] at hcv
  have HT := Aside0.mk ht
  go_enter Tryd.func35, Tryd.ntmps35
  go_wp2
  go_loop [12, 13, 101] (fun vu vn vi => ∃ (k : Nat) (a : Int), vu = .bool false ∧ vn = .int .u64 a ∧ vi = .int .i64 (k : Int) ∧ k ≤ 4 ∧ 0 ≤ a ∧ Aside0 (a + 1 ≤ (16 : Int) ^ k) ∧ Aside0 (∀ j : Nat, j < k → Fj.hexd (bt t (j : Int)) = true)) (fun _ _ vi => 4 - (intOf vi).toNat)
  case atStart => exact ⟨0, 0, rfl, rfl, rfl, by omega, Int.le_refl _, ⟨by decide⟩, ⟨fun j hj => absurd hj (Nat.not_lt_zero _)⟩⟩
  case round =>
    obtain ⟨k, a, rfl, rfl, rfl, hk, ha0, HA, HH⟩ := hrel
    by_cases hlt : k < 4
    · have hc := HB.out k (by rw [HT.out]; exact hlt)
      have ha1 : a ≤ 4095 := by
        have := HA.out
        match k, hlt with
        | 0, _ => simp at this; omega
        | 1, _ => simp at this; omega
        | 2, _ => simp at this; omega
        | 3, _ => simp at this; omega
      obtain ⟨c, hcb⟩ : ∃ c, bt t (k : Int) = c := ⟨_, rfl⟩
      have hr := bt_range t (k : Int)
      rw [hcb] at hc hr
      obtain ⟨hr0, hr1⟩ := hr
      rcases low_cases c hr0 hr1 with ⟨g1, g2, g3⟩ | ⟨g1, g2, g3, g4⟩ | ⟨g1, g2, g3⟩
      · have HN : Aside0 (a * 16 + (c - 48) + 1 ≤ (16 : Int) ^ (k + 1)) := ⟨by have := HA.out; rw [Int.pow_succ]; omega⟩
        have HH' : Aside0 (∀ j : Nat, j < k + 1 → Fj.hexd (bt t (j : Int)) = true) := ⟨fun j hj => by
          by_cases e : j = k
          · rw [e, hcb]; exact g3
          · exact HH.out j (by omega)⟩
        clear HA HH g3 hcb
        go_wp2
        go_round
        case rel => exact ⟨k + 1, a * 16 + (c - 48), rfl, by go_num, by go_num, by omega, by omega, HN, HH'⟩
        case measure => simp [intOf]; omega
      · obtain ⟨L, hL⟩ : ∃ L, bits .or .u8 c 32 = L := ⟨_, rfl⟩
        have HL := Aside0.mk hL
        rw [hL] at g2 g3
        have h95 : (c == 95) = false := beq_eq_false_iff_ne.mpr (fun h => by rw [h] at g4; revert g4; decide)
        have HN : Aside0 (a * 16 + (L - 97 + 10) + 1 ≤ (16 : Int) ^ (k + 1)) := ⟨by have := HA.out; rw [Int.pow_succ]; omega⟩
        have HH' : Aside0 (∀ j : Nat, j < k + 1 → Fj.hexd (bt t (j : Int)) = true) := ⟨fun j hj => by
          by_cases e : j = k
          · rw [e, hcb]; exact g4
          · exact HH.out j (by omega)⟩
        clear HA HH g4 hcb hL
        go_wp2_with (go_at_call 38; (with_reducible refine (Tryd.internal_strconv_lower _ _).mono ?_); rw [HL.out]; rintro e w' ⟨rfl, rfl⟩)
        all_goals
          go_round
          case rel => exact ⟨k + 1, a * 16 + (L - 97 + 10), rfl, by go_num, by go_num, by omega, by omega, HN, HH'⟩
          case measure => simp [intOf]; omega
      · obtain ⟨L, hL⟩ : ∃ L, bits .or .u8 c 32 = L := ⟨_, rfl⟩
        have HL := Aside0.mk hL
        have hL0 := bits_lo_u8 .or c 32
        have hL1 := bits_hi_u8 .or c 32
        rw [hL] at g2 hL0 hL1
        have HJ : Aside0 (Fj.hexd (bt t (k : Int)) = false) := ⟨by rw [hcb]; exact g3⟩
        clear HA HH g3 hcb hL
        by_cases h95 : c = 95
        · subst h95
          obtain rfl : L = 127 := by rw [← HL.out]; decide
          clear g1 g2 hL0 hL1
          go_wp2_with (go_at_call 38; (with_reducible refine (Tryd.internal_strconv_lower _ _).mono ?_); rw [HL.out]; rintro e w' ⟨rfl, rfl⟩)
          go_ret2
          exact ⟨hx_no k hlt HJ.out rfl, HBW.out⟩
        replace h95 : (c == 95) = false := beq_eq_false_iff_ne.mpr h95
        rcases g2 with g2 | g2
        · go_wp2_with (go_at_call 38; (with_reducible refine (Tryd.internal_strconv_lower _ _).mono ?_); rw [HL.out]; rintro e w' ⟨rfl, rfl⟩)
          all_goals
            go_ret2
            exact ⟨hx_no k hlt HJ.out rfl, HBW.out⟩
        · by_cases g5 : L ≤ 122
          all_goals
            go_wp2_with (go_at_call 38; (with_reducible refine (Tryd.internal_strconv_lower _ _).mono ?_); rw [HL.out]; rintro e w' ⟨rfl, rfl⟩)
          all_goals
            go_ret2
            exact ⟨hx_no k hlt HJ.out rfl, HBW.out⟩
    · have hd : decide ((k : Int) < 4) = false := decide_eq_false (by omega)
      have HK : Aside0 (∀ j : Nat, j < 4 → Fj.hexd (bt t (j : Int)) = true) := ⟨fun j hj => HH.out j (by omega)⟩
      clear hlt
      go_wp2
      go_ret2
      exact ⟨hx_yes HK.out _ rfl, HBW.out⟩
end Go.Proofs.YtjnfdgibogbgiaaDoor.FjW
namespace Go.Proofs.YtjnfdgibogbgiaaDoor.FjW
open Go.RowKit Go.Proofs.YtjnfdgibogbgiaaDoorW.PrintWords Go.Proofs.YtjnfdgibogbgiaaDoorW.PrintLast Go.Proofs.YtjnfdgibogbgiaaDoorW.PrintMore
attribute [local go_sem] max2_int min2_int max_two min_two max_three min_three max_four min_four
set_option linter.unusedVariables false
set_option linter.unusedSimpArgs false

set_option maxHeartbeats 2000000 in
theorem hexYes (t : ByteArray) (ht : t.size = 4) (hx : hx4 t = true) (w : World) :
    Calls Tryd.prog 30 #[.string t, .int .i64 16, .int .i64 16] w fun e w' => (∃ v : Int, e = .returned (.tuple #[.int .u64 v, .nilIface])) ∧ Below w.heap.size w w' := by
  have HT := Aside0.mk ht
  have HX := Aside0.mk hx
  clear ht hx
  go_enter Tryd.func30, Tryd.ntmps30
  go_wp2_with (go_at_call 35; (with_reducible refine (hexIn _ HT.out _).mono ?_); rintro e w' ⟨h, hb⟩; unfold Hx at h; rw [if_pos HX.out] at h; obtain ⟨v, rfl⟩ := h; have HB := Aside0.mk hb; clear hb)
  go_ret2
  exact ⟨⟨v, rfl⟩, HB.out⟩
set_option maxHeartbeats 2000000 in
theorem hexNo (t : ByteArray) (ht : t.size = 4) (hx : hx4 t = false) (w : World) (hG : Glob w) :
    Calls Tryd.prog 30 #[.string t, .int .i64 16, .int .i64 16] w fun e w' => (∃ v T u, e = .returned (.tuple #[.int .u64 v, .iface T u])) ∧ Below w.heap.size w w' := by
  have HT := Aside0.mk ht
  have HX := Aside0.mk hx
  have HG := Aside0.mk hG
  clear ht hx hG
  go_enter Tryd.func30, Tryd.ntmps30
  go_wp2_with (first
    | (go_at_call 35; (with_reducible refine (hexIn _ HT.out _).mono ?_); rintro e w' ⟨h, hb⟩; unfold Hx at h; rw [if_neg (by rw [HX.out]; decide)] at h; subst h; have HB := Aside0.mk hb; have HV := Aside0.mk (HG.out.below hb); clear hb)
    | (go_at_call 36; obtain ⟨te, pe, hv⟩ := HV.out; (with_reducible refine (Tryd.strconv_toError_syntax _ _ _ _ _ _ (by rw [HT.out]; decide) hv (.inr ⟨te, pe, rfl⟩)).mono ?_); clear hv; rintro e w2 ⟨N, rfl, _, _, hb⟩; have HB2 := Aside0.mk hb; clear hb))
  go_ret2
  exact ⟨⟨_, _, _, rfl⟩, HB.out.trans (HB2.out.mono HB.out.size)⟩
end Go.Proofs.YtjnfdgibogbgiaaDoor.FjW
namespace Go.Proofs.YtjnfdgibogbgiaaDoor.FjW
open Go.RowKit Go.Proofs.YtjnfdgibogbgiaaDoorW.PrintWords Go.Proofs.YtjnfdgibogbgiaaDoorW.PrintLast Go.Proofs.YtjnfdgibogbgiaaDoorW.PrintMore
attribute [local go_sem] max2_int min2_int max_two min_two max_three min_three max_four min_four
set_option linter.unusedVariables false
set_option linter.unusedSimpArgs false

theorem escs92_pos {r : List Int} {m : Nat} (h : Fj.escs (92 :: r) = some m) : m ≠ 0 := by
  rw [Fj.escs.eq_def] at h
  simp only [if_true] at h
  repeat' split at h
  all_goals first
    | (cases h; done)
    | (obtain ⟨x, _, rfl⟩ := Option.map_eq_some_iff.mp h; omega)
/-- At the first backslash of a text. -/
theorem esc_at (b : ByteArray) (n : Nat) (hn : n < b.size) (h92 : bt b (n : Int) = 92) (hno : (92 : Int) ∉ (bytesOf b).take n) : Fj.escs (bytesOf b) = (Fj.escs (92 :: D b (n + 1))).map (n + ·) := by
  have e1 : D b n = 92 :: D b (n + 1) := by rw [← h92]; exact D_cons b n hn
  have e2 := Fj.escs_ahead (D b n) ((bytesOf b).take n) hno
  rw [List.take_append_drop] at e2
  rw [e2, e1]
  have hl : ((bytesOf b).take n).length = n := by rw [List.length_take, bytesOf_length]; omega
  rw [hl]
  cases h : Fj.escs (92 :: D b (n + 1)) with
  | none => rfl
  | some m =>
    have := escs92_pos h
    simp only [Option.map_some]
    rw [if_neg this]
theorem esc_simple (b : ByteArray) (n : Nat) (hn : n + 1 < b.size) (h : Fj.simple8 (bt b ((n : Int) + 1)) = true) : Fj.escs (92 :: D b (n + 1)) = (Fj.escs (D b (n + 2))).map (· + 2) := by
  have e : D b (n + 1) = bt b ((n : Int) + 1) :: D b (n + 2) := D_cons b (n + 1) hn
  rw [e, Fj.escs_simple h]
theorem D_four (b : ByteArray) (p : Nat) (h : p + 4 ≤ b.size) : D b p = bt b (p : Int) :: bt b ((p + 1 : Nat) : Int) :: bt b ((p + 2 : Nat) : Int) :: bt b ((p + 3 : Nat) : Int) :: D b (p + 4) := by
  rw [D_cons b p (by omega), D_cons b (p + 1) (by omega), D_cons b (p + 1 + 1) (by omega), D_cons b (p + 1 + 1 + 1) (by omega)]
theorem hx4_at (b : ByteArray) (p : Nat) : hx4 ((cut b p).extract 0 4) = if p + 4 ≤ b.size then (Fj.hexd (bt b (p : Int)) && (Fj.hexd (bt b ((p + 1 : Nat) : Int)) && (Fj.hexd (bt b ((p + 2 : Nat) : Int)) && Fj.hexd (bt b ((p + 3 : Nat) : Int))))) else hx4 ((cut b p).extract 0 4) := by
  by_cases h : p + 4 ≤ b.size
  · rw [if_pos h]
    have g : ∀ j : Nat, j < 4 → bt ((cut b p).extract 0 4) (j : Int) = bt b ((p + j : Nat) : Int) := fun j hj => by
      rw [← rd_bytesOf, ← cut_bt, ← rd_bytesOf]
      unfold rd bytesOf
      rw [ByteArray.data_extract, Array.toList_extract, List.extract_eq_take_drop]
      simp [List.getD_eq_getElem?_getD, List.getElem?_take, hj]
    unfold hx4
    have g0 := g 0 (by decide); have g1 := g 1 (by decide); have g2 := g 2 (by decide); have g3 := g 3 (by decide)
    rw [show bt ((cut b p).extract 0 4) 0 = bt b (p : Int) from g0, show bt ((cut b p).extract 0 4) 1 = bt b ((p + 1 : Nat) : Int) from g1, show bt ((cut b p).extract 0 4) 2 = bt b ((p + 2 : Nat) : Int) from g2, show bt ((cut b p).extract 0 4) 3 = bt b ((p + 3 : Nat) : Int) from g3]
  · rw [if_neg h]
theorem esc_u (b : ByteArray) (n : Nat) (hn : n + 1 < b.size) (h : bt b ((n : Int) + 1) = 117) (h4 : n + 2 + 4 ≤ b.size) (hx : hx4 ((cut b (n + 2)).extract 0 4) = true) : Fj.escs (92 :: D b (n + 1)) = (Fj.escs (D b (n + 6))).map (· + 6) := by
  rw [hx4_at, if_pos h4] at hx
  have e : D b (n + 1) = bt b ((n : Int) + 1) :: D b (n + 2) := D_cons b (n + 1) hn
  rw [e, h, D_four b (n + 2) h4, Fj.escs_u hx]
theorem esc_u_bad (b : ByteArray) (n : Nat) (hn : n + 1 < b.size) (h : bt b ((n : Int) + 1) = 117) (hx : b.size < n + 2 + 4 ∨ hx4 ((cut b (n + 2)).extract 0 4) = false) : Fj.escs (92 :: D b (n + 1)) = none := by
  have e : D b (n + 1) = bt b ((n : Int) + 1) :: D b (n + 2) := D_cons b (n + 1) hn
  rw [e, h]
  refine Fj.escs_bad (by decide) _ (fun _ x0 x1 x2 x3 r hr => ?_)
  have hl : (D b (n + 2)).length = b.size - (n + 2) := D_len b (n + 2)
  have hge : n + 2 + 4 ≤ b.size := by rw [hr] at hl; simp only [List.length_cons] at hl; omega
  rcases hx with hx | hx
  · omega
  · rw [hx4_at, if_pos hge] at hx
    rw [D_four b (n + 2) hge] at hr
    simp only [List.cons.injEq] at hr
    obtain ⟨rfl, rfl, rfl, rfl, _⟩ := hr
    exact hx
theorem esc_other (b : ByteArray) (n : Nat) (hn : n + 1 < b.size) (h8 : Fj.simple8 (bt b ((n : Int) + 1)) = false) (hu : bt b ((n : Int) + 1) ≠ 117) : Fj.escs (92 :: D b (n + 1)) = none := by
  have e : D b (n + 1) = bt b ((n : Int) + 1) :: D b (n + 2) := D_cons b (n + 1) hn
  rw [e]
  exact Fj.escs_bad h8 _ (fun h => absurd h hu)
theorem esc_end (b : ByteArray) (n : Nat) (hn : b.size ≤ n + 1) : Fj.escs (92 :: D b (n + 1)) = none := by
  rw [D_nil b (n + 1) hn, Fj.escs_short]
/-- A letter behind a backslash: one of eight, u, or another. -/
theorem letter_or (c : Int) : (c = 34 ∧ Fj.simple8 c = true) ∨ ((c == 34) = false ∧ c = 92 ∧ Fj.simple8 c = true) ∨ ((c == 34) = false ∧ (c == 92) = false ∧ c = 47 ∧ Fj.simple8 c = true) ∨
    ((c == 34) = false ∧ (c == 92) = false ∧ (c == 47) = false ∧ c = 98 ∧ Fj.simple8 c = true) ∨ ((c == 34) = false ∧ (c == 92) = false ∧ (c == 47) = false ∧ (c == 98) = false ∧ c = 102 ∧ Fj.simple8 c = true) ∨
    ((c == 34) = false ∧ (c == 92) = false ∧ (c == 47) = false ∧ (c == 98) = false ∧ (c == 102) = false ∧ c = 110 ∧ Fj.simple8 c = true) ∨
    ((c == 34) = false ∧ (c == 92) = false ∧ (c == 47) = false ∧ (c == 98) = false ∧ (c == 102) = false ∧ (c == 110) = false ∧ c = 114 ∧ Fj.simple8 c = true) ∨
    ((c == 34) = false ∧ (c == 92) = false ∧ (c == 47) = false ∧ (c == 98) = false ∧ (c == 102) = false ∧ (c == 110) = false ∧ (c == 114) = false ∧ c = 116 ∧ Fj.simple8 c = true) ∨
    ((c == 34) = false ∧ (c == 92) = false ∧ (c == 47) = false ∧ (c == 98) = false ∧ (c == 102) = false ∧ (c == 110) = false ∧ (c == 114) = false ∧ (c == 116) = false ∧ Fj.simple8 c = false) := by
  unfold Fj.simple8
  cases h1 : (c == 34) with
  | true => exact .inl ⟨beq_iff_eq.mp h1, rfl⟩
  | false =>
  cases h2 : (c == 92) with
  | true => exact .inr (.inl ⟨rfl, beq_iff_eq.mp h2, rfl⟩)
  | false =>
  cases h3 : (c == 47) with
  | true => exact .inr (.inr (.inl ⟨rfl, rfl, beq_iff_eq.mp h3, rfl⟩))
  | false =>
  cases h4 : (c == 98) with
  | true => exact .inr (.inr (.inr (.inl ⟨rfl, rfl, rfl, beq_iff_eq.mp h4, rfl⟩)))
  | false =>
  cases h5 : (c == 102) with
  | true => exact .inr (.inr (.inr (.inr (.inl ⟨rfl, rfl, rfl, rfl, beq_iff_eq.mp h5, rfl⟩))))
  | false =>
  cases h6 : (c == 110) with
  | true => exact .inr (.inr (.inr (.inr (.inr (.inl ⟨rfl, rfl, rfl, rfl, rfl, beq_iff_eq.mp h6, rfl⟩)))))
  | false =>
  cases h7 : (c == 114) with
  | true => exact .inr (.inr (.inr (.inr (.inr (.inr (.inl ⟨rfl, rfl, rfl, rfl, rfl, rfl, beq_iff_eq.mp h7, rfl⟩))))))
  | false =>
  cases h8 : (c == 116) with
  | true => exact .inr (.inr (.inr (.inr (.inr (.inr (.inr (.inl ⟨rfl, rfl, rfl, rfl, rfl, rfl, rfl, beq_iff_eq.mp h8, rfl⟩)))))))
  | false => exact .inr (.inr (.inr (.inr (.inr (.inr (.inr (.inr ⟨rfl, rfl, rfl, rfl, rfl, rfl, rfl, rfl, rfl⟩)))))))
/-- A string's last part and what is behind it, or an error. -/
def SaidS (a : ByteArray) (o : Option (Nat × Nat)) (e : Ending) : Prop := match o with
  | none => ∃ (x y : ByteArray) (T : TypeId) (u : Value), e = .returned (.tuple #[.string x, .string y, .iface T u])
  | some p => e = .returned (.tuple #[.string (a.extract p.1 p.2), .string (cut a (p.2 + 1)), .nilIface])
theorem saidS_none {a : ByteArray} {o : Option (Nat × Nat)} (h : o = none) (e : Ending) (x y : ByteArray) (T : TypeId) (u : Value) (he : e = .returned (.tuple #[.string x, .string y, .iface T u])) : SaidS a o e := by
  subst h; exact ⟨x, y, T, u, he⟩
theorem saidS_some {a x y : ByteArray} {o : Option (Nat × Nat)} {m q : Nat} (h : o = some (m, q)) (hx : x = a.extract m q) (hy : y = cut a (q + 1)) {e : Ending} (he : e = .returned (.tuple #[.string x, .string y, .nilIface])) : SaidS a o e := by
  subst h; subst hx; subst hy; exact he
theorem extract_bytes (a : ByteArray) (m q : Nat) : bytesOf (a.extract m q) = ((bytesOf a).take q).drop m := by
  unfold bytesOf
  rw [ByteArray.data_extract, Array.toList_extract, List.extract_eq_take_drop, ← List.map_take, ← List.map_drop, List.drop_take]
theorem extract_size_le (a : ByteArray) (m q : Nat) : (a.extract m q).size ≤ a.size := by
  rw [← bytesOf_length, extract_bytes, List.length_drop, List.length_take, bytesOf_length]; omega
theorem vs_none {l : List Int} (h : Fj.qend l = none) : Fj.vs l = none := by unfold Fj.vs; rw [h]
theorem vs_some {l : List Int} {q : Nat} (h : Fj.qend l = some q) : Fj.vs l = (Fj.escs (l.take q)).map (·, q) := by unfold Fj.vs; rw [h]
end Go.Proofs.YtjnfdgibogbgiaaDoor.FjW
