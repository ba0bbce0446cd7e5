/- Proved: errors.New and fastjson's skipWS, as they are called. -/
import Derived.Test.YtjfofbgnppdlgaaDoorProg
import Derived.Test.YtjfofbgnppdlgaaDoorFjA
import Derived.Below
import Derived.Deep.Draws
import Derived.Deep.LoopGhost
import Derived.Deep.QuietTactic
import Derived.BigQuiet
import Derived.WideLaws
import Derived.Deep.DeepCutAuto
import Derived.Deep.CutBlock
import Derived.Deep.RegionHeld3
import Derived.Laws.Rows
import Derived.OrdersHeld
import Derived.Test.YtjfofbgnppdlgaaDoorWWords
import Derived.Test.YtjfofbgnppdlgaaDoorWLast
import Derived.Test.YtjfofbgnppdlgaaDoorWTab
import Derived.Test.YtjfofbgnppdlgaaDoorWFour
import Derived.Test.YtjfofbgnppdlgaaDoorWAt
import Derived.Test.YtjfofbgnppdlgaaDoorWNEv
import Derived.Test.YtjfofbgnppdlgaaDoorWMore
namespace Go.Proofs.YtjfofbgnppdlgaaDoor.FjW
open Go.RowKit Go.Proofs.YtjfofbgnppdlgaaDoorW.PrintWords Go.Proofs.YtjfofbgnppdlgaaDoorW.PrintLast Go.Proofs.YtjfofbgnppdlgaaDoorW.PrintMore
attribute [local go_sem] max2_int min2_int max_two min_two max_three min_three max_four min_four
set_option linter.unusedVariables false
set_option linter.unusedSimpArgs false

/-- A text from its byte m on. -/
abbrev cut (a : ByteArray) (m : Nat) : ByteArray := a.extract m a.size
theorem bt_out (s : ByteArray) (i : Int) (h : s.size ≤ i) : bt s i = 0 := by
  rw [← rd_bytesOf]
  exact Base.rd_out _ _ (by rw [bytesOf_length]; omega)
theorem cut_bytes (a : ByteArray) (m : Nat) : bytesOf (cut a m) = (bytesOf a).drop m := by
  unfold bytesOf
  rw [ByteArray.data_extract, Array.toList_extract, List.extract_eq_take_drop, ← List.map_drop, List.take_of_length_le (by rw [List.length_drop, data_length]; omega)]
theorem cut_size (a : ByteArray) (m : Nat) : (cut a m).size = a.size - m := by
  rw [← bytesOf_length, cut_bytes, List.length_drop, bytesOf_length]
theorem cut_zero (a : ByteArray) : cut a 0 = a := Base.bytes_inj (by rw [cut_bytes, List.drop_zero])
theorem cut_cut (a : ByteArray) (m n : Nat) : cut (cut a m) n = cut a (m + n) := Base.bytes_inj (by rw [cut_bytes, cut_bytes, cut_bytes, List.drop_drop])
theorem cut_end (a : ByteArray) (m : Nat) (h : a.size ≤ m) : cut a m = ⟨#[]⟩ := Base.bytes_inj (by rw [cut_bytes, List.drop_of_length_le (by rw [bytesOf_length]; exact h)]; rfl)
/-- The bytes of s from p on. -/
abbrev D (s : ByteArray) (p : Nat) : List Int := (bytesOf s).drop p
theorem cut_D (a : ByteArray) (m p : Nat) : D (cut a m) p = D a (m + p) := by rw [D, cut_bytes, List.drop_drop]
theorem rd_D (s : ByteArray) (p j : Nat) : rd (D s p) (j : Int) = bt s ((p + j : Nat) : Int) := by
  rw [← rd_bytesOf]
  unfold rd
  simp only [Int.toNat_natCast, List.getD_eq_getElem?_getD, List.getElem?_drop]
theorem rd_D0 (s : ByteArray) (p : Nat) : rd (D s p) 0 = bt s (p : Int) := rd_D s p 0
theorem cut_bt (a : ByteArray) (m j : Nat) : bt (cut a m) (j : Int) = bt a ((m + j : Nat) : Int) := by
  rw [← rd_bytesOf, cut_bytes, rd_D]
theorem D_cons (s : ByteArray) (p : Nat) (h : p < s.size) : D s p = bt s (p : Int) :: D s (p + 1) := by
  have hl : p < (bytesOf s).length := by rw [bytesOf_length]; exact h
  have e : (bytesOf s)[p]'hl = bt s (p : Int) := by
    rw [← rd_bytesOf]
    unfold rd
    simp only [Int.toNat_natCast, List.getD_eq_getElem?_getD]
    rw [List.getElem?_eq_getElem hl]
    rfl
  rw [← e]
  exact List.drop_eq_getElem_cons hl
theorem D_nil (s : ByteArray) (p : Nat) (h : s.size ≤ p) : D s p = [] := List.drop_of_length_le (by rw [bytesOf_length]; exact h)
theorem D_drop (s : ByteArray) (p m : Nat) : (D s p).drop m = D s (p + m) := by rw [List.drop_drop]
theorem D_len (s : ByteArray) (p : Nat) : (D s p).length = s.size - p := by rw [List.length_drop, bytesOf_length]
theorem ws_at (s : ByteArray) (p : Nat) : Fj.ws (D s p) = if p < s.size ∧ Fj.blank (bt s (p : Int)) = true then Fj.ws (D s (p + 1)) + 1 else 0 := by
  by_cases h : p < s.size
  · rw [D_cons s p h, Fj.ws]
    by_cases b : Fj.blank (bt s (p : Int)) = true
    · rw [if_pos b, if_pos ⟨h, b⟩]
    · rw [if_neg b, if_neg (fun x => b x.2)]
  · rw [D_nil s p (by omega), if_neg (fun x => h x.1)]; rfl
theorem blank_no {c : Int} (h1 : (c == 32) = false) (h2 : (c == 10) = false) (h3 : (c == 9) = false) (h4 : (c == 13) = false) : Fj.blank c = false := by
  unfold Fj.blank; rw [h1, h2, h3, h4]; rfl
/-- A byte is one of the four blanks, or none. -/
theorem blank_or (c : Int) : (c = 32 ∧ Fj.blank c = true) ∨ ((c != 32) = true ∧ c = 10 ∧ Fj.blank c = true) ∨ ((c != 32) = true ∧ (c != 10) = true ∧ c = 9 ∧ Fj.blank c = true) ∨
    ((c != 32) = true ∧ (c != 10) = true ∧ (c != 9) = true ∧ c = 13 ∧ Fj.blank c = true) ∨ ((c != 32) = true ∧ (c != 10) = true ∧ (c != 9) = true ∧ (c != 13) = true ∧ Fj.blank c = false) := by
  by_cases a : c = 32
  · subst a; exact .inl ⟨rfl, rfl⟩
  · by_cases b : c = 10
    · subst b; exact .inr (.inl ⟨bne_iff_ne.mpr a, rfl, rfl⟩)
    · by_cases d : c = 9
      · subst d; exact .inr (.inr (.inl ⟨bne_iff_ne.mpr a, bne_iff_ne.mpr b, rfl, rfl⟩))
      · by_cases e : c = 13
        · subst e; exact .inr (.inr (.inr (.inl ⟨bne_iff_ne.mpr a, bne_iff_ne.mpr b, bne_iff_ne.mpr d, rfl, rfl⟩)))
        · exact .inr (.inr (.inr (.inr ⟨bne_iff_ne.mpr a, bne_iff_ne.mpr b, bne_iff_ne.mpr d, bne_iff_ne.mpr e, blank_no (beq_eq_false_iff_ne.mpr a) (beq_eq_false_iff_ne.mpr b) (beq_eq_false_iff_ne.mpr d) (beq_eq_false_iff_ne.mpr e)⟩)))
/-- An error: some value that is not nil. -/
def Err (v : Value) : Prop := ∃ T u, v = .iface T u
set_option maxHeartbeats 1000000 in
theorem errNew (t : ByteArray) (w : World) :
    Calls Tryd.prog 12 #[.string t] w fun e w' => (∃ T u, e = .returned (.iface T u)) ∧ Below w.heap.size w w' := by
  have HB := Aside0.mk (Below.refl w.heap.size w)
  go_enter Tryd.func12, Tryd.ntmps12
  go_wp2
  go_ret
  exact ⟨⟨_, _, rfl⟩, below_alloc (Below.refl _ _) _⟩
set_option maxHeartbeats 2000000 in
theorem skipSlow (a : ByteArray) (hs : a.size ≤ 1000000) (w : World) :
    Calls Tryd.prog 20 #[.string a] w fun e w' => e = .returned (.string (cut a (Fj.ws (bytesOf a)))) ∧ w' = w := by
  have HS := Aside0.mk hs
  by_cases h0 : a.size = 0
  · have HC : Aside0 (cut a (Fj.ws (bytesOf a)) = a) := ⟨by
      have : Fj.ws (bytesOf a) = 0 := by
        have := Fj.ws_le (bytesOf a)
        rw [bytesOf_length] at this
        omega
      rw [this, cut_zero]⟩
    have e1 : ((a.size : Int) == 0) = true := beq_iff_eq.mpr (by omega)
    clear h0 hs
    go_enter Tryd.func20, Tryd.ntmps20
    go_wp2
    go_ret
    exact ⟨by rw [HC.out]; rfl, rfl⟩
  · have e1 : ((a.size : Int) == 0) = false := beq_eq_false_iff_ne.mpr (by omega)
    have hz : 0 < a.size := by omega
    clear h0
    have W0 : Fj.ws (bytesOf a) = if 0 < a.size ∧ Fj.blank (bt a 0) = true then Fj.ws (D a 1) + 1 else 0 := ws_at a 0
    have hx : ∀ h : 0 < a.size, ((a[0]'h).toNat : Int) = bt a 0 := bt_at a 0
    rcases blank_or (bt a 0) with ⟨f1, hb⟩ | ⟨f1, f2, hb⟩ | ⟨f1, f2, f3, hb⟩ | ⟨f1, f2, f3, f4, hb⟩ | ⟨f1, f2, f3, f4, hb⟩
    rotate_right 1
    · have HC : Aside0 (cut a (Fj.ws (bytesOf a)) = a) := ⟨by
        rw [W0, if_neg (by rw [hb]; simp), cut_zero]⟩
      clear W0 hb
      go_enter Tryd.func20, Tryd.ntmps20
      go_wp2
      go_ret
      exact ⟨by rw [HC.out]; rfl, rfl⟩
    all_goals
      have HW : Aside0 (Fj.ws (bytesOf a) = 1 + Fj.ws (D a 1)) := ⟨by
        rw [W0, if_pos ⟨hz, hb⟩]; omega⟩
      clear W0 hb
      go_enter Tryd.func20, Tryd.ntmps20
      go_wp2
      clear hx
      go_loop [3] (fun v => ∃ j : Nat, v = .int .i64 (j : Int) ∧ 1 ≤ j ∧ j ≤ a.size ∧ Aside0 (Fj.ws (bytesOf a) = j + Fj.ws (D a j))) (fun v => a.size - (intOf v).toNat)
      case atStart => exact ⟨1, rfl, Nat.le_refl _, by omega, HW⟩
      case round =>
        clear HW
        clear f1
        obtain ⟨j, rfl, hj1, hj2, HW⟩ := hrel
        by_cases hlt : j < a.size
        · have hx : ∀ h : j < a.size, ((a[j]'h).toNat : Int) = bt a (j : Int) := bt_at a (j : Int)
          have W1 := ws_at a j
          rcases blank_or (bt a (j : Int)) with ⟨g1, hb⟩ | ⟨g1, g2, hb⟩ | ⟨g1, g2, g3, hb⟩ | ⟨g1, g2, g3, g4, hb⟩ | ⟨g1, g2, g3, g4, hb⟩
          rotate_right 1
          · have HC : Aside0 (Fj.ws (bytesOf a) = j) := ⟨by rw [HW.out, W1, if_neg (by rw [hb]; simp), Nat.add_zero]⟩
            clear W1 hb
            go_wp2
            go_ret
            exact ⟨by rw [HC.out]; rfl, rfl⟩
          all_goals
            have HW' : Aside0 (Fj.ws (bytesOf a) = j + 1 + Fj.ws (D a (j + 1))) := ⟨by rw [HW.out, W1, if_pos ⟨hlt, hb⟩]; omega⟩
            clear W1 hb HW
            go_wp2
            go_round
            case rel => exact ⟨j + 1, by go_num, by omega, by omega, HW'⟩
            case measure => simp [intOf]; omega
        · have HC : Aside0 (cut a (Fj.ws (bytesOf a)) = ⟨#[]⟩) := ⟨by rw [HW.out]; exact cut_end a _ (by omega)⟩
          obtain rfl : j = a.size := by omega
          clear hlt HW
          go_wp2
          go_ret
          exact ⟨by rw [HC.out]; rfl, rfl⟩
theorem skipWS (a : ByteArray) (hs : a.size ≤ 1000000) (w : World) :
    Calls Tryd.prog 8 #[.string a] w fun e w' => e = .returned (.string (cut a (Fj.ws (bytesOf a)))) ∧ w' = w := by
  have HS := Aside0.mk hs
  by_cases h0 : a.size = 0
  · have e1 : ((a.size : Int) == 0) = true := beq_iff_eq.mpr (by omega)
    have HC : Aside0 (cut a (Fj.ws (bytesOf a)) = a) := ⟨by
      have : Fj.ws (bytesOf a) = 0 := by
        have := Fj.ws_le (bytesOf a)
        rw [bytesOf_length] at this
        omega
      rw [this, cut_zero]⟩
    clear h0 hs
    go_enter Tryd.func8, Tryd.ntmps8
    go_wp2
    go_ret
    exact ⟨by rw [HC.out]; rfl, rfl⟩
  · have e1 : ((a.size : Int) == 0) = false := beq_eq_false_iff_ne.mpr (by omega)
    have hz : 0 < a.size := by omega
    clear h0
    have W0 : Fj.ws (bytesOf a) = if 0 < a.size ∧ Fj.blank (bt a 0) = true then Fj.ws (D a 1) + 1 else 0 := ws_at a 0
    have hx : ∀ h : 0 < a.size, ((a[0]'h).toNat : Int) = bt a 0 := bt_at a 0
    by_cases c : 32 < bt a 0
    · have e2 : decide (32 < bt a 0) = true := decide_eq_true c
      have HC : Aside0 (cut a (Fj.ws (bytesOf a)) = a) := ⟨by
        have hb : Fj.blank (bt a 0) = false := blank_no (beq_eq_false_iff_ne.mpr (by omega)) (beq_eq_false_iff_ne.mpr (by omega)) (beq_eq_false_iff_ne.mpr (by omega)) (beq_eq_false_iff_ne.mpr (by omega))
        rw [W0, if_neg (by rw [hb]; simp), cut_zero]⟩
      clear W0 c
      go_enter Tryd.func8, Tryd.ntmps8
      go_wp2
      go_ret
      exact ⟨by rw [HC.out]; rfl, rfl⟩
    · have e2 : decide (32 < bt a 0) = false := decide_eq_false c
      clear W0 c
      go_enter Tryd.func8, Tryd.ntmps8
      go_wp2_with (first | (go_at_call 20; (with_reducible refine (skipSlow a HS.out _).mono ?_); rintro e w' ⟨rfl, rfl⟩))
      go_ret
      exact ⟨rfl, rfl⟩
end Go.Proofs.YtjfofbgnppdlgaaDoor.FjW
