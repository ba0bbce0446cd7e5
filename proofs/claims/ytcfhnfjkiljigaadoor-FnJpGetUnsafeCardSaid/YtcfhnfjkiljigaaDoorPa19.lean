/- Proved here: parts of the law FnJpGetUnsafe (the texts JpScanFnJpGetUnsafe JpTreeFnJpGetUnsafe JpNameFnJpGetUnsafe JpSpecFnJpGetUnsafe), no conditions of their own beyond what each theorem says. -/
import Derived.Test.YtcfhnfjkiljigaaDoorPa18
import Derived.Test.YtcfhnfjkiljigaaDoorPa2
import Derived.Test.YtcfhnfjkiljigaaDoorPa10
section
namespace Go.Proofs.YtcfhnfjkiljigaaDoor.ReadXFnJpGetUnsafe
open Go.RowKit Go.Proofs.YtcfhnfjkiljigaaDoor.Jp Go.Proofs.YtcfhnfjkiljigaaDoor.Base Go.Proofs.YtcfhnfjkiljigaaDoor.XFnJpGetUnsafe Go.Proofs.YtcfhnfjkiljigaaDoorW.PrintWords Go.Proofs.YtcfhnfjkiljigaaDoorW.PrintLast
set_option linter.unusedVariables false
set_option linter.unusedSimpArgs false
variable {s : ByteArray}
/-- From p on the scan comes to e, at whatever level. -/
def Passes (s : ByteArray) (o c : Int) (p e : Nat) : Prop := ∀ lev E, Scan o c (bytesOf s) e (lev + 1) E → Scan o c (bytesOf s) p (lev + 1) E
theorem Passes.refl (o c : Int) (p : Nat) : Passes s o c p p := fun _ _ h => h
theorem Passes.trans {o c : Int} {p q e : Nat} (h : Passes s o c p q) (g : Passes s o c q e) : Passes s o c p e := fun lev E x => h lev E (g lev E x)
def Brk (o c : Int) : Prop := (o = 123 ∧ c = 125) ∨ (o = 91 ∧ c = 93)
/-- A byte of no weight for the scan. -/
def Dull (x : Int) : Prop := x ≠ 34 ∧ x ≠ 123 ∧ x ≠ 125 ∧ x ≠ 91 ∧ x ≠ 93
instance (x : Int) : Decidable (Dull x) := by unfold Dull; infer_instance
theorem Passes.dull1 {o c : Int} (hb : Brk o c) {p : Nat} (hp : p < s.size) (h : Dull (bt s (p : Int))) : Passes s o c p (p + 1) := by
 intro lev E x
 obtain ⟨h1, h2, h3, h4, h5⟩ := h
 rw [← rd_bytesOf] at h1 h2 h3 h4 h5
 refine .other (by rw [bytesOf_length]; exact hp) h1 ?_ ?_ x
 ·rcases hb with ⟨rfl, rfl⟩ | ⟨rfl, rfl⟩ <;> assumption
 ·rcases hb with ⟨rfl, rfl⟩ | ⟨rfl, rfl⟩ <;> assumption
theorem Passes.dull {o c : Int} (hb : Brk o c) : ∀ (n p : Nat), p + n ≤ s.size → (∀ j, j < n → Dull (bt s ((p + j : Nat) : Int))) → Passes s o c p (p + n)
 | 0, p, _, _ => Passes.refl o c p
 | n + 1, p, h, hd => by
  have h0 := Passes.dull1 (s := s) hb (p := p) (by omega) (by have := hd 0 (by omega); rwa [Nat.add_zero] at this)
  have h1 := Passes.dull hb n (p + 1) (by omega) (fun j hj => by have := hd (j + 1) (by omega); rwa [show p + (j + 1) = p + 1 + j by omega] at this)
  rw [show p + (n + 1) = p + 1 + n by omega]
  exact h0.trans h1
theorem blank_dull {x : Int} (h : Fj.blank x = true) : Dull x := by
 unfold Fj.blank at h
 simp only [Bool.or_eq_true, beq_iff_eq] at h
 unfold Dull
 omega
theorem ws_blank : ∀ (l : List Int) (j : Nat), j < Fj.ws l → Fj.blank (rd l (j : Int)) = true
 | [], j, h => by rw [Fj.ws] at h; omega
 | c :: r, j, h => by
  rw [Fj.ws] at h
  by_cases hb : Fj.blank c = true
  ·rw [if_pos hb] at h
   cases j with
   | zero => exact hb
   | succ j => exact ws_blank r j (by omega)
  ·rw [if_neg hb] at h; omega
theorem Passes.blanks {o c : Int} (hb : Brk o c) (p : Nat) (h : p ≤ s.size) : Passes s o c p (nb s p) := by
 have := nb_le p h
 unfold nb at this ⊢
 exact Passes.dull hb _ p this fun j hj => blank_dull (by have := ws_blank (D s p) j hj; rwa [rd_D] at this)
/-- The inside of a string of the reference ends where jsonparser's does. -/
theorem quo_ends : ∀ (n : Nat) (l : List Int) (m : Nat), l.length ≤ n → Fj.quo l = some m → ∃ q, m = q + 1 ∧ StrEnd.Ends l 34 q
 | _, [], m, _, h => by rw [Fj.quo] at h; cases h
 | 0, _ :: _, m, hn, _ => by simp at hn
 | n + 1, c :: r, m, hn, h => by
  simp only [List.length_cons] at hn
  have cons1 : ∀ (l' : List Int) (q : Nat), StrEnd.Ends l' 34 q → ∀ k : List Int, (∀ x ∈ k, x ≠ (34 : Int)) → StrEnd.escd (k ++ l') k.length = false → (∀ j, StrEnd.escd (k ++ l') (k.length + j) = StrEnd.escd l' j) → StrEnd.Ends (k ++ l') 34 (k.length + q) := by
   intro l' q hq k hk he hj
   have er : ∀ j : Nat, rd (k ++ l') ((k.length + j : Nat) : Int) = rd l' (j : Int) := fun j => by
    unfold rd
    simp only [Int.toNat_natCast, List.getD_eq_getElem?_getD]
    rw [List.getElem?_append_right (by omega), Nat.add_sub_cancel_left]
   refine ⟨by rw [List.length_append]; have := hq.lt; omega, by rw [er]; exact hq.at_, by rw [hj]; exact hq.even, fun j hjq h34 => ?_⟩
   by_cases hlt : j < k.length
   ·exfalso
    unfold rd at h34
    simp only [Int.toNat_natCast, List.getD_eq_getElem?_getD] at h34
    rw [List.getElem?_append_left hlt, List.getElem?_eq_getElem hlt] at h34
    exact hk _ (List.getElem_mem hlt) h34
   ·obtain ⟨i, rfl⟩ : ∃ i, j = k.length + i := ⟨j - k.length, by omega⟩
    rw [er] at h34
    rw [hj]
    exact hq.first i (by omega) h34
  have escd_app : ∀ (l' k : List Int), StrEnd.escd (k ++ l') k.length = false → ∀ j, StrEnd.escd (k ++ l') (k.length + j) = StrEnd.escd l' j := by
   intro l' k h0 j
   induction j with
   | zero => exact h0
   | succ j ih =>
    rw [← Nat.add_assoc, StrEnd.escd, StrEnd.escd, ih]
    congr 1
    unfold rd
    simp only [Int.toNat_natCast, List.getD_eq_getElem?_getD]
    rw [List.getElem?_append_right (by omega), Nat.add_sub_cancel_left]
  rw [Fj.quo.eq_def] at h
  simp only [] at h
  by_cases c1 : c = 34
  ·subst c1
   rw [if_pos rfl] at h
   obtain rfl := Option.some.inj h
   exact ⟨0, rfl, by simp, rfl, rfl, fun j hj => absurd hj (Nat.not_lt_zero _)⟩
  ·rw [if_neg c1] at h
   by_cases c2 : c < 32
   ·rw [if_pos c2] at h; cases h
   ·rw [if_neg c2] at h
    by_cases c3 : c = 92
    ·subst c3
     rw [if_pos rfl] at h
     match r, hn, h with
     | [], _, h => cases h
     | d :: r2, hn, h =>
      simp only [] at h
      simp only [List.length_cons] at hn
      by_cases c4 : Fj.simple8 d = true
      ·rw [if_pos c4] at h
       obtain ⟨x, hx, rfl⟩ := Option.map_eq_some_iff.mp h
       obtain ⟨q, rfl, hq⟩ := quo_ends n r2 x (by omega) hx
       -- behind two bytes, the second of which is escaped
       have e2 : StrEnd.escd (92 :: d :: r2) 2 = false := by
        rw [StrEnd.escd, StrEnd.escd, StrEnd.escd]
        have : rd (92 :: d :: r2) ((0 : Nat) : Int) = 92 := rfl
        rw [this]; simp
       have eapp := escd_app r2 [92, d] e2
       have er : ∀ j : Nat, rd ([92, d] ++ r2) ((2 + j : Nat) : Int) = rd r2 (j : Int) := fun j => by
        unfold rd
        simp only [Int.toNat_natCast, List.getD_eq_getElem?_getD]
        rw [List.getElem?_append_right (by simp)]
        simp
       refine ⟨q + 2, by omega, ⟨by have := hq.lt; simp; omega, ?_, ?_, fun j hj h34 => ?_⟩⟩
       ·have := er q
        rw [show q + 2 = 2 + q by omega]
        exact this.trans hq.at_
       ·have := eapp q
        rw [show q + 2 = 2 + q by omega]
        exact this.trans hq.even
       ·match j, hj, h34 with
        | 0, _, h34 => cases h34
        | 1, _, _ => rfl
        | j + 2, hj, h34 =>
         have h1 := er j
         rw [show (2 + j : Nat) = j + 2 by omega] at h1
         have h34' : rd r2 (j : Int) = 34 := h1.symm.trans h34
         have h2 := eapp j
         rw [show ([92, d].length + j : Nat) = j + 2 by simp; omega] at h2
         exact h2.trans (hq.first j (by omega) h34')
      ·rw [if_neg c4] at h
       by_cases c5 : d = 117
       ·rw [if_pos c5] at h
        match r2, hn, h with
        | a :: b :: e :: f :: r3, hn, h =>
         simp only [] at h
         simp only [List.length_cons] at hn
         by_cases c6 : (Fj.hexd a && (Fj.hexd b && (Fj.hexd e && Fj.hexd f))) = true
         ·rw [if_pos c6] at h
          obtain ⟨x, hx, rfl⟩ := Option.map_eq_some_iff.mp h
          obtain ⟨q, rfl, hq⟩ := quo_ends n r3 x (by omega) hx
          have g := c6
          simp only [Bool.and_eq_true] at g
          obtain ⟨ga, gb, ge, gf⟩ := g
          have hn34 : ∀ {y : Int}, Fj.hexd y = true → y ≠ 34 ∧ y ≠ 92 := fun {y} hy => by
           unfold Fj.hexd at hy
           simp only [Bool.or_eq_true, decide_eq_true_eq] at hy
           omega
          have e6 : StrEnd.escd (92 :: d :: a :: b :: e :: f :: r3) 6 = false := by
           refine StrEnd.escd_not ?_
           show f ≠ 92
           exact (hn34 gf).2
          have := cons1 r3 q hq [92, d, a, b, e, f] (fun y hy => by
           simp only [List.mem_cons, List.mem_nil_iff, or_false] at hy
           rcases hy with rfl | rfl | rfl | rfl | rfl | rfl
           ·decide
           ·omega
           ·exact (hn34 ga).1
           ·exact (hn34 gb).1
           ·exact (hn34 ge).1
           ·exact (hn34 gf).1) e6 (escd_app r3 [92, d, a, b, e, f] e6)
          exact ⟨q + 6, by omega, by rw [show q + 6 = 6 + q by omega]; exact this⟩
         ·rw [if_neg c6] at h; cases h
        | [], _, h => cases h
        | [_], _, h => cases h
        | [_, _], _, h => cases h
        | [_, _, _], _, h => cases h
       ·rw [if_neg c5] at h; cases h
    ·rw [if_neg c3] at h
     obtain ⟨x, hx, rfl⟩ := Option.map_eq_some_iff.mp h
     obtain ⟨q, rfl, hq⟩ := quo_ends n r x (by omega) hx
     have e1 : StrEnd.escd (c :: r) 1 = false := StrEnd.escd_not (by show c ≠ 92; exact c3)
     have := cons1 r q hq [c] (fun y hy => by
      simp only [List.mem_cons, List.mem_nil_iff, or_false] at hy
      subst hy; exact c1) e1 (escd_app r [c] e1)
     exact ⟨q + 1, by omega, by rw [show q + 1 = 1 + q by omega]; exact this⟩
theorem Passes.str {o c : Int} {p e : Nat} (hp : p < s.size) (h : bt s (p : Int) = 34) (hq : qE s (p + 1) = some e) : Passes s o c p e := by
 intro lev E x
 obtain ⟨m, hm, rfl⟩ := Option.map_eq_some_iff.mp hq
 obtain ⟨q, rfl, he⟩ := quo_ends _ _ _ (Nat.le_refl _) hm
 refine .str (q := q) (by rw [bytesOf_length]; exact hp) (by rw [rd_bytesOf]; exact h) he ?_
 rw [show p + q + 2 = p + 1 + (q + 1) by omega]
 exact x
/-- The bytes of a number. -/
def NumB (x : Int) : Prop := (48 ≤ x ∧ x ≤ 57) ∨ x = 43 ∨ x = 45 ∨ x = 46 ∨ x = 101 ∨ x = 69
theorem digs_dig : ∀ (l : List Int) (j : Nat), j < Fj.digs l → 48 ≤ rd l (j : Int) ∧ rd l (j : Int) ≤ 57
 | [], j, h => by rw [Fj.digs] at h; omega
 | c :: r, j, h => by
  rw [Fj.digs] at h
  by_cases hb : 48 ≤ c ∧ c ≤ 57
  ·rw [if_pos hb] at h
   cases j with
   | zero => exact hb
   | succ j => exact digs_dig r j (by omega)
  ·rw [if_neg hb] at h; omega
def AllN (s : ByteArray) (p e : Nat) : Prop := ∀ j, p ≤ j → j < e → NumB (bt s (j : Int))
theorem AllN.trans {p q e : Nat} (h : AllN s p q) (g : AllN s q e) : AllN s p e := fun j h1 h2 => by
 by_cases c : j < q
 ·exact h j h1 c
 ·exact g j (by omega) h2
theorem AllN.one {p : Nat} (h : NumB (bt s (p : Int))) : AllN s p (p + 1) := fun j h1 h2 => by
 obtain rfl : j = p := by omega
 exact h
theorem AllN.digs (p : Nat) : AllN s p (p + Fj.digs (D s p)) := fun j h1 h2 => by
 have := digs_dig (D s p) (j - p) (by omega)
 rw [rd_D, show p + (j - p) = j by omega] at this
 exact .inl this
theorem nE_all {p e : Nat} (h : nE s p = some e) : AllN s p e := by
 unfold nE at h
 by_cases c : bt s (p : Int) = 43 ∨ bt s (p : Int) = 45
 ·rw [if_pos c] at h
  split at h
  ·cases h
  ·obtain rfl := Option.some.inj h
   exact (AllN.one (by unfold NumB; omega)).trans (AllN.digs (p + 1))
 ·rw [if_neg c] at h
  split at h
  ·cases h
  ·obtain rfl := Option.some.inj h
   exact AllN.digs p
theorem nX_all {p e : Nat} (h : nX s p = some e) : AllN s p e := by
 unfold nX at h
 by_cases c : bt s (p : Int) = 101 ∨ bt s (p : Int) = 69
 ·rw [if_pos c] at h
  exact (AllN.one (by unfold NumB; omega)).trans (nE_all h)
 ·rw [if_neg c] at h
  obtain rfl := Option.some.inj h
  exact fun j h1 h2 => by omega
theorem nF_all {p e : Nat} (h : nF s p = some e) : AllN s p e := by
 unfold nF at h
 by_cases c : bt s (p : Int) = 46
 ·rw [if_pos c] at h
  split at h
  ·cases h
  ·exact ((AllN.one (by unfold NumB; omega)).trans (AllN.digs (p + 1))).trans (nX_all h)
 ·rw [if_neg c] at h
  exact nX_all h
theorem nW_all {p e : Nat} (h : nW s p = some e) : AllN s p e := by
 unfold nW at h
 by_cases c : bt s (p : Int) = 48
 ·rw [if_pos c] at h
  exact (AllN.one (by unfold NumB; omega)).trans (nF_all h)
 ·rw [if_neg c] at h
  split at h
  ·cases h
  ·exact (AllN.digs p).trans (nF_all h)
theorem nN_all {p e : Nat} (h : nN s p = some e) : AllN s p e := by
 unfold nN at h
 by_cases c : bt s (p : Int) = 45
 ·rw [if_pos c] at h
  exact (AllN.one (by unfold NumB; omega)).trans (nW_all h)
 ·rw [if_neg c] at h
  exact nW_all h
theorem allN_in {p e : Nat} (hp : p ≤ s.size) (h : AllN s p e) : e ≤ s.size := by
 refine Nat.le_of_not_lt fun hlt => ?_
 have := h s.size hp hlt
 rw [bt_out s (s.size : Int) (by omega)] at this
 unfold NumB at this
 omega
theorem Passes.num {o c : Int} (hb : Brk o c) {p e : Nat} (hp : p ≤ s.size) (h : nN s p = some e) : Passes s o c p e := by
 have hg := num_gt h
 have ha := nN_all h
 have hi := allN_in hp ha
 obtain ⟨n, rfl⟩ : ∃ n, e = p + n := ⟨e - p, by omega⟩
 exact Passes.dull hb n p hi fun j hj => by
  have := ha (p + j) (by omega) (by omega)
  unfold NumB at this
  unfold Dull
  omega
theorem begins_at {w : List Int} {p : Nat} (h : Fj.begins w (D s p) = true) (j : Nat) (hj : j < w.length) : bt s ((p + j : Nat) : Int) = rd w (j : Int) := by
 unfold Fj.begins at h
 rw [beq_iff_eq] at h
 rw [← rd_D, ← h]
 unfold rd
 simp only [Int.toNat_natCast, List.getD_eq_getElem?_getD]
 rw [List.getElem?_take_of_lt hj]
theorem Passes.word {o c : Int} (hb : Brk o c) {p : Nat} {r : Int × Nat} (hp : p ≤ s.size) (h : wordk s p = some r) : Passes s o c p r.2 := by
 unfold wordk at h
 have key : ∀ w : List Int, Fj.begins w (D s p) = true → (∀ j, j < w.length → Dull (rd w (j : Int))) → Passes s o c p (p + w.length) := fun w hw hd =>
  Passes.dull hb w.length p (begins_in hp hw) fun j hj => by rw [begins_at hw j hj]; exact hd j hj
 by_cases k1 : Fj.begins [110, 117, 108, 108] (D s p) = true
 ·rw [if_pos k1] at h
  obtain rfl := Option.some.inj h
  exact key _ k1 fun j hj => by
   match j, hj with
   | 0, _ => decide
   | 1, _ => decide
   | 2, _ => decide
   | 3, _ => decide
 ·rw [if_neg k1] at h
  by_cases k2 : Fj.begins [102, 97, 108, 115, 101] (D s p) = true
  ·rw [if_pos k2] at h
   obtain rfl := Option.some.inj h
   exact key _ k2 fun j hj => by
    match j, hj with
    | 0, _ => decide
    | 1, _ => decide
    | 2, _ => decide
    | 3, _ => decide
    | 4, _ => decide
  ·rw [if_neg k2] at h
   by_cases k3 : Fj.begins [116, 114, 117, 101] (D s p) = true
   ·rw [if_pos k3] at h
    obtain rfl := Option.some.inj h
    exact key _ k3 fun j hj => by
     match j, hj with
     | 0, _ => decide
     | 1, _ => decide
     | 2, _ => decide
     | 3, _ => decide
   ·rw [if_neg k3] at h; cases h
theorem Passes.brk {o c : Int} (hb : Brk o c) {p e : Nat} (hp : p < s.size) (he : e < s.size) (x y : Int) (hx : bt s (p : Int) = x) (hy : bt s (e : Int) = y) (hxy : Brk x y) (h : Passes s o c (p + 1) e) : Passes s o c p (e + 1) := by
 intro lev E n
 have lp : p < (bytesOf s).length := by rw [bytesOf_length]; exact hp
 have le : e < (bytesOf s).length := by rw [bytesOf_length]; exact he
 rw [← rd_bytesOf] at hx hy
 by_cases hox : o = x
 ·have hcy : c = y := by
   rcases hb with ⟨rfl, rfl⟩ | ⟨rfl, rfl⟩ <;> rcases hxy with ⟨rfl, rfl⟩ | ⟨rfl, rfl⟩ <;> first | rfl | cases hox
  refine .open_ lp (hx.trans hox.symm) (h (lev + 1) E (.close le (hy.trans hcy.symm) n))
 ·have hne : x ≠ o ∧ x ≠ c ∧ y ≠ o ∧ y ≠ c ∧ x ≠ 34 ∧ y ≠ 34 := by
   rcases hb with ⟨rfl, rfl⟩ | ⟨rfl, rfl⟩ <;> rcases hxy with ⟨rfl, rfl⟩ | ⟨rfl, rfl⟩ <;> first | (exfalso; exact hox rfl) | decide
  obtain ⟨n1, n2, n3, n4, n5, n6⟩ := hne
  exact .other lp (by rw [hx]; exact n5) (by rw [hx]; exact n1) (by rw [hx]; exact n2) (h lev E (.other le (by rw [hy]; exact n6) (by rw [hy]; exact n3) (by rw [hy]; exact n4) n))
theorem dull44 : Dull 44 := by decide
theorem dull58 : Dull 58 := by decide
theorem bt_lt {p : Nat} {x : Int} (h : bt s (p : Int) = x) (hx : x ≠ 0) : p < s.size := in_text h hx
/-- Values, elements and members are passed. -/
theorem tree_passes {o c : Int} (hb : Brk o c) : ∀ f : Nat, (∀ p v, p ≤ s.size → tV s f p = some v → Passes s o c p v.2 ∧ v.2 ≤ s.size) ∧
  (∀ q v, q ≤ s.size → tE s f q = some v → ∃ z, v.2 = z + 1 ∧ bt s (z : Int) = 93 ∧ Passes s o c q z) ∧
  (∀ q v, q ≤ s.size → tM s f q = some v → ∃ z, v.2.2 = z + 1 ∧ bt s (z : Int) = 125 ∧ Passes s o c q z)
 | 0 => ⟨(fun p v _ h => by rw [tV] at h; cases h), (fun q v _ h => by rw [tE] at h; cases h), (fun q v _ h => by rw [tM] at h; cases h)⟩
 | f + 1 => by
  obtain ⟨ihV, ihE, ihM⟩ := tree_passes hb f
  refine ⟨fun p v hp h => ?_, fun q v hq h => ?_, fun q v hq h => ?_⟩
  ·rw [tV] at h
   by_cases c1 : bt s (p : Int) = 123
   ·have hlt := bt_lt c1 (by decide)
    rw [if_pos c1] at h
    by_cases c2 : bt s (nb s (p + 1) : Int) = 125
    ·rw [if_pos c2] at h
     obtain rfl := Option.some.inj h
     have h2 := bt_lt c2 (by decide)
     exact ⟨Passes.brk hb hlt h2 123 125 c1 c2 (.inl ⟨rfl, rfl⟩) (Passes.blanks hb (p + 1) (by omega)), h2⟩
    ·rw [if_neg c2] at h
     cases hm : tM s f (nb s (p + 1)) with
     | none => rw [hm] at h; cases h
     | some r =>
      rw [hm] at h
      obtain rfl := Option.some.inj h
      obtain ⟨z, hz, h3, h4⟩ := ihM _ _ (nb_le (p + 1) (by omega)) hm
      have h2 := bt_lt h3 (by decide)
      simp only [] at hz ⊢
      rw [hz]
      exact ⟨Passes.brk hb hlt h2 123 125 c1 h3 (.inl ⟨rfl, rfl⟩) ((Passes.blanks hb (p + 1) (by omega)).trans h4), h2⟩
   ·rw [if_neg c1] at h
    by_cases c2 : bt s (p : Int) = 91
    ·have hlt := bt_lt c2 (by decide)
     rw [if_pos c2] at h
     by_cases c3 : bt s (nb s (p + 1) : Int) = 93
     ·rw [if_pos c3] at h
      obtain rfl := Option.some.inj h
      have h2 := bt_lt c3 (by decide)
      exact ⟨Passes.brk hb hlt h2 91 93 c2 c3 (.inr ⟨rfl, rfl⟩) (Passes.blanks hb (p + 1) (by omega)), h2⟩
     ·rw [if_neg c3] at h
      cases hm : tE s f (nb s (p + 1)) with
      | none => rw [hm] at h; cases h
      | some r =>
       rw [hm] at h
       obtain rfl := Option.some.inj h
       obtain ⟨z, hz, h3, h4⟩ := ihE _ _ (nb_le (p + 1) (by omega)) hm
       have h2 := bt_lt h3 (by decide)
       simp only [] at hz ⊢
       rw [hz]
       exact ⟨Passes.brk hb hlt h2 91 93 c2 h3 (.inr ⟨rfl, rfl⟩) ((Passes.blanks hb (p + 1) (by omega)).trans h4), h2⟩
    ·rw [if_neg c2] at h
     by_cases c3 : bt s (p : Int) = 34
     ·have hlt := bt_lt c3 (by decide)
      rw [if_pos c3] at h
      cases hm : qE s (p + 1) with
      | none => rw [hm] at h; cases h
      | some e =>
       rw [hm] at h
       obtain rfl := Option.some.inj h
       refine ⟨Passes.str hlt c3 hm, ?_⟩
       obtain ⟨m, hm2, rfl⟩ := Option.map_eq_some_iff.mp hm
       obtain ⟨q, rfl, he⟩ := quo_ends _ _ _ (Nat.le_refl _) hm2
       have := he.lt
       rw [D_len] at this
       show p + 1 + (q + 1) ≤ s.size
       omega
     ·rw [if_neg c3] at h
      by_cases c4 : bt s (p : Int) = 45 ∨ (48 ≤ bt s (p : Int) ∧ bt s (p : Int) ≤ 57)
      ·rw [if_pos c4] at h
       cases hm : nN s p with
       | none => rw [hm] at h; cases h
       | some e =>
        rw [hm] at h
        obtain rfl := Option.some.inj h
        exact ⟨Passes.num hb hp hm, allN_in hp (nN_all hm)⟩
      ·rw [if_neg c4] at h
       cases hm : wordk s p with
       | none => rw [hm] at h; cases h
       | some r =>
        rw [hm] at h
        obtain rfl := Option.some.inj h
        refine ⟨Passes.word hb hp hm, ?_⟩
        unfold wordk at hm
        repeat' split at hm
        all_goals first
         | (cases hm; done)
         | (rename_i hbg; obtain rfl := Option.some.inj hm; exact begins_in hp hbg)
         | (rename_i hbg _; obtain rfl := Option.some.inj hm; exact begins_in hp hbg)
  ·rw [tE] at h
   cases hv : tV s f q with
   | none => rw [hv] at h; cases h
   | some v1 =>
    rw [hv] at h
    simp only [] at h
    obtain ⟨h1, h2⟩ := ihV q v1 hq hv
    have hbl := Passes.blanks (s := s) hb v1.2 h2
    by_cases c1 : bt s (nb s v1.2 : Int) = 93
    ·rw [if_pos c1] at h
     obtain rfl := Option.some.inj h
     exact ⟨nb s v1.2, rfl, c1, h1.trans hbl⟩
    ·rw [if_neg c1] at h
     by_cases c2 : bt s (nb s v1.2 : Int) = 44
     ·rw [if_pos c2] at h
      have h3 := bt_lt c2 (by decide)
      cases he : tE s f (nb s (nb s v1.2 + 1)) with
      | none => rw [he] at h; cases h
      | some r =>
       rw [he] at h
       obtain rfl := Option.some.inj h
       obtain ⟨z, hz, h4, h5⟩ := ihE _ _ (nb_le _ (by omega)) he
       exact ⟨z, hz, h4, ((h1.trans hbl).trans (Passes.dull1 hb h3 (by rw [c2]; exact dull44))).trans ((Passes.blanks hb _ (by omega)).trans h5)⟩
     ·rw [if_neg c2] at h; cases h
  ·rw [tM] at h
   by_cases c0 : bt s (q : Int) = 34
   ·rw [if_pos c0] at h
    have hlt := bt_lt c0 (by decide)
    cases hqe : qE s (q + 1) with
    | none => rw [hqe] at h; cases h
    | some b =>
     rw [hqe] at h
     simp only [] at h
     have hps := Passes.str (o := o) (c := c) hlt c0 hqe
     have hbs : b ≤ s.size := by
      obtain ⟨m, hm2, rfl⟩ := Option.map_eq_some_iff.mp hqe
      obtain ⟨x, rfl, he⟩ := quo_ends _ _ _ (Nat.le_refl _) hm2
      have := he.lt
      rw [D_len] at this
      omega
     have hbb := Passes.blanks (s := s) hb b hbs
     by_cases c1 : bt s (nb s b : Int) = 58
     ·rw [if_pos c1] at h
      have h3 := bt_lt c1 (by decide)
      have hcol := Passes.dull1 (s := s) hb h3 (by rw [c1]; exact dull58)
      have hb2 := Passes.blanks (s := s) hb (nb s b + 1) (by omega)
      have hl2 := nb_le (s := s) (nb s b + 1) (by omega)
      cases hv : tV s f (nb s (nb s b + 1)) with
      | none => rw [hv] at h; cases h
      | some v1 =>
       rw [hv] at h
       simp only [] at h
       obtain ⟨h1, h2⟩ := ihV _ v1 hl2 hv
       have hbl := Passes.blanks (s := s) hb v1.2 h2
       have hall := ((((hps.trans hbb).trans hcol).trans hb2).trans h1).trans hbl
       by_cases c2 : bt s (nb s v1.2 : Int) = 125
       ·rw [if_pos c2] at h
        obtain rfl := Option.some.inj h
        exact ⟨nb s v1.2, rfl, c2, hall⟩
       ·rw [if_neg c2] at h
        by_cases c3 : bt s (nb s v1.2 : Int) = 44
        ·rw [if_pos c3] at h
         have h4 := bt_lt c3 (by decide)
         cases he : tM s f (nb s (nb s v1.2 + 1)) with
         | none => rw [he] at h; cases h
         | some r =>
          rw [he] at h
          obtain rfl := Option.some.inj h
          obtain ⟨z, hz, h5, h6⟩ := ihM _ _ (nb_le _ (by omega)) he
          exact ⟨z, hz, h5, (hall.trans (Passes.dull1 hb h4 (by rw [c3]; exact dull44))).trans ((Passes.blanks hb _ (by omega)).trans h6)⟩
        ·rw [if_neg c3] at h; cases h
     ·rw [if_neg c1] at h; cases h
   ·rw [if_neg c0] at h; cases h
end Go.Proofs.YtcfhnfjkiljigaaDoor.ReadXFnJpGetUnsafe
end
section
namespace Go.Proofs.YtcfhnfjkiljigaaDoor.ReadXFnJpGetUnsafe
open Go.RowKit Go.Proofs.YtcfhnfjkiljigaaDoor.Jp Go.Proofs.YtcfhnfjkiljigaaDoor.Base Go.Proofs.YtcfhnfjkiljigaaDoor.XFnJpGetUnsafe Go.Proofs.YtcfhnfjkiljigaaDoorW.PrintWords Go.Proofs.YtcfhnfjkiljigaaDoorW.PrintLast
set_option linter.unusedVariables false
set_option linter.unusedSimpArgs false
variable {s : ByteArray}
/-- jsonparser's number of a kind. -/
abbrev tyOf := kindOf
instance (x : Int) : Decidable (plain x) := by unfold plain; infer_instance
theorem brk9 : Brk 91 93 := .inr ⟨rfl, rfl⟩
theorem brk12 : Brk 123 125 := .inl ⟨rfl, rfl⟩
theorem numB_end {x : Int} (h : NumB x) : isEnd x = false := by
 unfold NumB at h
 unfold isEnd
 simp only [Bool.or_eq_false_iff, beq_eq_false_iff_ne]
 omega
theorem numB_plain {x : Int} (h : NumB x) : plain x := by
 unfold NumB at h
 unfold plain
 omega
theorem tokE_is : ∀ (n p : Nat), p + n ≤ s.size → (∀ j, j < n → isEnd (bt s ((p + j : Nat) : Int)) = false) → (p + n = s.size ∨ isEnd (bt s ((p + n : Nat) : Int)) = true) → tokE ((bytesOf s).drop p) = n
 | 0, p, h, _, he => by
  rcases he with he | he
  ·rw [List.drop_of_length_le (by rw [bytesOf_length]; omega)]; rfl
  ·rw [Nat.add_zero] at he
   by_cases hp : p = s.size
   ·rw [List.drop_of_length_le (by rw [bytesOf_length]; omega)]; rfl
   ·rw [tok_step (by rw [bytesOf_length]; omega), rd_bytesOf, if_pos he]
 | n + 1, p, h, hj, he => by
  have h0 := hj 0 (by omega)
  rw [Nat.add_zero] at h0
  rw [tok_step (by rw [bytesOf_length]; omega), rd_bytesOf, h0, if_neg (by decide), tokE_is n (p + 1) (by omega) (fun j hjn => by have := hj (j + 1) (by omega); rwa [show p + (j + 1) = p + 1 + j by omega] at this) (by rw [show p + 1 + n = p + (n + 1) by omega]; exact he)]
/-- What is behind a value: the text's end, or a byte at which a number ends. -/
def Dl (s : ByteArray) (e : Nat) : Prop := e = s.size ∨ isEnd (bt s (e : Int)) = true
theorem nb_cases (e : Nat) : nb s e = e ∨ Fj.blank (bt s (e : Int)) = true := by
 unfold nb
 rcases Nat.eq_zero_or_pos (Fj.ws (D s e)) with h | h
 ·exact .inl (by omega)
 ·have := ws_blank (D s e) 0 h
  rw [rd_D, Nat.add_zero] at this
  exact .inr this
theorem blank_end {x : Int} (h : Fj.blank x = true) : isEnd x = true := by
 unfold Fj.blank at h
 unfold isEnd
 simp only [Bool.or_eq_true, beq_iff_eq] at h ⊢
 omega
theorem dl_nb {e : Nat} (h : isEnd (bt s (nb s e : Int)) = true) : Dl s e := by
 rcases nb_cases (s := s) e with h1 | h1
 ·rw [h1] at h; exact .inr h
 ·exact .inr (blank_end h1)
theorem dl_end {e : Nat} (h : nb s e = s.size) : Dl s e := by
 rcases nb_cases (s := s) e with h1 | h1
 ·exact .inl (h1.symm.trans h)
 ·exact .inr (blank_end h1)
theorem scan_of_passes {o c : Int} {p z : Nat} (hp : p < s.size) (hz : z < s.size) (ho : bt s (p : Int) = o) (hc : bt s (z : Int) = c) (h : Passes s o c (p + 1) z) : Scan o c ((bytesOf s).drop p) 0 0 (z + 1 - p) := by
 have h1 : Scan o c (bytesOf s) p 0 (z + 1) := .open_ (by rw [bytesOf_length]; exact hp) (by rw [rd_bytesOf]; exact ho) (h 0 (z + 1) (.done (by rw [bytesOf_length]; exact hz) (by rw [rd_bytesOf]; exact hc)))
 have := h1.shift p (Nat.le_refl _)
 rwa [Nat.sub_self] at this
/-- What is known of a value in the text. -/
structure ValIs (s : ByteArray) (p : Nat) (v : PL × Nat) : Prop where
 beg : v.1.f1 = (p : Int)
 end_ : v.1.f2 = (v.2 : Int)
 lt : p < v.2
 le : v.2 ≤ s.size
 ws0 : nb s p = p
 dull : tyOf v.1.f0 ≠ 1 → tyOf v.1.f0 ≠ 3 → tyOf v.1.f0 ≠ 4 → ∀ i, i < v.2 - p → plain (bt s ((p + i : Nat) : Int))
 ty : Dl s v.2 → TyAt (bytesOf s) p (v.2 - p) (tyOf v.1.f0)
theorem nb_of_byte {p : Nat} {x : Int} (h : bt s (p : Int) = x) (hx : Fj.blank x = false) : nb s p = p := by
 rcases nb_cases (s := s) p with h1 | h1
 ·exact h1
 ·rw [h, hx] at h1; cases h1
theorem wordAt_is {p : Nat} {w : List Int} {k : Int} (hp : p ≤ s.size) (hw : Fj.begins w (D s p) = true) (hne : 0 < w.length) (hb : Fj.blank (rd w 0) = false) (hpl : ∀ j, j < w.length → plain (rd w (j : Int)) ∧ isEnd (rd w (j : Int)) = false)
  (hty : TyAt (bytesOf s) p w.length (tyOf k) ∨ (tokE ((bytesOf s).drop p) = w.length → TyAt (bytesOf s) p w.length (tyOf k))) : ValIs s p (⟨k, (p : Int), ((p + w.length : Nat) : Int), [], []⟩, p + w.length) := by
 have hin := begins_in hp hw
 refine ⟨rfl, rfl, by show p < p + w.length; omega, hin, ?_, fun _ _ _ i hi => ?_, fun hd => ?_⟩
 ·have := begins_at hw 0 hne
  rw [Nat.add_zero] at this
  exact nb_of_byte this hb
 ·have hi' : i < w.length := by have : i < p + w.length - p := hi; omega
  rw [begins_at hw i hi']
  exact (hpl i hi').1
 ·show TyAt (bytesOf s) p (p + w.length - p) (tyOf k)
  rw [Nat.add_sub_cancel_left]
  rcases hty with h | h
  ·exact h
  ·exact h (tokE_is w.length p hin (fun j hj => by rw [begins_at hw j hj]; exact (hpl j hj).2) hd)
theorem tV_is {f p : Nat} {v : PL × Nat} (hp : p ≤ s.size) (h : tV s f p = some v) : ValIs s p v := by
 cases f with
 | zero => rw [tV] at h; cases h
 | succ f =>
  have h0 := h
  rw [tV] at h
  by_cases c1 : bt s (p : Int) = 123
  ·have hlt := bt_lt c1 (by decide)
   have hbl := nb_of_byte c1 (by decide)
   rw [if_pos c1] at h
   by_cases c2 : bt s (nb s (p + 1) : Int) = 125
   ·rw [if_pos c2] at h
    obtain rfl := Option.some.inj h
    have h2 := bt_lt c2 (by decide)
    have h3 := nb_ge (s := s) (p + 1)
    refine ⟨rfl, rfl, by show p < nb s (p + 1) + 1; omega, h2, hbl, fun _ h _ => absurd rfl h, fun _ => ?_⟩
    exact .obj (by rw [bytesOf_length]; exact hlt) (by rw [bytesOf_length]; show p + (nb s (p + 1) + 1 - p) ≤ s.size; omega) (by rw [rd_bytesOf]; exact c1) (scan_of_passes hlt h2 c1 c2 (Passes.blanks brk12 (p + 1) (by omega)))
   ·rw [if_neg c2] at h
    cases hm : tM s f (nb s (p + 1)) with
    | none => rw [hm] at h; cases h
    | some r =>
     rw [hm] at h
     obtain rfl := Option.some.inj h
     obtain ⟨z, hz, h3, h4⟩ := (tree_passes (s := s) brk12 f).2.2 _ _ (nb_le (p + 1) (by omega)) hm
     have h2 := bt_lt h3 (by decide)
     have hp1 := (Passes.blanks (s := s) brk12 (p + 1) (by omega)).trans h4
     have hsc := scan_of_passes hlt h2 c1 h3 hp1
     have hle := hsc.le
     rw [List.length_drop, bytesOf_length] at hle
     refine ⟨rfl, rfl, by show p < r.2.2; omega, by show r.2.2 ≤ s.size; omega, hbl, fun _ h _ => absurd rfl h, fun _ => ?_⟩
     show TyAt (bytesOf s) p (r.2.2 - p) 3
     rw [hz]
     exact .obj (by rw [bytesOf_length]; exact hlt) (by rw [bytesOf_length]; omega) (by rw [rd_bytesOf]; exact c1) hsc
  ·rw [if_neg c1] at h
   by_cases c2 : bt s (p : Int) = 91
   ·have hlt := bt_lt c2 (by decide)
    have hbl := nb_of_byte c2 (by decide)
    rw [if_pos c2] at h
    by_cases c3 : bt s (nb s (p + 1) : Int) = 93
    ·rw [if_pos c3] at h
     obtain rfl := Option.some.inj h
     have h2 := bt_lt c3 (by decide)
     have h3 := nb_ge (s := s) (p + 1)
     refine ⟨rfl, rfl, by show p < nb s (p + 1) + 1; omega, h2, hbl, fun _ _ h => absurd rfl h, fun _ => ?_⟩
     exact .arr (by rw [bytesOf_length]; exact hlt) (by rw [bytesOf_length]; show p + (nb s (p + 1) + 1 - p) ≤ s.size; omega) (by rw [rd_bytesOf]; exact c2) (scan_of_passes hlt h2 c2 c3 (Passes.blanks brk9 (p + 1) (by omega)))
    ·rw [if_neg c3] at h
     cases hm : tE s f (nb s (p + 1)) with
     | none => rw [hm] at h; cases h
     | some r =>
      rw [hm] at h
      obtain rfl := Option.some.inj h
      obtain ⟨z, hz, h3, h4⟩ := (tree_passes (s := s) brk9 f).2.1 _ _ (nb_le (p + 1) (by omega)) hm
      have h2 := bt_lt h3 (by decide)
      have hp1 := (Passes.blanks (s := s) brk9 (p + 1) (by omega)).trans h4
      have hsc := scan_of_passes hlt h2 c2 h3 hp1
      have hle := hsc.le
      rw [List.length_drop, bytesOf_length] at hle
      refine ⟨rfl, rfl, by show p < r.2; omega, by show r.2 ≤ s.size; omega, hbl, fun _ _ h => absurd rfl h, fun _ => ?_⟩
      show TyAt (bytesOf s) p (r.2 - p) 4
      rw [hz]
      exact .arr (by rw [bytesOf_length]; exact hlt) (by rw [bytesOf_length]; omega) (by rw [rd_bytesOf]; exact c2) hsc
   ·rw [if_neg c2] at h
    by_cases c3 : bt s (p : Int) = 34
    ·have hlt := bt_lt c3 (by decide)
     rw [if_pos c3] at h
     cases hm : qE s (p + 1) with
     | none => rw [hm] at h; cases h
     | some e =>
      rw [hm] at h
      obtain rfl := Option.some.inj h
      obtain ⟨m, hm2, rfl⟩ := Option.map_eq_some_iff.mp hm
      obtain ⟨q, rfl, he⟩ := quo_ends _ _ _ (Nat.le_refl _) hm2
      have hl := he.lt
      rw [D_len] at hl
      refine ⟨rfl, rfl, by show p < p + 1 + (q + 1); omega, by show p + 1 + (q + 1) ≤ s.size; omega, nb_of_byte c3 (by decide), fun h _ _ => absurd rfl h, fun _ => ?_⟩
      show TyAt (bytesOf s) p (p + 1 + (q + 1) - p) 1
      exact .str (by rw [bytesOf_length]; exact hlt) (by rw [bytesOf_length]; omega) q (by omega) (by rw [rd_bytesOf]; exact c3) he
    ·rw [if_neg c3] at h
     by_cases c4 : bt s (p : Int) = 45 ∨ (48 ≤ bt s (p : Int) ∧ bt s (p : Int) ≤ 57)
     ·rw [if_pos c4] at h
      cases hm : nN s p with
      | none => rw [hm] at h; cases h
      | some e =>
       rw [hm] at h
       obtain rfl := Option.some.inj h
       have ha := nN_all hm
       have hg := num_gt hm
       have hi := allN_in hp ha
       refine ⟨rfl, rfl, hg, hi, ?_, fun _ _ _ i hi => numB_plain (ha _ (by omega) (by have : i < e - p := hi; omega)), fun hd => ?_⟩
       ·rcases nb_cases (s := s) p with h1 | h1
        ·exact h1
        ·exfalso
         unfold Fj.blank at h1
         simp only [Bool.or_eq_true, beq_iff_eq] at h1
         omega
       ·show TyAt (bytesOf s) p (e - p) 2
        have hpe : p + (e - p) = e := by omega
        refine .num (by rw [bytesOf_length]; omega) (by rw [bytesOf_length]; omega) (by omega) (by rw [rd_bytesOf]; exact c4) (tokE_is (e - p) p (by omega) (fun j hj => numB_end (ha _ (by omega) (by omega))) ?_)
        rw [hpe]
        exact hd
     ·rw [if_neg c4] at h
      cases hm : wordk s p with
      | none => rw [hm] at h; cases h
      | some r =>
       rw [hm] at h
       obtain rfl := Option.some.inj h
       unfold wordk at hm
       have tk : ∀ w : List Int, Fj.begins w (D s p) = true → ((bytesOf s).drop p).take w.length = w := fun w hw => by
        unfold Fj.begins at hw
        exact beq_iff_eq.mp hw
       by_cases k1 : Fj.begins [110, 117, 108, 108] (D s p) = true
       ·rw [if_pos k1] at hm
        obtain rfl := Option.some.inj hm
        have hin := begins_in hp k1
        exact wordAt_is (w := [110, 117, 108, 108]) (k := 0) hp k1 (by decide) (by decide) (by decide) (.inr fun ht => .nul (by rw [bytesOf_length]; simp at hin ⊢; omega) (by rw [bytesOf_length]; exact hin) (tk _ k1) ht)
       ·rw [if_neg k1] at hm
        by_cases k2 : Fj.begins [102, 97, 108, 115, 101] (D s p) = true
        ·rw [if_pos k2] at hm
         obtain rfl := Option.some.inj hm
         have hin := begins_in hp k2
         exact wordAt_is (w := [102, 97, 108, 115, 101]) (k := 1) hp k2 (by decide) (by decide) (by decide) (.inr fun ht => .fls (by rw [bytesOf_length]; simp at hin ⊢; omega) (by rw [bytesOf_length]; exact hin) (tk _ k2) ht)
        ·rw [if_neg k2] at hm
         by_cases k3 : Fj.begins [116, 114, 117, 101] (D s p) = true
         ·rw [if_pos k3] at hm
          obtain rfl := Option.some.inj hm
          have hin := begins_in hp k3
          exact wordAt_is (w := [116, 114, 117, 101]) (k := 2) hp k3 (by decide) (by decide) (by decide) (.inr fun ht => .tru (by rw [bytesOf_length]; simp at hin ⊢; omega) (by rw [bytesOf_length]; exact hin) (tk _ k3) ht)
         ·rw [if_neg k3] at hm; cases hm
theorem end93 : isEnd 93 = true := rfl
theorem end44 : isEnd 44 = true := rfl
theorem end125 : isEnd 125 = true := rfl
theorem ws_stop : ∀ l : List Int, Fj.ws (l.drop (Fj.ws l)) = 0
 | [] => rfl
 | c :: r => by
  rw [Fj.ws]
  by_cases hb : Fj.blank c = true
  ·rw [if_pos hb, List.drop_succ_cons]; exact ws_stop r
  ·rw [if_neg hb, List.drop_zero, Fj.ws, if_neg hb]
theorem nb_nb (p : Nat) : nb s (nb s p) = nb s p := by
 have h := ws_stop (D s p)
 rw [List.drop_drop] at h
 show p + Fj.ws (D s p) + Fj.ws (D s (p + Fj.ws (D s p))) = _
 rw [h]; rfl
theorem nb_ws (p : Nat) : Fj.ws ((bytesOf s).drop p) + p = nb s p := by unfold nb; rw [Nat.add_comm]
/-- An element as jsonparser's tables tell it: where it begins, how long it is, its kind. -/
def en (k : PL) : Nat × Nat × Int := (k.f1.toNat, (k.f2 - k.f1).toNat, tyOf k.f0)
theorem en_is {f p : Nat} {v : PL × Nat} (h : ValIs s p v) : en v.1 = (p, v.2 - p, tyOf v.1.f0) := by
 unfold en
 rw [h.beg, h.end_, Int.toNat_natCast]
 have := h.lt
 rw [show ((v.2 : Int) - (p : Int)).toNat = v.2 - p by omega]
/-- An element, or a member's value, as it stands in the text. -/
def Kid (s : ByteArray) (q z : Nat) (k : PL) : Prop := ∃ f a e, tV s f a = some (k, e) ∧ q ≤ a ∧ e ≤ z ∧ Dl s e ∧ a ≤ s.size
theorem tE_els : ∀ (f q : Nat) (v : List PL × Nat), q ≤ s.size → tE s f q = some v → ∃ z, v.2 = z + 1 ∧ z < s.size ∧ q ≤ z ∧ bt s (z : Int) = 93 ∧ Els (bytesOf s) q (v.1.map en) z ∧ ∀ k ∈ v.1, Kid s q z k
 | 0, q, v, _, h => by rw [tE] at h; cases h
 | f + 1, q, v, hq, h => by
  rw [tE] at h
  cases hv : tV s f q with
  | none => rw [hv] at h; cases h
  | some v1 =>
   rw [hv] at h
   simp only [] at h
   have hi := tV_is hq hv
   have hle := hi.le
   have hlt := hi.lt
   have hq0 : Fj.ws ((bytesOf s).drop q) + q = q := by rw [nb_ws]; exact hi.ws0
   have hen := en_is (f := f) hi
   have hb := nb_ge (s := s) v1.2
   have hj : Fj.ws ((bytesOf s).drop (q + (v1.2 - q))) + (q + (v1.2 - q)) = nb s v1.2 := by rw [show q + (v1.2 - q) = v1.2 by omega]; exact nb_ws _
   by_cases c1 : bt s (nb s v1.2 : Int) = 93
   ·rw [if_pos c1] at h
    obtain rfl := Option.some.inj h
    have h2 := bt_lt c1 (by decide)
    have hd : Dl s v1.2 := dl_nb (by rw [c1]; exact end93)
    refine ⟨nb s v1.2, rfl, h2, by omega, c1, ?_, fun k hk => ?_⟩
    ·show Els (bytesOf s) q [en v1.1] (nb s v1.2)
     rw [hen]
     exact .last hq0 (hi.ty hd) hj (by rw [bytesOf_length]; exact h2) (by rw [rd_bytesOf]; exact c1)
    ·obtain rfl := List.mem_singleton.mp hk
     exact ⟨f, q, v1.2, hv, Nat.le_refl _, hb, hd, hq⟩
   ·rw [if_neg c1] at h
    by_cases c2 : bt s (nb s v1.2 : Int) = 44
    ·rw [if_pos c2] at h
     have h2 := bt_lt c2 (by decide)
     have hd : Dl s v1.2 := dl_nb (by rw [c2]; exact end44)
     cases he : tE s f (nb s (nb s v1.2 + 1)) with
     | none => rw [he] at h; cases h
     | some r =>
      rw [he] at h
      obtain rfl := Option.some.inj h
      have h3 := nb_ge (s := s) (nb s v1.2 + 1)
      obtain ⟨z, hz, h4, h5, h6, h7, h8⟩ := tE_els f _ r (nb_le _ (by omega)) he
      refine ⟨z, hz, h4, by omega, h6, ?_, fun k hk => ?_⟩
      ·show Els (bytesOf s) q (en v1.1 :: r.1.map en) z
       rw [hen]
       refine .more hq0 (hi.ty hd) hj (by rw [bytesOf_length]; exact h2) (by rw [rd_bytesOf]; exact c2) ?_
       -- the next element stands behind the blanks
       have key : ∀ {p e : Nat} {es : List (Nat × Nat × Int)}, Els (bytesOf s) (nb s p) es e → Els (bytesOf s) p es e := fun {p e es} h => by
        have e0 : ∀ a, Fj.ws ((bytesOf s).drop (nb s p)) + nb s p = a → Fj.ws ((bytesOf s).drop p) + p = a := fun a ha => by
         rw [nb_ws] at ha ⊢
         exact (nb_nb p).symm.trans ha
        cases h with
        | last ha hT hj hjl hc => exact .last (e0 _ ha) hT hj hjl hc
        | more ha hT hj hjl hc r => exact .more (e0 _ ha) hT hj hjl hc r
       exact key h7
      ·rcases List.mem_cons.mp hk with rfl | hk
       ·exact ⟨f, q, v1.2, hv, Nat.le_refl _, by omega, hd, hq⟩
       ·obtain ⟨f', a, e, k1, k2, k3, k4, k5⟩ := h8 k hk
        exact ⟨f', a, e, k1, by omega, k3, k4, k5⟩
    ·rw [if_neg c2] at h; cases h
/-- The members of an object, from the first name on to the brace that closes it. -/
inductive Mem (s : ByteArray) : Nat → Nat → List SP → List PL → Prop
 | last {q x j a e z f : Nat} {pl : PL} (h34 : bt s (q : Int) = 34) (hq : qE s (q + 1) = some (q + x + 2)) (hj : nb s (q + x + 2) = j) (hc : bt s (j : Int) = 58) (ha : nb s (j + 1) = a) (hv : tV s f a = some (pl, e)) (hk : nb s e = z) (hz : bt s (z : Int) = 125) : Mem s q z [⟨(q : Int), ((q + x + 2 : Nat) : Int)⟩] [pl]
 | more {q x j a e k z f : Nat} {pl : PL} {ns : List SP} {ks : List PL} (h34 : bt s (q : Int) = 34) (hq : qE s (q + 1) = some (q + x + 2)) (hj : nb s (q + x + 2) = j) (hc : bt s (j : Int) = 58) (ha : nb s (j + 1) = a) (hv : tV s f a = some (pl, e)) (hk : nb s e = k) (hz : bt s (k : Int) = 44) (r : Mem s (nb s (k + 1)) z ns ks) : Mem s q z (⟨(q : Int), ((q + x + 2 : Nat) : Int)⟩ :: ns) (pl :: ks)
theorem qE_ends {q b : Nat} (h : qE s q = some b) : ∃ x, b = q + x + 1 ∧ StrEnd.Ends ((bytesOf s).drop q) 34 x ∧ b ≤ s.size := by
 obtain ⟨m, hm2, rfl⟩ := Option.map_eq_some_iff.mp h
 obtain ⟨x, rfl, he⟩ := quo_ends _ _ _ (Nat.le_refl _) hm2
 have hl := he.lt
 rw [D_len] at hl
 exact ⟨x, by omega, he, by omega⟩
theorem tM_mem : ∀ (f q : Nat) (v : List SP × List PL × Nat), q ≤ s.size → tM s f q = some v → ∃ z, v.2.2 = z + 1 ∧ z < s.size ∧ q < z ∧ Mem s q z v.1 v.2.1
 | 0, q, v, _, h => by rw [tM] at h; cases h
 | f + 1, q, v, hq, h => by
  rw [tM] at h
  by_cases c0 : bt s (q : Int) = 34
  ·rw [if_pos c0] at h
   cases hqe : qE s (q + 1) with
   | none => rw [hqe] at h; cases h
   | some b =>
    rw [hqe] at h
    simp only [] at h
    obtain ⟨x, hb, hends, hbs⟩ := qE_ends hqe
    obtain rfl : b = q + x + 2 := by omega
    by_cases c1 : bt s (nb s (q + x + 2) : Int) = 58
    ·rw [if_pos c1] at h
     have h3 := bt_lt c1 (by decide)
     have g1 := nb_ge (s := s) (q + x + 2)
     have g2 := nb_ge (s := s) (nb s (q + x + 2) + 1)
     have hl2 := nb_le (s := s) (nb s (q + x + 2) + 1) (by omega)
     cases hv : tV s f (nb s (nb s (q + x + 2) + 1)) with
     | none => rw [hv] at h; cases h
     | some v1 =>
      rw [hv] at h
      simp only [] at h
      have hi := tV_is hl2 hv
      have i1 := hi.lt
      have g3 := nb_ge (s := s) v1.2
      by_cases c2 : bt s (nb s v1.2 : Int) = 125
      ·rw [if_pos c2] at h
       obtain rfl := Option.some.inj h
       exact ⟨nb s v1.2, rfl, bt_lt c2 (by decide), by omega, .last c0 hqe rfl c1 rfl hv rfl c2⟩
      ·rw [if_neg c2] at h
       by_cases c3 : bt s (nb s v1.2 : Int) = 44
       ·rw [if_pos c3] at h
        have h4 := bt_lt c3 (by decide)
        cases he : tM s f (nb s (nb s v1.2 + 1)) with
        | none => rw [he] at h; cases h
        | some r =>
         rw [he] at h
         obtain rfl := Option.some.inj h
         have g4 := nb_ge (s := s) (nb s v1.2 + 1)
         obtain ⟨z, hz, k1, k2, k3⟩ := tM_mem f _ r (nb_le _ (by omega)) he
         exact ⟨z, hz, k1, by omega, .more c0 hqe rfl c1 rfl hv rfl c3 k3⟩
       ·rw [if_neg c3] at h; cases h
    ·rw [if_neg c1] at h; cases h
  ·rw [if_neg c0] at h; cases h
theorem Mem.lt {q z : Nat} {ns : List SP} {ks : List PL} (h : Mem s q z ns ks) : q < z ∧ z < s.size := by
 induction h with
 | @last q x j a e z f pl h34 hq hj hc ha hv hk hz =>
  have h1 := bt_lt hc (by decide)
  have h2 := bt_lt hz (by decide)
  have i1 := (tV_is (by rw [← ha]; exact nb_le _ (by omega)) hv).lt
  have g1 := nb_ge (s := s) (q + x + 2)
  have g2 := nb_ge (s := s) (j + 1)
  have g3 := nb_ge (s := s) e
  simp only [] at i1
  omega
 | @more q x j a e k z f pl ns ks h34 hq hj hc ha hv hk hz r ih =>
  have h1 := bt_lt hc (by decide)
  have i1 := (tV_is (by rw [← ha]; exact nb_le _ (by omega)) hv).lt
  have g1 := nb_ge (s := s) (q + x + 2)
  have g2 := nb_ge (s := s) (j + 1)
  have g3 := nb_ge (s := s) e
  have g4 := nb_ge (s := s) (k + 1)
  simp only [] at i1
  omega
section
variable {UK : KeyRel} {K : List ByteArray} {kl d m : Nat} {nameOf : SP → ByteArray}
/-- Names are read as they should be. -/
def Names (s : ByteArray) (UK : KeyRel) (nameOf : SP → ByteArray) : Prop := ∀ q x : Nat, qE s (q + 1) = some (q + x + 2) → ∃ u, UK (((bytesOf s).drop (q + 1)).take x) u ∧ strOfNums u = nameOf ⟨(q : Int), ((q + x + 2 : Nat) : Int)⟩
/-- The member that is sought, as it stands in the text. -/
structure MemAt (s : ByteArray) (nameOf : SP → ByteArray) (key : ByteArray) (pl : PL) (z q x j a e f : Nat) : Prop where
 h34 : bt s (q : Int) = 34
 hq : qE s (q + 1) = some (q + x + 2)
 hj : nb s (q + x + 2) = j
 hc : bt s (j : Int) = 58
 ha : nb s (j + 1) = a
 hv : tV s f a = some (pl, e)
 he : e ≤ z
 hd : Dl s e
 nm : nameOf ⟨(q : Int), ((q + x + 2 : Nat) : Int)⟩ = key
theorem over_mem (hU : Names s UK nameOf) (hkl : kl < K.length) (hdm : d + m ≤ s.size) {q z : Nat} {ns : List SP} {ks : List PL} (h : Mem s q z ns ks) : d ≤ q → z < d + m → ∀ (i : Nat) (nm : SP) (pl : PL) (key : ByteArray), ns[i]? = some nm → ks[i]? = some pl → nameOf nm = key → (∀ j, j < i → ∀ nm', ns[j]? = some nm' → nameOf nm' ≠ key) → K.getD kl ByteArray.empty = key → ∀ lm : Bool,
  ∃ (lm' : Bool) (q' x j a e f : Nat), Over UK (bytesOf s) K kl d m true lm q true lm' q' ∧ q ≤ q' ∧ q' < z ∧ MemAt s nameOf key pl z q' x j a e f := by
 have hL : d + m ≤ (bytesOf s).length := by rw [bytesOf_length]; exact hdm
 induction h with
 | @last q x j a e z f pl h34 hq hj hc ha hv hk hz =>
  intro hd hzm i nm pl' key hn hp hk1 hne hK lm
  have hml := (Mem.last h34 hq hj hc ha hv hk hz).lt
  cases i with
  | succ i => simp at hn
  | zero =>
   simp only [List.getElem?_cons_zero, Option.some.injEq] at hn hp
   subst hn hp
   exact ⟨lm, q, x, j, a, e, f, Over.refl _ _ _, Nat.le_refl _, hml.1, h34, hq, hj, hc, ha, hv, by rw [← hk]; exact nb_ge _, dl_nb (by rw [hk, hz]; exact end125), hk1⟩
 | @more q x j a e k z f pl ns ks h34 hq hj hc ha hv hk hz r ih =>
  intro hd hzm i nm pl' key hn hp hk1 hne hK lm
  have hml := r.lt
  have hc9 := bt_lt hc (by decide)
  have hz9 := bt_lt hz (by decide)
  have hi := tV_is (by rw [← ha]; exact nb_le _ (by omega)) hv
  have i1 := hi.lt
  have i2 := hi.le
  simp only [] at i1 i2
  have g1 := nb_ge (s := s) (q + x + 2)
  have g2 := nb_ge (s := s) (j + 1)
  have g3 := nb_ge (s := s) e
  have g4 := nb_ge (s := s) (k + 1)
  have hdl : Dl s e := dl_nb (by rw [hk, hz]; exact end44)
  cases i with
  | zero =>
   simp only [List.getElem?_cons_zero, Option.some.injEq] at hn hp
   subst hn hp
   exact ⟨lm, q, x, j, a, e, f, Over.refl _ _ _, Nat.le_refl _, by omega, h34, hq, hj, hc, ha, hv, by omega, hdl, hk1⟩
  | succ i =>
   simp only [List.getElem?_cons_succ] at hn hp
   obtain ⟨u, hu, hus⟩ := hU q x hq
   have hne0 := hne 0 (by omega) _ rfl
   have hends : StrEnd.Ends ((bytesOf s).drop (q + 1)) 34 x := by
    obtain ⟨x', hx', he', _⟩ := qE_ends hq
    obtain rfl : x' = x := by omega
    exact he'
   have o1 := over_keyNo (UK := UK) (K := K) (kl := kl) (j := j) hL lm hd (by rw [rd_bytesOf]; exact h34) hends (by rw [nb_ws]; exact hj) (by omega) (by rw [rd_bytesOf]; exact hc) hkl hu (by rw [hus, hK]; exact hne0)
   have o2 := over_blanks (UK := UK) (K := K) (kl := kl) hL true false (p := j + 1) (a := a) (by rw [nb_ws]; exact ha) (by omega) (by omega)
   have o3 := over_val (UK := UK) (K := K) (kl := kl) hL (p := a) (n := e - a) (j := k) (by omega) (hi.ty hdl) (by rw [show a + (e - a) = e by omega, nb_ws]; exact hk) (by omega) (by rw [rd_bytesOf, hz]; decide) (fun h1 h2 h3 i hi' => by rw [rd_bytesOf]; exact hi.dull h1 h2 h3 i hi')
   have o4 := over_plain (UK := UK) (K := K) (kl := kl) hL (p := k) (by omega) (by omega) (by rw [rd_bytesOf, hz]; exact (by unfold plain; decide)) true false
   have o5 := over_blanks (UK := UK) (K := K) (kl := kl) hL true false (p := k + 1) (a := nb s (k + 1)) (nb_ws _) (by omega) (by omega)
   obtain ⟨lm', q', x', j', a', e', f', h1, h2, h3, h4⟩ := ih (by omega) hzm i nm pl' key hn hp hk1 (fun j' hj' nm' hn' => hne (j' + 1) (by omega) nm' (by simpa using hn')) hK false
   exact ⟨lm', q', x', j', a', e', f', ((((o1.trans o2).trans o3).trans o4).trans o5).trans h1, by omega, h3, h4⟩
/-- The search from a value on answers R (a place in the whole text), or -1. -/
def TA (UK : KeyRel) (L : List Int) (K : List ByteArray) (kl d m p : Nat) (R : Option Nat) : Prop := Jp.Trace UK (win L d m) K kl false true (p - d) (match R with | none => -1 | some r => ((r - d : Nat) : Int))
/-- Keys lead from a value of the reference's tree to another. -/
inductive Leads (nameOf : SP → ByteArray) : PL → List ByteArray → PL → Prop
 | nil {pl : PL} : Leads nameOf pl [] pl
 | obj {pl pl' kid : PL} {nm : SP} {key : ByteArray} {keys : List ByteArray} {i : Nat} (hk : pl.f0 = 6) (hn : pl.f3[i]? = some nm) (hc : pl.f4[i]? = some kid) (he : nameOf nm = key) (hne : ∀ j, j < i → ∀ nm', pl.f3[j]? = some nm' → nameOf nm' ≠ key) (r : Leads nameOf kid keys pl') : Leads nameOf pl (key :: keys) pl'
 | arr {pl pl' kid : PL} {key : ByteArray} {keys : List ByteArray} {t : Nat} (hk : pl.f0 = 5) (hx : IdxKey key t) (hc : pl.f4[t]? = some kid) (r : Leads nameOf kid keys pl') : Leads nameOf pl (key :: keys) pl'
theorem drop_cons_facts {K : List ByteArray} {kl : Nat} {key : ByteArray} {keys : List ByteArray} (h : K.drop kl = key :: keys) : kl < K.length ∧ K.getD kl ByteArray.empty = key ∧ K.drop (kl + 1) = keys ∧ K.length = kl + 1 + keys.length := by
 have h1 : kl < K.length := by
  refine Nat.lt_of_not_le fun hle => ?_
  rw [List.drop_of_length_le hle] at h; cases h
 have h2 := congrArg List.length h
 rw [List.length_drop, List.length_cons] at h2
 refine ⟨h1, ?_, ?_, by omega⟩
 ·have := congrArg (fun l => l[0]?) h
  simp only [List.getElem?_drop, Nat.add_zero, List.getElem?_cons_zero] at this
  rw [List.getD_eq_getElem?_getD, this]; rfl
 ·have := congrArg List.tail h
  rwa [List.tail_drop] at this
/-- The kinds of the reference's values by their first byte. -/
theorem tV_obj {f p : Nat} {pl : PL} {e : Nat} (h : tV s f p = some (pl, e)) (hk : pl.f0 = 6) : bt s (p : Int) = 123 ∧ ((pl.f3 = [] ∧ pl.f4 = []) ∨ ∃ f', tM s f' (nb s (p + 1)) = some (pl.f3, pl.f4, e)) := by
 cases f with
 | zero => rw [tV] at h; cases h
 | succ f =>
  rw [tV] at h
  by_cases c1 : bt s (p : Int) = 123
  ·rw [if_pos c1] at h
   refine ⟨c1, ?_⟩
   split at h
   ·cases h; exact .inl ⟨rfl, rfl⟩
   ·split at h
    ·cases h
    ·rename_i r hr
     cases h; exact .inr ⟨f, hr⟩
  ·exfalso
   rw [if_neg c1] at h
   split at h
   ·split at h
    ·cases h; exact absurd hk (by simp)
    ·split at h
     ·cases h
     ·cases h; exact absurd hk (by simp)
   ·split at h
    ·split at h
     ·cases h
     ·cases h; exact absurd hk (by simp)
    ·split at h
     ·split at h
      ·cases h
      ·cases h; exact absurd hk (by simp)
     ·split at h
      ·cases h
      ·rename_i r hr
       cases h
       unfold wordk at hr
       repeat' split at hr
       all_goals first
        | (cases hr; done)
        | (cases hr; exact absurd hk (by simp))
theorem tV_arr {f p : Nat} {pl : PL} {e : Nat} (h : tV s f p = some (pl, e)) (hk : pl.f0 = 5) : bt s (p : Int) = 91 ∧ ((pl.f4 = [] ∧ bt s (nb s (p + 1) : Int) = 93 ∧ e = nb s (p + 1) + 1) ∨ (bt s (nb s (p + 1) : Int) ≠ 93 ∧ ∃ f', tE s f' (nb s (p + 1)) = some (pl.f4, e))) := by
 cases f with
 | zero => rw [tV] at h; cases h
 | succ f =>
  rw [tV] at h
  by_cases c1 : bt s (p : Int) = 123
  ·exfalso
   rw [if_pos c1] at h
   split at h
   ·cases h; exact absurd hk (by simp)
   ·split at h
    ·cases h
    ·cases h; exact absurd hk (by simp)
  ·rw [if_neg c1] at h
   by_cases c2 : bt s (p : Int) = 91
   ·rw [if_pos c2] at h
    refine ⟨c2, ?_⟩
    split at h
    ·rename_i c3
     cases h; exact .inl ⟨rfl, c3, rfl⟩
    ·rename_i c3
     split at h
     ·cases h
     ·rename_i r hr
      cases h; exact .inr ⟨c3, f, hr⟩
   ·exfalso
    rw [if_neg c2] at h
    split at h
    ·split at h
     ·cases h
     ·cases h; exact absurd hk (by simp)
    ·split at h
     ·split at h
      ·cases h
      ·cases h; exact absurd hk (by simp)
     ·split at h
      ·cases h
      ·rename_i r hr
       cases h
       unfold wordk at hr
       repeat' split at hr
       all_goals first
        | (cases hr; done)
        | (cases hr; exact absurd hk (by simp))
theorem obj_step (hU : Names s UK nameOf) {f p e : Nat} {pl kid : PL} {nm : SP} {key : ByteArray} {keys : List ByteArray} {i : Nat} (hv : tV s f p = some (pl, e)) (hp : p ≤ s.size) (hk : pl.f0 = 6) (hn : pl.f3[i]? = some nm) (hc : pl.f4[i]? = some kid) (he : nameOf nm = key) (hne : ∀ j, j < i → ∀ nm', pl.f3[j]? = some nm' → nameOf nm' ≠ key)
  (hK : K.drop kl = key :: keys) (hd : d ≤ p) (hem : e ≤ d + m) (hdm : d + m ≤ s.size) :
  ∃ j a f' e', nb s (j + 1) = a ∧ tV s f' a = some (kid, e') ∧ e' < e ∧ p < j ∧ Dl s e' ∧ a ≤ s.size ∧ (keys = [] → TA UK (bytesOf s) K kl d m p (some (j + 1))) ∧ (keys ≠ [] → ∀ R, TA UK (bytesOf s) K (kl + 1) d m a R → TA UK (bytesOf s) K kl d m p R) := by
 have hL : d + m ≤ (bytesOf s).length := by rw [bytesOf_length]; exact hdm
 obtain ⟨c1, h | ⟨f1, hm⟩⟩ := tV_obj hv hk
 ·rw [h.1] at hn; cases hn
 obtain ⟨k1, k2, k3, k4⟩ := drop_cons_facts hK
 have hps := bt_lt c1 (by decide)
 have g0 := nb_ge (s := s) (p + 1)
 obtain ⟨z, hz, h1, h2, hmem⟩ := tM_mem f1 _ _ (nb_le (p + 1) (by omega)) hm
 simp only [] at hz
 obtain ⟨lm', q', x, j, a, e', f', o3, h3, h4, hA⟩ := over_mem (UK := UK) (K := K) (kl := kl) hU k1 hdm hmem (by omega) (by omega) i nm kid key hn hc he hne k2 true
 obtain ⟨a34, aq, aj, ac, aa, av, ae, ad, anm⟩ := hA
 have o1 := over_objIn (UK := UK) (K := K) (kl := kl) hL hd (by omega) (by rw [rd_bytesOf]; exact c1) k1
 have o2 := over_blanks (UK := UK) (K := K) (kl := kl) hL true true (p := p + 1) (a := nb s (p + 1)) (nb_ws _) (by omega) (by omega)
 have o := (o1.trans o2).trans o3
 obtain ⟨u, hu, hus⟩ := hU q' x aq
 have hends : StrEnd.Ends ((bytesOf s).drop (q' + 1)) 34 x := by
  obtain ⟨x', hx', he', _⟩ := qE_ends aq
  obtain rfl : x' = x := by omega
  exact he'
 have g1 := nb_ge (s := s) (q' + x + 2)
 have g2 := nb_ge (s := s) (j + 1)
 have hjs := bt_lt ac (by decide)
 have i1 := (tV_is (by rw [← aa]; exact nb_le _ (by omega)) av).lt
 simp only [] at i1
 have hst := strAt_win hL (p := q') (q := x) (j := j) (by omega) (by rw [rd_bytesOf]; exact a34) hends (by rw [nb_ws]; exact aj) (by omega)
 have hraw : UK ((((win (bytesOf s) d m).drop (q' - d + 1))).take x) u := by rw [raw_win (by omega) (by omega)]; exact hu
 have hcj : rd (win (bytesOf s) d m) ((j - d : Nat) : Int) = 58 := by rw [rd_at (by omega) (by omega), rd_bytesOf]; exact ac
 refine ⟨j, a, f', e', aa, av, by omega, by omega, ad, by rw [← aa]; exact nb_le _ (by omega), fun hnil => ?_, fun hnn R hR => ?_⟩
 ·subst hnil
  simp only [List.length_nil] at k4
  refine o _ ?_
  show Jp.Trace UK _ K kl true lm' (q' - d) ((j + 1 - d : Nat) : Int)
  rw [show j + 1 - d = j - d + 1 by omega]
  exact .keyLast hst hcj (by omega) hraw (by rw [hus, k2]; exact anm)
 ·refine o _ ?_
  have hlen : 0 < keys.length := List.length_pos_iff.mpr hnn
  refine .keyYes hst hcj (by omega) hraw (by rw [hus, k2]; exact anm) ?_
  have o5 := over_blanks (UK := UK) (K := K) (kl := kl + 1) hL false true (p := j + 1) (a := a) (by rw [nb_ws]; exact aa) (by omega) (by omega)
  have := o5 _ hR
  rwa [show j + 1 - d = j - d + 1 by omega] at this
theorem idx_of_els {xs : List PL} {t : Nat} {kid : PL} (h : xs[t]? = some kid) (p : Nat) : (esShift p (xs.map en))[t]? = some ((en kid).1 - p, (en kid).2.1, (en kid).2.2) := by
 unfold esShift
 rw [List.getElem?_map, List.getElem?_map, h]; rfl
theorem arr_step {f p e : Nat} {pl kid : PL} {key : ByteArray} {keys : List ByteArray} {t : Nat} (hv : tV s f p = some (pl, e)) (hp : p ≤ s.size) (hk : pl.f0 = 5) (hx : IdxKey key t) (hc : pl.f4[t]? = some kid)
  (hK : K.drop kl = key :: keys) (hd : d ≤ p) (hem : e ≤ d + m) (hdm : d + m ≤ s.size) :
  ∃ a f' e', tV s f' a = some (kid, e') ∧ e' < e ∧ p < a ∧ a < e' ∧ Dl s e' ∧ nb s a = a ∧ (keys = [] → TA UK (bytesOf s) K kl d m p (some a)) ∧ (keys ≠ [] → ∀ R, (∀ r, R = some r → a ≤ r) → TA UK (bytesOf s) (K.drop (kl + 1)) 0 a (e' - a) a R → TA UK (bytesOf s) K kl d m p R) := by
 have hL : d + m ≤ (bytesOf s).length := by rw [bytesOf_length]; exact hdm
 obtain ⟨c1, ⟨h, -⟩ | ⟨c3, f1, hm⟩⟩ := tV_arr hv hk
 ·rw [h] at hc; cases hc
 obtain ⟨k1, k2, k3, k4⟩ := drop_cons_facts hK
 have hps := bt_lt c1 (by decide)
 have g0 := nb_ge (s := s) (p + 1)
 obtain ⟨z, hz, h1, h2, h3, hels, hkids⟩ := tE_els f1 _ _ (nb_le (p + 1) (by omega)) hm
 simp only [] at hz hels hkids
 obtain ⟨f', a, e', av, qa, ez, ad, aas⟩ := hkids kid (List.mem_of_getElem? hc)
 have hi := tV_is aas av
 have i1 := hi.lt
 simp only [] at i1
 have hen := en_is (f := f') hi
 simp only [] at hen
 -- the elements in the window
 have e1 := (hels.shift (q := p) (by omega)).take (m := d + m - p) (by omega)
 have hwin : ((bytesOf s).drop p).take (d + m - p) = (win (bytesOf s) d m).drop (p - d) := by rw [drop_at hd]; rfl
 rw [hwin] at e1
 have hidx := idx_of_els hc p
 rw [hen] at hidx
 have hil : p - d < (win (bytesOf s) d m).length := by rw [win_len hL]; omega
 have h91 : rd (win (bytesOf s) d m) ((p - d : Nat) : Int) = 91 := by rw [rd_at hd (by omega), rd_bytesOf]; exact c1
 have hp1 : nb s (p + 1) - p = 1 + Fj.ws ((win (bytesOf s) d m).drop (p - d + 1)) := by
  rw [show p - d + 1 = p + 1 - d by omega, drop_at (by omega)]
  have hw := nb_ws (s := s) (p + 1)
  unfold win
  rw [ws_take]
  omega
 have hne93 : rd ((win (bytesOf s) d m).drop (p - d)) ((nb s (p + 1) - p : Nat) : Int) ≠ 93 := by
  rw [rd_dropN, show p - d + (nb s (p + 1) - p) = nb s (p + 1) - d by omega, rd_at (by omega) (by omega), rd_bytesOf]
  exact c3
 refine ⟨a, f', e', av, by omega, by omega, i1, ad, hi.ws0, fun hnil => ?_, fun hnn R hr hR => ?_⟩
 ·subst hnil
  simp only [List.length_nil] at k4
  show Jp.Trace UK _ K kl false true (p - d) ((a - d : Nat) : Int)
  rw [show a - d = p - d + (a - p) by omega]
  exact .arrLast hil h91 (by omega) (by rw [k2]; exact hx) hp1 hne93 e1 hidx
 ·have hlen : 0 < keys.length := List.length_pos_iff.mpr hnn
  unfold TA at hR ⊢
  rw [Nat.sub_self] at hR
  have hsub : ((win (bytesOf s) d m).drop (p - d + (a - p))).take (e' - a) = win (bytesOf s) a (e' - a) := by
   rw [show p - d + (a - p) = a - d by omega, drop_at (by omega), win_take (by omega)]
  have := Jp.Trace.arrMore (lm := true) hil h91 (show kl + 1 < K.length by omega) (by rw [k2]; exact hx) hp1 hne93 e1 hidx (by rw [hsub]; exact hR)
  cases R with
  | none => exact this
  | some r =>
   have har := hr r rfl
   simp only [] at this ⊢
   rw [if_neg (by omega)] at this
   rw [show ((r - d : Nat) : Int) = ((p - d + (a - p) : Nat) : Int) + ((r - a : Nat) : Int) by omega]
   exact this
/-- Keys that lead to a value lead the search to it. -/
theorem leads_ta (hU : Names s UK nameOf) {pl pl' : PL} {keys : List ByteArray} (h : Leads nameOf pl keys pl') : ∀ (f p e kl d m : Nat) (K : List ByteArray), tV s f p = some (pl, e) → p ≤ s.size → K.drop kl = keys → d ≤ p → e ≤ d + m → d + m ≤ s.size → keys ≠ [] →
  ∃ r f' e', TA UK (bytesOf s) K kl d m p (some r) ∧ p < r ∧ tV s f' (nb s r) = some (pl', e') ∧ e' < e ∧ Dl s e' ∧ r ≤ s.size := by
 induction h with
 | nil => intro f p e kl d m K _ _ _ _ _ _ h; exact absurd rfl h
 | @obj pl pl' kid nm key keys i hk hn hc he hne r ih =>
  intro f p e kl d m K hv hp hK hd hem hdm _
  obtain ⟨j, a, f', e', ha, hv', he', hj, hdl, hjs, t1, t2⟩ := obj_step (UK := UK) hU hv hp hk hn hc he hne hK hd hem hdm
  have hle := (tV_is hp hv).le
  simp only [] at hle
  have g := nb_ge (s := s) (j + 1)
  by_cases hnil : keys = []
  ·subst hnil
   cases r with
   | nil => exact ⟨j + 1, f', e', t1 rfl, by omega, by rw [ha]; exact hv', he', hdl, by omega⟩
  ·obtain ⟨k1, k2, k3, k4⟩ := drop_cons_facts hK
   obtain ⟨r', f2, e2, h1, h2, h3, h4, h5, h6⟩ := ih f' a e' (kl + 1) d m K hv' hjs k3 (by omega) (by omega) hdm hnil
   exact ⟨r', f2, e2, t2 hnil _ h1, by omega, h3, by omega, h5, h6⟩
 | @arr pl pl' kid key keys t hk hx hc r ih =>
  intro f p e kl d m K hv hp hK hd hem hdm _
  obtain ⟨a, f', e', hv', he', hpa, hae, hdl, hnb, t1, t2⟩ := arr_step (UK := UK) hv hp hk hx hc hK hd hem hdm
  have hle := (tV_is hp hv).le
  simp only [] at hle
  by_cases hnil : keys = []
  ·subst hnil
   cases r with
   | nil => exact ⟨a, f', e', t1 rfl, hpa, by rw [hnb]; exact hv', he', hdl, by omega⟩
  ·obtain ⟨k1, k2, k3, k4⟩ := drop_cons_facts hK
   obtain ⟨r', f2, e2, h1, h2, h3, h4, h5, h6⟩ := ih f' a e' 0 a (e' - a) (K.drop (kl + 1)) hv' (by omega) (by rw [List.drop_zero]; exact k3) (Nat.le_refl _) (by omega) (by omega) hnil
   exact ⟨r', f2, e2, t2 hnil _ (fun r hr => by cases hr; omega) h1, by omega, h3, by omega, h5, h6⟩
end
end Go.Proofs.YtcfhnfjkiljigaaDoor.ReadXFnJpGetUnsafe
end
section
namespace Go.Proofs.YtcfhnfjkiljigaaDoor.NameXFnJpGetUnsafe
open Go.RowKit Go.Proofs.YtcfhnfjkiljigaaDoor Go.Proofs.YtcfhnfjkiljigaaDoor.Base Go.Proofs.YtcfhnfjkiljigaaDoor.XFnJpGetUnsafe Go.Proofs.YtcfhnfjkiljigaaDoor.UnescXFnJpGetUnsafe Go.Proofs.YtcfhnfjkiljigaaDoorW.PrintWords Go.Proofs.YtcfhnfjkiljigaaDoorW.PrintLast
set_option linter.unusedVariables false
set_option linter.unusedSimpArgs false
theorem bt_cut (s : ByteArray) (a b : Nat) (i : Int) (h0 : 0 ≤ i) (h1 : i < (b : Int) - a) (h2 : b ≤ s.size) : bt (s.extract a b) i = bt s (i + a) := by
 unfold bt
 rw [dif_pos (by rw [ByteArray.size_extract]; omega), dif_pos (by omega)]
 simp only [ByteArray.getElem_extract]
 congr 3
 omega
theorem size_cut (s : ByteArray) (a b : Nat) (h : b ≤ s.size) : (s.extract a b).size = b - a := by rw [ByteArray.size_extract]; omega
theorem U_cut (s : ByteArray) (a b : Nat) (i : Int) (h0 : 0 ≤ i) (h2 : b ≤ s.size) (h1 : i + 6 ≤ (b : Int) - a) : U (s.extract a b) i = U s (i + a) := by
 unfold U
 rw [size_cut s a b h2, bt_cut s a b i h0 (by omega) h2, bt_cut s a b (i + 1) (by omega) (by omega) h2, bt_cut s a b (i + 2) (by omega) (by omega) h2, bt_cut s a b (i + 3) (by omega) (by omega) h2,
  bt_cut s a b (i + 4) (by omega) (by omega) h2, bt_cut s a b (i + 5) (by omega) (by omega) h2,
  show i + 1 + a = i + a + 1 by omega, show i + 2 + a = i + a + 2 by omega, show i + 3 + a = i + a + 3 by omega, show i + 4 + a = i + a + 4 by omega, show i + 5 + a = i + a + 5 by omega]
 by_cases c : bt s (i + a) = 92 ∧ bt s (i + a + 1) = 117
 ·rw [if_pos ⟨by omega, c.1, c.2⟩, if_pos ⟨by omega, c.1, c.2⟩]
 ·rw [if_neg (fun h => c ⟨h.2.1, h.2.2⟩), if_neg (fun h => c ⟨h.2.1, h.2.2⟩)]
theorem U_over (s : ByteArray) (i : Int) (h : s.size < i + 6) : U s i = none := by
 unfold U; rw [if_neg (by omega)]
/-! ### the program's side -/
theorem h2I_eq (k : Nat) (hk : 2 ≤ k) (c : Int) : jsonparser_h2I.f k c = some (match hv c with | some v => v | none => -1) := by
 obtain ⟨j, rfl⟩ : ∃ j, k = j + 2 := ⟨k - 2, by omega⟩
 by_cases a1 : 48 ≤ c <;> by_cases a2 : c ≤ 57 <;> by_cases a3 : 97 ≤ c <;> by_cases a4 : c ≤ 102 <;> by_cases a5 : 65 ≤ c <;> by_cases a6 : c ≤ 70 <;>
  first
   | omega
   | (simp [jsonparser_h2I.f, jsonparser_h2I.j0, jsonparser_h2I.j1, hv, a1, a2, a3, a4, a5, a6]; done)
   | (simp [jsonparser_h2I.f, jsonparser_h2I.j0, jsonparser_h2I.j1, hv, a1, a2, a3, a4, a5, a6]; change _ = c - 48; omega)
   | (simp [jsonparser_h2I.f, jsonparser_h2I.j0, jsonparser_h2I.j1, hv, a1, a2, a3, a4, a5, a6]; change _ = c - 87; omega)
   | (simp [jsonparser_h2I.f, jsonparser_h2I.j0, jsonparser_h2I.j1, hv, a1, a2, a3, a4, a5, a6]; change _ = c - 55; omega)
theorem w32 {i : Int} (h0 : -2147483648 ≤ i) (h : i ≤ 2147483647) : wrap32 i = i := by unfold wrap32; omega
theorem single_eq (k : Nat) (hk : 2 ≤ k) (l : List Int) :
  jsonparser_decodeSingleUnicodeEscape.f k l = some (match (if (l.length : Int) < 6 then none else h4 (hv (rd l 2)) (hv (rd l 3)) (hv (rd l 4)) (hv (rd l 5))) with | some v => (v, true) | none => (65533, false)) := by
 unfold jsonparser_decodeSingleUnicodeEscape.f
 by_cases c : (l.length : Int) < 6
 ·rw [if_pos c, if_pos c]
 ·rw [if_neg c, if_neg c, if_pos (by omega), h2I_eq k hk]
  simp only [Option.bind_some]
  rw [if_pos (by omega), h2I_eq k hk]
  simp only [Option.bind_some]
  rw [if_pos (by omega), h2I_eq k hk]
  simp only [Option.bind_some]
  rw [if_pos (by omega), h2I_eq k hk]
  simp only [Option.bind_some]
  unfold h4
  cases e1 : hv (rd l 2) with
  | none => simp
  | some a =>
   have r1 := hv_range e1
   simp only [Option.bind_some]
   rw [if_neg (by omega)]
   cases e2 : hv (rd l 3) with
   | none => simp
   | some b =>
    have r2 := hv_range e2
    simp only [Option.bind_some]
    rw [if_neg (by omega)]
    cases e3 : hv (rd l 4) with
    | none => simp
    | some c =>
     have r3 := hv_range e3
     simp only [Option.bind_some]
     rw [if_neg (by omega)]
     cases e4 : hv (rd l 5) with
     | none => simp
     | some d =>
      have r4 := hv_range e4
      simp only [Option.bind_some]
      rw [if_neg (by omega)]
      rw [w64 (i := a * 4096) (by omega) (by omega), w64 (i := b * 256) (by omega) (by omega), w64 (i := c * 16) (by omega) (by omega), w64 (i := a * 4096 + b * 256) (by omega) (by omega), w64 (i := a * 4096 + b * 256 + c * 16) (by omega) (by omega), w64 (i := a * 4096 + b * 256 + c * 16 + d) (by omega) (by omega), w32 (by omega) (by omega)]
/-- What the program's reader of a unit answers at a backslash and "u". -/
def du (s : ByteArray) : Int × Int :=
 match U s 0 with
 | none => (65533, -1)
 | some v => if Low v then (65533, 6) else if High v then
   (if 8 ≤ s.size ∧ bt s 6 = 92 ∧ bt s 7 = 117 then match U s 6 with | none => (65533, -1) | some w => if Low w then (pair v w, 12) else (65533, 6) else (65533, 6))
  else (v, 6)
theorem U_list (s : ByteArray) (h1 : bt s 0 = 92) (h2 : bt s 1 = 117) : (if ((bytesOf s).length : Int) < 6 then none else h4 (hv (rd (bytesOf s) 2)) (hv (rd (bytesOf s) 3)) (hv (rd (bytesOf s) 4)) (hv (rd (bytesOf s) 5))) = U s 0 := by
 rw [bytesOf_length]
 by_cases c : (s.size : Int) < 6
 ·rw [if_pos c, U_over s 0 (by omega)]
 ·rw [if_neg c, U_h4 (by omega) h1 (by simpa using h2)]
  simp only [rd_bytesOf]
  rfl
theorem rd_drop (l : List Int) (n : Nat) (i : Int) (h : 0 ≤ i) : rd (l.drop n) i = rd l (i + n) := by
 unfold rd
 rw [List.getD_eq_getElem?_getD, List.getD_eq_getElem?_getD, List.getElem?_drop, show n + i.toNat = (i + n).toNat by omega]
theorem U_list6 (s : ByteArray) (h1 : bt s 6 = 92) (h2 : bt s 7 = 117) (h3 : 6 ≤ s.size) : (if (((bytesOf s).drop 6).length : Int) < 6 then none else h4 (hv (rd ((bytesOf s).drop 6) 2)) (hv (rd ((bytesOf s).drop 6) 3)) (hv (rd ((bytesOf s).drop 6) 4)) (hv (rd ((bytesOf s).drop 6) 5))) = U s 6 := by
 rw [List.length_drop, bytesOf_length]
 by_cases c : (s.size : Int) < 12
 ·rw [if_pos (by omega), U_over s 6 (by omega)]
 ·rw [if_neg (by omega), U_h4 (by omega) h1 (by simpa using h2)]
  rw [rd_drop _ _ _ (by omega), rd_drop _ _ _ (by omega), rd_drop _ _ _ (by omega), rd_drop _ _ _ (by omega)]
  simp only [rd_bytesOf]
  rfl
theorem du_eq (k : Nat) (hk : 3 ≤ k) (s : ByteArray) (h1 : bt s 0 = 92) (h2 : bt s 1 = 117) : jsonparser_decodeUnicodeEscape.f k (bytesOf s) = some (du s) := by
 obtain ⟨j, rfl⟩ : ∃ j, k = j + 3 := ⟨k - 3, by omega⟩
 unfold jsonparser_decodeUnicodeEscape.f du
 rw [single_eq (j + 3) (by omega), U_list s h1 h2]
 cases hU : U s 0 with
 | none => simp
 | some v =>
  have hr := U_range hU
  have ha := U_at hU
  simp only [Option.bind_some, if_true, jsonparser_isUTF16EncodedRune.f, bytesOf_length]
  by_cases c1 : Low v
  ·have c1' := c1
   unfold Low at c1'
   rw [if_pos (by omega), if_pos c1]
   simp only [Option.bind_some, decide_eq_true_eq]
   rw [if_pos (by omega), if_pos (by omega)]
  ·have c1' := c1
   unfold Low at c1'
   rw [if_neg c1]
   by_cases c2 : High v
   ·have c2' := c2
    unfold High at c2'
    rw [if_pos (by omega), if_pos c2]
    simp only [Option.bind_some, decide_eq_true_eq, rd_bytesOf]
    rw [if_pos (by omega), if_neg (by omega)]
    by_cases c3 : (s.size : Int) < 8
    ·rw [if_pos c3, if_neg (by omega)]
     simp [jsonparser_decodeUnicodeEscape.j0]
    ·rw [if_neg c3, if_pos (by omega)]
     by_cases c4 : bt s 6 = 92
     ·rw [if_pos c4, if_pos (by omega)]
      by_cases c5 : bt s 7 = 117
      ·rw [if_pos ⟨by omega, c4, c5⟩]
       simp only [jsonparser_decodeUnicodeEscape.j0, c5, bne_self_eq_false, Bool.false_eq_true, if_false, bytesOf_length]
       rw [if_pos (by omega), single_eq (j + 2) (by omega), U_list6 s c4 c5 (by omega)]
       cases hU6 : U s 6 with
       | none => simp
       | some w =>
        have hr6 := U_range hU6
        simp only [Option.bind_some, if_true]
        by_cases c6 : Low w
        ·have c6' := c6
         unfold Low at c6'
         rw [if_neg (by omega), if_neg (by omega), if_pos c6]
         simp only [jsonparser_combineUTF16Surrogates.f, Option.bind_some]
         rw [w32 (i := v - 55296) (by omega) (by omega), w32 (i := (v - 55296) * 1024) (by omega) (by omega), w32 (i := w - 56320) (by omega) (by omega), w32 (i := 65536 + (v - 55296) * 1024) (by omega) (by omega), w32 (by omega) (by omega)]
         rfl
        ·have c6' := c6
         unfold Low at c6'
         rw [if_neg c6]
         by_cases c7 : w < 56320
         ·rw [if_pos c7]
         ·rw [if_neg c7, if_pos (by omega)]
      ·rw [if_neg (fun h => c5 h.2.2)]
       simp [jsonparser_decodeUnicodeEscape.j0, c5]
     ·rw [if_neg c4, if_neg (fun h => c4 h.2.1)]
      simp [jsonparser_decodeUnicodeEscape.j0]
   ·have c2' := c2
    unfold High at c2'
    rw [if_neg c2]
    by_cases c3 : 55296 ≤ v
    ·rw [if_pos c3]
     simp only [Option.bind_some, decide_eq_true_eq]
     rw [if_neg (by omega)]
    ·rw [if_neg c3]
     simp
theorem sur (v : Int) (h : High v ∨ Low v) : Lib.encodeRuneZ v = Lib.encodeRuneZ 65533 := by
 unfold High Low at h
 rw [show Lib.encodeRuneZ 65533 = [239, 191, 189] from by decide]
 unfold Lib.encodeRuneZ
 rw [if_neg (by omega), if_neg (by omega), if_neg (by omega), if_neg (by omega)]
abbrev full := impl_JpGetUnsafeString.full
theorem full_cons (k : Nat) (c : Int) (hc : c ≠ 92) (R : List Int) : full k (c :: R) = (full k R).map (c :: ·) := by
 have hr := impl_JpGetUnsafeString.bsl_range R
 unfold full impl_JpGetUnsafeString.full
 rw [impl_JpGetUnsafeString.bsl, if_neg hc]
 by_cases d : impl_JpGetUnsafeString.bsl R = -1
 ·rw [if_pos d, if_pos rfl, if_pos d]
  rfl
 ·rw [if_neg d, if_neg d, if_neg (by omega), show (impl_JpGetUnsafeString.bsl R + 1).toNat = (impl_JpGetUnsafeString.bsl R).toNat + 1 by omega, List.drop_succ_cons, List.take_succ_cons]
  cases impl_JpGetUnsafeString.un k (R.drop (impl_JpGetUnsafeString.bsl R).toNat) <;> rfl
theorem full_esc (k : Nat) (R : List Int) (n : Nat) (xs : List Int) (he : impl_JpGetUnsafeString.esc (k + 1) (92 :: R) = some ((n : Int), xs)) (hn : n ≤ (92 :: R).length) (hx : xs.length ≤ n) : full (k + 1) (92 :: R) = (full k ((92 :: R).drop n)).map (xs ++ ·) := by
 have hb : impl_JpGetUnsafeString.bsl (92 :: R) = 0 := by rw [impl_JpGetUnsafeString.bsl, if_pos rfl]
 unfold full
 rw [impl_JpGetUnsafeString.full, hb, if_neg (by decide), show (0 : Int).toNat = 0 from rfl, List.drop_zero, List.take_zero, impl_JpGetUnsafeString.un, he]
 simp only [Option.bind_some, Int.toNat_natCast, List.nil_append]
 rw [if_pos (by omega)]
 unfold impl_JpGetUnsafeString.full
 by_cases d : impl_JpGetUnsafeString.bsl ((92 :: R).drop n) = -1
 ·rw [if_pos d, if_pos d]
  rfl
 ·rw [if_neg d, if_neg d]
  cases impl_JpGetUnsafeString.un k (((92 :: R).drop n).drop (impl_JpGetUnsafeString.bsl ((92 :: R).drop n)).toNat) <;> simp
theorem tab_simple {c : Int} (h : Simple c) : impl_JpGetUnsafeString.tab c = some (short c) := by
 unfold Simple at h
 rcases h with rfl | rfl | rfl | rfl | rfl | rfl | rfl | rfl <;> rfl
theorem simple8_is {c : Int} (h : Fj.simple8 c = true) : Simple c := by
 unfold Fj.simple8 at h
 simp only [Bool.or_eq_true, beq_iff_eq] at h
 unfold Simple
 omega
theorem hexd_hv {c : Int} (h : Fj.hexd c = true) : ∃ v, hv c = some v := by
 unfold Fj.hexd at h
 simp only [Bool.or_eq_true, decide_eq_true_eq] at h
 unfold hv
 by_cases h1 : 48 ≤ c ∧ c ≤ 57
 ·exact ⟨_, if_pos h1⟩
 ·rw [if_neg h1]
  by_cases h2 : 97 ≤ c ∧ c ≤ 102
  ·exact ⟨_, if_pos h2⟩
  ·rw [if_neg h2, if_pos (by omega)]
   exact ⟨_, rfl⟩
theorem cut_bytes (t : ByteArray) (i j : Nat) : bytesOf (t.extract i j) = ((bytesOf t).take j).drop i := by
 unfold bytesOf
 rw [ByteArray.data_extract, Array.toList_extract]
 simp [List.drop_take, List.extract_eq_take_drop, List.map_drop, List.map_take]
theorem drop_cut (t : ByteArray) (i : Nat) : bytesOf (t.extract i t.size) = (bytesOf t).drop i := by
 rw [cut_bytes, List.take_of_length_le (by rw [bytesOf_length]; exact Nat.le_refl _)]
theorem drop_bt (t : ByteArray) (i : Nat) (h : i < t.size) : (bytesOf t).drop i = bt t (i : Int) :: (bytesOf t).drop (i + 1) := by
 rw [List.drop_eq_getElem_cons (by rw [bytesOf_length]; exact h), ← rd_bytesOf]
 congr 1
 unfold rd
 rw [Int.toNat_natCast, List.getD_eq_getElem?_getD, List.getElem?_eq_getElem (by rw [bytesOf_length]; exact h)]
 rfl
/-- What begins at a place of an inside of a string that is right. -/
inductive Part (t : ByteArray) (i : Nat) : Prop
 | done (h : i = t.size)
 | plain (h : i < t.size) (hc : bt t (i : Int) ≠ 92)
 | simple (h : i + 2 ≤ t.size) (hc : bt t (i : Int) = 92) (hs : Simple (bt t ((i : Int) + 1)))
 | unit (h : i + 6 ≤ t.size) (hc : bt t (i : Int) = 92) (hu : bt t ((i : Int) + 1) = 117) (v : Int) (hv : U t (i : Int) = some v)
/-- Right from a place on. -/
def Fine (t : ByteArray) (i : Nat) : Prop := ∃ r, Fj.quo ((bytesOf t).drop i ++ 34 :: r) = some (t.size - i + 1)
theorem fine_end {t : ByteArray} {i : Nat} (h : Fine t i) (hi : i ≤ t.size) : Part t i ∧ (∀ n, (n = 1 ∧ i < t.size ∧ bt t (i : Int) ≠ 92) ∨ (n = 2 ∧ bt t (i : Int) = 92 ∧ Simple (bt t ((i : Int) + 1))) ∨ (n = 6 ∧ bt t (i : Int) = 92 ∧ bt t ((i : Int) + 1) = 117) → Fine t (i + n)) := by
 obtain ⟨r, hq⟩ := h
 by_cases hlt : i < t.size
 ·rw [drop_bt t i hlt, List.cons_append, Fj.quo.eq_def] at hq
  simp only [] at hq
  by_cases c1 : bt t (i : Int) = 34
  ·rw [if_pos c1] at hq
   have := Option.some.inj hq
   omega
  ·rw [if_neg c1] at hq
   by_cases c2 : bt t (i : Int) < 32
   ·rw [if_pos c2] at hq; cases hq
   ·rw [if_neg c2] at hq
    by_cases c3 : bt t (i : Int) = 92
    ·rw [if_pos c3] at hq
     -- what is behind the backslash
     have next : ∀ j : Nat, j < t.size → ∀ k : Nat, (((bytesOf t).drop j ++ 34 :: r).drop k) = if j + k ≤ t.size then (bytesOf t).drop (j + k) ++ 34 :: r else r.drop (j + k - t.size - 1) := fun j hj k => by
      by_cases hjk : j + k ≤ t.size
      ·rw [if_pos hjk, List.drop_append_of_le_length (by rw [List.length_drop, bytesOf_length]; omega), List.drop_drop]
      ·rw [if_neg hjk, List.drop_append, List.drop_of_length_le (by rw [List.length_drop, bytesOf_length]; omega), List.nil_append, List.length_drop, bytesOf_length]
       obtain ⟨z, hz⟩ : ∃ z, k - (t.size - j) = z + 1 := ⟨k - (t.size - j) - 1, by omega⟩
       rw [hz, List.drop_succ_cons]
       congr 1
       omega
     by_cases h1 : i + 1 < t.size
     ·rw [drop_bt t (i + 1) h1, List.cons_append] at hq
      simp only [] at hq
      have e1 : ((i + 1 : Nat) : Int) = (i : Int) + 1 := by omega
      rw [e1] at hq
      by_cases c4 : Fj.simple8 (bt t ((i : Int) + 1)) = true
      ·rw [if_pos c4] at hq
       obtain ⟨m, hm, he⟩ := Option.map_eq_some_iff.mp hq
       refine ⟨.simple (by omega) c3 (simple8_is c4), fun n hn => ?_⟩
       have hs := simple8_is c4
       have hs' := hs
       unfold Simple at hs'
       rcases hn with ⟨rfl, _, h92⟩ | ⟨rfl, _, _⟩ | ⟨rfl, _, h117⟩
       ·exact absurd c3 h92
       ·exact ⟨r, by rw [show i + 2 = i + 1 + 1 by omega, hm]; congr 1; omega⟩
       ·rw [h117] at hs'; omega
      ·rw [if_neg c4] at hq
       by_cases c5 : bt t ((i : Int) + 1) = 117
       ·rw [if_pos c5] at hq
        by_cases h6 : i + 6 ≤ t.size
        ·rw [drop_bt t (i + 1 + 1) (by omega), drop_bt t (i + 1 + 1 + 1) (by omega), drop_bt t (i + 1 + 1 + 1 + 1) (by omega), drop_bt t (i + 1 + 1 + 1 + 1 + 1) (by omega), List.cons_append, List.cons_append, List.cons_append, List.cons_append] at hq
         simp only [] at hq
         have e2 : ((i + 1 + 1 : Nat) : Int) = (i : Int) + 2 := by omega
         have e3 : ((i + 1 + 1 + 1 : Nat) : Int) = (i : Int) + 3 := by omega
         have e4 : ((i + 1 + 1 + 1 + 1 : Nat) : Int) = (i : Int) + 4 := by omega
         have e5 : ((i + 1 + 1 + 1 + 1 + 1 : Nat) : Int) = (i : Int) + 5 := by omega
         rw [e2, e3, e4, e5] at hq
         by_cases c6 : (Fj.hexd (bt t ((i : Int) + 2)) && (Fj.hexd (bt t ((i : Int) + 3)) && (Fj.hexd (bt t ((i : Int) + 4)) && Fj.hexd (bt t ((i : Int) + 5))))) = true
         ·rw [if_pos c6] at hq
          obtain ⟨m, hm, he⟩ := Option.map_eq_some_iff.mp hq
          simp only [Bool.and_eq_true] at c6
          obtain ⟨a2, ha⟩ := hexd_hv c6.1
          obtain ⟨a3, hb⟩ := hexd_hv c6.2.1
          obtain ⟨a4, hc⟩ := hexd_hv c6.2.2.1
          obtain ⟨a5, hd⟩ := hexd_hv c6.2.2.2
          have hU : U t (i : Int) = some (a2 * 4096 + a3 * 256 + a4 * 16 + a5) := by
           unfold U
           rw [if_pos ⟨by omega, c3, c5⟩, ha, hb, hc, hd]; rfl
          refine ⟨.unit h6 c3 c5 _ hU, fun n hn => ?_⟩
          rcases hn with ⟨rfl, _, h92⟩ | ⟨rfl, _, hs⟩ | ⟨rfl, _, h117⟩
          ·exact absurd c3 h92
          ·rw [c5] at hs; exact absurd hs (by unfold Simple; omega)
          ·exact ⟨r, by rw [show i + 6 = i + 1 + 1 + 1 + 1 + 1 + 1 by omega, hm]; congr 1; omega⟩
         ·rw [if_neg c6] at hq; cases hq
        ·exfalso
         -- a quotation mark stands among the digits
         have hq34 : Fj.hexd 34 = false := by decide
         have hcase : t.size = i + 2 ∨ t.size = i + 3 ∨ t.size = i + 4 ∨ t.size = i + 5 := by omega
         rcases hcase with h | h | h | h
         ·rw [List.drop_of_length_le (by rw [bytesOf_length]; omega), List.nil_append] at hq
          cases r with
          | nil => cases hq
          | cons b r1 => cases r1 with
           | nil => cases hq
           | cons b2 r2 => cases r2 with
            | nil => cases hq
            | cons b3 r3 => simp [hq34] at hq
         ·rw [drop_bt t (i + 1 + 1) (by omega), List.cons_append, List.drop_of_length_le (by rw [bytesOf_length]; omega), List.nil_append] at hq
          cases r with
          | nil => cases hq
          | cons b r1 => cases r1 with
           | nil => cases hq
           | cons b2 r2 => simp [hq34] at hq
         ·rw [drop_bt t (i + 1 + 1) (by omega), List.cons_append, drop_bt t (i + 1 + 1 + 1) (by omega), List.cons_append, List.drop_of_length_le (by rw [bytesOf_length]; omega), List.nil_append] at hq
          cases r with
          | nil => cases hq
          | cons b r1 => simp [hq34] at hq
         ·rw [drop_bt t (i + 1 + 1) (by omega), List.cons_append, drop_bt t (i + 1 + 1 + 1) (by omega), List.cons_append, drop_bt t (i + 1 + 1 + 1 + 1) (by omega), List.cons_append, List.drop_of_length_le (by rw [bytesOf_length]; omega), List.nil_append] at hq
          simp [hq34] at hq
       ·rw [if_neg c5] at hq; cases hq
     ·exfalso
      -- the backslash would be the last byte: the quotation mark behind it is escaped
      have he : i + 1 = t.size := by omega
      rw [List.drop_of_length_le (by rw [bytesOf_length]; omega), List.nil_append] at hq
      simp only [] at hq
      rw [if_pos (by decide)] at hq
      obtain ⟨m, hm, he2⟩ := Option.map_eq_some_iff.mp hq
      have hpos : 1 ≤ m := by
       cases r with
       | nil => cases hm
       | cons b r1 =>
        obtain ⟨q, hq1, -⟩ := ReadXFnJpGetUnsafe.quo_ends _ _ _ (Nat.le_refl _) hm
        omega
      omega
    ·rw [if_neg c3] at hq
     obtain ⟨m, hm, he⟩ := Option.map_eq_some_iff.mp hq
     refine ⟨.plain hlt c3, fun n hn => ?_⟩
     rcases hn with ⟨rfl, _, _⟩ | ⟨rfl, h92, _⟩ | ⟨rfl, h92, _⟩
     ·exact ⟨r, by rw [hm]; congr 1; omega⟩
     ·exact absurd h92 c3
     ·exact absurd h92 c3
 ·refine ⟨.done (by omega), fun n hn => ?_⟩
  rcases hn with ⟨_, h, _⟩ | ⟨_, h, _⟩ | ⟨_, h, _⟩
  ·exact absurd h hlt
  ·rw [bt_out t (i : Int) (by omega)] at h; cases h
  ·rw [bt_out t (i : Int) (by omega)] at h; cases h
/-- From a place on the two say the same. -/
def Both (t : ByteArray) (i : Nat) : Prop := ∃ xs, (∀ m, t.size - i ≤ m → dec t m (i : Int) = some xs) ∧ Ev fun k => full k ((bytesOf t).drop i) = some xs
theorem esc_simple (k : Nat) (t : ByteArray) (i : Nat) (h : i + 2 ≤ t.size) (hc : bt t (i : Int) = 92) (hs : Simple (bt t ((i : Int) + 1))) : impl_JpGetUnsafeString.esc k ((bytesOf t).drop i) = some (2, [short (bt t ((i : Int) + 1))]) := by
 unfold impl_JpGetUnsafeString.esc
 have e0 : rd ((bytesOf t).drop i) 0 = bt t (i : Int) := by rw [rd_drop _ _ _ (by omega), rd_bytesOf, Int.zero_add]
 have e1 : rd ((bytesOf t).drop i) 1 = bt t ((i : Int) + 1) := by rw [rd_drop _ _ _ (by omega), rd_bytesOf, Int.add_comm]
 rw [if_neg (by rw [List.length_drop, bytesOf_length]; omega), e0, e1, if_neg (by rw [hc]; simp), tab_simple hs]
theorem esc_unit (k : Nat) (hk : 3 ≤ k) (t : ByteArray) (i : Nat) (h : i + 6 ≤ t.size) (hc : bt t (i : Int) = 92) (hu : bt t ((i : Int) + 1) = 117) (hd2 : (du (t.extract i t.size)).2 ≠ -1) (hd1 : -2147483648 ≤ (du (t.extract i t.size)).1 ∧ (du (t.extract i t.size)).1 ≤ 2147483647) : impl_JpGetUnsafeString.esc k ((bytesOf t).drop i) = some ((du (t.extract i t.size)).2, Lib.encodeRuneZ (du (t.extract i t.size)).1) := by
 unfold impl_JpGetUnsafeString.esc
 have e0 : rd ((bytesOf t).drop i) 0 = bt t (i : Int) := by rw [rd_drop _ _ _ (by omega), rd_bytesOf, Int.zero_add]
 have e1 : rd ((bytesOf t).drop i) 1 = bt t ((i : Int) + 1) := by rw [rd_drop _ _ _ (by omega), rd_bytesOf, Int.add_comm]
 have htab : impl_JpGetUnsafeString.tab 117 = none := rfl
 rw [if_neg (by rw [List.length_drop, bytesOf_length]; omega), e0, e1, if_neg (by rw [hc]; simp), hu, htab]
 simp only [if_true]
 have hb0 : bt (t.extract i t.size) 0 = 92 := by rw [bt_cut t i t.size 0 (by omega) (by omega) (Nat.le_refl _), Int.zero_add]; exact hc
 have hb1 : bt (t.extract i t.size) 1 = 117 := by rw [bt_cut t i t.size 1 (by omega) (by omega) (Nat.le_refl _), Int.add_comm]; exact hu
 have hdu := du_eq k hk (t.extract i t.size) hb0 hb1
 rw [drop_cut] at hdu
 rw [hdu]
 simp only [Option.bind_some]
 rw [if_neg hd2, if_pos hd1]
theorem both : ∀ (n : Nat) (t : ByteArray) (i : Nat), t.size ≤ 1000000 → t.size - i ≤ n → i ≤ t.size → Fine t i → Both t i
 | n, t, i, hs, hn, hi, hf => by
  obtain ⟨hp, hstep⟩ := fine_end hf hi
  cases hp with
  | done h =>
   refine ⟨[], fun m _ => ?_, ⟨0, fun k _ => ?_⟩⟩
   ·cases m with
    | zero => rw [dec]
    | succ m => rw [dec, if_neg (by omega)]
   ·rw [List.drop_of_length_le (by rw [bytesOf_length]; omega)]; rfl
  | plain h hc =>
   obtain ⟨n, rfl⟩ : ∃ n', n = n' + 1 := ⟨n - 1, by omega⟩
   obtain ⟨xs, h1, h2⟩ := both n t (i + 1) hs (by omega) (by omega) (hstep 1 (.inl ⟨rfl, h, hc⟩))
   refine ⟨bt t (i : Int) :: xs, fun m hm => ?_, h2.mp fun k hk => ?_⟩
   ·obtain ⟨m, rfl⟩ : ∃ m', m = m' + 1 := ⟨m - 1, by omega⟩
    have := h1 m (by omega)
    rw [show ((i + 1 : Nat) : Int) = (i : Int) + 1 by omega] at this
    rw [dec, if_pos (by omega), if_neg hc, this]; rfl
   ·rw [drop_bt t i h, full_cons k _ hc, hk]; rfl
  | simple h hc hsm =>
   obtain ⟨n, rfl⟩ : ∃ n', n = n' + 1 := ⟨n - 1, by omega⟩
   obtain ⟨xs, h1, h2⟩ := both n t (i + 2) hs (by omega) (by omega) (hstep 2 (.inr (.inl ⟨rfl, hc, hsm⟩)))
   have hU : U t (i : Int) = none := by
    unfold U
    rw [if_neg fun hh => ?_]
    have := hh.2.2
    rw [this] at hsm
    exact absurd hsm (by unfold Simple; omega)
   refine ⟨[short (bt t ((i : Int) + 1))] ++ xs, fun m hm => ?_, h2.succ fun k hk => ?_⟩
   ·obtain ⟨m, rfl⟩ : ∃ m', m = m' + 1 := ⟨m - 1, by omega⟩
    have := h1 m (by omega)
    rw [show ((i + 2 : Nat) : Int) = (i : Int) + 2 by omega] at this
    rw [dec, if_pos (by omega), if_pos hc, hU]
    simp only []
    rw [if_pos hsm, this]; rfl
   ·have he := esc_simple (k + 1) t i h hc hsm
    rw [drop_bt t i (by omega), hc] at he ⊢
    rw [full_esc k _ 2 _ he (by simp only [List.length_cons, List.length_drop, bytesOf_length]; omega) (by simp), List.drop_succ_cons, List.drop_drop, show i + 1 + 1 = i + 2 by omega, hk]; rfl
  | unit h hc hu v hU =>
   obtain ⟨n, rfl⟩ : ∃ n', n = n' + 1 := ⟨n - 1, by omega⟩
   have hf6 := hstep 6 (.inr (.inr ⟨rfl, hc, hu⟩))
   have hvr := U_range hU
   have hU0 : U (t.extract i t.size) 0 = some v := by rw [U_cut t i t.size 0 (by omega) (Nat.le_refl _) (by omega), Int.zero_add]; exact hU
   -- the second half
   obtain ⟨hp6, hstep6⟩ := fine_end hf6 h
   have hsz : (t.extract i t.size).size = t.size - i := size_cut t i t.size (Nat.le_refl _)
   by_cases pr : High v ∧ ∃ v2, U t ((i : Int) + 6) = some v2 ∧ Low v2
   ·obtain ⟨hh, v2, hU2, hl⟩ := pr
    have ha2 := U_at hU2
    have hf12 := hstep6 6 (.inr (.inr ⟨rfl, by rw [show ((i + 6 : Nat) : Int) = (i : Int) + 6 by omega]; exact ha2.2.1, by rw [show ((i + 6 : Nat) : Int) = (i : Int) + 6 by omega]; exact ha2.2.2⟩))
    obtain ⟨xs, h1, h2⟩ := both n t (i + 6 + 6) hs (by omega) (by omega) hf12
    have hU6 : U (t.extract i t.size) 6 = some v2 := by rw [U_cut t i t.size 6 (by omega) (Nat.le_refl _) (by omega), Int.add_comm]; exact hU2
    have hpr := pair_range hh hl
    have hl2 := hl
    have hh2 := hh
    unfold Low at hl2
    unfold High at hh2
    have hdu : du (t.extract i t.size) = (pair v v2, 12) := by
     unfold du
     rw [hU0]
     simp only []
     have ha6 := U_at hU6
     rw [if_neg (by unfold Low; omega), if_pos hh, if_pos ⟨by omega, ha6.2.1, ha6.2.2⟩, hU6]
     simp only []
     rw [if_pos hl]
    refine ⟨Lib.encodeRuneZ (pair v v2) ++ xs, fun m hm => ?_, (h2.and (Ev.ge 2)).succ fun k hk => ?_⟩
    ·obtain ⟨m, rfl⟩ : ∃ m', m = m' + 1 := ⟨m - 1, by omega⟩
     have := h1 m (by omega)
     rw [show ((i + 6 + 6 : Nat) : Int) = (i : Int) + 12 by omega] at this
     rw [dec, if_pos (by omega), if_pos hc, hU]
     simp only []
     rw [hU2]
     simp only []
     rw [if_pos ⟨hh, hl⟩, this]; rfl
    ·have he := esc_unit (k + 1) (by omega) t i h hc hu (by rw [hdu]; show (12 : Int) ≠ -1; decide) (by rw [hdu]; constructor <;> simp only [] <;> omega)
     rw [hdu] at he
     rw [drop_bt t i (by omega), hc] at he ⊢
     rw [full_esc k _ 12 _ he (by simp only [List.length_cons, List.length_drop, bytesOf_length]; omega) (Nat.le_trans (rune_le (pair v v2)) (by decide)), List.drop_succ_cons, List.drop_drop, show i + 1 + 11 = i + 6 + 6 by omega, hk.1]; rfl
   ·obtain ⟨xs, h1, h2⟩ := both n t (i + 6) hs (by omega) (by omega) hf6
    have hdu : (du (t.extract i t.size)).2 = 6 ∧ (0 ≤ (du (t.extract i t.size)).1 ∧ (du (t.extract i t.size)).1 ≤ 65535) ∧ Lib.encodeRuneZ (du (t.extract i t.size)).1 = Lib.encodeRuneZ v := by
     unfold du
     rw [hU0]
     simp only []
     by_cases c1 : Low v
     ·rw [if_pos c1]
      exact ⟨rfl, ⟨by decide, by decide⟩, (sur v (.inr c1)).symm⟩
     ·rw [if_neg c1]
      by_cases c2 : High v
      ·rw [if_pos c2]
       by_cases c3 : 8 ≤ (t.extract i t.size).size ∧ bt (t.extract i t.size) 6 = 92 ∧ bt (t.extract i t.size) 7 = 117
       ·rw [if_pos c3]
        rw [hsz, bt_cut t i t.size 6 (by omega) (by omega) (Nat.le_refl _), bt_cut t i t.size 7 (by omega) (by omega) (Nat.le_refl _), show (6 : Int) + (i : Int) = ((i + 6 : Nat) : Int) by omega, show (7 : Int) + (i : Int) = ((i + 6 : Nat) : Int) + 1 by omega] at c3
        cases hp6 with
        | done h' => omega
        | plain h' hc' => exact absurd c3.2.1 hc'
        | simple h' hc' hs' => rw [c3.2.2] at hs'; exact absurd hs' (by unfold Simple; omega)
        | unit h' hc' hu' v2 hU2 =>
         have hU6 : U (t.extract i t.size) 6 = some v2 := by rw [U_cut t i t.size 6 (by omega) (Nat.le_refl _) (by omega), show (6 : Int) + (i : Int) = ((i + 6 : Nat) : Int) by omega]; exact hU2
         rw [hU6]
         simp only []
         have hnl : ¬ Low v2 := fun hl => pr ⟨c2, v2, by rw [show (i : Int) + 6 = ((i + 6 : Nat) : Int) by omega]; exact hU2, hl⟩
         rw [if_neg hnl]
         exact ⟨rfl, ⟨by decide, by decide⟩, (sur v (.inl c2)).symm⟩
       ·rw [if_neg c3]
        exact ⟨rfl, ⟨by decide, by decide⟩, (sur v (.inl c2)).symm⟩
      ·rw [if_neg c2]
       exact ⟨rfl, hvr, rfl⟩
    refine ⟨Lib.encodeRuneZ v ++ xs, fun m hm => ?_, (h2.and (Ev.ge 2)).succ fun k hk => ?_⟩
    ·obtain ⟨m, rfl⟩ : ∃ m', m = m' + 1 := ⟨m - 1, by omega⟩
     have := h1 m (by omega)
     rw [show ((i + 6 : Nat) : Int) = (i : Int) + 6 by omega] at this
     rw [dec, if_pos (by omega), if_pos hc, hU]
     simp only []
     cases hU2 : U t ((i : Int) + 6) with
     | none => simp only []; rw [this]; rfl
     | some v2 =>
      simp only []
      rw [if_neg (fun hh => pr ⟨hh.1, v2, hU2, hh.2⟩), this]; rfl
    ·have he := esc_unit (k + 1) (by omega) t i h hc hu (by rw [hdu.1]; decide) (by have := hdu.2.1; omega)
     rw [hdu.1, hdu.2.2] at he
     rw [drop_bt t i (by omega), hc] at he ⊢
     rw [full_esc k _ 6 _ he (by simp only [List.length_cons, List.length_drop, bytesOf_length]; omega) (by have := rune_le v; omega), List.drop_succ_cons, List.drop_drop, show i + 1 + 5 = i + 6 by omega, hk.1]; rfl
 termination_by n => n
end Go.Proofs.YtcfhnfjkiljigaaDoor.NameXFnJpGetUnsafe
end
section
namespace Go.Proofs.YtcfhnfjkiljigaaDoor.NameXFnJpGetUnsafe
open Go.RowKit Go.Proofs.YtcfhnfjkiljigaaDoor Go.Proofs.YtcfhnfjkiljigaaDoor.Jp Go.Proofs.YtcfhnfjkiljigaaDoor.Base Go.Proofs.YtcfhnfjkiljigaaDoor.XFnJpGetUnsafe Go.Proofs.YtcfhnfjkiljigaaDoor.UnescXFnJpGetUnsafe Go.Proofs.YtcfhnfjkiljigaaDoorW.PrintWords Go.Proofs.YtcfhnfjkiljigaaDoorW.PrintLast
open Go.Proofs.YtcfhnfjkiljigaaDoor.ReadXFnJpGetUnsafe (Tot SP PL tV tM tE nb qE Mem Leads Names ValIs Dl tV_is tV_obj tV_arr tM_mem qE_ends leads_ta obj_step arr_step nb_le nb_ge drop_cons_facts)
set_option linter.unusedVariables false
set_option linter.unusedSimpArgs false
variable {s : ByteArray}
/-- What a name stands for. -/
def inner (s : ByteArray) (nm : SP) : ByteArray := s.extract (nm.f0.toNat + 1) (nm.f1.toNat - 1)
def nameOf (s : ByteArray) (nm : SP) : ByteArray := strOfNums ((dec (inner s nm) (inner s nm).size 0).getD [])
/-- A name as it stands in the text. -/
def NOk (s : ByteArray) (nm : SP) : Prop := ∃ q x : Nat, nm = ⟨(q : Int), ((q + x + 2 : Nat) : Int)⟩ ∧ bt s (q : Int) = 34 ∧ qE s (q + 1) = some (q + x + 2)
theorem name_both (hs : s.size ≤ 1000000) {q x : Nat} (hq : qE s (q + 1) = some (q + x + 2)) :
  ∃ xs, dec (s.extract (q + 1) (q + 1 + x)) (s.extract (q + 1) (q + 1 + x)).size 0 = some xs ∧ (Ev fun k => full k (((bytesOf s).drop (q + 1)).take x) = some xs) ∧ q + 1 + x < s.size ∧ bt s ((q + 1 + x : Nat) : Int) = 34 := by
 obtain ⟨m, hm, he⟩ := Option.map_eq_some_iff.mp hq
 obtain rfl : m = x + 1 := by omega
 obtain ⟨x', hx', hends, hle⟩ := qE_ends hq
 obtain rfl : x' = x := by omega
 have hlt := hends.lt
 rw [List.length_drop, bytesOf_length] at hlt
 have h34 : bt s ((q + 1 + x' : Nat) : Int) = 34 := by
  have := hends.at_
  rw [rd_dropN, rd_bytesOf] at this
  exact this
 have hsz : (s.extract (q + 1) (q + 1 + x')).size = x' := by rw [size_cut s _ _ (by omega)]; omega
 have hb : bytesOf (s.extract (q + 1) (q + 1 + x')) = ((bytesOf s).drop (q + 1)).take x' := by
  rw [cut_bytes, List.drop_take]
  congr 1
  omega
 have hfine : Fine (s.extract (q + 1) (q + 1 + x')) 0 := by
  refine ⟨(bytesOf s).drop (q + 1 + x' + 1), ?_⟩
  rw [hb, List.drop_zero, hsz]
  have hd : (bytesOf s).drop (q + 1) = ((bytesOf s).drop (q + 1)).take x' ++ 34 :: (bytesOf s).drop (q + 1 + x' + 1) := by
   conv => lhs; rw [← List.take_append_drop x' ((bytesOf s).drop (q + 1))]
   rw [List.drop_drop, drop_bt s (q + 1 + x') (by omega), h34]
  rw [← hd]
  exact hm
 obtain ⟨xs, h1, h2⟩ := both x' (s.extract (q + 1) (q + 1 + x')) 0 (by omega) (by omega) (Nat.zero_le _) hfine
 refine ⟨xs, h1 _ (by omega), ?_, by omega, h34⟩
 rw [hb, List.drop_zero] at h2
 exact h2
theorem inner_is (q x : Nat) : inner s ⟨(q : Int), ((q + x + 2 : Nat) : Int)⟩ = s.extract (q + 1) (q + 1 + x) := by
 unfold inner
 simp only [Int.toNat_natCast]
 congr 1
 omega
theorem names_ok (hs : s.size ≤ 1000000) : Names s impl_JpGetUnsafeString.UK (nameOf s) := by
 intro q x hq
 obtain ⟨xs, h1, h2, -⟩ := name_both hs hq
 refine ⟨xs, h2.ex, ?_⟩
 unfold nameOf
 rw [inner_is, h1]; rfl
theorem unq_name (hs : s.size ≤ 1000000) {nm : SP} (h : NOk s nm) : (0 ≤ nm.f0 ∧ nm.f0 ≤ nm.f1 ∧ nm.f1 ≤ (s.size : Int)) ∧ Ev fun k => spec_Unquote.f k (s.extract nm.f0.toNat nm.f1.toNat) = some (nameOf s nm) := by
 obtain ⟨q, x, rfl, h34, hq⟩ := h
 obtain ⟨xs, h1, -, h3, h4⟩ := name_both hs hq
 refine ⟨by simp only []; omega, ?_⟩
 simp only [Int.toNat_natCast]
 have hsz : (s.extract (q + 1) (q + 1 + x)).size = x := by rw [size_cut s _ _ (by omega)]; omega
 have hu := unquote_eq (s.extract (q + 1) (q + 1 + x)) (by omega) xs h1
 have he : ((⟨#[34]⟩ : ByteArray) ++ s.extract (q + 1) (q + 1 + x)) ++ (⟨#[34]⟩ : ByteArray) = s.extract q (q + x + 2) := by
  refine bytes_inj ?_
  rw [bytesOf_append, bytesOf_append, cut_bytes, cut_bytes, List.drop_take, List.drop_take, show q + 1 + x - (q + 1) = x by omega, show q + x + 2 - q = x + 1 + 1 by omega, drop_bt s q (by omega), h34, List.take_succ_cons]
  have : ((bytesOf s).drop (q + 1)).take (x + 1) = ((bytesOf s).drop (q + 1)).take x ++ [34] := by
   rw [List.take_add_one, List.getElem?_drop]
   congr 1
   rw [List.getElem?_eq_getElem (by rw [bytesOf_length]; omega)]
   have := h4
   rw [← rd_bytesOf] at this
   unfold rd at this
   rw [Int.toNat_natCast, List.getD_eq_getElem?_getD, List.getElem?_eq_getElem (by rw [bytesOf_length]; omega)] at this
   simp only [Option.getD_some] at this
   rw [this]; rfl
  rw [this]
  rfl
 rw [he] at hu
 refine hu.mp fun k hk => ?_
 rw [hk]
 unfold nameOf
 rw [inner_is, h1]; rfl
theorem ev_read {P : Nat → Prop} (h : Ev P) : Go.Proofs.YtcfhnfjkiljigaaDoor.ReadXFnJpGetUnsafe.Ev P := h
theorem tot_ev {α : Type} {f : Nat → Option α} {r : α} {Q : α → Prop} (h : Ev fun k => f k = some r) (hq : Q r) : Tot f Q := ⟨r, ev_read h, hq⟩
theorem rd65 {ns : List SP} {i : Nat} {nm : SP} (h : ns[i]? = some nm) : rd_T65 ns (i : Int) = nm := by
 unfold rd_T65
 rw [Int.toNat_natCast, List.getD_eq_getElem?_getD, h]; rfl
theorem rd27 {ks : List PL} {i : Nat} {pl : PL} (h : ks[i]? = some pl) : rd_T27 ks (i : Int) = pl := by
 unfold rd_T27
 rw [Int.toNat_natCast, List.getD_eq_getElem?_getD, h]; rfl
/-- What Named answers, from a name on. -/
def NamedIs (s : ByteArray) (ns : List SP) (key : ByteArray) (i : Nat) (r : Int) : Prop :=
 (r = -1 ∧ ∀ j, i ≤ j → ∀ nm, ns[j]? = some nm → nameOf s nm ≠ key) ∨ ∃ j nm, i ≤ j ∧ r = (j : Int) ∧ ns[j]? = some nm ∧ nameOf s nm = key ∧ ∀ j', i ≤ j' → j' < j → ∀ nm', ns[j']? = some nm' → nameOf s nm' ≠ key
theorem named_l0 (hs : s.size ≤ 1000000) (a b c : Int) (ns : List SP) (ks : List PL) (key : ByteArray) (hn : ∀ nm ∈ ns, NOk s nm) (hl : ns.length ≤ 1000000) : ∀ (m i : Nat), ns.length - i ≤ m → i ≤ ns.length → Tot (fun k => spec_Named.l0 k s key (i : Int) a b c ns ks) (NamedIs s ns key i)
 | m, i, hm, hi => by
  refine Tot.succ (fun k => by rw [spec_Named.l0]) ?_
  refine Tot.ite (fun c1 => ?_) fun c1 => ?_
  ·have hlt : i < ns.length := by omega
   obtain ⟨m, rfl⟩ : ∃ m', m = m' + 1 := ⟨m - 1, by omega⟩
   have hg : ns[i]? = some ns[i] := List.getElem?_eq_getElem hlt
   obtain ⟨nm, hnm⟩ : ∃ nm, ns[i] = nm := ⟨_, rfl⟩
   rw [hnm] at hg
   have hu := unq_name hs (hn nm (List.mem_of_getElem? hg))
   rw [rd65 hg]
   refine Tot.ite (fun _ => ?_) fun c => absurd (by omega) c
   refine Tot.ite (fun _ => ?_) fun c => absurd hu.1.1 c
   refine Tot.ite (fun _ => ?_) fun c => absurd hu.1.2.1 c
   refine Tot.ite (fun _ => ?_) fun c => absurd hu.1.2.2 c
   refine Tot.bind (tot_ev (Q := fun r => r = nameOf s nm) hu.2 rfl) fun r hr => ?_
   subst hr
   refine Tot.ite (fun ce => ?_) fun ce => ?_
   ·exact Tot.ret (.inr ⟨i, nm, Nat.le_refl _, rfl, hg, toList_inj ce, fun j' h1 h2 => by omega⟩)
   ·rw [w64 (i := (i : Int) + 1) (by omega) (by omega), show (i : Int) + 1 = ((i + 1 : Nat) : Int) by omega]
    refine (named_l0 hs a b c ns ks key hn hl m (i + 1) (by omega) (by omega)).mono fun r hr => ?_
    have hne : nameOf s nm ≠ key := fun e => ce (by rw [e])
    have here : ∀ j, i ≤ j → ¬ i + 1 ≤ j → ∀ nm', ns[j]? = some nm' → nameOf s nm' ≠ key := fun j h1 h2 nm' h3 => by
     obtain rfl : j = i := by omega
     rw [hg] at h3
     obtain rfl := Option.some.inj h3
     exact hne
    rcases hr with ⟨rfl, h⟩ | ⟨j, nm', h1, rfl, h2, h3, h4⟩
    ·exact .inl ⟨rfl, fun j hj nm' hj' => by
      by_cases hc : i + 1 ≤ j
      ·exact h j hc nm' hj'
      ·exact here j hj hc nm' hj'⟩
    ·exact .inr ⟨j, nm', by omega, rfl, h2, h3, fun j' hj hj2 nm2 hj' => by
      by_cases hc : i + 1 ≤ j'
      ·exact h4 j' hc hj2 nm2 hj'
      ·exact here j' hj hc nm2 hj'⟩
  ·exact Tot.ret (.inl ⟨rfl, fun j hj nm hj' => by
    have := (List.getElem?_eq_some_iff.mp hj').1
    omega⟩)
 termination_by m => m
theorem named_tot (hs : s.size ≤ 1000000) (a b c : Int) (ns : List SP) (ks : List PL) (key : ByteArray) (hn : ∀ nm ∈ ns, NOk s nm) (hl : ns.length ≤ 1000000) : Tot (fun k => spec_Named.f k s a b c ns ks key) (NamedIs s ns key 0) :=
 named_l0 hs a b c ns ks key hn hl ns.length 0 (by omega) (Nat.zero_le _)
/-! ### indexes -/
theorem byte_at (x : ByteArray) (j : Nat) (h : j < x.size) : x.data.toList.drop j = x[j] :: x.data.toList.drop (j + 1) ∧ ((x[j].toNat : Int) = bt x (j : Int)) := by
 refine ⟨?_, ?_⟩
 ·rw [List.drop_eq_getElem_cons (by rw [Array.length_toList]; exact h)]
  rfl
 ·unfold bt
  rw [dif_pos (by omega)]
  congr 2
def IndexIs (x : ByteArray) (m j : Nat) (n : Int) (r : Int × Bool) : Prop :=
 r.2 = true → n ≤ r.1 ∧ (r.1 < 288230376151711744 → n * 10 ^ m ≤ r.1 ∧ Lib.decFrom n.toNat (x.data.toList.drop j) = some r.1.toNat ∧ (0 < m → bt x (j : Int) ≠ 48 → 10 ^ (m - 1) ≤ r.1))
theorem index_l0 (x : ByteArray) (hx : x.size ≤ 2147483647) : ∀ (m j : Nat) (n : Int), j + m = x.size → 0 ≤ n → n ≤ 4611686018427387904 → Tot (fun k => spec_Index.l0 k x n (j : Int)) (IndexIs x m j n)
 | 0, j, n, hj, h0, h1 => by
  refine Tot.succ (fun k => by rw [spec_Index.l0]) ?_
  refine Tot.ite (fun c => absurd c (by omega)) fun _ => Tot.ret fun _ => ⟨Int.le_refl _, fun _ => ⟨by simp, ?_, fun h => absurd h (by omega)⟩⟩
  rw [List.drop_of_length_le (by rw [Array.length_toList]; show x.size ≤ j; omega)]
  rfl
 | m + 1, j, n, hj, h0, h1 => by
  have hlt : j < x.size := by omega
  obtain ⟨hd, hb⟩ := byte_at x j hlt
  have bad : ∀ c : Int, Tot (fun k => spec_Index.j2 k x n (j : Int) c true) (IndexIs x (m + 1) j n) := fun c =>
   Tot.succ (fun k => by rw [spec_Index.j2, if_pos rfl]) (Tot.ret fun h => by cases h)
  refine Tot.succ (fun k => by rw [spec_Index.l0]) ?_
  refine Tot.ite (fun _ => ?_) fun c => absurd (by omega) c
  refine Tot.ite (fun _ => ?_) fun c => absurd (by omega) c
  refine Tot.ite (fun _ => bad _) fun c48 => ?_
  by_cases c57 : bt x (j : Int) > 57
  ·rw [decide_eq_true c57]; exact bad _
  ·rw [decide_eq_false c57]
   refine Tot.succ (fun k => by rw [spec_Index.j2, if_neg (by decide)]) ?_
   have hdv : Lib.digitVal x[j] = some (bt x (j : Int) - 48).toNat := by
    unfold Lib.digitVal
    rw [if_pos (by omega)]
    congr 1
    omega
   have hw1 : wrap64 ((j : Int) + 1) = ((j + 1 : Nat) : Int) := by rw [w64 (by omega) (by omega)]; omega
   refine Tot.ite (fun cn => ?_) fun cn => ?_
   ·have hm : (bt x (j : Int) - 48) % 256 = bt x (j : Int) - 48 := by omega
    rw [hw1, hm, w64 (i := n * 10) (by omega) (by omega), w64 (i := n * 10 + (bt x (j : Int) - 48)) (by omega) (by omega)]
    refine (index_l0 x hx m (j + 1) (n * 10 + (bt x (j : Int) - 48)) (by omega) (by omega) (by omega)).mono fun r hr h => ?_
    obtain ⟨h2, h3⟩ := hr h
    refine ⟨by omega, fun h4 => ?_⟩
    obtain ⟨h5, h6, -⟩ := h3 h4
    have hp : (0 : Int) < 10 ^ m := Int.pow_pos (by decide)
    refine ⟨?_, ?_, fun _ hne => ?_⟩
    ·have : n * 10 ^ (m + 1) = (n * 10) * 10 ^ m := by rw [Int.pow_succ, Int.mul_comm (10 ^ m) 10, ← Int.mul_assoc]
     rw [this]
     refine Int.le_trans ?_ h5
     exact Int.mul_le_mul_of_nonneg_right (by omega) (Int.le_of_lt hp)
    ·rw [hd, Lib.decFrom, hdv]
     simp only []
     rw [show n.toNat * 10 + (bt x (j : Int) - 48).toNat = (n * 10 + (bt x (j : Int) - 48)).toNat by omega]
     exact h6
    ·rw [Nat.add_sub_cancel]
     refine Int.le_trans ?_ h5
     have := Int.mul_le_mul_of_nonneg_right (show (1 : Int) ≤ n * 10 + (bt x (j : Int) - 48) by omega) (Int.le_of_lt hp)
     rwa [Int.one_mul] at this
   ·rw [hw1]
    refine (index_l0 x hx m (j + 1) 4611686018427387904 (by omega) (by decide) (Int.le_refl _)).mono fun r hr h => ?_
    obtain ⟨h2, h3⟩ := hr h
    exact ⟨by omega, fun h4 => by omega⟩
/-- What Bracket answers. -/
def BracketIs (key : ByteArray) (r : Int × Bool) : Prop := r.2 = true → 0 ≤ r.1 ∧ (r.1 ≤ 1000000 → IdxKey key r.1.toNat)
theorem bracket_tot (key : ByteArray) (hk : key.size ≤ 2147483647) : Tot (fun k => spec_Bracket.f k key) (BracketIs key) := by
 unfold spec_Bracket.f
 have no : ∀ {n : Int}, BracketIs key (n, false) := fun h => by cases h
 refine Tot.ite (fun _ => Tot.ret no) fun c3 => ?_
 rw [w64 (i := (key.size : Int) - 1) (by omega) (by omega)]
 refine Tot.ite (fun _ => ?_) fun c => absurd (by omega) c
 refine Tot.ite (fun h91 => ?_) fun _ => Tot.ret no
 refine Tot.ite (fun _ => ?_) fun c => absurd (by omega) c
 refine Tot.ite (fun _ => ?_) fun c => absurd (by omega) c
 refine Tot.ite (fun h93 => ?_) fun _ => Tot.ret no
 refine Tot.ite (fun _ => ?_) fun c => absurd (by omega) c
 refine Tot.ite (fun _ => ?_) fun c => absurd (by omega) c
 have e1 : ((key.size : Int) - 1).toNat = key.size - 1 := by omega
 rw [e1]
 obtain ⟨tok, htok⟩ : ∃ tok, key.extract 1 (key.size - 1) = tok := ⟨_, rfl⟩
 have hts : tok.size = key.size - 2 := by rw [← htok, size_cut key 1 (key.size - 1) (by omega)]; omega
 rw [htok]
 have hkey : key.toList = 91 :: tok.data.toList ++ [93] := by
  rw [toList_bytes]
  have hb : bytesOf tok = ((bytesOf key).drop 1).take (key.size - 2) := by
   rw [← htok, cut_bytes, List.drop_take]; congr 1
  have hbt : (tok.data.toList.map fun b => (b.toNat : Int)) = bytesOf tok := rfl
  rw [List.map_append, List.map_cons, hbt, hb]
  have h0 : bytesOf key = bt key 0 :: (bytesOf key).drop 1 := by
   have := drop_bt key 0 (by omega)
   rw [List.drop_zero] at this
   exact this
  have h2 : (bytesOf key).drop 1 = ((bytesOf key).drop 1).take (key.size - 2) ++ [93] := by
   have h5 : (bytesOf key).drop (key.size - 1 + 1) = [] := List.drop_of_length_le (by rw [bytesOf_length]; omega)
   conv => lhs; rw [← List.take_append_drop (key.size - 2) ((bytesOf key).drop 1)]
   rw [List.drop_drop, show 1 + (key.size - 2) = key.size - 1 by omega, drop_bt key (key.size - 1) (by omega), show ((key.size - 1 : Nat) : Int) = (key.size : Int) - 1 by omega, h93, h5]
  rw [h0, h91]
  rw [List.drop_succ_cons, List.drop_zero]
  exact congrArg (fun l => (91 : Int) :: l) h2
 have fin : ∀ (r : Int × Bool), IndexIs tok tok.size 0 0 r → (1 < tok.size → bt tok 0 ≠ 48) → BracketIs key r := fun r hr h48 h => by
  obtain ⟨h1, h2⟩ := hr h
  refine ⟨h1, fun h3 => ?_⟩
  obtain ⟨-, h4, h5⟩ := h2 (by omega)
  have hlen : tok.data.toList.length = tok.size := Array.length_toList
  refine ⟨tok.data.toList, hkey, by rw [hlen]; omega, ?_, ?_⟩
  ·rw [hlen]
   by_cases c1 : 1 < tok.size
   ·have h6 := h5 (by omega) (h48 c1)
    refine Nat.le_of_not_lt fun hlt => ?_
    have h7 : (10 : Int) ^ 18 ≤ 10 ^ (tok.size - 1) := by
     have := Nat.pow_le_pow_right (show 0 < 10 by decide) (show 18 ≤ tok.size - 1 by omega)
     exact_mod_cast this
    have h8 : (10 : Int) ^ 18 = 1000000000000000000 := by decide
    omega
   ·omega
  ·rw [List.drop_zero] at h4
   have h0 : 0 < tok.size := by omega
   obtain ⟨hd, hb⟩ := byte_at tok 0 h0
   rw [List.drop_zero] at hd
   rw [hd] at h4 ⊢
   rw [Lib.decFrom] at h4
   have hdig : 48 ≤ (tok[0].toNat : Int) ∧ (tok[0].toNat : Int) ≤ 57 := by
    cases hv : Lib.digitVal tok[0] with
    | none => rw [hv] at h4; cases h4
    | some d =>
     unfold Lib.digitVal at hv
     split at hv
     ·omega
     ·cases hv
   have n45 : (tok[0] == 45) = false := beq_eq_false_iff_ne.mpr fun e => by rw [e] at hdig; exact absurd hdig.1 (by decide)
   have n43 : (tok[0] == 43) = false := beq_eq_false_iff_ne.mpr fun e => by rw [e] at hdig; exact absurd hdig.1 (by decide)
   rw [Lib.atoi, n45, n43, if_neg (by decide), if_neg (by decide), Lib.decNat, List.isEmpty_cons, if_neg (by decide), Lib.decFrom]
   rw [show (0 : Int).toNat = 0 from rfl] at h4
   rw [h4]
   simp
 have idx : ∀ b : Bool, (b = false → 1 < tok.size → bt tok 0 ≠ 48) → Tot (fun k => (spec_Index.j0 k tok b).bind fun t => some (t.1, t.2)) (BracketIs key) := fun b hb => by
  cases b with
  | true =>
   refine Tot.bind (Q := fun r => r = (0, false)) (Tot.succ (fun k => by rw [spec_Index.j0, if_pos rfl]) (Tot.ret rfl)) fun r hr => ?_
   subst hr
   exact Tot.ret no
  | false =>
   refine Tot.bind (Q := fun r => BracketIs key r) (Tot.succ (fun k => by rw [spec_Index.j0, if_neg (by decide)]) ?_) fun r hr => Tot.ret hr
   exact (index_l0 tok (by omega) tok.size 0 0 (by omega) (Int.le_refl _) (by decide)).mono fun r hr => fin r hr (hb rfl)
 have hnil : ¬ tok.toList = ([] : List UInt8) := fun h => by
  have := congrArg List.length h
  rw [ByteArray.toList_eq, Array.length_toList] at this
  have h2 : tok.data.size = tok.size := rfl
  rw [h2] at this
  change tok.size = 0 at this
  omega
 unfold spec_Index.f
 simp only [if_neg hnil]
 by_cases c1 : (tok.size : Int) > 1
 ·simp only [if_pos c1, if_pos (show 0 < (tok.size : Int) by omega)]
  exact idx _ fun h _ e => by rw [e] at h; cases h
 ·simp only [if_neg c1]
  exact idx false fun _ h => by omega
end Go.Proofs.YtcfhnfjkiljigaaDoor.NameXFnJpGetUnsafe
end
