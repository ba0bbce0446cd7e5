/- Proved here: parts of the law FnJpGetUnsafe (the texts JpCb Atoi JpTrace JpEach0 JpWin JpSw JpSwP JpSwO), no conditions of their own beyond what each theorem says. -/
import Derived.Test.YtcfhnfjkiljigaaDoorPa4
import Derived.OneCell
import Derived.Shelf.Strconv.Atoi
import Derived.Test.YtcfhnfjkiljigaaDoorProg
import Derived.LoopN
import Derived.Deep.DeepCutAuto
import Derived.Deep.CutBlock
section
namespace Go.Proofs.YtcfhnfjkiljigaaDoor.Jp
open Go.RowKit Go.Proofs.YtcfhnfjkiljigaaDoorW.PrintWords Go.Proofs.YtcfhnfjkiljigaaDoorW.PrintLast Go.Proofs.YtcfhnfjkiljigaaDoorW.PrintMore
attribute [local go_sem] max2_int min2_int max_two min_two max_three min_three max_four min_four
set_option linter.unusedVariables false
set_option linter.unusedSimpArgs false
/-- What the captured variables hold before the element of a number (s: the first of their blocks; t: the number that is sought; a, n, cp: where the sought one begins, its bytes, the capacity that is kept). -/
structure CbW (W0 : World) (g o c : Nat) (l : List Int) (i t a n cp s D : Nat) (k : Nat) (W : World) : Prop where
 bel : Below s W0 W
 row : Row W g o l
 size : s + 5 ≤ W.heap.size
 ca : W.heap[s]? = some (.cells #[.int .i64 (t : Int)] 3 (0, 0))
 cu : W.heap[s + 1]? = some (.cells #[.int .i64 (k : Int)] 3 (0, 0))
 cv : W.heap[s + 2]? = some (.cells #[if k ≤ t then .slice none 0 0 else .slice (some ⟨g, o + (i + a), none⟩) n cp] 53 (0, 0))
 co : W.heap[s + 3]? = some (.cells #[.int .i64 (if k ≤ t then 0 else (a : Int))] 3 (0, 0))
 ci : W.heap[s + 4]? = some (.cells #[.int .i64 (i : Int)] 3 (0, 0))
 cd : W.cell? ⟨D, 0, none⟩ = some (.slice (some ⟨g, o, none⟩) l.length c)
theorem heap_below {B : Nat} {w w' : World} (h : Below B w w') {b : Nat} {x : Obj} (hB : b < B) (hx : w.heap[b]? = some x) : w'.heap[b]? = some x := (h.block b hB).trans hx
theorem CbW.below {W0 : World} {g o c : Nat} {l : List Int} {i t a n cp s D k : Nat} {W W' : World} (h : CbW W0 g o c l i t a n cp s D k W) (hb : Below W.heap.size W W') : CbW W0 g o c l i t a n cp s D k W' := by
 have hs := h.size
 exact ⟨h.bel.trans (hb.mono (by omega)), h.row.below hb, Nat.le_trans hs hb.size, heap_below hb (by omega) h.ca, heap_below hb (by omega) h.cu, heap_below hb (by omega) h.cv, heap_below hb (by omega) h.co, heap_below hb (by omega) h.ci, pw_cell_below hb h.cd⟩
theorem setCell_size (w : World) (b : Nat) (u : Value) : (w.setCell ⟨b, 0, none⟩ u).heap.size = w.heap.size := by
 show (w.heap.modify b _).size = _
 rw [Array.size_modify]
theorem cap_args (x y z q b1 b2 b3 b4 b5 b6 : Value) : #[x, y, z, q] ++ #[b1, b2, b3, b4, b5, b6] = #[x, y, z, q, b1, b2, b3, b4, b5, b6] := rfl
theorem heap_set_ne {w : World} {b b' : Nat} {x : Obj} (u : Value) (hne : b ≠ b') (h : w.heap[b]? = some x) : (w.setCell ⟨b', 0, none⟩ u).heap[b]? = some x := by
 rw [Below.heap_setCell w ⟨b', 0, none⟩ u b hne]; exact h
theorem cell_set_ne {w : World} {ad : Addr} {b' : Nat} (u : Value) (hne : ad.block ≠ b') : (w.setCell ⟨b', 0, none⟩ u).cell? ad = w.cell? ad :=
 World.cell?_of_block (w := w) (Below.heap_setCell w ⟨b', 0, none⟩ u ad.block hne)
set_option maxHeartbeats 8000000 in
set_option maxRecDepth 100000 in
theorem cb_other (W0 : World) (g o c : Nat) (l : List Int) (i t a n cp s D k : Nat) (ty : Int) (W : World) (vp : Option Addr) (q : Nat) (off : Int) (hg : g < s) (hD : D < s) (hk : k ≠ t) (hkl : k ≤ 1000000) (h : CbW W0 g o c l i t a n cp s D k W) :
  Calls Tryd.prog 61 #[.slice vp q q, .int .i64 ty, .int .i64 off, .nilIface, .pointer (some ⟨s + 1, 0, none⟩), .pointer (some ⟨s, 0, none⟩), .pointer (some ⟨s + 2, 0, none⟩), .pointer (some ⟨s + 3, 0, none⟩), .pointer (some ⟨D, 0, none⟩), .pointer (some ⟨s + 4, 0, none⟩)] W fun e w' => e = .returned (.tuple #[]) ∧ CbW W0 g o c l i t a n cp s D (k + 1) w' ∧ W.heap.size ≤ w'.heap.size ∧ ∀ ad v, s + 5 ≤ ad.block → W.cell? ad = some v → w'.cell? ad = some v := by
 have HH := Aside0.mk h
 have xa := cell_of_one h.ca
 have xu := cell_of_one h.cu
 have fu := free_of_one h.cu
 have xv := cell_of_one h.cv
 have fv := free_of_one h.cv
 have xo := cell_of_one h.co
 have fo := free_of_one h.co
 have xi := cell_of_one h.ci
 have xd := h.cd
 have hw1 : wrap64 ((k : Int) + 1) = (k : Int) + 1 := by unfold wrap64; omega
 have y1 : ((k : Int) == (t : Int)) = false := beq_eq_false_iff_ne.mpr (by omega)
 have hif : (k + 1 ≤ t) = (k ≤ t) := propext (by omega)
 have HIF := Aside0.mk hif
 clear hif h
 go_enter Tryd.func61, Tryd.ntmps61
 go_wp2
 go_end0
 have h := HH.out
 refine ⟨rfl, ⟨h.bel.setCell (by simp only []; omega) _, fun j hj => (cell_set_ne _ (by simp only []; omega)).trans (h.row j hj), by rw [setCell_size]; exact h.size, heap_set_ne _ (by omega) h.ca, ?_, ?_, ?_, heap_set_ne _ (by omega) h.ci, (cell_set_ne _ (by simp only []; omega)).trans h.cd⟩, by rw [setCell_size]; exact Nat.le_refl _, fun ad v h5 hv => (cell_set_ne _ (by omega)).trans hv⟩
 ·exact one_setCell h.cu
 ·simp only [HIF.out]; exact heap_set_ne _ (by omega) h.cv
 ·simp only [HIF.out]; exact heap_set_ne _ (by omega) h.co
set_option maxHeartbeats 8000000 in
set_option maxRecDepth 100000 in
theorem cb_val (W0 : World) (g o c : Nat) (l : List Int) (i t a n cp s D k : Nat) (ty : Int) (W : World) (vp : Option Addr) (q : Nat) (off : Int) (hg : g < s) (hD : D < s) (hk : k = t) (hkl : k ≤ 1000000) (hty : (ty == 1) = false) (hv : vp = some ⟨g, o + (i + a), none⟩) (hq : q = n) (hcp : cp = n) (hoff : off = (a : Int)) (h : CbW W0 g o c l i t a n cp s D k W) :
  Calls Tryd.prog 61 #[.slice vp q q, .int .i64 ty, .int .i64 off, .nilIface, .pointer (some ⟨s + 1, 0, none⟩), .pointer (some ⟨s, 0, none⟩), .pointer (some ⟨s + 2, 0, none⟩), .pointer (some ⟨s + 3, 0, none⟩), .pointer (some ⟨D, 0, none⟩), .pointer (some ⟨s + 4, 0, none⟩)] W fun e w' => e = .returned (.tuple #[]) ∧ CbW W0 g o c l i t a n cp s D (k + 1) w' ∧ W.heap.size ≤ w'.heap.size ∧ ∀ ad v, s + 5 ≤ ad.block → W.cell? ad = some v → w'.cell? ad = some v := by
 have HH := Aside0.mk h
 have xa := cell_of_one h.ca
 have xu := cell_of_one h.cu
 have fu := free_of_one h.cu
 have xv := cell_of_one h.cv
 have fv := free_of_one h.cv
 have xo := cell_of_one h.co
 have fo := free_of_one h.co
 have xi := cell_of_one h.ci
 have xd := h.cd
 have hw1 : wrap64 ((k : Int) + 1) = (k : Int) + 1 := by unfold wrap64; omega
 subst hk hv hq hcp hoff
 have y1 : ((k : Int) == (k : Int)) = true := beq_self_eq_true _
 clear h
 go_enter Tryd.func61, Tryd.ntmps61
 go_wp2
 go_end0
 have h := HH.out
 have hi1 : ¬ (k + 1 ≤ k) := by omega
 have hi2 : k ≤ k := Nat.le_refl _
 have hcv := h.cv
 have hco := h.co
 refine ⟨rfl, ⟨(((h.bel).setCell (by simp only []; omega) _).setCell (by simp only []; omega) _).setCell (by simp only []; omega) _, fun j hj => (cell_set_ne _ (by simp only []; omega)).trans ((cell_set_ne _ (by simp only []; omega)).trans ((cell_set_ne _ (by simp only []; omega)).trans (h.row j hj))), by simp only [setCell_size]; exact h.size, heap_set_ne _ (by omega) (heap_set_ne _ (by omega) (heap_set_ne _ (by omega) (h.ca))), ?_, ?_, ?_, heap_set_ne _ (by omega) (heap_set_ne _ (by omega) (heap_set_ne _ (by omega) (h.ci))), (cell_set_ne _ (by simp only []; omega)).trans ((cell_set_ne _ (by simp only []; omega)).trans ((cell_set_ne _ (by simp only []; omega)).trans (h.cd)))⟩, by simp only [setCell_size]; exact Nat.le_refl _, fun ad v h5 hv => (cell_set_ne _ (by omega)).trans ((cell_set_ne _ (by omega)).trans ((cell_set_ne _ (by omega)).trans (hv)))⟩
 ·exact one_setCell (heap_set_ne _ (by omega) (heap_set_ne _ (by omega) (h.cu)))
 ·rw [if_neg hi1]; exact heap_set_ne _ (by omega) (heap_set_ne _ (by omega) (one_setCell (h.cv)))
 ·rw [if_neg hi1]; exact heap_set_ne _ (by omega) (one_setCell (heap_set_ne _ (by omega) (h.co)))
set_option maxHeartbeats 8000000 in
set_option maxRecDepth 100000 in
theorem cb_str (W0 : World) (g o c : Nat) (l : List Int) (i t a n cp s D k : Nat) (ty : Int) (W : World) (vp : Option Addr) (q : Nat) (off : Int) (hg : g < s) (hD : D < s) (hk : k = t) (hkl : k ≤ 1000000) (hty : ty = 1) (hq : q + 2 = n) (hcp : cp = c - (i + a)) (hoff : off = (a : Int) + 2) (hil : i + a + n ≤ l.length) (hl : l.length ≤ 1000000) (hc : l.length ≤ c) (h : CbW W0 g o c l i t a n cp s D k W) :
  Calls Tryd.prog 61 #[.slice vp q q, .int .i64 ty, .int .i64 off, .nilIface, .pointer (some ⟨s + 1, 0, none⟩), .pointer (some ⟨s, 0, none⟩), .pointer (some ⟨s + 2, 0, none⟩), .pointer (some ⟨s + 3, 0, none⟩), .pointer (some ⟨D, 0, none⟩), .pointer (some ⟨s + 4, 0, none⟩)] W fun e w' => e = .returned (.tuple #[]) ∧ CbW W0 g o c l i t a n cp s D (k + 1) w' ∧ W.heap.size ≤ w'.heap.size ∧ ∀ ad v, s + 5 ≤ ad.block → W.cell? ad = some v → w'.cell? ad = some v := by
 have HH := Aside0.mk h
 have xa := cell_of_one h.ca
 have xu := cell_of_one h.cu
 have fu := free_of_one h.cu
 have xv := cell_of_one h.cv
 have fv := free_of_one h.cv
 have xo := cell_of_one h.co
 have fo := free_of_one h.co
 have xi := cell_of_one h.ci
 have xd := h.cd
 have hw1 : wrap64 ((k : Int) + 1) = (k : Int) + 1 := by unfold wrap64; omega
 subst hk hty hcp hoff
 have y1 : ((k : Int) == (k : Int)) = true := beq_self_eq_true _
 obtain ⟨S, hS⟩ : ∃ S, S = i + a := ⟨_, rfl⟩
 obtain ⟨E, hE⟩ : ∃ E, E = i + a + n := ⟨_, rfl⟩
 have hSI : (i : Int) + (a : Int) = (S : Int) := by omega
 have hEI : (S : Int) + (q : Int) + 2 = (E : Int) := by omega
 have hEI2 : (S : Int) + ((q : Int) + 2) = (E : Int) := by omega
 have y2 : (S : Int) ≤ 1000000 := by omega
 have y3 : (E : Int) ≤ 1000000 := by omega
 have y4 : ((S : Int) ≤ (E : Int)) = True := eq_true (by omega)
 have y5 : (S ≤ E) = True := eq_true (by omega)
 have y6 : ((E : Int) ≤ (c : Int)) = True := eq_true (by omega)
 have y7 : (E ≤ c) = True := eq_true (by omega)
 have y8 : (c = S) = False := eq_false (by omega)
 have y9 : (c - S = 0) = False := eq_false (by omega)
 have y10 : (c ≤ S) = False := eq_false (by omega)
 have y11 : E - S = n := by omega
 have y12 : (S ≤ c) = True := eq_true (by omega)
 have y13 : (q : Int) ≤ 1000000 := by omega
 have y14 : (a : Int) ≤ 1000000 := by omega
 have y15 : (i : Int) ≤ 1000000 := by omega
 have y16 : (a : Int) + 2 - 2 = (a : Int) := by omega
 have HS := Aside0.mk hS
 have hx3 : ∀ u u1 u2, (((W.setCell ⟨s + 2, 0, none⟩ u).setCell ⟨s + 3, 0, none⟩ u1).setCell ⟨s + 3, 0, none⟩ u2).cell? ⟨s + 3, 0, none⟩ = some u2 := fun u u1 u2 => cell_of_one (one_setCell (one_setCell (heap_set_ne u (by omega) HH.out.co)))
 have hx2 : ∀ u u1 u2, (((W.setCell ⟨s + 2, 0, none⟩ u).setCell ⟨s + 3, 0, none⟩ u1).setCell ⟨s + 3, 0, none⟩ u2).cell? ⟨s + 2, 0, none⟩ = some u := fun u u1 u2 => cell_of_one (heap_set_ne _ (by omega) (heap_set_ne _ (by omega) (one_setCell HH.out.cv)))
 have hf2 : ∀ u u1 u2, (((W.setCell ⟨s + 2, 0, none⟩ u).setCell ⟨s + 3, 0, none⟩ u1).setCell ⟨s + 3, 0, none⟩ u2).frozen? ⟨s + 2, 0, none⟩ = false := fun u u1 u2 => free_of_one (heap_set_ne _ (by omega) (heap_set_ne _ (by omega) (one_setCell HH.out.cv)))
 clear hS hE hil h
 go_enter Tryd.func61, Tryd.ntmps61
 go_wp2
 go_end0
 have h := HH.out
 have hi1 : ¬ (k + 1 ≤ k) := by omega
 have hi2 : k ≤ k := Nat.le_refl _
 have hcv := h.cv
 have hco := h.co
 refine ⟨rfl, ⟨(((((h.bel).setCell (by simp only []; omega) _).setCell (by simp only []; omega) _).setCell (by simp only []; omega) _).setCell (by simp only []; omega) _).setCell (by simp only []; omega) _, fun j hj => (cell_set_ne _ (by simp only []; omega)).trans ((cell_set_ne _ (by simp only []; omega)).trans ((cell_set_ne _ (by simp only []; omega)).trans ((cell_set_ne _ (by simp only []; omega)).trans ((cell_set_ne _ (by simp only []; omega)).trans (h.row j hj))))), by simp only [setCell_size]; exact h.size, heap_set_ne _ (by omega) (heap_set_ne _ (by omega) (heap_set_ne _ (by omega) (heap_set_ne _ (by omega) (heap_set_ne _ (by omega) (h.ca))))), ?_, ?_, ?_, heap_set_ne _ (by omega) (heap_set_ne _ (by omega) (heap_set_ne _ (by omega) (heap_set_ne _ (by omega) (heap_set_ne _ (by omega) (h.ci))))), (cell_set_ne _ (by simp only []; omega)).trans ((cell_set_ne _ (by simp only []; omega)).trans ((cell_set_ne _ (by simp only []; omega)).trans ((cell_set_ne _ (by simp only []; omega)).trans ((cell_set_ne _ (by simp only []; omega)).trans (h.cd)))))⟩, by simp only [setCell_size]; exact Nat.le_refl _, fun ad v h5 hv => (cell_set_ne _ (by omega)).trans ((cell_set_ne _ (by omega)).trans ((cell_set_ne _ (by omega)).trans ((cell_set_ne _ (by omega)).trans ((cell_set_ne _ (by omega)).trans (hv)))))⟩
 ·exact one_setCell (heap_set_ne _ (by omega) (heap_set_ne _ (by omega) (heap_set_ne _ (by omega) (heap_set_ne _ (by omega) (h.cu)))))
 ·rw [if_neg hi1, ← HS.out]; exact heap_set_ne _ (by omega) (one_setCell (heap_set_ne _ (by omega) (heap_set_ne _ (by omega) (one_setCell (h.cv)))))
 ·rw [if_neg hi1]; exact heap_set_ne _ (by omega) (heap_set_ne _ (by omega) (one_setCell (one_setCell (heap_set_ne _ (by omega) (h.co)))))
/-- The capacity of what is kept. -/
def cpOf (ty : Int) (n c S : Nat) : Nat := if ty = 1 then c - S else n
def cbCap (s D : Nat) : Array Value := #[.pointer (some ⟨s + 1, 0, none⟩), .pointer (some ⟨s, 0, none⟩), .pointer (some ⟨s + 2, 0, none⟩), .pointer (some ⟨s + 3, 0, none⟩), .pointer (some ⟨D, 0, none⟩), .pointer (some ⟨s + 4, 0, none⟩)]
theorem cb_ok (W0 : World) (g o c : Nat) (l : List Int) (i t a n s D B : Nat) (ty : Int) (es : List (Nat × Nat × Int)) (hg : g < s) (hD : D < s) (hB : s + 5 ≤ B) (hes : es[t]? = some (a, n, ty)) (hesl : es.length ≤ 1000000) (hT : ∀ a n ty, (a, n, ty) ∈ es → TyAt (l.drop i) a n ty) (hl : l.length ≤ 1000000) (hc : l.length ≤ c) :
  CbOk g (o + i) 61 (cbCap s D) B es (CbW W0 g o c l i t a n (cpOf ty n c (i + a)) s D) := by
 intro k a' n' ty' W off hk hoff h hBW
 have hkl : k < es.length := (List.getElem?_eq_some_iff.mp hk).1
 have hty := hT a' n' ty' (List.mem_of_getElem? hk)
 have hlt := hty.lt
 rw [List.length_drop] at hlt
 unfold cbCap
 rw [cap_args]
 by_cases hkt : k = t
 ·have he : (a', n', ty') = (a, n, ty) := Option.some.inj (by rw [← hk, ← hes, hkt])
  obtain ⟨rfl, rfl, rfl⟩ : a' = a ∧ n' = n ∧ ty' = ty := by
   injection he with h1 h2
   injection h2 with h2 h3
   exact ⟨h1, h2, h3⟩
  by_cases h1 : ty' = 1
  ·have h2 := hlt.2.2.1 h1
   have hvn : vn ty' n' = n' - 2 := if_pos h1
   rw [hvn] at hoff ⊢
   exact (cb_str W0 g o c l i t a' n' (cpOf ty' n' c (i + a')) s D k ty' W _ (n' - 2) off hg hD hkt (by omega) h1 (by omega) (if_pos h1) (by omega) (by omega) hl hc h).mono fun e w' hp => ⟨hp.1, hp.2.1, hp.2.2.1, fun ad v hb => hp.2.2.2 ad v (by omega)⟩
  ·have hvn : vn ty' n' = n' := if_neg h1
   have hvb : vb ty' a' = a' := if_neg h1
   rw [hvn] at hoff ⊢
   exact (cb_val W0 g o c l i t a' n' (cpOf ty' n' c (i + a')) s D k ty' W _ n' off hg hD hkt (by omega) (beq_eq_false_iff_ne.mpr h1) (by rw [hvb, Nat.add_assoc]) rfl (if_neg h1) (by omega) h).mono fun e w' hp => ⟨hp.1, hp.2.1, hp.2.2.1, fun ad v hb => hp.2.2.2 ad v (by omega)⟩
 ·exact (cb_other W0 g o c l i t a n (cpOf ty n c (i + a)) s D k ty' W _ (vn ty' n') off hg hD hkt (by omega) h).mono fun e w' hp => ⟨hp.1, hp.2.1, hp.2.2.1, fun ad v hb => hp.2.2.2 ad v (by omega)⟩
theorem cb_func (args : Array Value) (W : World) : (callFunc 61 args).run Tryd.prog W = .ok (.enter 61 args) W := by
 have h := Tryd.func61
 have h1 : (Tryd.f61.name = "runtime.NumGoroutine") = False := eq_false (by decide)
 have h2 : Tryd.f61.body.isNone = false := rfl
 have h3 : (Tryd.f61.body = none) = False := eq_false (fun e => by rw [e] at h2; cases h2)
 simp [callFunc, go_sem, h, h1, h3]
theorem Els.mem {l : List Int} {p e : Nat} {es : List (Nat × Nat × Int)} (h : Els l p es e) : ∀ a n ty, (a, n, ty) ∈ es → TyAt l a n ty := by
 induction h with
 | last ha hT hj hjl hc =>
  intro a n ty hm
  simp only [List.mem_singleton, Prod.mk.injEq] at hm
  obtain ⟨rfl, rfl, rfl⟩ := hm
  exact hT
 | more ha hT hj hjl hc r ih =>
  intro a n ty hm
  rcases List.mem_cons.mp hm with h1 | h1
  ·simp only [Prod.mk.injEq] at h1
   obtain ⟨rfl, rfl, rfl⟩ := h1
   exact hT
  ·exact ih a n ty h1
theorem Els.len {l : List Int} {p e : Nat} {es : List (Nat × Nat × Int)} (h : Els l p es e) : p + es.length ≤ l.length := by
 induction h with
 | last ha hT hj hjl hc => have := hT.lt; simp; omega
 | more ha hT hj hjl hc r ih => have := hT.lt; simp; omega
end Go.Proofs.YtcfhnfjkiljigaaDoor.Jp
end
section
namespace Go.Proofs
open Go.Shelf
def Tryd.lays172_ren : Go.Shelf.Ren := ⟨fun | 172 => 60 | 244 => 69 | 245 => 70 | 247 => 76 | 279 => 77 | 280 => 78 | 281 => 79 | 282 => 80 | 287 => 82 | 316 => 83 | 171 => 84 | 205 => 33 | 321 => 85 | 322 => 86 | 243 => 87 | 246 => 88 | 283 => 89 | 284 => 90 | 285 => 91 | 286 => 92 | 129 => 94 | 317 => 93 | 318 => 95 | 319 => 96 | 320 => 97 | 337 => 98 | 338 => 99 | n => n, fun | 9 => 9 | 3 => 3 | 75 => 50 | 76 => 51 | 4 => 4 | 5 => 5 | 167 => 123 | 37 => 53 | 0 => 0 | 85 => 124 | 2 => 2 | 168 => 126 | 53 => 38 | 175 => 130 | 46 => 122 | 210 => 133 | 127 => 135 | 145 => 91 | 143 => 89 | 21 => 21 | 171 => 137 | 173 => 140 | 212 => 144 | 51 => 121 | 20 => 20 | 213 => 145 | 232 => 148 | 233 => 76 | 80 => 149 | n => n, fun | 15 => 13 | 16 => 14 | 17 => 15 | 18 => 16 | 19 => 17 | n => n⟩
theorem Tryd.lays172 : Go.Proofs.Lays.n172 Tryd.prog Tryd.lays172_ren := {
 mixed := by kernel_rfl
 f129 := Tryd.func94.trans (congrArg some (by kernel_rfl))
 f171 := Tryd.func84.trans (congrArg some (by kernel_rfl))
 f172 := Tryd.func60.trans (congrArg some (by kernel_rfl))
 f205 := Tryd.func33.trans (congrArg some (by kernel_rfl))
 f243 := Tryd.func87.trans (congrArg some (by kernel_rfl))
 f244 := Tryd.func69.trans (congrArg some (by kernel_rfl))
 f245 := Tryd.func70.trans (congrArg some (by kernel_rfl))
 f246 := Tryd.func88.trans (congrArg some (by kernel_rfl))
 f247 := Tryd.func76.trans (congrArg some (by kernel_rfl))
 f279 := Tryd.func77.trans (congrArg some (by kernel_rfl))
 f280 := Tryd.func78.trans (congrArg some (by kernel_rfl))
 f281 := Tryd.func79.trans (congrArg some (by kernel_rfl))
 f282 := Tryd.func80.trans (congrArg some (by kernel_rfl))
 f283 := Tryd.func89.trans (congrArg some (by kernel_rfl))
 f284 := Tryd.func90.trans (congrArg some (by kernel_rfl))
 f285 := Tryd.func91.trans (congrArg some (by kernel_rfl))
 f286 := Tryd.func92.trans (congrArg some (by kernel_rfl))
 f287 := Tryd.func82.trans (congrArg some (by kernel_rfl))
 f316 := Tryd.func83.trans (congrArg some (by kernel_rfl))
 f317 := Tryd.func93.trans (congrArg some (by kernel_rfl))
 f318 := Tryd.func95.trans (congrArg some (by kernel_rfl))
 f319 := Tryd.func96.trans (congrArg some (by kernel_rfl))
 f320 := Tryd.func97.trans (congrArg some (by kernel_rfl))
 f321 := Tryd.func85.trans (congrArg some (by kernel_rfl))
 f322 := Tryd.func86.trans (congrArg some (by kernel_rfl))
 f337 := Tryd.func98.trans (congrArg some (by kernel_rfl))
 f338 := Tryd.func99.trans (congrArg some (by kernel_rfl))
 t0 := Tryd.underlying0
 a0 := Tryd.isAgg0
 z0 := Tryd.sizeOf0
 v0 := Tryd.zeroValue0
 t2 := Tryd.underlying2
 a2 := Tryd.isAgg2
 z2 := Tryd.sizeOf2
 v2 := Tryd.zeroValue2
 t3 := Tryd.underlying3
 a3 := Tryd.isAgg3
 z3 := Tryd.sizeOf3
 v3 := Tryd.zeroValue3
 t4 := Tryd.underlying4
 a4 := Tryd.isAgg4
 z4 := Tryd.sizeOf4
 v4 := Tryd.zeroValue4
 t5 := Tryd.underlying5
 a5 := Tryd.isAgg5
 z5 := Tryd.sizeOf5
 v5 := Tryd.zeroValue5
 t9 := Tryd.underlying9
 a9 := Tryd.isAgg9
 z9 := Tryd.sizeOf9
 v9 := Tryd.zeroValue9
 t20 := Tryd.underlying20
 a20 := Tryd.isAgg20
 z20 := Tryd.sizeOf20
 v20 := Tryd.zeroValue20
 t21 := Tryd.underlying21
 a21 := Tryd.isAgg21
 z21 := Tryd.sizeOf21
 v21 := Tryd.zeroValue21
 t37 := Tryd.underlying53
 a37 := Tryd.isAgg53
 z37 := Tryd.sizeOf53
 v37 := Tryd.zeroValue53
 t46 := Tryd.underlying122
 a46 := Tryd.isAgg122
 z46 := Tryd.sizeOf122
 v46 := Tryd.zeroValue122
 t51 := Tryd.underlying121
 a51 := Tryd.isAgg121
 z51 := Tryd.sizeOf121
 v51 := Tryd.zeroValue121
 t53 := Tryd.underlying38
 a53 := Tryd.isAgg38
 z53 := Tryd.sizeOf38
 v53 := Tryd.zeroValue38
 t75 := Tryd.underlying50
 a75 := Tryd.isAgg50
 z75 := Tryd.sizeOf50
 v75 := Tryd.zeroValue50
 t76 := Tryd.underlying51
 a76 := Tryd.isAgg51
 z76 := Tryd.sizeOf51
 v76 := Tryd.zeroValue51
 t85 := Tryd.underlying124
 a85 := Tryd.isAgg124
 z85 := Tryd.sizeOf124
 v85 := Tryd.zeroValue124
 t127 := Tryd.underlying135
 a127 := Tryd.isAgg135
 z127 := Tryd.sizeOf135
 v127 := Tryd.zeroValue135
 t143 := Tryd.underlying89
 a143 := Tryd.isAgg89
 z143 := Tryd.sizeOf89
 v143 := Tryd.zeroValue89
 t145 := Tryd.underlying91
 a145 := Tryd.isAgg91
 z145 := Tryd.sizeOf91
 v145 := Tryd.zeroValue91
 t167 := Tryd.underlying123
 a167 := Tryd.isAgg123
 z167 := Tryd.sizeOf123
 v167 := Tryd.zeroValue123
 t168 := Tryd.underlying126
 a168 := Tryd.isAgg126
 z168 := Tryd.sizeOf126
 v168 := Tryd.zeroValue126
 t171 := Tryd.underlying137
 a171 := Tryd.isAgg137
 z171 := Tryd.sizeOf137
 v171 := Tryd.zeroValue137
 t173 := Tryd.underlying140
 a173 := Tryd.isAgg140
 z173 := Tryd.sizeOf140
 v173 := Tryd.zeroValue140
 t175 := Tryd.underlying130
 a175 := Tryd.isAgg130
 z175 := Tryd.sizeOf130
 v175 := Tryd.zeroValue130
 t210 := Tryd.underlying133
 a210 := Tryd.isAgg133
 z210 := Tryd.sizeOf133
 v210 := Tryd.zeroValue133
 t212 := Tryd.underlying144
 a212 := Tryd.isAgg144
 z212 := Tryd.sizeOf144
 v212 := Tryd.zeroValue144
 t213 := Tryd.underlying145
 a213 := Tryd.isAgg145
 z213 := Tryd.sizeOf145
 t232 := Tryd.underlying148
 a232 := Tryd.isAgg148
 z232 := Tryd.sizeOf148
 v232 := Tryd.zeroValue148
 t233 := Tryd.underlying76
 a233 := Tryd.isAgg76
 z233 := Tryd.sizeOf76
 v233 := Tryd.zeroValue76
 g15 := by kernel_rfl
 g16 := by kernel_rfl
 g17 := by kernel_rfl
 g18 := by kernel_rfl
 g19 := by kernel_rfl }
open Go.RowKit in
/-- strconv.Atoi: "Atoi is equivalent to ParseInt(s, 10, 0), converted to type int.": AT A DECIMAL NUMERAL OF AT MOST 18 BYTES: its value, and a nil error. The world behind the call: the one new row that the library's '[]byte(s)' lays. (LAID: no walk: one application.) -/
theorem Tryd.strconv_Atoi (s : ByteArray) (n : Int) (hl : s.size ≤ 18) (h : Lib.atoi s.data.toList = some n) (w : World) :
  Calls Tryd.prog 60 #[.string s] w fun e w' => e = .returned (.tuple #[.int .i64 n, .nilIface]) ∧ ∃ t, w' = Lib.bytesWorld w 5 t := Any.strconv_Atoi Tryd.lays172 s n hl h w
end Go.Proofs
end
section
namespace Go.Proofs.YtcfhnfjkiljigaaDoor.Jp
open Go.RowKit Go.Proofs.YtcfhnfjkiljigaaDoorW.PrintWords Go.Proofs.YtcfhnfjkiljigaaDoorW.PrintLast Go.Proofs.YtcfhnfjkiljigaaDoorW.PrintMore
set_option linter.unusedVariables false
/-- A byte that the loop passes, as it stands. -/
def plain (c : Int) : Prop := c ≠ 34 ∧ c ≠ 39 ∧ c ≠ 58 ∧ c ≠ 91 ∧ c ≠ 123 ∧ c ≠ 125
/-- A byte that the quick loop passes. -/
def fast (c : Int) : Prop := c ≤ 32 ∨ (92 < c ∧ c ≠ 123 ∧ c ≠ 125)
theorem fast_plain {c : Int} (h : fast c) : plain c := by unfold fast at h; unfold plain; omega
/-- The bytes of a key and whether a backslash stands among them, and what they stand for. -/
abbrev KeyRel := List Int → List Int → Prop
/-- A string begins at i, with q bytes between its quotation marks; behind it and blanks, at j, the text goes on. -/
structure StrAt (l : List Int) (i q j : Nat) : Prop where
 lt : i < l.length
 quote : rd l (i : Int) = 34
 ends : StrEnd.Ends (l.drop (i + 1)) 34 q
 next : Fj.ws (l.drop (i + q + 2)) + (i + q + 2) = j
 jlt : j < l.length
/-- A key "[n]". -/
def IdxKey (K : ByteArray) (t : Nat) : Prop := ∃ ds : List UInt8, K.toList = 91 :: ds ++ [93] ∧ 0 < ds.length ∧ ds.length ≤ 18 ∧ Lib.atoi ds = some (t : Int)
/-- From a place: keys found so far (kl), whether a key's object is open (b), whether the last key was matched (lm); r: what the search answers. UK: how keys with escapes are read. -/
inductive Trace (UK : KeyRel) : List Int → List ByteArray → Nat → Bool → Bool → Nat → Int → Prop
 | skip {l : List Int} {K : List ByteArray} {kl : Nat} {b lm : Bool} {i : Nat} {r : Int} (h : i < l.length) (hp : plain (rd l (i : Int))) (n : Trace UK l K kl b lm (i + 1) r) : Trace UK l K kl b lm i r
 | str {l : List Int} {K : List ByteArray} {kl : Nat} {b lm : Bool} {i q j : Nat} {r : Int} (hs : StrAt l i q j) (hc : rd l (j : Int) ≠ 58) (n : Trace UK l K kl b lm j r) : Trace UK l K kl b lm i r
 | keyNo {l : List Int} {K : List ByteArray} {kl : Nat} {lm : Bool} {i q j : Nat} {r : Int} {u : List Int} (hs : StrAt l i q j) (hc : rd l (j : Int) = 58) (hk : kl < K.length) (hu : UK ((l.drop (i + 1)).take q) u) (hne : strOfNums u ≠ K.getD kl ByteArray.empty) (n : Trace UK l K kl true false (j + 1) r) : Trace UK l K kl true lm i r
 | keyYes {l : List Int} {K : List ByteArray} {kl : Nat} {lm : Bool} {i q j : Nat} {r : Int} {u : List Int} (hs : StrAt l i q j) (hc : rd l (j : Int) = 58) (hk : kl + 1 < K.length) (hu : UK ((l.drop (i + 1)).take q) u) (he : strOfNums u = K.getD kl ByteArray.empty) (n : Trace UK l K (kl + 1) false true (j + 1) r) : Trace UK l K kl true lm i r
 | keyLast {l : List Int} {K : List ByteArray} {kl : Nat} {lm : Bool} {i q j : Nat} {u : List Int} (hs : StrAt l i q j) (hc : rd l (j : Int) = 58) (hk : kl + 1 = K.length) (hu : UK ((l.drop (i + 1)).take q) u) (he : strOfNums u = K.getD kl ByteArray.empty) : Trace UK l K kl true lm i ((j + 1 : Nat) : Int)
 | objSkip {l : List Int} {K : List ByteArray} {kl : Nat} {b : Bool} {i e : Nat} {r : Int} (h : i < l.length) (hc : rd l (i : Int) = 123) (hs : Scan 123 125 (l.drop i) 0 0 e) (n : Trace UK l K kl b false (i + e) r) : Trace UK l K kl b false i r
 | objIn {l : List Int} {K : List ByteArray} {kl : Nat} {i : Nat} {r : Int} (h : i < l.length) (hc : rd l (i : Int) = 123) (hk : kl < K.length) (n : Trace UK l K kl true true (i + 1) r) : Trace UK l K kl false true i r
 | arrSkip {l : List Int} {K : List ByteArray} {kl : Nat} {lm : Bool} {i e : Nat} {r : Int} (h : i < l.length) (hc : rd l (i : Int) = 91) (hs : Scan 91 93 (l.drop i) 0 0 e) (n : Trace UK l K kl true lm (i + e) r) : Trace UK l K kl true lm i r
 | arrEmpty {l : List Int} {K : List ByteArray} {kl : Nat} {lm : Bool} {i p1 t : Nat} (h : i < l.length) (hc : rd l (i : Int) = 91) (hk : kl < K.length) (hx : IdxKey (K.getD kl ByteArray.empty) t) (hp : p1 = 1 + Fj.ws (l.drop (i + 1))) (hpl : p1 < (l.drop i).length)
   (he : rd (l.drop i) (p1 : Int) = 93) : Trace UK l K kl false lm i (-1)
 | arrNone {l : List Int} {K : List ByteArray} {kl : Nat} {lm : Bool} {i p1 ef t : Nat} {es : List (Nat × Nat × Int)} (h : i < l.length) (hc : rd l (i : Int) = 91) (hk : kl < K.length) (hx : IdxKey (K.getD kl ByteArray.empty) t) (hp : p1 = 1 + Fj.ws (l.drop (i + 1)))
   (hne : rd (l.drop i) (p1 : Int) ≠ 93) (hE : Els (l.drop i) p1 es ef) (ht : es.length ≤ t) : Trace UK l K kl false lm i (-1)
 | arrLast {l : List Int} {K : List ByteArray} {kl : Nat} {lm : Bool} {i p1 ef t a n : Nat} {ty : Int} {es : List (Nat × Nat × Int)} (h : i < l.length) (hc : rd l (i : Int) = 91) (hk : kl + 1 = K.length) (hx : IdxKey (K.getD kl ByteArray.empty) t) (hp : p1 = 1 + Fj.ws (l.drop (i + 1)))
   (hne : rd (l.drop i) (p1 : Int) ≠ 93) (hE : Els (l.drop i) p1 es ef) (ht : es[t]? = some (a, n, ty)) : Trace UK l K kl false lm i ((i + a : Nat) : Int)
 | arrMore {l : List Int} {K : List ByteArray} {kl : Nat} {lm : Bool} {i p1 ef t a n : Nat} {r : Int} {ty : Int} {es : List (Nat × Nat × Int)} (h : i < l.length) (hc : rd l (i : Int) = 91) (hk : kl + 1 < K.length) (hx : IdxKey (K.getD kl ByteArray.empty) t) (hp : p1 = 1 + Fj.ws (l.drop (i + 1)))
   (hne : rd (l.drop i) (p1 : Int) ≠ 93) (hE : Els (l.drop i) p1 es ef) (ht : es[t]? = some (a, n, ty)) (sub : Trace UK ((l.drop (i + a)).take n) (K.drop (kl + 1)) 0 false true 0 r) : Trace UK l K kl false lm i (if r < 0 then -1 else ((i + a : Nat) : Int) + r)
theorem Trace.lt {UK : KeyRel} {l : List Int} {K : List ByteArray} {kl : Nat} {b lm : Bool} {i : Nat} {r : Int} (h : Trace UK l K kl b lm i r) : i < l.length := by
 cases h with
 | skip h _ _ => exact h
 | str hs _ _ => exact hs.lt
 | keyNo hs _ _ _ _ _ => exact hs.lt
 | keyYes hs _ _ _ _ _ => exact hs.lt
 | keyLast hs _ _ _ _ => exact hs.lt
 | objSkip h _ _ _ => exact h
 | objIn h _ _ _ => exact h
 | arrSkip h _ _ _ => exact h
 | arrEmpty h => exact h
 | arrNone h => exact h
 | arrLast h _ _ _ _ _ _ _ => exact h
 | arrMore h _ _ _ _ _ _ _ _ => exact h
theorem Trace.fast {UK : KeyRel} {l : List Int} {K : List ByteArray} {kl : Nat} {b lm : Bool} {i : Nat} {r : Int} (h : Trace UK l K kl b lm i r) (hf : fast (rd l (i : Int))) : Trace UK l K kl b lm (i + 1) r := by
 have hp := fast_plain hf
 unfold plain at hp
 cases h with
 | skip h _ n => exact n
 | str hs _ _ => exact absurd hs.quote hp.1
 | keyNo hs _ _ _ _ _ => exact absurd hs.quote hp.1
 | keyYes hs _ _ _ _ _ => exact absurd hs.quote hp.1
 | keyLast hs _ _ _ _ => exact absurd hs.quote hp.1
 | objSkip h hc _ _ => exact absurd hc hp.2.2.2.2.1
 | objIn h hc _ _ => exact absurd hc hp.2.2.2.2.1
 | arrSkip h hc _ _ => exact absurd hc hp.2.2.2.1
 | arrEmpty h hc => exact absurd hc hp.2.2.2.1
 | arrNone h hc => exact absurd hc hp.2.2.2.1
 | arrLast h hc _ _ _ _ _ _ => exact absurd hc hp.2.2.2.1
 | arrMore h hc _ _ _ _ _ _ _ => exact absurd hc hp.2.2.2.1
/-- What the search in an array answers. -/
def ArrStep (UK : KeyRel) (l : List Int) (K : List ByteArray) (kl i : Nat) (r : Int) : Prop :=
 kl < K.length ∧ ∃ p1 t, IdxKey (K.getD kl ByteArray.empty) t ∧ p1 = 1 + Fj.ws (l.drop (i + 1)) ∧
  ((p1 < (l.drop i).length ∧ rd (l.drop i) (p1 : Int) = 93 ∧ r = -1) ∨
   (rd (l.drop i) (p1 : Int) ≠ 93 ∧ ∃ ef es, Els (l.drop i) p1 es ef ∧ ((es.length ≤ t ∧ r = -1) ∨ ∃ a n ty s, es[t]? = some (a, n, ty) ∧ ((kl + 1 = K.length ∧ s = 0) ∨ (kl + 1 < K.length ∧ Trace UK ((l.drop (i + a)).take n) (K.drop (kl + 1)) 0 false true 0 s)) ∧ r = if s < 0 then -1 else ((i + a : Nat) : Int) + s)))
/-- What the round at a quotation mark does. -/
def StrStep (UK : KeyRel) (l : List Int) (K : List ByteArray) (kl : Nat) (b lm : Bool) (i : Nat) (r : Int) : Prop :=
 ∃ q j, StrAt l i q j ∧ ((rd l (j : Int) ≠ 58 ∧ Trace UK l K kl b lm j r) ∨
  (rd l (j : Int) = 58 ∧ b = true ∧ kl < K.length ∧ ∃ u, UK ((l.drop (i + 1)).take q) u ∧
   ((strOfNums u ≠ K.getD kl ByteArray.empty ∧ Trace UK l K kl true false (j + 1) r) ∨
    (strOfNums u = K.getD kl ByteArray.empty ∧ ((kl + 1 < K.length ∧ Trace UK l K (kl + 1) false true (j + 1) r) ∨ (kl + 1 = K.length ∧ r = ((j + 1 : Nat) : Int)))))))
/-- What the round at a place does. -/
theorem Trace.step {UK : KeyRel} {l : List Int} {K : List ByteArray} {kl : Nat} {b lm : Bool} {i : Nat} {r : Int} (h : Trace UK l K kl b lm i r) :
  (plain (rd l (i : Int)) ∧ Trace UK l K kl b lm (i + 1) r) ∨
  (rd l (i : Int) = 34 ∧ StrStep UK l K kl b lm i r) ∨
  (rd l (i : Int) = 123 ∧ ((lm = false ∧ ∃ e, Scan 123 125 (l.drop i) 0 0 e ∧ Trace UK l K kl b false (i + e) r) ∨
  (b = false ∧ lm = true ∧ kl < K.length ∧ Trace UK l K kl true true (i + 1) r))) ∨
  (rd l (i : Int) = 91 ∧ ((b = true ∧ ∃ e, Scan 91 93 (l.drop i) 0 0 e ∧ Trace UK l K kl true lm (i + e) r) ∨
  (b = false ∧ ArrStep UK l K kl i r))) := by
 cases h with
 | skip h hp n => exact Or.inl ⟨hp, n⟩
 | str hs hc n => exact Or.inr (Or.inl ⟨hs.quote, _, _, hs, Or.inl ⟨hc, n⟩⟩)
 | keyNo hs hc hk hu hne n => exact Or.inr (Or.inl ⟨hs.quote, _, _, hs, Or.inr ⟨hc, rfl, hk, _, hu, Or.inl ⟨hne, n⟩⟩⟩)
 | keyYes hs hc hk hu he n => exact Or.inr (Or.inl ⟨hs.quote, _, _, hs, Or.inr ⟨hc, rfl, by omega, _, hu, Or.inr ⟨he, Or.inl ⟨hk, n⟩⟩⟩⟩)
 | keyLast hs hc hk hu he => exact Or.inr (Or.inl ⟨hs.quote, _, _, hs, Or.inr ⟨hc, rfl, by omega, _, hu, Or.inr ⟨he, Or.inr ⟨hk, rfl⟩⟩⟩⟩)
 | objSkip h hc hs n => exact Or.inr (Or.inr (Or.inl ⟨hc, Or.inl ⟨rfl, _, hs, n⟩⟩))
 | objIn h hc hk n => exact Or.inr (Or.inr (Or.inl ⟨hc, Or.inr ⟨rfl, rfl, hk, n⟩⟩))
 | arrSkip h hc hs n => exact Or.inr (Or.inr (Or.inr ⟨hc, Or.inl ⟨rfl, _, hs, n⟩⟩))
 | arrEmpty h hc hk hx hp hpl he => exact Or.inr (Or.inr (Or.inr ⟨hc, Or.inr ⟨rfl, hk, _, _, hx, hp, Or.inl ⟨hpl, he, rfl⟩⟩⟩))
 | arrNone h hc hk hx hp hne hE ht => exact Or.inr (Or.inr (Or.inr ⟨hc, Or.inr ⟨rfl, hk, _, _, hx, hp, Or.inr ⟨hne, _, _, hE, Or.inl ⟨ht, rfl⟩⟩⟩⟩))
 | arrLast h hc hk hx hp hne hE ht => exact Or.inr (Or.inr (Or.inr ⟨hc, Or.inr ⟨rfl, by omega, _, _, hx, hp, Or.inr ⟨hne, _, _, hE, Or.inr ⟨_, _, _, 0, ht, Or.inl ⟨hk, rfl⟩, by simp⟩⟩⟩⟩))
 | arrMore h hc hk hx hp hne hE ht sub => exact Or.inr (Or.inr (Or.inr ⟨hc, Or.inr ⟨rfl, by omega, _, _, hx, hp, Or.inr ⟨hne, _, _, hE, Or.inr ⟨_, _, _, _, ht, Or.inr ⟨hk, sub⟩, rfl⟩⟩⟩⟩))
theorem StrAt.le {l : List Int} {i q j : Nat} (h : StrAt l i q j) : i + q + 2 ≤ j ∧ i + q + 1 < l.length := by
 have := h.next
 have h2 := h.ends.lt
 rw [List.length_drop] at h2
 omega
theorem Trace.res {UK : KeyRel} {l : List Int} {K : List ByteArray} {kl : Nat} {b lm : Bool} {i : Nat} {r : Int} (h : Trace UK l K kl b lm i r) : -1 ≤ r ∧ r ≤ (l.length : Int) := by
 induction h with
 | skip _ _ _ ih => exact ih
 | str _ _ _ ih => exact ih
 | keyNo _ _ _ _ _ _ ih => exact ih
 | keyYes _ _ _ _ _ _ ih => exact ih
 | keyLast hs _ _ _ _ => have := hs.jlt; omega
 | objSkip _ _ _ _ ih => exact ih
 | objIn _ _ _ _ ih => exact ih
 | arrSkip _ _ _ _ ih => exact ih
 | arrEmpty => omega
 | arrNone => omega
 | @arrLast l K kl lm i p1 ef t a n ty es h hc hk hx hp hne hE ht =>
  have := (hE.mem a n ty (List.mem_of_getElem? ht)).lt
  rw [List.length_drop] at this
  omega
 | @arrMore l K kl lm i p1 ef t a n r ty es h hc hk hx hp hne hE ht sub ih =>
  have := (hE.mem a n ty (List.mem_of_getElem? ht)).lt
  rw [List.length_drop] at this
  rw [List.length_take, List.length_drop] at ih
  split <;> omega
end Go.Proofs.YtcfhnfjkiljigaaDoor.Jp
end
section
namespace Go.Proofs.YtcfhnfjkiljigaaDoor.Jp
open Go.RowKit Go.Proofs.YtcfhnfjkiljigaaDoorW.PrintWords Go.Proofs.YtcfhnfjkiljigaaDoorW.PrintLast Go.Proofs.YtcfhnfjkiljigaaDoorW.PrintMore
attribute [local go_sem] max2_int min2_int max_two min_two max_three min_three max_four min_four
set_option linter.unusedVariables false
set_option linter.unusedSimpArgs false
theorem cb_none (W0 : World) (g o c : Nat) (l : List Int) (i t s D B : Nat) (es : List (Nat × Nat × Int)) (hg : g < s) (hD : D < s) (hB : s + 5 ≤ B) (hes : es.length ≤ t) (hesl : es.length ≤ 1000000) :
  CbOk g (o + i) 61 (cbCap s D) B es (CbW W0 g o c l i t 0 0 0 s D) := by
 intro k a' n' ty' W off hk hoff h hBW
 have hkl : k < es.length := (List.getElem?_eq_some_iff.mp hk).1
 unfold cbCap
 rw [cap_args]
 exact (cb_other W0 g o c l i t 0 0 0 s D k ty' W _ (vn ty' n') off hg hD (by omega) (by omega) h).mono fun e w' hp => ⟨hp.1, hp.2.1, hp.2.2.1, fun ad v hb => hp.2.2.2 ad v (by omega)⟩
set_option maxHeartbeats 16000000 in
set_option maxRecDepth 100000 in
theorem each_empty (b2 : Bool) (n3 : Int) (g o c : Nat) (l : List Int) (F : Nat) (cap : Array Value) (p0 p1 : Nat) (w : World) (I : Nat → World → Prop) (hI0 : I 0 w) (hIb : ∀ k W W', I k W → Below W.heap.size W W' → I k W') (hIr : ∀ k W, I k W → Row W g o l)
  (hby : ∀ x ∈ l, 0 ≤ x ∧ x ≤ 255) (hl : l.length ≤ 1000000) (hc : l.length ≤ c)
  (h0 : Fj.ws l = p0) (h0l : p0 < l.length) (h91 : rd l (p0 : Int) = 91) (k1 : Nat) (h1 : Fj.ws (l.drop (p0 + 1)) = k1) (hp1 : p1 = p0 + 1 + k1) (h93 : (rd l (p1 : Int) == 93) = true) (hp1l : p1 < l.length) :
  Calls Tryd.prog 29 #[.agg #[.bool false, .bool b2, .int .i64 n3], .slice (some ⟨g, o, none⟩) l.length c, .func (.func F) #[] cap, .slice none 0 0] w fun e w' => e = .returned (.tuple #[.int .i64 (p1 : Int), .nilIface]) ∧ I 0 w' := by
 obtain ⟨W, hW⟩ : ∃ W, w.alloc (.cells #[.bool false, .bool b2, .int .i64 n3] 61) = W := ⟨_, rfl⟩
 obtain ⟨cf, hcf⟩ : ∃ cf, w.heap.size = cf := ⟨_, rfl⟩
 have hBW : Below w.heap.size w W := by rw [← hW]; exact XWords.below_alloc0 (Nat.le_refl _) (Below.refl w.heap.size w) _
 have hWs : cf ≤ W.heap.size := by rw [← hcf]; exact hBW.size
 have HI0 := Aside0.mk (hIb 0 w W hI0 hBW)
 have HIB := Aside0.mk hIb
 have HIR := Aside0.mk hIr
 have d0 : W.cell? ⟨cf, 0, none⟩ = some (.bool false) := by rw [← hW, ← hcf]; exact World.cell?_alloc_new w #[.bool false, .bool b2, .int .i64 n3] 61 0
 have d1 : W.cell? ⟨cf, 1, none⟩ = some (.bool b2) := by rw [← hW, ← hcf]; exact World.cell?_alloc_new w #[.bool false, .bool b2, .int .i64 n3] 61 1
 have d2 : W.cell? ⟨cf, 2, none⟩ = some (.int .i64 n3) := by rw [← hW, ← hcf]; exact World.cell?_alloc_new w #[.bool false, .bool b2, .int .i64 n3] 61 2
 have HBY := Aside0.mk hby
 have HWS := Aside0.mk hWs
 clear hI0 hIb hIr hby hBW hWs
 have hr0 := HIR.out 0 W HI0.out
 have x0 := hr0 p0 h0l
 rw [h91] at x0
 have HN0 : Aside0 (∀ W1, Row W1 g o l → Calls Tryd.prog 44 #[.agg #[.bool false, .bool b2, .int .i64 n3], .slice (some ⟨g, o, none⟩) l.length c] W1 fun e w' => e = .returned (.int .i64 (p0 : Int)) ∧ Below W1.heap.size W1 w') := ⟨fun W1 hr => next_at b2 n3 g o c l 0 p0 W1 hr hl h0 (by omega)⟩
 have HN0' := Aside0.mk (HN0.out W hr0)
 have HN1 : Aside0 (∀ W1, Row W1 g o l → Calls Tryd.prog 44 #[.agg #[.bool false, .bool b2, .int .i64 n3], .slice (some ⟨g, o + (p0 + 1), none⟩) (l.length - (p0 + 1)) (c - (p0 + 1))] W1 fun e w' => e = .returned (.int .i64 (k1 : Int)) ∧ Below W1.heap.size W1 w') := ⟨fun W1 hr => next_at b2 n3 g o c l (p0 + 1) k1 W1 hr hl h1 (by omega)⟩
 clear hr0
 have y0 : ((p0 : Int) == -1) = false := beq_eq_false_iff_ne.mpr (by omega)
 have y1 : ((k1 : Int) == -1) = false := beq_eq_false_iff_ne.mpr (by omega)
 have y2 : (l.length = 0) = False := eq_false (by omega)
 have y3 : (l.length == 0) = false := beq_eq_false_iff_ne.mpr (by omega)
 have y4 : ((l.length : Int) == 0) = false := beq_eq_false_iff_ne.mpr (by omega)
 have y5 : (l = []) = False := eq_false (by rintro rfl; simp at h0l)
 have y6 : (p0 : Int) ≤ 1000000 := by omega
 have y7 : (k1 : Int) ≤ 1000000 := by omega
 have y8 : (p1 : Int) = (p0 : Int) + 1 + (k1 : Int) := by omega
 have za1 : ((p0 : Int) + 1 ≤ (l.length : Int)) = True := eq_true (by omega)
 have za2 : (p0 + 1 ≤ l.length) = True := eq_true (by omega)
 have za3 : (c = p0 + 1) = False := eq_false (by omega)
 have za4 : (c - (p0 + 1) = 0) = False := eq_false (by omega)
 have za5 : (c ≤ p0 + 1) = False := eq_false (by omega)
 have za6 : (p0 + 1 ≤ c) = True := eq_true (by omega)
 have za7 : (p0 + 1 < l.length) = True := eq_true (by omega)
 have za8 : ((p0 : Int) + 1 < (l.length : Int)) = True := eq_true (by omega)
 have zb1 : ((p0 : Int) ≤ (l.length : Int)) = True := eq_true (by omega)
 have zb2 : (p0 ≤ l.length) = True := eq_true (by omega)
 have zb3 : (c = p0) = False := eq_false (by omega)
 have zb4 : (c - p0 = 0) = False := eq_false (by omega)
 have zb5 : (c ≤ p0) = False := eq_false (by omega)
 have zb6 : (p0 ≤ c) = True := eq_true (by omega)
 have zb7 : (p0 < l.length) = True := eq_true (by omega)
 have zb8 : ((p0 : Int) < (l.length : Int)) = True := eq_true (by omega)
 have zc1 : (p0 + 1 + k1 < l.length) = True := eq_true (by omega)
 have zc2 : ((p0 : Int) + 1 + (k1 : Int) < (l.length : Int)) = True := eq_true (by omega)
 rw [y8] at h93
 clear h0 h1 h91
 go_enter Tryd.func29, Tryd.ntmps29
 go_wp2_with (go_at_call 44; refine HN0'.out.mono ?_; rintro e w1 ⟨rfl, hb1⟩; have HI1 := Aside0.mk (HIB.out _ _ _ HI0.out hb1); have HS1 : Aside0 (cf ≤ w1.heap.size) := ⟨Nat.le_trans HWS.out hb1.size⟩; have e0 := pw_cell_below hb1 d0; have e1 := pw_cell_below hb1 d1; have e2 := pw_cell_below hb1 d2; have x1 := pw_cell_below hb1 x0; clear hb1 d0 d1 d2 x0)
 have HN1' := Aside0.mk (HN1.out w1.drew (HIR.out 0 _ (HIB.out _ _ _ HI1.out (below_drew (Below.refl _ _)))))
 go_upto_region 20 with fail
 go_region_with (go_at_call 44; refine HN1'.out.mono ?_; rintro e w2 ⟨rfl, hb2⟩; have hbb := below_step (below_drew (Below.refl _ _)) hb2; have HI2 := Aside0.mk (HIB.out _ _ _ HI1.out hbb); have HS2 : Aside0 (cf ≤ w2.heap.size) := ⟨Nat.le_trans HS1.out hbb.size⟩; have d0 := pw_cell_below hbb e0; have d1 := pw_cell_below hbb e1; have d2 := pw_cell_below hbb e2; clear hbb hb2 e0 e1 e2 x1)
 all_goals clear HI1 HS1 HN1 HN1' HN0 HN0' HI0 HWS
 all_goals have x2 := (HIR.out 0 _ HI2.out) p1 hp1l
 all_goals have hpe : o + (p0 + 1 + k1) = o + p1 := by omega
 all_goals go_wp2
 all_goals go_ret2
 all_goals exact ⟨by rw [y8]; rfl, HI2.out⟩
end Go.Proofs.YtcfhnfjkiljigaaDoor.Jp
end
section
namespace Go.Proofs.YtcfhnfjkiljigaaDoor.Jp
open Go.RowKit Go.Proofs.YtcfhnfjkiljigaaDoorW.PrintWords Go.Proofs.YtcfhnfjkiljigaaDoorW.PrintLast
set_option linter.unusedVariables false
set_option linter.unusedSimpArgs false
theorem rd_take {l : List Int} {m i : Nat} (h : i < m) : rd (l.take m) (i : Int) = rd l (i : Int) := by
 unfold rd
 simp only [Int.toNat_natCast, List.getD_eq_getElem?_getD]
 rw [List.getElem?_take_of_lt h]
theorem ws_take : ∀ (l : List Int) (m : Nat), Fj.ws (l.take m) = min (Fj.ws l) m
 | _, 0 => by simp [Fj.ws]
 | [], m + 1 => by simp [Fj.ws]
 | c :: r, m + 1 => by
  rw [List.take_succ_cons, Fj.ws, Fj.ws, ws_take r m]
  split <;> omega
theorem tokE_take : ∀ (l : List Int) (m : Nat), tokE (l.take m) = min (tokE l) m
 | _, 0 => by simp [tokE]
 | [], m + 1 => by simp [tokE]
 | c :: r, m + 1 => by
  rw [List.take_succ_cons, tokE, tokE, tokE_take r m]
  split <;> omega
theorem escd_take {l : List Int} {m : Nat} : ∀ j, j ≤ m → StrEnd.escd (l.take m) j = StrEnd.escd l j
 | 0, _ => rfl
 | j + 1, h => by rw [StrEnd.escd, StrEnd.escd, escd_take j (by omega), rd_take (by omega)]
theorem bsl_take {l : List Int} {m : Nat} : ∀ j, j ≤ m → StrEnd.bsl (l.take m) j = StrEnd.bsl l j
 | 0, _ => rfl
 | j + 1, h => by rw [StrEnd.bsl, StrEnd.bsl, bsl_take j (by omega), rd_take (by omega)]
theorem ends_take {l : List Int} {c : Int} {q m : Nat} (h : StrEnd.Ends l c q) (hm : q < m) : StrEnd.Ends (l.take m) c q :=
 ⟨by rw [List.length_take]; have := h.lt; omega, by rw [rd_take hm]; exact h.at_, by rw [escd_take q (by omega)]; exact h.even, fun j hj hr => by rw [rd_take (by omega)] at hr; rw [escd_take j (by omega)]; exact h.first j hj hr⟩
theorem drop_of_take (l : List Int) (m i : Nat) : (l.take m).drop i = (l.drop i).take (m - i) := by rw [List.drop_take]
theorem scan_take {o c : Int} {l : List Int} {i lev e : Nat} (h : Scan o c l i lev e) {m : Nat} (hm : e ≤ m) : Scan o c (l.take m) i lev e := by
 induction h with
 | @done i h hc => exact .done (by rw [List.length_take]; omega) (by rw [rd_take (by omega)]; exact hc)
 | @close i lev e h hc n ih => have := n.le; exact .close (by rw [List.length_take]; omega) (by rw [rd_take (by omega)]; exact hc) (ih hm)
 | @open_ i lev e h ho n ih => have := n.le; exact .open_ (by rw [List.length_take]; omega) (by rw [rd_take (by omega)]; exact ho) (ih hm)
 | @str i lev e q h h34 hq n ih =>
  have := n.le
  exact .str (q := q) (by rw [List.length_take]; omega) (by rw [rd_take (by omega)]; exact h34) (by rw [drop_of_take]; exact ends_take hq (by omega)) (ih hm)
 | @other i lev e h h1 h2 h3 n ih =>
  have := n.le
  have er : rd (l.take m) (i : Int) = rd l (i : Int) := rd_take (by omega)
  exact .other (by rw [List.length_take]; omega) (by rw [er]; exact h1) (by rw [er]; exact h2) (by rw [er]; exact h3) (ih hm)
theorem TyAt.take {l : List Int} {p n : Nat} {ty : Int} (h : TyAt l p n ty) {m : Nat} (hm : p + n ≤ m) : TyAt (l.take m) p n ty := by
 have hl := h.lt
 have L1 : p < (l.take m).length := by rw [List.length_take]; omega
 have L2 : p + n ≤ (l.take m).length := by rw [List.length_take]; omega
 have hr : rd (l.take m) (p : Int) = rd l (p : Int) := rd_take (by omega)
 have hd : (l.take m).drop p = (l.drop p).take (m - p) := drop_of_take _ _ _
 have hd1 : (l.take m).drop (p + 1) = (l.drop (p + 1)).take (m - (p + 1)) := drop_of_take _ _ _
 cases h with
 | str hp hpn q hn h34 hq => exact .str L1 L2 q hn (hr.trans h34) (by rw [hd1]; exact ends_take hq (by omega))
 | arr hp hpn hx0 hs => exact .arr L1 L2 (hr.trans hx0) (by rw [hd]; exact scan_take hs (by omega))
 | obj hp hpn hx0 hs => exact .obj L1 L2 (hr.trans hx0) (by rw [hd]; exact scan_take hs (by omega))
 | num hp hpn h1 hx0 htk => exact .num L1 L2 h1 (by rw [hr]; exact hx0) (by rw [hd, tokE_take]; omega)
 | tru hp hpn hw htk => exact .tru L1 L2 (by rw [hd, List.take_take, Nat.min_eq_left (by omega)]; exact hw) (by rw [hd, tokE_take]; omega)
 | fls hp hpn hw htk => exact .fls L1 L2 (by rw [hd, List.take_take, Nat.min_eq_left (by omega)]; exact hw) (by rw [hd, tokE_take]; omega)
 | nul hp hpn hw htk => exact .nul L1 L2 (by rw [hd, List.take_take, Nat.min_eq_left (by omega)]; exact hw) (by rw [hd, tokE_take]; omega)
theorem ws_in {l : List Int} {p j m : Nat} (h : Fj.ws (l.drop p) + p = j) (hj : j < m) : Fj.ws ((l.take m).drop p) + p = j := by
 rw [drop_of_take, ws_take]; omega
theorem Els.take {l : List Int} {p e : Nat} {es : List (Nat × Nat × Int)} (h : Els l p es e) {m : Nat} (hm : e < m) : Els (l.take m) p es e := by
 induction h with
 | @last p a n j ty ha hT hj hjl hc =>
  have := hT.lt
  exact .last (ws_in ha (by omega)) (hT.take (by omega)) (ws_in hj hm) (by rw [List.length_take]; omega) (by rw [rd_take hm]; exact hc)
 | @more p a n j e ty es ha hT hj hjl hc r ih =>
  have h1 := hT.lt
  have h2 : j + 1 < e + 1 := by
   have : ∀ {q z : Nat} {xs : List (Nat × Nat × Int)}, Els l q xs z → q ≤ z := fun {q z xs} h => by
    induction h with
    | last ha hT hj hjl hc => have := hT.lt; omega
    | more ha hT hj hjl hc r ih => have := hT.lt; omega
   have := this r
   omega
  exact .more (ws_in ha (by omega)) (hT.take (by omega)) (ws_in hj (by omega)) (by rw [List.length_take]; omega) (by rw [rd_take (by omega)]; exact hc) (ih hm)
theorem ws_shift {l : List Int} {p a q : Nat} (h : Fj.ws (l.drop p) + p = a) (hq : q ≤ p) : Fj.ws ((l.drop q).drop (p - q)) + (p - q) = a - q := by
 rw [List.drop_drop, show q + (p - q) = p by omega]; omega
def esShift (q : Nat) (es : List (Nat × Nat × Int)) : List (Nat × Nat × Int) := es.map fun x => (x.1 - q, x.2.1, x.2.2)
theorem Els.shift {l : List Int} {p e : Nat} {es : List (Nat × Nat × Int)} (h : Els l p es e) {q : Nat} (hq : q ≤ p) : Els (l.drop q) (p - q) (esShift q es) (e - q) := by
 induction h with
 | @last p a n j ty ha hT hj hjl hc =>
  have := hT.lt
  have h2 := ws_shift hj (show q ≤ a + n by omega)
  rw [show a + n - q = a - q + n by omega] at h2
  exact .last (ws_shift ha hq) (hT.shift (by omega)) h2 (by rw [List.length_drop]; omega) (by rw [rd_dropN, show q + (j - q) = j by omega]; exact hc)
 | @more p a n j e ty es ha hT hj hjl hc r ih =>
  have := hT.lt
  have h2 := ws_shift hj (show q ≤ a + n by omega)
  rw [show a + n - q = a - q + n by omega] at h2
  have h3 := ih (by omega)
  rw [show j + 1 - q = j - q + 1 by omega] at h3
  exact .more (ws_shift ha hq) (hT.shift (by omega)) h2 (by rw [List.length_drop]; omega) (by rw [rd_dropN, show q + (j - q) = j by omega]; exact hc) h3
/-- A window of a text. -/
def win (l : List Int) (d m : Nat) : List Int := (l.drop d).take m
theorem win_len {l : List Int} {d m : Nat} (h : d + m ≤ l.length) : (win l d m).length = m := by unfold win; rw [List.length_take, List.length_drop]; omega
theorem rd_win {l : List Int} {d m i : Nat} (h : i < m) : rd (win l d m) (i : Int) = rd l ((d + i : Nat) : Int) := by unfold win; rw [rd_take h, rd_dropN]
theorem win_drop (l : List Int) (d m i : Nat) : (win l d m).drop i = win l (d + i) (m - i) := by unfold win; rw [drop_of_take, List.drop_drop]
theorem win_take {l : List Int} {d m n : Nat} (h : n ≤ m) : (win l d m).take n = win l d n := by unfold win; rw [List.take_take, Nat.min_eq_left h]
theorem win_all (l : List Int) : win l 0 l.length = l := by unfold win; simp
section
variable (UK : KeyRel) (L : List Int) (K : List ByteArray) (kl d m : Nat)
/-- From a state at a place the search goes on as from another state at another place. -/
def Over (b lm : Bool) (p : Nat) (b' lm' : Bool) (p' : Nat) : Prop := ∀ r, Trace UK (win L d m) K kl b' lm' (p' - d) r → Trace UK (win L d m) K kl b lm (p - d) r
end
section
variable {UK : KeyRel} {L : List Int} {K : List ByteArray} {kl d m : Nat}
theorem Over.refl (b lm : Bool) (p : Nat) : Over UK L K kl d m b lm p b lm p := fun _ h => h
theorem Over.trans {b lm b' lm' b2 lm2 : Bool} {p p' p2 : Nat} (h : Over UK L K kl d m b lm p b' lm' p') (g : Over UK L K kl d m b' lm' p' b2 lm2 p2) : Over UK L K kl d m b lm p b2 lm2 p2 := fun r x => h r (g r x)
theorem rd_at {p : Nat} (hd : d ≤ p) (hm : p < d + m) : rd (win L d m) ((p - d : Nat) : Int) = rd L (p : Int) := by rw [rd_win (by omega), show d + (p - d) = p by omega]
theorem drop_at {p : Nat} (hd : d ≤ p) : (win L d m).drop (p - d) = win L p (d + m - p) := by rw [win_drop, show d + (p - d) = p by omega, show m - (p - d) = d + m - p by omega]
theorem over_plain (hL : d + m ≤ L.length) {p : Nat} (hd : d ≤ p) (hm : p < d + m) (h : plain (rd L (p : Int))) (b lm : Bool) : Over UK L K kl d m b lm p b lm (p + 1) := fun r x => by
 rw [show p + 1 - d = p - d + 1 by omega] at x
 exact .skip (by rw [win_len hL]; omega) (by rw [rd_at hd hm]; exact h) x
theorem over_plains (hL : d + m ≤ L.length) (b lm : Bool) : ∀ (n p : Nat), d ≤ p → p + n ≤ d + m → (∀ j, j < n → plain (rd L ((p + j : Nat) : Int))) → Over UK L K kl d m b lm p b lm (p + n)
 | 0, p, _, _, _ => Over.refl _ _ _
 | n + 1, p, hd, hm, h => by
  have h0 := over_plain (UK := UK) (K := K) (kl := kl) hL hd (by omega) (by have := h 0 (by omega); rwa [Nat.add_zero] at this) b lm
  have h1 := over_plains hL b lm n (p + 1) (by omega) (by omega) (fun j hj => by have := h (j + 1) (by omega); rwa [show p + (j + 1) = p + 1 + j by omega] at this)
  rw [show p + (n + 1) = p + 1 + n by omega]
  exact h0.trans h1
theorem blank_plain {x : Int} (h : Fj.blank x = true) : plain x := by
 unfold Fj.blank at h
 simp only [Bool.or_eq_true, beq_iff_eq] at h
 unfold plain
 omega
theorem ws_is_blank : ∀ (l : List Int) (j : Nat), j < Fj.ws l → Fj.blank (rd l (j : Int)) = true
 | [], j, h => by rw [Fj.ws] at h; omega
 | c :: r, j, h => by
  rw [Fj.ws] at h
  by_cases hb : Fj.blank c = true
  ·rw [if_pos hb] at h
   cases j with
   | zero => exact hb
   | succ j => exact ws_is_blank r j (by omega)
  ·rw [if_neg hb] at h; omega
theorem over_blanks (hL : d + m ≤ L.length) (b lm : Bool) {p a : Nat} (ha : Fj.ws (L.drop p) + p = a) (hd : d ≤ p) (hm : a ≤ d + m) : Over UK L K kl d m b lm p b lm a := by
 have := over_plains (UK := UK) (K := K) (kl := kl) hL b lm (Fj.ws (L.drop p)) p hd (by omega) (fun j hj => by
  have h := ws_is_blank (L.drop p) j hj
  rw [rd_dropN] at h
  exact blank_plain h)
 rwa [show p + Fj.ws (L.drop p) = a by omega] at this
theorem strAt_win (hL : d + m ≤ L.length) {p q j : Nat} (hd : d ≤ p) (h34 : rd L (p : Int) = 34) (hq : StrEnd.Ends (L.drop (p + 1)) 34 q) (hj : Fj.ws (L.drop (p + q + 2)) + (p + q + 2) = j) (hm : j < d + m) : StrAt (win L d m) (p - d) q (j - d) := by
 refine ⟨by rw [win_len hL]; omega, by rw [rd_at hd (by omega)]; exact h34, ?_, ?_, by rw [win_len hL]; omega⟩
 ·rw [show p - d + 1 = p + 1 - d by omega, drop_at (by omega)]
  exact ends_take hq (by omega)
 ·rw [show p - d + q + 2 = p + q + 2 - d by omega, drop_at (by omega)]
  unfold win
  rw [ws_take]
  omega
theorem over_str (hL : d + m ≤ L.length) (b lm : Bool) {p q j : Nat} (hd : d ≤ p) (h34 : rd L (p : Int) = 34) (hq : StrEnd.Ends (L.drop (p + 1)) 34 q) (hj : Fj.ws (L.drop (p + q + 2)) + (p + q + 2) = j) (hm : j < d + m) (hc : rd L (j : Int) ≠ 58) : Over UK L K kl d m b lm p b lm j := fun r x =>
 .str (strAt_win hL hd h34 hq hj hm) (by rw [rd_at (by omega) hm]; exact hc) x
theorem raw_win {p q : Nat} (hd : d ≤ p) (hm : p + 1 + q ≤ d + m) : ((win L d m).drop (p - d + 1)).take q = (L.drop (p + 1)).take q := by
 rw [show p - d + 1 = p + 1 - d by omega, drop_at (by omega), win_take (by omega)]
 rfl
theorem over_keyNo (hL : d + m ≤ L.length) (lm : Bool) {p q j : Nat} {u : List Int} (hd : d ≤ p) (h34 : rd L (p : Int) = 34) (hq : StrEnd.Ends (L.drop (p + 1)) 34 q) (hj : Fj.ws (L.drop (p + q + 2)) + (p + q + 2) = j) (hm : j < d + m) (hc : rd L (j : Int) = 58) (hk : kl < K.length) (hu : UK ((L.drop (p + 1)).take q) u) (hne : strOfNums u ≠ K.getD kl ByteArray.empty) : Over UK L K kl d m true lm p true false (j + 1) := fun r x => by
 rw [show j + 1 - d = j - d + 1 by omega] at x
 exact .keyNo (strAt_win hL hd h34 hq hj hm) (by rw [rd_at (by omega) hm]; exact hc) hk (by rw [raw_win hd (by omega)]; exact hu) hne x
theorem over_objIn (hL : d + m ≤ L.length) {p : Nat} (hd : d ≤ p) (hm : p < d + m) (hc : rd L (p : Int) = 123) (hk : kl < K.length) : Over UK L K kl d m false true p true true (p + 1) := fun r x => by
 rw [show p + 1 - d = p - d + 1 by omega] at x
 exact .objIn (by rw [win_len hL]; omega) (by rw [rd_at hd hm]; exact hc) hk x
/-- A value is passed, inside of an object whose member it is not sought as. -/
theorem over_val (hL : d + m ≤ L.length) {p n j : Nat} {ty : Int} (hd : d ≤ p) (h : TyAt L p n ty) (hj : Fj.ws (L.drop (p + n)) + (p + n) = j) (hm : j < d + m) (hc : rd L (j : Int) ≠ 58) (hpl : ty ≠ 1 → ty ≠ 3 → ty ≠ 4 → ∀ i, i < n → plain (rd L ((p + i : Nat) : Int))) : Over UK L K kl d m true false p true false j := by
 have hl := h.lt
 have dull : ty ≠ 1 → ty ≠ 3 → ty ≠ 4 → Over UK L K kl d m true false p true false j := fun h1 h2 h3 =>
  (over_plains hL true false n p hd (by omega) (hpl h1 h2 h3)).trans (over_blanks hL true false hj (by omega) (by omega))
 cases h with
 | str hp hpn q hn h34 hq =>
  subst hn
  exact over_str hL true false hd h34 hq (by rw [show p + q + 2 = p + (q + 2) by omega]; exact hj) hm hc
 | arr hp hpn hx0 hs =>
  refine Over.trans (p' := p + n) (b' := true) (lm' := false) (fun r x => ?_) (over_blanks hL true false hj (by omega) (by omega))
  rw [show p + n - d = p - d + n by omega] at x
  exact .arrSkip (by rw [win_len hL]; omega) (by rw [rd_at hd (by omega)]; exact hx0) (by rw [drop_at hd]; exact scan_take hs (by omega)) x
 | obj hp hpn hx0 hs =>
  refine Over.trans (p' := p + n) (b' := true) (lm' := false) (fun r x => ?_) (over_blanks hL true false hj (by omega) (by omega))
  rw [show p + n - d = p - d + n by omega] at x
  exact .objSkip (by rw [win_len hL]; omega) (by rw [rd_at hd (by omega)]; exact hx0) (by rw [drop_at hd]; exact scan_take hs (by omega)) x
 | num hp hpn h1 hx0 htk => exact dull (by decide) (by decide) (by decide)
 | tru hp hpn hw htk => exact dull (by decide) (by decide) (by decide)
 | fls hp hpn hw htk => exact dull (by decide) (by decide) (by decide)
 | nul hp hpn hw htk => exact dull (by decide) (by decide) (by decide)
end
end Go.Proofs.YtcfhnfjkiljigaaDoor.Jp
end
section
namespace Go.Proofs.YtcfhnfjkiljigaaDoor.Jp
open Go.RowKit Go.Proofs.YtcfhnfjkiljigaaDoorW.PrintWords Go.Proofs.YtcfhnfjkiljigaaDoorW.PrintLast Go.Proofs.YtcfhnfjkiljigaaDoorW.PrintMore
attribute [local go_sem] max2_int min2_int max_two min_two max_three min_three max_four min_four
set_option linter.unusedVariables false
set_option linter.unusedSimpArgs false
/-- The keys lie in cells. -/
def Keys (w : World) (g o : Nat) (K : List ByteArray) : Prop := ∀ j, j < K.length → w.cell? ⟨g, o + j, none⟩ = some (.string (K.getD j ByteArray.empty))
theorem Keys.below {w w' : World} {g o : Nat} {K : List ByteArray} (h : Keys w g o K) {B : Nat} (hb : Below B w w') (hg : g < B) : Keys w' g o K := fun j hj => (hb.cell (p := ⟨g, o + j, none⟩) hg).trans (h j hj)
/-- The world in the search: what was there is there; the configuration, the text and the stack's buffer lie in the three blocks of the call. -/
structure SW (w : World) (g o c : Nat) (l : List Int) (b2 : Bool) (n3 : Int) (W : World) : Prop where
 bel : Below w.heap.size w W
 size : w.heap.size + 3 ≤ W.heap.size
 d0 : W.cell? ⟨w.heap.size, 0, none⟩ = some (.bool false)
 d1 : W.cell? ⟨w.heap.size, 1, none⟩ = some (.bool b2)
 d2 : W.cell? ⟨w.heap.size, 2, none⟩ = some (.int .i64 n3)
 d3 : W.cell? ⟨w.heap.size + 1, 0, none⟩ = some (.slice (some ⟨g, o, none⟩) l.length c)
 st : ∃ cur : List Value, W.heap[w.heap.size + 2]? = some (.cells cur.toArray 76 (0, 0)) ∧ cur.length = 64
theorem SW.step {w : World} {g o c : Nat} {l : List Int} {b2 : Bool} {n3 : Int} {W W' : World} (h : SW w g o c l b2 n3 W) (hb : Below W.heap.size W W') : SW w g o c l b2 n3 W' := by
 have hs := h.size
 obtain ⟨cur, h1, h2⟩ := h.st
 exact ⟨h.bel.trans (hb.mono (by omega)), Nat.le_trans hs hb.size, pw_cell_below hb h.d0, pw_cell_below hb h.d1, pw_cell_below hb h.d2, pw_cell_below hb h.d3, cur, heap_below hb (by omega) h1, h2⟩
theorem three_a (w : World) (xs : Array Value) (t : TypeId) (o2 o3 : Obj) (j : Nat) (v : Value) (h : xs[j]? = some v) : (((w.alloc (.cells xs t)).alloc o2).alloc o3).cell? ⟨w.heap.size, j, none⟩ = some v :=
 pw_cell_below (w := w.alloc (.cells xs t)) (XWords.below_alloc0 (by show (w.alloc (.cells xs t)).heap.size ≤ ((w.alloc (.cells xs t)).heap.push o2).size; rw [Array.size_push]; omega) (XWords.below_alloc0 (Nat.le_refl _) (Below.refl _ _) _) _) ((World.cell?_alloc_new w _ _ j).trans h)
theorem three_b (w : World) (ys : Array Value) (t : TypeId) (o1 o3 : Obj) (j : Nat) (v : Value) (h : ys[j]? = some v) : (((w.alloc o1).alloc (.cells ys t)).alloc o3).cell? ⟨w.heap.size + 1, j, none⟩ = some v := by
 have e : w.heap.size + 1 = (w.alloc o1).heap.size := by show _ = (w.heap.push _).size; rw [Array.size_push]
 rw [e]
 exact pw_cell_below (w := (w.alloc o1).alloc (.cells ys t)) (XWords.below_alloc0 (Nat.le_refl _) (Below.refl _ _) _) ((World.cell?_alloc_new (w.alloc o1) _ _ j).trans h)
theorem three_below (w : World) (o1 o2 o3 : Obj) : Below w.heap.size w (((w.alloc o1).alloc o2).alloc o3) :=
 below_alloc (below_alloc (below_alloc (Below.refl _ _) _) _) _
theorem three_size (w : World) (o1 o2 o3 : Obj) : (((w.alloc o1).alloc o2).alloc o3).heap.size = w.heap.size + 3 := by
 show (((w.heap.push o1).push o2).push o3).size = _
 simp [Array.size_push]
theorem three_c (w : World) (o1 o2 : Obj) (xs : Array Value) (t : TypeId) (h : xs.size = 64) : ∃ cur : List Value, (((w.alloc o1).alloc o2).alloc (.cells xs t)).heap[w.heap.size + 2]? = some (.cells cur.toArray t (0, 0)) ∧ cur.length = 64 := by
 refine ⟨xs.toList, ?_, by simpa using h⟩
 show (((w.heap.push o1).push o2).push (.cells xs t))[w.heap.size + 2]? = _
 rw [show w.heap.size + 2 = ((w.heap.push o1).push o2).size by simp [Array.size_push], Array.getElem?_push_size]
def Ans (r : Int) (w : World) : Ending → World → Prop := fun e w' => e = .returned (.int .i64 r) ∧ Below w.heap.size w w'
def bn (b : Bool) : Nat := if b then 1 else 0
/-- The code of a block, found in a body. -/
def findBlock (n : Nat) : Code → Option Code
 | .block i c => if i = n then some c else findBlock n c
 | .loop c => findBlock n c
 | .scope c => findBlock n c
 | .seq a b => match findBlock n a with
  | some c => some c
  | none => findBlock n b
 | .cond _ a b => match findBlock n a with
  | some c => some c
  | none => findBlock n b
 | _ => none
/-- What is asked of the switch's ends: it falls through, or returns. -/
def QS (N R : Act → World → Prop) : Exit → Act → World → Prop
 | .normal, a, w => N a w
 | .ret, a, w => R a w
 | _, _, _ => False
noncomputable def sw4 : Code := (Tryd.f45.body.bind (findBlock 4)).getD .skip
set_option maxRecDepth 100000 in
/-- A frame of 283 slots, written out. -/
theorem frame_lit (a : Act) (hs : a.tmps.size = 283) (hd : a.defers = []) : ∃ f : Nat → Value, (∀ n, f n = a.tmps.getD n undef) ∧ a = ⟨#[f 0, f 1, f 2, f 3, f 4, f 5, f 6, f 7, f 8, f 9, f 10, f 11, f 12, f 13, f 14, f 15, f 16, f 17, f 18, f 19, f 20, f 21, f 22, f 23, f 24, f 25, f 26, f 27, f 28, f 29, f 30, f 31, f 32, f 33, f 34, f 35, f 36, f 37, f 38, f 39, f 40, f 41, f 42, f 43, f 44, f 45, f 46, f 47, f 48, f 49, f 50, f 51, f 52, f 53, f 54, f 55, f 56, f 57, f 58, f 59, f 60, f 61, f 62, f 63, f 64, f 65, f 66, f 67, f 68, f 69, f 70, f 71, f 72, f 73, f 74, f 75, f 76, f 77, f 78, f 79, f 80, f 81, f 82, f 83, f 84, f 85, f 86, f 87, f 88, f 89, f 90, f 91, f 92, f 93, f 94, f 95, f 96, f 97, f 98, f 99, f 100, f 101, f 102, f 103, f 104, f 105, f 106, f 107, f 108, f 109, f 110, f 111, f 112, f 113, f 114, f 115, f 116, f 117, f 118, f 119, f 120, f 121, f 122, f 123, f 124, f 125, f 126, f 127, f 128, f 129, f 130, f 131, f 132, f 133, f 134, f 135, f 136, f 137, f 138, f 139, f 140, f 141, f 142, f 143, f 144, f 145, f 146, f 147, f 148, f 149, f 150, f 151, f 152, f 153, f 154, f 155, f 156, f 157, f 158, f 159, f 160, f 161, f 162, f 163, f 164, f 165, f 166, f 167, f 168, f 169, f 170, f 171, f 172, f 173, f 174, f 175, f 176, f 177, f 178, f 179, f 180, f 181, f 182, f 183, f 184, f 185, f 186, f 187, f 188, f 189, f 190, f 191, f 192, f 193, f 194, f 195, f 196, f 197, f 198, f 199, f 200, f 201, f 202, f 203, f 204, f 205, f 206, f 207, f 208, f 209, f 210, f 211, f 212, f 213, f 214, f 215, f 216, f 217, f 218, f 219, f 220, f 221, f 222, f 223, f 224, f 225, f 226, f 227, f 228, f 229, f 230, f 231, f 232, f 233, f 234, f 235, f 236, f 237, f 238, f 239, f 240, f 241, f 242, f 243, f 244, f 245, f 246, f 247, f 248, f 249, f 250, f 251, f 252, f 253, f 254, f 255, f 256, f 257, f 258, f 259, f 260, f 261, f 262, f 263, f 264, f 265, f 266, f 267, f 268, f 269, f 270, f 271, f 272, f 273, f 274, f 275, f 276, f 277, f 278, f 279, f 280, f 281, f 282], []⟩ := by
 obtain ⟨t, d⟩ := a
 simp only [] at hs hd
 subst hd
 refine ⟨fun n => t.getD n undef, fun _ => rfl, ?_⟩
 have h : t = ((List.range 283).map fun n => t.getD n undef).toArray := by
  apply Array.ext
  ·simp [hs]
  ·intro i h1 h2
   simp [Array.getD, h1]
 exact congrArg (fun x => Act.mk x []) h
/-- What is kept of the frame. -/
structure Fr (s2 s3 s4 s10 s11 s13 : Value) (a : Act) : Prop where
 size : a.tmps.size = 283
 defers : a.defers = []
 e2 : a.tmps.getD 2 undef = s2
 e3 : a.tmps.getD 3 undef = s3
 e4 : a.tmps.getD 4 undef = s4
 e10 : a.tmps.getD 10 undef = s10
 e11 : a.tmps.getD 11 undef = s11
 e13 : a.tmps.getD 13 undef = s13
/-- The cells of a slice of no keys are not looked at. -/
def UKOk (UK : KeyRel) (b2 : Bool) (n3 : Int) (w0 : World) : Prop := (∀ raw u, UK raw u → u.length ≤ raw.length) ∧ (∀ raw u, UK raw u → StrEnd.bsl raw raw.length = false → u = raw) ∧ ∀ (g o c : Nat) (raw u : List Int) (sb : Nat) (W : World), Below w0.heap.size w0 W → w0.heap.size ≤ sb → UK raw u → (StrEnd.bsl raw raw.length = true) → Row W g o raw → (∀ x ∈ raw, 0 ≤ x ∧ x ≤ 255) → raw.length ≤ 1000000 → raw.length ≤ c → g < sb → sb < W.heap.size → (∃ cur : List Value, W.heap[sb]? = some (.cells cur.toArray 76 (0, 0)) ∧ cur.length = 64) →
  Calls Tryd.prog 35 #[.agg #[.bool false, .bool b2, .int .i64 n3], .slice (some ⟨g, o, none⟩) raw.length c, .slice (some ⟨sb, 0, none⟩) 64 64] W fun e w' => ∃ g' o' c', e = .returned (.tuple #[.slice (some ⟨g', o', none⟩) u.length c', .nilIface]) ∧ Row w' g' o' u ∧ (g' = sb ∨ W.heap.size ≤ g') ∧ Below sb W w' ∧ (∀ b, b < W.heap.size → b ≠ sb → w'.heap[b]? = W.heap[b]?) ∧ (∃ cur : List Value, w'.heap[sb]? = some (.cells cur.toArray 76 (0, 0)) ∧ cur.length = 64)
theorem UKOk.below {UK : KeyRel} {b2 : Bool} {n3 : Int} {w w' : World} (h : UKOk UK b2 n3 w) (hb : Below w.heap.size w w') : UKOk UK b2 n3 w' :=
 ⟨h.1, h.2.1, fun g o c raw u sb W hW hsb => h.2.2 g o c raw u sb W (hb.trans (hW.mono hb.size)) (Nat.le_trans hb.size hsb)⟩
/-- What the reading of a name with escapes leaves of the world. -/
theorem SW.uk {w : World} {g o c : Nat} {l : List Int} {b2 : Bool} {n3 : Int} {W W' : World} (h : SW w g o c l b2 n3 W) (hb : Below (w.heap.size + 2) W W') (hst : ∃ cur : List Value, W'.heap[w.heap.size + 2]? = some (.cells cur.toArray 76 (0, 0)) ∧ cur.length = 64) : SW w g o c l b2 n3 W' := by
 have hs := h.size
 exact ⟨h.bel.trans (hb.mono (by omega)), Nat.le_trans hs hb.size, (hb.cell (p := ⟨w.heap.size, 0, none⟩) (by show w.heap.size < _; omega)).trans h.d0, (hb.cell (p := ⟨w.heap.size, 1, none⟩) (by show w.heap.size < _; omega)).trans h.d1, (hb.cell (p := ⟨w.heap.size, 2, none⟩) (by show w.heap.size < _; omega)).trans h.d2, (hb.cell (p := ⟨w.heap.size + 1, 0, none⟩) (by show w.heap.size + 1 < _; omega)).trans h.d3, hst⟩
theorem SW.set {w : World} {g o c : Nat} {l : List Int} {b2 : Bool} {n3 : Int} {W : World} (h : SW w g o c l b2 n3 W) {bx : Nat} (hbx : w.heap.size + 3 ≤ bx) (u : Value) : SW w g o c l b2 n3 (W.setCell ⟨bx, 0, none⟩ u) := by
 obtain ⟨cur, h1, h2⟩ := h.st
 exact ⟨h.bel.setCell (by show w.heap.size ≤ bx; omega) u, by rw [setCell_size]; exact h.size, (cell_set_ne u (by show w.heap.size ≠ bx; omega)).trans h.d0, (cell_set_ne u (by show w.heap.size ≠ bx; omega)).trans h.d1, (cell_set_ne u (by show w.heap.size ≠ bx; omega)).trans h.d2, (cell_set_ne u (by show w.heap.size + 1 ≠ bx; omega)).trans h.d3, cur, heap_set_ne u (by omega) h1, h2⟩
set_option maxHeartbeats 2000000 in
set_option maxRecDepth 100000 in
theorem equal_box (bx g o c : Nat) (W : World) (l : List Int) (s : ByteArray) (hbox : W.cell? ⟨bx, 0, none⟩ = some (.slice (some ⟨g, o, none⟩) l.length c)) (hrow : Row W g o l) (hlen : l.length ≤ 1000000) (v : Bool) (hs : ((strOfNums l).toList == s.toList) = v) :
  Calls Tryd.prog 58 #[.pointer (some ⟨bx, 0, none⟩), .string s] W fun e w' => e = .returned (.bool v) ∧ W = w' := by
 have hcv := Kd.C_string (P := Tryd.prog) (c := c) Tryd.underlying53 Tryd.underlying5 Tryd.underlying9 (hrow.kd hlen)
 clear hrow
 go_enter Tryd.func58, Tryd.ntmps58
 go_wp2
 go_ret
 exact ⟨by simp [hs], rfl⟩
theorem vint {x y : Int} (h : x = y) : Value.int .i64 x = .int .i64 y := by rw [h]
theorem bn_true (kl : Nat) : ((kl + bn true : Nat) : Int) = (kl : Int) + 1 := by simp [bn]
theorem bn_false (kl : Nat) : ((kl + bn false : Nat) : Int) = (kl : Int) := rfl
end Go.Proofs.YtcfhnfjkiljigaaDoor.Jp
end
section
namespace Go.Proofs.YtcfhnfjkiljigaaDoor.Jp
open Go.RowKit Go.Proofs.YtcfhnfjkiljigaaDoorW.PrintWords Go.Proofs.YtcfhnfjkiljigaaDoorW.PrintLast Go.Proofs.YtcfhnfjkiljigaaDoorW.PrintMore
attribute [local go_sem] max2_int min2_int max_two min_two max_three min_three max_four min_four
set_option linter.unusedVariables false
set_option linter.unusedSimpArgs false
set_option maxHeartbeats 64000000 in
set_option maxRecDepth 100000 in
theorem arm_plain (UK : KeyRel) (b2 : Bool) (n3 : Int) (g o c : Nat) (l : List Int) (gk ok ck : Nat) (K : List ByteArray) (r : Int) (w : World) (hrow : Row w g o l) (hby : ∀ x ∈ l, 0 ≤ x ∧ x ≤ 255) (hl : l.length ≤ 1000000) (hc : l.length ≤ c) (hgw : g < w.heap.size) (hkeys : Keys w gk ok K) (hgk : gk < w.heap.size) (hK : K.length ≤ 1000000) (hck : K.length ≤ ck)
  (wr : World) (hSW : SW w g o c l b2 n3 wr) (a : Act) (hfr : Fr (.slice (some ⟨gk, ok, none⟩) K.length ck) (.pointer (some ⟨w.heap.size, 0, none⟩)) (.pointer (some ⟨w.heap.size + 1, 0, none⟩)) (.int .i64 (l.length : Int)) (.int .i64 (K.length : Int)) (.pointer (some ⟨w.heap.size + 2, 0, none⟩)) a) (kl : Nat) (b lm : Bool) (i : Nat) (h7 : a.tmps.getD 7 undef = .int .i64 (kl : Int)) (h8 : a.tmps.getD 8 undef = .int .i64 ((kl + bn b : Nat) : Int)) (h9 : a.tmps.getD 9 undef = .int .i64 (i : Int)) (h12 : a.tmps.getD 12 undef = .bool lm) (hil : i < l.length)
  (h73 : a.tmps.getD 73 undef = .int .u8 (rd l (i : Int))) (hp : plain (rd l (i : Int))) (hT : Trace UK l K kl b lm (i + 1) r)
  (N R : Act → World → Prop) (hn : ∀ (a' : Act) (w' : World) (kl' : Nat) (b' lm' : Bool) (i' : Nat), i < i' → Fr (.slice (some ⟨gk, ok, none⟩) K.length ck) (.pointer (some ⟨w.heap.size, 0, none⟩)) (.pointer (some ⟨w.heap.size + 1, 0, none⟩)) (.int .i64 (l.length : Int)) (.int .i64 (K.length : Int)) (.pointer (some ⟨w.heap.size + 2, 0, none⟩)) a' → a'.tmps.getD 7 undef = .int .i64 (kl' : Int) → a'.tmps.getD 8 undef = .int .i64 ((kl' + bn b' : Nat) : Int) → a'.tmps.getD 9 undef = .int .i64 ((i' : Int) - 1) → a'.tmps.getD 12 undef = .bool lm' → Trace UK l K kl' b' lm' i' r → SW w g o c l b2 n3 w' → N a' w') (hr : ∀ (a' : Act) (w' : World), a'.tmps.size = 283 → a'.defers = [] → a'.tmps.getD 6 undef = .int .i64 r → Below w.heap.size w w' → R a' w') :
  sw4.wp Tryd.prog (Exit.inBlock 4 (QS N R)) a wr := by
 have HROW := Aside0.mk hrow
 have HBY := Aside0.mk hby
 have HKEY := Aside0.mk hkeys
 have HSW := Aside0.mk hSW
 have HN := Aside0.mk hn
 have HR := Aside0.mk hr
 obtain ⟨f, hf, ha⟩ := frame_lit a hfr.size hfr.defers
 have e2_ := (hf 2).trans hfr.e2
 have e3_ := (hf 3).trans hfr.e3
 have e4_ := (hf 4).trans hfr.e4
 have e10_ := (hf 10).trans hfr.e10
 have e11_ := (hf 11).trans hfr.e11
 have e13_ := (hf 13).trans hfr.e13
 have e7_ := (hf 7).trans h7
 have e8_ := (hf 8).trans h8
 have e9_ := (hf 9).trans h9
 have e12_ := (hf 12).trans h12
 have e73_ := (hf 73).trans h73
 rw [e2_, e3_, e4_, e10_, e11_, e13_, e7_, e8_, e9_, e12_, e73_] at ha
 subst ha
 clear hf e2_ e3_ e4_ e10_ e11_ e13_ e7_ e8_ e9_ e12_ e73_ hfr h7 h8 h9 h12 h73 hrow hby hkeys hSW hn hr
 unfold sw4
 conv => arg 2; whnf
 obtain ⟨x, hxx⟩ : ∃ x, rd l (i : Int) = x := ⟨_, rfl⟩
 rw [hxx] at hp ⊢
 unfold plain at hp
 have e1 : (x == 34) = false := beq_eq_false_iff_ne.mpr hp.1
 have e2 : (x == 39) = false := beq_eq_false_iff_ne.mpr hp.2.1
 have e3 : (x == 58) = false := beq_eq_false_iff_ne.mpr hp.2.2.1
 have e4 : (x == 91) = false := beq_eq_false_iff_ne.mpr hp.2.2.2.1
 have e5 : (x == 123) = false := beq_eq_false_iff_ne.mpr hp.2.2.2.2.1
 have e6 : (x == 125) = false := beq_eq_false_iff_ne.mpr hp.2.2.2.2.2
 have HT := Aside0.mk hT
 clear hp hT hxx
 go_wp2
 exact HN.out _ _ kl b lm (i + 1) (Nat.lt_succ_self i) ⟨rfl, rfl, rfl, rfl, rfl, rfl, rfl, rfl⟩ rfl rfl (vint (by omega)) rfl HT.out HSW.out
end Go.Proofs.YtcfhnfjkiljigaaDoor.Jp
end
section
namespace Go.Proofs.YtcfhnfjkiljigaaDoor.Jp
open Go.RowKit Go.Proofs.YtcfhnfjkiljigaaDoorW.PrintWords Go.Proofs.YtcfhnfjkiljigaaDoorW.PrintLast Go.Proofs.YtcfhnfjkiljigaaDoorW.PrintMore
attribute [local go_sem] max2_int min2_int max_two min_two max_three min_three max_four min_four
set_option linter.unusedVariables false
set_option linter.unusedSimpArgs false
set_option maxHeartbeats 64000000 in
set_option maxRecDepth 100000 in
theorem arm_obj (UK : KeyRel) (b2 : Bool) (n3 : Int) (g o c : Nat) (l : List Int) (gk ok ck : Nat) (K : List ByteArray) (r : Int) (w : World) (hrow : Row w g o l) (hby : ∀ x ∈ l, 0 ≤ x ∧ x ≤ 255) (hl : l.length ≤ 1000000) (hc : l.length ≤ c) (hgw : g < w.heap.size) (hkeys : Keys w gk ok K) (hgk : gk < w.heap.size) (hK : K.length ≤ 1000000) (hck : K.length ≤ ck)
  (wr : World) (hSW : SW w g o c l b2 n3 wr) (a : Act) (hfr : Fr (.slice (some ⟨gk, ok, none⟩) K.length ck) (.pointer (some ⟨w.heap.size, 0, none⟩)) (.pointer (some ⟨w.heap.size + 1, 0, none⟩)) (.int .i64 (l.length : Int)) (.int .i64 (K.length : Int)) (.pointer (some ⟨w.heap.size + 2, 0, none⟩)) a) (kl : Nat) (b lm : Bool) (i : Nat) (h7 : a.tmps.getD 7 undef = .int .i64 (kl : Int)) (h8 : a.tmps.getD 8 undef = .int .i64 ((kl + bn b : Nat) : Int)) (h9 : a.tmps.getD 9 undef = .int .i64 (i : Int)) (h12 : a.tmps.getD 12 undef = .bool lm) (hil : i < l.length)
  (h73 : a.tmps.getD 73 undef = .int .u8 123) (hd : (lm = false ∧ ∃ e, Scan 123 125 (l.drop i) 0 0 e ∧ Trace UK l K kl b false (i + e) r) ∨ (b = false ∧ lm = true ∧ kl < K.length ∧ Trace UK l K kl true true (i + 1) r))
  (N R : Act → World → Prop) (hn : ∀ (a' : Act) (w' : World) (kl' : Nat) (b' lm' : Bool) (i' : Nat), i < i' → Fr (.slice (some ⟨gk, ok, none⟩) K.length ck) (.pointer (some ⟨w.heap.size, 0, none⟩)) (.pointer (some ⟨w.heap.size + 1, 0, none⟩)) (.int .i64 (l.length : Int)) (.int .i64 (K.length : Int)) (.pointer (some ⟨w.heap.size + 2, 0, none⟩)) a' → a'.tmps.getD 7 undef = .int .i64 (kl' : Int) → a'.tmps.getD 8 undef = .int .i64 ((kl' + bn b' : Nat) : Int) → a'.tmps.getD 9 undef = .int .i64 ((i' : Int) - 1) → a'.tmps.getD 12 undef = .bool lm' → Trace UK l K kl' b' lm' i' r → SW w g o c l b2 n3 w' → N a' w') (hr : ∀ (a' : Act) (w' : World), a'.tmps.size = 283 → a'.defers = [] → a'.tmps.getD 6 undef = .int .i64 r → Below w.heap.size w w' → R a' w') :
  sw4.wp Tryd.prog (Exit.inBlock 4 (QS N R)) a wr := by
 have HROW := Aside0.mk hrow
 have HBY := Aside0.mk hby
 have HKEY := Aside0.mk hkeys
 have HSW := Aside0.mk hSW
 have HN := Aside0.mk hn
 have HR := Aside0.mk hr
 obtain ⟨f, hf, ha⟩ := frame_lit a hfr.size hfr.defers
 have e2_ := (hf 2).trans hfr.e2
 have e3_ := (hf 3).trans hfr.e3
 have e4_ := (hf 4).trans hfr.e4
 have e10_ := (hf 10).trans hfr.e10
 have e11_ := (hf 11).trans hfr.e11
 have e13_ := (hf 13).trans hfr.e13
 have e7_ := (hf 7).trans h7
 have e8_ := (hf 8).trans h8
 have e9_ := (hf 9).trans h9
 have e12_ := (hf 12).trans h12
 have e73_ := (hf 73).trans h73
 rw [e2_, e3_, e4_, e10_, e11_, e13_, e7_, e8_, e9_, e12_, e73_] at ha
 subst ha
 clear hf e2_ e3_ e4_ e10_ e11_ e13_ e7_ e8_ e9_ e12_ e73_ hfr h7 h8 h9 h12 h73 hrow hby hkeys hSW hn hr
 unfold sw4
 conv => arg 2; whnf
 have d0 := HSW.out.d0
 have d1 := HSW.out.d1
 have d2 := HSW.out.d2
 have d3 := HSW.out.d3
 have xi := HROW.out.below HSW.out.bel i hil
 rcases hd with ⟨rfl, e0, hs, h2⟩ | ⟨rfl, rfl, hk, h2⟩
 ·have HT := Aside0.mk h2
  clear h2
  have hel : i + e0 ≤ l.length ∧ 0 < e0 := by have := hs.le; rw [List.length_drop] at this; omega
  have HBE : Aside0 (∀ W1, Row W1 g o l → Calls Tryd.prog 59 #[.agg #[.bool false, .bool b2, .int .i64 n3], .slice (some ⟨g, o + i, none⟩) (l.length - i) (c - i), .int .u8 123, .int .u8 125] W1 fun e w' => e = .returned (.int .i64 (e0 : Int)) ∧ Below W1.heap.size W1 w') := ⟨fun W1 hr => by
   have := block_calls b2 n3 123 125 (by decide) g (o + i) (c - i) (l.drop i) e0 W1 (hr.drop i) (fun x hx => HBY.out x (List.mem_of_mem_drop hx)) (by rw [List.length_drop]; omega) (by rw [List.length_drop]; omega) hs
   rw [List.length_drop] at this
   exact this⟩
  have HBE1 := Aside0.mk (HBE.out wr.drew ((HROW.out.below HSW.out.bel).below (below_drew (Below.refl _ _))))
  have y1 : ((e0 : Int) == -1) = false := beq_eq_false_iff_ne.mpr (by omega)
  have y6 : (i : Int) ≤ 1000000 := by omega
  have y7 : (e0 : Int) ≤ 1000000 := by omega
  have y8 : (0 : Int) < (e0 : Int) := by omega
  have za1 : ((i : Int) ≤ (l.length : Int)) = True := eq_true (by omega)
  have za2 : (i ≤ l.length) = True := eq_true (by omega)
  have za3 : (c = i) = False := eq_false (by omega)
  have za4 : (c - i = 0) = False := eq_false (by omega)
  have za5 : (c ≤ i) = False := eq_false (by omega)
  have za6 : (i ≤ c) = True := eq_true (by omega)
  have za7 : (i < l.length) = True := eq_true (by omega)
  have za8 : ((i : Int) < (l.length : Int)) = True := eq_true (by omega)
  clear hs HBE
  go_upto_region 57 with fail
  go_region_with (go_at_call 59; refine HBE1.out.mono ?_; rintro e w4 ⟨rfl, hb4⟩; have HS4 := Aside0.mk (HSW.out.step (below_step (below_drew (Below.refl _ _)) hb4)); clear hb4)
  all_goals go_wp2
  all_goals exact HN.out _ _ kl b false (i + e0) (by omega) ⟨rfl, rfl, rfl, rfl, rfl, rfl, rfl, rfl⟩ rfl rfl (vint (by omega)) rfl HT.out HS4.out
 ·have HT := Aside0.mk h2
  have y7 : (kl : Int) ≤ 1000000 := by omega
  clear h2
  have hbn : ((kl + bn false : Nat) : Int) = (kl : Int) := rfl
  rw [hbn]
  go_wp2
  exact HN.out _ _ kl true true (i + 1) (by omega) ⟨rfl, rfl, rfl, rfl, rfl, rfl, rfl, rfl⟩ rfl (vint (bn_true kl).symm) (vint (by omega)) rfl HT.out HSW.out
end Go.Proofs.YtcfhnfjkiljigaaDoor.Jp
end
