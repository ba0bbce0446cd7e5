/- Proved here: parts of the law FnJpGetUnsafe (the texts JpSpec2FnJpGetUnsafe PureFnJpGetUnsafe LaidJp), no conditions of their own beyond what each theorem says. -/
import Derived.Test.YtcfhnfjkiljigaaDoorPa19
import Derived.Test.YtcfhnfjkiljigaaDoorRows
import Derived.Test.YtcfhnfjkiljigaaDoorPa2
import Derived.LaidLaws
import Derived.LaidMore
import Derived.Lib.LaidTab
import Derived.ProofKit
import Derived.Stop.LaidErr
section
namespace Go.Proofs.YtcfhnfjkiljigaaDoor.NameXFnJpGetUnsafe
open Go.RowKit Go.Proofs.YtcfhnfjkiljigaaDoor Go.Proofs.YtcfhnfjkiljigaaDoor.Jp Go.Proofs.YtcfhnfjkiljigaaDoor.Base Go.Proofs.YtcfhnfjkiljigaaDoor.XFnJpGetUnsafe Go.Proofs.YtcfhnfjkiljigaaDoor.UnescXFnJpGetUnsafe Go.Proofs.YtcfhnfjkiljigaaDoorW.PrintWords Go.Proofs.YtcfhnfjkiljigaaDoorW.PrintLast
open Go.Proofs.YtcfhnfjkiljigaaDoor.ReadXFnJpGetUnsafe (Tot SP PL tV tM tE nb qE Mem Leads Names ValIs Dl tV_is tV_obj tV_arr tM_mem tE_els qE_ends leads_ta obj_step arr_step nb_le nb_ge drop_cons_facts blanks_nb value_tree)
set_option linter.unusedVariables false
set_option linter.unusedSimpArgs false
variable {s : ByteArray}
/-- A value of the reference's tree, as it stands in the text. -/
def At (s : ByteArray) (pl : PL) : Prop := ∃ f p e, tV s f p = some (pl, e) ∧ p ≤ s.size
theorem mem_facts {q z : Nat} {ns : List SP} {ks : List PL} (h : Mem s q z ns ks) : (∀ nm ∈ ns, NOk s nm) ∧ ns.length = ks.length ∧ ns.length + q ≤ z ∧ ∀ kid ∈ ks, At s kid := by
 induction h with
 | @last q x j a e z f pl h34 hq hj hc ha hv hk hz =>
  have hml := (Mem.last h34 hq hj hc ha hv hk hz).lt
  have hjs := ReadXFnJpGetUnsafe.bt_lt hc (by decide)
  refine ⟨fun nm hm => ?_, rfl, by simp only [List.length_singleton]; omega, fun kid hm => ?_⟩
  ·obtain rfl := List.mem_singleton.mp hm
   exact ⟨q, x, rfl, h34, hq⟩
  ·obtain rfl := List.mem_singleton.mp hm
   exact ⟨f, a, e, hv, by rw [← ha]; exact nb_le _ (by omega)⟩
 | @more q x j a e k z f pl ns ks h34 hq hj hc ha hv hk hz r ih =>
  have hjs := ReadXFnJpGetUnsafe.bt_lt hc (by decide)
  have has : a ≤ s.size := by rw [← ha]; exact nb_le _ (by omega)
  have i1 := (tV_is has hv).lt
  have g1 := nb_ge (s := s) (q + x + 2)
  have g2 := nb_ge (s := s) (j + 1)
  have g3 := nb_ge (s := s) e
  have g4 := nb_ge (s := s) (k + 1)
  simp only [] at i1
  refine ⟨fun nm hm => ?_, by simp [ih.2.1], by simp only [List.length_cons]; have := ih.2.2.1; omega, fun kid hm => ?_⟩
  ·rcases List.mem_cons.mp hm with rfl | hm
   ·exact ⟨q, x, rfl, h34, hq⟩
   ·exact ih.1 nm hm
  ·rcases List.mem_cons.mp hm with rfl | hm
   ·exact ⟨f, a, e, hv, has⟩
   ·exact ih.2.2.2 kid hm
theorem at_obj {pl : PL} (h : At s pl) (hk : pl.f0 = 6) : (∀ nm ∈ pl.f3, NOk s nm) ∧ pl.f3.length = pl.f4.length ∧ pl.f3.length ≤ s.size ∧ ∀ kid ∈ pl.f4, At s kid := by
 obtain ⟨f, p, e, hv, hp⟩ := h
 obtain ⟨c1, h | ⟨f1, hm⟩⟩ := tV_obj hv hk
 ·rw [h.1, h.2]
  exact ⟨fun _ h => (by cases h), rfl, Nat.zero_le _, fun _ h => (by cases h)⟩
 ·have hps := ReadXFnJpGetUnsafe.bt_lt c1 (by decide)
  obtain ⟨z, hz, h1, h2, hmem⟩ := tM_mem f1 _ _ (nb_le (p + 1) (by omega)) hm
  obtain ⟨m1, m2, m3, m4⟩ := mem_facts hmem
  exact ⟨m1, m2, by simp only [] at m3; omega, m4⟩
theorem at_arr {pl : PL} (h : At s pl) (hk : pl.f0 = 5) : pl.f4.length ≤ s.size ∧ ∀ kid ∈ pl.f4, At s kid := by
 obtain ⟨f, p, e, hv, hp⟩ := h
 obtain ⟨c1, ⟨h, -⟩ | ⟨c3, f1, hm⟩⟩ := tV_arr hv hk
 ·rw [h]
  exact ⟨Nat.zero_le _, fun _ h => (by cases h)⟩
 ·have hps := ReadXFnJpGetUnsafe.bt_lt c1 (by decide)
  obtain ⟨z, hz, h1, h2, h3, hels, hkids⟩ := tE_els f1 _ _ (nb_le (p + 1) (by omega)) hm
  have hlen := hels.len
  rw [List.length_map, bytesOf_length] at hlen
  refine ⟨by simp only [] at hlen; omega, fun kid hk => ?_⟩
  obtain ⟨f', a, e', k1, k2, k3, k4, k5⟩ := hkids kid hk
  exact ⟨f', a, e', k1, k5⟩
/-- One key leads from a value to another. -/
def Stp (s : ByteArray) (pl : PL) (key : ByteArray) (kid : PL) : Prop :=
 (pl.f0 = 6 ∧ ∃ (i : Nat) (nm : SP), pl.f3[i]? = some nm ∧ pl.f4[i]? = some kid ∧ nameOf s nm = key ∧ ∀ j : Nat, j < i → ∀ nm' : SP, pl.f3[j]? = some nm' → nameOf s nm' ≠ key) ∨ (pl.f0 = 5 ∧ ∃ t : Nat, IdxKey key t ∧ pl.f4[t]? = some kid)
abbrev PR := Int × Int × Int × List SP × List PL × Bool
def prOf (pl : PL) : PR := (pl.f0, pl.f1, pl.f2, pl.f3, pl.f4, true)
def StepIs (s : ByteArray) (pl : PL) (key : ByteArray) (r : PR) : Prop := r.2.2.2.2.2 = false ∨ ∃ kid, r = prOf kid ∧ At s kid ∧ Stp s pl key kid
theorem step_tot (hs : s.size ≤ 1000000) {pl : PL} (h : At s pl) (key : ByteArray) (hk : key.size ≤ 2147483647) : Tot (fun k => spec_Step.f k s pl.f0 pl.f1 pl.f2 pl.f3 pl.f4 key) (StepIs s pl key) := by
 have no : StepIs s pl key (0, 0, 0, [], [], false) := .inl rfl
 unfold spec_Step.f
 refine Tot.ite (fun c6 => ?_) fun c6 => ?_
 ·obtain ⟨h1, h2, h3, h4⟩ := at_obj h c6
  refine Tot.bind (named_tot hs pl.f0 pl.f1 pl.f2 pl.f3 pl.f4 key h1 (by omega)) fun r hr => ?_
  rcases hr with ⟨rfl, -⟩ | ⟨j, nm, -, rfl, hj, hn, hne⟩
  ·refine Tot.ite (fun _ => Tot.ret no) fun c => absurd (by decide) c
  ·have hjl : j < pl.f4.length := by have := (List.getElem?_eq_some_iff.mp hj).1; omega
   refine Tot.ite (fun c => absurd c (by omega)) fun _ => ?_
   refine Tot.ite (fun _ => ?_) fun c => absurd (by omega) c
   refine Tot.ite (fun _ => ?_) fun c => absurd (by omega) c
   have hg : pl.f4[j]? = some pl.f4[j] := List.getElem?_eq_getElem hjl
   rw [rd27 hg]
   exact Tot.ret (.inr ⟨pl.f4[j], rfl, h4 _ (List.getElem_mem hjl), .inl ⟨c6, j, nm, hj, hg, hn, fun j' hj' nm' h' => hne j' (Nat.zero_le _) hj' nm' h'⟩⟩)
 ·refine Tot.ite (fun c5 => ?_) fun c5 => ?_
  ·obtain ⟨h1, h2⟩ := at_arr h c5
   have j0 : ∀ (x9 : Int) (b : Bool), (b = true → 0 ≤ x9 ∧ x9 < (pl.f4.length : Int) ∧ IdxKey key x9.toNat) → Tot (fun k => spec_Step.j0 k (-1) x9 b pl.f0 pl.f1 pl.f2 pl.f3 pl.f4) (StepIs s pl key) := fun x9 b hb => by
    refine Tot.succ (fun k => by rw [spec_Step.j0]) ?_
    refine Tot.ite (fun cb => ?_) fun _ => ?_
    ·obtain ⟨h3, h4, h5⟩ := hb cb
     refine Tot.ite (fun c => absurd c (by omega)) fun _ => ?_
     refine Tot.ite (fun _ => ?_) fun c => absurd h3 c
     refine Tot.ite (fun _ => ?_) fun c => absurd h4 c
     obtain ⟨j, rfl⟩ : ∃ j : Nat, x9 = (j : Int) := ⟨x9.toNat, by omega⟩
     have hjl : j < pl.f4.length := by omega
     have hg : pl.f4[j]? = some pl.f4[j] := List.getElem?_eq_getElem hjl
     rw [rd27 hg]
     rw [Int.toNat_natCast] at h5
     exact Tot.ret (.inr ⟨pl.f4[j], rfl, h2 _ (List.getElem_mem hjl), .inr ⟨c5, j, h5, hg⟩⟩)
    ·refine Tot.ite (fun _ => Tot.ret no) fun c => absurd (by decide) c
   refine Tot.bind (bracket_tot key hk) fun r hr => ?_
   refine Tot.ite (fun cb => ?_) fun _ => j0 _ false fun h => by cases h
   obtain ⟨h3, h4⟩ := hr cb
   by_cases hlt : r.1 < (pl.f4.length : Int)
   ·rw [decide_eq_true hlt]
    exact j0 _ true fun _ => ⟨h3, hlt, h4 (by omega)⟩
   ·rw [decide_eq_false hlt]
    exact j0 _ false fun h => by cases h
  ·refine Tot.ite (fun _ => Tot.ret no) fun c => absurd (by decide) c
theorem rdk {ks : List ByteArray} {i : Nat} : rdOf ByteArray.empty ks (i : Int) = ks.getD i ByteArray.empty := by unfold rdOf; rw [Int.toNat_natCast]
section
variable (keys : List ByteArray)
theorem once_l1 (hs : s.size ≤ 1000000) (key : ByteArray) (i : Int) (a b c : Int) (ns : List SP) (ks : List PL) (hn : ∀ nm ∈ ns, NOk s nm) (hl : ns.length ≤ 1000000) (fin : ∀ cnt : Int, Tot (fun k => if cnt > 1 then some false else ((spec_Step.f k s a b c ns ks key).bind fun t => if t.2.2.2.2.2 = true then (spec_Once.l0 k s keys (keys.length : Int) (wrap64 (i + 1)) t.1 t.2.1 t.2.2.1 t.2.2.2.1 t.2.2.2.2.1) else some true)) fun _ => True) :
  ∀ (m j : Nat) (cnt : Int), ns.length - j ≤ m → j ≤ ns.length → 0 ≤ cnt → cnt ≤ j → Tot (fun k => spec_Once.l1 k s key cnt (j : Int) keys (keys.length : Int) i a b c ns ks) fun _ => True
 | m, j, cnt, hm, hj, h0, h1 => by
  refine Tot.succ (fun k => by rw [spec_Once.l1]) ?_
  refine Tot.ite (fun c1 => ?_) fun _ => fin cnt
  have hlt : j < ns.length := by omega
  obtain ⟨m, rfl⟩ : ∃ m', m = m' + 1 := ⟨m - 1, by omega⟩
  have hg : ns[j]? = some ns[j] := List.getElem?_eq_getElem hlt
  obtain ⟨nm, hnm⟩ : ∃ nm, ns[j] = nm := ⟨_, rfl⟩
  rw [hnm] at hg
  have hu := unq_name hs (hn nm (List.mem_of_getElem? hg))
  rw [rd65 hg]
  refine Tot.ite (fun _ => ?_) fun c => absurd (by omega) c
  refine Tot.ite (fun _ => ?_) fun c => absurd hu.1.1 c
  refine Tot.ite (fun _ => ?_) fun c => absurd hu.1.2.1 c
  refine Tot.ite (fun _ => ?_) fun c => absurd hu.1.2.2 c
  refine Tot.bind (tot_ev (Q := fun _ => True) hu.2 trivial) fun r _ => ?_
  rw [w64 (i := (j : Int) + 1) (by omega) (by omega), w64 (i := cnt + 1) (by omega) (by omega), show (j : Int) + 1 = ((j + 1 : Nat) : Int) by omega]
  refine Tot.ite (fun _ => ?_) fun _ => ?_
  ·exact once_l1 hs key i a b c ns ks hn hl fin m (j + 1) (cnt + 1) (by omega) (by omega) (by omega) (by omega)
  ·exact once_l1 hs key i a b c ns ks hn hl fin m (j + 1) cnt (by omega) (by omega) h0 (by omega)
 termination_by m => m
variable {keys}
theorem once_l0 (hs : s.size ≤ 1000000) (hks : ∀ key ∈ keys, key.size ≤ 2147483647) (hkl : keys.length ≤ 2147483647) : ∀ (m i : Nat) (pl : PL), keys.length - i ≤ m → i ≤ keys.length → At s pl → Tot (fun k => spec_Once.l0 k s keys (keys.length : Int) (i : Int) pl.f0 pl.f1 pl.f2 pl.f3 pl.f4) fun _ => True
 | m, i, pl, hm, hi, hat => by
  refine Tot.succ (fun k => by rw [spec_Once.l0]) ?_
  refine Tot.ite (fun c1 => ?_) fun _ => Tot.ret trivial
  have hlt : i < keys.length := by omega
  obtain ⟨m, rfl⟩ : ∃ m', m = m' + 1 := ⟨m - 1, by omega⟩
  have hkey : keys.getD i ByteArray.empty ∈ keys := by
   rw [List.getD_eq_getElem?_getD, List.getElem?_eq_getElem hlt]
   exact List.getElem_mem hlt
  refine Tot.ite (fun _ => ?_) fun c => absurd (by omega) c
  refine Tot.ite (fun _ => ?_) fun c => absurd (by omega) c
  rw [rdk]
  obtain ⟨key, hke⟩ : ∃ key, keys.getD i ByteArray.empty = key := ⟨_, rfl⟩
  rw [hke] at hkey ⊢
  have go : Tot (fun k => (spec_Step.f k s pl.f0 pl.f1 pl.f2 pl.f3 pl.f4 key).bind fun t => if t.2.2.2.2.2 = true then (spec_Once.l0 k s keys (keys.length : Int) (wrap64 ((i : Int) + 1)) t.1 t.2.1 t.2.2.1 t.2.2.2.1 t.2.2.2.2.1) else some true) fun _ => True := by
   refine Tot.bind (step_tot hs hat key (hks key hkey)) fun r hr => ?_
   rcases hr with hf | ⟨kid, rfl, hk, -⟩
   ·refine Tot.ite (fun c => ?_) fun _ => Tot.ret trivial
    rw [hf] at c; cases c
   ·refine Tot.ite (fun _ => ?_) fun c => absurd rfl c
    rw [w64 (i := (i : Int) + 1) (by omega) (by omega), show (i : Int) + 1 = ((i + 1 : Nat) : Int) by omega]
    exact once_l0 hs hks hkl m (i + 1) kid (by omega) (by omega) hk
  refine Tot.ite (fun c6 => ?_) fun _ => go
  obtain ⟨h1, h2, h3, h4⟩ := at_obj hat c6
  exact once_l1 keys hs key (i : Int) pl.f0 pl.f1 pl.f2 pl.f3 pl.f4 h1 (by omega) (fun cnt => Tot.ite (fun _ => Tot.ret trivial) fun _ => go) pl.f3.length 0 0 (by omega) (Nat.zero_le _) (Int.le_refl _) (Int.le_refl _)
 termination_by m => m
def FoundIs (s : ByteArray) (pl : PL) (ks : List ByteArray) (r : PR) : Prop := r.2.2.2.2.2 = true → ∃ pl', r = prOf pl' ∧ Leads (nameOf s) pl ks pl'
theorem found_l0 (hs : s.size ≤ 1000000) (hks : ∀ key ∈ keys, key.size ≤ 2147483647) (hkl : keys.length ≤ 2147483647) : ∀ (m i : Nat) (pl : PL), keys.length - i ≤ m → i ≤ keys.length → At s pl → Tot (fun k => laws_jpFound.l0 k s keys i pl.f0 pl.f1 pl.f2 pl.f3 pl.f4) (FoundIs s pl (keys.drop i))
 | m, i, pl, hm, hi, hat => by
  have no : FoundIs s pl (keys.drop i) (0, 0, 0, [], [], false) := fun h => by cases h
  refine Tot.succ (fun k => by rw [laws_jpFound.l0]) ?_
  refine Tot.ite (fun hlt => ?_) fun c1 => ?_
  ·obtain ⟨m, rfl⟩ : ∃ m', m = m' + 1 := ⟨m - 1, by omega⟩
   have hkey : keys.getD i ByteArray.empty ∈ keys := by
    rw [List.getD_eq_getElem?_getD, List.getElem?_eq_getElem hlt]
    exact List.getElem_mem hlt
   obtain ⟨key, hke⟩ : ∃ key, keys.getD i ByteArray.empty = key := ⟨_, rfl⟩
   have hdrop : keys.drop i = key :: keys.drop (i + 1) := by
    rw [List.drop_eq_getElem_cons hlt, ← hke, List.getD_eq_getElem?_getD, List.getElem?_eq_getElem hlt]; rfl
   rw [hke] at hkey ⊢
   have hji : Tot (fun _ => if pl.f0 = 6 then laws_jpIndex.f key else some false) fun _ => True := by
    refine Tot.ite (fun _ => ?_) fun _ => Tot.ret trivial
    unfold laws_jpIndex.f
    refine Tot.ite (fun _ => Tot.ret trivial) fun hne => ?_
    refine Tot.ite (fun _ => Tot.ret trivial) fun c => absurd ?_ c
    have : key.size ≠ 0 := fun h => hne (by
     rw [ByteArray.toList_eq]
     exact List.eq_nil_of_length_eq_zero (by rw [Array.length_toList]; exact h))
    omega
   refine Tot.bind hji fun b _ => ?_
   refine Tot.ite (fun _ => Tot.ret no) fun _ => ?_
   refine Tot.bind (step_tot hs hat key (hks key hkey)) fun r hr => ?_
   rcases hr with hf | ⟨kid, rfl, hk, hst⟩
   ·refine Tot.ite (fun c => ?_) fun _ => Tot.ret no
    rw [hf] at c; cases c
   ·refine Tot.ite (fun _ => ?_) fun c => absurd rfl c
    refine (found_l0 hs hks hkl m (i + 1) kid (by omega) (by omega) hk).mono fun r hr h => ?_
    obtain ⟨pl', e, hL⟩ := hr h
    refine ⟨pl', e, ?_⟩
    rw [hdrop]
    rcases hst with ⟨h6, i', nm, h1, h2, h3, h4⟩ | ⟨h5, t, h1, h2⟩
    ·exact .obj h6 h1 h2 h3 h4 hL
    ·exact .arr h5 h1 h2 hL
  ·refine Tot.ret fun _ => ⟨pl, rfl, ?_⟩
   rw [List.drop_of_length_le (by omega)]
   exact .nil
 termination_by m => m
/-- The value of a text, as the reference reads it. -/
def Root (s : ByteArray) (pl : PL) : Prop := ∃ f e, tV s f (nb s 0) = some (pl, e) ∧ nb s e = s.size
theorem places_tot' (a0 : ByteArray) : Tot (fun k => laws_jpPlaces.f k a0) (fun r => r.2.2.2.2.2 = true → a0.size ≤ 65536 ∧ ∃ pl, r = prOf pl ∧ Root a0 pl) := by
 unfold laws_jpPlaces.f
 refine Tot.ite (fun _ => Tot.ret fun h => by cases h) fun c => ?_
 have hs : a0.size ≤ 1000000 := by omega
 have hP : Tot (fun k => spec_Places.f k a0) (fun r => r.2.2.2.2.2 = true → ∃ pl, r = prOf pl ∧ Root a0 pl) := by
  unfold spec_Places.f
  have hb := blanks_nb hs 0 (Nat.zero_le _)
  rw [show ((0 : Nat) : Int) = 0 from rfl] at hb
  refine Tot.bind hb fun r hr => ?_
  subst hr
  refine Tot.bind (value_tree hs (nb a0 0) (nb_le 0 (Nat.zero_le _)) (2 * a0.size + 3) (Nat.le_refl _)) fun r hr => ?_
  cases hv : tV a0 (2 * a0.size + 3) (nb a0 0) with
  | none =>
   rw [hv] at hr
   refine Tot.ite (fun c => ?_) fun _ => Tot.ret fun h => by cases h
   rw [hr.1] at c; cases c
  | some v =>
   rw [hv] at hr
   obtain ⟨rfl, h2, h3⟩ := hr
   refine Tot.ite (fun _ => ?_) fun c => absurd rfl c
   refine Tot.bind (blanks_nb hs v.2 h3) fun r hr => ?_
   subst hr
   refine Tot.ite (fun ce => Tot.ret fun _ => ⟨v.1, rfl, _, v.2, hv, by simp only [] at ce; omega⟩) fun _ => Tot.ret fun h => by cases h
 refine Tot.bind hP fun r hr => Tot.ret fun h => ⟨by omega, ?_⟩
 obtain ⟨pl, e, h1⟩ := hr h
 exact ⟨pl, e, h1⟩
theorem found_tot (hks : ∀ key ∈ keys, key.size ≤ 2147483647) (hkl : keys.length ≤ 2147483647) (a0 : ByteArray) : Tot (fun k => laws_jpFound.f k a0 keys) (fun r => r.2.2.2.2.2 = true → a0.size ≤ 65536 ∧ ∃ pl pl', r = prOf pl' ∧ Root a0 pl ∧ Leads (nameOf a0) pl keys pl') := by
 unfold laws_jpFound.f
 refine Tot.ite (fun _ => ?_) fun c => absurd (by omega) c
 refine Tot.bind (places_tot' a0) fun r hr => ?_
 refine Tot.ite (fun ct => ?_) fun _ => Tot.ret fun h => by cases h
 obtain ⟨hs, pl, rfl, hroot⟩ := hr ct
 have hat : At a0 pl := by
  obtain ⟨f, e, hv, -⟩ := hroot
  exact ⟨f, _, e, hv, nb_le 0 (Nat.zero_le _)⟩
 refine Tot.bind (Q := fun _ => True) (by unfold spec_Once.f; exact once_l0 (by omega) hks hkl keys.length 0 pl (by omega) (Nat.zero_le _) hat) fun b _ => ?_
 refine Tot.ite (fun _ => ?_) fun _ => Tot.ret fun h => by cases h
 refine (found_l0 (by omega) hks hkl keys.length 0 pl (by omega) (Nat.zero_le _) hat).mono fun r hr h => ?_
 obtain ⟨pl', e, hL⟩ := hr h
 rw [List.drop_zero] at hL
 exact ⟨hs, pl, pl', e, hroot, hL⟩
end
/-- Keys that lead somewhere are no more than the text is long. -/
theorem leads_len (hs : s.size ≤ 1000000) {pl pl' : PL} {keys : List ByteArray} (h : Leads (nameOf s) pl keys pl') : ∀ (f p e : Nat), tV s f p = some (pl, e) → p ≤ s.size → keys.length ≤ e := by
 induction h with
 | nil => intro f p e _ _; exact Nat.zero_le _
 | @obj pl pl' kid nm key keys i hk hn hc he hne r ih =>
  intro f p e hv hp
  have hle := (tV_is hp hv).le
  simp only [] at hle
  obtain ⟨j, a, f', e', ha, hv', he', hj, hdl, has, t1, t2⟩ := obj_step (UK := impl_JpGetUnsafeString.UK) (K := key :: keys) (kl := 0) (d := 0) (m := s.size) (names_ok hs) hv hp hk hn hc he hne rfl (Nat.zero_le _) (by omega) (by omega)
  have := ih f' a e' hv' has
  simp only [List.length_cons]
  omega
 | @arr pl pl' kid key keys t hk hx hc r ih =>
  intro f p e hv hp
  have hle := (tV_is hp hv).le
  simp only [] at hle
  obtain ⟨a, f', e', hv', he', hpa, hae, hdl, hnb, t1, t2⟩ := arr_step (UK := impl_JpGetUnsafeString.UK) (K := key :: keys) (kl := 0) (d := 0) (m := s.size) hv hp hk hx hc rfl (Nat.zero_le _) (by omega) (by omega)
  have := ih f' a e' hv' (by omega)
  simp only [List.length_cons]
  omega
/-- Where the reference finds a value, the search does, too. -/
theorem found_ok (hs : s.size ≤ 65536) {pl pl' : PL} {keys : List ByteArray} (hr : Root s pl) (h : Leads (nameOf s) pl keys pl') : impl_JpGetUnsafeString.Ok s keys pl'.f0 pl'.f1 pl'.f2 ∧ 0 ≤ pl'.f1 ∧ pl'.f1 < pl'.f2 ∧ pl'.f2 ≤ (s.size : Int) ∧ (pl'.f0 = 4 → pl'.f1 + 2 ≤ pl'.f2) := by
 obtain ⟨f, e, hv, hnb⟩ := hr
 have hp0 := nb_le (s := s) 0 (Nat.zero_le _)
 have hlen := leads_len (by omega) h f _ e hv hp0
 have hi := tV_is hp0 hv
 have hle := hi.le
 have hlt0 := hi.lt
 simp only [] at hle hlt0
 have hd : Dl s e := ReadXFnJpGetUnsafe.dl_end hnb
 -- the value that is found
 have main : ∃ p e', ((keys = [] ∧ Fj.ws (bytesOf s) = p) ∨ ∃ s0 : Nat, Jp.Trace impl_JpGetUnsafeString.UK (bytesOf s) keys 0 false true 0 (s0 : Int) ∧ s0 < (bytesOf s).length ∧ s0 + Fj.ws ((bytesOf s).drop s0) = p) ∧ ValIs s p (pl', e') ∧ Dl s e' := by
  by_cases hk : keys = []
  ·subst hk
   cases h with
   | nil =>
    refine ⟨nb s 0, e, .inl ⟨rfl, ?_⟩, hi, hd⟩
    unfold nb
    rw [Nat.zero_add]
    show _ = Fj.ws ((bytesOf s).drop 0)
    rw [List.drop_zero]
  ·obtain ⟨r, f', e', h1, h2, h3, h4, h5, h6⟩ := leads_ta (UK := impl_JpGetUnsafeString.UK) (names_ok (by omega)) h f _ e 0 0 s.size keys hv hp0 rfl (Nat.zero_le _) (by omega) (by omega) hk
   have hL : 0 + s.size ≤ (bytesOf s).length := by rw [bytesOf_length]; omega
   have hb := over_blanks (UK := impl_JpGetUnsafeString.UK) (K := keys) (kl := 0) (d := 0) (m := s.size) hL false true (p := 0) (a := nb s 0) (ReadXFnJpGetUnsafe.nb_ws 0) (Nat.le_refl _) (by omega)
   have ht := hb _ h1
   simp only [Nat.sub_zero] at ht
   have hw : win (bytesOf s) 0 s.size = bytesOf s := by
    have := win_all (bytesOf s)
    rwa [bytesOf_length] at this
   rw [hw] at ht
   have hnr := nb_le (s := s) r h6
   have hi' := tV_is hnr h3
   have hlt' := hi'.lt
   have hle' := hi'.le
   have hge := nb_ge (s := s) r
   simp only [] at hlt' hle'
   exact ⟨nb s r, e', .inr ⟨r, ht, by rw [bytesOf_length]; omega, by rw [Nat.add_comm]; exact ReadXFnJpGetUnsafe.nb_ws r⟩, hi', h5⟩
 obtain ⟨p, e', hway, hv', hd'⟩ := main
 have hb := hv'.beg
 have he := hv'.end_
 have hlt := hv'.lt
 have hle2 := hv'.le
 have hty := hv'.ty hd'
 simp only [] at hb he hlt hle2 hty
 refine ⟨⟨by omega, by omega, ?_⟩, by omega, by omega, by omega, fun h4 => ?_⟩
 ·rw [hb, he, Int.toNat_natCast, show ((e' : Int) - (p : Int)).toNat = e' - p by omega]
  exact ⟨hway, hty⟩
 ·have := hty.lt.2.2.1 (by show kindOf pl'.f0 = 1; rw [h4]; rfl)
  omega
end Go.Proofs.YtcfhnfjkiljigaaDoor.NameXFnJpGetUnsafe
end
section
namespace Go.Proofs.YtcfhnfjkiljigaaDoor.XFnJpGetUnsafe
open Go.RowKit Go.Proofs.YtcfhnfjkiljigaaDoor.Base Go.Proofs.YtcfhnfjkiljigaaDoorW.PrintWords Go.Proofs.YtcfhnfjkiljigaaDoorW.PrintLast
open Go.Proofs.YtcfhnfjkiljigaaDoor.ReadXFnJpGetUnsafe (Tot)
open Go.Proofs.YtcfhnfjkiljigaaDoor.NameXFnJpGetUnsafe (found_tot found_ok rdk)
set_option linter.unusedVariables false
set_option linter.unusedSimpArgs false
theorem fits_l0 (keys : List ByteArray) (hl : keys.length ≤ 2147483647) : ∀ (m i : Nat), keys.length - i ≤ m → i ≤ keys.length → (∀ j, j < i → (keys.getD j ByteArray.empty).size ≤ 2147483647) → Tot (fun k => laws_zzFits1.l0 k keys (keys.length : Int) (i : Int)) fun r => r = true → ∀ j, j < keys.length → (keys.getD j ByteArray.empty).size ≤ 2147483647
 | m, i, hm, hi, hp => by
  refine Tot.succ (fun k => by rw [laws_zzFits1.l0]) ?_
  refine Tot.ite (fun c1 => ?_) fun c1 => Tot.ret fun _ j hj => hp j (by omega)
  obtain ⟨m, rfl⟩ : ∃ m', m = m' + 1 := ⟨m - 1, by omega⟩
  refine Tot.ite (fun _ => ?_) fun c => absurd (by omega) c
  refine Tot.ite (fun _ => ?_) fun c => absurd (by omega) c
  rw [rdk]
  refine Tot.ite (fun _ => Tot.ret fun h => by cases h) fun hs => ?_
  rw [show wrap64 ((i : Int) + 1) = ((i + 1 : Nat) : Int) by unfold wrap64; omega]
  refine fits_l0 keys hl m (i + 1) (by omega) (by omega) fun j hj => ?_
  by_cases e : j = i
  ·subst e; omega
  ·exact hp j (by omega)
 termination_by m => m
theorem fits_tot (keys : List ByteArray) : Tot (fun k => laws_zzFits1.f k keys) fun r => r = true → keys.length ≤ 2147483647 ∧ ∀ key ∈ keys, key.size ≤ 2147483647 := by
 unfold laws_zzFits1.f
 refine Tot.ite (fun _ => Tot.ret fun h => by cases h) fun c => ?_
 refine (fits_l0 keys (by omega) keys.length 0 (by omega) (Nat.zero_le _) fun j hj => by omega).mono fun r hr h => ⟨by omega, fun key hk => ?_⟩
 obtain ⟨j, hj, rfl⟩ := List.getElem_of_mem hk
 have := hr h j hj
 rw [List.getD_eq_getElem?_getD, List.getElem?_eq_getElem hj] at this
 exact this
theorem val_raw (s : ByteArray) (kind b e : Int) (ns : List S65) (ks : List S27) (h0 : 0 ≤ b) (h1 : b < e) (h2 : e ≤ (s.size : Int)) (hs : s.size ≤ 65536) (h4 : kind = 4 → b + 2 ≤ e) :
  spec_Raw.f s kind b e ns ks = some (impl_JpGetUnsafeString.val s kind b e) := by
 have cut : ∀ i j : Nat, i ≤ j → j ≤ s.size → s.extract i j = strOfNums (((bytesOf s).drop i).take (j - i)) := fun i j hij hj => by
  rw [← XWords.strOfNums_bytesOf (s.extract i j), NameXFnJpGetUnsafe.cut_bytes, List.drop_take]
 unfold spec_Raw.f impl_JpGetUnsafeString.val Jp.vb Jp.vn Jp.kindOf
 by_cases c : kind = 4
 ·have := h4 c
  rw [if_pos c, if_pos c, show wrap64 (b + 1) = b + 1 by unfold wrap64; omega, show wrap64 (e - 1) = e - 1 by unfold wrap64; omega, if_pos (by omega), if_pos (by omega), if_pos (by omega), if_pos rfl, if_pos rfl, cut _ _ (by omega) (by omega), show (b + 1).toNat = b.toNat + 1 by omega, show (e - 1).toNat - (b.toNat + 1) = (e - b).toNat - 2 by omega]
 ·have hk : ¬ (if kind = 4 then 1 else if kind = 3 then 2 else if kind = 6 then 3 else if kind = 5 then 4 else if kind = 0 then 6 else (5 : Int)) = 1 := by
   rw [if_neg c]
   by_cases c3 : kind = 3
   ·rw [if_pos c3]; decide
   ·rw [if_neg c3]
    by_cases c6 : kind = 6
    ·rw [if_pos c6]; decide
    ·rw [if_neg c6]
     by_cases c5 : kind = 5
     ·rw [if_pos c5]; decide
     ·rw [if_neg c5]
      by_cases c0 : kind = 0
      ·rw [if_pos c0]; decide
      ·rw [if_neg c0]; decide
  rw [if_neg c, if_pos (by omega), if_pos (by omega), if_pos (by omega), if_neg hk, if_neg hk, cut _ _ (by omega) (by omega), show e.toNat - b.toNat = (e - b).toNat by omega]
theorem j0_true (a0 : ByteArray) (l1 : List ByteArray) : Tot (fun k => laws_FnJpGetUnsafe.j0 k a0 l1 true) (fun r => r = true) :=
 Tot.succ (fun k => by rw [laws_FnJpGetUnsafe.j0, if_pos rfl]) (Tot.ret rfl)
theorem j0_false (a0 : ByteArray) (l1 : List ByteArray) (hkl : l1.length ≤ 2147483647) (hks : ∀ key ∈ l1, key.size ≤ 2147483647) : Tot (fun k => laws_FnJpGetUnsafe.j0 k a0 l1 false) (fun r => r = true) := by
 refine Tot.succ (fun k => by rw [laws_FnJpGetUnsafe.j0, if_neg (by decide)]) ?_
 obtain ⟨r0, hev, hr⟩ := found_tot hks hkl a0
 have hF : Tot (fun k => laws_jpFound.f k a0 l1) (fun r => r = r0) := ⟨r0, hev, rfl⟩
 refine Tot.bind hF fun r e => ?_
 subst e
 refine Tot.ite (fun ct => ?_) fun _ => Tot.ret rfl
 obtain ⟨hs, pl, pl', rfl, hroot, hL⟩ := hr ct
 obtain ⟨hok, h0, h1, h2, h4⟩ := found_ok hs hroot hL
 have hI : Tot (fun k => impl_JpGetUnsafeString.f k a0 l1) fun r => r = (impl_JpGetUnsafeString.val a0 pl'.f0 pl'.f1 pl'.f2, true) := by
  unfold impl_JpGetUnsafeString.f
  refine Tot.bind hF fun r e => ?_
  subst e
  exact Tot.eq (fun _ => if_pos hok) rfl
 refine Tot.bind hI fun r hr => ?_
 subst hr
 refine Tot.ite (fun _ => ?_) fun c => absurd rfl c
 show Tot (fun k => (spec_Raw.f a0 pl'.f0 pl'.f1 pl'.f2 pl'.f3 pl'.f4).bind _) _
 rw [val_raw a0 _ _ _ _ _ h0 h1 h2 hs h4]
 refine Tot.ret ?_
 simp
theorem Pure.FnJpGetUnsafe (a0 : ByteArray) (l1 : List ByteArray) : ∃ k, laws_FnJpGetUnsafe.f k a0 l1 = some true := by
 have h : Tot (fun k => laws_FnJpGetUnsafe.f k a0 l1) (fun r => r = true) := by
  unfold laws_FnJpGetUnsafe.f
  refine Tot.ite (fun _ => j0_true a0 l1) fun _ => ?_
  refine Tot.bind (fits_tot l1) fun b hb => ?_
  cases b with
  | true => exact j0_false a0 l1 (hb rfl).1 (hb rfl).2
  | false => exact j0_true a0 l1
 obtain ⟨r, ⟨K, hK⟩, rfl⟩ := h
 exact ⟨K, hK K (Nat.le_refl _)⟩
end Go.Proofs.YtcfhnfjkiljigaaDoor.XFnJpGetUnsafe
end
section
namespace Go.Proofs.YtcfhnfjkiljigaaDoor
open Go.ChangeShapes Go.WideShapes Go.ChangeAt Go.RowKit
theorem gConf : Tryd.prog.globalNamed "pub-tetrapla/pub/jsonparser.DefaultConfig" = some 0 := by kernel_rfl
theorem gConfType : (Tryd.prog.globals[0]?).map (·.type) = some 61 := by kernel_rfl
theorem gEsc : Tryd.prog.globalNamed "pub-tetrapla/pub/jsonparser.backslashCharEscapeTable" = some 9 := by kernel_rfl
theorem gEscType : (Tryd.prog.globals[9]?).map (·.type) = some 108 := by kernel_rfl
theorem cellsU8 : Tryd.prog.cellsOf 5 = 1 := by kernel_rfl
theorem cellsEsc : Tryd.prog.cellsOf 108 = 117 := by kernel_rfl
def escTab : List Int := [0, 0, 0, 0, 0, 0, 0, 0, 0, 0, 0, 0, 0, 0, 0, 0, 0, 0, 0, 0, 0, 0, 0, 0, 0, 0, 0, 0, 0, 0, 0, 0, 0, 0, 34, 0, 0, 0, 0, 0, 0, 0, 0, 0, 0, 0, 0, 47, 0, 0, 0, 0, 0, 0, 0, 0, 0, 0, 0, 0, 0, 0, 0, 0, 0, 0, 0, 0, 0, 0, 0, 0, 0, 0, 0, 0, 0, 0, 0, 0, 0, 0, 0, 0, 0, 0, 0, 0, 0, 0, 0, 0, 92, 0, 0, 0, 0, 0, 8, 0, 0, 0, 12, 0, 0, 0, 0, 0, 0, 0, 10, 0, 0, 0, 13, 0, 9]
set_option maxRecDepth 100000 in
theorem glob_of_list {W : World} {rest : List (String × DataW Unit)} (h : laidMet Tryd.prog (("pub-tetrapla/pub/jsonparser.DefaultConfig", Rows.laid_pub_tetrapla_pub_jsonparser_DefaultConfig) :: ("pub-tetrapla/pub/jsonparser.backslashCharEscapeTable", Rows.laid_pub_tetrapla_pub_jsonparser_backslashCharEscapeTable) :: rest) W) : Glob W := by
 have ht : laidMet Tryd.prog (("pub-tetrapla/pub/jsonparser.backslashCharEscapeTable", Lib.tabData .u8 escTab) :: rest) W := laidMet.tail h
 have htab := Lib.tabIs_of_head (rest := rest) gEsc gEscType Tryd.underlying108 Tryd.underlying5 cellsU8 cellsEsc ht
 obtain ⟨ps, ⟨g0, t0, cs0, f0, p0, q0, hg0, ht0, hv0, hd0, _⟩, _⟩ := h
 obtain rfl := Option.some.inj (gConf.symm.trans hg0)
 obtain rfl := Option.some.inj (gConfType.symm.trans ht0)
 obtain ⟨xs, n, _, hx, hlen, hxs, hel⟩ := DataW.trod_struct Tryd.underlying61 hd0
 have cB : Tryd.prog.cellsOf 4 = 1 := by kernel_rfl
 have cI : Tryd.prog.cellsOf 3 = 1 := by kernel_rfl
 have e0 := hel 0 _ rfl
 have e1 := hel 1 _ rfl
 have e2 := hel 2 _ rfl
 simp only [Prod.mk.injEq, Rows.laid_pub_tetrapla_pub_jsonparser_DefaultConfig, DataW.agg.injEq] at hx
 have c3 : Tryd.prog.cellsOf 61 = 3 := by kernel_rfl
 rw [c3] at hlen
 match xs, hxs, hx, e0, e1, e2 with
 | [x0, x1, x2], _, hx, e0, e1, e2 =>
  simp only [List.map_cons, List.map_nil, List.cons.injEq, and_true] at hx
  obtain ⟨b0, f0, r0⟩ := DataW.trod_bool Tryd.underlying4 (show DataW.trod _ Tryd.prog W 0 _ false n 4 _ = some x0 from e0)
  obtain ⟨b1, f1, r1⟩ := DataW.trod_bool Tryd.underlying4 (show DataW.trod _ Tryd.prog W 0 _ false n 4 _ = some x1 from e1)
  obtain ⟨k2, f2, r2, _⟩ := DataW.trod_int Tryd.underlying3 (show DataW.trod _ Tryd.prog W 0 _ false n 3 _ = some x2 from e2)
  have f0' : List.take 1 (List.drop 0 cs0.toList) = [.bool b0] := f0
  have f1' : List.take 1 (List.drop 1 cs0.toList) = [.bool b1] := f1
  have f2' : List.take 1 (List.drop 2 cs0.toList) = [.int .i64 k2] := f2
  subst r0 r1 r2
  obtain ⟨l⟩ := cs0
  match l, hlen, f0', f1', f2' with
  | [a, b, c], _, f0', f1', f2' =>
   simp at f0' f1' f2'
   subst f0' f1' f2'
   simp at hx
   obtain ⟨⟨rfl, rfl, rfl⟩, _⟩ := hx
   have z0 := World.var?_cell gConf hv0 0
   have z1 := World.var?_cell gConf hv0 1
   have z2 := World.var?_cell gConf hv0 2
   refine ⟨?_, by simpa using z0, by simpa using z1, by simpa using z2⟩
   intro p hp
   simp only [escPairs, List.mem_cons, List.mem_nil_iff, or_false] at hp
   rcases hp with rfl | rfl | rfl | rfl | rfl | rfl | rfl | rfl
   all_goals exact htab.cell gEsc _ (by decide)
theorem glob_of_laid {W : World} (h : laidMetH Tryd.prog Rows.fnJpGetUnsafeRow.laid W) : Glob W := by
 rw [MakeChecks.laidMetH_plain _ _ _ (by kernel_rfl)] at h
 exact glob_of_list (laidMet.tail (laidMet.tail (laidMet.tail (laidMet.tail (laidMet.tail h)))))
end Go.Proofs.YtcfhnfjkiljigaaDoor
end
