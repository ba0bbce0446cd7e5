/- impl's fjObject$1, walked. -/
import Derived.Test.YtjfofbgnppdlgaaDoorFpNodes
namespace Go.Proofs.YtjfofbgnppdlgaaDoor.Fp
open Go.RowKit Go.Proofs.YtjfofbgnppdlgaaDoorW.PrintWords Go.Proofs.YtjfofbgnppdlgaaDoorW.PrintLast Go.Proofs.YtjfofbgnppdlgaaDoorW.PrintMore
open Go.Proofs.YtjfofbgnppdlgaaDoor.FjW (cut cut_cut cut_size cut_bytes cut_zero cut_bt bt_out D rd_D rd_D0 D_drop D_len D_nil D_cons ws_at skipWS errNew ixOf ixCall ix_or)
set_option linter.unusedVariables false
set_option linter.unusedSimpArgs false

/-- Behind the key. -/
theorem Bx.key {W W2 : World} {nb i : Nat} {kv kk A : Value} {xs ys xs' : List Value} (h : Bx W nb i i kv kk xs ys) (hR : W2.ownsRow (nb + 1) 9 1 A (i + 1) xs') (g : W.grownBy W2 kv.ownBlock) :
    Bx (W2.setCell ⟨nb, 2, none⟩ A) nb (i + 1) i A kk xs' ys := by
  have hne : kv.ownBlock ≠ some nb := fun e => by have := h.keys.lt nb e; omega
  have hb : W2.heap[nb]? = some (.cells #[.int .i64 6, emptyS, kv, kk] TN (0, 0)) := (g.block nb h.lt (Ne.symm hne)).trans h.box
  have hkk : kk.ownBlock = none ∨ kk.ownBlock ≠ kv.ownBlock := by
    rcases h.kids.2 with ⟨rfl, _⟩ | ⟨g1, c1, cur1, rfl, h1, h2, _⟩
    · exact .inl rfl
    · refine .inr fun e => ?_
      rcases h.keys.2 with ⟨rfl, _⟩ | ⟨g2, c2, cur2, rfl, h3, h4, _⟩
      · cases e
      · simp only [Value.ownBlock, Option.some.injEq] at e
        subst e
        rw [h2] at h4
        simp only [Option.some.injEq, Obj.cells.injEq] at h4
        exact absurd h4.2.1 (by decide)
  refine ⟨heap_set hb A, ownsRow_setCell_other hR (fun e => ?_) A, ownsRow_setCell_other (h.kids.kept g hkk) (fun e => ?_) A⟩
  · have := hR.lt nb e; omega
  · have := h.kids.lt nb e; omega
/-- Behind the element. -/
theorem Bx.kid {W W2 : World} {nb i m g c : Nat} {kv kk : Value} {xs ys ys' : List Value} (h : Bx W nb i m kv kk xs ys) (hR : W2.ownsRow (nb + 1) TN 4 (.slice (some ⟨g, 0, none⟩) (m + 1) c) (m + 1) ys') (gr : W.grownBy W2 kk.ownBlock) (a0 a1 a2 a3 : Value) :
    ∃ ys2, Bx (((((W2.setCell ⟨g, m * 4, none⟩ a0).setCell ⟨g, m * 4 + 1, none⟩ a1).setCell ⟨g, m * 4 + 2, none⟩ a2).setCell ⟨g, m * 4 + 3, none⟩ a3).setCell ⟨nb, 3, none⟩ (.slice (some ⟨g, 0, none⟩) (m + 1) c)) nb i (m + 1) kv (.slice (some ⟨g, 0, none⟩) (m + 1) c) xs ys2 := by
  have hne : kk.ownBlock ≠ some nb := fun e => by have := h.kids.lt nb e; omega
  have hb : W2.heap[nb]? = some (.cells #[.int .i64 6, emptyS, kv, kk] TN (0, 0)) := (gr.block nb h.lt (Ne.symm hne)).trans h.box
  have hg : nb + 1 ≤ g := (hR.lt g rfl).1
  have hkk : kv.ownBlock = none ∨ kv.ownBlock ≠ kk.ownBlock := by
    rcases h.kids.2 with ⟨rfl, _⟩ | ⟨g1, c1, cur1, rfl, h1, h2, _⟩
    · cases hk : kv.ownBlock with
      | none => exact .inl rfl
      | some y => exact .inr (by simp [Value.ownBlock])
    · rcases h.keys.2 with ⟨rfl, _⟩ | ⟨g2, c2, cur2, rfl, h3, h4, _⟩
      · exact .inl rfl
      · refine .inr fun e => ?_
        simp only [Value.ownBlock, Option.some.injEq] at e
        subst e
        rw [h2] at h4
        simp only [Option.some.injEq, Obj.cells.injEq] at h4
        exact absurd h4.2.1 (by decide)
  have hk2 := h.keys.kept gr hkk
  have hkg : kv.ownBlock ≠ some g := fun e => by
    rcases hR.2 with ⟨e1, _⟩ | ⟨g1, c1, cur1, e1, h1, h2, _⟩
    · cases e1
    · injection e1 with e1; injection e1 with e1; injection e1 with e1
      subst e1
      rcases hk2.2 with ⟨rfl, _⟩ | ⟨g2, c2, cur2, rfl, h3, h4, _⟩
      · cases e
      · simp only [Value.ownBlock, Option.some.injEq] at e
        subst e
        rw [h2] at h4
        simp only [Option.some.injEq, Obj.cells.injEq] at h4
        exact absurd h4.2.1 (by decide)
  have hkn : kv.ownBlock ≠ some nb := fun e => by have := h.keys.lt nb e; omega
  obtain ⟨r1, _⟩ := hR.stored (m * 4) a0
  obtain ⟨r2, _⟩ := r1.stored (m * 4 + 1) a1
  obtain ⟨r3, _⟩ := r2.stored (m * 4 + 2) a2
  obtain ⟨r4, _⟩ := r3.stored (m * 4 + 3) a3
  refine ⟨_, heap_set (((heap_other _ _ _ _ _ (by omega)).trans ((heap_other _ _ _ _ _ (by omega)).trans ((heap_other _ _ _ _ _ (by omega)).trans ((heap_other _ _ _ _ _ (by omega)).trans hb))))) _, ?_, ownsRow_setCell_other r4 (by simp [Value.ownBlock]; omega) _⟩
  exact ownsRow_setCell_other (ownsRow_setCell_other (ownsRow_setCell_other (ownsRow_setCell_other (ownsRow_setCell_other hk2 hkg _) hkg _) hkg _) hkg _) hkn _
theorem own_slice {w : World} {lo e size n : Nat} {v : Value} {xs : List Value} (h : w.ownsRow lo e size v n xs) : ∃ A c, v = .slice A n c := by
  rcases h.2 with ⟨rfl, rfl⟩ | ⟨g, cap, cur, rfl, _⟩
  · exact ⟨_, _, rfl⟩
  · exact ⟨_, _, rfl⟩
theorem own_at {w : World} {lo e size n g cap : Nat} {xs : List Value} (h : w.ownsRow lo e size (.slice (some ⟨g, 0, none⟩) n cap) n xs) (j : Nat) (hj : j < n * size) : ∃ y, w.cell? ⟨g, j, none⟩ = some y := by
  rw [h.cellAt j hj]
  exact ⟨xs[j]'(by rw [h.1]; exact hj), List.getElem?_eq_getElem _⟩
/-- The same, the slice stored first. -/
theorem Bx.kid2 {W W2 : World} {nb i m g c : Nat} {kv kk : Value} {xs ys ys' : List Value} (h : Bx W nb i m kv kk xs ys) (hR : W2.ownsRow (nb + 1) TN 4 (.slice (some ⟨g, 0, none⟩) (m + 1) c) (m + 1) ys') (gr : W.grownBy W2 kk.ownBlock) (a0 a1 a2 a3 : Value) :
    ∃ ys2, Bx (((((W2.setCell ⟨nb, 3, none⟩ (.slice (some ⟨g, 0, none⟩) (m + 1) c)).setCell ⟨g, m * 4, none⟩ a0).setCell ⟨g, m * 4 + 1, none⟩ a1).setCell ⟨g, m * 4 + 2, none⟩ a2).setCell ⟨g, m * 4 + 3, none⟩ a3) nb i (m + 1) kv (.slice (some ⟨g, 0, none⟩) (m + 1) c) xs ys2 := by
  have hg : nb + 1 ≤ g := (hR.lt g rfl).1
  obtain ⟨ys2, hb⟩ := h.kid hR gr a0 a1 a2 a3
  have hR2 : (W2.setCell ⟨nb, 3, none⟩ (.slice (some ⟨g, 0, none⟩) (m + 1) c)).ownsRow (nb + 1) TN 4 (.slice (some ⟨g, 0, none⟩) (m + 1) c) (m + 1) ys' := ownsRow_setCell_other hR (by simp [Value.ownBlock]; omega) _
  obtain ⟨r1, _⟩ := hR2.stored (m * 4) a0
  obtain ⟨r2, _⟩ := r1.stored (m * 4 + 1) a1
  obtain ⟨r3, _⟩ := r2.stored (m * 4 + 2) a2
  obtain ⟨r4, _⟩ := r3.stored (m * 4 + 3) a3
  have hkk := hb.keys
  have hne : kk.ownBlock ≠ some nb := fun e => by have := h.kids.lt nb e; omega
  have hbx : W2.heap[nb]? = some (.cells #[.int .i64 6, emptyS, kv, kk] TN (0, 0)) := (gr.block nb h.lt (Ne.symm hne)).trans h.box
  refine ⟨_, (heap_other _ _ _ _ _ (by omega)).trans ((heap_other _ _ _ _ _ (by omega)).trans ((heap_other _ _ _ _ _ (by omega)).trans ((heap_other _ _ _ _ _ (by omega)).trans (heap_set hbx _)))), ?_, r4⟩
  refine ⟨hkk.1, ?_⟩
  rcases hkk.2 with c' | ⟨g', cap, cur, rfl, h1, h2, rest⟩
  · exact .inl c'
  · refine .inr ⟨g', cap, cur, rfl, h1, ?_, rest⟩
    have hgg : g' ≠ g := by
      rintro rfl
      rcases hb.kids.2 with ⟨e1, _⟩ | ⟨g1, c1, cur1, e1, _, h3, _⟩
      · cases e1
      · injection e1 with e1
        injection e1 with e1
        injection e1 with e1
        subst e1
        rw [h2] at h3
        simp only [Option.some.injEq, Obj.cells.injEq] at h3
        exact absurd h3.2.1 (by decide)
    have hb2 : W2.heap[g']? = some (.cells cur 9 (0, 0)) := by
      rw [heap_other _ _ _ _ _ (by omega), heap_other _ _ _ _ _ hgg, heap_other _ _ _ _ _ hgg, heap_other _ _ _ _ _ hgg, heap_other _ _ _ _ _ hgg] at h2
      exact h2
    exact (heap_other _ _ _ _ _ hgg).trans ((heap_other _ _ _ _ _ hgg).trans ((heap_other _ _ _ _ _ hgg).trans ((heap_other _ _ _ _ _ hgg).trans ((heap_other _ _ _ _ _ (by omega)).trans hb2))))
theorem below_set {lo : Nat} {w W : World} (h : Below lo w W) {b j : Nat} (hb : lo ≤ b) (u : Value) : Below lo w (W.setCell ⟨b, j, none⟩ u) := h.setCell (p := ⟨b, j, none⟩) hb u
theorem far4 {w6 : World} {g nb m : Nat} {v : Value} (hx : w6.cell? ⟨nb, 3, none⟩ = some v) (hng : (nb = g) = False) (a0 a1 a2 a3 : Value) : ((((w6.setCell ⟨g, m * 4, none⟩ a0).setCell ⟨g, m * 4 + 1, none⟩ a1).setCell ⟨g, m * 4 + 2, none⟩ a2).setCell ⟨g, m * 4 + 3, none⟩ a3).cell? ⟨nb, 3, none⟩ = some v := by
  have hn : ∀ j, (⟨g, j, none⟩ : Addr) ≠ ⟨nb, 3, none⟩ := fun j e => by
    injection e with e _ _
    exact (hng.mp e.symm).elim
  rw [World.cell?_setCell_other _ _ _ _ (hn _), World.cell?_setCell_other _ _ _ _ (hn _), World.cell?_setCell_other _ _ _ _ (hn _), World.cell?_setCell_other _ _ _ _ (hn _)]
  exact hx
theorem cb_end {W w5 w6 : World} {F : Addr → Prop} {nb i m g c : Nat} {kv kk : Value} {xs ys ys' : List Value} (hL : FrL nb W w5 F) (h6 : ∃ V, Bx V nb i m kv kk xs ys ∧ Below nb w5 V ∧ V.grownBy w6 kk.ownBlock) (hk : w6.ownsRow (nb + 1) TN 4 (.slice (some ⟨g, 0, none⟩) (m + 1) c) (m + 1) ys') (a0 a1 a2 a3 : Value) :
    (∃ kv' kk' xs' ys', Bx (((((w6.setCell ⟨g, m * 4, none⟩ a0).setCell ⟨g, m * 4 + 1, none⟩ a1).setCell ⟨g, m * 4 + 2, none⟩ a2).setCell ⟨g, m * 4 + 3, none⟩ a3).setCell ⟨nb, 3, none⟩ (.slice (some ⟨g, 0, none⟩) (m + 1) c)) nb i (m + 1) kv' kk' xs' ys') ∧ FrL nb W (((((w6.setCell ⟨g, m * 4, none⟩ a0).setCell ⟨g, m * 4 + 1, none⟩ a1).setCell ⟨g, m * 4 + 2, none⟩ a2).setCell ⟨g, m * 4 + 3, none⟩ a3).setCell ⟨nb, 3, none⟩ (.slice (some ⟨g, 0, none⟩) (m + 1) c)) F := by
  obtain ⟨V, v1, v2, v3⟩ := h6
  obtain ⟨ys2, hb⟩ := v1.kid hk v3 a0 a1 a2 a3
  have hg : nb ≤ g := Nat.le_of_lt (hk.lt g rfl).1
  have b6 : Below nb V w6 := Below.grown (Below.refl _ _) v3 (Nat.le_of_lt v1.lt) (fun k e => by have := v1.kids.lt k e; omega)
  exact ⟨⟨_, _, _, _, hb⟩, (hL.bel v2).bel (below_set (below_set (below_set (below_set (below_set b6 hg _) hg _) hg _) hg _) (Nat.le_refl _) _)⟩
theorem cb_end2 {W w5 w6 : World} {F : Addr → Prop} {nb i m g c : Nat} {kv kk : Value} {xs ys ys' : List Value} (hL : FrL nb W w5 F) (h6 : ∃ V, Bx V nb i m kv kk xs ys ∧ Below nb w5 V ∧ V.grownBy w6 kk.ownBlock) (hk : w6.ownsRow (nb + 1) TN 4 (.slice (some ⟨g, 0, none⟩) (m + 1) c) (m + 1) ys') (a0 a1 a2 a3 : Value) :
    (∃ kv' kk' xs' ys', Bx (((((w6.setCell ⟨nb, 3, none⟩ (.slice (some ⟨g, 0, none⟩) (m + 1) c)).setCell ⟨g, m * 4, none⟩ a0).setCell ⟨g, m * 4 + 1, none⟩ a1).setCell ⟨g, m * 4 + 2, none⟩ a2).setCell ⟨g, m * 4 + 3, none⟩ a3) nb i (m + 1) kv' kk' xs' ys') ∧ FrL nb W (((((w6.setCell ⟨nb, 3, none⟩ (.slice (some ⟨g, 0, none⟩) (m + 1) c)).setCell ⟨g, m * 4, none⟩ a0).setCell ⟨g, m * 4 + 1, none⟩ a1).setCell ⟨g, m * 4 + 2, none⟩ a2).setCell ⟨g, m * 4 + 3, none⟩ a3) F := by
  obtain ⟨V, v1, v2, v3⟩ := h6
  obtain ⟨ys2, hb⟩ := v1.kid2 hk v3 a0 a1 a2 a3
  have hg : nb ≤ g := Nat.le_of_lt (hk.lt g rfl).1
  have b6 : Below nb V w6 := Below.grown (Below.refl _ _) v3 (Nat.le_of_lt v1.lt) (fun k e => by have := v1.kids.lt k e; omega)
  exact ⟨⟨_, _, _, _, hb⟩, (hL.bel v2).bel (below_set (below_set (below_set (below_set (below_set b6 (Nat.le_refl _) _) hg _) hg _) hg _) hg _)⟩
set_option maxHeartbeats 8000000 in
set_option maxRecDepth 100000 in
theorem cb (fv : FV) (hfv : NodeF fv) (W : World) (nb i : Nat) (kv kk : Value) (xs ys : List Value) (hi : i ≤ 999999) (hB : Bx W nb i i kv kk xs ys) (A : Option Addr) (n c : Nat) (s : ByteArray) (hcv : (convert 30 9 (.slice A n c)).run Tryd.prog W = .ok (.string s) W) (F : Addr → Prop) (p : Nat × Nat) (hR : Rep W F p.1 p.2 fv) (hF : ∀ x, F x → x.spot = none ∧ x.block < nb) :
    Calls Tryd.prog 30 #[.slice A n c, ptr p, .pointer (some ⟨nb, 0, none⟩)] W fun e w' => e = .returned (.tuple #[]) ∧ (∃ kv' kk' xs' ys', Bx w' nb (i + 1) (i + 1) kv' kk' xs' ys') ∧ FrL nb W w' F := by
  obtain ⟨Ak, ck, rfl⟩ := own_slice hB.kids
  have HB := Aside0.mk hB
  have HF := Aside0.mk hF
  have hc2 : W.cell? ⟨nb, 2, none⟩ = some kv := by rw [cell_in hB.box]; rfl
  have HNB : Aside0 (nb + 1 ≤ W.heap.size) := ⟨hB.lt⟩
  have HI : Aside0 (i ≤ 1000000) := ⟨by omega⟩
  have hnil : kv.ownBlock ≠ some nb := fun e => by have := hB.keys.lt nb e; omega
  have HNIL := Aside0.mk hnil
  have HCALL : Aside0 (∀ V, Below nb W V → Calls Tryd.prog 7 #[ptr p] V fun e w' => NodeSaid e ∧ Fr V w' F) := ⟨fun V hV => by
    refine hfv V F p.1 p.2 (fun x hx => ⟨(hF x hx).1, Nat.lt_of_lt_of_le (hF x hx).2 (Nat.le_trans (Nat.le_of_lt hB.lt) hV.size)⟩) (hR.kept (fun x hx => ?_) fun _ h => h)
    have e := hV.block x.block (hF x hx).2
    exact ⟨World.cell?_of_block e, fun cur T h => ⟨cur, e.trans h⟩⟩⟩
  clear hB hF hfv hR hnil hi
  go_enter Tryd.func30, Tryd.ntmps30
  go_wp2_with (first
    | (at_builtin; refine wp_key _ (nb + 1) i kv xs s HB.out.keys HNB.out HI.out rfl _ _ rfl rfl rfl ?_; intro A1 c1 w1 k1 k2; have HX2 := Aside0.mk (HB.out.key k1 k2); have HBL : Aside0 (Below nb W (w1.setCell ⟨nb, 2, none⟩ (.slice A1 (i + 1) c1))) := ⟨below_set (Below.grown (Below.refl _ _) k2 (Nat.le_of_lt HB.out.lt) (fun k e => by have := HB.out.keys.lt k e; omega)) (Nat.le_refl _) _⟩; have hx2 : w1.cell? ⟨nb, 2, none⟩ = some kv := (World.cell?_of_block (a := ⟨nb, 2, none⟩) (k2.block nb HB.out.lt (Ne.symm HNIL.out))).trans hc2; have hx3 : w1.cell? ⟨nb, 3, none⟩ = some (.slice Ak i ck) := (World.cell?_of_block (a := ⟨nb, 3, none⟩) (k2.block nb HB.out.lt (Ne.symm HNIL.out))).trans (by rw [cell_in HB.out.box]; rfl); have hxf : w1.frozen? ⟨nb, 2, none⟩ = false := (by have := (k2.block nb HB.out.lt (Ne.symm HNIL.out)).trans HB.out.box; simp [World.frozen?, this]); clear k1 k2))
  have HV0 : Aside0 (Bx (World.drew (w1.setCell ⟨nb, 2, none⟩ (.slice A1 (i + 1) c1))) nb (i + 1) i (.slice A1 (i + 1) c1) (.slice Ak i ck) (xs ++ [.string s]) ys ∧ Below nb W (World.drew (w1.setCell ⟨nb, 2, none⟩ (.slice A1 (i + 1) c1)))) := ⟨HX2.out.kept fun _ _ _ h => h, below_drew HBL.out⟩
  have HV1 : Aside0 (Bx (World.drew (World.alloc (w1.setCell ⟨nb, 2, none⟩ (.slice A1 (i + 1) c1)) (.cells n0 TN))) nb (i + 1) i (.slice A1 (i + 1) c1) (.slice Ak i ck) (xs ++ [.string s]) ys ∧ Below nb W (World.drew (World.alloc (w1.setCell ⟨nb, 2, none⟩ (.slice A1 (i + 1) c1)) (.cells n0 TN)))) := ⟨(HX2.out.alloc _).kept fun _ _ _ h => h, below_drew (HBL.out.alloc (Nat.le_trans (Nat.le_of_lt HB.out.lt) HBL.out.size) _)⟩
  have HG1 : Aside0 ((World.drew (World.alloc (w1.setCell ⟨nb, 2, none⟩ (.slice A1 (i + 1) c1)) (.cells n0 TN))).heap[w1.heap.size]? = some (.cells n0 TN (0, 0))) := ⟨by have := heap_alloc_new (w1.setCell ⟨nb, 2, none⟩ (.slice A1 (i + 1) c1)) (.cells n0 TN); rw [set_size] at this; exact this⟩
  have hx3a : ∀ ob, (World.alloc (w1.setCell ⟨nb, 2, none⟩ (.slice A1 (i + 1) c1)) ob).cell? ⟨nb, 3, none⟩ = some (.slice Ak i ck) := fun ob => alloc_cell (by rw [cell_in HX2.out.box]; rfl) ob
  have hii : ((i : Int) < (i : Int) + 1) = True := eq_true (by omega)
  have HNW : Aside0 (nb ≤ w1.heap.size) := ⟨by have := HBL.out.size; rw [set_size] at this; have := HB.out.lt; omega⟩
  go_region_law (first
    | (refine step_go1 rfl 7 (.tmp 14) 36 rfl (ptr p) rfl nodeFn ?_; (with_reducible refine (HCALL.out _ HV0.out.2).mono ?_); rintro e w5 ⟨⟨k, t, A0, m0, c0, A2, n2, c2, rfl⟩, hfr⟩; refine ⟨_, rfl, ?_⟩; have HB5 := Aside0.mk (HV0.out.1.fr hfr (fun x hx => (HF.out x hx).2)); have hx5 : w5.cell? ⟨nb, 3, none⟩ = some (.slice Ak i ck) := (by rw [cell_in HB5.out.box]; rfl); have hx5a := alloc_cell hx5; have HL5 := Aside0.mk (((FrL.refl nb W F).bel HV0.out.2).trans (hfr.toL nb)); clear hfr)
    | (refine step_go1 rfl 7 (.tmp 14) 36 rfl (ptr p) rfl nodeFn ?_; (with_reducible refine (HCALL.out _ HV1.out.2).mono ?_); rintro e w5 ⟨⟨k, t, A0, m0, c0, A2, n2, c2, rfl⟩, hfr⟩; refine ⟨_, rfl, ?_⟩; have HB5 := Aside0.mk (HV1.out.1.fr hfr (fun x hx => (HF.out x hx).2)); have hx5 : w5.cell? ⟨nb, 3, none⟩ = some (.slice Ak i ck) := (by rw [cell_in HB5.out.box]; rfl); have hx5a := alloc_cell hx5; have HL5 := Aside0.mk (((FrL.refl nb W F).bel HV1.out.2).trans (hfr.toL nb)); have HG5 := Aside0.mk (hfr.block (fun x hx => by have := (HF.out x hx).2; have := HNW.out; omega) HG1.out); clear hfr)
    | (refine step_kid _ w1 (nb + 1) i _ (.slice Ak i ck) ys ?ho ?hlo HI.out rfl (.tmp 13) (.tmp 17) rfl rfl rfl ?hg ?_; (case ho => first | exact (HB5.out.alloc _).kids | exact HB5.out.kids); (case hlo => first | exact Nat.le_trans HB5.out.lt (World.grownBy_alloc w5 _ none).size | exact HB5.out.lt); (case hg => first | exact heap_alloc_new w5 _ | exact HG5.out); intro g c3 xs6 w6 k1 k2; obtain ⟨y0, hy0⟩ := own_at k1 (i * 4) (by omega); obtain ⟨y1, hy1⟩ := own_at k1 (i * 4 + 1) (by omega); obtain ⟨y2, hy2⟩ := own_at k1 (i * 4 + 2) (by omega); obtain ⟨y3, hy3⟩ := own_at k1 (i * 4 + 3) (by omega); have hyf := k1.frozenAt; have HK1 := Aside0.mk k1; have HK2 := Aside0.mk k2; have HB6 : Aside0 (∃ V, Bx V nb (i + 1) i (.slice A1 (i + 1) c1) (.slice Ak i ck) (xs ++ [.string s]) ys ∧ Below nb w5 V ∧ V.grownBy w6 (Value.slice Ak i ck).ownBlock) := (by first | exact ⟨⟨_, HB5.out.alloc _, (Below.refl nb w5).alloc (Nat.le_of_lt HB5.out.lt) _, k2⟩⟩ | exact ⟨⟨_, HB5.out, Below.refl nb w5, k2⟩⟩); have hng : (nb = g) = False := eq_false (fun e => by have := (HK1.out.lt g rfl).1; omega); have hx6 : w6.cell? ⟨nb, 3, none⟩ = some (.slice Ak i ck) := (by obtain ⟨V, v1, v2, v3⟩ := HB6.out; have e := (v3.block nb v1.lt (fun e => by have := v1.kids.lt nb e.symm; omega)).trans v1.box; rw [cell_in e]; rfl); have hx7 := far4 (m := i) hx6 hng; have hf6 : ∀ j, w6.frozen? ⟨nb, j, none⟩ = false := (fun j => by obtain ⟨V, v1, v2, v3⟩ := HB6.out; have e := (v3.block nb v1.lt (fun e => by have := v1.kids.lt nb e.symm; omega)).trans v1.box; simp [World.frozen?, e]); clear k1 k2))
  all_goals
    go_end0
    refine ⟨rfl, ?_⟩
    first
      | with_reducible exact cb_end (m := i) (g := g) (c := c3) HL5.out HB6.out HK1.out (.int .i64 k) (.string t) (.slice A0 m0 c0) (.slice A2 n2 c2)
      | with_reducible exact cb_end2 (m := i) (g := g) (c := c3) HL5.out HB6.out HK1.out (.int .i64 k) (.string t) (.slice A0 m0 c0) (.slice A2 n2 c2)
end Go.Proofs.YtjfofbgnppdlgaaDoor.Fp
