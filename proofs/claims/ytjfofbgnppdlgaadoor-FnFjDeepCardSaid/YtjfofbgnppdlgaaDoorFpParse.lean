/- fastjson's Parse. -/
import Derived.Test.YtjfofbgnppdlgaaDoorFpBase2
namespace Go.Proofs.YtjfofbgnppdlgaaDoor.Fp
open Go.RowKit Go.Proofs.YtjfofbgnppdlgaaDoorW.PrintWords Go.Proofs.YtjfofbgnppdlgaaDoorW.PrintLast Go.Proofs.YtjfofbgnppdlgaaDoorW.PrintMore
open Go.Proofs.YtjfofbgnppdlgaaDoor.FjW (cut cut_cut cut_size cut_bytes cut_zero cut_bt bt_out D rd_D rd_D0 D_drop D_len D_nil D_cons ws_at skipWS errNew)
set_option linter.unusedVariables false
set_option linter.unusedSimpArgs false

theorem reset0 (w : World) (pb : Nat) (bv : Value) (h : Pb w pb bv nilS) :
    Calls Tryd.prog 9 #[.pointer (some ⟨pb, 1, none⟩)] w fun e w' => e = .returned (.tuple #[]) ∧ w' = w.setCell ⟨pb, 1, none⟩ nilS := by
  have h1 := h.cell
  have h2 := h.free 1
  clear h
  go_enter Tryd.func9, Tryd.ntmps9
  go_wp2
  go_loop [10] (fun v => v = .int .i64 0) (fun _ => 0)
  case atStart => rfl
  case round =>
    obtain rfl := hrel
    go_wp2
    go_end0
    exact ⟨rfl, rfl⟩
theorem b2s (w : World) (A : Option Addr) (n c : Nat) (s : ByteArray) (h : (convert 30 9 (.slice A n c)).run Tryd.prog w = .ok (.string s) w) :
    Calls Tryd.prog 11 #[.slice A n c] w fun e w' => e = .returned (.string s) ∧ w = w' := by
  go_enter Tryd.func11, Tryd.ntmps11
  go_wp2
  go_ret
  exact ⟨rfl, rfl⟩
/-- What is read of a text without blanks ahead. -/
def okP (b : ByteArray) : Option FV := match pval (2 * b.size + 1) 0 (bytesOf b) with
  | none => none
  | some r => if b.size ≤ nx b r.2 then some r.1 else none
def PSaid (lo : Nat) (b : ByteArray) (e : Ending) (w' : World) : Prop := match okP b with
  | none => ∃ T u, e = .returned (.tuple #[.pointer none, .iface T u])
  | some fv => ∃ bb o F, e = .returned (.tuple #[.pointer (some ⟨bb, o, none⟩), .nilIface]) ∧ Rep w' F bb o fv ∧ ∀ x, F x → x.spot = none ∧ x.block < w'.heap.size ∧ lo ≤ x.block
theorem Pb.below {w w' : World} {pb : Nat} {bv v : Value} (h : Pb w pb bv v) (g : Below w.heap.size w w') : Pb w' pb bv v := (g.block pb h.lt).trans h
theorem Pb.set0 {w : World} {pb : Nat} {bv cv : Value} (h : Pb w pb bv cv) (v : Value) : Pb (w.setCell ⟨pb, 0, none⟩ v) pb v cv := by
  unfold Pb
  rw [heap_set h v]
  rfl
theorem Pb.heap {w w' : World} {pb : Nat} {bv v : Value} (h : Pb w pb bv v) (g : w'.heap = w.heap) : Pb w' pb bv v := by unfold Pb; rw [g]; exact h
theorem own_heap {w w' : World} {lo e n : Nat} {v : Value} {xs : List Value} (h : w.ownsRow lo e 1 v n xs) (g : ∀ k, v.ownBlock = some k → w'.heap[k]? = w.heap[k]?) : w'.ownsRow lo e 1 v n xs := by
  refine ⟨h.1, h.2.imp id ?_⟩
  rintro ⟨g', cap, cur, rfl, h1, h2, rest⟩
  exact ⟨g', cap, cur, rfl, h1, (g g' rfl).trans h2, rest⟩
theorem fine_below {pb n' : Nat} {bv v' : Value} {w w' : World} (h : Fine pb 0 bv nilS w n' v' w') (hp : pb < w.heap.size) : Below pb w w' := ⟨h.step.out.1, h.step.out.2.1, h.step.out.2.2, h.step.size, fun k hk => h.step.blk k (by omega) (by omega) (by simp [Value.ownBlock])⟩
theorem conv_at {W : World} {lo n c : Nat} {A : Option Addr} {s : ByteArray} (h : W.ownsRow lo 5 1 (.slice A n c) n (Lib.strCells s)) : (convert 30 9 (.slice A n c)).run Tryd.prog W = .ok (.string s) W := by
  obtain ⟨A', c', e, h2⟩ := conv_own h
  have e' : Value.slice A n c = Value.slice A' n c' := e
  rw [e']
  exact h2
theorem psaid_no {lo : Nat} {b : ByteArray} {e : Ending} {w' : World} (h : okP b = none) (T : TypeId) (u : Value) (he : e = .returned (.tuple #[.pointer none, .iface T u])) : PSaid lo b e w' := by unfold PSaid; rw [h]; exact ⟨T, u, he⟩
theorem psaid_yes {lo : Nat} {b : ByteArray} {e : Ending} {w' : World} {fv : FV} (h : okP b = some fv) (bb o : Nat) (F : Addr → Prop) (he : e = .returned (.tuple #[.pointer (some ⟨bb, o, none⟩), .nilIface])) (hR : Rep w' F bb o fv) (hF : ∀ x, F x → x.spot = none ∧ x.block < w'.heap.size ∧ lo ≤ x.block) : PSaid lo b e w' := by unfold PSaid; rw [h]; exact ⟨bb, o, F, he, hR, hF⟩
set_option maxHeartbeats 8000000 in
set_option maxRecDepth 100000 in
theorem parse (P : List Int → Prop) (hVC : ∀ k, VC P k) (w : World) (pb : Nat) (hP : Pb w pb nilS nilS) (a b : ByteArray) (hs : a.size ≤ 400000) (hb : b = cut a (nx a 0)) (ha : P (bytesOf b)) :
    Calls Tryd.prog 6 #[.pointer (some ⟨pb, 0, none⟩), .string a] w fun e w' => PSaid pb b e w' ∧ Below pb w w' := by
  have hbs : b.size ≤ 400000 := by rw [hb, cut_size]; omega
  have HS : Aside0 (a.size ≤ 1000000) := ⟨by omega⟩
  have HBS : Aside0 (b.size ≤ 1000000) := ⟨by omega⟩
  have HA0 : Aside0 (a = cut a 0) := ⟨(cut_zero a).symm⟩
  have HB0 := Aside0.mk hb
  have HP := Aside0.mk hP
  have HV : Aside0 (∀ (W : World) (bv : Value), Pb W pb bv nilS → Calls Tryd.prog 10 #[.pointer (some ⟨pb, 1, none⟩), .string b, .int .i64 0] W fun e w' => Out pb 0 bv nilS W b 0 (pval (2 * b.size + 1) 0 (bytesOf b)) e w') :=
    ⟨fun W bv h => hVC (2 * b.size + 1) pb 0 bv nilS W b 0 h (.inl ⟨rfl, rfl⟩) (by omega) (Nat.le_refl _) ha (Nat.zero_le _)⟩
  cases hr : pval (2 * b.size + 1) 0 (bytesOf b) with
  | none =>
    have HRR := Aside0.mk hr
    have HC1 : Aside0 (okP b = none) := ⟨by unfold okP; rw [hr]⟩
    have hc0 := hP.cell0
    have hf0 := hP.free 0
    clear hs hb hP ha hbs hr
    go_enter Tryd.func6, Tryd.ntmps6
    go_wp2_with (first
      | (go_at_call 8; (with_reducible refine (skipTo a _ b 0 HS.out HA0.out HB0.out _).mono ?_); rintro e w' ⟨rfl, rfl⟩)
      | (at_builtin; refine wp_bytes _ b HBS.out rfl _ _ rfl rfl rfl ?_; intro A c w1 k1 k2 k3; have K1 := Aside0.mk k1; have K3 := Aside0.mk k3; have hc1 := (HP.out.below k3).cell0; have hf1 := (HP.out.below k3).free 0; clear k1 k2 k3 hc0 hf0)
      | (go_at_call 9; (refine (reset0 _ pb _ ((HP.out.below K3.out).set0 _)).mono ?_); rintro e w3 ⟨rfl, hw3⟩; have P3 : Aside0 (Pb w3 pb (.slice A b.size c) nilS) := ⟨by rw [hw3]; exact ((HP.out.below K3.out).set0 _).set _⟩; have hc3 := P3.out.cell0; have K4 : Aside0 (w3.ownsRow w.heap.size 5 1 (.slice A b.size c) b.size (Lib.strCells b)) := ⟨own_heap K1.out fun k hk => by have := K1.out.lt k hk; have hl := HP.out.lt; rw [hw3, heap_other _ _ _ _ _ (by omega), heap_other _ _ _ _ _ (by omega)]⟩; have HB3 : Aside0 (Below pb w w3) := ⟨by rw [hw3]; exact ((K3.out.mono (Nat.le_of_lt HP.out.lt)).setCell (p := ⟨pb, 0, none⟩) (Nat.le_refl _) _).setCell (p := ⟨pb, 1, none⟩) (Nat.le_refl _) _⟩; clear hw3 hc1 hf1))
    go_region_with (first
      | (go_at_call 11; (refine (b2s _ A b.size c b (by exact conv_at (own_heap K4.out fun _ _ => rfl))).mono ?_); rintro e w4 ⟨rfl, rfl⟩)
      | (go_at_call 10; (refine (HV.out _ (.slice A b.size c) (by exact P3.out.heap rfl)).mono ?_); rintro e w4 ⟨n4, v4, hf, h⟩; rw [HRR.out] at h; obtain ⟨hn2, t2, T2, u2, rfl⟩ := h; have HF2 := Aside0.mk hf; have HB4 : Aside0 (Below pb w w4) := ⟨by have h2 := fine_below HF2.out (by exact Nat.lt_of_lt_of_le HP.out.lt HB3.out.size); exact Below.trans (by exact ⟨HB3.out.os, HB3.out.tape, HB3.out.output, HB3.out.size, HB3.out.block⟩) h2⟩; clear hf hn2))
    all_goals
      go_wp2_with (first | (go_at_call 12; (with_reducible refine (errNew _ _).mono ?_); rintro e w' ⟨⟨T, u, rfl⟩, hb⟩))
      go_ret2
      exact ⟨psaid_no HC1.out T u rfl, (HB4.out.trans (hb.mono (Nat.le_trans (Nat.le_of_lt HP.out.lt) HB4.out.size)))⟩
  | some r =>
    obtain ⟨fv, m⟩ := r
    have HRR := Aside0.mk hr
    obtain ⟨t0, ht0⟩ : ∃ t, cut b m = t := ⟨_, rfl⟩
    obtain ⟨t1, ht1⟩ : ∃ t, t = cut b (nx b m) := ⟨_, rfl⟩
    have HT0 := Aside0.mk ht0
    have HT1 := Aside0.mk ht1
    have hts : t1.size = b.size - nx b m := by rw [ht1]; exact cut_size b _
    have hc0 := hP.cell0
    have hf0 := hP.free 0
    by_cases z : b.size ≤ nx b m
    · have HC1 : Aside0 (okP b = some fv) := ⟨by unfold okP; rw [hr]; simp only []; rw [if_pos z]⟩
      have q1 : decide (0 < (t1.size : Int)) = false := decide_eq_false (by omega)
      have q0 : t1.size = 0 := by omega
      clear hs hb hP ha hbs hr ht0 ht1 hts z
      go_enter Tryd.func6, Tryd.ntmps6
      go_wp2_with (first
        | (go_at_call 8; (with_reducible refine (skipTo a _ b 0 HS.out HA0.out HB0.out _).mono ?_); rintro e w' ⟨rfl, rfl⟩)
        | (at_builtin; refine wp_bytes _ b HBS.out rfl _ _ rfl rfl rfl ?_; intro A c w1 k1 k2 k3; have K1 := Aside0.mk k1; have K3 := Aside0.mk k3; have hc1 := (HP.out.below k3).cell0; have hf1 := (HP.out.below k3).free 0; clear k1 k2 k3 hc0 hf0)
        | (go_at_call 9; (refine (reset0 _ pb _ ((HP.out.below K3.out).set0 _)).mono ?_); rintro e w3 ⟨rfl, hw3⟩; have P3 : Aside0 (Pb w3 pb (.slice A b.size c) nilS) := ⟨by rw [hw3]; exact ((HP.out.below K3.out).set0 _).set _⟩; have hc3 := P3.out.cell0; have K4 : Aside0 (w3.ownsRow w.heap.size 5 1 (.slice A b.size c) b.size (Lib.strCells b)) := ⟨own_heap K1.out fun k hk => by have := K1.out.lt k hk; have hl := HP.out.lt; rw [hw3, heap_other _ _ _ _ _ (by omega), heap_other _ _ _ _ _ (by omega)]⟩; have HB3 : Aside0 (Below pb w w3) := ⟨by rw [hw3]; exact ((K3.out.mono (Nat.le_of_lt HP.out.lt)).setCell (p := ⟨pb, 0, none⟩) (Nat.le_refl _) _).setCell (p := ⟨pb, 1, none⟩) (Nat.le_refl _) _⟩; clear hw3 hc1 hf1))
      go_region_with (first
        | (go_at_call 11; (refine (b2s _ A b.size c b (by exact conv_at (own_heap K4.out fun _ _ => rfl))).mono ?_); rintro e w4 ⟨rfl, rfl⟩)
        | (go_at_call 10; (refine (HV.out _ (.slice A b.size c) (by exact P3.out.heap rfl)).mono ?_); rintro e w4 ⟨n4, v4, hf, h⟩; rw [HRR.out] at h; obtain ⟨hn2, hm2, b2, o2, F, rfl, hR, hF⟩ := h; simp only [] at hR hF ⊢; have HR2 := Aside0.mk hR; have HFF : Aside0 (∀ x, F x → x.spot = none ∧ x.block < w4.heap.size ∧ pb ≤ x.block) := ⟨fun x hx => ⟨(hF x hx).2.1, (hF x hx).2.2.1, by have := HP.out.lt; have := HB3.out.size; rcases (hF x hx).1 with c | ⟨c, _⟩; exact Nat.le_trans (Nat.le_trans (Nat.le_of_lt HP.out.lt) HB3.out.size) c; cases c⟩⟩; have HF2 := Aside0.mk hf; have HB4 : Aside0 (Below pb w w4) := ⟨by have h2 := fine_below HF2.out (by exact Nat.lt_of_lt_of_le HP.out.lt HB3.out.size); exact Below.trans (by exact ⟨HB3.out.os, HB3.out.tape, HB3.out.output, HB3.out.size, HB3.out.block⟩) h2⟩; clear hf hn2 hm2 hR hF; try rw [HT0.out]))
      all_goals
        go_wp2_with (first | (go_at_call 8; (with_reducible refine (skipTo b t0 t1 m HBS.out HT0.out.symm HT1.out _).mono ?_); rintro e w' ⟨rfl, rfl⟩))
        go_ret2
        exact ⟨psaid_yes HC1.out b2 o2 F rfl HR2.out HFF.out, HB4.out⟩
    · have HC1 : Aside0 (okP b = none) := ⟨by unfold okP; rw [hr]; simp only []; rw [if_neg z]⟩
      have q1 : decide (0 < (t1.size : Int)) = true := decide_eq_true (by omega)
      have q0 : 0 < t1.size := by omega
      clear hs hb hP ha hbs hr ht0 ht1 hts z
      go_enter Tryd.func6, Tryd.ntmps6
      go_wp2_with (first
        | (go_at_call 8; (with_reducible refine (skipTo a _ b 0 HS.out HA0.out HB0.out _).mono ?_); rintro e w' ⟨rfl, rfl⟩)
        | (at_builtin; refine wp_bytes _ b HBS.out rfl _ _ rfl rfl rfl ?_; intro A c w1 k1 k2 k3; have K1 := Aside0.mk k1; have K3 := Aside0.mk k3; have hc1 := (HP.out.below k3).cell0; have hf1 := (HP.out.below k3).free 0; clear k1 k2 k3 hc0 hf0)
        | (go_at_call 9; (refine (reset0 _ pb _ ((HP.out.below K3.out).set0 _)).mono ?_); rintro e w3 ⟨rfl, hw3⟩; have P3 : Aside0 (Pb w3 pb (.slice A b.size c) nilS) := ⟨by rw [hw3]; exact ((HP.out.below K3.out).set0 _).set _⟩; have hc3 := P3.out.cell0; have K4 : Aside0 (w3.ownsRow w.heap.size 5 1 (.slice A b.size c) b.size (Lib.strCells b)) := ⟨own_heap K1.out fun k hk => by have := K1.out.lt k hk; have hl := HP.out.lt; rw [hw3, heap_other _ _ _ _ _ (by omega), heap_other _ _ _ _ _ (by omega)]⟩; have HB3 : Aside0 (Below pb w w3) := ⟨by rw [hw3]; exact ((K3.out.mono (Nat.le_of_lt HP.out.lt)).setCell (p := ⟨pb, 0, none⟩) (Nat.le_refl _) _).setCell (p := ⟨pb, 1, none⟩) (Nat.le_refl _) _⟩; clear hw3 hc1 hf1))
      go_region_with (first
        | (go_at_call 11; (refine (b2s _ A b.size c b (by exact conv_at (own_heap K4.out fun _ _ => rfl))).mono ?_); rintro e w4 ⟨rfl, rfl⟩)
        | (go_at_call 10; (refine (HV.out _ (.slice A b.size c) (by exact P3.out.heap rfl)).mono ?_); rintro e w4 ⟨n4, v4, hf, h⟩; rw [HRR.out] at h; obtain ⟨hn2, hm2, b2, o2, F, rfl, hR, hF⟩ := h; simp only [] at hR hF ⊢; have HR2 := Aside0.mk hR; have HFF : Aside0 (∀ x, F x → x.spot = none ∧ x.block < w4.heap.size ∧ pb ≤ x.block) := ⟨fun x hx => ⟨(hF x hx).2.1, (hF x hx).2.2.1, by have := HP.out.lt; have := HB3.out.size; rcases (hF x hx).1 with c | ⟨c, _⟩; exact Nat.le_trans (Nat.le_trans (Nat.le_of_lt HP.out.lt) HB3.out.size) c; cases c⟩⟩; have HF2 := Aside0.mk hf; have HB4 : Aside0 (Below pb w w4) := ⟨by have h2 := fine_below HF2.out (by exact Nat.lt_of_lt_of_le HP.out.lt HB3.out.size); exact Below.trans (by exact ⟨HB3.out.os, HB3.out.tape, HB3.out.output, HB3.out.size, HB3.out.block⟩) h2⟩; clear hf hn2 hm2 hR hF; try rw [HT0.out]))
      all_goals
        go_wp2_with (first | (go_at_call 8; (with_reducible refine (skipTo b t0 t1 m HBS.out HT0.out.symm HT1.out _).mono ?_); rintro e w' ⟨rfl, rfl⟩) | (go_at_call 12; (with_reducible refine (errNew _ _).mono ?_); rintro e w' ⟨⟨T, u, rfl⟩, hb⟩))
        go_ret2
        exact ⟨psaid_no HC1.out T u rfl, (HB4.out.trans (hb.mono (Nat.le_trans (Nat.le_of_lt HP.out.lt) HB4.out.size)))⟩
end Go.Proofs.YtjfofbgnppdlgaaDoor.Fp
