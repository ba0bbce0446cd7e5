/- Proved here: parts of the law FnAlValid (the texts GjBnd GjPay AlGjFnAlValid FpNum FpVal FpBase2 FpObj FpKv IdxStr FjW2 FjW3 FpKey2 FpOb), no conditions of their own beyond what each theorem says. -/
import Derived.Test.YtlhaefblchpjhaaGreatDoorPa5
import Derived.Test.YtlhaefblchpjhaaGreatDoorPa4
import Derived.Laws.DeepStrings4
import Derived.Shelf.Small.Strs
import Derived.Test.YtlhaefblchpjhaaGreatDoorProg
import Derived.Lib.IndexLaws
section
namespace Go.Proofs.YtlhaefblchpjhaaGreatDoor.GjV
open Go.RowKit Go.Proofs.YtlhaefblchpjhaaGreatDoorW.PrintWords Go.Proofs.YtlhaefblchpjhaaGreatDoorW.PrintLast Go.Proofs.YtlhaefblchpjhaaGreatDoorW.PrintMore
open Go.Proofs.YtlhaefblchpjhaaGreatDoor.FjW (cut cut_cut cut_size cut_bytes cut_zero cut_bt bt_out D rd_D rd_D0 D_drop D_len D_nil D_cons ws_at)
open Go.Proofs.YtlhaefblchpjhaaGreatDoor.Fp (nx nx_ge nx_nx nx_le)
attribute [local go_sem] max2_int min2_int max_two min_two max_three min_three max_four min_four
set_option linter.unusedVariables false
set_option linter.unusedSimpArgs false
theorem digs_le (l : List Int) : Fj.digs l ≤ l.length := by
  induction l with
  | nil => exact Nat.le_refl _
  | cons c l ih =>
    unfold Fj.digs
    split
    · simp only [List.length_cons]; omega
    · exact Nat.zero_le _
theorem nd_le {s : ByteArray} {p : Nat} (h : p ≤ s.size) : p ≤ nd s p ∧ nd s p ≤ s.size := by
  unfold nd
  have h1 := digs_le (D s p)
  rw [D_len] at h1
  omega
theorem dg_lt {s : ByteArray} {p : Nat} (h : dg (bt s (p : Int))) : p < s.size := by
  refine Nat.lt_of_not_le fun hle => ?_
  rw [bt_out s _ (by omega)] at h
  exact absurd h.1 (by decide)
theorem gX2_some {s : ByteArray} {p m : Nat} (h : gX2 s p = some m) : p ≤ m ∧ m ≤ s.size := by
  unfold gX2 at h
  split at h
  · rename_i hc
    have := dg_lt hc
    obtain rfl := Option.some.inj h
    have := nd_le (s := s) (p := p + 1) (by omega)
    omega
  · cases h
theorem gX_some {s : ByteArray} {p m : Nat} (hp : p ≤ s.size) (h : gX s p = some m) : p ≤ m ∧ m ≤ s.size := by
  unfold gX at h
  split at h
  · split at h
    · have := gX2_some h; omega
    · have := gX2_some h; omega
  · obtain rfl := Option.some.inj h; omega
theorem gF_some {s : ByteArray} {p m : Nat} (hp : p ≤ s.size) (h : gF s p = some m) : p ≤ m ∧ m ≤ s.size := by
  unfold gF at h
  split at h
  · split at h
    · rename_i hc
      have := dg_lt hc
      have h2 := nd_le (s := s) (p := p + 2) (by omega)
      have := gX_some h2.2 h
      omega
    · cases h
  · exact gX_some hp h
theorem gW_some {s : ByteArray} {p m : Nat} (hp : p < s.size) (h : gW s p = some m) : p ≤ m ∧ m ≤ s.size := by
  unfold gW at h
  split at h
  · have := gF_some (by omega) h; omega
  · have h2 := nd_le (s := s) (p := p) (by omega)
    have := gF_some h2.2 h
    omega
theorem gN_some {s : ByteArray} {p m : Nat} (hp : p < s.size) (h : gN s p = some m) : p ≤ m ∧ m ≤ s.size := by
  unfold gN at h
  split at h
  · split at h
    · rename_i hc
      have := gW_some (dg_lt hc) h
      omega
    · cases h
  · exact gW_some hp h
theorem bt_lt {s : ByteArray} {p : Nat} {c : Int} (h : bt s (p : Int) = c) (hc : c ≠ 0) : p < s.size := by
  refine Nat.lt_of_not_le fun hle => hc ?_
  rw [← h]; exact bt_out s _ (by omega)
theorem oTrue_some {s : ByteArray} {p m : Nat} (h : oTrue s p = some m) : p ≤ m ∧ m ≤ s.size := by
  unfold oTrue at h
  split at h
  · rename_i hc
    have := bt_lt hc.2.2 (by decide)
    obtain rfl := Option.some.inj h
    omega
  · cases h
theorem oNull_some {s : ByteArray} {p m : Nat} (h : oNull s p = some m) : p ≤ m ∧ m ≤ s.size := by
  unfold oNull at h
  split at h
  · rename_i hc
    have := bt_lt hc.2.2 (by decide)
    obtain rfl := Option.some.inj h
    omega
  · cases h
theorem oFalse_some {s : ByteArray} {p m : Nat} (h : oFalse s p = some m) : p ≤ m ∧ m ≤ s.size := by
  unfold oFalse at h
  split at h
  · rename_i hc
    have := bt_lt hc.2.2.2 (by decide)
    obtain rfl := Option.some.inj h
    omega
  · cases h
theorem gA_some {v : Nat → Option Nat} {s : ByteArray} (hB : ∀ q m : Nat, v q = some m → q ≤ m ∧ m ≤ s.size) {n p m : Nat} (h : gA v s n p = some m) : p ≤ m ∧ m ≤ s.size := by
  have h1 := nx_ge s p
  unfold gA at h
  split at h
  · rename_i hc
    have := bt_lt hc (by decide)
    obtain rfl := Option.some.inj h
    omega
  · have := gE_some hB _ _ _ h
    omega
theorem gB_out {v : Nat → Option Nat} {s : ByteArray} {q : Nat} (h : s.size ≤ q) : gB v s q = none := by
  unfold gB; rw [bt_out s _ (by omega)]; rfl
theorem gM_some {v : Nat → Option Nat} {s : ByteArray} (hB : ∀ q m : Nat, v q = some m → q ≤ m ∧ m ≤ s.size) : ∀ (n p m : Nat), gM v s n p = some m → p ≤ m ∧ m ≤ s.size
  | 0, p, m, h => by cases h
  | n + 1, p, m, h => by
    unfold gM at h
    cases a : oQ s p with
    | none => rw [a] at h; cases h
    | some x =>
    rw [a] at h
    dsimp only at h
    cases b : oColon s x with
    | none => rw [b] at h; cases h
    | some y =>
    rw [b] at h
    dsimp only at h
    cases c : v y with
    | none => rw [c] at h; cases h
    | some z =>
    rw [c] at h
    dsimp only at h
    cases d : oComma s z 125 with
    | none => rw [d] at h; cases h
    | some j =>
    rw [d] at h
    dsimp only at h
    have h1 := oQ_some a
    have h2 := oColon_some b
    have h3 := hB _ _ c
    have h4 := oComma_some (.inr rfl) d
    have h5 := nx_ge s (j + 1)
    split at h
    · obtain rfl := Option.some.inj h; omega
    · split at h
      · have := gM_some hB n _ _ h; omega
      · cases h
theorem gO_some {v : Nat → Option Nat} {s : ByteArray} (hB : ∀ q m : Nat, v q = some m → q ≤ m ∧ m ≤ s.size) {n p m : Nat} (h : gO v s n p = some m) : p ≤ m ∧ m ≤ s.size := by
  have h1 := nx_ge s p
  unfold gO at h
  split at h
  · rename_i hc
    have := bt_lt hc (by decide)
    obtain rfl := Option.some.inj h
    omega
  · split at h
    · have := gM_some hB _ _ _ h
      omega
    · cases h
theorem gB_some {v : Nat → Option Nat} {s : ByteArray} (hB : ∀ q m : Nat, v q = some m → q ≤ m ∧ m ≤ s.size) {q m : Nat} (h : gB v s q = some m) : q ≤ m ∧ m ≤ s.size := by
  have hq : q < s.size := Nat.lt_of_not_le fun hle => by rw [gB_out hle] at h; cases h
  unfold gB at h
  split at h
  · have := gO_some hB h; omega
  split at h
  · have := gA_some hB h; omega
  split at h
  · have := oQ_some h; omega
  split at h
  · exact gN_some hq h
  split at h
  · have := oTrue_some h; omega
  split at h
  · have := oFalse_some h; omega
  split at h
  · have := oNull_some h; omega
  · cases h
theorem gV_some {s : ByteArray} : ∀ (k p m : Nat), gV s k p = some m → p ≤ m ∧ m ≤ s.size
  | 0, p, m, h => by cases h
  | k + 1, p, m, h => by
    have h1 := nx_ge s p
    have := gB_some (fun q m => gV_some k q m) h
    omega
theorem gV_out {s : ByteArray} (k p : Nat) (h : s.size ≤ p) : gV s k p = none := by
  cases k with
  | zero => rfl
  | succ k => exact gB_out (Nat.le_trans h (nx_ge s p))
/-- validany of every text, at every place. -/
theorem vval (s : ByteArray) (hs : s.size ≤ 1000000) (w : World) (g cap : Nat) (hR : RdB w g s) : ∀ (k p : Nat), p ≤ s.size → s.size - p < k →
    Calls Tryz.prog 149 #[.slice (some ⟨g, 0, none⟩) s.size cap, .int .i64 (p : Int)] w fun e w' => VS (gV s k p) e ∧ w = w'
  | 0, p, hp, hk => absurd hk (Nat.not_lt_zero _)
  | k + 1, p, hp, hk => vany (gV s k) s hs w g cap p hR hp
      (fun q h1 h2 => vobject (gV s k) s hs w g cap q (s.size + 1) hR h2 (by omega) (fun r h3 h4 => vval s hs w g cap hR k r h3 (by omega)) (gV_some k))
      (fun q h1 h2 => varray (gV s k) s hs w g cap q (s.size + 1) hR h2 (by omega) (fun r h3 h4 => vval s hs w g cap hR k r h3 (by omega)) (gV_some k) (gV_out k))
end Go.Proofs.YtlhaefblchpjhaaGreatDoor.GjV
end
section
namespace Go.Proofs.YtlhaefblchpjhaaGreatDoor.GjV
open Go.RowKit Go.Proofs.YtlhaefblchpjhaaGreatDoorW.PrintWords Go.Proofs.YtlhaefblchpjhaaGreatDoorW.PrintLast Go.Proofs.YtlhaefblchpjhaaGreatDoorW.PrintMore
open Go.Proofs.YtlhaefblchpjhaaGreatDoor.FjW (cut cut_cut cut_size cut_bytes cut_zero cut_bt bt_out D rd_D rd_D0 D_drop D_len D_nil D_cons ws_at)
open Go.Proofs.YtlhaefblchpjhaaGreatDoor.Fp (nx nx_ge nx_nx nx_le)
attribute [local go_sem] max2_int min2_int max_two min_two max_three min_three max_four min_four
set_option linter.unusedVariables false
set_option linter.unusedSimpArgs false
/-- A text is a value with blanks around it. -/
def gP (s : ByteArray) : Bool := match gV s (s.size + 1) (nx s 0) with
  | none => false
  | some m => decide (s.size ≤ nx s m)
set_option maxHeartbeats 8000000 in
set_option maxRecDepth 100000 in
theorem vpay (s : ByteArray) (hs : s.size ≤ 1000000) (w : World) (g cap : Nat) (hR : RdB w g s) :
    Calls Tryz.prog 96 #[.slice (some ⟨g, 0, none⟩) s.size cap, .int .i64 0] w fun e w' => (∃ x : Int, e = .returned (.tuple #[.int .i64 x, .bool (gP s)])) ∧ w = w' := by
  have HR := Aside0.mk hR
  have HV : Aside0 (∀ p : Nat, p ≤ s.size → Calls Tryz.prog 149 #[.slice (some ⟨g, 0, none⟩) s.size cap, .int .i64 (p : Int)] w fun e w' => VS (gV s (s.size + 1) p) e ∧ w = w') := ⟨fun p hp => vval s hs w g cap hR (s.size + 1) p hp (by omega)⟩
  clear hR
  obtain ⟨T, hT⟩ : ∃ T, gP s = T := ⟨_, rfl⟩
  rw [hT]
  have HT := Aside0.mk hT
  clear hT
  go_enter Tryz.func96, Tryz.ntmps96
  go_wp2
  go_loopw [1] (fun v1 wr => ∃ j : Nat, v1 = .int .i64 (j : Int) ∧ w = wr ∧ j ≤ s.size ∧ Aside0 (nx s j = nx s 0)) (fun v1 _ => s.size - (intOf v1).toNat)
  case atStart => exact ⟨0, rfl, rfl, Nat.zero_le _, ⟨rfl⟩⟩
  case round =>
    obtain ⟨j, rfl, rfl, hj, HJ⟩ := hrel
    by_cases hlt : j < s.size
    · have hx := HR.out j hlt
      have hlt' : (j : Int) < (s.size : Int) := by omega
      rcases blank4 (bt s (j : Int)) with ⟨f, hb⟩ | ⟨f, hb⟩ | ⟨f, hb⟩ | ⟨f, hb⟩ | ⟨f1, f2, f3, f4, hb⟩
      rotate_right 1
      · have hQ : nx s 0 = j := by rw [← HJ.out]; exact nx_here (.inr hb)
        have hC := HV.out j hj
        cases hv : gV s (s.size + 1) j with
        | none =>
          rw [hv] at hC
          have HO : Aside0 (T = false) := ⟨by rw [← HT.out]; unfold gP; rw [hQ, hv]⟩
          have HC : Aside0 (Calls Tryz.prog 149 #[.slice (some ⟨g, 0, none⟩) s.size cap, .int .i64 (j : Int)] w fun e w' => (∃ x : Int, e = .returned (.tuple #[.int .i64 x, .bool false])) ∧ w = w') := ⟨hC⟩
          clear hC hv hQ HJ HT hb HV
          go_wp2_with (first | (go_at_call 149; (with_reducible refine HC.out.mono ?_); rintro e w' ⟨⟨x, rfl⟩, rfl⟩))
          go_ret2
          exact ⟨⟨_, by rw [HO.out]; rfl⟩, rfl⟩
        | some m =>
          rw [hv] at hC
          have hm := (gV_some _ _ _ hv).2
          have HO : Aside0 (T = decide (s.size ≤ nx s m)) := ⟨by rw [← HT.out]; unfold gP; rw [hQ, hv]⟩
          have HC : Aside0 (Calls Tryz.prog 149 #[.slice (some ⟨g, 0, none⟩) s.size cap, .int .i64 (j : Int)] w fun e w' => e = .returned (.tuple #[.int .i64 (m : Int), .bool true]) ∧ w = w') := ⟨hC⟩
          clear hC hv hQ HJ HT hb HV
          go_wp2_with (first | (go_at_call 149; (with_reducible refine HC.out.mono ?_); rintro e w' ⟨rfl, rfl⟩))
          clear HC hx hlt hlt' f1 f2 f3 f4 hj
          go_loopw [1] (fun v1 wr => ∃ i : Nat, v1 = .int .i64 (i : Int) ∧ w = wr ∧ i ≤ s.size ∧ Aside0 (nx s i = nx s m)) (fun v1 _ => s.size - (intOf v1).toNat)
          case atStart => exact ⟨m, rfl, rfl, hm, ⟨rfl⟩⟩
          case round =>
            obtain ⟨i, rfl, rfl, hi, HI⟩ := hrel
            by_cases hlt : i < s.size
            · have hx := HR.out i hlt
              have hlt' : (i : Int) < (s.size : Int) := by omega
              rcases blank4 (bt s (i : Int)) with ⟨f, hb⟩ | ⟨f, hb⟩ | ⟨f, hb⟩ | ⟨f, hb⟩ | ⟨f1, f2, f3, f4, hb⟩
              rotate_right 1
              · have HF : Aside0 (T = false) := ⟨by rw [HO.out, ← HI.out, nx_here (.inr hb)]; exact decide_eq_false (by omega)⟩
                clear hb HI HO
                go_wp2
                go_ret2
                exact ⟨⟨_, by rw [HF.out]; rfl⟩, rfl⟩
              all_goals
                have HI' : Aside0 (nx s (i + 1) = nx s m) := ⟨(nx_step hlt hb).trans HI.out⟩
                rw [f] at hx
                clear f hb HI
                go_wp2
                go_roundw
                case rel => exact ⟨i + 1, by go_num, trivial, by omega, HI'⟩
                case measure => simp [intOf]; omega
            · obtain rfl : i = s.size := by omega
              have HF : Aside0 (T = true) := ⟨by rw [HO.out, ← HI.out, nx_here (.inl (Nat.le_refl _))]; exact decide_eq_true (Nat.le_refl _)⟩
              clear HI HO
              go_wp2
              go_ret2
              exact ⟨⟨_, by rw [HF.out]; rfl⟩, rfl⟩
      all_goals
        have HJ' : Aside0 (nx s (j + 1) = nx s 0) := ⟨(nx_step hlt hb).trans HJ.out⟩
        rw [f] at hx
        clear f hb HJ
        go_wp2
        go_roundw
        case rel => exact ⟨j + 1, by go_num, trivial, by omega, HJ'⟩
        case measure => simp [intOf]; omega
    · obtain rfl : j = s.size := by omega
      have HO : Aside0 (T = false) := ⟨by rw [← HT.out]; unfold gP; rw [← HJ.out, nx_here (.inl (Nat.le_refl _)), gV_out _ _ (Nat.le_refl _)]⟩
      go_wp2
      go_ret2
      exact ⟨⟨_, by rw [HO.out]; rfl⟩, rfl⟩
theorem rdb_bytes (w : World) (e : TypeId) (s : ByteArray) : RdB (Lib.bytesWorld w e s) w.heap.size s := fun j hj => by
  rw [Lib.bytesWorld_cell w e s j hj, ← rd_bytesOf]
  have h' : j < s.data.toList.length := by rw [data_length]; exact hj
  simp [bytesOf, rd, List.getD_eq_getElem?_getD, List.getElem?_eq_getElem h']
set_option maxRecDepth 100000 in
theorem vValid (s : ByteArray) (hs : s.size ≤ 1000000) (w : World) : Calls Tryz.prog 52 #[.string s] w fun e w' => e = .returned (.bool (gP s)) ∧ Below w.heap.size w w' := by
  have kb := fun W => print_bytes (P := Tryz.prog) 9 61 5 Tryz.underlying9 Tryz.underlying61 Tryz.underlying5 s W
  have hb := Aside0.mk (bytes_below (Below.refl w.heap.size w) (Nat.le_refl _) 5 s)
  have HR := Aside0.mk (rdb_bytes w 5 s)
  have HS := Aside0.mk hs
  clear hs
  go_enter Tryz.func52, Tryz.ntmps52
  go_wp2_with (first | (go_at_call 96; (refine (vpay s HS.out _ w.heap.size _ HR.out).mono ?_); rintro e w' ⟨⟨x, rfl⟩, rfl⟩) | go_in)
  go_ret
  exact ⟨rfl, hb.out⟩
set_option maxRecDepth 100000 in
theorem gjValid (s : ByteArray) (hs : s.size ≤ 1000000) (w : World) : Calls Tryz.prog 22 #[.string s] w fun e w' => e = .returned (.bool (gP s)) ∧ Below w.heap.size w w' := by
  have HS := Aside0.mk hs
  clear hs
  go_enter Tryz.func22, Tryz.ntmps22
  go_wp2_with (first | (go_at_call 52; (refine (vValid s HS.out _).mono ?_); rintro e w' ⟨rfl, hb⟩; have HB := Aside0.mk hb; clear hb))
  go_ret
  exact ⟨rfl, HB.out⟩
end Go.Proofs.YtlhaefblchpjhaaGreatDoor.GjV
end
section
namespace Go.Proofs.YtlhaefblchpjhaaGreatDoor.ReadXFnAlValid
open Go.RowKit Go.Proofs.YtlhaefblchpjhaaGreatDoor.Base Go.Proofs.YtlhaefblchpjhaaGreatDoor.XFnAlValid Go.Proofs.YtlhaefblchpjhaaGreatDoorW.PrintWords Go.Proofs.YtlhaefblchpjhaaGreatDoorW.PrintLast
open Go.Proofs.YtlhaefblchpjhaaGreatDoor.GjV (gV gB gO gM gA gE gN gW gF gX gX2 nd dg oQ oColon oComma oTrue oFalse oNull nd_step gV_some gV_out oComma_some oColon_some oQ_some gP)
set_option linter.unusedVariables false
set_option linter.unusedSimpArgs false
variable {s : ByteArray}
theorem nx_nb (p : Nat) : Fp.nx s p = nb s p := rfl
theorem digs_dg {r : Nat} (c : dg (bt s (r : Int))) : Fj.digs (D s r) = Fj.digs (D s (r + 1)) + 1 := (digs_at r).trans (if_pos c)
theorem digs_no {r : Nat} (c : ¬ dg (bt s (r : Int))) : Fj.digs (D s r) = 0 := (digs_at r).trans (if_neg c)
theorem dd_eq (r : Nat) : (if Fj.digs (D s r) = 0 then none else some (r + Fj.digs (D s r))) = gX2 s r := by
  unfold gX2
  by_cases c : dg (bt s (r : Int))
  · rw [if_pos c, nd_step c]
    have h := digs_dg c
    rw [if_neg (by omega)]
    rfl
  · rw [if_neg c]
    have h := digs_no c
    rw [if_pos h]
theorem gX_eq (q : Nat) : gX s q = nX s q := by
  unfold gX nX nE
  rw [dd_eq, dd_eq]
theorem gF_eq (q : Nat) : gF s q = nF s q := by
  unfold gF nF
  by_cases c : dg (bt s ((q + 1 : Nat) : Int))
  · have h := digs_dg c
    rw [if_pos c, gX_eq, gX_eq, if_neg (show ¬ Fj.digs (D s (q + 1)) = 0 by omega), show q + 2 = q + 1 + 1 from rfl, nd_step c]
    rfl
  · have h := digs_no c
    rw [if_neg c, gX_eq, if_pos h]
theorem gW_eq (q : Nat) (hc : dg (bt s (q : Int))) : gW s q = nW s q := by
  unfold gW nW
  have h := digs_dg hc
  rw [gF_eq, gF_eq, if_neg (show ¬ Fj.digs (D s q) = 0 by omega)]
  rfl
theorem nW_none (q : Nat) (hc : ¬ dg (bt s (q : Int))) : nW s q = none := by
  unfold nW
  have h := digs_no hc
  rw [if_pos h, if_neg (fun e => hc (by rw [e]; decide))]
theorem gN_eq (q : Nat) (hc : bt s (q : Int) = 45 ∨ dg (bt s (q : Int))) : gN s q = nN s q := by
  unfold gN nN
  by_cases c : bt s (q : Int) = 45
  · rw [if_pos c, if_pos c]
    by_cases d : dg (bt s ((q + 1 : Nat) : Int))
    · rw [if_pos d, gW_eq _ d]
    · rw [if_neg d, nW_none _ d]
  · rw [if_neg c, if_neg c]
    exact gW_eq _ (hc.resolve_left c)
theorem beg4 (a b c d : Int) (hd : d ≠ 0) (q : Nat) : Fj.begins [a, b, c, d] (D s q) = true ↔ (bt s (q : Int) = a ∧ bt s ((q + 1 : Nat) : Int) = b ∧ bt s ((q + 2 : Nat) : Int) = c ∧ bt s ((q + 3 : Nat) : Int) = d) := by
  have e0 : bt s (q : Int) = rd (D s q) ((0 : Nat) : Int) := (rd_D q 0).symm
  rw [e0, ← rd_D q 1, ← rd_D q 2, ← rd_D q 3]
  generalize D s q = l
  match l with
  | [] => simp [Fj.begins, rd]; omega
  | [x] => simp [Fj.begins, rd]; omega
  | [x, y] => simp [Fj.begins, rd]; omega
  | [x, y, z] => simp [Fj.begins, rd]; omega
  | x :: y :: z :: u :: r => simp [Fj.begins, rd]
theorem beg5 (a b c d e : Int) (hd : e ≠ 0) (q : Nat) : Fj.begins [a, b, c, d, e] (D s q) = true ↔ (bt s (q : Int) = a ∧ bt s ((q + 1 : Nat) : Int) = b ∧ bt s ((q + 2 : Nat) : Int) = c ∧ bt s ((q + 3 : Nat) : Int) = d ∧ bt s ((q + 4 : Nat) : Int) = e) := by
  have e0 : bt s (q : Int) = rd (D s q) ((0 : Nat) : Int) := (rd_D q 0).symm
  rw [e0, ← rd_D q 1, ← rd_D q 2, ← rd_D q 3, ← rd_D q 4]
  generalize D s q = l
  match l with
  | [] => simp [Fj.begins, rd]; omega
  | [x] => simp [Fj.begins, rd]; omega
  | [x, y] => simp [Fj.begins, rd]; omega
  | [x, y, z] => simp [Fj.begins, rd]; omega
  | [x, y, z, u] => simp [Fj.begins, rd]; omega
  | x :: y :: z :: u :: t :: r => simp [Fj.begins, rd]
def VG (s : ByteArray) (n : Nat) : Prop := ∀ p : Nat, p ≤ s.size → s.size - p < n → ∀ k f, n ≤ k → 2 * (s.size - p) + 3 ≤ f → gV s k p = (tV s f (nb s p)).map (·.2)
theorem tM_none (f q : Nat) (h : bt s (q : Int) ≠ 34) : tM s f q = none := by
  cases f with
  | zero => rfl
  | succ f => rw [tM, if_neg h]
theorem gM_eq {n : Nat} (hV : VG s n) : ∀ (m q : Nat), s.size - q < m → q < s.size → bt s (q : Int) = 34 → s.size - q ≤ n → ∀ k N f, n ≤ k → m ≤ N → 2 * (s.size - q) + 4 ≤ f → gM (gV s k) s N (q + 1) = (tM s f q).map (·.2.2)
  | 0, q, h, _, _, _ => by omega
  | m + 1, q, h, hq, h34, hn => by
    intro k N f hk hN hf
    obtain ⟨N, rfl⟩ : ∃ i, N = i + 1 := ⟨N - 1, by omega⟩
    obtain ⟨f, rfl⟩ : ∃ i, f = i + 1 := ⟨f - 1, by omega⟩
    rw [gM, tM, if_pos h34]
    show (match qE s (q + 1) with | none => none | some m => _) = _
    cases hb : qE s (q + 1) with
    | none => rfl
    | some b =>
      dsimp only
      have hb1 := oQ_some (show oQ s (q + 1) = some b from hb)
      unfold oColon
      rw [nx_nb]
      by_cases c1 : bt s (nb s b : Int) = 58
      · rw [if_pos c1, if_pos c1]
        dsimp only
        have hin := in_text c1 (by decide)
        have hg := nb_ge (s := s) b
        have e1 := hV (nb s b + 1) hin (by omega) k f hk (by omega)
        rw [e1]
        cases hv : tV s f (nb s (nb s b + 1)) with
        | none => rfl
        | some v =>
          rw [hv] at e1
          have hx : nb s b + 1 ≤ v.2 ∧ v.2 ≤ s.size := gV_some _ _ _ e1
          simp only [Option.map_some]
          unfold oComma
          rw [nx_nb]
          have hg2 := nb_ge (s := s) v.2
          by_cases c2 : bt s (nb s v.2 : Int) = 125
          · rw [if_pos (.inr c2), if_pos c2]
            dsimp only
            rw [if_pos c2]
            rfl
          · rw [if_neg c2]
            by_cases c3 : bt s (nb s v.2 : Int) = 44
            · rw [if_pos (.inl c3), if_pos c3]
              dsimp only
              rw [if_neg c2, nx_nb]
              have hin2 := in_text c3 (by decide)
              by_cases c4 : bt s (nb s (nb s v.2 + 1) : Int) = 34
              · have hin3 := in_text c4 (by decide)
                have hg3 := nb_ge (s := s) (nb s v.2 + 1)
                rw [if_pos c4, gM_eq hV m (nb s (nb s v.2 + 1)) (by omega) hin3 c4 (by omega) k N f hk (by omega) (by omega)]
                cases tM s f (nb s (nb s v.2 + 1)) with
                | none => rfl
                | some r => rfl
              · rw [if_neg c4, tM_none _ _ c4]; rfl
            · rw [if_neg (fun h => h.elim c3 c2), if_neg c3]; rfl
      · rw [if_neg c1, if_neg c1]; rfl
theorem nb_nb (p : Nat) : nb s (nb s p) = nb s p := Fp.nx_nx s p
theorem gE_eq {n : Nat} (hV : VG s n) : ∀ (m p : Nat), s.size - p < m → p ≤ s.size → s.size - p < n → ∀ k N f, n ≤ k → m ≤ N → 2 * (s.size - p) + 4 ≤ f → gE (gV s k) s N p = (tE s f (nb s p)).map (·.2)
  | 0, p, h, _, _ => by omega
  | m + 1, p, h, hp, hn => by
    intro k N f hk hN hf
    obtain ⟨N, rfl⟩ : ∃ i, N = i + 1 := ⟨N - 1, by omega⟩
    obtain ⟨f, rfl⟩ : ∃ i, f = i + 1 := ⟨f - 1, by omega⟩
    rw [gE, tE]
    have e1 := hV p hp hn k f hk (by omega)
    rw [e1]
    cases hv : tV s f (nb s p) with
    | none => rfl
    | some v =>
      rw [hv] at e1
      have hx : p ≤ v.2 ∧ v.2 ≤ s.size := gV_some _ _ _ e1
      have hlt : p < s.size := by
        refine Nat.lt_of_not_le fun hle => ?_
        rw [gV_out k p hle] at e1
        cases e1
      simp only [Option.map_some]
      unfold oComma
      rw [nx_nb]
      have hg2 := nb_ge (s := s) v.2
      by_cases c2 : bt s (nb s v.2 : Int) = 93
      · rw [if_pos (.inr c2), if_pos c2]
        dsimp only
        rw [if_pos c2]
        rfl
      · rw [if_neg c2]
        by_cases c3 : bt s (nb s v.2 : Int) = 44
        · rw [if_pos (.inl c3), if_pos c3]
          dsimp only
          rw [if_neg c2]
          have hin2 := in_text c3 (by decide)
          rw [gE_eq hV m (nb s v.2 + 1) (by omega) (by omega) (by omega) k N f hk (by omega) (by omega)]
          cases tE s f (nb s (nb s v.2 + 1)) with
          | none => rfl
          | some r => rfl
        · rw [if_neg (fun h => h.elim c3 c2), if_neg c3]; rfl
theorem gB_eq {n : Nat} (hV : VG s n) (q : Nat) (hq : q ≤ s.size) (hn : s.size - q < n + 1) (k f : Nat) (hk : n ≤ k) (hf : 2 * (s.size - q) + 3 ≤ f) : gB (gV s k) s q = (tV s f q).map (·.2) := by
  obtain ⟨f, rfl⟩ : ∃ i, f = i + 1 := ⟨f - 1, by omega⟩
  unfold gB
  rw [tV]
  by_cases c1 : bt s (q : Int) = 123
  · have hin := in_text c1 (by decide)
    rw [if_pos c1, if_pos c1]
    unfold gO
    rw [nx_nb]
    by_cases d1 : bt s (nb s (q + 1) : Int) = 125
    · rw [if_pos d1, if_pos d1]; rfl
    · rw [if_neg d1, if_neg d1]
      have hg := nb_ge (s := s) (q + 1)
      by_cases d2 : bt s (nb s (q + 1) : Int) = 34
      · have hin2 := in_text d2 (by decide)
        rw [if_pos d2, gM_eq hV (s.size + 1) (nb s (q + 1)) (by omega) hin2 d2 (by omega) k (s.size + 1) f hk (Nat.le_refl _) (by omega)]
        cases tM s f (nb s (q + 1)) with
        | none => rfl
        | some r => rfl
      · rw [if_neg d2, tM_none _ _ d2]; rfl
  rw [if_neg c1, if_neg c1]
  by_cases c2 : bt s (q : Int) = 91
  · have hin := in_text c2 (by decide)
    rw [if_pos c2, if_pos c2]
    unfold gA
    rw [nx_nb]
    by_cases d1 : bt s (nb s (q + 1) : Int) = 93
    · rw [if_pos d1, if_pos d1]; rfl
    · rw [if_neg d1, if_neg d1]
      have hg := nb_ge (s := s) (q + 1)
      have hl := nb_le (s := s) (q + 1) hin
      rw [gE_eq hV (s.size + 1) (nb s (q + 1)) (by omega) hl (by omega) k (s.size + 1) f hk (Nat.le_refl _) (by omega), nb_nb]
      cases tE s f (nb s (q + 1)) with
      | none => rfl
      | some r => rfl
  rw [if_neg c2, if_neg c2]
  by_cases c3 : bt s (q : Int) = 34
  · rw [if_pos c3, if_pos c3]
    show qE s (q + 1) = _
    cases qE s (q + 1) with
    | none => rfl
    | some r => rfl
  rw [if_neg c3, if_neg c3]
  by_cases c4 : bt s (q : Int) = 45 ∨ dg (bt s (q : Int))
  · rw [if_pos c4, if_pos (show bt s (q : Int) = 45 ∨ (48 ≤ bt s (q : Int) ∧ bt s (q : Int) ≤ 57) from c4), gN_eq q c4]
    cases nN s q with
    | none => rfl
    | some r => rfl
  rw [if_neg c4, if_neg (show ¬ (bt s (q : Int) = 45 ∨ (48 ≤ bt s (q : Int) ∧ bt s (q : Int) ≤ 57)) from c4)]
  unfold wordk oTrue oFalse oNull
  have b1 := beg4 (s := s) 110 117 108 108 (by decide) q
  have b2 := beg5 (s := s) 102 97 108 115 101 (by decide) q
  have b3 := beg4 (s := s) 116 114 117 101 (by decide) q
  have e2 : q + 1 + 1 = q + 2 := rfl
  have e3 : q + 1 + 2 = q + 3 := rfl
  have e4 : q + 1 + 3 = q + 4 := rfl
  rw [e2, e3, e4]
  by_cases c5 : bt s (q : Int) = 116
  · rw [if_pos c5]
    have n1 : ¬ Fj.begins [110, 117, 108, 108] (D s q) = true := fun h => by have := (b1.mp h).1; omega
    have n2 : ¬ Fj.begins [102, 97, 108, 115, 101] (D s q) = true := fun h => by have := (b2.mp h).1; omega
    rw [if_neg n1, if_neg n2]
    by_cases c : bt s ((q + 1 : Nat) : Int) = 114 ∧ bt s ((q + 2 : Nat) : Int) = 117 ∧ bt s ((q + 3 : Nat) : Int) = 101
    · rw [if_pos c, if_pos (b3.mpr ⟨c5, c⟩)]; rfl
    · rw [if_neg c, if_neg (fun h => c (b3.mp h).2)]; rfl
  rw [if_neg c5]
  have n3 : ¬ Fj.begins [116, 114, 117, 101] (D s q) = true := fun h => c5 (b3.mp h).1
  by_cases c6 : bt s (q : Int) = 102
  · rw [if_pos c6]
    have n1 : ¬ Fj.begins [110, 117, 108, 108] (D s q) = true := fun h => by have := (b1.mp h).1; omega
    rw [if_neg n1, if_neg n3]
    by_cases c : bt s ((q + 1 : Nat) : Int) = 97 ∧ bt s ((q + 2 : Nat) : Int) = 108 ∧ bt s ((q + 3 : Nat) : Int) = 115 ∧ bt s ((q + 4 : Nat) : Int) = 101
    · rw [if_pos c, if_pos (b2.mpr ⟨c6, c⟩)]; rfl
    · rw [if_neg c, if_neg (fun h => c (b2.mp h).2)]; rfl
  rw [if_neg c6]
  have n2 : ¬ Fj.begins [102, 97, 108, 115, 101] (D s q) = true := fun h => c6 (b2.mp h).1
  rw [if_neg n2, if_neg n3]
  by_cases c7 : bt s (q : Int) = 110
  · rw [if_pos c7]
    by_cases c : bt s ((q + 1 : Nat) : Int) = 117 ∧ bt s ((q + 2 : Nat) : Int) = 108 ∧ bt s ((q + 3 : Nat) : Int) = 108
    · rw [if_pos c, if_pos (b1.mpr ⟨c7, c⟩)]; rfl
    · rw [if_neg c, if_neg (fun h => c (b1.mp h).2)]; rfl
  rw [if_neg c7, if_neg (fun h => c7 (b1.mp h).1)]; rfl
theorem all_g : ∀ n : Nat, VG s n
  | 0 => fun p _ h => by omega
  | n + 1 => fun p hp hn k f hk hf => by
    obtain ⟨k, rfl⟩ : ∃ i, k = i + 1 := ⟨k - 1, by omega⟩
    have hg := nb_ge (s := s) p
    exact gB_eq (all_g n) (nb s p) (nb_le p hp) (by omega) k f (by omega) (by omega)
/-- A text is taken by gjson just if the reference's reader takes it wholly. -/
theorem gP_eq (f : Nat) (hf : 2 * s.size + 3 ≤ f) : gP s = match tV s f (nb s 0) with
    | none => false
    | some v => decide (s.size ≤ nb s v.2) := by
  unfold gP
  have hl := nb_le (s := s) 0 (Nat.zero_le _)
  rw [nx_nb, all_g (s.size + 1) (nb s 0) hl (by omega) (s.size + 1) f (Nat.le_refl _) (by omega), nb_nb]
  cases tV s f (nb s 0) with
  | none => rfl
  | some v => rfl
end Go.Proofs.YtlhaefblchpjhaaGreatDoor.ReadXFnAlValid
end
section
namespace Go.Proofs.YtlhaefblchpjhaaGreatDoor.Fp
open Go.RowKit Go.Proofs.YtlhaefblchpjhaaGreatDoorW.PrintWords Go.Proofs.YtlhaefblchpjhaaGreatDoorW.PrintLast Go.Proofs.YtlhaefblchpjhaaGreatDoorW.PrintMore
open Go.Proofs.YtlhaefblchpjhaaGreatDoor.FjW (cut cut_cut cut_size cut_bytes cut_zero cut_bt bt_out D rd_D rd_D0 D_drop D_len D_nil D_cons ws_at skipWS errNew)
attribute [local go_sem] max2_int min2_int max_two min_two max_three min_three max_four min_four
set_option linter.unusedVariables false
set_option linter.unusedSimpArgs false
def ZzSaid (s t : ByteArray) (e : Ending) : Prop := ∃ r : Bool, e = .returned (.bool r) ∧ (r = true ↔ ∀ i : Nat, i < 3 → low (bt s (i : Int)) = bt t (i : Int))
theorem zz_yes {s t : ByteArray} {e : Ending} (he : e = .returned (.bool true)) (h : ∀ i : Nat, i < 3 → low (bt s (i : Int)) = bt t (i : Int)) : ZzSaid s t e := ⟨true, he, fun _ => h, fun _ => rfl⟩
theorem zz_no {s t : ByteArray} {e : Ending} (he : e = .returned (.bool false)) (h : ¬ ∀ i : Nat, i < 3 → low (bt s (i : Int)) = bt t (i : Int)) : ZzSaid s t e := ⟨false, he, (fun x => by cases x), fun x => absurd x h⟩
set_option maxHeartbeats 4000000 in
theorem zz (s t : ByteArray) (hs : s.size = 3) (ht : t.size = 3) (w : World) :
    Calls Tryz.prog 125 #[.string s, .string t] w fun e w' => ZzSaid s t e ∧ w = w' := by
  have e0 : ((s.size : Int) != (t.size : Int)) = false := bne_eq_false_iff_eq.mpr (by omega)
  go_enter Tryz.func125, Tryz.ntmps125
  go_wp2
  go_loop [5] (fun v => ∃ j : Nat, v = .int .i64 (j : Int) ∧ j ≤ 3 ∧ Aside0 (∀ i : Nat, i < j → low (bt s (i : Int)) = bt t (i : Int))) (fun v => 3 - (intOf v).toNat)
  case atStart => exact ⟨0, rfl, by omega, ⟨fun i hi => absurd hi (Nat.not_lt_zero _)⟩⟩
  case round =>
    obtain ⟨j, rfl, hj, HR⟩ := hrel
    by_cases hlt : j < 3
    · have hlt2 : j < s.size := by omega
      have hlt3 : j < t.size := by omega
      have hx : ∀ h : j < s.size, ((s[j]'h).toNat : Int) = bt s (j : Int) := bt_at s (j : Int)
      have hy : ∀ h : j < t.size, ((t[j]'h).toNat : Int) = bt t (j : Int) := bt_at t (j : Int)
      obtain ⟨b0, b1⟩ : 0 ≤ bt s (j : Int) ∧ bt s (j : Int) ≤ 255 := bt_range s _
      by_cases c1 : 65 ≤ bt s (j : Int) ∧ bt s (j : Int) ≤ 90
      · have hl : low (bt s (j : Int)) = bt s (j : Int) + 32 := if_pos c1
        have e1 : decide (65 ≤ bt s (j : Int)) = true := decide_eq_true c1.1
        have e2 : decide (bt s (j : Int) ≤ 90) = true := decide_eq_true c1.2
        have e3 : (bt s (j : Int) + 32) % 256 = bt s (j : Int) + 32 := by omega
        by_cases c2 : bt s (j : Int) + 32 = bt t (j : Int)
        · have e4 : (bt s (j : Int) + 32 != bt t (j : Int)) = false := bne_eq_false_iff_eq.mpr c2
          have HR' : Aside0 (∀ i : Nat, i < j + 1 → low (bt s (i : Int)) = bt t (i : Int)) := ⟨fun i hi => by
            by_cases e : i = j
            · subst e; rw [hl, c2]
            · exact HR.out i (by omega)⟩
          clear HR c2 hl
          go_wp2
          go_round
          case rel => exact ⟨j + 1, by go_num, by omega, HR'⟩
          case measure => simp [intOf]; omega
        · have e4 : (bt s (j : Int) + 32 != bt t (j : Int)) = true := bne_iff_ne.mpr c2
          have HN : Aside0 (¬ ∀ i : Nat, i < 3 → low (bt s (i : Int)) = bt t (i : Int)) := ⟨fun h => c2 (by rw [← h j hlt, hl])⟩
          clear HR c2 hl
          go_wp2
          go_ret
          exact ⟨zz_no rfl HN.out, rfl⟩
      · have hl : low (bt s (j : Int)) = bt s (j : Int) := if_neg c1
        have c1' : bt s (j : Int) < 65 ∨ (65 ≤ bt s (j : Int) ∧ 90 < bt s (j : Int)) := by omega
        clear c1
        by_cases c2 : bt s (j : Int) = bt t (j : Int)
        · have e4 : (bt s (j : Int) != bt t (j : Int)) = false := bne_eq_false_iff_eq.mpr c2
          have HR' : Aside0 (∀ i : Nat, i < j + 1 → low (bt s (i : Int)) = bt t (i : Int)) := ⟨fun i hi => by
            by_cases e : i = j
            · subst e; rw [hl, c2]
            · exact HR.out i (by omega)⟩
          clear HR c2 hl
          rcases c1' with c1 | ⟨c1, c3⟩
          · have e1 : decide (65 ≤ bt s (j : Int)) = false := decide_eq_false (by omega)
            clear c1
            go_wp2
            go_round
            case rel => exact ⟨j + 1, by go_num, by omega, HR'⟩
            case measure => simp [intOf]; omega
          · have e1 : decide (65 ≤ bt s (j : Int)) = true := decide_eq_true c1
            have e2 : decide (bt s (j : Int) ≤ 90) = false := decide_eq_false (by omega)
            clear c1 c3
            go_wp2
            go_round
            case rel => exact ⟨j + 1, by go_num, by omega, HR'⟩
            case measure => simp [intOf]; omega
        · have e4 : (bt s (j : Int) != bt t (j : Int)) = true := bne_iff_ne.mpr c2
          have HN : Aside0 (¬ ∀ i : Nat, i < 3 → low (bt s (i : Int)) = bt t (i : Int)) := ⟨fun h => c2 (by rw [← h j hlt, hl])⟩
          clear HR c2 hl
          rcases c1' with c1 | ⟨c1, c3⟩
          · have e1 : decide (65 ≤ bt s (j : Int)) = false := decide_eq_false (by omega)
            clear c1
            go_wp2
            go_ret
            exact ⟨zz_no rfl HN.out, rfl⟩
          · have e1 : decide (65 ≤ bt s (j : Int)) = true := decide_eq_true c1
            have e2 : decide (bt s (j : Int) ≤ 90) = false := decide_eq_false (by omega)
            clear c1 c3
            go_wp2
            go_ret
            exact ⟨zz_no rfl HN.out, rfl⟩
    · obtain rfl : j = 3 := by omega
      go_wp2
      go_ret
      exact ⟨zz_yes rfl HR.out, rfl⟩
theorem ex_bt (a : ByteArray) (j i : Nat) (h : j + 3 ≤ a.size) (hi : i < 3) : bt (a.extract j (j + 3)) (i : Int) = bt a ((j + i : Nat) : Int) := by
  have e1 : bytesOf (a.extract j (j + 3)) = ((bytesOf a).drop j).take 3 := by
    unfold bytesOf
    rw [ByteArray.data_extract, Array.toList_extract, List.extract_eq_take_drop, List.map_take, List.map_drop]
    congr 1
    omega
  rw [← rd_bytesOf, e1, ← rd_D]
  unfold rd
  simp only [Int.toNat_natCast, List.getD_eq_getElem?_getD, List.getElem?_take]
  rw [if_pos hi]
theorem zzw (a : ByteArray) (j : Nat) (h : j + 3 ≤ a.size) (c0 c1 c2 : UInt8) (b : Bool) (hb : fold3 (D a j) (c0.toNat : Int) (c1.toNat : Int) (c2.toNat : Int) = b) (w : World) :
    Calls Tryz.prog 125 #[.string (a.extract j (j + 3)), .string ⟨#[c0, c1, c2]⟩] w fun e w' => e = .returned (.bool b) ∧ w = w' := by
  refine (zz _ ⟨#[c0, c1, c2]⟩ (by simp [ByteArray.size_extract]; omega) rfl w).mono fun e w' hh => ?_
  obtain ⟨⟨r, rfl, hr⟩, hw⟩ := hh
  refine ⟨?_, hw⟩
  congr 2
  rw [← hb, Bool.eq_iff_iff, hr]
  unfold fold3
  simp only [Bool.and_eq_true, decide_eq_true_eq, beq_iff_eq]
  have r0 : rd (D a j) 0 = bt a ((j + 0 : Nat) : Int) := rd_D a j 0
  have r1 : rd (D a j) 1 = bt a ((j + 1 : Nat) : Int) := rd_D a j 1
  have r2 : rd (D a j) 2 = bt a ((j + 2 : Nat) : Int) := rd_D a j 2
  rw [r0, r1, r2]
  have t0 : bt (⟨#[c0, c1, c2]⟩ : ByteArray) ((0 : Nat) : Int) = (c0.toNat : Int) := rfl
  have t1 : bt (⟨#[c0, c1, c2]⟩ : ByteArray) ((1 : Nat) : Int) = (c1.toNat : Int) := rfl
  have t2 : bt (⟨#[c0, c1, c2]⟩ : ByteArray) ((2 : Nat) : Int) = (c2.toNat : Int) := rfl
  constructor
  · intro h'
    have a0 := h' 0 (by omega); have a1 := h' 1 (by omega); have a2 := h' 2 (by omega)
    rw [ex_bt a j 0 h (by omega), t0] at a0
    rw [ex_bt a j 1 h (by omega), t1] at a1
    rw [ex_bt a j 2 h (by omega), t2] at a2
    exact ⟨by rw [D_len]; omega, a0, a1, a2⟩
  · rintro ⟨_, a0, a1, a2⟩ i hi
    rw [ex_bt a j i h hi]
    have : i = 0 ∨ i = 1 ∨ i = 2 := by omega
    rcases this with rfl | rfl | rfl
    · rw [a0, t0]
    · rw [a1, t1]
    · rw [a2, t2]
/-- The number's bytes. -/
theorem nlen_at (a : ByteArray) (p : Nat) : nlen (D a p) = if p < a.size ∧ nb (bt a (p : Int)) = true then nlen (D a (p + 1)) + 1 else 0 := by
  by_cases h : p < a.size
  · rw [D_cons a p h, nlen]
    by_cases b : nb (bt a (p : Int)) = true
    · rw [if_pos b, if_pos ⟨h, b⟩]
    · rw [if_neg b, if_neg (fun x => b x.2)]
  · rw [D_nil a p (by omega), if_neg (fun x => h x.1)]; rfl
theorem nb_or (c : Int) : (48 ≤ c ∧ c ≤ 57 ∧ nb c = true) ∨ ((c < 48 ∨ (48 ≤ c ∧ 57 < c)) ∧ ((c = 46 ∧ nb c = true) ∨ ((c == 46) = false ∧ c = 45 ∧ nb c = true) ∨ ((c == 46) = false ∧ (c == 45) = false ∧ c = 101 ∧ nb c = true) ∨ ((c == 46) = false ∧ (c == 45) = false ∧ (c == 101) = false ∧ c = 69 ∧ nb c = true) ∨
    ((c == 46) = false ∧ (c == 45) = false ∧ (c == 101) = false ∧ (c == 69) = false ∧ c = 43 ∧ nb c = true) ∨ ((c == 46) = false ∧ (c == 45) = false ∧ (c == 101) = false ∧ (c == 69) = false ∧ (c == 43) = false ∧ nb c = false))) := by
  by_cases a : 48 ≤ c ∧ c ≤ 57
  · exact .inl ⟨a.1, a.2, by unfold nb; rw [decide_eq_true a]; rfl⟩
  · refine .inr ⟨by omega, ?_⟩
    by_cases b : c = 46
    · subst b; exact .inl ⟨rfl, rfl⟩
    by_cases d : c = 45
    · subst d; exact .inr (.inl ⟨rfl, rfl, rfl⟩)
    by_cases e : c = 101
    · subst e; exact .inr (.inr (.inl ⟨rfl, rfl, rfl, rfl⟩))
    by_cases f : c = 69
    · subst f; exact .inr (.inr (.inr (.inl ⟨rfl, rfl, rfl, rfl, rfl⟩)))
    by_cases g : c = 43
    · subst g; exact .inr (.inr (.inr (.inr (.inl ⟨rfl, rfl, rfl, rfl, rfl, rfl⟩))))
    have b' : (c == 46) = false := beq_eq_false_iff_ne.mpr b
    have d' : (c == 45) = false := beq_eq_false_iff_ne.mpr d
    have e' : (c == 101) = false := beq_eq_false_iff_ne.mpr e
    have f' : (c == 69) = false := beq_eq_false_iff_ne.mpr f
    have g' : (c == 43) = false := beq_eq_false_iff_ne.mpr g
    exact .inr (.inr (.inr (.inr (.inr ⟨b', d', e', f', g', by unfold nb; rw [decide_eq_false a, b', d', e', f', g']; rfl⟩))))
def NumSaid (a : ByteArray) (o : Option Nat) (e : Ending) : Prop := match o with
  | none => ∃ x y T u, e = .returned (.tuple #[.string x, .string y, .iface T u])
  | some m => e = .returned (.tuple #[.string (a.extract 0 m), .string (cut a m), .nilIface])
theorem num_none {a : ByteArray} {o : Option Nat} (h : o = none) (x y : ByteArray) (T : TypeId) (u : Value) {e : Ending} (he : e = .returned (.tuple #[.string x, .string y, .iface T u])) : NumSaid a o e := by subst h; exact ⟨x, y, T, u, he⟩
theorem num_some {a x y : ByteArray} {o : Option Nat} {m : Nat} (h : o = some m) (hx : x = a.extract 0 m) (hy : y = cut a m) {e : Ending} (he : e = .returned (.tuple #[.string x, .string y, .nilIface])) : NumSaid a o e := by subst h hx hy; exact he
set_option maxHeartbeats 8000000 in
set_option maxRecDepth 100000 in
theorem rawNumber (a : ByteArray) (hs : a.size ≤ 1000000) (w : World) :
    Calls Tryz.prog 126 #[.string a] w fun e w' => NumSaid a (rawNum (bytesOf a)) e ∧ Below w.heap.size w w' := by
  have HL : Aside0 ((bytesOf a).length = a.size) := ⟨bytesOf_length a⟩
  go_enter Tryz.func126, Tryz.ntmps126
  go_wp2
  go_loop [0, 11] (fun v0 v => v0 = .string a ∧ ∃ j : Nat, v = .int .i64 (j : Int) ∧ j ≤ a.size ∧ Aside0 (nlen (bytesOf a) = j + nlen (D a j))) (fun v0 v => a.size - (intOf v).toNat)
  case atStart => exact ⟨rfl, 0, rfl, Nat.zero_le _, ⟨by rw [Nat.zero_add]; rfl⟩⟩
  case round =>
    obtain ⟨rfl, j, rfl, hj, HR⟩ := hrel
    by_cases hlt : j < a.size
    · have hx : ∀ h : j < a.size, ((a[j]'h).toNat : Int) = bt a (j : Int) := bt_at a (j : Int)
      have N1 := nlen_at a j
      rcases nb_or (bt a (j : Int)) with ⟨f1, f2, hb⟩ | ⟨f1, f2⟩
      · have HR' : Aside0 (nlen (bytesOf a) = j + 1 + nlen (D a (j + 1))) := ⟨by rw [HR.out, N1, if_pos ⟨hlt, hb⟩]; omega⟩
        have e1 : decide (48 ≤ bt a (j : Int)) = true := decide_eq_true f1
        have e2 : decide (bt a (j : Int) ≤ 57) = true := decide_eq_true f2
        clear N1 hb HR f1 f2
        go_wp2
        go_round
        case rel => exact ⟨rfl, j + 1, by go_num, by omega, HR'⟩
        case measure => simp [intOf]; omega
      · rcases f2 with ⟨f2, hb⟩ | ⟨f2, f3, hb⟩ | ⟨f2, f3, f4, hb⟩ | ⟨f2, f3, f4, f5, hb⟩ | ⟨f2, f3, f4, f5, f6, hb⟩ | ⟨f2, f3, f4, f5, f6, hb⟩
        rotate_right 1
        · have HJ : Aside0 (nlen (bytesOf a) = j) := ⟨by rw [HR.out, N1, if_neg (fun x => by rw [hb] at x; cases x.2)]; rfl⟩
          have HRN : Aside0 (rawNum (bytesOf a) = if j = 0 ∨ (j = 1 ∧ (bt a 0 = 45 ∨ bt a 0 = 43)) then (if (fold3 (D a j) 105 110 102 || fold3 (D a j) 110 97 110) = true then some (j + 3) else none) else some j) := ⟨by
            unfold rawNum
            rw [HJ.out, if_neg (by rw [HL.out]; omega), rd_bytesOf]⟩
          clear N1 hb HR
          have e12 : decide (48 ≤ bt a (j : Int)) = false ∨ (decide (48 ≤ bt a (j : Int)) = true ∧ decide (bt a (j : Int) ≤ 57) = false) := by
            rcases f1 with f1 | ⟨f1, g1⟩
            · exact .inl (decide_eq_false (by omega))
            · exact .inr ⟨decide_eq_true f1, decide_eq_false (by omega)⟩
          clear f1
          have hx0 : ∀ h : 0 < a.size, ((a[0]'h).toNat : Int) = bt a 0 := bt_at a 0
          have hz : 0 < a.size := by omega
          by_cases cA : j = 0 ∨ (j = 1 ∧ (bt a 0 = 45 ∨ bt a 0 = 43))
          · have HR2 : Aside0 (rawNum (bytesOf a) = if (fold3 (D a j) 105 110 102 || fold3 (D a j) 110 97 110) = true then some (j + 3) else none) := ⟨by rw [HRN.out, if_pos cA]⟩
            have cB : ((j : Int) == 0) = true ∨ (((j : Int) == 0) = false ∧ ((j : Int) == 1) = true ∧ ((bt a 0 == 45) = true ∨ ((bt a 0 == 45) = false ∧ (bt a 0 == 43) = true))) := by
              rcases cA with c | ⟨c, d⟩
              · exact .inl (beq_iff_eq.mpr (by omega))
              · refine .inr ⟨beq_eq_false_iff_ne.mpr (by omega), beq_iff_eq.mpr (by omega), ?_⟩
                by_cases e : bt a 0 = 45
                · exact .inl (beq_iff_eq.mpr e)
                · exact .inr ⟨beq_eq_false_iff_ne.mpr e, beq_iff_eq.mpr (d.resolve_left e)⟩
            clear HRN cA
            by_cases c3 : 3 ≤ a.size - j
            · have q3 : decide (3 ≤ (a.size : Int) - (j : Int)) = true := decide_eq_true (by omega)
              have q4 : (j : Int) + 3 ≤ (a.size : Int) := by omega
              have q5 : ((j : Int) + 3).toNat = j + 3 := by omega
              have q6 : 0 ≤ (j : Int) + 3 := by omega
              have q7 : (j : Int) ≤ (j : Int) + 3 := by omega
              have HX1 := Aside0.mk (zzw a j (by omega) 105 110 102 _ rfl)
              have HX2 := Aside0.mk (zzw a j (by omega) 110 97 110 _ rfl)
              clear c3
              cases z1 : fold3 (D a j) 105 110 102 with
              | true =>
                have HC : Aside0 (rawNum (bytesOf a) = some (j + 3)) := ⟨by rw [HR2.out, z1]; rfl⟩
                have HZ1 := Aside0.mk z1
                clear z1 HR2 HX2
                rcases e12 with e1 | ⟨e1, e2⟩ <;> rcases cB with g1 | ⟨g1, g2, g3 | ⟨g3, g4⟩⟩
                all_goals
                  go_wp2_with (first | (go_at_call 125; (with_reducible refine (HX1.out _).mono ?_); rintro e w' ⟨rfl, rfl⟩; erw [HZ1.out]))
                  go_quiet (fail)
                  go_wp2
                  go_ret3
                  exact ⟨num_some HC.out rfl rfl rfl, pw_below_drewN (Below.refl _ _) _⟩
              | false =>
                cases z2 : fold3 (D a j) 110 97 110 with
                | true =>
                  have HC : Aside0 (rawNum (bytesOf a) = some (j + 3)) := ⟨by rw [HR2.out, z1, z2]; rfl⟩
                  have HZ1 := Aside0.mk z1
                  have HZ2 := Aside0.mk z2
                  clear z1 z2 HR2
                  rcases e12 with e1 | ⟨e1, e2⟩ <;> rcases cB with g1 | ⟨g1, g2, g3 | ⟨g3, g4⟩⟩
                  all_goals
                    go_wp2_with (first
                      | (go_at_call 125; (with_reducible refine (HX1.out _).mono ?_); rintro e w' ⟨rfl, rfl⟩; erw [HZ1.out])
                      | (go_at_call 125; (with_reducible refine (HX2.out _).mono ?_); rintro e w' ⟨rfl, rfl⟩; erw [HZ2.out]))
                    go_quiet (fail)
                    go_wp2
                    go_ret3
                    exact ⟨num_some HC.out rfl rfl rfl, pw_below_drewN (Below.refl _ _) _⟩
                | false =>
                  have HC : Aside0 (rawNum (bytesOf a) = none) := ⟨by rw [HR2.out, z1, z2]; rfl⟩
                  have HZ1 := Aside0.mk z1
                  have HZ2 := Aside0.mk z2
                  clear z1 z2 HR2
                  rcases e12 with e1 | ⟨e1, e2⟩ <;> rcases cB with g1 | ⟨g1, g2, g3 | ⟨g3, g4⟩⟩
                  all_goals
                    go_wp2_with (first
                      | (go_at_call 125; (with_reducible refine (HX1.out _).mono ?_); rintro e w' ⟨rfl, rfl⟩; erw [HZ1.out])
                      | (go_at_call 125; (with_reducible refine (HX2.out _).mono ?_); rintro e w' ⟨rfl, rfl⟩; erw [HZ2.out])
                      | (go_at_call 72; (with_reducible refine (errNew _ _).mono ?_); rintro e w' ⟨⟨T, u, rfl⟩, hb⟩))
                    go_ret3
                    exact ⟨num_none HC.out _ _ T u rfl, hb⟩
            · have q3 : decide (3 ≤ (a.size : Int) - (j : Int)) = false := decide_eq_false (by omega)
              have HC : Aside0 (rawNum (bytesOf a) = none) := ⟨by
                have e : ∀ x y z, fold3 (D a j) x y z = false := fun x y z => by
                  unfold fold3
                  rw [decide_eq_false (by rw [D_len]; omega)]
                  rfl
                rw [HR2.out, e, e]; rfl⟩
              have c9 : a.size - j < 3 := by omega
              clear c3 HR2
              rcases e12 with e1 | ⟨e1, e2⟩ <;> rcases cB with g1 | ⟨g1, g2, g3 | ⟨g3, g4⟩⟩
              all_goals
                go_wp2_with (first | (go_at_call 72; (with_reducible refine (errNew _ _).mono ?_); rintro e w' ⟨⟨T, u, rfl⟩, hb⟩))
                all_goals first | (exfalso; omega) | (go_ret3; exact ⟨num_none HC.out _ _ T u rfl, hb⟩)
          · have HC : Aside0 (rawNum (bytesOf a) = some j) := ⟨by rw [HRN.out, if_neg cA]⟩
            have g1 : ((j : Int) == 0) = false := beq_eq_false_iff_ne.mpr (by omega)
            have cB : ((j : Int) == 1) = false ∨ (((j : Int) == 1) = true ∧ (bt a 0 == 45) = false ∧ (bt a 0 == 43) = false) := by
              by_cases c : j = 1
              · exact .inr ⟨beq_iff_eq.mpr (by omega), beq_eq_false_iff_ne.mpr (fun e => cA (.inr ⟨c, .inl e⟩)), beq_eq_false_iff_ne.mpr (fun e => cA (.inr ⟨c, .inr e⟩))⟩
              · exact .inl (beq_eq_false_iff_ne.mpr (by omega))
            clear cA HRN
            rcases e12 with e1 | ⟨e1, e2⟩ <;> rcases cB with g2 | ⟨g2, g3, g4⟩
            all_goals
              go_wp2
              go_ret3
              exact ⟨num_some HC.out rfl rfl rfl, Below.refl _ _⟩
        all_goals
          have HR' : Aside0 (nlen (bytesOf a) = j + 1 + nlen (D a (j + 1))) := ⟨by rw [HR.out, N1, if_pos ⟨hlt, hb⟩]; omega⟩
          clear N1 hb HR f1
          go_wp2
          go_round
          case rel => exact ⟨rfl, j + 1, by go_num, by omega, HR'⟩
          case measure => simp [intOf]; omega
    · obtain rfl : j = a.size := by omega
      have HC : Aside0 (rawNum (bytesOf a) = some a.size) := ⟨by
        have : nlen (bytesOf a) = a.size := by rw [HR.out, D_nil a a.size (Nat.le_refl _)]; rfl
        unfold rawNum
        rw [if_pos (by rw [this, HL.out]), HL.out]⟩
      clear hlt HR
      go_wp2
      go_ret3
      exact ⟨num_some HC.out (by simp) (by rw [FjW.cut_end a _ (Nat.le_refl _)]) rfl, Below.refl _ _⟩
end Go.Proofs.YtlhaefblchpjhaaGreatDoor.Fp
end
section
namespace Go.Proofs.YtlhaefblchpjhaaGreatDoor.Fp
open Go.RowKit Go.Proofs.YtlhaefblchpjhaaGreatDoorW.PrintWords Go.Proofs.YtlhaefblchpjhaaGreatDoorW.PrintLast Go.Proofs.YtlhaefblchpjhaaGreatDoorW.PrintMore
open Go.Proofs.YtlhaefblchpjhaaGreatDoor.FjW (cut cut_cut cut_size cut_bytes cut_zero cut_bt bt_out D rd_D rd_D0 D_drop D_len D_nil D_cons ws_at skipWS errNew)
set_option linter.unusedVariables false
set_option linter.unusedSimpArgs false
theorem pval_arr (k d : Nat) (a : ByteArray) (hz : 0 < a.size) (hd : d < 300) (h : bt a 0 = 91) : pval (k + 1) d (bytesOf a) = (arrO (cut a 1) k (d + 1)).map fun r => (r.1, r.2 + 1) := by
  have hne : bytesOf a ≠ [] := fun e => by have := bytesOf_length a; rw [e] at this; simp at this; omega
  rw [pval, if_neg hne, if_neg (by omega), rd_bytesOf, h, if_neg (by decide), if_pos rfl]
  have e1 : (bytesOf a).drop 1 = bytesOf (cut a 1) := (cut_bytes a 1).symm
  have e2 : nx (cut a 1) 0 = Fj.ws (bytesOf (cut a 1)) := Nat.zero_add _
  rw [e1, rd_bytesOf]
  unfold arrO
  rw [e2]
  by_cases c : bt (cut a 1) (Fj.ws (bytesOf (cut a 1)) : Int) = 93
  · rw [if_pos c, if_pos c]; rfl
  · rw [if_neg c, if_neg c]
    unfold eP
    show _ = Option.map _ (Option.map _ (Option.map _ (pels k (d + 1) (bytesOf (cut a 1)))))
    cases pels k (d + 1) (bytesOf (cut a 1)) with
    | none => rfl
    | some r => simp only [Option.map_some, Nat.zero_add]
theorem pval_num (k d : Nat) (a : ByteArray) (hz : 0 < a.size) (hd : d < 300) (h : bt a 0 ≠ 123 ∧ bt a 0 ≠ 91 ∧ bt a 0 ≠ 34 ∧ bt a 0 ≠ 116 ∧ bt a 0 ≠ 102 ∧ bt a 0 ≠ 110) : pval (k + 1) d (bytesOf a) = (rawNum (bytesOf a)).map fun n => (.num ((bytesOf a).take n), n) := by
  have hne : bytesOf a ≠ [] := fun e => by have := bytesOf_length a; rw [e] at this; simp at this; omega
  rw [pval, if_neg hne, if_neg (by omega), rd_bytesOf, if_neg h.1, if_neg h.2.1, if_neg h.2.2.1, if_neg h.2.2.2.1, if_neg h.2.2.2.2.1, if_neg h.2.2.2.2.2]
theorem nlen_le : ∀ l : List Int, nlen l ≤ l.length
  | [] => Nat.le_refl _
  | c :: r => by
    have := nlen_le r
    rw [nlen]
    split <;> simp <;> omega
theorem rawNum_le {l : List Int} {m : Nat} (h : rawNum l = some m) : m ≤ l.length := by
  have h0 := nlen_le l
  unfold rawNum at h
  split at h
  · injection h with h; omega
  · split at h
    · split at h
      · rename_i hf
        injection h with h
        rw [Bool.or_eq_true] at hf
        have : 3 ≤ (l.drop (nlen l)).length := by
          rcases hf with hf | hf <;>
          · unfold fold3 at hf
            rw [Bool.and_eq_true] at hf
            exact of_decide_eq_true hf.1
        rw [List.length_drop] at this
        omega
      · cases h
    · injection h with h; omega
theorem rawNum_pos {l : List Int} {m : Nat} (hl : l ≠ []) (h : rawNum l = some m) : 0 < m := by
  have := List.length_pos_iff.2 hl
  unfold rawNum at h
  split at h
  · injection h with h; omega
  · split at h
    · split at h
      · injection h with h; omega
      · cases h
    · rename_i h1
      injection h with h; omega
/-- A value that is laid in the cache, with its kind and its text. -/
theorem out_leaf {pb n b : Nat} {bv v v1 : Value} {w w1 : World} (G : Got pb n bv v w b v1 w1) {a t x : ByteArray} {kind : Int} {fv : FV} {r : Option (FV × Nat)} {m : Nat} (hr : r = some (fv, m)) (hm : m ≤ a.size) (h0 : 0 < m) (ht : t = cut a m)
    (hfv : (fv = .str (bytesOf x) ∧ kind = 7) ∨ (fv = .num (bytesOf x) ∧ kind = 4)) {e : Ending} (he : e = .returned (.tuple #[.pointer (some ⟨b, n * 5, none⟩), .string t, .nilIface])) :
    Out pb n bv v w a 0 r e ((w1.setCell ⟨b, n * 5 + 4, none⟩ (.int .i64 kind)).setCell ⟨b, n * 5 + 3, none⟩ (.string x)) := by
  subst hr ht
  have hp := G.place
  have f1 := G.fine.set (hp 4 (by omega)).1 (hp 4 (by omega)).2 (.int .i64 kind)
  have f2 := f1.set (hp 3 (by omega)).1 ((hp 3 (by omega)).2.set _) (.string x)
  obtain ⟨cur, hcur⟩ := G.blt
  have hz := G.zero
  have ho : ∀ i j, i ≠ j → ∀ (W : World) (u : Value), (W.setCell ⟨b, n * 5 + j, none⟩ u).cell? ⟨b, n * 5 + i, none⟩ = W.cell? ⟨b, n * 5 + i, none⟩ := fun i j hij W u => World.cell?_setCell_other _ _ _ _ (fun e => by injection e with _ e _; omega)
  have hx : (strOfNums (bytesOf x)) = x := XWords.strOfNums_bytesOf x
  have hc : Cells ((w1.setCell ⟨b, n * 5 + 4, none⟩ (.int .i64 kind)).setCell ⟨b, n * 5 + 3, none⟩ (.string x)) (fun y => ∃ i, i < 5 ∧ y = ⟨b, n * 5 + i, none⟩) b (n * 5) nilS (.bool false) nilS (.string (strOfNums (bytesOf x))) (.int .i64 kind) := by
    refine ⟨⟨?_, ?_, ?_, ?_, ?_⟩, ⟨⟨0, by omega, rfl⟩, ⟨1, by omega, rfl⟩, ⟨2, by omega, rfl⟩, ⟨3, by omega, rfl⟩, ⟨4, by omega, rfl⟩⟩, ⟨_, heap_set (heap_set hcur _) _⟩⟩
    · exact ((ho 0 3 (by omega) _ _).trans (ho 0 4 (by omega) _ _)).trans (hz 0 (by omega))
    · exact ((ho 1 3 (by omega) _ _).trans (ho 1 4 (by omega) _ _)).trans (hz 1 (by omega))
    · exact ((ho 2 3 (by omega) _ _).trans (ho 2 4 (by omega) _ _)).trans (hz 2 (by omega))
    · rw [hx]
      exact World.cell?_setCell_same _ _ _ ((ho 3 4 (by omega) _ _).trans (hz 3 (by omega)))
    · exact (ho 4 3 (by omega) _ _).trans (World.cell?_setCell_same _ _ _ (hz 4 (by omega)))
  refine ⟨n + 1, v1, f2, ?_, hm, b, n * 5, (fun y => ∃ i, i < 5 ∧ y = ⟨b, n * 5 + i, none⟩), he, ?_, fun y hy => ?_⟩
  · simp only []; omega
  · rcases hfv with ⟨rfl, rfl⟩ | ⟨rfl, rfl⟩
    · exact .str _ _ _ _ hc
    · exact .num _ _ _ _ hc
  · obtain ⟨i, hi, rfl⟩ := hy
    exact ⟨(hp i hi).1, ((hp i hi).2.set _).set _⟩
theorem Out.pre {pb n : Nat} {bv v : Value} {w w2 : World} {a : ByteArray} {x : Nat} {r : Option (FV × Nat)} {e : Ending} {w' : World} (hC : Ca w pb n v) (g : Fine pb n bv v w n v w2) (h : Out pb n bv v w2 a x r e w') : Out pb n bv v w a x r e w' := by
  obtain ⟨n', v', hf, h⟩ := h
  refine ⟨n', v', g.trans hC hf, ?_⟩
  cases r with
  | none => exact h
  | some r =>
    obtain ⟨h1, h2, b, o, F, h3, h4, h5⟩ := h
    exact ⟨h1, h2, b, o, F, h3, h4, fun y hy => ⟨(h5 y hy).1.up g, (h5 y hy).2⟩⟩
theorem take_ex (a : ByteArray) (m : Nat) : bytesOf (a.extract 0 m) = (bytesOf a).take m := by
  unfold bytesOf
  rw [ByteArray.data_extract, Array.toList_extract, List.extract_eq_take_drop, List.drop_zero, ← List.map_take]
  rfl
theorem out_some {pb n : Nat} {bv v : Value} {w : World} {a t : ByteArray} {x : Nat} {r : Option (FV × Nat)} {e : Ending} {w' : World} {fv : FV} {m : Nat} (h : r = some (fv, m)) (n' : Nat) (v' : Value) (hf : Fine pb n bv v w n' v' w') (hn : n' ≤ n + m + x) (hm : m ≤ a.size) (ht : t = cut a m) (b o : Nat) (F : Addr → Prop) (he : e = .returned (.tuple #[.pointer (some ⟨b, o, none⟩), .string t, .nilIface])) (hR : Rep w' F b o fv) (hF : ∀ y, F y → New n v w y ∧ In pb n' v' w' y) : Out pb n bv v w a x r e w' := by
  subst h ht; exact ⟨n', v', hf, hn, hm, b, o, F, he, hR, hF⟩
set_option maxHeartbeats 8000000 in
set_option maxRecDepth 100000 in
/-- parseValue, where the first byte, if any, is a bracket or a number's. -/
theorem valP (P : List Int → Prop) (hPd : ∀ l m, P l → P (l.drop m)) (k : Nat) (hV : ∀ j, j < k → VC P j) (pb n : Nat) (bv v : Value) (w : World) (a : ByteArray) (d : Nat) (hP : Pb w pb bv v) (hC : Ca w pb n v) (hn : n + a.size ≤ 1000000) (hk : 2 * a.size + 1 ≤ k) (ha : P (bytesOf a)) (hd : d ≤ 300) (hq : bt a 0 ≠ 123 ∧ bt a 0 ≠ 34 ∧ bt a 0 ≠ 116 ∧ bt a 0 ≠ 102 ∧ bt a 0 ≠ 110) :
    Calls Tryz.prog 70 #[.pointer (some ⟨pb, 1, none⟩), .string a, .int .i64 (d : Int)] w fun e w' => Out pb n bv v w a 0 (pval k d (bytesOf a)) e w' := by
  obtain ⟨k, rfl⟩ : ∃ j, k = j + 1 := ⟨k - 1, by omega⟩
  have HP := Aside0.mk hP
  have HC := Aside0.mk hC
  have HN0 : Aside0 (n ≤ 1000000) := ⟨by omega⟩
  have HS : Aside0 (a.size ≤ 1000000) := ⟨by omega⟩
  by_cases h0 : a.size = 0
  · have HC1 : Aside0 (pval (k + 1) d (bytesOf a) = none) := ⟨by
      have : bytesOf a = [] := List.eq_nil_of_length_eq_zero (by rw [bytesOf_length]; exact h0)
      rw [this]; exact pval_nil _ _⟩
    have e0 : ((a.size : Int) == 0) = true := beq_iff_eq.mpr (by omega)
    clear hP hC hV hk ha hq h0
    go_enter Tryz.func70, Tryz.ntmps70
    go_wp2_with (first | (go_at_call 72; (with_reducible refine (errNew _ _).mono ?_); rintro e w' ⟨⟨T, u, rfl⟩, hb⟩))
    go_ret3
    exact out_none HC1.out n v ((Fine.refl HP.out HC.out).below hb) (by omega) _ T u rfl
  · have e0 : ((a.size : Int) == 0) = false := beq_eq_false_iff_ne.mpr (by omega)
    have hz : 0 < a.size := by omega
    have hx : ∀ h : 0 < a.size, ((a[0]'h).toNat : Int) = bt a 0 := bt_at a 0
    clear h0
    by_cases c : d = 300
    · subst c
      have HC1 : Aside0 (pval (k + 1) 300 (bytesOf a) = none) := ⟨by
        have hne : bytesOf a ≠ [] := fun e => by have := bytesOf_length a; rw [e] at this; simp at this; omega
        rw [pval, if_neg hne, if_pos (by omega)]⟩
      clear hP hC hV hk ha hq hx hd
      go_enter Tryz.func70, Tryz.ntmps70
      go_wp2_with (first | (go_at_call 72; (with_reducible refine (errNew _ _).mono ?_); rintro e w' ⟨⟨T, u, rfl⟩, hb⟩))
      go_ret3
      exact out_none HC1.out n v ((Fine.refl HP.out HC.out).below hb) (by omega) _ T u rfl
    · have hd1 : d < 300 := by omega
      have q1 : decide (300 < (d : Int) + 1) = false := decide_eq_false (by omega)
      have b1 : (d : Int) ≤ 300 := by omega
      have e1 : (bt a 0 == 123) = false := beq_eq_false_iff_ne.mpr hq.1
      by_cases c1 : bt a 0 = 91
      · have e2 : (bt a 0 == 91) = true := beq_iff_eq.mpr c1
        have HPV : Aside0 (pval (k + 1) d (bytesOf a) = (arrO (cut a 1) k (d + 1)).map fun r => (r.1, r.2 + 1)) := ⟨pval_arr k d a hz hd1 c1⟩
        obtain ⟨t, ht⟩ : ∃ t, cut a 1 = t := ⟨_, rfl⟩
        have hts : t.size = a.size - 1 := by rw [← ht]; exact cut_size a 1
        have HTS := Aside0.mk hts
        have HA : Aside0 (Calls Tryz.prog 122 #[.pointer (some ⟨pb, 1, none⟩), .string t, .int .i64 ((d : Int) + 1)] w fun e w' => Out pb n bv v w t 1 (arrO t k (d + 1)) e w') := ⟨by
          have := arr P hPd k (fun j hj => hV j (by omega)) pb n bv v w t (d + 1) hP hC (by omega) (by omega) (by rw [← ht, cut_bytes]; exact hPd _ _ ha) (by omega)
          rw [show ((d + 1 : Nat) : Int) = (d : Int) + 1 by omega] at this
          exact this⟩
        have HT : Aside0 (a.extract 1 a.size = t) := ⟨ht⟩
        rw [ht] at HPV
        clear hP hC hV hk ha hq c1 hd hd1 c ht hts
        cases hr : arrO t k (d + 1) with
        | none =>
          have HRR := Aside0.mk hr
          have HC1 : Aside0 (pval (k + 1) d (bytesOf a) = none) := ⟨by rw [HPV.out, hr]; rfl⟩
          clear hr
          go_enter Tryz.func70, Tryz.ntmps70
          go_wp2_with (first
            | (go_at_call 122; go_loud (rw [HT.out]); (with_reducible refine HA.out.mono ?_); rintro e w2 ⟨n2, v2, hf, h⟩; rw [HRR.out] at h; obtain ⟨hn2, t2, T2, u2, rfl⟩ := h; have HF2 := Aside0.mk hf; have HN2 := Aside0.mk hn2; clear hf hn2)
            | (go_at_call 72; (with_reducible refine (errNew _ _).mono ?_); rintro e w' ⟨⟨T, u, rfl⟩, hb⟩))
          go_ret3
          exact out_none HC1.out _ _ (HF2.out.below hb) (by have := HN2.out; have := HTS.out; omega) _ T u rfl
        | some r =>
          obtain ⟨fv, m⟩ := r
          have HRR := Aside0.mk hr
          have HC1 : Aside0 (pval (k + 1) d (bytesOf a) = some (fv, m + 1)) := ⟨by rw [HPV.out, hr]; rfl⟩
          clear hr
          go_enter Tryz.func70, Tryz.ntmps70
          go_wp2_with (first
            | (go_at_call 122; go_loud (rw [HT.out]); (with_reducible refine HA.out.mono ?_); rintro e w2 ⟨n2, v2, hf, h⟩; rw [HRR.out] at h; obtain ⟨hn2, hm2, b2, o2, F, rfl, hR, hF⟩ := h; simp only [] at hR hF hn2 hm2 ⊢; have HF2 := Aside0.mk hf; have HN2 := Aside0.mk hn2; have HM2 := Aside0.mk hm2; have HR2 := Aside0.mk hR; have HFF := Aside0.mk hF; clear hf hn2 hm2 hR hF))
          go_ret3
          exact out_some HC1.out n2 v2 HF2.out (by have := HN2.out; omega) (by have := HM2.out; have := HTS.out; omega) (by rw [← HT.out]; exact (cut_cut a 1 m).trans (by rw [Nat.add_comm])) b2 o2 F rfl HR2.out HFF.out
      · have e2 : (bt a 0 == 91) = false := beq_eq_false_iff_ne.mpr c1
        have e3 : (bt a 0 == 34) = false := beq_eq_false_iff_ne.mpr hq.2.1
        have e4 : (bt a 0 == 116) = false := beq_eq_false_iff_ne.mpr hq.2.2.1
        have e5 : (bt a 0 == 102) = false := beq_eq_false_iff_ne.mpr hq.2.2.2.1
        have e6 : (bt a 0 == 110) = false := beq_eq_false_iff_ne.mpr hq.2.2.2.2
        have HPV : Aside0 (pval (k + 1) d (bytesOf a) = (rawNum (bytesOf a)).map fun n => (.num ((bytesOf a).take n), n)) := ⟨pval_num k d a hz hd1 ⟨hq.1, c1, hq.2⟩⟩
        have HNE : Aside0 (bytesOf a ≠ []) := ⟨fun e => by have := bytesOf_length a; rw [e] at this; simp at this; omega⟩
        clear hP hC hV hk ha hq c1 hd hd1 c
        cases hr : rawNum (bytesOf a) with
        | none =>
          have HRR := Aside0.mk hr
          have HC1 : Aside0 (pval (k + 1) d (bytesOf a) = none) := ⟨by rw [HPV.out, hr]; rfl⟩
          clear hr
          go_enter Tryz.func70, Tryz.ntmps70
          go_wp2_with (first
            | (go_at_call 126; (with_reducible refine (rawNumber a HS.out _).mono ?_); rintro e w2 ⟨h, hb2⟩; rw [HRR.out] at h; obtain ⟨x2, y2, T2, u2, rfl⟩ := h; have HF2 := Aside0.mk ((Fine.refl HP.out HC.out).below hb2); clear hb2)
            | (go_at_call 72; (with_reducible refine (errNew _ _).mono ?_); rintro e w' ⟨⟨T, u, rfl⟩, hb⟩))
          go_ret3
          exact out_none HC1.out _ _ (HF2.out.below hb) (by omega) _ T u rfl
        | some m =>
          have HRR := Aside0.mk hr
          have HC1 : Aside0 (pval (k + 1) d (bytesOf a) = some (.num ((bytesOf a).take m), m)) := ⟨by rw [HPV.out, hr]; rfl⟩
          have HM : Aside0 (0 < m ∧ m ≤ a.size) := ⟨rawNum_pos HNE.out hr, by have := rawNum_le hr; rwa [bytesOf_length] at this⟩
          clear hr
          go_enter Tryz.func70, Tryz.ntmps70
          go_wp2_with (first
            | (go_at_call 126; (with_reducible refine (rawNumber a HS.out _).mono ?_); rintro e w2 ⟨h, hb2⟩; rw [HRR.out] at h; have h : e = _ := h; subst h; have HF2 := Aside0.mk ((Fine.refl HP.out HC.out).below hb2); have HBB := Aside0.mk hb2; clear hb2)
            | (go_at_call 124; (with_reducible refine (getValue _ pb n bv v HF2.out.pbs HF2.out.ca HN0.out).mono ?_); rintro e w1 ⟨b, v1, rfl, hg⟩; have HG := Aside0.mk hg; have hz4 := hg.zero 4 (by omega); have hz3 : ∀ u, (w1.setCell ⟨b, n * 5 + 4, none⟩ u).cell? ⟨b, n * 5 + 3, none⟩ = some emptyS := (fun u => (World.cell?_setCell_other _ _ _ _ (fun e => by injection e with _ e _; omega)).trans (hg.zero 3 (by omega))); have hfr := free_of hg.blt; clear hg))
          go_ret3
          refine Out.pre HC.out HF2.out (out_leaf HG.out HC1.out HM.out.2 HM.out.1 rfl (.inr ⟨?_, rfl⟩) rfl)
          rw [take_ex]
end Go.Proofs.YtlhaefblchpjhaaGreatDoor.Fp
end
section
namespace Go.Proofs.YtlhaefblchpjhaaGreatDoor.Fp
open Go.RowKit Go.Proofs.YtlhaefblchpjhaaGreatDoorW.PrintWords Go.Proofs.YtlhaefblchpjhaaGreatDoorW.PrintLast Go.Proofs.YtlhaefblchpjhaaGreatDoorW.PrintMore
open Go.Proofs.YtlhaefblchpjhaaGreatDoor.FjW (cut cut_cut cut_size cut_bytes cut_zero cut_bt bt_out D rd_D rd_D0 D_drop D_len D_nil D_cons ws_at skipWS errNew)
set_option linter.unusedVariables false
set_option linter.unusedSimpArgs false
theorem typeOf (w : World) (b o : Nat) (t : Int) (ht : t ≠ 7) (h : w.cell? ⟨b, o + 4, none⟩ = some (.int .i64 t)) :
    Calls Tryz.prog 91 #[.pointer (some ⟨b, o, none⟩)] w fun e w' => e = .returned (.int .i64 t) ∧ w = w' := by
  have e1 : (t == 7) = false := beq_eq_false_iff_ne.mpr ht
  go_enter Tryz.func91, Tryz.ntmps91
  go_wp2
  go_ret
  exact ⟨rfl, rfl⟩
theorem get0 (w : World) (b o : Nat) :
    Calls Tryz.prog 45 #[.pointer (some ⟨b, o, none⟩), .slice none 0 0] w fun e w' => e = .returned (.pointer (some ⟨b, o, none⟩)) ∧ w = w' := by
  go_enter Tryz.func45, Tryz.ntmps45
  go_wp2
  go_loop [0, 13] (fun v0 v => v0 = .pointer (some ⟨b, o, none⟩) ∧ v = .int .i64 0) (fun _ _ => 0)
  case atStart => exact ⟨rfl, rfl⟩
  case round =>
    obtain ⟨rfl, rfl⟩ := hrel
    go_wp2
    go_ret
    exact ⟨rfl, rfl⟩
theorem getArr (w : World) (b o : Nat) (av : Value) (hs : ∃ A n c, av = .slice A n c) (h4 : w.cell? ⟨b, o + 4, none⟩ = some (.int .i64 2)) (h2 : w.cell? ⟨b, o + 2, none⟩ = some av) :
    Calls Tryz.prog 39 #[.pointer (some ⟨b, o, none⟩), .slice none 0 0] w fun e w' => e = .returned av ∧ w = w' := by
  obtain ⟨A, n, c, rfl⟩ := hs
  go_enter Tryz.func39, Tryz.ntmps39
  go_wp2_with (first | (go_at_call 45; (with_reducible refine (get0 _ b o).mono ?_); rintro e w' ⟨rfl, rfl⟩))
  go_ret
  exact ⟨rfl, rfl⟩
theorem strCells_nums (s : ByteArray) : Lib.strCells s = nums .u8 (bytesOf s) := by
  unfold Lib.strCells nums bytesOf
  rw [List.map_map]; rfl
theorem info8 : ∃ i0, Tryz.prog.info? 5 = some i0 ∧ i0.zero = some (.int .u8 0) ∧ i0.size = 1 ∧ i0.bytes = 1 := by
  have h : (Tryz.prog.info? 5).map (fun i => (i.zero, i.size, i.bytes)) = some (some (.int .u8 0), 1, 1) := by kernel_rfl
  cases hi : Tryz.prog.info? 5 with
  | none => rw [hi] at h; cases h
  | some i0 =>
    rw [hi] at h
    simp only [Option.map_some, Option.some.injEq, Prod.mk.injEq] at h
    exact ⟨i0, rfl, h.1, h.2.1, h.2.2⟩
theorem conv_own {W : World} {lo n : Nat} {v : Value} {s : ByteArray} (h : W.ownsRow lo 5 1 v n (Lib.strCells s)) : ∃ A c, v = .slice A n c ∧ (convert 61 9 (.slice A n c)).run Tryz.prog W = .ok (.string s) W := by
  rw [strCells_nums] at h
  obtain ⟨A, c, rfl, hr⟩ := own_reads h
  refine ⟨A, c, rfl, ?_⟩
  have := string_of_reads (P := Tryz.prog) Tryz.underlying61 Tryz.underlying5 Tryz.underlying9 (c := c) hr
  rw [XWords.strOfNums_bytesOf] at this
  exact this
/-- append(nil, text...). -/
theorem wp_bytes {ops : Array Oper} {rest : List Oper} {o : Oper} {a : Act} {Q : Exit → Act → World → Prop} (W : World) (x : ByteArray) (hx : x.size ≤ 1000000) (hgd : o.guard = none) (sl y : Operand)
    (ho : o.op = .call { callee := .builtin .append, args := #[sl, y], argTypes := #[61, 9] }) (hs : a.eval sl = nilS) (hy : a.eval y = .string x)
    (h : ∀ A c w', w'.ownsRow W.heap.size 5 1 (.slice A x.size c) x.size (Lib.strCells x) → (convert 61 9 (.slice A x.size c)).run Tryz.prog w' = .ok (.string x) w' → Below W.heap.size W w' → wpList Tryz.prog ops Q rest (a.put o.dst (.slice A x.size c)) w') :
    wpList Tryz.prog ops Q (o :: rest) a W := by
  obtain ⟨i0, hi, hz, hsz, hby⟩ := info8
  refine Lib.wpList_append_own_string (P := Tryz.prog) W hgd sl y _ _ ho W.heap.size 5 i0 Tryz.underlying61 Tryz.underlying9 hi hz hsz hby nilS 0 [] hs (World.ownsRow_nil _ _ _ _) x hy (by simp only [maxLen]; omega) (by omega) (Nat.le_refl _) fun v' w' h1 h2 _ => ?_
  rw [Nat.zero_add, List.nil_append] at h1
  obtain ⟨A, c, rfl, hc⟩ := conv_own h1
  exact h A c w' h1 hc ⟨h2.os, h2.tape, h2.output, h2.size, fun k hk => h2.block k hk (by simp [Value.ownBlock])⟩
theorem marshalNum (w : World) (b o : Nat) (x : ByteArray) (hx : x.size ≤ 1000000) (h4 : w.cell? ⟨b, o + 4, none⟩ = some (.int .i64 4)) (h3 : w.cell? ⟨b, o + 3, none⟩ = some (.string x)) :
    Calls Tryz.prog 46 #[.pointer (some ⟨b, o, none⟩), .slice none 0 0] w fun e w' => ∃ A n c, e = .returned (.slice A n c) ∧ (convert 61 9 (.slice A n c)).run Tryz.prog w' = .ok (.string x) w' ∧ Below w.heap.size w w' := by
  have HX := Aside0.mk hx
  go_enter Tryz.func46, Tryz.ntmps46
  go_wp2_with (at_builtin; refine wp_bytes _ x HX.out rfl _ _ rfl rfl rfl ?_; intro A c w1 k1 k2 k3; have K2 := Aside0.mk k2; have K3 := Aside0.mk k3; clear k1 k2 k3)
  go_ret
  exact ⟨_, _, _, rfl, K2.out, K3.out⟩
abbrev TN : TypeId := 26
abbrev n0 : Array Value := #[.int .i64 0, .string ⟨#[]⟩, nilS, nilS]
theorem alloc_cell {w : World} {b o : Nat} {v : Value} (h : w.cell? ⟨b, o, none⟩ = some v) (ob : Obj) : (w.alloc ob).cell? ⟨b, o, none⟩ = some v := by
  refine (World.cell?_alloc_lt w ob _ ?_).trans h
  refine Nat.lt_of_not_le fun hle => ?_
  simp only at hle
  simp [World.cell?, Array.getElem?_eq_none hle] at h
theorem alloc_size (w : World) (o : Obj) : (w.alloc o).heap.size = w.heap.size + 1 := by show (w.heap.push _).size = _; rw [Array.size_push]
theorem keep_new {w w2 : World} {ob : Obj} (h : Below (w.alloc ob).heap.size (w.alloc ob) w2) : w2.heap[w.heap.size]? = some ob :=
  (h.block _ (by show _ < (w.heap.push _).size; rw [Array.size_push]; omega)).trans (heap_alloc_new w ob)
theorem cells4 {w : World} {g : Nat} {c0 c1 c2 c3 : Value} (h : w.heap[g]? = some (.cells #[c0, c1, c2, c3] TN (0, 0))) : w.cell? ⟨g, 0, none⟩ = some c0 ∧ w.cell? ⟨g, 1, none⟩ = some c1 ∧ w.cell? ⟨g, 2, none⟩ = some c2 ∧ w.cell? ⟨g, 3, none⟩ = some c3 ∧ ∀ j, w.frozen? ⟨g, j, none⟩ = false := by
  refine ⟨?_, ?_, ?_, ?_, fun j => ?_⟩ <;> simp [World.cell?, World.frozen?, h]
theorem infoN : ∃ i0 z, Tryz.prog.info? TN = some i0 ∧ i0.zero = some z ∧ z.cells.size = 4 ∧ i0.size = 4 ∧ i0.bytes = 72 := by
  have h : (Tryz.prog.info? TN).map (fun i => (i.zero.map (·.cells.size), i.size, i.bytes)) = some (some 4, 4, 72) := by kernel_rfl
  cases hi : Tryz.prog.info? TN with
  | none => rw [hi] at h; cases h
  | some i0 =>
    rw [hi] at h
    simp only [Option.map_some, Option.some.injEq, Prod.mk.injEq] at h
    cases hz : i0.zero with
    | none => rw [hz] at h; simp at h
    | some z => rw [hz] at h; exact ⟨i0, z, rfl, hz, Option.some.inj h.1, h.2.1, h.2.2⟩
theorem sizeN : (Tryz.prog.info? TN).map (·.size) = some 4 := by
  obtain ⟨i0, z, h, _, _, h4, _⟩ := infoN
  rw [h]; simp [h4]
theorem set4 {w2 : World} {g : Nat} {c0 c1 c2 c3 : Value} (h : w2.heap[g]? = some (.cells #[c0, c1, c2, c3] TN (0, 0))) (a0 a1 a2 a3 : Value) :
    ((((w2.setCell ⟨g, 0, none⟩ a0).setCell ⟨g, 1, none⟩ a1).setCell ⟨g, 2, none⟩ a2).setCell ⟨g, 3, none⟩ a3).heap[g]? = some (.cells #[a0, a1, a2, a3] TN (0, 0)) := heap_set (heap_set (heap_set (heap_set h a0) a1) a2) a3
theorem below4 {w w2 : World} {g : Nat} (hg : w.heap.size ≤ g) (h : Below w.heap.size w w2) (a0 a1 a2 a3 : Value) :
    Below w.heap.size w ((((w2.setCell ⟨g, 0, none⟩ a0).setCell ⟨g, 1, none⟩ a1).setCell ⟨g, 2, none⟩ a2).setCell ⟨g, 3, none⟩ a3) := (((h.setCell (p := ⟨g, 0, none⟩) hg a0).setCell (p := ⟨g, 1, none⟩) hg a1).setCell (p := ⟨g, 2, none⟩) hg a2).setCell (p := ⟨g, 3, none⟩) hg a3
def NodeSaid (e : Ending) : Prop := ∃ k t A0 m0 c0 A n c, e = .returned (.agg #[.int .i64 k, .string t, .slice A0 m0 c0, .slice A n c])
end Go.Proofs.YtlhaefblchpjhaaGreatDoor.Fp
end
section
namespace Go.Proofs.YtlhaefblchpjhaaGreatDoor.Fp
open Go.RowKit Go.Proofs.YtlhaefblchpjhaaGreatDoorW.PrintWords Go.Proofs.YtlhaefblchpjhaaGreatDoorW.PrintLast Go.Proofs.YtlhaefblchpjhaaGreatDoorW.PrintMore
set_option linter.unusedVariables false
set_option linter.unusedSimpArgs false
theorem clearNil (W : World) (t : TypeId) : (Builtin.clear_ #[104] t #[nilS]).run Tryz.prog W = .ok (.tuple #[]) W := by
  simp [Builtin.clear_, run_underlying Tryz.underlying104]
set_option maxRecDepth 100000 in
/-- Object.reset, of an object that is made anew. -/
theorem objReset (w : World) (b o : Nat) (h0 : w.cell? ⟨b, o, none⟩ = some nilS) (h1 : w.cell? ⟨b, o + 1, none⟩ = some (.bool false)) (hf : ∀ j, w.frozen? ⟨b, j, none⟩ = false) :
    Calls Tryz.prog 151 #[.pointer (some ⟨b, o, none⟩)] w fun e w' => e = .returned (.tuple #[]) ∧ w' = (w.setCell ⟨b, o, none⟩ nilS).setCell ⟨b, o + 1, none⟩ (.bool false) := by
  have h2 : ∀ u, (w.setCell ⟨b, o, none⟩ u).cell? ⟨b, o + 1, none⟩ = some (.bool false) := fun u => (World.cell?_setCell_other _ _ _ _ (fun e => by injection e with _ e _; omega)).trans h1
  go_enter Tryz.func151, Tryz.ntmps151
  have hcl := clearNil w 0
  go_wp2
  go_end0
  exact ⟨rfl, rfl⟩
abbrev TK : TypeId := 153
theorem infoK : ∃ i0 z, Tryz.prog.info? TK = some i0 ∧ i0.zero = some z ∧ z.cells.size = 2 ∧ i0.size = 2 ∧ i0.bytes = 24 := by
  have h : (Tryz.prog.info? TK).map (fun i => (i.zero.map (·.cells.size), i.size, i.bytes)) = some (some 2, 2, 24) := by kernel_rfl
  cases hi : Tryz.prog.info? TK with
  | none => rw [hi] at h; cases h
  | some i0 =>
    rw [hi] at h
    simp only [Option.map_some, Option.some.injEq, Prod.mk.injEq] at h
    cases hz : i0.zero with
    | none => rw [hz] at h; simp at h
    | some z => rw [hz] at h; exact ⟨i0, z, rfl, hz, Option.some.inj h.1, h.2.1, h.2.2⟩
/-- append(kvs, kv{}). -/
theorem wp_kv {ops : Array Oper} {rest : List Oper} {o : Oper} {a : Act} {Q : Exit → Act → World → Prop} (W : World) (lo m : Nat) (av : Value) (xs : List Value) (hR : W.ownsRow lo TK 2 av m xs) (hlo : lo ≤ W.heap.size) (hm : m ≤ 1000000) (hgd : o.guard = none) (s x : Operand)
    (ho : o.op = .call { callee := .builtin .append, args := #[s, x], argTypes := #[104, 104] }) (hs : a.eval s = av) (hx : a.eval x = .slice (some ⟨W.heap.size, 0, none⟩) 1 1)
    (h : ∀ g c w', w'.ownsRow lo TK 2 (.slice (some ⟨g, 0, none⟩) (m + 1) c) (m + 1) (xs ++ [emptyS, .pointer none]) → (W.alloc (.cells #[emptyS, .pointer none] TK)).grownBy w' av.ownBlock → (some g = av.ownBlock ∨ g = W.heap.size + 1) → wpList Tryz.prog ops Q rest (a.put o.dst (.slice (some ⟨g, 0, none⟩) (m + 1) c)) w') :
    wpList Tryz.prog ops Q (o :: rest) a (W.alloc (.cells #[emptyS, .pointer none] TK)) := by
  obtain ⟨i0, z, hi, hz, hzc, hsz, hby⟩ := infoK
  have hnew : ∀ j v, [emptyS, Value.pointer none][j]? = some v → (W.alloc (.cells #[emptyS, .pointer none] TK)).cell? ((⟨W.heap.size, 0, none⟩ : Addr).add j) = some v := fun j v hj => by
    rw [add_plain, World.cell?_alloc_new]
    simpa using hj
  have hsize : (W.alloc (.cells #[emptyS, .pointer none] TK)).heap.size = W.heap.size + 1 := by show (W.heap.push _).size = _; rw [Array.size_push]
  refine wpList_append_own_at (P := Tryz.prog) _ hgd s x _ ho lo TK i0 z 2 24 Tryz.underlying104 hi hz hsz hby hzc (by decide) av m xs hs (hR.alloc _) _ 1 1 _ hx rfl hnew (fun y hy => ?_) (by simp only [maxLen]; omega) (by omega) (by omega) fun v' w' h1 h2 _ h3 => ?_
  · simp only [List.mem_cons, List.not_mem_nil, or_false] at hy
    rcases hy with rfl | rfl <;> rfl
  · rcases h1.2 with ⟨_, h0⟩ | ⟨g, cap, cur, rfl, _⟩
    · omega
    · refine h g cap w' h1 h2 ?_
      rw [hsize] at h3
      rcases h3 with e | e
      · exact .inl e
      · simp only [Value.ownBlock, Option.some.injEq] at e; exact .inr e
end Go.Proofs.YtlhaefblchpjhaaGreatDoor.Fp
end
section
namespace Go.Proofs.YtlhaefblchpjhaaGreatDoor.Fp
open Go.RowKit Go.Proofs.YtlhaefblchpjhaaGreatDoorW.PrintWords Go.Proofs.YtlhaefblchpjhaaGreatDoorW.PrintLast Go.Proofs.YtlhaefblchpjhaaGreatDoorW.PrintMore
set_option linter.unusedVariables false
set_option linter.unusedSimpArgs false
theorem kv_keep {w W w1 : World} {b : Nat} {ob : Obj} {cur : Array Value} (h : w.heap[b]? = some (.cells cur TV (0, 0))) (hw : W.heap = w.heap) {row : Option Nat} (hr : some b ≠ row) (g : (W.alloc ob).grownBy w1 row) : w1.heap[b]? = some (.cells cur TV (0, 0)) := by
  have hb := heap_lt h
  rw [← hw] at hb h
  exact (g.block b (by rw [alloc_size]; omega) hr).trans ((heap_alloc_old W ob hb).trans h)
theorem kv_cell {w w1 : World} {b o : Nat} {cur : Array Value} {v : Value} (h : w.heap[b]? = some (.cells cur TV (0, 0))) (h1 : w1.heap[b]? = some (.cells cur TV (0, 0))) (hc : w.cell? ⟨b, o, none⟩ = some v) : w1.cell? ⟨b, o, none⟩ = some v := by
  rw [← hc]
  exact World.cell?_of_block (a := ⟨b, o, none⟩) (h1.trans h.symm)
/-- What getKV leaves. -/
def KvSaid (lo m b o : Nat) (kv : Value) (xs : List Value) (w : World) (e : Ending) (w' : World) : Prop :=
  ∃ g c xs' W, e = .returned (.pointer (some ⟨g, m * 2, none⟩)) ∧ W.ownsRow lo TK 2 (.slice (some ⟨g, 0, none⟩) (m + 1) c) (m + 1) xs' ∧ xs'.take (m * 2) = xs ∧ w.grownBy W kv.ownBlock ∧ (some g = kv.ownBlock ∨ w.heap.size ≤ g) ∧
    w'.heap = (W.setCell ⟨b, o, none⟩ (.slice (some ⟨g, 0, none⟩) (m + 1) c)).heap ∧ (w'.os = w.os ∧ w'.tape = w.tape ∧ w'.output = w.output)
theorem row_ne {w : World} {lo m b : Nat} {kv : Value} {xs : List Value} {cur : Array Value} (h : w.heap[b]? = some (.cells cur TV (0, 0))) (hR : w.ownsRow lo TK 2 kv m xs) : some b ≠ kv.ownBlock := fun e => by
  rcases hR.2 with ⟨rfl, _⟩ | ⟨g, cap, cur', rfl, _, h2, _⟩
  · cases e
  · simp only [Value.ownBlock, Option.some.injEq] at e
    subst e
    rw [h] at h2
    simp only [Option.some.injEq, Obj.cells.injEq] at h2
    exact absurd h2.2.1 (by decide)
set_option maxHeartbeats 8000000 in
set_option maxRecDepth 100000 in
theorem getKV (w : World) (lo m b o : Nat) (kv : Value) (xs : List Value) (hlo : lo ≤ w.heap.size) (hm : m ≤ 1000000) (hb : ∃ cur, w.heap[b]? = some (.cells cur TV (0, 0))) (h0 : w.cell? ⟨b, o, none⟩ = some kv) (hR : w.ownsRow lo TK 2 kv m xs) :
    Calls Tryz.prog 153 #[.pointer (some ⟨b, o, none⟩)] w fun e w' => KvSaid lo m b o kv xs w e w' := by
  have HL := Aside0.mk hlo
  have HM := Aside0.mk hm
  have H0 := Aside0.mk h0
  have HR := Aside0.mk hR
  obtain ⟨cur, hcur⟩ := hb
  have HCU := Aside0.mk hcur
  have HNE := Aside0.mk (row_ne hcur hR)
  have hf0 := free_of ⟨_, hcur⟩
  clear hlo hcur
  rcases hR.2 with ⟨rfl, rfl⟩ | ⟨g0, cap, cur0, rfl, r1, r2, r3, r4, r5, r6⟩
  · clear hR hf0
    go_enter Tryz.func153, Tryz.ntmps153
    go_wp2
    go_quiet (fail)
    go_wp2_with (at_builtin; refine wp_kv _ lo 0 nilS xs HR.out HL.out (by omega) rfl _ _ rfl rfl rfl ?_; intro g c w1 k1 k2 k3; have e1 := kv_keep HCU.out (by exact rfl) HNE.out k2; have hc1 := kv_cell HCU.out e1 H0.out; have hf1 := free_of ⟨_, e1⟩; have K1 := Aside0.mk k1; have K2 := Aside0.mk k2; have K3 := Aside0.mk k3; clear k1 k2 k3 e1 h0)
    go_quiet (fail)
    go_wp2
    go_ret
    refine ⟨g, c, _, w1, rfl, K1.out, by simp [show xs = [] from List.eq_nil_of_length_eq_zero (by simpa using HR.out.1)], ⟨K2.out.os, K2.out.tape, K2.out.output, ?_, ?_⟩, ?_, rfl, ⟨K2.out.os, K2.out.tape, K2.out.output⟩⟩
    · have h := K2.out.size; rw [alloc_size] at h; exact Nat.le_trans (Nat.le_succ _) h
    · intro k h1 h2
      exact (K2.out.block k (by rw [alloc_size]; exact Nat.lt_succ_of_lt h1) h2).trans (heap_alloc_old _ _ h1)
    · rcases K3.out with e | e
      · exact .inl e
      · exact .inr (by rw [e]; exact Nat.le_succ _)
  · have b1 : (m : Int) ≤ 1000000 := by omega
    by_cases hlt : m < cap
    · have q1 : decide ((m : Int) < (cap : Int)) = true := decide_eq_true (by omega)
      have q2 : ((m : Int) + 1 ≤ (cap : Int)) = True := eq_true (by omega)
      have HG : Aside0 (w.ownsRow lo TK 2 (.slice (some ⟨g0, 0, none⟩) (m + 1) cap) (m + 1) (cur0.toList.take ((m + 1) * 2))) := ⟨by rw [List.length_take, Array.length_toList, r5]; omega, .inr ⟨g0, cap, cur0, rfl, r1, r2, hlt, r4, r5, rfl⟩⟩
      have HT : Aside0 ((cur0.toList.take ((m + 1) * 2)).take (m * 2) = xs) := ⟨by rw [List.take_take, ← r6]; congr 1; omega⟩
      have HS : Aside0 (∀ u, (w.setCell ⟨b, o, none⟩ u).cell? ⟨b, o, none⟩ = some u) := ⟨fun u => World.cell?_setCell_same _ _ _ h0⟩
      clear hR r1 r2 r3 r4 r5 r6
      go_enter Tryz.func153, Tryz.ntmps153
      go_wp2
      go_quiet (fail)
      go_wp2
      go_region
      all_goals
        go_wp2
        go_quiet (fail)
        go_wp2
        go_ret
        exact ⟨g0, cap, _, w, rfl, HG.out, HT.out, ⟨rfl, rfl, rfl, Nat.le_refl _, fun _ _ _ => rfl⟩, .inl rfl, rfl, ⟨rfl, rfl, rfl⟩⟩
    · obtain rfl : cap = m := by omega
      have q1 : decide ((cap : Int) < (cap : Int)) = false := decide_eq_false (by omega)
      have HX : Aside0 (xs.length = cap * 2) := ⟨hR.1⟩
      clear hR r1 r2 r3 r4 r5 r6
      go_enter Tryz.func153, Tryz.ntmps153
      go_wp2
      go_quiet (fail)
      go_wp2_with (at_builtin; refine wp_kv _ lo cap (.slice (some ⟨g0, 0, none⟩) cap cap) xs HR.out HL.out HM.out rfl _ _ rfl rfl rfl ?_; intro g c w1 k1 k2 k3; have e1 := kv_keep HCU.out (by exact rfl) HNE.out k2; have hc1 := kv_cell HCU.out e1 H0.out; have hf1 := free_of ⟨_, e1⟩; have K1 := Aside0.mk k1; have K2 := Aside0.mk k2; have K3 := Aside0.mk k3; clear k1 k2 k3 e1 h0)
      go_quiet (fail)
      go_wp2
      go_ret
      refine ⟨g, c, _, w1, rfl, K1.out, by rw [List.take_left' HX.out], ⟨K2.out.os, K2.out.tape, K2.out.output, ?_, ?_⟩, ?_, rfl, ⟨K2.out.os, K2.out.tape, K2.out.output⟩⟩
      · have h := K2.out.size; rw [alloc_size] at h; exact Nat.le_trans (Nat.le_succ _) h
      · intro k h1 h2
        exact (K2.out.block k (by rw [alloc_size]; exact Nat.lt_succ_of_lt h1) h2).trans (heap_alloc_old _ _ h1)
      · rcases K3.out with e | e
        · exact .inl e
        · exact .inr (by rw [e]; exact Nat.le_succ _)
end Go.Proofs.YtlhaefblchpjhaaGreatDoor.Fp
end
section
namespace Go.Proofs
open Go.Shelf
def Tryz.lays137_ren : Go.Shelf.Ren := ⟨fun | 137 => 131 | 217 => 157 | 266 => 179 | n => n, fun | 9 => 9 | 5 => 5 | 3 => 3 | n => n, fun | n => n⟩
theorem Tryz.lays137 : Go.Proofs.Lays.n137 Tryz.prog Tryz.lays137_ren := {
  mixed := by kernel_rfl
  f137 := Tryz.func131.trans (congrArg some (by kernel_rfl))
  f217 := Tryz.func157.trans (congrArg some (by kernel_rfl))
  f266 := Tryz.func179.trans (congrArg some (by kernel_rfl))
  t3 := Tryz.underlying3
  a3 := Tryz.isAgg3
  z3 := Tryz.sizeOf3
  v3 := Tryz.zeroValue3
  t5 := Tryz.underlying5
  a5 := Tryz.isAgg5
  z5 := Tryz.sizeOf5
  v5 := Tryz.zeroValue5
  t9 := Tryz.underlying9
  a9 := Tryz.isAgg9
  z9 := Tryz.sizeOf9
  v9 := Tryz.zeroValue9 }
open Go.RowKit in
/-- strings.IndexByte: "IndexByte returns the index of the first instance of c in s, or -1 if c is not present in s.": IT RETURNS 'Lib.indexByte s c'; the world is as it was. (LAID: no walk: one application.) -/
theorem Tryz.strings_IndexByte (s : ByteArray) (c : Int) (w : World) :
    Calls Tryz.prog 131 #[.string s, .int .u8 c] w fun e w' => e = .returned (.int .i64 (Lib.indexByte s.data.toList c.toNat.toUInt8)) ∧ w' = w := Any.strings_IndexByte Tryz.lays137 s c w
end Go.Proofs
end
section
namespace Go.Proofs.YtlhaefblchpjhaaGreatDoor.FjW
open Go.RowKit Go.Proofs.YtlhaefblchpjhaaGreatDoorW.PrintWords Go.Proofs.YtlhaefblchpjhaaGreatDoorW.PrintLast Go.Proofs.YtlhaefblchpjhaaGreatDoorW.PrintMore
attribute [local go_sem] max2_int min2_int max_two min_two max_three min_three max_four min_four
set_option linter.unusedVariables false
set_option linter.unusedSimpArgs false
/-- strings.IndexByte of a text and a byte. -/
def ixOf (a : ByteArray) (c : Int) : Int := Lib.indexByte a.data.toList c.toNat.toUInt8
theorem ixCall (a : ByteArray) (c v : Int) (h : ixOf a c = v) (w : World) : Calls Tryz.prog 131 #[.string a, .int .u8 c] w fun e w' => e = .returned (.int .i64 v) ∧ w = w' := by
  subst h
  exact (Tryz.strings_IndexByte a c w).mono fun _ _ h => ⟨h.1, h.2.symm⟩
theorem bytesOf_get (a : ByteArray) (k : Nat) : (bytesOf a)[k]? = (a.data.toList[k]?).map fun b => (b.toNat : Int) := by
  unfold bytesOf; rw [List.getElem?_map]
theorem mem_take {l : List Int} {c : Int} {n : Nat} (h : c ∈ l.take n) : ∃ k, k < n ∧ l[k]? = some c := by
  obtain ⟨k, hk⟩ := List.getElem?_of_mem h
  rw [List.getElem?_take] at hk
  split at hk
  · exact ⟨k, by assumption, hk⟩
  · cases hk
theorem u8c {c : Int} (h0 : 0 ≤ c) (h1 : c ≤ 255) (b : UInt8) : (b.toNat : Int) = c ↔ b = c.toNat.toUInt8 := by
  constructor
  · intro h
    apply UInt8.toNat_inj.mp
    have : c.toNat < 256 := by omega
    rw [Nat.toUInt8, UInt8.toNat_ofNat']
    omega
  · intro h
    subst h
    rw [Nat.toUInt8, UInt8.toNat_ofNat']
    omega
theorem ix_or (a : ByteArray) (c : Int) (h0 : 0 ≤ c) (h1 : c ≤ 255) : (ixOf a c = -1 ∧ c ∉ bytesOf a) ∨ ∃ n : Nat, ixOf a c = (n : Int) ∧ n < a.size ∧ bt a (n : Int) = c ∧ c ∉ (bytesOf a).take n := by
  have hg := Lib.indexByte_ge a.data.toList c.toNat.toUInt8
  by_cases h : ixOf a c = -1
  · refine .inl ⟨h, fun hm => ?_⟩
    obtain ⟨k, hk⟩ := List.getElem?_of_mem hm
    rw [bytesOf_get] at hk
    obtain ⟨b, hb, e⟩ := Option.map_eq_some_iff.mp hk
    rw [(u8c h0 h1 b).mp e] at hb
    exact Lib.indexByte_none h k hb
  · obtain ⟨n, hn⟩ : ∃ n : Nat, ixOf a c = (n : Int) := ⟨(ixOf a c).toNat, by unfold ixOf at *; omega⟩
    obtain ⟨g1, g2⟩ := Lib.indexByte_some (o := n) hn
    have hl : n < (bytesOf a).length := by
      rw [bytesOf, List.length_map]
      exact (List.getElem?_eq_some_iff.mp g1).1
    refine .inr ⟨n, hn, by rw [bytesOf_length] at hl; exact hl, ?_, fun hm => ?_⟩
    · rw [← rd_bytesOf]
      unfold rd
      rw [Int.toNat_natCast, List.getD_eq_getElem?_getD, bytesOf_get, g1]
      exact (u8c h0 h1 _).mpr rfl
    · obtain ⟨k, hk, e⟩ := mem_take hm
      rw [bytesOf_get] at e
      obtain ⟨b, hb, e⟩ := Option.map_eq_some_iff.mp e
      rw [(u8c h0 h1 b).mp e] at hb
      exact g2 k hk hb
theorem bt_get (a : ByteArray) (k : Nat) (h : k < a.size) : (bytesOf a)[k]? = some (bt a (k : Int)) := by
  have hl : k < (bytesOf a).length := by rw [bytesOf_length]; exact h
  rw [List.getElem?_eq_getElem hl, ← rd_bytesOf]
  unfold rd
  rw [Int.toNat_natCast, List.getD_eq_getElem?_getD, List.getElem?_eq_getElem hl]; rfl
theorem split_at (b : ByteArray) (n i : Nat) (hi : i ≤ n) (hn : n < b.size) (h34 : bt b (n : Int) = 34) (hr : ∀ j, i ≤ j → j < n → bt b (j : Int) = 92) :
    bytesOf b = (bytesOf b).take i ++ (List.replicate (n - i) 92 ++ 34 :: D b (n + 1)) := by
  have e1 : D b n = 34 :: D b (n + 1) := by rw [← h34]; exact D_cons b n hn
  rw [← e1]
  have e2 : (List.replicate (n - i) (92 : Int)) = (D b i).take (n - i) := by
    refine List.ext_getElem? fun k => ?_
    rw [List.getElem?_replicate, List.getElem?_take]
    split
    · rw [List.getElem?_drop, bt_get b (i + k) (by omega), hr (i + k) (by omega) (by omega)]
    · rfl
  rw [e2]
  have e3 : D b n = (D b i).drop (n - i) := by rw [D_drop]; congr 1; omega
  rw [e3, List.take_append_drop, List.take_append_drop]
/-- The first quotation mark, with the backslashes ahead of it. -/
theorem qend_at (b : ByteArray) (n i : Nat) (hi : i ≤ n) (hn : n < b.size) (h34 : bt b (n : Int) = 34) (hno : (34 : Int) ∉ (bytesOf b).take n) (hr : ∀ j, i ≤ j → j < n → bt b (j : Int) = 92) (hx : i = 0 ∨ bt b ((i : Int) - 1) ≠ 92) :
    Fj.qend (bytesOf b) = if (n - i) % 2 = 0 then some n else (Fj.qend (D b (n + 1))).map (n + 1 + ·) := by
  have hs := split_at b n i hi hn h34 hr
  have hl : ((bytesOf b).take i).length = i := by rw [List.length_take, bytesOf_length]; omega
  have hq := Fj.qend_first ((bytesOf b).take i) (D b (n + 1)) (n - i) (by
    rcases hx with h | h
    · left; rw [h]; rfl
    · by_cases h0 : i = 0
      · left; rw [h0]; rfl
      · right
        obtain ⟨m, rfl⟩ : ∃ m, i = m + 1 := ⟨i - 1, by omega⟩
        refine ⟨(bytesOf b).take m, bt b (m : Int), ?_, by rw [show ((m + 1 : Nat) : Int) - 1 = (m : Int) by omega] at h; exact h⟩
        rw [List.take_add_one, bt_get b m (by omega)]; rfl) (fun hm => hno (by
          have : (bytesOf b).take i = ((bytesOf b).take n).take i := by rw [List.take_take]; congr 1; omega
          rw [this] at hm
          exact List.mem_of_mem_take hm))
  rw [← hs, hl] at hq
  rw [hq]
  rw [show i + (n - i) = n from by omega]
theorem qend_no (b : ByteArray) (h : (34 : Int) ∉ bytesOf b) : Fj.qend (bytesOf b) = none := Fj.qend_without _ _ (Nat.le_refl _) h
/-- A string's inside and what is behind it, or an error. -/
def SaidR (a : ByteArray) (o : Option Nat) (e : Ending) : Prop := match o with
  | none => ∃ (x y : ByteArray) (T : TypeId) (u : Value), e = .returned (.tuple #[.string x, .string y, .iface T u])
  | some q => e = .returned (.tuple #[.string (a.extract 0 q), .string (cut a (q + 1)), .nilIface])
theorem saidR_none {a : ByteArray} {o : Option Nat} (h : o = none) (e : Ending) (x y : ByteArray) (T : TypeId) (u : Value) (he : e = .returned (.tuple #[.string x, .string y, .iface T u])) : SaidR a o e := by
  subst h; exact ⟨x, y, T, u, he⟩
theorem saidR_some {a x y : ByteArray} {o : Option Nat} {q : Nat} (h : o = some q) (hx : x = a.extract 0 q) (hy : y = cut a (q + 1)) {e : Ending} (he : e = .returned (.tuple #[.string x, .string y, .nilIface])) : SaidR a o e := by
  subst h; subst hx; subst hy; exact he
end Go.Proofs.YtlhaefblchpjhaaGreatDoor.FjW
end
section
namespace Go.Proofs.YtlhaefblchpjhaaGreatDoor.FjW
open Go.RowKit Go.Proofs.YtlhaefblchpjhaaGreatDoorW.PrintWords Go.Proofs.YtlhaefblchpjhaaGreatDoorW.PrintLast Go.Proofs.YtlhaefblchpjhaaGreatDoorW.PrintMore
attribute [local go_sem] max2_int min2_int max_two min_two max_three min_three max_four min_four
set_option linter.unusedVariables false
set_option linter.unusedSimpArgs false
theorem bt_pred (a : ByteArray) (n : Nat) (hn : 0 < n) : ∀ h : n - 1 < a.size, ((a[n - 1]'h).toNat : Int) = bt a ((n : Int) - 1) := by
  rw [show ((n : Int) - 1) = ((n - 1 : Nat) : Int) by omega]
  exact bt_at a ((n - 1 : Nat) : Int)
set_option maxHeartbeats 8000000 in
set_option maxRecDepth 100000 in
theorem raw (a : ByteArray) (hs : a.size ≤ 1000000) (w : World) :
    Calls Tryz.prog 123 #[.string a] w fun e w' => SaidR a (Fj.qend (bytesOf a)) e ∧ Below w.heap.size w w' := by
  rcases ix_or a 34 (by decide) (by decide) with ⟨h1, h2⟩ | ⟨n, h1, h2, h3, h4⟩
  · have HC : Aside0 (Fj.qend (bytesOf a) = none) := ⟨qend_no a h2⟩
    have H1 := Aside0.mk h1
    clear h1 h2 hs
    go_enter Tryz.func123, Tryz.ntmps123
    go_wp2_with (first | (go_at_call 131; (with_reducible refine (ixCall _ _ _ H1.out _).mono ?_); rintro e w' ⟨rfl, rfl⟩) | (go_at_call 72; (with_reducible refine (errNew _ _).mono ?_); rintro e w' ⟨⟨T, u, rfl⟩, hb⟩))
    go_ret3
    exact ⟨saidR_none HC.out _ _ _ T u rfl, hb⟩
  · have H1 := Aside0.mk h1
    clear h1
    by_cases c : n = 0
    · subst c
      have HC : Aside0 (Fj.qend (bytesOf a) = some 0) := ⟨qend_at a 0 0 (Nat.le_refl _) h2 h3 h4 (fun j _ h => absurd h (Nat.not_lt_zero _)) (.inl rfl)⟩
      clear h3 h4 hs
      go_enter Tryz.func123, Tryz.ntmps123
      go_wp2_with (first | (go_at_call 131; (with_reducible refine (ixCall _ _ _ H1.out _).mono ?_); rintro e w' ⟨rfl, rfl⟩))
      go_quiet (fail)
      go_wp2
      go_ret3
      exact ⟨saidR_some (x := ByteArray.empty) HC.out (by simp) rfl rfl, pw_below_drewN (Below.refl _ _) _⟩
    · have hx : ∀ h : n - 1 < a.size, ((a[n - 1]'h).toNat : Int) = bt a ((n : Int) - 1) := bt_pred a n (by omega)
      have hn0 : 0 < n := by omega
      have e0 : ((n : Int) == 0) = false := beq_eq_false_iff_ne.mpr (by omega)
      clear c
      by_cases c : bt a ((n : Int) - 1) = 92
      · have e1 : (bt a ((n : Int) - 1) != 92) = false := bne_eq_false_iff_eq.mpr c
        have HS := Aside0.mk hs
        have HQ : Aside0 (a = cut a 0 ∧ 0 + a.size = a.size ∧ Fj.qend (bytesOf a) = (Fj.qend (bytesOf a)).map (0 + ·) ∧ bt a (n : Int) = 34 ∧ (34 : Int) ∉ (bytesOf a).take n ∧ bt a ((n : Int) - 1) = 92) := ⟨(cut_zero a).symm, Nat.zero_add _, by cases Fj.qend (bytesOf a) <;> simp, h3, h4, c⟩
        clear h3 h4 c
        go_enter Tryz.func123, Tryz.ntmps123
        go_wp2_with (first | (go_at_call 131; (with_reducible refine (ixCall _ _ _ H1.out _).mono ?_); rintro e w' ⟨rfl, rfl⟩))
        clear e1 e0 hx
        go_loopw [0, 5] (fun v0 v5 wr => ∃ (b : ByteArray) (p m : Nat), v0 = .string b ∧ v5 = .int .i64 (m : Int) ∧ 0 < m ∧ m < b.size ∧ b.size ≤ a.size ∧ w = wr ∧ Aside0 (b = cut a p ∧ p + b.size = a.size ∧ Fj.qend (bytesOf a) = (Fj.qend (bytesOf b)).map (p + ·) ∧ bt b (m : Int) = 34 ∧ (34 : Int) ∉ (bytesOf b).take m ∧ bt b ((m : Int) - 1) = 92)) (fun v0 _ _ => match v0 with | .string b => b.size | _ => 0)
        case atStart => exact ⟨a, 0, n, rfl, rfl, hn0, h2, Nat.le_refl _, rfl, HQ⟩
        case round =>
          clear HQ hn0 h2 H1
          obtain ⟨b, p, m, rfl, rfl, hm0, hm, hba, rfl, HQ⟩ := hrel
          go_upto_block 2 with (fail)
          go_cut [7] (fun v7 wc => ∃ i : Nat, v7 = .int .i64 (i : Int) ∧ i ≤ m ∧ w = wc ∧ Aside0 (Fj.qend (bytesOf b) = if (m - i) % 2 = 0 then some m else (Fj.qend (D b (m + 1))).map (m + 1 + ·)))
          case first =>
            go_wp2_with (fail)
            go_loop [7] (fun v => ∃ i : Nat, v = .int .i64 (i : Int) ∧ i ≤ m ∧ Aside0 (∀ j, i ≤ j → j < m → bt b (j : Int) = 92)) (fun v => (intOf v).toNat)
            case atStart => exact ⟨m - 1, by go_num, by omega, ⟨fun j h1 h2 => by
              obtain rfl : j = m - 1 := by omega
              have := HQ.out.2.2.2.2.2
              rw [show ((m - 1 : Nat) : Int) = (m : Int) - 1 by omega]; exact this⟩⟩
            case round =>
              obtain ⟨i, rfl, him, HR⟩ := hrel
              have HA : Aside0 (i = 0 ∨ bt b ((i : Int) - 1) ≠ 92 → Fj.qend (bytesOf b) = if (m - i) % 2 = 0 then some m else (Fj.qend (D b (m + 1))).map (m + 1 + ·)) := ⟨fun h => qend_at b m i him hm HQ.out.2.2.2.1 HQ.out.2.2.2.2.1 HR.out h⟩
              by_cases c : i = 0
              · have HZ : Aside0 _ := ⟨HA.out (.inl c)⟩
                have e0 : decide ((0 : Int) < (i : Int)) = false := decide_eq_false (by omega)
                go_wp2
                go_meet
                case rel => exact ⟨i, by rw [c]; rfl, him, rfl, HZ⟩
              · have hi0 : 0 < i := by omega
                have hx : ∀ h : i - 1 < b.size, ((b[i - 1]'h).toNat : Int) = bt b ((i : Int) - 1) := bt_pred b i hi0
                clear c
                by_cases c : bt b ((i : Int) - 1) = 92
                · have e1 : (bt b ((i : Int) - 1) == 92) = true := beq_iff_eq.mpr c
                  have HR' : Aside0 (∀ j, i - 1 ≤ j → j < m → bt b (j : Int) = 92) := ⟨fun j h1 h2 => by
                    by_cases e : j = i - 1
                    · subst e
                      rw [show ((i - 1 : Nat) : Int) = (i : Int) - 1 by omega]; exact c
                    · exact HR.out j (by omega) h2⟩
                  clear c HA HR
                  go_wp2
                  go_round
                  case rel => exact ⟨i - 1, by go_num, by omega, HR'⟩
                  case measure => simp [intOf]; omega
                · have e1 : (bt b ((i : Int) - 1) == 92) = false := beq_eq_false_iff_ne.mpr c
                  have HZ : Aside0 _ := ⟨HA.out (.inr c)⟩
                  clear c HA
                  go_wp2
                  go_meet
                  case rel => exact ⟨i, rfl, him, rfl, HZ⟩
          case rest =>
            obtain ⟨i, rfl, him, rfl, HZ⟩ := hcut
            by_cases c : (m - i) % 2 = 0
            · have HC : Aside0 (Fj.qend (bytesOf a) = some (p + m)) := ⟨by rw [HQ.out.2.2.1, HZ.out, if_pos c]; rfl⟩
              have e2 : (((m : Int) - (i : Int)) % 2 == 0) = true := beq_iff_eq.mpr (by omega)
              have hp : (a.size : Int) - (b.size : Int) = (p : Int) := by have := HQ.out.2.1; omega
              have HX : Aside0 (cut b (m + 1) = cut a (p + m + 1)) := ⟨by rw [HQ.out.1, cut_cut]; rfl⟩
              have hpm : (p : Int) + (m : Int) ≤ (a.size : Int) := by have := HQ.out.2.1; omega
              have hpn : ((p : Int) + (m : Int)).toNat = p + m := by omega
              clear c
              go_wp2
              go_quiet (fail)
              go_wp2
              go_ret3
              exact ⟨saidR_some HC.out rfl HX.out rfl, pw_below_drewN (Below.refl _ _) _⟩
            · have e2 : (((m : Int) - (i : Int)) % 2 == 0) = false := beq_eq_false_iff_ne.mpr (by omega)
              obtain ⟨d, hd⟩ : ∃ d, b.extract (m + 1) b.size = d := ⟨_, rfl⟩
              have hds : d.size = b.size - (m + 1) := by rw [← hd]; exact cut_size b (m + 1)
              have hdD : bytesOf d = D b (m + 1) := by rw [← hd]; exact cut_bytes b (m + 1)
              have HD : Aside0 (d = cut a (p + m + 1) ∧ Fj.qend (bytesOf a) = (Fj.qend (bytesOf d)).map (p + m + 1 + ·)) := ⟨by rw [← hd, HQ.out.1]; exact cut_cut a p (m + 1), by
                rw [HQ.out.2.2.1, HZ.out, if_neg c, hdD]
                cases Fj.qend (D b (m + 1)) with
                | none => rfl
                | some q => simp only [Option.map_some]; congr 1; omega⟩
              have HP : Aside0 (p + m + 1 + d.size = a.size) := ⟨by have := HQ.out.2.1; omega⟩
              clear c HQ HZ hdD
              rcases ix_or d 34 (by decide) (by decide) with ⟨k1, k2⟩ | ⟨k, k1, k2, k3, k4⟩
              · have HC : Aside0 (Fj.qend (bytesOf a) = none) := ⟨by rw [HD.out.2, qend_no d k2]; rfl⟩
                have K1 := Aside0.mk k1
                have HDD := Aside0.mk hd
                clear k1 k2 hds hd
                go_wp2_with (first | (go_at_call 131; rw [HDD.out]; (with_reducible refine (ixCall _ _ _ K1.out _).mono ?_); rintro e w' ⟨rfl, rfl⟩) | (go_at_call 72; (with_reducible refine (errNew _ _).mono ?_); rintro e w' ⟨⟨T, u, rfl⟩, hb⟩))
                go_ret3
                exact ⟨saidR_none HC.out _ _ _ T u rfl, hb⟩
              · have K1 := Aside0.mk k1
                have HDD := Aside0.mk hd
                have HX : Aside0 (cut d (k + 1) = cut a (p + m + 1 + k + 1)) := ⟨by rw [HD.out.1, cut_cut]; rfl⟩
                have hp : (a.size : Int) - (d.size : Int) = ((p + m + 1 : Nat) : Int) := by have := HP.out; omega
                have hpm : ((p + m + 1 : Nat) : Int) + (k : Int) ≤ (a.size : Int) := by have := HP.out; omega
                have hpn : (((p + m + 1 : Nat) : Int) + (k : Int)).toNat = p + m + 1 + k := by omega
                have hda : d.size < b.size := by omega
                have hdaa : d.size ≤ a.size := by omega
                clear k1 hds hd
                by_cases c : k = 0
                · have HC : Aside0 (Fj.qend (bytesOf a) = some (p + m + 1 + k)) := ⟨by
                    rw [HD.out.2, qend_at d k 0 (Nat.zero_le _) k2 k3 k4 (fun j _ h => absurd h (by omega)) (.inl rfl), c]; rfl⟩
                  have e0 : ((k : Int) == 0) = true := beq_iff_eq.mpr (by omega)
                  clear c k3 k4
                  go_wp2_with (first | (go_at_call 131; rw [HDD.out]; (with_reducible refine (ixCall _ _ _ K1.out _).mono ?_); rintro e w' ⟨rfl, rfl⟩))
                  go_quiet (fail)
                  go_wp2
                  go_ret3
                  exact ⟨saidR_some HC.out rfl HX.out rfl, pw_below_drewN (Below.refl _ _) _⟩
                · have hk0 : 0 < k := by omega
                  have e0 : ((k : Int) == 0) = false := beq_eq_false_iff_ne.mpr (by omega)
                  have hx : ∀ h : k - 1 < d.size, ((d[k - 1]'h).toNat : Int) = bt d ((k : Int) - 1) := bt_pred d k hk0
                  clear c
                  by_cases c : bt d ((k : Int) - 1) = 92
                  · have e1 : (bt d ((k : Int) - 1) != 92) = false := bne_eq_false_iff_eq.mpr c
                    have HQ' : Aside0 (d = cut a (p + m + 1) ∧ p + m + 1 + d.size = a.size ∧ Fj.qend (bytesOf a) = (Fj.qend (bytesOf d)).map (p + m + 1 + ·) ∧ bt d (k : Int) = 34 ∧ (34 : Int) ∉ (bytesOf d).take k ∧ bt d ((k : Int) - 1) = 92) := ⟨HD.out.1, HP.out, HD.out.2, k3, k4, c⟩
                    clear c k3 k4
                    go_wp2_with (first | (go_at_call 131; rw [HDD.out]; (with_reducible refine (ixCall _ _ _ K1.out _).mono ?_); rintro e w' ⟨rfl, rfl⟩))
                    go_roundw
                    case rel => exact ⟨d, p + m + 1, k, rfl, rfl, hk0, k2, hdaa, trivial, HQ'⟩
                    case measure => exact hda
                  · have HC : Aside0 (Fj.qend (bytesOf a) = some (p + m + 1 + k)) := ⟨by
                      rw [HD.out.2, qend_at d k k (Nat.le_refl _) k2 k3 k4 (fun j h h' => absurd h' (by omega)) (.inr c)]; simp⟩
                    have e1 : (bt d ((k : Int) - 1) != 92) = true := bne_iff_ne.mpr c
                    clear c k3 k4
                    go_wp2_with (first | (go_at_call 131; rw [HDD.out]; (with_reducible refine (ixCall _ _ _ K1.out _).mono ?_); rintro e w' ⟨rfl, rfl⟩))
                    go_quiet (fail)
                    go_wp2
                    go_ret3
                    exact ⟨saidR_some HC.out rfl HX.out rfl, pw_below_drewN (Below.refl _ _) _⟩
      · have HC : Aside0 (Fj.qend (bytesOf a) = some n) := ⟨by
          rw [qend_at a n n (Nat.le_refl _) h2 h3 h4 (fun j h h' => by omega) (.inr c)]
          simp⟩
        have e1 : (bt a ((n : Int) - 1) != 92) = true := bne_iff_ne.mpr c
        clear h3 h4 c
        go_enter Tryz.func123, Tryz.ntmps123
        go_wp2_with (first | (go_at_call 131; (with_reducible refine (ixCall _ _ _ H1.out _).mono ?_); rintro e w' ⟨rfl, rfl⟩))
        go_quiet (fail)
        go_wp2
        go_ret3
        exact ⟨saidR_some HC.out rfl rfl rfl, pw_below_drewN (Below.refl _ _) _⟩
end Go.Proofs.YtlhaefblchpjhaaGreatDoor.FjW
end
section
namespace Go.Proofs.YtlhaefblchpjhaaGreatDoor.Fp
open Go.RowKit Go.Proofs.YtlhaefblchpjhaaGreatDoorW.PrintWords Go.Proofs.YtlhaefblchpjhaaGreatDoorW.PrintLast Go.Proofs.YtlhaefblchpjhaaGreatDoorW.PrintMore
open Go.Proofs.YtlhaefblchpjhaaGreatDoor.FjW (cut cut_cut cut_size cut_bytes cut_zero cut_bt bt_out D rd_D rd_D0 D_drop D_len D_nil D_cons ws_at skipWS errNew SaidR saidR_none saidR_some mem_take bt_get qend_at qend_no)
set_option linter.unusedVariables false
set_option linter.unusedSimpArgs false
theorem not_in (a : ByteArray) (j : Nat) (hj : j ≤ a.size) (c : Int) (h : ∀ i : Nat, i < j → bt a (i : Int) ≠ c) : c ∉ (bytesOf a).take j := fun hm => by
  obtain ⟨k, hk, e⟩ := mem_take hm
  rw [bt_get a k (by omega)] at e
  exact h k hk (Option.some.inj e)
set_option maxHeartbeats 4000000 in
set_option maxRecDepth 100000 in
theorem rawKeyA (a : ByteArray) (hs : a.size ≤ 1000000) (w : World) :
    Calls Tryz.prog 155 #[.string a] w fun e w' => SaidR a (Fj.qend (bytesOf a)) e ∧ Below w.heap.size w w' := by
  go_enter Tryz.func155, Tryz.ntmps155
  go_wp2
  go_loop [8] (fun v => ∃ j : Nat, v = .int .i64 (j : Int) ∧ j ≤ a.size ∧ Aside0 (∀ i : Nat, i < j → bt a (i : Int) ≠ 34 ∧ bt a (i : Int) ≠ 92)) (fun v => a.size - (intOf v).toNat)
  case atStart => exact ⟨0, rfl, Nat.zero_le _, ⟨fun i hi => absurd hi (Nat.not_lt_zero _)⟩⟩
  case round =>
    obtain ⟨j, rfl, hj, HJ⟩ := hrel
    by_cases hlt : j < a.size
    · have hx : ∀ h : j < a.size, ((a[j]'h).toNat : Int) = bt a (j : Int) := bt_at a (j : Int)
      by_cases c : bt a (j : Int) = 34
      · have HC : Aside0 (Fj.qend (bytesOf a) = some j) := ⟨by
          refine (qend_at a j j (Nat.le_refl _) hlt c (not_in a j hj 34 fun i hi => (HJ.out i hi).1) (fun i h1 h2 => by omega) ?_).trans (by simp)
          by_cases z : j = 0
          · exact .inl z
          · exact .inr (by rw [show (j : Int) - 1 = ((j - 1 : Nat) : Int) by omega]; exact (HJ.out (j - 1) (by omega)).2)⟩
        have e1 : (bt a (j : Int) == 34) = true := beq_iff_eq.mpr c
        have q1 : (j : Int) + 1 ≤ (a.size : Int) := by omega
        clear c HJ
        go_wp2
        go_quiet (fail)
        go_wp2
        go_ret3
        exact ⟨saidR_some HC.out rfl rfl rfl, pw_below_drewN (Below.refl _ _) _⟩
      · have e1 : (bt a (j : Int) == 34) = false := beq_eq_false_iff_ne.mpr c
        by_cases c2 : bt a (j : Int) = 92
        · have e2 : (bt a (j : Int) == 92) = true := beq_iff_eq.mpr c2
          have HS := Aside0.mk hs
          clear c c2 HJ
          cases ho : Fj.qend (bytesOf a) with
          | none =>
            have HO := Aside0.mk ho
            clear ho
            go_wp2_with (first | (go_at_call 123; (with_reducible refine (FjW.raw a HS.out _).mono ?_); rintro e w2 ⟨h, hb⟩; rw [HO.out] at h; obtain ⟨x, y, T, u, rfl⟩ := h; have HB := Aside0.mk hb; clear hb))
            go_ret3
            exact ⟨saidR_none HO.out _ _ _ T u rfl, HB.out⟩
          | some q =>
            have HO := Aside0.mk ho
            clear ho
            go_wp2_with (first | (go_at_call 123; (with_reducible refine (FjW.raw a HS.out _).mono ?_); rintro e w2 ⟨h, hb⟩; rw [HO.out] at h; have h : e = _ := h; subst h; have HB := Aside0.mk hb; clear hb))
            go_ret3
            exact ⟨saidR_some HO.out rfl rfl rfl, HB.out⟩
        · have e2 : (bt a (j : Int) == 92) = false := beq_eq_false_iff_ne.mpr c2
          have HJ' : Aside0 (∀ i : Nat, i < j + 1 → bt a (i : Int) ≠ 34 ∧ bt a (i : Int) ≠ 92) := ⟨fun i hi => by
            by_cases e : i = j
            · subst e; exact ⟨c, c2⟩
            · exact HJ.out i (by omega)⟩
          clear c c2 HJ
          go_wp2
          go_round
          case rel => exact ⟨j + 1, by go_num, by omega, HJ'⟩
          case measure => simp [intOf]; omega
    · obtain rfl : j = a.size := by omega
      have HC : Aside0 (Fj.qend (bytesOf a) = none) := ⟨qend_no a fun hm => not_in a a.size (Nat.le_refl _) 34 (fun i hi => (HJ.out i hi).1) (by rw [List.take_of_length_le (by rw [bytesOf_length]; exact Nat.le_refl _)]; exact hm)⟩
      clear hlt HJ
      go_wp2_with (first | (go_at_call 72; (with_reducible refine (errNew _ _).mono ?_); rintro e w' ⟨⟨T, u, rfl⟩, hb⟩))
      go_ret3
      exact ⟨saidR_none HC.out _ _ _ T u rfl, hb⟩
end Go.Proofs.YtlhaefblchpjhaaGreatDoor.Fp
end
section
namespace Go.Proofs.YtlhaefblchpjhaaGreatDoor.Fp
open Go.RowKit Go.Proofs.YtlhaefblchpjhaaGreatDoorW.PrintWords Go.Proofs.YtlhaefblchpjhaaGreatDoorW.PrintLast Go.Proofs.YtlhaefblchpjhaaGreatDoorW.PrintMore
open Go.Proofs.YtlhaefblchpjhaaGreatDoor.FjW (cut cut_cut cut_size cut_bytes cut_zero cut_bt bt_out D rd_D rd_D0 D_drop D_len D_nil D_cons ws_at skipWS errNew)
set_option linter.unusedVariables false
set_option linter.unusedSimpArgs false
/-- The cells of members. -/
def kvc : List (List Int) → List (Nat × Nat) → List Value
  | k :: ks, p :: ps => .string (strOfNums k) :: ptr p :: kvc ks ps
  | _, _ => []
theorem kvc_len : ∀ (ks : List (List Int)) (ps : List (Nat × Nat)), ks.length = ps.length → (kvc ks ps).length = ps.length * 2
  | [], [], _ => rfl
  | k :: ks, p :: ps, h => by
    have := kvc_len ks ps (by simpa using h)
    simp only [kvc, List.length_cons, this]; omega
  | [], _ :: _, h => by simp at h
  | _ :: _, [], h => by simp at h
theorem kvc_snoc (k : List Int) (p : Nat × Nat) : ∀ (ks : List (List Int)) (ps : List (Nat × Nat)), ks.length = ps.length → kvc (ks ++ [k]) (ps ++ [p]) = kvc ks ps ++ [.string (strOfNums k), ptr p]
  | [], [], _ => rfl
  | k' :: ks, p' :: ps, h => by
    have := kvc_snoc k p ks ps (by simpa using h)
    simp only [List.cons_append, kvc, this]
  | [], _ :: _, h => by simp at h
  | _ :: _, [], h => by simp at h
theorem kvc_at : ∀ (ks : List (List Int)) (ps : List (Nat × Nat)) (i : Nat), ks.length = ps.length → i < ps.length → (kvc ks ps)[i * 2]? = (ks[i]?).map (fun k => .string (strOfNums k)) ∧ (kvc ks ps)[i * 2 + 1]? = (ps[i]?).map ptr
  | [], [], i, _, hi => absurd hi (Nat.not_lt_zero _)
  | k :: ks, p :: ps, 0, _, _ => ⟨rfl, rfl⟩
  | k :: ks, p :: ps, i + 1, h, hi => by
    have := kvc_at ks ps i (by simpa using h) (by simpa using hi)
    rw [show (i + 1) * 2 = i * 2 + 1 + 1 by omega]
    simp only [kvc, List.getElem?_cons_succ]
    exact this
  | [], _ :: _, _, h, _ => by simp at h
  | _ :: _, [], _, h, _ => by simp at h
theorem row_in2k {pb n lo m : Nat} {bv v kv : Value} {xs : List Value} {W : World} (hP : Pb W pb bv v) (hC : Ca W pb n v) (h : W.ownsRow lo TK 2 kv m xs) {k : Nat} (hk : kv.ownBlock = some k) : lo ≤ k ∧ k < W.heap.size ∧ k ≠ pb ∧ some k ≠ v.ownBlock := by
  rcases h.2 with ⟨rfl, _⟩ | ⟨g, cap, cur, rfl, h1, h2, _⟩
  · cases hk
  · simp only [Value.ownBlock, Option.some.injEq] at hk
    subst hk
    refine ⟨h1, heap_lt h2, ?_, ?_⟩
    · rintro rfl
      unfold Pb at hP
      rw [hP] at h2
      simp only [Option.some.injEq, Obj.cells.injEq] at h2
      exact absurd h2.2.1 (by decide)
    · intro e
      obtain ⟨_, _, cur', hc⟩ := hC.lt e.symm
      rw [hc] at h2
      simp only [Option.some.injEq, Obj.cells.injEq] at h2
      exact absurd h2.2.1 (by decide)
theorem Step.grown2 {pb n : Nat} {v : Value} {w w' : World} (h : Step pb n v w w') {kv : Value} {lo m : Nat} {xs : List Value} {bv : Value} (hP : Pb w pb bv v) (hC : Ca w pb n v) (hr : w.ownsRow lo TK 2 kv m xs) : w'.ownsRow lo TK 2 kv m xs := by
  refine ⟨hr.1, ?_⟩
  rcases hr.2 with c | ⟨g, cap, cur, rfl, h1, h2, rest⟩
  · exact .inl c
  · have := row_in2k hP hC hr (k := g) rfl
    exact .inr ⟨g, cap, cur, rfl, h1, (h.blk g this.2.1 this.2.2.1 this.2.2.2).trans h2, rest⟩
/-- An object at b, n·5, while its members are read: its row has m places, told by xs; ps and vs: the members' values that lie there already. -/
structure Ob (pb n : Nat) (bv v : Value) (w : World) (b nn : Nat) (vv : Value) (W : World) (F : Addr → Prop) (kv : Value) (m : Nat) (xs : List Value) (ps : List (Nat × Nat)) (vs : List FV) : Prop where
  fine : Fine pb n bv v w nn vv W
  own : W.ownsRow w.heap.size TK 2 kv m xs
  cel : W.cell? ⟨b, n * 5, none⟩ = some kv ∧ W.cell? ⟨b, n * 5 + 1, none⟩ = some (.bool false) ∧ W.cell? ⟨b, n * 5 + 2, none⟩ = some nilS ∧ W.cell? ⟨b, n * 5 + 3, none⟩ = some emptyS ∧ W.cell? ⟨b, n * 5 + 4, none⟩ = some (.int .i64 1)
  blk : ∃ cur, W.heap[b]? = some (.cells cur TV (0, 0))
  new : ∀ i, i < 5 → New n v w ⟨b, n * 5 + i, none⟩ ∧ In pb nn vv W ⟨b, n * 5 + i, none⟩
  reps : Reps W F ps vs
  foot : ∀ x, F x → New n v w x ∧ In pb nn vv W x ∧ some x.block ≠ kv.ownBlock ∧ ∀ i, i < 5 → (⟨b, n * 5 + i, none⟩ : Addr) ≠ x
theorem Ob.start {pb n b : Nat} {bv v v1 : Value} {w w1 : World} (h : Got pb n bv v w b v1 w1) : Ob pb n bv v w b (n + 1) v1 (((w1.setCell ⟨b, n * 5 + 4, none⟩ (.int .i64 1)).setCell ⟨b, n * 5, none⟩ nilS).setCell ⟨b, n * 5 + 1, none⟩ (.bool false)) (fun _ => False) nilS 0 [] [] [] := by
  have hp := h.place
  have f1 := h.fine.set (hp 4 (by omega)).1 (hp 4 (by omega)).2 (.int .i64 1)
  have f2 := f1.set (hp 0 (by omega)).1 ((hp 0 (by omega)).2.set _) nilS
  have f3 := f2.set (hp 1 (by omega)).1 (((hp 1 (by omega)).2.set _).set _) (.bool false)
  obtain ⟨cur, hcur⟩ := h.blt
  have hz := h.zero
  have ho : ∀ i j, i ≠ j → ∀ (W : World) (u : Value), (W.setCell ⟨b, n * 5 + j, none⟩ u).cell? ⟨b, n * 5 + i, none⟩ = W.cell? ⟨b, n * 5 + i, none⟩ := fun i j hij W u => World.cell?_setCell_other _ _ _ _ (fun e => by injection e with _ e _; omega)
  refine ⟨f3, World.ownsRow_nil _ _ _ _, ⟨?_, ?_, ?_, ?_, ?_⟩, ⟨_, heap_set (heap_set (heap_set hcur _) _) _⟩, fun i hi => ⟨(hp i hi).1, (((hp i hi).2.set _).set _).set _⟩, .nil _, fun x hx => hx.elim⟩
  · exact (ho 0 1 (by omega) _ _).trans (World.cell?_setCell_same _ _ _ ((ho 0 4 (by omega) _ _).trans (hz 0 (by omega))))
  · exact World.cell?_setCell_same _ _ _ (((ho 1 0 (by omega) _ _).trans (ho 1 4 (by omega) _ _)).trans (hz 1 (by omega)))
  · exact (((ho 2 1 (by omega) _ _).trans (ho 2 0 (by omega) _ _)).trans (ho 2 4 (by omega) _ _)).trans (hz 2 (by omega))
  · exact (((ho 3 1 (by omega) _ _).trans (ho 3 0 (by omega) _ _)).trans (ho 3 4 (by omega) _ _)).trans (hz 3 (by omega))
  · exact ((ho 4 1 (by omega) _ _).trans (ho 4 0 (by omega) _ _)).trans (World.cell?_setCell_same _ _ _ (hz 4 (by omega)))
/-- What a child's reading leaves of the object. -/
theorem Ob.child {pb n b nn n2 m : Nat} {bv v vv v2 kv : Value} {w W W2 : World} {F : Addr → Prop} {xs : List Value} {ps : List (Nat × Nat)} {vs : List FV} (hC : Ca w pb n v) (h : Ob pb n bv v w b nn vv W F kv m xs ps vs) (g : Fine pb nn bv vv W n2 v2 W2) : Ob pb n bv v w b n2 v2 W2 F kv m xs ps vs := by
  have hc : ∀ i, i < 5 → W2.cell? ⟨b, n * 5 + i, none⟩ = W.cell? ⟨b, n * 5 + i, none⟩ := fun i hi => (h.new i hi).2.cell h.fine.ca g.step
  refine ⟨h.fine.trans hC g, g.step.grown2 h.fine.pbs h.fine.ca h.own, ⟨(hc 0 (by omega)).trans h.cel.1, (hc 1 (by omega)).trans h.cel.2.1, (hc 2 (by omega)).trans h.cel.2.2.1, (hc 3 (by omega)).trans h.cel.2.2.2.1, (hc 4 (by omega)).trans h.cel.2.2.2.2⟩, ?_, fun i hi => ⟨(h.new i hi).1, (h.new i hi).2.step g.step g.up⟩, h.reps.kept (g.step.keep h.fine.ca fun x hx => (h.foot x hx).2.1) (fun _ hx => hx), fun x hx => ⟨(h.foot x hx).1, (h.foot x hx).2.1.step g.step g.up, (h.foot x hx).2.2⟩⟩
  obtain ⟨cur, hcur⟩ := h.blk
  exact (g.step.keep (F := fun x => x = ⟨b, n * 5 + 0, none⟩) h.fine.ca (fun x hx => by rw [hx]; exact (h.new 0 (by omega)).2) _ rfl).2 cur _ hcur
theorem Ob.below {pb n b nn m : Nat} {bv v vv kv : Value} {w W W2 : World} {F : Addr → Prop} {xs : List Value} {ps : List (Nat × Nat)} {vs : List FV} (hC : Ca w pb n v) (h : Ob pb n bv v w b nn vv W F kv m xs ps vs) (g : Below W.heap.size W W2) : Ob pb n bv v w b nn vv W2 F kv m xs ps vs :=
  h.child hC ((Fine.refl h.fine.pbs h.fine.ca).below g)
theorem Ob.same {pb n b nn m : Nat} {bv v vv kv : Value} {w W W2 : World} {F : Addr → Prop} {xs : List Value} {ps : List (Nat × Nat)} {vs : List FV} (hC : Ca w pb n v) (h : Ob pb n bv v w b nn vv W F kv m xs ps vs) (e1 : W2.heap = W.heap) (e2 : W2.os = W.os ∧ W2.tape = W.tape ∧ W2.output = W.output) : Ob pb n bv v w b nn vv W2 F kv m xs ps vs :=
  h.child hC ((Fine.refl h.fine.pbs h.fine.ca).grown (same_grown e1 e2) fun k e => by cases e)
theorem Ob.apart {pb n b nn m : Nat} {bv v vv kv : Value} {w W : World} {F : Addr → Prop} {xs : List Value} {ps : List (Nat × Nat)} {vs : List FV} (h : Ob pb n bv v w b nn vv W F kv m xs ps vs) : some b ≠ kv.ownBlock := fun e => by
  obtain ⟨cur, hcur⟩ := h.blk
  exact row_ne hcur h.own e
/-- One place more. -/
theorem Ob.grow {pb n b nn m g c : Nat} {bv v vv kv : Value} {w W W' W2 : World} {F : Addr → Prop} {xs xs' : List Value} {ps : List (Nat × Nat)} {vs : List FV} (hC : Ca w pb n v) (h : Ob pb n bv v w b nn vv W F kv m xs ps vs)
    (hown : W'.ownsRow w.heap.size TK 2 (.slice (some ⟨g, 0, none⟩) (m + 1) c) (m + 1) xs') (hgr : W.grownBy W' kv.ownBlock) (hat : some g = kv.ownBlock ∨ W.heap.size ≤ g)
    (e1 : W2.heap = (W'.setCell ⟨b, n * 5, none⟩ (.slice (some ⟨g, 0, none⟩) (m + 1) c)).heap) (e2 : W2.os = W.os ∧ W2.tape = W.tape ∧ W2.output = W.output) : Ob pb n bv v w b nn vv W2 F (.slice (some ⟨g, 0, none⟩) (m + 1) c) (m + 1) xs' ps vs := by
  have f3 : Fine pb n bv v w nn vv W' := h.fine.grown hgr fun k hk => by have := row_in2k h.fine.pbs h.fine.ca h.own hk; exact ⟨this.1, this.2.2⟩
  have hi3 : ∀ i, i < 5 → In pb nn vv W' ⟨b, n * 5 + i, none⟩ := fun i hi => (h.new i hi).2.grown hgr
  obtain ⟨cur, hcur⟩ := h.blk
  have hbr := h.apart
  have hbl := heap_lt hcur
  obtain ⟨S, hS⟩ : ∃ S, S = Value.slice (some ⟨g, 0, none⟩) (m + 1) c := ⟨_, rfl⟩
  rw [← hS] at hown e1 ⊢
  have hSo : S.ownBlock = some g := by rw [hS]; rfl
  have hc3 : ∀ i, i < 5 → W'.cell? ⟨b, n * 5 + i, none⟩ = W.cell? ⟨b, n * 5 + i, none⟩ := fun i hi => World.cell?_of_block (hgr.block b hbl hbr)
  have hcs : ∀ i, i < 5 → i ≠ 0 → (W'.setCell ⟨b, n * 5, none⟩ S).cell? ⟨b, n * 5 + i, none⟩ = W.cell? ⟨b, n * 5 + i, none⟩ := fun i hi hne => (World.cell?_setCell_other _ _ _ _ (fun e => by injection e with _ e _; omega)).trans (hc3 i hi)
  have hb3 : W'.heap[b]? = some (.cells cur TV (0, 0)) := (hgr.block b hbl hbr).trans hcur
  have hk : Keep W (W'.setCell ⟨b, n * 5, none⟩ S) F := (grown_keep hgr fun x hx => ⟨(h.foot x hx).2.1.2.1, (h.foot x hx).2.2.1⟩).trans (set_keep _ rfl fun x hx => (h.foot x hx).2.2.2 0 (by omega))
  have hgb : g ≠ b := by
    rintro rfl
    rcases hat with e | e
    · exact hbr e
    · omega
  have base : Ob pb n bv v w b nn vv (W'.setCell ⟨b, n * 5, none⟩ S) F S (m + 1) xs' ps vs := by
    refine ⟨f3.set (h.new 0 (by omega)).1 (hi3 0 (by omega)) S, ?_, ⟨?_, (hcs 1 (by omega) (by omega)).trans h.cel.2.1, (hcs 2 (by omega) (by omega)).trans h.cel.2.2.1, (hcs 3 (by omega) (by omega)).trans h.cel.2.2.2.1, (hcs 4 (by omega) (by omega)).trans h.cel.2.2.2.2⟩, ⟨_, heap_set hb3 S⟩, fun i hi => ⟨(h.new i hi).1, (hi3 i hi).set _⟩, ?_, fun x hx => ?_⟩
    · exact ownsRow_setCell_other hown (by rw [hSo]; simpa using hgb) S
    · exact World.cell?_setCell_same _ _ _ ((hc3 0 (by omega)).trans h.cel.1)
    · exact h.reps.kept hk fun _ hx => hx
    · refine ⟨(h.foot x hx).1, ((h.foot x hx).2.1.grown hgr).set _, fun e => ?_, (h.foot x hx).2.2.2⟩
      rw [hSo] at e
      rcases hat with e1 | e1
      · exact (h.foot x hx).2.2.1 (e.trans e1)
      · have := (h.foot x hx).2.1.2.1; injection e with e; omega
  exact base.same hC e1 ⟨e2.1.trans hgr.os.symm, e2.2.1.trans hgr.tape.symm, e2.2.2.trans hgr.output.symm⟩
/-- A store into the row. -/
theorem Ob.store {pb n b nn m g c j : Nat} {bv v vv : Value} {w W : World} {F : Addr → Prop} {xs : List Value} {ps : List (Nat × Nat)} {vs : List FV} (h : Ob pb n bv v w b nn vv W F (.slice (some ⟨g, 0, none⟩) m c) m xs ps vs) (u : Value) : Ob pb n bv v w b nn vv (W.setCell ⟨g, j, none⟩ u) F (.slice (some ⟨g, 0, none⟩) m c) m (xs.set j u) ps vs := by
  obtain ⟨o1, hgr⟩ := h.own.stored j u
  have hbr : b ≠ g := fun e => h.apart (by rw [e]; rfl)
  have f3 : Fine pb n bv v w nn vv (W.setCell ⟨g, j, none⟩ u) := h.fine.grown hgr fun k hk => by
    have := row_in2k h.fine.pbs h.fine.ca h.own (k := k) hk; exact ⟨this.1, this.2.2⟩
  have hcs : ∀ i, (W.setCell ⟨g, j, none⟩ u).cell? ⟨b, i, none⟩ = W.cell? ⟨b, i, none⟩ := fun i => World.cell?_setCell_other _ _ _ _ (fun e => by injection e with e _ _; exact hbr e.symm)
  obtain ⟨cur, hcur⟩ := h.blk
  refine ⟨f3, o1, ⟨(hcs _).trans h.cel.1, (hcs _).trans h.cel.2.1, (hcs _).trans h.cel.2.2.1, (hcs _).trans h.cel.2.2.2.1, (hcs _).trans h.cel.2.2.2.2⟩, ⟨cur, (heap_other _ _ _ _ _ hbr).trans hcur⟩, fun i hi => ⟨(h.new i hi).1, (h.new i hi).2.set _⟩, ?_, fun x hx => ⟨(h.foot x hx).1, (h.foot x hx).2.1.set _, (h.foot x hx).2.2⟩⟩
  exact h.reps.kept (grown_keep hgr fun x hx => ⟨(h.foot x hx).2.1.2.1, (h.foot x hx).2.2.1⟩) fun _ hx => hx
/-- A child is laid. -/
theorem Ob.snoc {pb n b nn n2 m g c j : Nat} {bv v vv v2 : Value} {w W W2 : World} {F G : Addr → Prop} {xs : List Value} {ps : List (Nat × Nat)} {vs : List FV} {p : Nat × Nat} {u : FV} (hC : Ca w pb n v) (h0 : Ob pb n bv v w b nn vv W F (.slice (some ⟨g, 0, none⟩) m c) m xs ps vs) (f : Fine pb nn bv vv W n2 v2 W2)
    (hR : Rep W2 G p.1 p.2 u) (hG : ∀ x, G x → New nn vv W x ∧ In pb n2 v2 W2 x) : Ob pb n bv v w b n2 v2 (W2.setCell ⟨g, j, none⟩ (ptr p)) (fun x => F x ∨ G x) (.slice (some ⟨g, 0, none⟩) m c) m (xs.set j (ptr p)) (ps ++ [p]) (vs ++ [u]) := by
  have h := (h0.child hC f).store (j := j) (ptr p)
  have hr := row_in2k h0.fine.pbs h0.fine.ca h0.own (k := g) rfl
  have hgr := ((h0.child hC f).own.stored j (ptr p)).2
  have hGr : ∀ x, G x → x.block < W2.heap.size ∧ some x.block ≠ some g := fun x hx => by
    refine ⟨(hG x hx).2.2.1, fun e => ?_⟩
    injection e with e
    rcases (hG x hx).1 with c' | ⟨c', _⟩
    · omega
    · rw [e] at c'; exact hr.2.2.2 c'
  refine ⟨h.fine, h.own, h.cel, h.blk, h.new, Reps.snoc (hR.kept (grown_keep hgr hGr) fun _ hx => hx) h.reps (fun x a b => (hG x b).1.out (h0.foot x a).2.1), fun x hx => ?_⟩
  rcases hx with hx | hx
  · exact h.foot x hx
  · refine ⟨(hG x hx).1.up h0.fine, (hG x hx).2.set _, (hGr x hx).2, fun i hi e => (hG x hx).1.out (by rw [← e]; exact (h0.new i hi).2)⟩
theorem Ob.rep {pb n b nn m : Nat} {bv v vv kv : Value} {w W : World} {F : Addr → Prop} {xs : List Value} {ps : List (Nat × Nat)} {ms : List (List Int × FV)} (h : Ob pb n bv v w b nn vv W F kv m xs ps (ms.map Prod.snd)) (hm : m = ps.length) (hl : ms.length = ps.length) (hx : xs = kvc (ms.map Prod.fst) ps) (h0 : 0 < ps.length ∨ kv = nilS) : ∃ G, Rep W G b (n * 5) (.obj ms) ∧ ∀ x, G x → New n v w x ∧ In pb nn vv W x := by
  subst hm hx
  have hl' : (ms.map Prod.fst).length = ps.length := by rw [List.length_map]; exact hl
  refine ⟨fun x => F x ∨ (∃ i, i < 5 ∧ x = ⟨b, n * 5 + i, none⟩) ∨ (x.spot = none ∧ some x.block = kv.ownBlock), ?_, fun x hx => ?_⟩
  · refine .obj _ F b (n * 5) kv ps ms ⟨h.cel, ⟨.inr (.inl ⟨0, by omega, rfl⟩), .inr (.inl ⟨1, by omega, rfl⟩), .inr (.inl ⟨2, by omega, rfl⟩), .inr (.inl ⟨3, by omega, rfl⟩), .inr (.inl ⟨4, by omega, rfl⟩)⟩, h.blk⟩ ?_ h.reps (fun x hx => ⟨.inl hx, (h.foot x hx).2.2⟩) (fun x a b => .inr (.inr ⟨a, b⟩))
    rcases h.own.2 with ⟨e1, e2⟩ | ⟨g, cap, cur, e1, h1, h2, h3, h4, h5, h6⟩
    · exact .inl ⟨List.eq_nil_of_length_eq_zero e2, List.eq_nil_of_length_eq_zero (by omega), e1⟩
    · refine .inr ⟨g, cap, cur, e1, ?_, h3, hl', h2, fun i hi => ?_⟩
      · rcases h0 with h0 | h0
        · exact h0
        · rw [h0] at e1; cases e1
      · have h7 : ∀ j, j < ps.length * 2 → W.cell? ⟨g, j, none⟩ = (kvc (ms.map Prod.fst) ps)[j]? := fun j hj => (e1 ▸ h.own).cellAt j hj
        have h8 := kvc_at (ms.map Prod.fst) ps i hl' hi
        exact ⟨(h7 _ (by omega)).trans h8.1, (h7 _ (by omega)).trans h8.2, .inr (.inr ⟨rfl, by rw [e1]; rfl⟩), .inr (.inr ⟨rfl, by rw [e1]; rfl⟩)⟩
  · rcases hx with hx | ⟨i, hi, rfl⟩ | ⟨hs, hx⟩
    · exact ⟨(h.foot x hx).1, (h.foot x hx).2.1⟩
    · exact h.new i hi
    · have := row_in2k h.fine.pbs h.fine.ca h.own hx.symm
      exact ⟨.inl this.1, hs, this.2.1, this.2.2.1, fun e => absurd e this.2.2.2⟩
end Go.Proofs.YtlhaefblchpjhaaGreatDoor.Fp
end
