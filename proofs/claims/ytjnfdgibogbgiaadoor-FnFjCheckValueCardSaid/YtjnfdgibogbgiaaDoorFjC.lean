/- Proved: fastjson's validateString, as it is called.
   Proved: fastjson's validateKey, as it is called; the scan for control characters as plain facts.
   Values, elements and members at places of a text, one step at a time.
   Proved: fastjson's validateArray, as it is called, where validateValue is known for the texts that are no longer.
   Proved: fastjson's validateObject, as it is called, where validateValue is known for the texts that are no longer. (Printed by wip/ext/mk_fjobj.py.)
   Proved: fastjson's validateValue, as it is called. -/
import Derived.Test.YtjnfdgibogbgiaaDoorFjB
import Derived.Test.YtjnfdgibogbgiaaDoorFjA
namespace Go.Proofs.YtjnfdgibogbgiaaDoor.FjW
open Go.RowKit Go.Proofs.YtjnfdgibogbgiaaDoorW.PrintWords Go.Proofs.YtjnfdgibogbgiaaDoorW.PrintLast Go.Proofs.YtjnfdgibogbgiaaDoorW.PrintMore
attribute [local go_sem] max2_int min2_int max_two min_two max_three min_three max_four min_four
set_option linter.unusedVariables false
set_option linter.unusedSimpArgs false

theorem opn_no : ∀ x : List Int, (92 : Int) ∉ x → Fj.opn false x = false
  | [], _ => rfl
  | c :: x, h => by
    have h1 : (c == 92) = false := beq_eq_false_iff_ne.mpr fun e => h (by rw [e]; exact List.mem_cons_self ..)
    show Fj.opn (if false = true then false else c == 92) x = false
    rw [h1]
    exact opn_no x fun e => h (List.mem_cons_of_mem _ e)
set_option maxHeartbeats 8000000 in
set_option maxRecDepth 100000 in
theorem vstr (a : ByteArray) (hs : a.size ≤ 1000000) (w : World) (hG : Glob w) :
    Calls Tryd.prog 20 #[.string a] w fun e w' => SaidS a (Fj.vs (bytesOf a)) e ∧ Below w.heap.size w w' := by
  have HG := Aside0.mk hG
  have HS := Aside0.mk hs
  clear hG
  rcases ix_or a 34 (by decide) (by decide) with ⟨h1, h2⟩ | ⟨n, h1, h2, h3, h4⟩
  · have HQ : Aside0 (Fj.qend (bytesOf a) = none) := ⟨qend_no a h2⟩
    have H1 := Aside0.mk h1
    clear h1 h2
    go_enter Tryd.func20, Tryd.ntmps20
    go_wp2_with (first
      | (go_at_call 28; (with_reducible refine (ixCall _ _ _ H1.out _).mono ?_); rintro e w' ⟨rfl, rfl⟩)
      | (go_at_call 29; (with_reducible refine (raw _ HS.out _).mono ?_); rintro e w' ⟨h, hb⟩; rw [HQ.out] at h; obtain ⟨x, y, T, u, rfl⟩ := h; have HB := Aside0.mk hb; clear hb))
    go_ret3
    exact ⟨saidS_none (vs_none HQ.out) _ _ _ T u rfl, HB.out⟩
  · have H1 := Aside0.mk h1
    clear h1
    obtain ⟨c, hc⟩ : ∃ c, a.extract 0 n = c := ⟨_, rfl⟩
    have hcb : bytesOf c = (bytesOf a).take n := by rw [← hc, extract_bytes, List.drop_zero]
    have HCC := Aside0.mk hc
    rcases ix_or c 92 (by decide) (by decide) with ⟨k1, k2⟩ | ⟨k, k1, k2, k3, k4⟩
    · have HQ : Aside0 (Fj.vs (bytesOf a) = some (0, n)) := ⟨by
        rw [hcb] at k2
        have hq : Fj.qend (bytesOf a) = some n := by
          have e : bytesOf a = (bytesOf a).take n ++ (34 :: D a (n + 1)) := by
            have := D_cons a n h2
            rw [h3] at this
            rw [← this, List.take_append_drop]
          rw [e]
          have := Fj.qe_ahead (34 :: D a (n + 1)) ((bytesOf a).take n) false h4
          show Fj.qe false _ = _
          rw [this]
          rw [opn_no _ k2]
          show Option.map _ (Fj.qend _) = _
          rw [Fj.qend_34]
          have hl : ((bytesOf a).take n).length = n := by rw [List.length_take, bytesOf_length]; omega
          simp only [Option.map_some, hl, Nat.add_zero]
        rw [vs_some hq, Fj.escs_clean _ k2]; rfl⟩
      have K1 := Aside0.mk k1
      clear k1 k2 hcb h3 h4
      go_enter Tryd.func20, Tryd.ntmps20
      go_wp2_with (first
        | (go_at_call_of 28 c; (with_reducible refine (ixCall _ _ _ K1.out _).mono ?_); rintro e w' ⟨rfl, rfl⟩)
        | (go_at_call 28; (with_reducible refine (ixCall _ _ _ H1.out _).mono ?_); rintro e w' ⟨rfl, rfl⟩))
      go_quiet (fail)
      go_wp2
      go_ret3
      exact ⟨saidS_some HQ.out HCC.out.symm rfl rfl, pw_below_drewN (Below.refl _ _) _⟩
    · have K1 := Aside0.mk k1
      clear k1 k2 hcb h3 h4
      cases hq : Fj.qend (bytesOf a) with
      | none =>
        have HQ := Aside0.mk hq
        clear hq k3 k4
        go_enter Tryd.func20, Tryd.ntmps20
        go_wp2_with (first
          | (go_at_call_of 28 c; (with_reducible refine (ixCall _ _ _ K1.out _).mono ?_); rintro e w' ⟨rfl, rfl⟩)
          | (go_at_call_of 28 a; (with_reducible refine (ixCall _ _ _ H1.out _).mono ?_); rintro e w' ⟨rfl, rfl⟩)
          | (go_at_call 29; (with_reducible refine (raw _ HS.out _).mono ?_); rintro e w' ⟨h, hb⟩; rw [HQ.out] at h; obtain ⟨x, y, T, u, rfl⟩ := h; have HB := Aside0.mk hb; clear hb))
        go_ret3
        exact ⟨saidS_none (vs_none HQ.out) _ _ _ T u rfl, HB.out⟩
      | some q =>
        have HQ := Aside0.mk hq
        obtain ⟨b, hb0⟩ : ∃ b, a.extract 0 q = b := ⟨_, rfl⟩
        obtain ⟨d, hd0⟩ : ∃ d, cut a (q + 1) = d := ⟨_, rfl⟩
        have HBB : Aside0 (bytesOf b = ((bytesOf a).take q).drop 0 ∧ Fj.escs ((bytesOf a).take q) = (Fj.escs (bytesOf b)).map (0 + ·)) := ⟨by rw [← hb0, extract_bytes], by
          rw [← hb0, extract_bytes, List.drop_zero]
          cases Fj.escs ((bytesOf a).take q) with
          | none => rfl
          | some m => simp only [Option.map_some, Nat.zero_add]⟩
        have hbs : b.size ≤ a.size := by rw [← hb0]; exact extract_size_le a 0 q
        have HD0 := Aside0.mk hd0
        have HB0 := Aside0.mk hb0
        clear hq k3 k4 hb0 hd0
        go_enter Tryd.func20, Tryd.ntmps20
        go_wp2_with (first
          | (go_at_call_of 28 c; (with_reducible refine (ixCall _ _ _ K1.out _).mono ?_); rintro e w' ⟨rfl, rfl⟩)
          | (go_at_call_of 28 a; (with_reducible refine (ixCall _ _ _ H1.out _).mono ?_); rintro e w' ⟨rfl, rfl⟩)
          | (go_at_call 29; (with_reducible refine (raw _ HS.out _).mono ?_); rintro e w' ⟨h, hb⟩; rw [HQ.out] at h; unfold SaidR at h; simp only [] at h; rw [HD0.out, HB0.out] at h; subst h; have HB := Aside0.mk hb; clear hb))
        go_loopw [6] (fun v6 wr => ∃ (r : ByteArray) (m : Nat), v6 = .string r ∧ r.size ≤ a.size ∧ Aside0 (bytesOf r = ((bytesOf a).take q).drop m ∧ Fj.escs ((bytesOf a).take q) = (Fj.escs (bytesOf r)).map (m + ·)) ∧ Aside0 (Below w.heap.size w wr)) (fun v6 _ => match v6 with | .string b => b.size | _ => 0)
        case atStart => exact ⟨b, 0, rfl, hbs, HBB, HB⟩
        case round =>
          clear HBB hbs HB hc
          obtain ⟨r, m, rfl, hrs, HR, HB⟩ := hrel
          rcases ix_or r 92 (by decide) (by decide) with ⟨j1, j2⟩ | ⟨j, j1, j2, j3, j4⟩
          · have J1 := Aside0.mk j1
            have HC : Aside0 (Fj.vs (bytesOf a) = some (m, q)) := ⟨by rw [vs_some HQ.out, HR.out.2, Fj.escs_clean _ j2]; rfl⟩
            clear j1 j2
            go_wp2_with (first
              | (go_at_call 28; (with_reducible refine (ixCall _ _ _ J1.out _).mono ?_); rintro e w' ⟨rfl, rfl⟩))
            go_ret3
            exact ⟨saidS_some HC.out (Base.bytes_inj (by rw [extract_bytes]; exact HR.out.1)) HD0.out.symm rfl, HB.out⟩
          · have J1 := Aside0.mk j1
            have HE : Aside0 (Fj.escs ((bytesOf a).take q) = (Fj.escs (92 :: D r (j + 1))).map (m + j + ·)) := ⟨by
              rw [HR.out.2, esc_at r j j2 j3 j4]
              cases Fj.escs (92 :: D r (j + 1)) with
              | none => rfl
              | some z => simp only [Option.map_some]; congr 1; omega⟩
            clear j1 j3 j4
            by_cases hlt : j + 1 < r.size
            · obtain ⟨ch, hch⟩ : ∃ ch, bt r ((j : Int) + 1) = ch := ⟨_, rfl⟩
              have hx : ∀ h : j + 1 < r.size, ((r[j + 1]'h).toNat : Int) = ch := by rw [← hch]; exact bt_at r ((j + 1 : Nat) : Int)
              obtain ⟨t, ht⟩ : ∃ t, r.extract (j + 1 + 1) r.size = t := ⟨_, rfl⟩
              have hts : t.size = r.size - (j + 2) := by rw [← ht]; exact cut_size r (j + 2)
              have htr : t.size < r.size := by omega
              have hta : t.size ≤ a.size := by omega
              have HT := Aside0.mk ht
              have HSI : Aside0 (Fj.simple8 (bt r ((j : Int) + 1)) = true → bytesOf t = ((bytesOf a).take q).drop (m + j + 2) ∧ Fj.escs ((bytesOf a).take q) = (Fj.escs (bytesOf t)).map (m + j + 2 + ·)) := ⟨fun h => by
                have e : bytesOf t = D r (j + 2) := by rw [← ht]; exact cut_bytes r (j + 2)
                refine ⟨by rw [e, D, HR.out.1, List.drop_drop]; rfl, ?_⟩
                rw [HE.out, esc_simple r j hlt h, e]
                cases Fj.escs (D r (j + 2)) with
                | none => rfl
                | some z => simp only [Option.map_some]; congr 1; omega⟩
              have HCH := Aside0.mk hch
              have hlo := letter_or ch
              clear hch
              rcases hlo with ⟨g1, hb⟩ | ⟨g1, g2, hb⟩ | ⟨g1, g2, g3, hb⟩ | ⟨g1, g2, g3, g4, hb⟩ | ⟨g1, g2, g3, g4, g5, hb⟩ | ⟨g1, g2, g3, g4, g5, g6, hb⟩ | ⟨g1, g2, g3, g4, g5, g6, g7, hb⟩ | ⟨g1, g2, g3, g4, g5, g6, g7, g8, hb⟩ | ⟨g1, g2, g3, g4, g5, g6, g7, g8, hb⟩
              rotate_right 1
              · by_cases c117 : ch = 117
                · subst c117
                  obtain ⟨s, hs0⟩ : ∃ s, t.extract 4 t.size = s := ⟨_, rfl⟩
                  obtain ⟨x, hx0⟩ : ∃ x, t.extract 0 4 = x := ⟨_, rfl⟩
                  have hss : s.size = t.size - 4 := by rw [← hs0]; exact cut_size t 4
                  have hsr : s.size < r.size := by omega
                  have hsa : s.size ≤ a.size := by omega
                  have HX0 := Aside0.mk hx0
                  have HS0 := Aside0.mk hs0
                  have hb4 : t.size = r.size - (j + 2) := hts
                  have HBAD : Aside0 (r.size < j + 2 + 4 ∨ hx4 x = false → Fj.vs (bytesOf a) = none) := ⟨fun h => by
                    rw [vs_some HQ.out, HE.out, esc_u_bad r j hlt HCH.out (by rw [← hx0, ← ht] at h; exact h)]; rfl⟩
                  have HGOOD : Aside0 (j + 2 + 4 ≤ r.size → hx4 x = true → bytesOf s = ((bytesOf a).take q).drop (m + j + 6) ∧ Fj.escs ((bytesOf a).take q) = (Fj.escs (bytesOf s)).map (m + j + 6 + ·)) := ⟨fun h h' => by
                    have e : bytesOf s = D r (j + 6) := by rw [← hs0, ← ht]; exact (cut_bytes (cut r (j + 2)) 4).trans (by rw [cut_bytes, List.drop_drop])
                    refine ⟨by rw [e, D, HR.out.1, List.drop_drop]; rfl, ?_⟩
                    rw [HE.out, esc_u r j hlt HCH.out h (by rw [← hx0, ← ht] at h'; exact h'), e]
                    cases Fj.escs (D r (j + 6)) with
                    | none => rfl
                    | some z => simp only [Option.map_some]; congr 1; omega⟩
                  clear hb hts htr hta hss hs0 hx0
                  by_cases h4 : t.size < 4
                  · have HC : Aside0 (Fj.vs (bytesOf a) = none) := ⟨HBAD.out (.inl (by omega))⟩
                    clear hb4
                    go_wp2_with (first
                      | (go_at_call 28; (with_reducible refine (ixCall _ _ _ J1.out _).mono ?_); rintro e w' ⟨rfl, rfl⟩)
                      | (go_at_call 17; (with_reducible refine (errNew _ _).mono ?_); rintro e w' ⟨⟨T, u, rfl⟩, hb⟩; have HB2 := Aside0.mk (HB.out.trans (hb.mono HB.out.size)); clear hb))
                    go_ret3
                    exact ⟨saidS_none HC.out _ _ _ T u rfl, HB2.out⟩
                  · have h4' : 4 ≤ t.size := by omega
                    have HXS : Aside0 (x.size = 4) := ⟨by
                      rw [← HX0.out, ← bytesOf_length, extract_bytes, List.length_drop, List.length_take, bytesOf_length]; omega⟩
                    have HGl := Aside0.mk (HG.out.below HB.out)
                    clear h4
                    cases hx4 : hx4 x with
                    | true =>
                      have HN := Aside0.mk (HGOOD.out (by omega) hx4)
                      have HX := Aside0.mk hx4
                      clear hx4 hb4
                      go_wp2_with (first
                        | (go_at_call 28; (with_reducible refine (ixCall _ _ _ J1.out _).mono ?_); rintro e w' ⟨rfl, rfl⟩)
                        | (go_at_call 30; rw [HT.out, HX0.out]; (with_reducible refine (hexYes _ HXS.out HX.out _).mono ?_); rintro e w' ⟨⟨v, rfl⟩, hb⟩; have HB2 := Aside0.mk (HB.out.trans (hb.mono HB.out.size)); clear hb))
                      go_roundw
                      case rel => exact ⟨s, m + j + 6, by rw [HS0.out], hsa, HN, HB2⟩
                      case measure => rw [HS0.out]; exact hsr
                    | false =>
                      have HC : Aside0 (Fj.vs (bytesOf a) = none) := ⟨HBAD.out (.inr hx4)⟩
                      have HX := Aside0.mk hx4
                      clear hx4 hb4
                      go_wp2_with (first
                        | (go_at_call 28; (with_reducible refine (ixCall _ _ _ J1.out _).mono ?_); rintro e w' ⟨rfl, rfl⟩)
                        | (go_at_call 30; rw [HT.out, HX0.out]; (with_reducible refine (hexNo _ HXS.out HX.out _ HGl.out).mono ?_); rintro e w' ⟨⟨v, T, u, rfl⟩, hb⟩; have HB2 := Aside0.mk (HB.out.trans (hb.mono HB.out.size)); clear hb)
                        | (go_at_call 17; (with_reducible refine (errNew _ _).mono ?_); rintro e w' ⟨⟨T, u, rfl⟩, hb⟩; have HB3 := Aside0.mk (HB2.out.trans (hb.mono HB2.out.size)); clear hb))
                      go_ret3
                      exact ⟨saidS_none HC.out _ _ _ T u rfl, HB3.out⟩
                · have HC : Aside0 (Fj.vs (bytesOf a) = none) := ⟨by
                    rw [vs_some HQ.out, HE.out, esc_other r j hlt (by rw [HCH.out]; exact hb) (by rw [HCH.out]; exact c117)]; rfl⟩
                  have g9 : (ch == 117) = false := beq_eq_false_iff_ne.mpr c117
                  clear c117 hb hts htr hta
                  go_wp2_with (first
                    | (go_at_call 28; (with_reducible refine (ixCall _ _ _ J1.out _).mono ?_); rintro e w' ⟨rfl, rfl⟩)
                    | (go_at_call 17; (with_reducible refine (errNew _ _).mono ?_); rintro e w' ⟨⟨T, u, rfl⟩, hb⟩; have HB2 := Aside0.mk (HB.out.trans (hb.mono HB.out.size)); clear hb))
                  go_ret3
                  exact ⟨saidS_none HC.out _ _ _ T u rfl, HB2.out⟩
              all_goals
                have HN : Aside0 (bytesOf t = ((bytesOf a).take q).drop (m + j + 2) ∧ Fj.escs ((bytesOf a).take q) = (Fj.escs (bytesOf t)).map (m + j + 2 + ·)) := ⟨HSI.out (by rw [HCH.out]; exact hb)⟩
                clear hb hts
                go_wp2_with (first
                  | (go_at_call 28; (with_reducible refine (ixCall _ _ _ J1.out _).mono ?_); rintro e w' ⟨rfl, rfl⟩))
                go_roundw
                case rel => exact ⟨t, m + j + 2, by rw [HT.out], hta, HN, HB⟩
                case measure => rw [HT.out]; exact htr
            · have HC : Aside0 (Fj.vs (bytesOf a) = none) := ⟨by rw [vs_some HQ.out, HE.out, esc_end r j (by omega)]; rfl⟩
              have hd : decide ((r.size : Int) ≤ (j : Int) + 1) = true := decide_eq_true (by omega)
              clear hlt
              go_wp2_with (first
                | (go_at_call 28; (with_reducible refine (ixCall _ _ _ J1.out _).mono ?_); rintro e w' ⟨rfl, rfl⟩)
                | (go_at_call 17; (with_reducible refine (errNew _ _).mono ?_); rintro e w' ⟨⟨T, u, rfl⟩, hb⟩; have HB2 := Aside0.mk (HB.out.trans (hb.mono HB.out.size)); clear hb))
              go_ret3
              exact ⟨saidS_none HC.out _ _ _ T u rfl, HB2.out⟩
end Go.Proofs.YtjnfdgibogbgiaaDoor.FjW
namespace Go.Proofs.YtjnfdgibogbgiaaDoor.FjW
open Go.RowKit Go.Proofs.YtjnfdgibogbgiaaDoorW.PrintWords Go.Proofs.YtjnfdgibogbgiaaDoorW.PrintLast Go.Proofs.YtjnfdgibogbgiaaDoorW.PrintMore
attribute [local go_sem] max2_int min2_int max_two min_two max_three min_three max_four min_four
set_option linter.unusedVariables false
set_option linter.unusedSimpArgs false

theorem take_one (b : ByteArray) (n : Nat) (hn : n < b.size) : (bytesOf b).take (n + 1) = (bytesOf b).take n ++ [bt b (n : Int)] := by
  rw [List.take_add_one, bt_get b n hn]; rfl
/-- The first quotation mark, and no backslash ahead of it. -/
theorem vs_plain (a : ByteArray) (n : Nat) (hn : n < a.size) (h34 : bt a (n : Int) = 34) (h1 : (34 : Int) ∉ (bytesOf a).take n) (h2 : (92 : Int) ∉ (bytesOf a).take n) : Fj.vs (bytesOf a) = some (0, n) := by
  have hq : Fj.qend (bytesOf a) = some n := by
    have e : bytesOf a = (bytesOf a).take n ++ (34 :: D a (n + 1)) := by
      have := D_cons a n hn
      rw [h34] at this
      rw [← this, List.take_append_drop]
    rw [e]
    have := Fj.qe_ahead (34 :: D a (n + 1)) ((bytesOf a).take n) false h1
    show Fj.qe false _ = _
    rw [this, opn_no _ h2]
    show Option.map _ (Fj.qend _) = _
    rw [Fj.qend_34]
    have hl : ((bytesOf a).take n).length = n := by rw [List.length_take, bytesOf_length]; omega
    simp only [Option.map_some, hl, Nat.add_zero]
  rw [vs_some hq, Fj.escs_clean _ h2]; rfl
theorem not_mem_one {l : List Int} {c x : Int} (h : c ∉ l) (hx : x ≠ c) : c ∉ l ++ [x] := by
  intro h'
  rcases List.mem_append.mp h' with g | g
  · exact h g
  · exact hx (List.mem_singleton.mp g).symm
set_option maxHeartbeats 8000000 in
set_option maxRecDepth 100000 in
theorem vkey (a : ByteArray) (hs : a.size ≤ 1000000) (w : World) (hG : Glob w) :
    Calls Tryd.prog 27 #[.string a] w fun e w' => SaidS a (Fj.vs (bytesOf a)) e ∧ Below w.heap.size w w' := by
  have HG := Aside0.mk hG
  have HS := Aside0.mk hs
  clear hG
  go_enter Tryd.func27, Tryd.ntmps27
  go_wp2
  go_loop [8] (fun v => ∃ k : Nat, v = .int .i64 (k : Int) ∧ k ≤ a.size ∧ Aside0 ((34 : Int) ∉ (bytesOf a).take k ∧ (92 : Int) ∉ (bytesOf a).take k)) (fun v => a.size - (intOf v).toNat)
  case atStart => exact ⟨0, rfl, Nat.zero_le _, ⟨by simp, by simp⟩⟩
  case round =>
    obtain ⟨k, rfl, hk, HH⟩ := hrel
    by_cases hlt : k < a.size
    · have hx : ∀ h : k < a.size, ((a[k]'h).toNat : Int) = bt a (k : Int) := bt_at a (k : Int)
      by_cases c1 : bt a (k : Int) = 34
      · have e1 : (bt a (k : Int) == 34) = true := beq_iff_eq.mpr c1
        have HC : Aside0 (Fj.vs (bytesOf a) = some (0, k)) := ⟨vs_plain a k hlt c1 HH.out.1 HH.out.2⟩
        clear c1
        go_wp2
        go_quiet (fail)
        go_wp2
        go_ret3
        exact ⟨saidS_some HC.out (by first | rfl | simp) rfl rfl, pw_below_drewN (Below.refl _ _) _⟩
      · have e1 : (bt a (k : Int) == 34) = false := beq_eq_false_iff_ne.mpr c1
        by_cases c2 : bt a (k : Int) = 92
        · have e2 : (bt a (k : Int) == 92) = true := beq_iff_eq.mpr c2
          clear c1 c2
          cases hv : Fj.vs (bytesOf a) with
          | none =>
            have HV := Aside0.mk hv
            clear hv
            go_wp2_with (go_at_call 20; (with_reducible refine (vstr _ HS.out _ HG.out).mono ?_); rintro e w' ⟨h, hb⟩; rw [HV.out] at h; obtain ⟨x, y, T, u, rfl⟩ := h; have HB := Aside0.mk hb; clear hb)
            go_ret3
            exact ⟨saidS_none HV.out _ _ _ T u rfl, HB.out⟩
          | some p =>
            have HV := Aside0.mk hv
            clear hv
            go_wp2_with (go_at_call 20; (with_reducible refine (vstr _ HS.out _ HG.out).mono ?_); rintro e w' ⟨h, hb⟩; rw [HV.out] at h; unfold SaidS at h; simp only [] at h; subst h; have HB := Aside0.mk hb; clear hb)
            go_ret3
            exact ⟨saidS_some (m := p.1) (q := p.2) HV.out rfl rfl rfl, HB.out⟩
        · have e2 : (bt a (k : Int) == 92) = false := beq_eq_false_iff_ne.mpr c2
          have HH' : Aside0 ((34 : Int) ∉ (bytesOf a).take (k + 1) ∧ (92 : Int) ∉ (bytesOf a).take (k + 1)) := ⟨by
            rw [take_one a k hlt]
            exact ⟨not_mem_one HH.out.1 c1, not_mem_one HH.out.2 c2⟩⟩
          clear c1 c2 HH
          go_wp2
          go_round
          case rel => exact ⟨k + 1, by go_num, by omega, HH'⟩
          case measure => simp [intOf]; omega
    · have HC : Aside0 (Fj.vs (bytesOf a) = none) := ⟨vs_none (qend_no a (by
        have := HH.out.1
        rw [List.take_of_length_le (by rw [bytesOf_length]; omega)] at this
        exact this))⟩
      obtain rfl : k = a.size := by omega
      clear hlt
      go_wp2_with (go_at_call 17; (with_reducible refine (errNew _ _).mono ?_); rintro e w' ⟨⟨T, u, rfl⟩, hb⟩)
      go_ret3
      exact ⟨saidS_none HC.out _ _ _ T u rfl, hb⟩
end Go.Proofs.YtjnfdgibogbgiaaDoor.FjW
namespace Go.Proofs.YtjnfdgibogbgiaaDoor.FjW
open Go.RowKit Go.Proofs.YtjnfdgibogbgiaaDoorW.PrintWords Go.Proofs.YtjnfdgibogbgiaaDoorW.PrintLast Go.Proofs.YtjnfdgibogbgiaaDoorW.PrintMore
set_option linter.unusedVariables false
set_option linter.unusedSimpArgs false

/-- Behind the blanks. -/
def nx (s : ByteArray) (p : Nat) : Nat := p + Fj.ws (D s p)
def vA (s : ByteArray) (f p : Nat) : Option Nat := (Fj.val f (D s p)).map (p + ·)
def eA (s : ByteArray) (f p : Nat) : Option Nat := (Fj.elems f (D s p)).map (p + ·)
def mA (s : ByteArray) (f p : Nat) : Option Nat := (Fj.mems f (D s p)).map (p + ·)
def qA (s : ByteArray) (p : Nat) : Option Nat := (Fj.quo (D s p)).map (p + ·)
theorem nx_ge (s : ByteArray) (p : Nat) : p ≤ nx s p := Nat.le_add_right _ _
theorem nx_nx (s : ByteArray) (p : Nat) : nx s (nx s p) = nx s p := by
  have h : ∀ l : List Int, Fj.ws (l.drop (Fj.ws l)) = 0 := fun l => by
    induction l with
    | nil => rfl
    | cons c r ih =>
      rw [Fj.ws]
      by_cases hb : Fj.blank c = true
      · rw [if_pos hb, List.drop_succ_cons]; exact ih
      · rw [if_neg hb, List.drop_zero, Fj.ws, if_neg hb]
  have := h (D s p)
  rw [D_drop] at this
  show p + Fj.ws (D s p) + Fj.ws (D s (p + Fj.ws (D s p))) = p + Fj.ws (D s p)
  rw [this, Nat.add_zero]
theorem eA_succ (s : ByteArray) (k p : Nat) : eA s (k + 1) p = match vA s k (nx s p) with
    | none => none
    | some v => if bt s (nx s v : Int) = 44 then eA s k (nx s v + 1) else if bt s (nx s v : Int) = 93 then some (nx s v + 1) else none := by
  unfold eA vA
  rw [Fj.elems, D_drop]
  show Option.map _ (match Fj.val k (D s (nx s p)) with | none => none | some v => _) = _
  cases hv : Fj.val k (D s (nx s p)) with
  | none => rfl
  | some v =>
    simp only [Option.map_some, D_drop, rd_D]
    have e1 : p + (Fj.ws (D s p) + v) = nx s p + v := by unfold nx; omega
    have e2 : p + (Fj.ws (D s p) + v + Fj.ws (D s (p + (Fj.ws (D s p) + v)))) = nx s (nx s p + v) := by rw [e1]; unfold nx at *; omega
    rw [e2]
    have e3 : p + (Fj.ws (D s p) + v + Fj.ws (D s (p + (Fj.ws (D s p) + v))) + 1) = nx s (nx s p + v) + 1 := by omega
    by_cases c1 : bt s (nx s (nx s p + v) : Int) = 44
    · rw [if_pos c1, if_pos c1, e3]
      cases Fj.elems k (D s (nx s (nx s p + v) + 1)) with
      | none => rfl
      | some e => simp only [Option.map_some]; congr 1; omega
    · rw [if_neg c1, if_neg c1]
      by_cases c2 : bt s (nx s (nx s p + v) : Int) = 93
      · rw [if_pos c2, if_pos c2]; simp only [Option.map_some]; congr 1
      · rw [if_neg c2, if_neg c2]; rfl
theorem mA_succ (s : ByteArray) (k p : Nat) : mA s (k + 1) p = if bt s (nx s p : Int) = 34 then match qA s (nx s p + 1) with
    | none => none
    | some b => if bt s (nx s b : Int) = 58 then match vA s k (nx s (nx s b + 1)) with
        | none => none
        | some v => if bt s (nx s v : Int) = 44 then mA s k (nx s v + 1) else if bt s (nx s v : Int) = 125 then some (nx s v + 1) else none
      else none
    else none := by
  unfold mA
  rw [Fj.mems]
  simp only [rd_D, D_drop]
  show Option.map _ (if bt s (nx s p : Int) = 34 then _ else _) = _
  by_cases c0 : bt s (nx s p : Int) = 34
  · rw [if_pos c0, if_pos c0]
    unfold qA vA
    have e0 : p + (Fj.ws (D s p) + 1) = nx s p + 1 := by unfold nx; omega
    rw [e0]
    cases hq : Fj.quo (D s (nx s p + 1)) with
    | none => rfl
    | some q =>
      simp only [Option.map_some]
      have e1 : p + (Fj.ws (D s p) + 1 + q) = nx s p + 1 + q := by unfold nx; omega
      have e2 : p + (Fj.ws (D s p) + 1 + q + Fj.ws (D s (p + (Fj.ws (D s p) + 1 + q)))) = nx s (nx s p + 1 + q) := by rw [e1]; unfold nx at *; omega
      have e3 : p + (Fj.ws (D s p) + 1 + q + Fj.ws (D s (p + (Fj.ws (D s p) + 1 + q))) + 1) = nx s (nx s p + 1 + q) + 1 := by omega
      rw [e2, e3]
      generalize nx s (nx s p + 1 + q) = b at *
      by_cases c1 : bt s (b : Int) = 58
      · rw [if_pos c1, if_pos c1]
        have e4 : b + 1 + Fj.ws (D s (b + 1)) = nx s (b + 1) := rfl
        rw [e4]
        cases hv : Fj.val k (D s (nx s (b + 1))) with
        | none => rfl
        | some v =>
          simp only [Option.map_some]
          have e5 : p + (Fj.ws (D s p) + 1 + q + Fj.ws (D s (p + (Fj.ws (D s p) + 1 + q))) + 1 + Fj.ws (D s (b + 1)) + v) = nx s (b + 1) + v := by unfold nx; omega
          have e6 : p + (Fj.ws (D s p) + 1 + q + Fj.ws (D s (p + (Fj.ws (D s p) + 1 + q))) + 1 + Fj.ws (D s (b + 1)) + v + Fj.ws (D s (p + (Fj.ws (D s p) + 1 + q + Fj.ws (D s (p + (Fj.ws (D s p) + 1 + q))) + 1 + Fj.ws (D s (b + 1)) + v)))) = nx s (nx s (b + 1) + v) := by rw [e5]; unfold nx at *; omega
          rw [e6]
          generalize nx s (nx s (b + 1) + v) = z at *
          have e7 : p + (Fj.ws (D s p) + 1 + q + Fj.ws (D s (p + (Fj.ws (D s p) + 1 + q))) + 1 + Fj.ws (D s (b + 1)) + v + Fj.ws (D s (p + (Fj.ws (D s p) + 1 + q + Fj.ws (D s (p + (Fj.ws (D s p) + 1 + q))) + 1 + Fj.ws (D s (b + 1)) + v))) + 1) = z + 1 := by omega
          by_cases c2 : bt s (z : Int) = 44
          · rw [if_pos c2, if_pos c2, e7]
            cases Fj.mems k (D s (z + 1)) with
            | none => rfl
            | some e => simp only [Option.map_some]; congr 1; omega
          · rw [if_neg c2, if_neg c2]
            by_cases c3 : bt s (z : Int) = 125
            · rw [if_pos c3, if_pos c3]; simp only [Option.map_some]; congr 1
            · rw [if_neg c3, if_neg c3]; rfl
      · rw [if_neg c1, if_neg c1]; rfl
  · rw [if_neg c0, if_neg c0]; rfl
theorem num_pos {l : List Int} {v : Nat} (h : Fj.num l = some v) : 1 ≤ v := by
  unfold Fj.num Fj.whole Fj.frac Fj.expo at h
  repeat' split at h
  all_goals first
    | (cases h; done)
    | (obtain rfl := Option.some.inj h; omega)
theorem val_pos {f : Nat} {l : List Int} {v : Nat} (h : Fj.val f l = some v) : 1 ≤ v := by
  cases f with
  | zero => rw [Fj.val] at h; cases h
  | succ f =>
    rw [Fj.val] at h
    repeat' split at h
    all_goals first
      | (cases h; done)
      | (obtain rfl := Option.some.inj h; omega)
      | (obtain ⟨x, _, rfl⟩ := Option.map_eq_some_iff.mp h; omega)
      | exact num_pos h
theorem val_nil (f : Nat) : Fj.val f [] = none := by
  cases f with
  | zero => rw [Fj.val]
  | succ f => rw [Fj.val, if_pos rfl]
end Go.Proofs.YtjnfdgibogbgiaaDoor.FjW
namespace Go.Proofs.YtjnfdgibogbgiaaDoor.FjW
open Go.RowKit Go.Proofs.YtjnfdgibogbgiaaDoorW.PrintWords Go.Proofs.YtjnfdgibogbgiaaDoorW.PrintLast Go.Proofs.YtjnfdgibogbgiaaDoorW.PrintMore
attribute [local go_sem] max2_int min2_int max_two min_two max_three min_three max_four min_four
set_option linter.unusedVariables false
set_option linter.unusedSimpArgs false

/-- validateValue, of texts of at most n bytes. -/
def VC (n : Nat) : Prop := ∀ (a : ByteArray) (f : Nat) (w : World), a.size ≤ n → a.size ≤ 1000000 → Fj.Steady (bytesOf a) → 2 * a.size + 2 ≤ f → Glob w →
    Calls Tryd.prog 10 #[.string a] w fun e w' => Said a (Fj.val f (bytesOf a)) e ∧ Below w.heap.size w w'
theorem skipTo (a b c : ByteArray) (p : Nat) (hs : a.size ≤ 1000000) (hb : b = cut a p) (hc : c = cut a (nx a p)) (w : World) :
    Calls Tryd.prog 26 #[.string b] w fun e w' => e = .returned (.string c) ∧ w = w' := by
  refine (skipWS b (by rw [hb, cut_size]; omega) w).mono fun e w' h => ⟨?_, h.2.symm⟩
  rw [h.1, hc, hb, cut_bytes]
  congr 2
  exact cut_cut a p (Fj.ws (D a p))
/-- The first byte of a part. -/
theorem first_bt (a b : ByteArray) (p : Nat) (hb : b = cut a p) : ∀ h : 0 < b.size, ((b[0]'h).toNat : Int) = bt a (p : Int) := fun h => by
  have h1 := bt_at b 0 h
  have h2 := cut_bt a p 0
  rw [← hb] at h2
  exact h1.trans h2
theorem steady_cut {a : ByteArray} (h : Fj.Steady (bytesOf a)) (p : Nat) : Fj.Steady (bytesOf (cut a p)) := by
  rw [cut_bytes]; exact Fj.Steady.drop p _ h
theorem cut_out {a b : ByteArray} {p : Nat} (hb : b = cut a p) (h : b.size = 0) : bt a (p : Int) = 0 := bt_out a p (by
  rw [hb, cut_size] at h; omega)
theorem vA_out {a b : ByteArray} {p : Nat} (hb : b = cut a p) (h : b.size = 0) (k : Nat) : vA a k p = none := by
  unfold vA
  rw [D_nil a p (by rw [hb, cut_size] at h; omega), val_nil]; rfl
theorem eA_nx (a : ByteArray) (k p : Nat) : eA a (k + 1) (nx a p) = eA a (k + 1) p := by
  rw [eA_succ, eA_succ, nx_nx]
theorem mA_nx (a : ByteArray) (k p : Nat) : mA a (k + 1) (nx a p) = mA a (k + 1) p := by
  rw [mA_succ, mA_succ, nx_nx]
/-- What is answered for a part, told of the whole. -/
theorem said_part {a b : ByteArray} {p : Nat} (hb : b = cut a p) {o : Option Nat} {e : Ending} (h : Said b o e) : Said a (o.map (p + ·)) e := by
  cases o with
  | none => exact h
  | some m =>
    unfold Said at h ⊢
    simp only [Option.map_some] at h ⊢
    rw [h, hb]
    congr 5
    exact cut_cut a p m
/-- An array's rest, behind the bracket that opens it. -/
def arrO (a : ByteArray) (g : Nat) : Option Nat := if bt a (nx a 0 : Int) = 93 then some (nx a 0 + 1) else eA a g 0
set_option maxHeartbeats 8000000 in
set_option maxRecDepth 100000 in
theorem arr (n : Nat) (hV : VC n) (a : ByteArray) (g : Nat) (w : World) (han : a.size ≤ n) (hs : a.size ≤ 1000000) (hst : Fj.Steady (bytesOf a)) (hg : 2 * a.size + 3 ≤ g) (hG : Glob w) :
    Calls Tryd.prog 19 #[.string a] w fun e w' => Said a (arrO a g) e ∧ Below w.heap.size w w' := by
  obtain ⟨g, rfl⟩ : ∃ k, g = k + 1 := ⟨g - 1, by omega⟩
  have HG := Aside0.mk hG
  have HS := Aside0.mk hs
  have HV := Aside0.mk hV
  have HN := Aside0.mk han
  have HST := Aside0.mk hst
  have HF := Aside0.mk hg
  obtain ⟨b0, hb0⟩ : ∃ b, b = cut a (nx a 0) := ⟨_, rfl⟩
  have HB0 := Aside0.mk hb0
  have hx := first_bt a b0 _ hb0
  have HA0 : Aside0 (a = cut a 0) := ⟨(cut_zero a).symm⟩
  clear hG hV han hst hg
  by_cases h0 : b0.size = 0
  · have HC : Aside0 (arrO a (g + 1) = none) := ⟨by
      unfold arrO
      rw [if_neg (by rw [cut_out hb0 h0]; decide), eA_succ, vA_out hb0 h0]⟩
    have e0 : ((b0.size : Int) == 0) = true := beq_iff_eq.mpr (by omega)
    clear h0 hb0 hx
    go_enter Tryd.func19, Tryd.ntmps19
    go_wp2_with (first
      | (go_at_call 26; (with_reducible refine (skipTo a _ b0 0 HS.out HA0.out HB0.out _).mono ?_); rintro e w' ⟨rfl, rfl⟩)
      | (go_at_call 17; (with_reducible refine (errNew _ _).mono ?_); rintro e w' ⟨⟨T, u, rfl⟩, hb⟩))
    go_ret2
    exact ⟨said_none HC.out _ T u rfl, hb⟩
  · have e0 : ((b0.size : Int) == 0) = false := beq_eq_false_iff_ne.mpr (by omega)
    have hz : 0 < b0.size := by omega
    clear h0
    by_cases c : bt a (nx a 0 : Int) = 93
    · have HC : Aside0 (arrO a (g + 1) = some (nx a 0 + 1)) := ⟨by unfold arrO; rw [if_pos c]⟩
      have e1 : (bt a (nx a 0 : Int) == 93) = true := beq_iff_eq.mpr c
      have HX : Aside0 (b0.extract 1 b0.size = cut a (nx a 0 + 1)) := ⟨by rw [hb0]; exact cut_cut a _ 1⟩
      clear hb0 c
      go_enter Tryd.func19, Tryd.ntmps19
      go_wp2_with (first
        | (go_at_call 26; (with_reducible refine (skipTo a _ b0 0 HS.out HA0.out HB0.out _).mono ?_); rintro e w' ⟨rfl, rfl⟩))
      go_ret2
      exact ⟨said_some HC.out HX.out rfl, Below.refl _ _⟩
    · have e1 : (bt a (nx a 0 : Int) == 93) = false := beq_eq_false_iff_ne.mpr c
      have HE : Aside0 (arrO a (g + 1) = eA a (g + 1) (nx a 0)) := ⟨by unfold arrO; rw [if_neg c, eA_nx]⟩
      have HFU : Aside0 (2 * (a.size - nx a 0) + 3 ≤ g + 1) := ⟨by have := HF.out; omega⟩
      have HBL := Aside0.mk (Below.refl w.heap.size w)
      clear hb0 c HF
      go_enter Tryd.func19, Tryd.ntmps19
      go_wp2_with (first
        | (go_at_call 26; (with_reducible refine (skipTo a _ b0 0 HS.out HA0.out HB0.out _).mono ?_); rintro e w' ⟨rfl, rfl⟩))
      go_loopg [0] (g + 1) (fun k v0 wr => ∃ (b : ByteArray) (p : Nat), v0 = .string b ∧ Aside0 (b = cut a p ∧ arrO a (g + 1) = eA a k p ∧ 2 * (a.size - p) + 3 ≤ k) ∧ Aside0 (Below w.heap.size w wr))
      case atStart => exact ⟨b0, nx a 0, rfl, ⟨HB0.out, HE.out, HFU.out⟩, HBL⟩
      case round =>
        clear HE HFU HBL hx hz e1 e0
        obtain ⟨b, p, rfl, HR, HBL⟩ := hrel
        obtain ⟨k, rfl⟩ : ∃ k, gk = k + 1 := ⟨gk - 1, by have := HR.out.2.2; omega⟩
        obtain ⟨q, hq⟩ : ∃ q, nx a p = q := ⟨_, rfl⟩
        have hpq : p ≤ q := by rw [← hq]; exact nx_ge a p
        obtain ⟨c, hc⟩ : ∃ c, c = cut a q := ⟨_, rfl⟩
        have HCQ : Aside0 (c = cut a (nx a p)) := ⟨by rw [hq]; exact hc⟩
        have HC0 := Aside0.mk hc
        have HE : Aside0 (arrO a (g + 1) = match vA a k q with
          | none => none
          | some v => if bt a (nx a v : Int) = 44 then eA a k (nx a v + 1) else if bt a (nx a v : Int) = 93 then some (nx a v + 1) else none) := ⟨by rw [HR.out.2.1, eA_succ, hq]; first | done | rfl⟩
        have hcs : c.size = a.size - q := by rw [hc]; exact cut_size a q
        have HCC : Aside0 (c.size ≤ n ∧ c.size ≤ 1000000 ∧ Fj.Steady (bytesOf c) ∧ 2 * c.size + 2 ≤ k) := ⟨by have := HN.out; omega, by have := HS.out; omega, by rw [hc]; exact steady_cut HST.out q, by have := HR.out.2.2; omega⟩
        have HGl := Aside0.mk (HG.out.below HBL.out)
        have HVC : Aside0 (∀ W, Glob W → Calls Tryd.prog 10 #[.string c] W fun e w' => Said c (Fj.val k (bytesOf c)) e ∧ Below W.heap.size W w') := ⟨fun W hW => HV.out c k W HCC.out.1 HCC.out.2.1 HCC.out.2.2.1 HCC.out.2.2.2 hW⟩
        have HQK : Aside0 (2 * (a.size - q) + 3 ≤ k + 1 ∧ (c.size = 0 → vA a k q = none) ∧ c.size = a.size - q) := ⟨by have := HR.out.2.2; omega, fun h => vA_out hc h k, hcs⟩
        cases hv : vA a k q with
        | none =>
          have HC : Aside0 (arrO a (g + 1) = none) := ⟨by rw [HE.out, hv]⟩
          have HVV : Aside0 (Fj.val k (bytesOf c) = none) := ⟨by
            unfold vA at hv
            rw [hc, cut_bytes]
            cases h : Fj.val k (D a q) with
            | none => rfl
            | some v => rw [h] at hv; cases hv⟩
          clear hv hc hcs hpq hq
          go_wp2_with (first
            | (go_at_call 26; (with_reducible refine (skipTo a _ c p HS.out HR.out.1 HCQ.out _).mono ?_); rintro e w' ⟨rfl, rfl⟩)
            | (go_at_call 10; (with_reducible refine (HVC.out _ HGl.out).mono ?_); rintro e w' ⟨h, hb⟩; rw [HVV.out] at h; obtain ⟨x, T, u, rfl⟩ := h; have HB1 := Aside0.mk (HBL.out.trans (hb.mono HBL.out.size)); clear hb)
            | (go_at_call 17; (with_reducible refine (errNew _ _).mono ?_); rintro e w' ⟨⟨T, u, rfl⟩, hb⟩; have HB2 := Aside0.mk (HB1.out.trans (hb.mono HB1.out.size)); clear hb))
          go_ret2
          exact ⟨said_none HC.out _ T u rfl, HB2.out⟩
        | some r =>
          have hqr : q < r ∧ Fj.val k (bytesOf c) = some (r - q) := by
            unfold vA at hv
            rw [hc, cut_bytes]
            cases h : Fj.val k (D a q) with
            | none => rw [h] at hv; cases hv
            | some v =>
              rw [h] at hv
              have := val_pos h
              simp only [Option.map_some, Option.some.injEq] at hv
              exact ⟨by omega, by congr 1; omega⟩
          have HVV := Aside0.mk hqr.2
          obtain ⟨d, hd⟩ : ∃ d, d = cut a r := ⟨_, rfl⟩
          have HDV : Aside0 (cut c (r - q) = d) := ⟨by rw [hc, hd]; exact (cut_cut a q (r - q)).trans (by congr 1; omega)⟩
          have HD0 := Aside0.mk hd
          obtain ⟨m, hm⟩ : ∃ m, nx a r = m := ⟨_, rfl⟩
          have hrm : r ≤ m := by rw [← hm]; exact nx_ge a r
          obtain ⟨f, hf⟩ : ∃ f, f = cut a m := ⟨_, rfl⟩
          have HFM : Aside0 (f = cut a (nx a r)) := ⟨by rw [hm]; exact hf⟩
          have HE2 : Aside0 (arrO a (g + 1) = if bt a (m : Int) = 44 then eA a k (m + 1) else if bt a (m : Int) = 93 then some (m + 1) else none) := ⟨by rw [HE.out, hv, ← hm]⟩
          have hx := first_bt a f _ hf
          have HX : Aside0 (f.extract 1 f.size = cut a (m + 1)) := ⟨by rw [hf]; exact cut_cut a m 1⟩
          have HF0 := Aside0.mk hf
          have HNE : Aside0 (2 * (a.size - (m + 1)) + 3 ≤ k) := ⟨by
            have := HQK.out
            have hc0 : c.size ≠ 0 := fun h => by rw [this.2.1 h] at hv; cases hv
            omega⟩
          clear hv hc hcs hpq hq hd hm hf HE hqr hrm
          by_cases z : f.size = 0
          · have HC : Aside0 (arrO a (g + 1) = none) := ⟨by rw [HE2.out, cut_out HF0.out z]; rfl⟩
            have e0 : ((f.size : Int) == 0) = true := beq_iff_eq.mpr (by omega)
            clear z hx
            go_wp2_with (first
              | (go_at_call_of 26 b; (with_reducible refine (skipTo a _ c p HS.out HR.out.1 HCQ.out _).mono ?_); rintro e w' ⟨rfl, rfl⟩)
              | (go_at_call_of 26 d; (with_reducible refine (skipTo a _ f r HS.out HD0.out HFM.out _).mono ?_); rintro e w' ⟨rfl, rfl⟩)
              | (go_at_call 10; (with_reducible refine (HVC.out _ HGl.out).mono ?_); rintro e w' ⟨h, hb⟩; rw [HVV.out] at h; unfold Said at h; simp only [] at h; rw [HDV.out] at h; subst h; have HB1 := Aside0.mk (HBL.out.trans (hb.mono HBL.out.size)); clear hb)
              | (go_at_call 17; (with_reducible refine (errNew _ _).mono ?_); rintro e w' ⟨⟨T, u, rfl⟩, hb⟩; have HB2 := Aside0.mk (HB1.out.trans (hb.mono HB1.out.size)); clear hb))
            go_ret2
            exact ⟨said_none HC.out _ T u rfl, HB2.out⟩
          · have e0 : ((f.size : Int) == 0) = false := beq_eq_false_iff_ne.mpr (by omega)
            have hz : 0 < f.size := by omega
            clear z
            by_cases c1 : bt a (m : Int) = 44
            · have e1 : (bt a (m : Int) == 44) = true := beq_iff_eq.mpr c1
              have HC : Aside0 (arrO a (g + 1) = eA a k (m + 1)) := ⟨by rw [HE2.out, if_pos c1]⟩
              clear c1
              go_wp2_with (first
                | (go_at_call_of 26 b; (with_reducible refine (skipTo a _ c p HS.out HR.out.1 HCQ.out _).mono ?_); rintro e w' ⟨rfl, rfl⟩)
                | (go_at_call_of 26 d; (with_reducible refine (skipTo a _ f r HS.out HD0.out HFM.out _).mono ?_); rintro e w' ⟨rfl, rfl⟩)
                | (go_at_call 10; (with_reducible refine (HVC.out _ HGl.out).mono ?_); rintro e w' ⟨h, hb⟩; rw [HVV.out] at h; unfold Said at h; simp only [] at h; rw [HDV.out] at h; subst h; have HB1 := Aside0.mk (HBL.out.trans (hb.mono HBL.out.size)); clear hb))
              go_roundg k
              case measure => omega
              case rel => exact ⟨_, m + 1, rfl, ⟨HX.out, HC.out, HNE.out⟩, HB1⟩
            · have e1 : (bt a (m : Int) == 44) = false := beq_eq_false_iff_ne.mpr c1
              by_cases c2 : bt a (m : Int) = 93
              · have e2 : (bt a (m : Int) == 93) = true := beq_iff_eq.mpr c2
                have HC : Aside0 (arrO a (g + 1) = some (m + 1)) := ⟨by rw [HE2.out, if_neg c1, if_pos c2]⟩
                clear c1 c2
                go_wp2_with (first
                  | (go_at_call_of 26 b; (with_reducible refine (skipTo a _ c p HS.out HR.out.1 HCQ.out _).mono ?_); rintro e w' ⟨rfl, rfl⟩)
                  | (go_at_call_of 26 d; (with_reducible refine (skipTo a _ f r HS.out HD0.out HFM.out _).mono ?_); rintro e w' ⟨rfl, rfl⟩)
                  | (go_at_call 10; (with_reducible refine (HVC.out _ HGl.out).mono ?_); rintro e w' ⟨h, hb⟩; rw [HVV.out] at h; unfold Said at h; simp only [] at h; rw [HDV.out] at h; subst h; have HB1 := Aside0.mk (HBL.out.trans (hb.mono HBL.out.size)); clear hb))
                go_ret2
                exact ⟨said_some HC.out HX.out rfl, HB1.out⟩
              · have e2 : (bt a (m : Int) == 93) = false := beq_eq_false_iff_ne.mpr c2
                have HC : Aside0 (arrO a (g + 1) = none) := ⟨by rw [HE2.out, if_neg c1, if_neg c2]⟩
                clear c1 c2
                go_wp2_with (first
                  | (go_at_call_of 26 b; (with_reducible refine (skipTo a _ c p HS.out HR.out.1 HCQ.out _).mono ?_); rintro e w' ⟨rfl, rfl⟩)
                  | (go_at_call_of 26 d; (with_reducible refine (skipTo a _ f r HS.out HD0.out HFM.out _).mono ?_); rintro e w' ⟨rfl, rfl⟩)
                  | (go_at_call 10; (with_reducible refine (HVC.out _ HGl.out).mono ?_); rintro e w' ⟨h, hb⟩; rw [HVV.out] at h; unfold Said at h; simp only [] at h; rw [HDV.out] at h; subst h; have HB1 := Aside0.mk (HBL.out.trans (hb.mono HBL.out.size)); clear hb)
                  | (go_at_call 17; (with_reducible refine (errNew _ _).mono ?_); rintro e w' ⟨⟨T, u, rfl⟩, hb⟩; have HB2 := Aside0.mk (HB1.out.trans (hb.mono HB1.out.size)); clear hb))
                go_ret2
                exact ⟨said_none HC.out _ T u rfl, HB2.out⟩
end Go.Proofs.YtjnfdgibogbgiaaDoor.FjW
namespace Go.Proofs.YtjnfdgibogbgiaaDoor.FjW
open Go.RowKit Go.Proofs.YtjnfdgibogbgiaaDoorW.PrintWords Go.Proofs.YtjnfdgibogbgiaaDoorW.PrintLast Go.Proofs.YtjnfdgibogbgiaaDoorW.PrintMore
attribute [local go_sem] max2_int min2_int max_two min_two max_three min_three max_four min_four
set_option linter.unusedVariables false
set_option linter.unusedSimpArgs false

/-- An object's rest, behind the brace that opens it. -/
def objO (a : ByteArray) (g : Nat) : Option Nat := if bt a (nx a 0 : Int) = 125 then some (nx a 0 + 1) else mA a g 0
theorem ctl_out {b : ByteArray} (h : Fj.ctl (bytesOf b) = false) (k : Nat) (hk : k < b.size) : ¬ bt b (k : Int) < 32 := by
  intro hlt
  have : Fj.ctl (bytesOf b) = true := List.any_eq_true.mpr ⟨bt b (k : Int), List.mem_of_getElem? (bt_get b k hk), decide_eq_true hlt⟩
  rw [h] at this; cases this
theorem ctl_in {b : ByteArray} (h : Fj.ctl (bytesOf b) = true) : ∃ k : Nat, k < b.size ∧ bt b (k : Int) < 32 := by
  obtain ⟨x, hx, hlt⟩ := List.any_eq_true.mp h
  obtain ⟨k, hk⟩ := List.getElem?_of_mem hx
  have hl : k < b.size := by
    have := (List.getElem?_eq_some_iff.mp hk).1
    rw [bytesOf_length] at this; exact this
  rw [bt_get b k hl] at hk
  exact ⟨k, hl, by rw [Option.some.inj hk]; exact of_decide_eq_true hlt⟩
/-- A name or a string of a steady text: what the checks of its parts say. -/
theorem quo_parts {a b : ByteArray} {p : Nat} (hb : b = cut a p) (hst : Fj.Steady (bytesOf a)) : qA a p = match Fj.vs (bytesOf b) with
    | none => none
    | some x => if Fj.ctl (bytesOf (b.extract x.1 x.2)) = true then none else some (p + (x.2 + 1)) := by
  unfold qA
  have e : D a p = bytesOf b := by rw [hb, cut_bytes]
  rw [e, Fj.quo_eq _ _ (Nat.le_refl _) (by rw [hb]; exact steady_cut hst p)]
  unfold Fj.quoB
  cases Fj.vs (bytesOf b) with
  | none => rfl
  | some x =>
    obtain ⟨m, q⟩ := x
    simp only [extract_bytes]
    by_cases c : Fj.ctl (((bytesOf b).take q).drop m) = true
    · rw [if_pos c, if_pos c]; rfl
    · rw [if_neg c, if_neg c]; rfl
set_option maxHeartbeats 16000000 in
set_option maxRecDepth 100000 in
theorem obj (n : Nat) (hV : VC n) (a : ByteArray) (g : Nat) (w : World) (han : a.size ≤ n) (hs : a.size ≤ 1000000) (hst : Fj.Steady (bytesOf a)) (hg : 2 * a.size + 3 ≤ g) (hG : Glob w) :
    Calls Tryd.prog 18 #[.string a] w fun e w' => Said a (objO a g) e ∧ Below w.heap.size w w' := by
  obtain ⟨g, rfl⟩ : ∃ k, g = k + 1 := ⟨g - 1, by omega⟩
  have HG := Aside0.mk hG
  have HS := Aside0.mk hs
  have HV := Aside0.mk hV
  have HN := Aside0.mk han
  have HST := Aside0.mk hst
  have HF := Aside0.mk hg
  obtain ⟨b0, hb0⟩ : ∃ b, b = cut a (nx a 0) := ⟨_, rfl⟩
  have HB0 := Aside0.mk hb0
  have hx := first_bt a b0 _ hb0
  have HA0 : Aside0 (a = cut a 0) := ⟨(cut_zero a).symm⟩
  have HBL := Aside0.mk (Below.refl w.heap.size w)
  clear hG hV han hst hg
  by_cases h0 : b0.size = 0
  · have HC : Aside0 (objO a (g + 1) = none) := ⟨by
      unfold objO
      rw [if_neg (by rw [cut_out hb0 h0]; decide), mA_succ, if_neg (by rw [cut_out hb0 h0]; decide)]⟩
    have e0 : ((b0.size : Int) == 0) = true := beq_iff_eq.mpr (by omega)
    clear h0 hb0 hx
    go_enter Tryd.func18, Tryd.ntmps18
    go_wp2_with (first
      | (go_at_call_of 26 a; (with_reducible refine (skipTo a _ b0 0 HS.out HA0.out HB0.out _).mono ?_); rintro e w' ⟨rfl, rfl⟩)
      | (go_at_call 17; (with_reducible refine (errNew _ _).mono ?_); rintro e w' ⟨⟨T, u, rfl⟩, hb⟩; have HBE := Aside0.mk (HBL.out.trans (hb.mono HBL.out.size)); clear hb))
    go_ret2
    exact ⟨said_none HC.out _ T u rfl, HBE.out⟩
  · have e0 : ((b0.size : Int) == 0) = false := beq_eq_false_iff_ne.mpr (by omega)
    have hz : 0 < b0.size := by omega
    clear h0
    by_cases c : bt a (nx a 0 : Int) = 125
    · have HC : Aside0 (objO a (g + 1) = some (nx a 0 + 1)) := ⟨by unfold objO; rw [if_pos c]⟩
      have e1 : (bt a (nx a 0 : Int) == 125) = true := beq_iff_eq.mpr c
      have HX : Aside0 (b0.extract 1 b0.size = cut a (nx a 0 + 1)) := ⟨by rw [hb0]; exact cut_cut a _ 1⟩
      clear hb0 c
      go_enter Tryd.func18, Tryd.ntmps18
      go_wp2_with (first
        | (go_at_call_of 26 a; (with_reducible refine (skipTo a _ b0 0 HS.out HA0.out HB0.out _).mono ?_); rintro e w' ⟨rfl, rfl⟩))
      go_ret2
      exact ⟨said_some HC.out HX.out rfl, HBL.out⟩
    · have e1 : (bt a (nx a 0 : Int) == 125) = false := beq_eq_false_iff_ne.mpr c
      have HE : Aside0 (objO a (g + 1) = mA a (g + 1) (nx a 0)) := ⟨by unfold objO; rw [if_neg c, mA_nx]⟩
      have HFU : Aside0 (2 * (a.size - nx a 0) + 3 ≤ g + 1) := ⟨by have := HF.out; omega⟩
      clear hb0 c HF
      go_enter Tryd.func18, Tryd.ntmps18
      go_wp2_with (first
        | (go_at_call_of 26 a; (with_reducible refine (skipTo a _ b0 0 HS.out HA0.out HB0.out _).mono ?_); rintro e w' ⟨rfl, rfl⟩))
      go_loopg [0] (g + 1) (fun k v0 wr => ∃ (b : ByteArray) (p : Nat), v0 = .string b ∧ Aside0 (b = cut a p ∧ objO a (g + 1) = mA a k p ∧ 2 * (a.size - p) + 3 ≤ k) ∧ Aside0 (Below w.heap.size w wr))
      case atStart => exact ⟨b0, nx a 0, rfl, ⟨HB0.out, HE.out, HFU.out⟩, HBL⟩
      case round =>
        clear HE HFU HBL hx hz e1 e0
        obtain ⟨b, p, rfl, HR, HBL⟩ := hrel
        obtain ⟨k, rfl⟩ : ∃ k, gk = k + 1 := ⟨gk - 1, by have := HR.out.2.2; omega⟩
        obtain ⟨q, hq⟩ : ∃ q, nx a p = q := ⟨_, rfl⟩
        have hpq : p ≤ q := by rw [← hq]; exact nx_ge a p
        obtain ⟨c, hc⟩ : ∃ c, c = cut a q := ⟨_, rfl⟩
        have HCQ : Aside0 (c = cut a (nx a p)) := ⟨by rw [hq]; exact hc⟩
        have HE := Aside0.mk (HR.out.2.1.trans (mA_succ a k p))
        rw [hq] at HE
        have hcs : c.size = a.size - q := by rw [hc]; exact cut_size a q
        have HFU : Aside0 (2 * (a.size - q) + 3 ≤ k + 1) := ⟨by have := HR.out.2.2; omega⟩
        have hx := first_bt a c _ hc
        have HGl := Aside0.mk (HG.out.below HBL.out)
        by_cases h0 : c.size = 0
        · have HC : Aside0 (objO a (g + 1) = none) := ⟨by rw [HE.out, if_neg (by rw [cut_out hc h0]; decide)]⟩
          have e0 : ((c.size : Int) == 0) = true := beq_iff_eq.mpr (by omega)
          clear h0 hc hcs hx HE hpq hq
          go_wp2_with (first
            | (go_at_call_of 26 b; (with_reducible refine (skipTo a _ c p HS.out HR.out.1 HCQ.out _).mono ?_); rintro e w' ⟨rfl, rfl⟩)
            | (go_at_call 17; (with_reducible refine (errNew _ _).mono ?_); rintro e w' ⟨⟨T, u, rfl⟩, hb⟩; have HBE := Aside0.mk (HBL.out.trans (hb.mono HBL.out.size)); clear hb))
          go_ret2
          exact ⟨said_none HC.out _ T u rfl, HBE.out⟩
        · have e0 : ((c.size : Int) == 0) = false := beq_eq_false_iff_ne.mpr (by omega)
          have hz : 0 < c.size := by omega
          by_cases c0 : bt a (q : Int) = 34
          rotate_left 1
          · have e1 : (bt a (q : Int) != 34) = true := bne_iff_ne.mpr c0
            have HC : Aside0 (objO a (g + 1) = none) := ⟨by rw [HE.out, if_neg c0]⟩
            clear h0 hc hcs c0 HE hpq hq
            go_wp2_with (first
              | (go_at_call_of 26 b; (with_reducible refine (skipTo a _ c p HS.out HR.out.1 HCQ.out _).mono ?_); rintro e w' ⟨rfl, rfl⟩)
              | (go_at_call 17; (with_reducible refine (errNew _ _).mono ?_); rintro e w' ⟨⟨T, u, rfl⟩, hb⟩; have HBE := Aside0.mk (HBL.out.trans (hb.mono HBL.out.size)); clear hb))
            go_ret2
            exact ⟨said_none HC.out _ T u rfl, HBE.out⟩
          · have e1 : (bt a (q : Int) != 34) = false := bne_eq_false_iff_eq.mpr c0
            obtain ⟨s, hs0⟩ : ∃ s, c.extract 1 c.size = s := ⟨_, rfl⟩
            have hsc : s = cut a (q + 1) := by rw [← hs0, hc]; exact cut_cut a q 1
            have HSC := Aside0.mk hsc
            have HS0 := Aside0.mk hs0
            have HSS : Aside0 (s.size ≤ 1000000) := ⟨by rw [hsc, cut_size]; have := HS.out; omega⟩
            rw [if_pos c0, quo_parts hsc HST.out] at HE
            cases hv : Fj.vs (bytesOf s) with
            | none =>
              rw [hv] at HE
              have HC : Aside0 (objO a (g + 1) = none) := ⟨HE.out⟩
              have HVV := Aside0.mk hv
              clear hv h0 hc hcs c0 HE hpq hq hsc
              go_wp2_with (first
                | (go_at_call_of 26 b; (with_reducible refine (skipTo a _ c p HS.out HR.out.1 HCQ.out _).mono ?_); rintro e w' ⟨rfl, rfl⟩)
                | (go_at_call 27; (with_reducible refine (vkey _ HSS.out _ HGl.out).mono ?_); rintro e w' ⟨h, hb⟩; rw [HVV.out] at h; obtain ⟨x, y, T, u, rfl⟩ := h; have HB1 := Aside0.mk (HBL.out.trans (hb.mono HBL.out.size)); clear hb)
                | (go_at_call 17; (with_reducible refine (errNew _ _).mono ?_); rintro e w' ⟨⟨T, u, rfl⟩, hb⟩; have HBE := Aside0.mk (HB1.out.trans (hb.mono HB1.out.size)); clear hb))
              go_ret2
              exact ⟨said_none HC.out _ T u rfl, HBE.out⟩
            | some x =>
              obtain ⟨m1, q1⟩ := x
              rw [hv] at HE
              have HVV := Aside0.mk hv
              obtain ⟨y, hy⟩ : ∃ y, s.extract m1 q1 = y := ⟨_, rfl⟩
              obtain ⟨d, hd0⟩ : ∃ d, cut s (q1 + 1) = d := ⟨_, rfl⟩
              obtain ⟨r, hr⟩ : ∃ r, q + 1 + (q1 + 1) = r := ⟨_, rfl⟩
              have hqr : q < r := by omega
              have hd : d = cut a r := by rw [← hd0, hsc, ← hr]; exact cut_cut a (q + 1) (q1 + 1)
              have HY := Aside0.mk hy
              have HDD := Aside0.mk hd0
              have HD0 := Aside0.mk hd
              simp only [hy, hr] at HE
              have hys : y.size ≤ 1000000 := by
                have := extract_size_le s m1 q1
                rw [hy] at this
                have := HSS.out
                omega
              have HFN : Aside0 (2 * (a.size - r) + 3 ≤ k) := ⟨by have := HFU.out; omega⟩
              clear hv h0 hcs c0 hpq hq hsc hy hd0 hr hc hqr
              cases hk : Fj.ctl (bytesOf y) with
              | true =>
                rw [if_pos hk] at HE
                have HC : Aside0 (objO a (g + 1) = none) := ⟨HE.out⟩
                have HK := Aside0.mk hk
                clear hk HE hd
                go_wp2_with (first
                  | (go_at_call_of 26 b; (with_reducible refine (skipTo a _ c p HS.out HR.out.1 HCQ.out _).mono ?_); rintro e w' ⟨rfl, rfl⟩)
                  | (go_at_call 27; (with_reducible refine (vkey _ HSS.out _ HGl.out).mono ?_); rintro e w' ⟨h, hb⟩; rw [HVV.out] at h; unfold SaidS at h; simp only [] at h; rw [HY.out, HDD.out] at h; subst h; have HB1 := Aside0.mk (HBL.out.trans (hb.mono HBL.out.size)); clear hb))
                go_loop [44] (fun v => ∃ i : Nat, v = .int .i64 (i : Int) ∧ i ≤ y.size ∧ Aside0 (∀ j : Nat, j < i → ¬ bt y (j : Int) < 32)) (fun v => y.size - (intOf v).toNat)
                case atStart => exact ⟨0, rfl, Nat.zero_le _, ⟨fun j hj => absurd hj (Nat.not_lt_zero _)⟩⟩
                case round =>
                  clear hx hz e0 e1
                  obtain ⟨i, rfl, hi, HI⟩ := hrel
                  by_cases hlt : i < y.size
                  · have hx : ∀ h : i < y.size, ((y[i]'h).toNat : Int) = bt y (i : Int) := bt_at y (i : Int)
                    by_cases c1 : bt y (i : Int) < 32
                    · have e2 : decide (bt y (i : Int) < 32) = true := decide_eq_true c1
                      clear c1
                      go_wp2_with (first
                        | (go_at_call 17; (with_reducible refine (errNew _ _).mono ?_); rintro e w' ⟨⟨T, u, rfl⟩, hb⟩; have HBE := Aside0.mk (HB1.out.trans (hb.mono HB1.out.size)); clear hb))
                      go_ret2
                      exact ⟨said_none HC.out _ T u rfl, HBE.out⟩
                    · have e2 : decide (bt y (i : Int) < 32) = false := decide_eq_false c1
                      have HI' : Aside0 (∀ j : Nat, j < i + 1 → ¬ bt y (j : Int) < 32) := ⟨fun j hj => by
                        by_cases e : j = i
                        · rw [e]; exact c1
                        · exact HI.out j (by omega)⟩
                      clear c1 HI
                      go_wp2
                      go_round
                      case rel => exact ⟨i + 1, by go_num, by omega, HI'⟩
                      case measure => simp [intOf]; omega
                  · exfalso
                    obtain ⟨j, hj, hjl⟩ := ctl_in HK.out
                    exact HI.out j (by omega) hjl
              | false =>
                rw [if_neg (by rw [hk]; decide)] at HE
                have HK := Aside0.mk hk
                obtain ⟨m, hm⟩ : ∃ m, nx a r = m := ⟨_, rfl⟩
                have hrm : r ≤ m := by rw [← hm]; exact nx_ge a r
                obtain ⟨f, hf⟩ : ∃ f, f = cut a m := ⟨_, rfl⟩
                have HFM : Aside0 (f = cut a (nx a r)) := ⟨by rw [hm]; exact hf⟩
                simp only [hm] at HE
                have HFN2 : Aside0 (2 * (a.size - m) + 3 ≤ k) := ⟨by have := HFN.out; omega⟩
                have hxf := first_bt a f _ hf
                have HF0 := Aside0.mk hf
                clear hk hd hm hf hrm HFN
                go_upto_block 2 with (first
                  | (go_at_call_of 26 b; (with_reducible refine (skipTo a _ c p HS.out HR.out.1 HCQ.out _).mono ?_); rintro e w' ⟨rfl, rfl⟩)
                  | (go_at_call 27; (with_reducible refine (vkey _ HSS.out _ HGl.out).mono ?_); rintro e w' ⟨h, hb⟩; rw [HVV.out] at h; unfold SaidS at h; simp only [] at h; rw [HY.out, HDD.out] at h; subst h; have HB1 := Aside0.mk (HBL.out.trans (hb.mono HBL.out.size)); clear hb))
                go_cut [44] (fun v44 wc => w' = wc)
                case first =>
                  go_wp2_with (fail)
                  go_loop [44] (fun v => ∃ i : Nat, v = .int .i64 (i : Int) ∧ i ≤ y.size) (fun v => y.size - (intOf v).toNat)
                  case atStart => exact ⟨0, rfl, Nat.zero_le _⟩
                  case round =>
                    clear hx hz e0 e1 hxf
                    obtain ⟨i, rfl, hi⟩ := hrel
                    by_cases hlt : i < y.size
                    · have hx : ∀ h : i < y.size, ((y[i]'h).toNat : Int) = bt y (i : Int) := bt_at y (i : Int)
                      have e2 : decide (bt y (i : Int) < 32) = false := decide_eq_false (ctl_out HK.out i hlt)
                      go_wp2
                      go_round
                      case rel => exact ⟨i + 1, by go_num, by omega⟩
                      case measure => simp [intOf]; omega
                    · obtain rfl : i = y.size := by omega
                      clear hlt
                      go_wp2
                      go_meet
                      case rel => rfl
                case rest =>
                  obtain rfl := hcut
                  clear hx hz e0 e1
                  by_cases z0 : f.size = 0
                  · have HC : Aside0 (objO a (g + 1) = none) := ⟨by rw [HE.out, if_neg (by rw [cut_out HF0.out z0]; decide)]⟩
                    have e0 : ((f.size : Int) == 0) = true := beq_iff_eq.mpr (by omega)
                    clear z0 hxf HE
                    go_wp2_with (first
                      | (go_at_call_of 26 d; (with_reducible refine (skipTo a _ f r HS.out HD0.out HFM.out _).mono ?_); rintro e w' ⟨rfl, rfl⟩)
                      | (go_at_call 17; (with_reducible refine (errNew _ _).mono ?_); rintro e w' ⟨⟨T, u, rfl⟩, hb⟩; have HBE := Aside0.mk (HB1.out.trans (hb.mono HB1.out.size)); clear hb))
                    go_ret2
                    exact ⟨said_none HC.out _ T u rfl, HBE.out⟩
                  · have e0 : ((f.size : Int) == 0) = false := beq_eq_false_iff_ne.mpr (by omega)
                    have hz : 0 < f.size := by omega
                    by_cases c1 : bt a (m : Int) = 58
                    rotate_left 1
                    · have e1 : (bt a (m : Int) != 58) = true := bne_iff_ne.mpr c1
                      have HC : Aside0 (objO a (g + 1) = none) := ⟨by rw [HE.out, if_neg c1]⟩
                      clear z0 c1 HE
                      go_wp2_with (first
                        | (go_at_call_of 26 d; (with_reducible refine (skipTo a _ f r HS.out HD0.out HFM.out _).mono ?_); rintro e w' ⟨rfl, rfl⟩)
                        | (go_at_call 17; (with_reducible refine (errNew _ _).mono ?_); rintro e w' ⟨⟨T, u, rfl⟩, hb⟩; have HBE := Aside0.mk (HB1.out.trans (hb.mono HB1.out.size)); clear hb))
                      go_ret2
                      exact ⟨said_none HC.out _ T u rfl, HBE.out⟩
                    · have e1 : (bt a (m : Int) != 58) = false := bne_eq_false_iff_eq.mpr c1
                      rw [if_pos c1] at HE
                      obtain ⟨t, ht⟩ : ∃ t, f.extract 1 f.size = t := ⟨_, rfl⟩
                      have HT : Aside0 (t = cut a (m + 1)) := ⟨by rw [← ht, HF0.out]; exact cut_cut a m 1⟩
                      obtain ⟨u, hu⟩ : ∃ u, nx a (m + 1) = u := ⟨_, rfl⟩
                      have hmu : m + 1 ≤ u := by rw [← hu]; exact nx_ge a (m + 1)
                      obtain ⟨x, hx0⟩ : ∃ x, x = cut a u := ⟨_, rfl⟩
                      have HXU : Aside0 (x = cut a (nx a (m + 1))) := ⟨by rw [hu]; exact hx0⟩
                      simp only [hu] at HE
                      have hxs : x.size = a.size - u := by rw [hx0]; exact cut_size a u
                      have HXC : Aside0 (x.size ≤ n ∧ x.size ≤ 1000000 ∧ Fj.Steady (bytesOf x) ∧ 2 * x.size + 2 ≤ k) := ⟨by have := HN.out; omega, by have := HS.out; omega, by rw [hx0]; exact steady_cut HST.out u, by have := HFN2.out; omega⟩
                      have HVC : Aside0 (∀ W, Glob W → Calls Tryd.prog 10 #[.string x] W fun e w' => Said x (Fj.val k (bytesOf x)) e ∧ Below W.heap.size W w') := ⟨fun W hW => HV.out x k W HXC.out.1 HXC.out.2.1 HXC.out.2.2.1 HXC.out.2.2.2 hW⟩
                      have HGl1 := Aside0.mk (HG.out.below HB1.out)
                      have HQK : Aside0 (2 * (a.size - u) + 3 ≤ k + 1 ∧ (x.size = 0 → vA a k u = none) ∧ x.size = a.size - u) := ⟨by have := HFN2.out; omega, fun h => vA_out hx0 h k, hxs⟩
                      clear z0 c1
                      cases hv : vA a k u with
                      | none =>
                        rw [hv] at HE
                        have HC : Aside0 (objO a (g + 1) = none) := ⟨HE.out⟩
                        have HVX : Aside0 (Fj.val k (bytesOf x) = none) := ⟨by
                          unfold vA at hv
                          rw [hx0, cut_bytes]
                          cases h : Fj.val k (D a u) with
                          | none => rfl
                          | some v => rw [h] at hv; cases hv⟩
                        clear hv hx0 hxs hmu hu HE
                        go_wp2_with (first
                          | (go_at_call_of 26 d; (with_reducible refine (skipTo a _ f r HS.out HD0.out HFM.out _).mono ?_); rintro e w' ⟨rfl, rfl⟩)
                          | (go_at_call_of 26 t; (with_reducible refine (skipTo a _ x (m + 1) HS.out HT.out HXU.out _).mono ?_); rintro e w' ⟨rfl, rfl⟩)
                          | (go_at_call 10; (with_reducible refine (HVC.out _ HGl1.out).mono ?_); rintro e w' ⟨h, hb⟩; rw [HVX.out] at h; obtain ⟨x, T, u, rfl⟩ := h; have HB2 := Aside0.mk (HB1.out.trans (hb.mono HB1.out.size)); clear hb)
                          | (go_at_call 17; (with_reducible refine (errNew _ _).mono ?_); rintro e w' ⟨⟨T, u, rfl⟩, hb⟩; have HBE := Aside0.mk (HB2.out.trans (hb.mono HB2.out.size)); clear hb))
                        go_ret2
                        exact ⟨said_none HC.out _ T u rfl, HBE.out⟩
                      | some v =>
                        rw [hv] at HE
                        have hqr : u < v ∧ Fj.val k (bytesOf x) = some (v - u) := by
                          unfold vA at hv
                          rw [hx0, cut_bytes]
                          cases h : Fj.val k (D a u) with
                          | none => rw [h] at hv; cases hv
                          | some v =>
                            rw [h] at hv
                            have := val_pos h
                            simp only [Option.map_some, Option.some.injEq] at hv
                            exact ⟨by omega, by congr 1; omega⟩
                        have HVX := Aside0.mk hqr.2
                        obtain ⟨l, hl⟩ : ∃ l, l = cut a v := ⟨_, rfl⟩
                        have HLV : Aside0 (cut x (v - u) = l) := ⟨by rw [hx0, hl]; exact (cut_cut a u (v - u)).trans (by congr 1; omega)⟩
                        have HL0 := Aside0.mk hl
                        obtain ⟨z, hz1⟩ : ∃ z, nx a v = z := ⟨_, rfl⟩
                        have hvz : v ≤ z := by rw [← hz1]; exact nx_ge a v
                        obtain ⟨o, ho⟩ : ∃ o, o = cut a z := ⟨_, rfl⟩
                        have HOZ : Aside0 (o = cut a (nx a v)) := ⟨by rw [hz1]; exact ho⟩
                        simp only [hz1] at HE
                        have hxo := first_bt a o _ ho
                        have HX : Aside0 (o.extract 1 o.size = cut a (z + 1)) := ⟨by rw [ho]; exact cut_cut a z 1⟩
                        have HO0 := Aside0.mk ho
                        have HNE : Aside0 (2 * (a.size - (z + 1)) + 3 ≤ k) := ⟨by
                          have := HQK.out
                          have hc0 : x.size ≠ 0 := fun h => by rw [this.2.1 h] at hv; cases hv
                          omega⟩
                        clear hv hx0 hxs hmu hu hl hz1 hvz ho hqr
                        by_cases z2 : o.size = 0
                        · have HC : Aside0 (objO a (g + 1) = none) := ⟨by rw [HE.out, cut_out HO0.out z2]; rfl⟩
                          have e2 : ((o.size : Int) == 0) = true := beq_iff_eq.mpr (by omega)
                          clear z2 hxo HE
                          go_wp2_with (first
                            | (go_at_call_of 26 d; (with_reducible refine (skipTo a _ f r HS.out HD0.out HFM.out _).mono ?_); rintro e w' ⟨rfl, rfl⟩)
                            | (go_at_call_of 26 t; (with_reducible refine (skipTo a _ x (m + 1) HS.out HT.out HXU.out _).mono ?_); rintro e w' ⟨rfl, rfl⟩)
                            | (go_at_call_of 26 l; (with_reducible refine (skipTo a _ o v HS.out HL0.out HOZ.out _).mono ?_); rintro e w' ⟨rfl, rfl⟩)
                            | (go_at_call 10; (with_reducible refine (HVC.out _ HGl1.out).mono ?_); rintro e w' ⟨h, hb⟩; rw [HVX.out] at h; unfold Said at h; simp only [] at h; rw [HLV.out] at h; subst h; have HB2 := Aside0.mk (HB1.out.trans (hb.mono HB1.out.size)); clear hb)
                            | (go_at_call 17; (with_reducible refine (errNew _ _).mono ?_); rintro e w' ⟨⟨T, u, rfl⟩, hb⟩; have HBE := Aside0.mk (HB2.out.trans (hb.mono HB2.out.size)); clear hb))
                          go_ret2
                          exact ⟨said_none HC.out _ T u rfl, HBE.out⟩
                        · have e2 : ((o.size : Int) == 0) = false := beq_eq_false_iff_ne.mpr (by omega)
                          have hzo : 0 < o.size := by omega
                          clear z2
                          by_cases c2 : bt a (z : Int) = 44
                          · have e3 : (bt a (z : Int) == 44) = true := beq_iff_eq.mpr c2
                            rw [if_pos c2] at HE
                            clear c2
                            go_wp2_with (first
                              | (go_at_call_of 26 d; (with_reducible refine (skipTo a _ f r HS.out HD0.out HFM.out _).mono ?_); rintro e w' ⟨rfl, rfl⟩)
                              | (go_at_call_of 26 t; (with_reducible refine (skipTo a _ x (m + 1) HS.out HT.out HXU.out _).mono ?_); rintro e w' ⟨rfl, rfl⟩)
                              | (go_at_call_of 26 l; (with_reducible refine (skipTo a _ o v HS.out HL0.out HOZ.out _).mono ?_); rintro e w' ⟨rfl, rfl⟩)
                              | (go_at_call 10; (with_reducible refine (HVC.out _ HGl1.out).mono ?_); rintro e w' ⟨h, hb⟩; rw [HVX.out] at h; unfold Said at h; simp only [] at h; rw [HLV.out] at h; subst h; have HB2 := Aside0.mk (HB1.out.trans (hb.mono HB1.out.size)); clear hb))
                            go_roundg k
                            case measure => omega
                            case rel => exact ⟨_, z + 1, rfl, ⟨HX.out, HE.out, HNE.out⟩, HB2⟩
                          · have e3 : (bt a (z : Int) == 44) = false := beq_eq_false_iff_ne.mpr c2
                            rw [if_neg c2] at HE
                            by_cases c3 : bt a (z : Int) = 125
                            · have e4 : (bt a (z : Int) == 125) = true := beq_iff_eq.mpr c3
                              have HC : Aside0 (objO a (g + 1) = some (z + 1)) := ⟨by rw [HE.out, if_pos c3]⟩
                              clear c2 c3 HE
                              go_wp2_with (first
                                | (go_at_call_of 26 d; (with_reducible refine (skipTo a _ f r HS.out HD0.out HFM.out _).mono ?_); rintro e w' ⟨rfl, rfl⟩)
                                | (go_at_call_of 26 t; (with_reducible refine (skipTo a _ x (m + 1) HS.out HT.out HXU.out _).mono ?_); rintro e w' ⟨rfl, rfl⟩)
                                | (go_at_call_of 26 l; (with_reducible refine (skipTo a _ o v HS.out HL0.out HOZ.out _).mono ?_); rintro e w' ⟨rfl, rfl⟩)
                                | (go_at_call 10; (with_reducible refine (HVC.out _ HGl1.out).mono ?_); rintro e w' ⟨h, hb⟩; rw [HVX.out] at h; unfold Said at h; simp only [] at h; rw [HLV.out] at h; subst h; have HB2 := Aside0.mk (HB1.out.trans (hb.mono HB1.out.size)); clear hb))
                              go_ret2
                              exact ⟨said_some HC.out HX.out rfl, HB2.out⟩
                            · have e4 : (bt a (z : Int) == 125) = false := beq_eq_false_iff_ne.mpr c3
                              have HC : Aside0 (objO a (g + 1) = none) := ⟨by rw [HE.out, if_neg c3]⟩
                              clear c2 c3 HE
                              go_wp2_with (first
                                | (go_at_call_of 26 d; (with_reducible refine (skipTo a _ f r HS.out HD0.out HFM.out _).mono ?_); rintro e w' ⟨rfl, rfl⟩)
                                | (go_at_call_of 26 t; (with_reducible refine (skipTo a _ x (m + 1) HS.out HT.out HXU.out _).mono ?_); rintro e w' ⟨rfl, rfl⟩)
                                | (go_at_call_of 26 l; (with_reducible refine (skipTo a _ o v HS.out HL0.out HOZ.out _).mono ?_); rintro e w' ⟨rfl, rfl⟩)
                                | (go_at_call 10; (with_reducible refine (HVC.out _ HGl1.out).mono ?_); rintro e w' ⟨h, hb⟩; rw [HVX.out] at h; unfold Said at h; simp only [] at h; rw [HLV.out] at h; subst h; have HB2 := Aside0.mk (HB1.out.trans (hb.mono HB1.out.size)); clear hb)
                                | (go_at_call 17; (with_reducible refine (errNew _ _).mono ?_); rintro e w' ⟨⟨T, u, rfl⟩, hb⟩; have HBE := Aside0.mk (HB2.out.trans (hb.mono HB2.out.size)); clear hb))
                              go_ret2
                              exact ⟨said_none HC.out _ T u rfl, HBE.out⟩
end Go.Proofs.YtjnfdgibogbgiaaDoor.FjW
namespace Go.Proofs.YtjnfdgibogbgiaaDoor.FjW
open Go.RowKit Go.Proofs.YtjnfdgibogbgiaaDoorW.PrintWords Go.Proofs.YtjnfdgibogbgiaaDoorW.PrintLast Go.Proofs.YtjnfdgibogbgiaaDoorW.PrintMore
attribute [local go_sem] max2_int min2_int max_two min_two max_three min_three max_four min_four
set_option linter.unusedVariables false
set_option linter.unusedSimpArgs false

theorem bytes_D0 (a : ByteArray) : bytesOf a = D a 0 := List.drop_zero.symm
theorem val_obj1 {a b : ByteArray} (g : Nat) (hb : b = cut a 1) (h0 : 0 < a.size) (c : bt a 0 = 123) : Fj.val (g + 1) (bytesOf a) = (objO b g).map (1 + ·) := by
  have hne : bytesOf a ≠ [] := fun h => by have := bytesOf_length a; rw [h] at this; simp at this; omega
  have hr : rd (bytesOf a) 0 = 123 := by rw [rd_bytesOf]; exact c
  have hd : (bytesOf a).drop 1 = bytesOf b := by rw [hb, cut_bytes]
  rw [Fj.val, if_neg hne, if_pos hr, hd]
  unfold objO mA nx
  rw [← bytes_D0 b, Nat.zero_add, ← rd_bytesOf]
  by_cases k : rd (bytesOf b) (Fj.ws (bytesOf b) : Int) = 125
  · rw [if_pos k, if_pos k]; simp only [Option.map_some]; congr 1; omega
  · rw [if_neg k, if_neg k]
    cases Fj.mems g (bytesOf b) with
    | none => rfl
    | some e => simp only [Option.map_some]; congr 1; omega
theorem val_arr1 {a b : ByteArray} (g : Nat) (hb : b = cut a 1) (h0 : 0 < a.size) (c : bt a 0 = 91) : Fj.val (g + 1) (bytesOf a) = (arrO b g).map (1 + ·) := by
  have hne : bytesOf a ≠ [] := fun h => by have := bytesOf_length a; rw [h] at this; simp at this; omega
  have hr : rd (bytesOf a) 0 = 91 := by rw [rd_bytesOf]; exact c
  have hd : (bytesOf a).drop 1 = bytesOf b := by rw [hb, cut_bytes]
  rw [Fj.val, if_neg hne, if_neg (by omega), if_pos hr, hd]
  unfold arrO eA nx
  rw [← bytes_D0 b, Nat.zero_add, ← rd_bytesOf]
  by_cases k : rd (bytesOf b) (Fj.ws (bytesOf b) : Int) = 93
  · rw [if_pos k, if_pos k]; simp only [Option.map_some]; congr 1; omega
  · rw [if_neg k, if_neg k]
    cases Fj.elems g (bytesOf b) with
    | none => rfl
    | some e => simp only [Option.map_some]; congr 1; omega
theorem val_str1 {a : ByteArray} (g : Nat) (h0 : 0 < a.size) (c : bt a 0 = 34) : Fj.val (g + 1) (bytesOf a) = qA a 1 := by
  have hne : bytesOf a ≠ [] := fun h => by have := bytesOf_length a; rw [h] at this; simp at this; omega
  have hr : rd (bytesOf a) 0 = 34 := by rw [rd_bytesOf]; exact c
  rw [Fj.val, if_neg hne, if_neg (by omega), if_neg (by omega), if_pos hr]
  unfold qA
  cases Fj.quo (D a 1) with
  | none => rfl
  | some e => simp only [Option.map_some]; congr 1; omega
theorem val_word1 {a : ByteArray} (g : Nat) (h0 : 0 < a.size) (c : Int) (hc : bt a 0 = c) (W : List Int) (h : (c = 116 ∧ W = [116, 114, 117, 101]) ∨ (c = 102 ∧ W = [102, 97, 108, 115, 101]) ∨ (c = 110 ∧ W = [110, 117, 108, 108])) :
    Fj.val (g + 1) (bytesOf a) = if Fj.begins W (bytesOf a) = true then some W.length else none := by
  have hne : bytesOf a ≠ [] := fun h => by have := bytesOf_length a; rw [h] at this; simp at this; omega
  have hr : rd (bytesOf a) 0 = c := by rw [rd_bytesOf]; exact hc
  rcases h with ⟨rfl, rfl⟩ | ⟨rfl, rfl⟩ | ⟨rfl, rfl⟩
  · rw [Fj.val, if_neg hne, if_neg (by omega), if_neg (by omega), if_neg (by omega), if_pos hr]; rfl
  · rw [Fj.val, if_neg hne, if_neg (by omega), if_neg (by omega), if_neg (by omega), if_neg (by omega), if_pos hr]; rfl
  · rw [Fj.val, if_neg hne, if_neg (by omega), if_neg (by omega), if_neg (by omega), if_neg (by omega), if_neg (by omega), if_pos hr]; rfl
theorem val_num1 {a : ByteArray} (g : Nat) (h0 : 0 < a.size) (c1 : bt a 0 ≠ 123) (c2 : bt a 0 ≠ 91) (c3 : bt a 0 ≠ 34) (c4 : bt a 0 ≠ 116) (c5 : bt a 0 ≠ 102) (c6 : bt a 0 ≠ 110) : Fj.val (g + 1) (bytesOf a) = Fj.num (bytesOf a) := by
  have hne : bytesOf a ≠ [] := fun h => by have := bytesOf_length a; rw [h] at this; simp at this; omega
  have hr : rd (bytesOf a) 0 = bt a 0 := rd_bytesOf a 0
  rw [Fj.val, if_neg hne, hr, if_neg c1, if_neg c2, if_neg c3, if_neg c4, if_neg c5, if_neg c6]
theorem begins_eq (a : ByteArray) (U : List UInt8) (n : Nat) (hn : U.length = n) : ((a.extract 0 n).toList == U) = Fj.begins (U.map fun b => (b.toNat : Int)) (bytesOf a) := by
  rw [Bool.eq_iff_iff, beq_iff_eq, Base.toList_bytes, extract_bytes, List.drop_zero]
  unfold Fj.begins
  rw [beq_iff_eq, List.length_map, hn]
theorem begins_short {l W : List Int} (h : l.length < W.length) : Fj.begins W l = false := by
  unfold Fj.begins
  rw [beq_eq_false_iff_ne]
  intro e
  have := congrArg List.length e
  rw [List.length_take] at this
  omega
set_option maxHeartbeats 16000000 in
set_option maxRecDepth 100000 in
theorem valTrue (a : ByteArray) (g : Nat) (w : World) (hs : a.size ≤ 1000000) (h0 : 0 < a.size) (c : bt a 0 = 116) :
    Calls Tryd.prog 10 #[.string a] w fun e w' => Said a (Fj.val (g + 1) (bytesOf a)) e ∧ Below w.heap.size w w' := by
  have hx : ∀ h : 0 < a.size, ((a[0]'h).toNat : Int) = bt a 0 := bt_at a 0
  rw [c] at hx
  have e0 : ((a.size : Int) == 0) = false := beq_eq_false_iff_ne.mpr (by omega)
  have HV := Aside0.mk (val_word1 g h0 116 c [116, 114, 117, 101] (.inl ⟨rfl, rfl⟩))
  have hb := begins_eq a [116, 114, 117, 101] 4 rfl
  by_cases h4 : a.size < 4
  · have HC : Aside0 (Fj.val (g + 1) (bytesOf a) = none) := ⟨by rw [HV.out, begins_short (by rw [bytesOf_length]; exact h4)]; rfl⟩
    clear hb
    go_enter Tryd.func10, Tryd.ntmps10
    go_wp2_with (go_at_call 17; (with_reducible refine (errNew _ _).mono ?_); rintro e w' ⟨⟨T, u, rfl⟩, hb⟩)
    go_ret2
    exact ⟨said_none HC.out _ T u rfl, hb⟩
  · have h4' : 4 ≤ a.size := by omega
    clear h4 c
    cases hB : Fj.begins [116, 114, 117, 101] (bytesOf a) with
    | true =>
      have HC : Aside0 (Fj.val (g + 1) (bytesOf a) = some 4) := ⟨by rw [HV.out, if_pos hB]; rfl⟩
      have e1 : ((a.extract 0 4).toList == [116, 114, 117, 101]) = true := hb.trans hB
      clear hB hb
      go_enter Tryd.func10, Tryd.ntmps10
      go_wp2
      go_ret2
      exact ⟨said_some HC.out rfl rfl, Below.refl _ _⟩
    | false =>
      have HC : Aside0 (Fj.val (g + 1) (bytesOf a) = none) := ⟨by rw [HV.out, if_neg (by rw [hB]; decide)]⟩
      have e1 : ((a.extract 0 4).toList == [116, 114, 117, 101]) = false := hb.trans hB
      clear hB hb
      go_enter Tryd.func10, Tryd.ntmps10
      go_wp2_with (go_at_call 17; (with_reducible refine (errNew _ _).mono ?_); rintro e w' ⟨⟨T, u, rfl⟩, hb⟩)
      go_ret2
      exact ⟨said_none HC.out _ T u rfl, hb⟩
set_option maxHeartbeats 16000000 in
set_option maxRecDepth 100000 in
theorem valFalse (a : ByteArray) (g : Nat) (w : World) (hs : a.size ≤ 1000000) (h0 : 0 < a.size) (c : bt a 0 = 102) :
    Calls Tryd.prog 10 #[.string a] w fun e w' => Said a (Fj.val (g + 1) (bytesOf a)) e ∧ Below w.heap.size w w' := by
  have hx : ∀ h : 0 < a.size, ((a[0]'h).toNat : Int) = bt a 0 := bt_at a 0
  rw [c] at hx
  have e0 : ((a.size : Int) == 0) = false := beq_eq_false_iff_ne.mpr (by omega)
  have HV := Aside0.mk (val_word1 g h0 102 c [102, 97, 108, 115, 101] (.inr (.inl ⟨rfl, rfl⟩)))
  have hb := begins_eq a [102, 97, 108, 115, 101] 5 rfl
  by_cases h4 : a.size < 5
  · have HC : Aside0 (Fj.val (g + 1) (bytesOf a) = none) := ⟨by rw [HV.out, begins_short (by rw [bytesOf_length]; exact h4)]; rfl⟩
    clear hb
    go_enter Tryd.func10, Tryd.ntmps10
    go_wp2_with (go_at_call 17; (with_reducible refine (errNew _ _).mono ?_); rintro e w' ⟨⟨T, u, rfl⟩, hb⟩)
    go_ret2
    exact ⟨said_none HC.out _ T u rfl, hb⟩
  · have h4' : 5 ≤ a.size := by omega
    clear h4 c
    cases hB : Fj.begins [102, 97, 108, 115, 101] (bytesOf a) with
    | true =>
      have HC : Aside0 (Fj.val (g + 1) (bytesOf a) = some 5) := ⟨by rw [HV.out, if_pos hB]; rfl⟩
      have e1 : ((a.extract 0 5).toList == [102, 97, 108, 115, 101]) = true := hb.trans hB
      clear hB hb
      go_enter Tryd.func10, Tryd.ntmps10
      go_wp2
      go_ret2
      exact ⟨said_some HC.out rfl rfl, Below.refl _ _⟩
    | false =>
      have HC : Aside0 (Fj.val (g + 1) (bytesOf a) = none) := ⟨by rw [HV.out, if_neg (by rw [hB]; decide)]⟩
      have e1 : ((a.extract 0 5).toList == [102, 97, 108, 115, 101]) = false := hb.trans hB
      clear hB hb
      go_enter Tryd.func10, Tryd.ntmps10
      go_wp2_with (go_at_call 17; (with_reducible refine (errNew _ _).mono ?_); rintro e w' ⟨⟨T, u, rfl⟩, hb⟩)
      go_ret2
      exact ⟨said_none HC.out _ T u rfl, hb⟩
set_option maxHeartbeats 16000000 in
set_option maxRecDepth 100000 in
theorem valNull (a : ByteArray) (g : Nat) (w : World) (hs : a.size ≤ 1000000) (h0 : 0 < a.size) (c : bt a 0 = 110) :
    Calls Tryd.prog 10 #[.string a] w fun e w' => Said a (Fj.val (g + 1) (bytesOf a)) e ∧ Below w.heap.size w w' := by
  have hx : ∀ h : 0 < a.size, ((a[0]'h).toNat : Int) = bt a 0 := bt_at a 0
  rw [c] at hx
  have e0 : ((a.size : Int) == 0) = false := beq_eq_false_iff_ne.mpr (by omega)
  have HV := Aside0.mk (val_word1 g h0 110 c [110, 117, 108, 108] (.inr (.inr ⟨rfl, rfl⟩)))
  have hb := begins_eq a [110, 117, 108, 108] 4 rfl
  by_cases h4 : a.size < 4
  · have HC : Aside0 (Fj.val (g + 1) (bytesOf a) = none) := ⟨by rw [HV.out, begins_short (by rw [bytesOf_length]; exact h4)]; rfl⟩
    clear hb
    go_enter Tryd.func10, Tryd.ntmps10
    go_wp2_with (go_at_call 17; (with_reducible refine (errNew _ _).mono ?_); rintro e w' ⟨⟨T, u, rfl⟩, hb⟩)
    go_ret2
    exact ⟨said_none HC.out _ T u rfl, hb⟩
  · have h4' : 4 ≤ a.size := by omega
    clear h4 c
    cases hB : Fj.begins [110, 117, 108, 108] (bytesOf a) with
    | true =>
      have HC : Aside0 (Fj.val (g + 1) (bytesOf a) = some 4) := ⟨by rw [HV.out, if_pos hB]; rfl⟩
      have e1 : ((a.extract 0 4).toList == [110, 117, 108, 108]) = true := hb.trans hB
      clear hB hb
      go_enter Tryd.func10, Tryd.ntmps10
      go_wp2
      go_ret2
      exact ⟨said_some HC.out rfl rfl, Below.refl _ _⟩
    | false =>
      have HC : Aside0 (Fj.val (g + 1) (bytesOf a) = none) := ⟨by rw [HV.out, if_neg (by rw [hB]; decide)]⟩
      have e1 : ((a.extract 0 4).toList == [110, 117, 108, 108]) = false := hb.trans hB
      clear hB hb
      go_enter Tryd.func10, Tryd.ntmps10
      go_wp2_with (go_at_call 17; (with_reducible refine (errNew _ _).mono ?_); rintro e w' ⟨⟨T, u, rfl⟩, hb⟩)
      go_ret2
      exact ⟨said_none HC.out _ T u rfl, hb⟩
set_option maxHeartbeats 16000000 in
set_option maxRecDepth 100000 in
theorem valNum (a : ByteArray) (g : Nat) (w : World) (hs : a.size ≤ 1000000) (h0 : 0 < a.size) (c1 : bt a 0 ≠ 123) (c2 : bt a 0 ≠ 91) (c3 : bt a 0 ≠ 34) (c4 : bt a 0 ≠ 116) (c5 : bt a 0 ≠ 102) (c6 : bt a 0 ≠ 110) :
    Calls Tryd.prog 10 #[.string a] w fun e w' => Said a (Fj.val (g + 1) (bytesOf a)) e ∧ Below w.heap.size w w' := by
  have hx : ∀ h : 0 < a.size, ((a[0]'h).toNat : Int) = bt a 0 := bt_at a 0
  have e0 : ((a.size : Int) == 0) = false := beq_eq_false_iff_ne.mpr (by omega)
  have HV := Aside0.mk (val_num1 g h0 c1 c2 c3 c4 c5 c6)
  have d1 : (bt a 0 == 123) = false := beq_eq_false_iff_ne.mpr c1
  have d2 : (bt a 0 == 91) = false := beq_eq_false_iff_ne.mpr c2
  have d3 : (bt a 0 == 34) = false := beq_eq_false_iff_ne.mpr c3
  have d4 : (bt a 0 == 116) = false := beq_eq_false_iff_ne.mpr c4
  have d5 : (bt a 0 == 102) = false := beq_eq_false_iff_ne.mpr c5
  have d6 : (bt a 0 == 110) = false := beq_eq_false_iff_ne.mpr c6
  have HS := Aside0.mk hs
  clear c1 c2 c3 c4 c5 c6
  cases hn : Fj.num (bytesOf a) with
  | none =>
    have HN := Aside0.mk hn
    clear hn
    go_enter Tryd.func10, Tryd.ntmps10
    go_wp2_with (first
      | (go_at_call 21; (with_reducible refine (number _ HS.out _).mono ?_); rintro e w' ⟨h, hb⟩; rw [HN.out] at h; obtain ⟨x, T, u, rfl⟩ := h; have HB1 := Aside0.mk hb; clear hb)
      | (go_at_call 17; (with_reducible refine (errNew _ _).mono ?_); rintro e w' ⟨⟨T, u, rfl⟩, hb⟩; have HB2 := Aside0.mk (HB1.out.trans (hb.mono HB1.out.size)); clear hb))
    go_ret2
    exact ⟨said_none (HV.out.trans HN.out) _ T u rfl, HB2.out⟩
  | some m =>
    have HN := Aside0.mk hn
    clear hn
    go_enter Tryd.func10, Tryd.ntmps10
    go_wp2_with (first
      | (go_at_call 21; (with_reducible refine (number _ HS.out _).mono ?_); rintro e w' ⟨h, hb⟩; rw [HN.out] at h; unfold Said at h; simp only [] at h; subst h; have HB1 := Aside0.mk hb; clear hb))
    go_ret2
    exact ⟨said_some (HV.out.trans HN.out) rfl rfl, HB1.out⟩
set_option maxHeartbeats 16000000 in
set_option maxRecDepth 100000 in
theorem valObj (n : Nat) (hV : VC n) (a : ByteArray) (g : Nat) (w : World) (han : a.size ≤ n + 1) (hs : a.size ≤ 1000000) (hst : Fj.Steady (bytesOf a)) (hg : 2 * a.size + 2 ≤ g + 1) (hG : Glob w) (h0 : 0 < a.size) (c : bt a 0 = 123) :
    Calls Tryd.prog 10 #[.string a] w fun e w' => Said a (Fj.val (g + 1) (bytesOf a)) e ∧ Below w.heap.size w w' := by
  have hx : ∀ h : 0 < a.size, ((a[0]'h).toNat : Int) = bt a 0 := bt_at a 0
  rw [c] at hx
  have e0 : ((a.size : Int) == 0) = false := beq_eq_false_iff_ne.mpr (by omega)
  obtain ⟨b, hb⟩ : ∃ b, a.extract 1 a.size = b := ⟨_, rfl⟩
  have hbs : b.size = a.size - 1 := by rw [← hb]; exact cut_size a 1
  have HV := Aside0.mk (val_obj1 g hb.symm h0 c)
  have HC : Aside0 (Calls Tryd.prog 18 #[.string b] w fun e w' => Said b (objO b g) e ∧ Below w.heap.size w w') := ⟨obj n hV b g w (by omega) (by omega) (by rw [← hb]; exact steady_cut hst 1) (by omega) hG⟩
  have HB := Aside0.mk hb
  clear c hbs hV han hst hg hG
  cases hn : objO b g with
  | none =>
    rw [hn] at HV HC
    clear hn
    go_enter Tryd.func10, Tryd.ntmps10
    go_wp2_with (first
      | (go_at_call 18; (with_reducible refine HC.out.mono ?_); rintro e w' ⟨h, hb⟩; obtain ⟨x, T, u, rfl⟩ := h; have HB1 := Aside0.mk hb; clear hb)
      | (go_at_call 17; (with_reducible refine (errNew _ _).mono ?_); rintro e w' ⟨⟨T, u, rfl⟩, hb⟩; have HB2 := Aside0.mk (HB1.out.trans (hb.mono HB1.out.size)); clear hb))
    go_ret2
    exact ⟨said_none HV.out _ T u rfl, HB2.out⟩
  | some m =>
    rw [hn] at HV HC
    clear hn
    go_enter Tryd.func10, Tryd.ntmps10
    go_wp2_with (first
      | (go_at_call 18; (with_reducible refine HC.out.mono ?_); rintro e w' ⟨h, hb⟩; unfold Said at h; simp only [] at h; subst h; have HB1 := Aside0.mk hb; clear hb))
    go_ret2
    exact ⟨said_some (m := 1 + m) HV.out (by rw [← HB.out]; exact cut_cut a 1 m) rfl, HB1.out⟩
set_option maxHeartbeats 16000000 in
set_option maxRecDepth 100000 in
theorem valArr (n : Nat) (hV : VC n) (a : ByteArray) (g : Nat) (w : World) (han : a.size ≤ n + 1) (hs : a.size ≤ 1000000) (hst : Fj.Steady (bytesOf a)) (hg : 2 * a.size + 2 ≤ g + 1) (hG : Glob w) (h0 : 0 < a.size) (c : bt a 0 = 91) :
    Calls Tryd.prog 10 #[.string a] w fun e w' => Said a (Fj.val (g + 1) (bytesOf a)) e ∧ Below w.heap.size w w' := by
  have hx : ∀ h : 0 < a.size, ((a[0]'h).toNat : Int) = bt a 0 := bt_at a 0
  rw [c] at hx
  have e0 : ((a.size : Int) == 0) = false := beq_eq_false_iff_ne.mpr (by omega)
  obtain ⟨b, hb⟩ : ∃ b, a.extract 1 a.size = b := ⟨_, rfl⟩
  have hbs : b.size = a.size - 1 := by rw [← hb]; exact cut_size a 1
  have HV := Aside0.mk (val_arr1 g hb.symm h0 c)
  have HC : Aside0 (Calls Tryd.prog 19 #[.string b] w fun e w' => Said b (arrO b g) e ∧ Below w.heap.size w w') := ⟨arr n hV b g w (by omega) (by omega) (by rw [← hb]; exact steady_cut hst 1) (by omega) hG⟩
  have HB := Aside0.mk hb
  clear c hbs hV han hst hg hG
  cases hn : arrO b g with
  | none =>
    rw [hn] at HV HC
    clear hn
    go_enter Tryd.func10, Tryd.ntmps10
    go_wp2_with (first
      | (go_at_call 19; (with_reducible refine HC.out.mono ?_); rintro e w' ⟨h, hb⟩; obtain ⟨x, T, u, rfl⟩ := h; have HB1 := Aside0.mk hb; clear hb)
      | (go_at_call 17; (with_reducible refine (errNew _ _).mono ?_); rintro e w' ⟨⟨T, u, rfl⟩, hb⟩; have HB2 := Aside0.mk (HB1.out.trans (hb.mono HB1.out.size)); clear hb))
    go_ret2
    exact ⟨said_none HV.out _ T u rfl, HB2.out⟩
  | some m =>
    rw [hn] at HV HC
    clear hn
    go_enter Tryd.func10, Tryd.ntmps10
    go_wp2_with (first
      | (go_at_call 19; (with_reducible refine HC.out.mono ?_); rintro e w' ⟨h, hb⟩; unfold Said at h; simp only [] at h; subst h; have HB1 := Aside0.mk hb; clear hb))
    go_ret2
    exact ⟨said_some (m := 1 + m) HV.out (by rw [← HB.out]; exact cut_cut a 1 m) rfl, HB1.out⟩
set_option maxHeartbeats 16000000 in
set_option maxRecDepth 100000 in
theorem valStr (a : ByteArray) (g : Nat) (w : World) (hs : a.size ≤ 1000000) (hst : Fj.Steady (bytesOf a)) (hG : Glob w) (h0 : 0 < a.size) (c : bt a 0 = 34) :
    Calls Tryd.prog 10 #[.string a] w fun e w' => Said a (Fj.val (g + 1) (bytesOf a)) e ∧ Below w.heap.size w w' := by
  have hx : ∀ h : 0 < a.size, ((a[0]'h).toNat : Int) = bt a 0 := bt_at a 0
  rw [c] at hx
  have e0 : ((a.size : Int) == 0) = false := beq_eq_false_iff_ne.mpr (by omega)
  obtain ⟨s, hs0⟩ : ∃ s, a.extract 1 a.size = s := ⟨_, rfl⟩
  have HE : Aside0 _ := ⟨(val_str1 g h0 c).trans (quo_parts hs0.symm hst)⟩
  have HSS : Aside0 (s.size ≤ 1000000) := ⟨by rw [← hs0]; exact Nat.le_trans (Nat.le_of_eq (cut_size a 1)) (by omega)⟩
  have HG := Aside0.mk hG
  have HS0 := Aside0.mk hs0
  clear c hst hG
  cases hv : Fj.vs (bytesOf s) with
  | none =>
    rw [hv] at HE
    have HC : Aside0 (Fj.val (g + 1) (bytesOf a) = none) := ⟨HE.out⟩
    have HVV := Aside0.mk hv
    clear hv HE
    go_enter Tryd.func10, Tryd.ntmps10
    go_wp2_with (first
      | (go_at_call 20; (with_reducible refine (vstr _ HSS.out _ HG.out).mono ?_); rintro e w' ⟨h, hb⟩; rw [HVV.out] at h; obtain ⟨x, y, T, u, rfl⟩ := h; have HB1 := Aside0.mk hb; clear hb)
      | (go_at_call 17; (with_reducible refine (errNew _ _).mono ?_); rintro e w' ⟨⟨T, u, rfl⟩, hb⟩; have HB2 := Aside0.mk (HB1.out.trans (hb.mono HB1.out.size)); clear hb))
    go_ret2
    exact ⟨said_none HC.out _ T u rfl, HB2.out⟩
  | some x =>
    obtain ⟨m1, q1⟩ := x
    rw [hv] at HE
    have HVV := Aside0.mk hv
    obtain ⟨y, hy⟩ : ∃ y, s.extract m1 q1 = y := ⟨_, rfl⟩
    obtain ⟨d, hd0⟩ : ∃ d, cut s (q1 + 1) = d := ⟨_, rfl⟩
    have HD : Aside0 (d = cut a (1 + (q1 + 1))) := ⟨by rw [← hd0, ← hs0]; exact cut_cut a 1 (q1 + 1)⟩
    have HY := Aside0.mk hy
    have HDD := Aside0.mk hd0
    simp only [hy] at HE
    have hys : y.size ≤ 1000000 := by
      have := extract_size_le s m1 q1
      rw [hy] at this
      have := HSS.out
      omega
    clear hv hy hd0
    go_enter Tryd.func10, Tryd.ntmps10
    go_wp2_with (first
      | (go_at_call 20; (with_reducible refine (vstr _ HSS.out _ HG.out).mono ?_); rintro e w' ⟨h, hb⟩; rw [HVV.out] at h; unfold SaidS at h; simp only [] at h; rw [HY.out, HDD.out] at h; subst h; have HB1 := Aside0.mk hb; clear hb))
    go_loop [63] (fun v => ∃ i : Nat, v = .int .i64 (i : Int) ∧ i ≤ y.size ∧ Aside0 (∀ j : Nat, j < i → ¬ bt y (j : Int) < 32)) (fun v => y.size - (intOf v).toNat)
    case atStart => exact ⟨0, rfl, Nat.zero_le _, ⟨fun j hj => absurd hj (Nat.not_lt_zero _)⟩⟩
    case round =>
      clear hx e0
      obtain ⟨i, rfl, hi, HI⟩ := hrel
      by_cases hlt : i < y.size
      · have hx : ∀ h : i < y.size, ((y[i]'h).toNat : Int) = bt y (i : Int) := bt_at y (i : Int)
        by_cases c1 : bt y (i : Int) < 32
        · have e2 : decide (bt y (i : Int) < 32) = true := decide_eq_true c1
          have HC : Aside0 (Fj.val (g + 1) (bytesOf a) = none) := ⟨by
            rw [HE.out]
            rw [if_pos]
            cases h : Fj.ctl (bytesOf y) with
            | true => rfl
            | false => exact absurd c1 (ctl_out h i hlt)⟩
          clear c1 HE
          go_wp2_with (first
            | (go_at_call 17; (with_reducible refine (errNew _ _).mono ?_); rintro e w' ⟨⟨T, u, rfl⟩, hb⟩; have HB2 := Aside0.mk (HB1.out.trans (hb.mono HB1.out.size)); clear hb))
          go_ret2
          exact ⟨said_none HC.out _ T u rfl, HB2.out⟩
        · have e2 : decide (bt y (i : Int) < 32) = false := decide_eq_false c1
          have HI' : Aside0 (∀ j : Nat, j < i + 1 → ¬ bt y (j : Int) < 32) := ⟨fun j hj => by
            by_cases e : j = i
            · rw [e]; exact c1
            · exact HI.out j (by omega)⟩
          clear c1 HI
          go_wp2
          go_round
          case rel => exact ⟨i + 1, by go_num, by omega, HI'⟩
          case measure => simp [intOf]; omega
      · have HC : Aside0 (Fj.val (g + 1) (bytesOf a) = some (1 + (q1 + 1))) := ⟨by
          rw [HE.out]
          rw [if_neg]
          intro h
          obtain ⟨j, hj, hjl⟩ := ctl_in h
          exact HI.out j (by omega) hjl⟩
        obtain rfl : i = y.size := by omega
        clear hlt HE
        go_wp2
        go_ret2
        exact ⟨said_some HC.out HD.out rfl, HB1.out⟩
theorem valEmpty (a : ByteArray) (f : Nat) (w : World) (h0 : a.size = 0) :
    Calls Tryd.prog 10 #[.string a] w fun e w' => Said a (Fj.val f (bytesOf a)) e ∧ Below w.heap.size w w' := by
  have HC : Aside0 (Fj.val f (bytesOf a) = none) := ⟨by
    have : bytesOf a = [] := List.eq_nil_of_length_eq_zero (by rw [bytesOf_length]; exact h0)
    rw [this, val_nil]⟩
  have e0 : ((a.size : Int) == 0) = true := beq_iff_eq.mpr (by omega)
  clear h0
  go_enter Tryd.func10, Tryd.ntmps10
  go_wp2_with (go_at_call 17; (with_reducible refine (errNew _ _).mono ?_); rintro e w' ⟨⟨T, u, rfl⟩, hb⟩)
  go_ret2
  exact ⟨said_none HC.out _ T u rfl, hb⟩
/-- validateValue, of every text. -/
theorem vc : ∀ n : Nat, VC n
  | 0 => fun a f w h _ _ _ _ => valEmpty a f w (by omega)
  | n + 1 => fun a f w han hs hst hf hG => by
    by_cases h0 : a.size = 0
    · exact valEmpty a f w h0
    · have hz : 0 < a.size := by omega
      obtain ⟨g, rfl⟩ : ∃ g, f = g + 1 := ⟨f - 1, by omega⟩
      by_cases c1 : bt a 0 = 123
      · exact valObj n (vc n) a g w han hs hst hf hG hz c1
      by_cases c2 : bt a 0 = 91
      · exact valArr n (vc n) a g w han hs hst hf hG hz c2
      by_cases c3 : bt a 0 = 34
      · exact valStr a g w hs hst hG hz c3
      by_cases c4 : bt a 0 = 116
      · exact valTrue a g w hs hz c4
      by_cases c5 : bt a 0 = 102
      · exact valFalse a g w hs hz c5
      by_cases c6 : bt a 0 = 110
      · exact valNull a g w hs hz c6
      exact valNum a g w hs hz c1 c2 c3 c4 c5 c6
/-- validateValue of a steady text. -/
theorem value (a : ByteArray) (f : Nat) (w : World) (hs : a.size ≤ 1000000) (hst : Fj.Steady (bytesOf a)) (hf : 2 * a.size + 2 ≤ f) (hG : Glob w) :
    Calls Tryd.prog 10 #[.string a] w fun e w' => Said a (Fj.val f (bytesOf a)) e ∧ Below w.heap.size w w' := vc a.size a f w (Nat.le_refl _) hs hst hf hG
end Go.Proofs.YtjnfdgibogbgiaaDoor.FjW
