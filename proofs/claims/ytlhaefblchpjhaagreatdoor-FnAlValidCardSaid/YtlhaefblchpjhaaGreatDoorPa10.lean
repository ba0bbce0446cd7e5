/- Proved here: parts of the law FnAlValid (the texts AlLawFnAlValid AlWalkFnAlValid), no conditions of their own beyond what each theorem says. -/
import Derived.Test.YtlhaefblchpjhaaGreatDoorPa3
import Derived.Test.YtlhaefblchpjhaaGreatDoorPa4
import Derived.Test.YtlhaefblchpjhaaGreatDoorPa6
import Derived.Test.YtlhaefblchpjhaaGreatDoorPa8
import Derived.Test.YtlhaefblchpjhaaGreatDoorPa9
section
namespace Go.Proofs.YtlhaefblchpjhaaGreatDoor.ReadXFnAlValid
open Go.RowKit Go.Proofs.YtlhaefblchpjhaaGreatDoor.Base Go.Proofs.YtlhaefblchpjhaaGreatDoor.XFnAlValid Go.Proofs.YtlhaefblchpjhaaGreatDoorW.PrintWords Go.Proofs.YtlhaefblchpjhaaGreatDoorW.PrintLast
set_option linter.unusedVariables false
set_option linter.unusedSimpArgs false
variable {s : ByteArray}
/-- The text is a JSON text. -/
def plOk (s : ByteArray) : Bool := match tV s (2 * s.size + 3) (nb s 0) with
  | none => false
  | some v => decide (s.size ≤ nb s v.2)
theorem places_run (hs : s.size ≤ 1000000) : Tot (fun k => spec_Places.f k s) (fun r => r.2.2.2.2.2 = plOk s) := by
  have h0 := nb_le (s := s) 0 (Nat.zero_le _)
  unfold spec_Places.f plOk
  refine Tot.bind (f := fun k => spec_reader_blanks.f k s 0) (blanks_nb hs 0 (Nat.zero_le _)) fun r hr => ?_
  subst hr
  refine Tot.bind (value_tree hs (nb s 0) h0 (2 * s.size + 3) (Nat.le_refl _)) fun r hr => ?_
  cases hv : tV s (2 * s.size + 3) (nb s 0) with
  | none =>
    rw [hv] at hr
    obtain ⟨h2, h3⟩ := hr
    refine Tot.ite (fun c => ?_) fun c => Tot.ret rfl
    rw [h2] at c; cases c
  | some v =>
    rw [hv] at hr
    obtain ⟨rfl, h2, h3⟩ := hr
    dsimp only
    refine Tot.ite (fun _ => ?_) fun c => absurd rfl c
    refine Tot.bind (blanks_nb hs v.2 h3) fun r hr => ?_
    subst hr
    have h4 := nb_le (s := s) v.2 h3
    refine Tot.ite (fun c => Tot.ret ?_) fun c => Tot.ret ?_
    · exact (decide_eq_true (by simp only [] at c; omega)).symm
    · exact (decide_eq_false (by simp only [] at c; omega)).symm
theorem gP_is : GjV.gP s = plOk s := gP_eq _ (Nat.le_refl _)
theorem both {α : Type} {f : Nat → Option α} {P Q : α → Prop} (h : Tot f P) (g : Tot f Q) : ∃ r, P r ∧ Q r := by
  obtain ⟨r, ⟨K, hK⟩, hP⟩ := h
  obtain ⟨t, ⟨L, hL⟩, hQ⟩ := g
  have e := (hK (K + L) (by omega)).symm.trans (hL (K + L) (by omega))
  obtain rfl := Option.some.inj e
  exact ⟨r, hP, hQ⟩
theorem val_pl (hs : s.size ≤ 1000000) : (∀ m, Fj.val (2 * s.size + 3) (D s (nb s 0)) = some m → nb s 0 + m ≤ s.size) ∧ FjW.fP s = plOk s := by
  have h0 := nb_le (s := s) 0 (Nat.zero_le _)
  obtain ⟨r, h1, h2⟩ := both (value_is hs (nb s 0) h0 (2 * s.size + 3) (Nat.le_refl _)) (value_tree hs (nb s 0) h0 (2 * s.size + 3) (Nat.le_refl _))
  have hf : FjW.fP s = match Fj.val (2 * s.size + 3) (D s (nb s 0)) with | none => false | some m => decide (s.size ≤ nb s (nb s 0 + m)) := rfl
  rw [hf]
  unfold plOk
  obtain ⟨a1, a2, a3⟩ := h1
  cases ho : Fj.val (2 * s.size + 3) (D s (nb s 0)) with
  | some m =>
    rw [ho] at a3
    simp only [Option.map_some] at a3
    obtain ⟨b1, b2, b3, b4, b5⟩ := a3
    refine ⟨fun m' h => (by obtain rfl := Option.some.inj h; exact b4), ?_⟩
    cases hv : tV s (2 * s.size + 3) (nb s 0) with
    | none => rw [hv] at h2; rw [h2.1] at b1; cases b1
    | some v =>
      rw [hv] at h2
      obtain ⟨rfl, c2, c3⟩ := h2
      dsimp only at b2 ⊢
      rw [show nb s 0 + m = v.2 by omega]
  | none =>
    rw [ho] at a3
    simp only [Option.map_none] at a3
    refine ⟨fun m' h => (by cases h), ?_⟩
    cases hv : tV s (2 * s.size + 3) (nb s 0) with
    | none => rfl
    | some v =>
      rw [hv] at h2
      obtain ⟨rfl, c2, c3⟩ := h2
      dsimp only at a3 ⊢
      rcases a3 with a3 | ⟨_, _, a3⟩
      · cases a3
      · have key : ∀ p : Nat, 48 ≤ bt s ((p : Nat) : Int) ∧ bt s ((p : Nat) : Int) ≤ 57 → false = decide (s.size ≤ nb s p) := fun p hp => by
          have hd := nx_digit (s := s) hp
          have := bt_digit hp.1
          have e : nb s p = p := hd
          exact (decide_eq_false (by omega)).symm
        rcases a3 with ⟨z, e⟩ | ⟨_, z, e⟩
        · have e' : v.2 = nb s 0 + 1 := by omega
          rw [e']
          exact key _ z.2
        · have e' : v.2 = nb s 0 + 2 := by omega
          rw [e']
          exact key _ z.2
/-- What is a JSON text and opens few brackets, is read. -/
theorem pl_read (hs : s.size ≤ 400000) (ho : Fp.opens (bytesOf s) < 300) (h : plOk s = true) : (Fp.okP (FjW.cut s (Fp.nx s 0))).isSome = true := by
  obtain ⟨hb, hf⟩ := val_pl (s := s) (by omega)
  rw [← hf] at h
  unfold FjW.fP at h
  have e0 : FjW.nx s 0 = nb s 0 := rfl
  have e1 : Fp.nx s 0 = nb s 0 := rfl
  rw [e0] at h
  rw [e1]
  split at h
  · cases h
  · rename_i m hm
    have h2 := of_decide_eq_true h
    have hm' : Fj.val (2 * s.size + 3) (bytesOf (FjW.cut s (nb s 0))) = some m := by rw [FjW.cut_bytes]; exact hm
    have hbm := hb m hm
    have hsz := FjW.cut_size s (nb s 0)
    refine Fp.okP_val hm' (by omega) ?_ ?_
    · have := FjW.nx_cut s (nb s 0) m
      show _ ≤ FjW.nx (FjW.cut s (nb s 0)) m
      omega
    · rw [FjW.cut_bytes]
      have h3 : Fp.opens (bytesOf s) = Fp.opens ((bytesOf s).take (nb s 0)) + Fp.opens ((bytesOf s).drop (nb s 0)) := by rw [← Fp.opens_app, List.take_append_drop]
      omega
theorem opens_go (hs : s.size ≤ 1000000) : ∀ (n p : Nat) (c : Nat), p ≤ s.size → s.size - p ≤ n → c ≤ p → Tot (fun k => laws_alOpens.l0 k s (c : Int) (p : Int)) (fun r => r = ((c + Fp.opens (D s p) : Nat) : Int))
  | n, p, c, h1, h2, h3 => by
    by_cases h : p < s.size
    · obtain ⟨m, rfl⟩ : ∃ m, n = m + 1 := ⟨n - 1, by omega⟩
      have e1 : wrap64 ((p : Int) + 1) = ((p + 1 : Nat) : Int) := by rw [w64 (by omega) (by omega)]; rfl
      have e2 : wrap64 ((c : Int) + 1) = ((c + 1 : Nat) : Int) := by rw [w64 (by omega) (by omega)]; rfl
      have hD : D s p = bt s (p : Int) :: D s (p + 1) := D_cons p h
      rw [hD, Fp.opens]
      by_cases c1 : bt s (p : Int) = 91
      · refine Tot.succ (fun k => by rw [laws_alOpens.l0, if_pos (by omega), if_pos (by omega), if_pos c1, e1, e2]) ?_
        refine (opens_go hs m (p + 1) (c + 1) (by omega) (by omega) (by omega)).mono fun r hr => ?_
        rw [hr, if_pos (.inl c1)]
        congr 1; omega
      by_cases c2 : bt s (p : Int) = 123
      · refine Tot.succ (fun k => by rw [laws_alOpens.l0, if_pos (by omega), if_pos (by omega), if_neg c1, if_pos c2, e1, e2]) ?_
        refine (opens_go hs m (p + 1) (c + 1) (by omega) (by omega) (by omega)).mono fun r hr => ?_
        rw [hr, if_pos (.inr c2)]
        congr 1; omega
      · refine Tot.succ (fun k => by rw [laws_alOpens.l0, if_pos (by omega), if_pos (by omega), if_neg c1, if_neg c2, e1]) ?_
        refine (opens_go hs m (p + 1) c (by omega) (by omega) (by omega)).mono fun r hr => ?_
        rw [hr, if_neg (fun x => x.elim c1 c2)]
        congr 1; omega
    · have e : D s p = [] := List.drop_of_length_le (by rw [bytesOf_length]; omega)
      rw [e, Fp.opens]
      exact Tot.succ (fun k => by rw [laws_alOpens.l0, if_neg (by omega)]) (Tot.ret (by rw [Nat.add_zero]))
theorem opens_run (hs : s.size ≤ 1000000) : Tot (fun k => laws_alOpens.f k s) (fun r => r = (Fp.opens (bytesOf s) : Int)) := by
  have h := opens_go hs s.size 0 0 (Nat.zero_le _) (by omega) (Nat.le_refl _)
  rw [Nat.zero_add, show D s 0 = bytesOf s from List.drop_zero] at h
  exact h
theorem steady_go (hs : s.size ≤ 1000000) : ∀ (n p : Nat) (low : Bool), p ≤ s.size → s.size - p ≤ n → Ev fun k => laws_fjSteady.l0 k s low (p : Int) = some (Fj.std low (D s p))
  | n, p, low, h1, h2 => by
    by_cases h : p < s.size
    · obtain ⟨m, rfl⟩ : ∃ m, n = m + 1 := ⟨n - 1, by omega⟩
      have ih := fun lo => steady_go hs m (p + 1) lo (by omega) (by omega)
      have e1 : wrap64 ((p : Int) + 1) = ((p + 1 : Nat) : Int) := by rw [w64 (by omega) (by omega)]; rfl
      have hp0 : (0 : Int) ≤ (p : Int) := by omega
      have hp1 : (p : Int) < (s.size : Int) := by omega
      have hD : D s p = bt s (p : Int) :: D s (p + 1) := D_cons p h
      rw [hD, Fj.std]
      by_cases c1 : bt s (p : Int) = 34
      · refine (ih false).succ fun k hk => ?_
        rw [laws_fjSteady.l0, if_pos hp1, if_pos hp0, if_pos c1, if_pos c1, e1]
        exact hk
      · rw [if_neg c1]
        by_cases c2 : bt s (p : Int) = 92
        · rw [if_pos c2]
          cases low with
          | true =>
            rw [if_pos rfl]
            refine (Ev.ge 2).mp fun k hk => ?_
            obtain ⟨j, rfl⟩ : ∃ j, k = j + 1 + 1 := ⟨k - 2, by omega⟩
            rw [laws_fjSteady.l0, if_pos hp1, if_pos hp0, if_neg c1, if_pos c2, laws_fjSteady.j1, if_pos rfl]
          | false =>
            rw [if_neg (by decide)]
            refine ((ih false).succ (Q := fun k => laws_fjSteady.j1 k s false (p : Int) false = some (Fj.std false (D s (p + 1)))) fun k hk => ?_).succ fun k hk => ?_
            · rw [laws_fjSteady.j1, if_neg (by decide), if_pos hp0, if_pos hp1, if_neg (by omega), e1]
              exact hk
            · rw [laws_fjSteady.l0, if_pos hp1, if_pos hp0, if_neg c1, if_pos c2]
              exact hk
        · rw [if_neg c2]
          by_cases c3 : bt s (p : Int) < 32
          · rw [if_pos c3]
            refine ((ih true).succ (Q := fun k => laws_fjSteady.j1 k s low (p : Int) false = some (Fj.std true (D s (p + 1)))) fun k hk => ?_).succ fun k hk => ?_
            · rw [laws_fjSteady.j1, if_neg (by decide), if_pos hp0, if_pos hp1, if_pos c3, e1]
              exact hk
            · rw [laws_fjSteady.l0, if_pos hp1, if_pos hp0, if_neg c1, if_neg c2]
              exact hk
          · rw [if_neg c3]
            refine ((ih low).succ (Q := fun k => laws_fjSteady.j1 k s low (p : Int) false = some (Fj.std low (D s (p + 1)))) fun k hk => ?_).succ fun k hk => ?_
            · rw [laws_fjSteady.j1, if_neg (by decide), if_pos hp0, if_pos hp1, if_neg c3, e1]
              exact hk
            · rw [laws_fjSteady.l0, if_pos hp1, if_pos hp0, if_neg c1, if_neg c2]
              exact hk
    · have e : D s p = [] := List.drop_of_length_le (by rw [bytesOf_length]; omega)
      rw [e, Fj.std]
      refine (Ev.ge 1).mp fun k hk => ?_
      obtain ⟨j, rfl⟩ : ∃ j, k = j + 1 := ⟨k - 1, by omega⟩
      rw [laws_fjSteady.l0, if_neg (by omega)]
theorem steady_run (hs : s.size ≤ 1000000) : Tot (fun k => laws_fjSteady.f k s) (fun r => r = Fj.std false (bytesOf s)) := by
  have h := steady_go hs s.size 0 false (Nat.zero_le _) (by omega)
  rw [show D s 0 = bytesOf s from List.drop_zero] at h
  exact ⟨_, h, rfl⟩
end Go.Proofs.YtlhaefblchpjhaaGreatDoor.ReadXFnAlValid
end
section
namespace Go.Proofs.YtlhaefblchpjhaaGreatDoor.ReadXFnAlValid
open Go.RowKit Go.Proofs.YtlhaefblchpjhaaGreatDoor.Base Go.Proofs.YtlhaefblchpjhaaGreatDoor.XFnAlValid Go.Proofs.YtlhaefblchpjhaaGreatDoorW.PrintWords Go.Proofs.YtlhaefblchpjhaaGreatDoorW.PrintLast Go.Proofs.YtlhaefblchpjhaaGreatDoorW.PrintMore
set_option linter.unusedVariables false
set_option linter.unusedSimpArgs false
theorem read_calls (s : ByteArray) (hs : s.size ≤ 400000) (W : World) (hG : Glob W) :
    Calls Tryz.prog 20 #[.string s] W fun e w' => (∃ k t A0 m0 c0 A n c, e = .returned (.tuple #[.agg #[.int .i64 k, .string t, .slice A0 m0 c0, .slice A n c], .bool (Fp.okP (FjW.cut s (Fp.nx s 0))).isSome])) ∧ Below W.heap.size W w' :=
  Fp.read Fp.US W s _ hs rfl (fun fv h => Fp.okP_good (by rw [FjW.cut_size]; omega) h) hG
set_option maxHeartbeats 8000000 in
set_option maxRecDepth 100000 in
theorem law (s : ByteArray) (w : World) (hG : Glob w) : Calls Tryz.prog 5 #[.string s] w fun e w' => e = .returned (.bool true) ∧ Below w.heap.size w w' := by
  have HB := Aside0.mk (Below.refl w.heap.size w)
  by_cases c2 : (s.size : Int) > 2147483647
  · have c2b0 : decide (2147483647 < (s.size : Int)) = true := decide_eq_true c2
    clear c2
    go_enter Tryz.func5, Tryz.ntmps5
    go_wp2
    go_ret
    exact ⟨rfl, HB.out⟩
  have c2b0 : decide (2147483647 < (s.size : Int)) = false := decide_eq_false c2
  clear c2
  by_cases c4 : (s.size : Int) > 4000
  · have c4b0 : decide (4000 < (s.size : Int)) = true := decide_eq_true c4
    clear c4
    go_enter Tryz.func5, Tryz.ntmps5
    go_wp2
    go_ret
    exact ⟨rfl, HB.out⟩
  have c4b0 : decide (4000 < (s.size : Int)) = false := decide_eq_false c4
  have hs : s.size ≤ 4000 := by omega
  clear c4
  obtain ⟨ro, ⟨K1, ho⟩, hoe⟩ := opens_run (s := s) (by omega)
  obtain ⟨rs, ⟨K2, hst⟩, hse⟩ := steady_run (s := s) (by omega)
  obtain ⟨⟨r1, r2, r3, r4, r5, r6⟩, ⟨K3, hpl⟩, hpe⟩ := places_run (s := s) (by omega)
  have A1 := Aside0.mk (ho K1 (Nat.le_refl _))
  have A2 := Aside0.mk (hst K2 (Nat.le_refl _))
  have A3 := Aside0.mk (hpl K3 (Nat.le_refl _))
  clear ho hst hpl
  by_cases c6 : ro > 200
  · have c6b0 : decide (200 < ro) = true := decide_eq_true c6
    clear c6 hoe hse hpe hs
    go_enter Tryz.func5, Tryz.ntmps5
    go_wp2_with (first
      | (go_at_call 17; (with_reducible refine (laws_alOpens.calls K1 s ro _ A1.out).mono ?_); rintro e w' ⟨rfl, ⟨nd, rfl⟩⟩))
    go_ret
    exact ⟨rfl, pw_below_drewN HB.out _⟩
  have c6b0 : decide (200 < ro) = false := decide_eq_false c6
  cases rs with
  | false =>
    clear c6 hoe hse hpe hs
    go_enter Tryz.func5, Tryz.ntmps5
    go_wp2_with (first
      | (go_at_call 17; (with_reducible refine (laws_alOpens.calls K1 s ro _ A1.out).mono ?_); rintro e w' ⟨rfl, ⟨nd, rfl⟩⟩)
      | (go_at_call 18; (with_reducible refine (laws_fjSteady.calls K2 s false _ A2.out).mono ?_); rintro e w' ⟨rfl, ⟨nd2, rfl⟩⟩))
    go_ret
    exact ⟨rfl, pw_below_drewN HB.out _⟩
  | true =>
    have hSt := Fj.std_steady _ hse.symm
    have HG := Aside0.mk hG
    have hop : Fp.opens (bytesOf s) < 300 := by omega
    obtain ⟨rd, hrd⟩ : ∃ x : Bool, (Fp.okP (FjW.cut s (Fp.nx s 0))).isSome = x := ⟨_, rfl⟩
    have HRD : Aside0 (∀ W, Glob W → Calls Tryz.prog 20 #[.string s] W fun e w' => (∃ k t A0 m0 c0 A n c, e = .returned (.tuple #[.agg #[.int .i64 k, .string t, .slice A0 m0 c0, .slice A n c], .bool rd])) ∧ Below W.heap.size W w') := ⟨fun W h => by rw [← hrd]; exact read_calls s (by omega) W h⟩
    have hrt : plOk s = true → rd = true := fun h => by rw [← hrd]; exact pl_read (by omega) hop h
    obtain ⟨b, hb⟩ : ∃ x, plOk s = x := ⟨_, rfl⟩
    have HFV : Aside0 (∀ W, Glob W → Calls Tryz.prog 21 #[.string s] W fun e w' => e = .returned (.bool b) ∧ Below W.heap.size W w') := ⟨fun W h => by rw [← hb, ← (val_pl (s := s) (by omega)).2]; exact FjW.fjValid s (by omega) hSt W h⟩
    have HGV : Aside0 (∀ W, Calls Tryz.prog 22 #[.string s] W fun e w' => e = .returned (.bool b) ∧ Below W.heap.size W w') := ⟨fun W => by rw [← hb, ← gP_is (s := s)]; exact GjV.gjValid s (by omega) W⟩
    have hr6 : r6 = b := hpe.trans hb
    rw [hb] at hrt
    subst hr6
    clear c6 hoe hse hpe hs hb hrd hSt hop hG
    cases r6 with
    | true =>
      obtain rfl := hrt rfl
      go_enter Tryz.func5, Tryz.ntmps5
      go_wp2_with (first
      | (go_at_call 17; (with_reducible refine (laws_alOpens.calls K1 s ro _ A1.out).mono ?_); rintro e w' ⟨rfl, ⟨nd, rfl⟩⟩)
      | (go_at_call 18; (with_reducible refine (laws_fjSteady.calls K2 s true _ A2.out).mono ?_); rintro e w' ⟨rfl, ⟨nd2, rfl⟩⟩)
      | (go_at_call 19; (with_reducible refine (spec_Places.calls K3 s r1 r2 r3 r4 r5 true _ A3.out).mono ?_); rintro e w3 ⟨v3, v4, rfl, ho3, ho4, hb3⟩; obtain ⟨Ao3, co3, eo3⟩ := Kd.R_slice ho3; obtain ⟨Ao4, co4, eo4⟩ := Kd.R_slice ho4; subst eo3 eo4; have HB3 := Aside0.mk (below_step (pw_below_drewN HB.out _) hb3); clear hb3 ho3 ho4)
      | (go_at_call 20; (refine (HRD.out _ ((HG.out.below HB3.out).below (below_alloc (Below.refl _ _) _))).mono ?_); rintro e w4 ⟨⟨k, t, A0, m0, c0, A, n, c, rfl⟩, hb4⟩; have HB4 := Aside0.mk hb4; clear hb4)
      | (go_at_call 21; (refine (HFV.out _ ((((HG.out.below HB3.out).below (below_alloc (Below.refl _ _) _)).below HB4.out).below (below_alloc (Below.refl _ _) _))).mono ?_); rintro e w5 ⟨rfl, hb5⟩; have HB5 := Aside0.mk hb5; clear hb5)
      | (go_at_call 22; (refine (HGV.out _).mono ?_); rintro e w6 ⟨rfl, hb6⟩; have HB6 := Aside0.mk hb6; clear hb6))
      go_ret
      exact ⟨rfl, below_step (below_step (below_alloc (below_step (below_alloc HB3.out _) HB4.out) _) HB5.out) HB6.out⟩
    | false =>
      go_enter Tryz.func5, Tryz.ntmps5
      go_wp2_with (first
      | (go_at_call 17; (with_reducible refine (laws_alOpens.calls K1 s ro _ A1.out).mono ?_); rintro e w' ⟨rfl, ⟨nd, rfl⟩⟩)
      | (go_at_call 18; (with_reducible refine (laws_fjSteady.calls K2 s true _ A2.out).mono ?_); rintro e w' ⟨rfl, ⟨nd2, rfl⟩⟩)
      | (go_at_call 19; (with_reducible refine (spec_Places.calls K3 s r1 r2 r3 r4 r5 false _ A3.out).mono ?_); rintro e w3 ⟨v3, v4, rfl, ho3, ho4, hb3⟩; obtain ⟨Ao3, co3, eo3⟩ := Kd.R_slice ho3; obtain ⟨Ao4, co4, eo4⟩ := Kd.R_slice ho4; subst eo3 eo4; have HB3 := Aside0.mk (below_step (pw_below_drewN HB.out _) hb3); clear hb3 ho3 ho4)
      | (go_at_call 20; (refine (HRD.out _ ((HG.out.below HB3.out).below (below_alloc (Below.refl _ _) _))).mono ?_); rintro e w4 ⟨⟨k, t, A0, m0, c0, A, n, c, rfl⟩, hb4⟩; have HB4 := Aside0.mk hb4; clear hb4)
      | (go_at_call 21; (refine (HFV.out _ ((((HG.out.below HB3.out).below (below_alloc (Below.refl _ _) _)).below HB4.out).below (below_alloc (Below.refl _ _) _))).mono ?_); rintro e w5 ⟨rfl, hb5⟩; have HB5 := Aside0.mk hb5; clear hb5)
      | (go_at_call 22; (refine (HGV.out _).mono ?_); rintro e w6 ⟨rfl, hb6⟩; have HB6 := Aside0.mk hb6; clear hb6))
      go_ret
      exact ⟨rfl, below_step (below_step (below_alloc (below_step (below_alloc HB3.out _) HB4.out) _) HB5.out) HB6.out⟩
end Go.Proofs.YtlhaefblchpjhaaGreatDoor.ReadXFnAlValid
end
