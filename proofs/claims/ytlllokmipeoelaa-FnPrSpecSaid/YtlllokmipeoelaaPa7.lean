/- Proved here: parts of the law FnPrSpec (the texts XFnPrSpecx11 XFnPrSpecx12 ReadBaseFnPrSpec ReadTotFnPrSpec FjStr FjA FjRefFnPrSpec FjRef2FnPrSpec TreeRefFnPrSpec PrReadFnPrSpec PrScanFnPrSpec PrUncFnPrSpec PrSameFnPrSpec PureFnPrSpec), no conditions of their own beyond what each theorem says. -/
import Derived.Test.YtlllokmipeoelaaPa1
import Derived.Test.YtlllokmipeoelaaPa5
import Derived.Test.YtlllokmipeoelaaPa6
section
-- Written by xprint.py of this session (a program that runs the kit's print and adds to it); Lean checks it.
namespace Go.Proofs.Ytlllokmipeoelaa.XFnPrSpec
open Go.RowKit Go.Proofs.YtlllokmipeoelaaW.PrintWords Go.Proofs.YtlllokmipeoelaaW.PrintLast Go.Proofs.YtlllokmipeoelaaW.PrintMore
attribute [local go_sem] max2_int min2_int max_two min_two max_three min_three max_four min_four   -- for this text's walks alone
set_option linter.unusedVariables false
set_option linter.unusedSimpArgs false
--EXT
/-! ### impl_PrSpec: function 6 (by hand) -/
open Classical in
noncomputable def impl_PrSpec.f (k : Nat) (a0 : ByteArray) : Option ByteArray := if h : a0.size ≤ 1000000 ∧ ∃ fin, Pr.Run (bytesOf a0) 0 [] fin then some (strOfNums h.2.choose) else none
theorem impl_PrSpec.calls (k : Nat) (a0 : ByteArray) (r : ByteArray) (w : World) (h : impl_PrSpec.f k a0 = some r) :
    Calls Try.prog 6 #[.string a0] w fun e w' => e = .returned (.string r) ∧ Below w.heap.size w w' := by
  unfold impl_PrSpec.f at h
  split at h
  · rename_i h1
    obtain rfl := Option.some.inj h
    exact Pr.prspec_calls a0 _ w h1.1 h1.2.choose_spec
  · cases h
end Go.Proofs.Ytlllokmipeoelaa.XFnPrSpec
end
section
-- Written by xprint.py of this session (a program that runs the kit's print and adds to it); Lean checks it.
namespace Go.Proofs.Ytlllokmipeoelaa.XFnPrSpec
open Go.RowKit Go.Proofs.YtlllokmipeoelaaW.PrintWords Go.Proofs.YtlllokmipeoelaaW.PrintLast Go.Proofs.YtlllokmipeoelaaW.PrintMore
attribute [local go_sem] max2_int min2_int max_two min_two max_three min_three max_four min_four   -- for this text's walks alone
set_option linter.unusedVariables false
set_option linter.unusedSimpArgs false
/-! ### laws_FnPrSpec: function 3 -/
noncomputable def laws_FnPrSpec.f (k : Nat) (a0 : ByteArray) : Option (Bool) := if (a0.size : Int) > 2147483647 then (some true) else (if (a0.size : Int) > 4096 then (some true) else ((spec_Uncommented.f k a0).bind fun bt316 => (if bt316.2 = true then ((impl_PrSpec.f k a0).bind fun t318 => ((laws_prSame.f k t318 bt316.1).bind fun t319 => (some t319))) else (some true))))
set_option maxHeartbeats 8000000 in
set_option maxRecDepth 100000 in
theorem laws_FnPrSpec.calls (k : Nat) (a0 : ByteArray) (r : Bool) (w : World) (h : laws_FnPrSpec.f k a0 = some r) :
    Calls Try.prog 3 #[.string a0] w fun e w' => e = .returned (.bool r) ∧ Below w.heap.size w w' := by
  have HB := Aside0.mk (Below.refl w.heap.size w)
  have H : (if (a0.size : Int) > 2147483647 then (some true) else (if (a0.size : Int) > 4096 then (some true) else ((spec_Uncommented.f k a0).bind fun bt316 => (if bt316.2 = true then ((impl_PrSpec.f k a0).bind fun t318 => ((laws_prSame.f k t318 bt316.1).bind fun t319 => (some t319))) else (some true))))) = some r := h
  clear h
  by_cases c2 : (a0.size : Int) > 2147483647
  · rw [if_pos c2] at H
    have c2b0 : decide (2147483647 < (a0.size : Int)) = true := decide_eq_true c2
    have c2b1 : decide (2147483647 < a0.size) = true := decide_eq_true (by omega)
    clear c2
    obtain rfl := Option.some.inj H
    go_enter Try.func3, Try.ntmps3
    go_wp2
    go_ret
    exact ⟨by first | rfl | (simp [errW_none, errW_some] <;> rfl) | (simp [*, errW_none, errW_some] <;> rfl), by repeat (first | (with_reducible first | exact HB.out | apply below_alloc | apply pw_below_drewN | apply below_drew1) | exact HB.out)⟩
  · rw [if_neg c2] at H
    have c2b0 : decide (2147483647 < (a0.size : Int)) = false := decide_eq_false c2
    have c2b1 : decide (2147483647 < a0.size) = false := decide_eq_false (by omega)
    clear c2
    by_cases c3 : (a0.size : Int) > 4096
    · rw [if_pos c3] at H
      have c3b0 : decide (4096 < (a0.size : Int)) = true := decide_eq_true c3
      have c3b1 : decide (4096 < a0.size) = true := decide_eq_true (by omega)
      clear c3
      obtain rfl := Option.some.inj H
      go_enter Try.func3, Try.ntmps3
      go_wp2
      go_ret
      exact ⟨by first | rfl | (simp [errW_none, errW_some] <;> rfl) | (simp [*, errW_none, errW_some] <;> rfl), by repeat (first | (with_reducible first | exact HB.out | apply below_alloc | apply pw_below_drewN | apply below_drew1) | exact HB.out)⟩
    · rw [if_neg c3] at H
      have c3b0 : decide (4096 < (a0.size : Int)) = false := decide_eq_false c3
      have c3b1 : decide (4096 < a0.size) = false := decide_eq_false (by omega)
      clear c3
      replace H := Option.bind_eq_some_iff.mp H
      obtain ⟨⟨t316, t317⟩, A40, H⟩ := H
      replace H : (if t317 = true then ((impl_PrSpec.f k a0).bind fun t318 => ((laws_prSame.f k t318 t316).bind fun t319 => (some t319))) else (some true)) = some r := H
      have A4 := Aside0.mk A40
      clear A40
      by_cases c5 : t317 = true
      · subst c5
        have H1 : ((impl_PrSpec.f k a0).bind fun t318 => ((laws_prSame.f k t318 t316).bind fun t319 => (some t319))) = some r := by rw [if_pos rfl] at H; exact H
        clear H
        have H := H1
        clear H1
        replace H := Option.bind_eq_some_iff.mp H
        obtain ⟨t318, A60, H⟩ := H
        replace H : ((laws_prSame.f k t318 t316).bind fun t319 => (some t319)) = some r := H
        have A6 := Aside0.mk A60
        clear A60
        replace H := Option.bind_eq_some_iff.mp H
        obtain ⟨t319, A70, H⟩ := H
        replace H : (some t319) = some r := H
        have A7 := Aside0.mk A70
        clear A70
        obtain rfl := Option.some.inj H
        go_enter Try.func3, Try.ntmps3
        go_wp2_with (first | ((with_reducible refine gate_callee (f := 4) rfl ?_); refine goesL_ (some 13) rfl rfl Try.func4 (by kernel_rfl) rfl #[.string a0] rfl (by (try simp only [List.map_toArray, List.map_cons, List.map_nil]); first | done | rfl | (simp only [List.length_drop, List.length_take]; rfl)) ?_; (with_reducible refine (spec_Uncommented.calls k a0 t316 true _ A4.out).mono ?_); rintro e w8 ⟨rfl, hb⟩; refine ⟨_, rfl, ?_⟩; have n0_ := Aside0.mk (below_step (by repeat (first | (with_reducible first | exact HB.out | apply below_alloc | apply pw_below_drewN | apply below_drew1) | exact HB.out)) hb); clear HB; have HB := n0_; clear n0_; (try clear hb); (try clear hb2); (try clear hk); (try clear hi)) | (go_at_call 6; (with_reducible refine (impl_PrSpec.calls k a0 t318 _ A6.out).mono ?_); rintro e w9 ⟨rfl, hb⟩; have n0_ := Aside0.mk (below_step (by repeat (first | (with_reducible first | exact HB.out | apply below_alloc | apply pw_below_drewN | apply below_drew1) | exact HB.out)) hb); clear HB; have HB := n0_; clear n0_; (try clear hb); (try clear hb2); (try clear hk); (try clear hi)) | (go_at_call 5; (with_reducible refine (laws_prSame.calls k t318 t316 t319 _ A7.out).mono ?_); rintro e w10 ⟨rfl, hb⟩; have n0_ := Aside0.mk (below_step (by repeat (first | (with_reducible first | exact HB.out | apply below_alloc | apply pw_below_drewN | apply below_drew1) | exact HB.out)) hb); clear HB; have HB := n0_; clear n0_; (try clear hb); (try clear hb2); (try clear hk); (try clear hi)))
        go_ret
        exact ⟨by first | rfl | (simp [errW_none, errW_some] <;> rfl) | (simp [*, errW_none, errW_some] <;> rfl), by repeat (first | (with_reducible first | exact HB.out | apply below_alloc | apply pw_below_drewN | apply below_drew1) | exact HB.out)⟩
      · replace c5 := Bool.eq_false_iff.mpr c5
        subst c5
        have H1 : (some true) = some r := by rw [if_neg (show ¬ (false = true) by decide)] at H; exact H
        clear H
        have H := H1
        clear H1
        obtain rfl := Option.some.inj H
        go_enter Try.func3, Try.ntmps3
        go_wp2_with (first | ((with_reducible refine gate_callee (f := 4) rfl ?_); refine goesL_ (some 13) rfl rfl Try.func4 (by kernel_rfl) rfl #[.string a0] rfl (by (try simp only [List.map_toArray, List.map_cons, List.map_nil]); first | done | rfl | (simp only [List.length_drop, List.length_take]; rfl)) ?_; (with_reducible refine (spec_Uncommented.calls k a0 t316 false _ A4.out).mono ?_); rintro e w11 ⟨rfl, hb⟩; refine ⟨_, rfl, ?_⟩; have n0_ := Aside0.mk (below_step (by repeat (first | (with_reducible first | exact HB.out | apply below_alloc | apply pw_below_drewN | apply below_drew1) | exact HB.out)) hb); clear HB; have HB := n0_; clear n0_; (try clear hb); (try clear hb2); (try clear hk); (try clear hi)))
        go_ret
        exact ⟨by first | rfl | (simp [errW_none, errW_some] <;> rfl) | (simp [*, errW_none, errW_some] <;> rfl), by repeat (first | (with_reducible first | exact HB.out | apply below_alloc | apply pw_below_drewN | apply below_drew1) | exact HB.out)⟩
/-- THE ONE PURE STATEMENT of laws_FnPrSpec: yours. -/
def laws_FnPrSpec.Pure : Prop := ∀ (a0 : ByteArray), a0.size ≤ 140737488351232 → ∃ k, laws_FnPrSpec.f k a0 = some true
theorem laws_FnPrSpec.walk (P : laws_FnPrSpec.Pure) (a0 : ByteArray) (w : World) (w0 : a0.size ≤ 140737488351232) :
    Calls Try.prog 3 #[.string a0] w fun e w' => e = .returned (.bool true) ∧ Below w.heap.size w w' := by
  obtain ⟨k, h⟩ := P a0 w0
  refine (laws_FnPrSpec.calls k a0 true w h).mono ?_
  rintro e w' ⟨rfl, hd⟩
  exact ⟨rfl, hd⟩
end Go.Proofs.Ytlllokmipeoelaa.XFnPrSpec
end
section
namespace Go.Proofs.Ytlllokmipeoelaa.ReadXFnPrSpec
open Go.RowKit Go.Proofs.Ytlllokmipeoelaa.Base Go.Proofs.Ytlllokmipeoelaa.XFnPrSpec Go.Proofs.YtlllokmipeoelaaW.PrintWords Go.Proofs.YtlllokmipeoelaaW.PrintLast
set_option linter.unusedVariables false
set_option linter.unusedSimpArgs false
/-- For all k from some number on. -/
def Ev (P : Nat → Prop) : Prop := ∃ K, ∀ k, K ≤ k → P k
theorem Ev.and {P Q : Nat → Prop} (h : Ev P) (g : Ev Q) : Ev fun k => P k ∧ Q k := by
  obtain ⟨a, h⟩ := h; obtain ⟨b, g⟩ := g
  exact ⟨max a b, fun k hk => ⟨h k (by omega), g k (by omega)⟩⟩
theorem Ev.mp {P Q : Nat → Prop} (h : Ev P) (g : ∀ k, P k → Q k) : Ev Q := by
  obtain ⟨a, h⟩ := h; exact ⟨a, fun k hk => g k (h k hk)⟩
theorem Ev.all {P : Nat → Prop} (h : ∀ k, P k) : Ev P := ⟨0, fun k _ => h k⟩
theorem Ev.succ {P Q : Nat → Prop} (h : Ev P) (g : ∀ k, P k → Q (k + 1)) : Ev Q := by
  obtain ⟨a, h⟩ := h
  refine ⟨a + 1, fun k hk => ?_⟩
  obtain ⟨j, rfl⟩ : ∃ j, k = j + 1 := ⟨k - 1, by omega⟩
  exact g j (h j (by omega))
theorem Ev.ge (K : Nat) : Ev fun k => K ≤ k := ⟨K, fun k hk => hk⟩
theorem Ev.ex {P : Nat → Prop} (h : Ev P) : ∃ k, P k := by obtain ⟨a, h⟩ := h; exact ⟨a, h a (Nat.le_refl _)⟩
def hv (c : Int) : Option Int := if 48 ≤ c ∧ c ≤ 57 then some (c - 48) else if 97 ≤ c ∧ c ≤ 102 then some (c - 87) else if 65 ≤ c ∧ c ≤ 70 then some (c - 55) else none
theorem hexDigit_eq (k : Nat) (hk : 2 ≤ k) (c : Int) : spec_hexDigit.f k c = some (match hv c with | some v => (v, true) | none => (0, false)) := by
  obtain ⟨j, rfl⟩ : ∃ j, k = j + 2 := ⟨k - 2, by omega⟩
  by_cases a1 : 48 ≤ c <;> by_cases a2 : c ≤ 57 <;> by_cases a3 : 97 ≤ c <;> by_cases a4 : c ≤ 102 <;> by_cases a5 : 65 ≤ c <;> by_cases a6 : c ≤ 70 <;>
    first
      | omega
      | (simp [spec_hexDigit.f, spec_hexDigit.j0, spec_hexDigit.j1, hv, a1, a2, a3, a4, a5, a6]; done)
      | (simp [spec_hexDigit.f, spec_hexDigit.j0, spec_hexDigit.j1, hv, a1, a2, a3, a4, a5, a6]; omega)
def h4 (a b c d : Option Int) : Option Int := a.bind fun a => b.bind fun b => c.bind fun c => d.bind fun d => some (a * 4096 + b * 256 + c * 16 + d)
def Simple (c : Int) : Prop := c = 34 ∨ c = 92 ∨ c = 47 ∨ c = 98 ∨ c = 102 ∨ c = 110 ∨ c = 114 ∨ c = 116
theorem bt_out (s : ByteArray) (i : Int) (h : s.size ≤ i) : bt s i = 0 := by
  rw [← rd_bytesOf]
  exact rd_out _ _ (by rw [bytesOf_length]; omega)
theorem here_eq (s : ByteArray) (p : Int) (h : 0 ≤ p) : spec_reader_here.f s p = some (bt s p, s, p) := by
  unfold spec_reader_here.f
  by_cases c : p < s.size
  · rw [if_pos c, if_pos h]
  · rw [if_neg c, bt_out s p (by omega)]
theorem escape_simple (k : Nat) (hk : 1 ≤ k) (s : ByteArray) (p : Int) (h0 : 0 ≤ p) (h1 : p ≤ 140737488355328) (h : Simple (bt s p)) : spec_reader_escape.f k s p = some (true, s, p + 1) := by
  obtain ⟨j, rfl⟩ : ∃ j, k = j + 1 := ⟨k - 1, by omega⟩
  unfold spec_reader_escape.f
  rw [here_eq s p h0]
  simp only [Option.bind_some, spec_reader_escape.j0]
  rw [w64 (by omega) (by omega)]
  unfold Simple at h
  rcases h with h | h | h | h | h | h | h | h <;> simp [h]
theorem loop_step (k : Nat) (hk : 2 ≤ k) (s : ByteArray) (n p : Int) (h0 : 0 ≤ p) (h1 : p ≤ 140737488400000) (hn0 : 0 ≤ n) (hn : n < 4) :
    spec_reader_escape.l0 (k + 1) n s p = if (hv (bt s p)).isSome then spec_reader_escape.l0 k (n + 1) s (p + 1) else some (false, s, p) := by
  rw [spec_reader_escape.l0, if_pos hn, here_eq s p h0]
  simp only [Option.bind_some]
  rw [hexDigit_eq k hk]
  cases hv (bt s p) with
  | none => simp
  | some v =>
    simp only [Option.bind_some, if_true, Option.isSome_some]
    rw [w64 (i := n + 1) (by omega) (by omega), w64 (i := p + 1) (by omega) (by omega)]
theorem escape_u (k : Nat) (hk : 12 ≤ k) (s : ByteArray) (p : Int) (h0 : 0 ≤ p) (h1 : p ≤ 140737488355328) (h : bt s p = 117) :
    ∃ q, spec_reader_escape.f k s p = some (if (h4 (hv (bt s (p + 1))) (hv (bt s (p + 2))) (hv (bt s (p + 3))) (hv (bt s (p + 4)))).isSome then (true, s, p + 5) else (false, s, q)) := by
  obtain ⟨j, rfl⟩ : ∃ j, k = j + 12 := ⟨k - 12, by omega⟩
  have hf : spec_reader_escape.f (j + 12) s p = spec_reader_escape.l0 (j + 11) 0 s (p + 1) := by
    unfold spec_reader_escape.f
    rw [here_eq s p h0]
    simp only [Option.bind_some, spec_reader_escape.j0]
    rw [w64 (i := p + 1) (by omega) (by omega)]
    simp [h]
  rw [hf, loop_step (j + 10) (by omega) s 0 (p + 1) (by omega) (by omega) (by omega) (by omega)]
  unfold h4
  cases e1 : hv (bt s (p + 1)) with
  | none => exact ⟨_, rfl⟩
  | some a =>
    simp only [Option.isSome_some, if_true, Option.bind_some]
    rw [loop_step (j + 9) (by omega) s _ _ (by omega) (by omega) (by omega) (by omega), show p + 1 + 1 = p + 2 by omega]
    cases e2 : hv (bt s (p + 2)) with
    | none => exact ⟨_, rfl⟩
    | some a =>
      simp only [Option.isSome_some, if_true, Option.bind_some]
      rw [loop_step (j + 8) (by omega) s _ _ (by omega) (by omega) (by omega) (by omega), show p + 2 + 1 = p + 3 by omega]
      cases e3 : hv (bt s (p + 3)) with
      | none => exact ⟨_, rfl⟩
      | some a =>
        simp only [Option.isSome_some, if_true, Option.bind_some]
        rw [loop_step (j + 7) (by omega) s _ _ (by omega) (by omega) (by omega) (by omega), show p + 3 + 1 = p + 4 by omega]
        cases e4 : hv (bt s (p + 4)) with
        | none => exact ⟨_, rfl⟩
        | some a =>
          refine ⟨0, ?_⟩
          simp only [Option.isSome_some, if_true, Option.bind_some]
          rw [spec_reader_escape.l0, if_neg (by omega), show p + 4 + 1 = p + 5 by omega]
theorem escape_else (k : Nat) (hk : 1 ≤ k) (s : ByteArray) (p : Int) (h0 : 0 ≤ p) (h1 : p ≤ 140737488355328) (h : ¬ Simple (bt s p)) (hu : bt s p ≠ 117) : spec_reader_escape.f k s p = some (false, s, p) := by
  obtain ⟨j, rfl⟩ : ∃ j, k = j + 1 := ⟨k - 1, by omega⟩
  unfold spec_reader_escape.f
  rw [here_eq s p h0]
  simp only [Option.bind_some, spec_reader_escape.j0]
  unfold Simple at h
  simp only [not_or] at h
  obtain ⟨n1, n2, n3, n4, n5, n6, n7, n8⟩ := h
  simp [n1, n2, n3, n4, n5, n6, n7, n8, hu]
end Go.Proofs.Ytlllokmipeoelaa.ReadXFnPrSpec
end
section
namespace Go.Proofs.Ytlllokmipeoelaa.ReadXFnPrSpec
open Go.RowKit Go.Proofs.Ytlllokmipeoelaa.Base Go.Proofs.Ytlllokmipeoelaa.XFnPrSpec Go.Proofs.YtlllokmipeoelaaW.PrintWords Go.Proofs.YtlllokmipeoelaaW.PrintLast
set_option linter.unusedVariables false
set_option linter.unusedSimpArgs false
/-- It answers, from some number of steps on always the same, and of the answer Q. -/
def Tot {α : Type} (f : Nat → Option α) (Q : α → Prop) : Prop := ∃ r, (Ev fun k => f k = some r) ∧ Q r
theorem Tot.bind {α β : Type} {f : Nat → Option α} {g : Nat → α → Option β} {Q : α → Prop} {R : β → Prop} (h : Tot f Q) (hg : ∀ r, Q r → Tot (fun k => g k r) R) : Tot (fun k => (f k).bind (g k)) R := by
  obtain ⟨r, hr, hq⟩ := h
  obtain ⟨t, ht, hR⟩ := hg r hq
  exact ⟨t, (hr.and ht).mp fun k hk => by show (f k).bind (g k) = some t; rw [hk.1]; exact hk.2, hR⟩
theorem Tot.succ {α : Type} {f g : Nat → Option α} {Q : α → Prop} (h : ∀ k, f (k + 1) = g k) (hg : Tot g Q) : Tot f Q := by
  obtain ⟨r, hr, hq⟩ := hg
  exact ⟨r, hr.succ fun k hk => (h k).trans hk, hq⟩
theorem Tot.ret {α : Type} {Q : α → Prop} {r : α} (h : Q r) : Tot (fun _ => some r) Q := ⟨r, Ev.all fun _ => rfl, h⟩
theorem Tot.eq {α : Type} {f : Nat → Option α} {Q : α → Prop} {r : α} (hf : ∀ k, f k = some r) (h : Q r) : Tot f Q := ⟨r, Ev.all hf, h⟩
theorem Tot.ite {α : Type} {c : Prop} [Decidable c] {f g : Nat → Option α} {Q : α → Prop} (h : c → Tot f Q) (g' : ¬ c → Tot g Q) : Tot (fun k => if c then f k else g k) Q := by
  by_cases hc : c
  · obtain ⟨r, hr, hq⟩ := h hc
    exact ⟨r, hr.mp fun k hk => by show (if c then f k else g k) = some r; rw [if_pos hc]; exact hk, hq⟩
  · obtain ⟨r, hr, hq⟩ := g' hc
    exact ⟨r, hr.mp fun k hk => by show (if c then f k else g k) = some r; rw [if_neg hc]; exact hk, hq⟩
theorem Tot.mono {α : Type} {f : Nat → Option α} {Q R : α → Prop} (h : Tot f Q) (g : ∀ r, Q r → R r) : Tot f R := by
  obtain ⟨r, hr, hq⟩ := h
  exact ⟨r, hr, g r hq⟩
theorem tot_lift {α : Type} {f : Nat → Option α} (hm : ∀ k, LeO (f k) (f (k + 1))) {k : Nat} {r : α} (h : f k = some r) : ∀ j, f (k + j) = some r
  | 0 => h
  | j + 1 => hm (k + j) r (tot_lift hm h j)
variable {s : ByteArray}
theorem here_tot (hs : s.size ≤ 1000000) (p : Int) (h0 : 0 ≤ p) : Tot (fun _ => spec_reader_here.f s p) (fun r => r = (bt s p, s, p)) := Tot.eq (fun _ => here_eq s p h0) rfl
theorem bt_digit {p : Int} (h : 48 ≤ bt s p) : p < s.size := by
  refine Int.not_le.mp fun hc => ?_
  rw [bt_out s p hc] at h
  omega
end Go.Proofs.Ytlllokmipeoelaa.ReadXFnPrSpec
end
section
namespace Go.Proofs.Ytlllokmipeoelaa.Fj
open Go.RowKit Go.Proofs.YtlllokmipeoelaaW.PrintWords Go.Proofs.YtlllokmipeoelaaW.PrintLast
set_option linter.unusedVariables false
set_option linter.unusedSimpArgs false
end Go.Proofs.Ytlllokmipeoelaa.Fj
end
section

end
section
namespace Go.Proofs.Ytlllokmipeoelaa.ReadXFnPrSpec
open Go.RowKit Go.Proofs.Ytlllokmipeoelaa.Base Go.Proofs.Ytlllokmipeoelaa.XFnPrSpec Go.Proofs.YtlllokmipeoelaaW.PrintWords Go.Proofs.YtlllokmipeoelaaW.PrintLast
set_option linter.unusedVariables false
set_option linter.unusedSimpArgs false
variable {s : ByteArray}
/-- The bytes of s from p on. -/
abbrev D (s : ByteArray) (p : Nat) : List Int := (bytesOf s).drop p
theorem rd_D (p j : Nat) : rd (D s p) (j : Int) = bt s ((p + j : Nat) : Int) := by
  rw [← rd_bytesOf]
  unfold rd
  simp only [Int.toNat_natCast, List.getD_eq_getElem?_getD, List.getElem?_drop]
theorem rd_D0 (p : Nat) : rd (D s p) 0 = bt s (p : Int) := rd_D p 0
theorem D_cons (p : Nat) (h : p < s.size) : D s p = bt s (p : Int) :: D s (p + 1) := by
  have hl : p < (bytesOf s).length := by rw [bytesOf_length]; exact h
  have e : (bytesOf s)[p]'hl = bt s (p : Int) := by
    rw [← rd_bytesOf]
    unfold rd
    simp only [Int.toNat_natCast, List.getD_eq_getElem?_getD]
    rw [List.getElem?_eq_getElem hl]
    rfl
  rw [← e]
  exact List.drop_eq_getElem_cons hl
theorem D_nil (p : Nat) (h : s.size ≤ p) : D s p = [] := List.drop_of_length_le (by rw [bytesOf_length]; exact h)
theorem D_drop (p m : Nat) : (D s p).drop m = D s (p + m) := by rw [List.drop_drop]
theorem D_len (p : Nat) : (D s p).length = s.size - p := by rw [List.length_drop, bytesOf_length]
theorem blank_eq (c : Int) : spec_Blank.f c = some (Fj.blank c) := by
  unfold spec_Blank.f Fj.blank
  by_cases a : c = 32
  · subst a; rfl
  · by_cases b : c = 9
    · subst b; rfl
    · by_cases d : c = 10
      · subst d; rfl
      · by_cases e : c = 13
        · subst e; rfl
        · have a' := beq_eq_false_iff_ne.mpr a
          have b' := beq_eq_false_iff_ne.mpr b
          have d' := beq_eq_false_iff_ne.mpr d
          have e' := beq_eq_false_iff_ne.mpr e
          simp [a, b, d, e, a', b', d', e']
theorem ws_at (p : Nat) : Fj.ws (D s p) = if p < s.size ∧ Fj.blank (bt s (p : Int)) = true then Fj.ws (D s (p + 1)) + 1 else 0 := by
  by_cases h : p < s.size
  · rw [D_cons p h, Fj.ws]
    by_cases b : Fj.blank (bt s (p : Int)) = true
    · rw [if_pos b, if_pos ⟨h, b⟩]
    · rw [if_neg b, if_neg (fun x => b x.2)]
  · rw [D_nil p (by omega), if_neg (fun x => h x.1)]; rfl
theorem blanks_ex (hs : s.size ≤ 1000000) : ∀ (m p : Nat), p ≤ s.size → s.size - p ≤ m → Tot (fun k => spec_reader_blanks.l0 k s (p : Int)) (fun r => r = (s, ((p + Fj.ws (D s p) : Nat) : Int)))
  | m, p, h1, hm => by
    by_cases c : p < s.size
    · cases m with
      | zero => omega
      | succ m =>
        refine Tot.succ (fun k => by rw [spec_reader_blanks.l0, if_pos (by omega), if_pos (by omega)]) ?_
        refine Tot.bind (f := fun _ => spec_Blank.f (bt s (p : Int))) (Q := fun b => b = Fj.blank (bt s (p : Int))) (Tot.eq (fun _ => blank_eq _) rfl) fun b hb => ?_
        subst hb
        refine Tot.ite (fun hb => ?_) (fun hb => Tot.ret ?_)
        · rw [w64 (by omega) (by omega)]
          refine (blanks_ex hs m (p + 1) (by omega) (by omega)).mono fun r h => ?_
          rw [h, ws_at p, if_pos ⟨c, hb⟩]
          congr 2
          omega
        · rw [ws_at p, if_neg (fun x => hb x.2)]; rfl
    · exact Tot.succ (fun k => by rw [spec_reader_blanks.l0, if_neg (by omega)]) (Tot.ret (by rw [ws_at p, if_neg (fun x => c x.1)]; rfl))
theorem blanks_is (hs : s.size ≤ 1000000) (p : Nat) (h1 : p ≤ s.size) : Tot (fun k => spec_reader_blanks.f k s (p : Int)) (fun r => r = (s, ((p + Fj.ws (D s p) : Nat) : Int))) := by
  unfold spec_reader_blanks.f
  exact blanks_ex hs s.size p h1 (by omega)
theorem digs_at (p : Nat) : Fj.digs (D s p) = if 48 ≤ bt s (p : Int) ∧ bt s (p : Int) ≤ 57 then Fj.digs (D s (p + 1)) + 1 else 0 := by
  by_cases h : p < s.size
  · rw [D_cons p h, Fj.digs]
  · rw [D_nil p (by omega), bt_out s p (by omega), if_neg (by omega)]; rfl
theorem digits_ex (hs : s.size ≤ 1000000) : ∀ (m p : Nat) (q : Int), p ≤ s.size → s.size - p ≤ m → Tot (fun k => spec_reader_digits.l0 k q (bt s (p : Int)) s (p : Int)) (fun r => r = (decide (((p + Fj.digs (D s p) : Nat) : Int) > q), s, ((p + Fj.digs (D s p) : Nat) : Int)))
  | m, p, q, h1, hm => by
    by_cases c : 48 ≤ bt s (p : Int) ∧ bt s (p : Int) ≤ 57
    · have hp := bt_digit c.1
      cases m with
      | zero => omega
      | succ m =>
        refine Tot.succ (fun k => by rw [spec_reader_digits.l0, if_pos c.1, if_pos c.2, w64 (i := (p : Int) + 1) (by omega) (by omega)]) ?_
        refine Tot.bind (here_tot hs ((p : Int) + 1) (by omega)) fun r hr => ?_
        subst hr
        refine (digits_ex hs m (p + 1) q (by omega) (by omega)).mono fun r h => ?_
        rw [h, digs_at p, if_pos c]
        have e : p + 1 + Fj.digs (D s (p + 1)) = p + (Fj.digs (D s (p + 1)) + 1) := by omega
        rw [e]
    · have e : p + Fj.digs (D s p) = p := by rw [digs_at p, if_neg c]; rfl
      have fin : Tot (fun _ => some (decide ((p : Int) > q), s, (p : Int))) (fun r => r = (decide (((p + Fj.digs (D s p) : Nat) : Int) > q), s, ((p + Fj.digs (D s p) : Nat) : Int))) := Tot.ret (by rw [e])
      by_cases c1 : 48 ≤ bt s (p : Int)
      · exact Tot.succ (fun k => by rw [spec_reader_digits.l0, if_pos c1, if_neg (fun x => c ⟨c1, x⟩)]) fin
      · exact Tot.succ (fun k => by rw [spec_reader_digits.l0, if_neg c1]) fin
theorem digits_is (hs : s.size ≤ 1000000) (p : Nat) (h1 : p ≤ s.size) : Tot (fun k => spec_reader_digits.f k s (p : Int)) (fun r => r = (decide (Fj.digs (D s p) ≠ 0), s, ((p + Fj.digs (D s p) : Nat) : Int))) := by
  unfold spec_reader_digits.f
  refine Tot.bind (here_tot hs (p : Int) (by omega)) fun r hr => ?_
  subst hr
  refine (digits_ex hs s.size p (p : Int) h1 (by omega)).mono fun r h => ?_
  rw [h]
  congr 1
  exact decide_eq_decide.mpr (by omega)
/-- What a reader answers, exactly. -/
def Ans (s : ByteArray) (o : Option Nat) (r : Bool × ByteArray × Int) : Prop := r.2.1 = s ∧ match o with
  | some e => r.1 = true ∧ r.2.2 = (e : Int) ∧ e ≤ s.size
  | none => r.1 = false
/-- One byte. -/
theorem take_is (hs : s.size ≤ 1000000) (p : Nat) (c : Int) (h1 : p ≤ s.size) (hc : c ≠ 0) : Tot (fun _ => spec_reader_take.f s (p : Int) c) (fun r => r = if bt s (p : Int) = c then (true, s, ((p + 1 : Nat) : Int)) else (false, s, (p : Int))) := by
  unfold spec_reader_take.f
  by_cases c1 : (p : Int) < s.size
  · by_cases c2 : bt s (p : Int) = c
    · exact Tot.eq (fun _ => by rw [if_pos c1, if_pos (by omega), if_pos c2, w64 (by omega) (by omega)]) (by rw [if_pos c2]; rfl)
    · exact Tot.eq (fun _ => by rw [if_pos c1, if_pos (by omega), if_neg c2]) (by rw [if_neg c2])
  · have hz := bt_out s (p : Int) (by omega)
    exact Tot.eq (fun _ => by rw [if_neg c1]) (by rw [hz, if_neg (Ne.symm hc)])
theorem in_text {p : Nat} {c : Int} (h : bt s (p : Int) = c) (hc : c ≠ 0) : p < s.size := by
  refine Nat.lt_of_not_le fun hle => ?_
  rw [bt_out s (p : Int) (by omega)] at h
  exact hc h.symm
theorem digs_size (p : Nat) : p ≤ s.size → p + Fj.digs (D s p) ≤ s.size := fun h => by
  have := Fj.digs_le (D s p)
  rw [D_len] at this
  omega
/-- The reference's numbers: behind the letter, behind the fraction, behind the whole part; all at places of the text. -/
def nE (s : ByteArray) (p : Nat) : Option Nat :=
  if bt s (p : Int) = 43 ∨ bt s (p : Int) = 45 then (if Fj.digs (D s (p + 1)) = 0 then none else some (p + 1 + Fj.digs (D s (p + 1)))) else (if Fj.digs (D s p) = 0 then none else some (p + Fj.digs (D s p)))
def nX (s : ByteArray) (p : Nat) : Option Nat := if bt s (p : Int) = 101 ∨ bt s (p : Int) = 69 then nE s (p + 1) else some p
def nF (s : ByteArray) (p : Nat) : Option Nat := if bt s (p : Int) = 46 then (if Fj.digs (D s (p + 1)) = 0 then none else nX s (p + 1 + Fj.digs (D s (p + 1)))) else nX s p
def nW (s : ByteArray) (p : Nat) : Option Nat := if bt s (p : Int) = 48 then nF s (p + 1) else (if Fj.digs (D s p) = 0 then none else nF s (p + Fj.digs (D s p)))
def nN (s : ByteArray) (p : Nat) : Option Nat := if bt s (p : Int) = 45 then nW s (p + 1) else nW s p
theorem digits_ans (hs : s.size ≤ 1000000) (p : Nat) (h1 : p ≤ s.size) : Tot (fun k => spec_reader_digits.f k s (p : Int)) (Ans s (if Fj.digs (D s p) = 0 then none else some (p + Fj.digs (D s p)))) := by
  refine (digits_is hs p h1).mono fun r h => ?_
  subst h
  by_cases c : Fj.digs (D s p) = 0
  · rw [if_pos c]; exact ⟨rfl, by simp [c]⟩
  · rw [if_neg c]; exact ⟨rfl, by simp [c], rfl, digs_size p h1⟩
theorem j2_is (hs : s.size ≤ 1000000) (p : Nat) (h1 : p ≤ s.size) : Tot (fun k => spec_reader_number.j2 k true s (p : Int)) (Ans s (nE s p)) := by
  refine Tot.succ (fun k => by rw [spec_reader_number.j2, if_pos rfl]) ?_
  refine Tot.bind (take_is hs p 43 h1 (by decide)) fun r hr => ?_
  subst hr
  unfold nE
  by_cases c1 : bt s (p : Int) = 43
  · have := in_text c1 (by decide)
    simp only [c1, if_true, true_or]
    refine Tot.bind (digits_ans hs (p + 1) (by omega)) fun r hr => Tot.ret ?_
    exact hr
  · simp only [c1, if_false, Bool.false_eq_true, false_or]
    refine Tot.bind (take_is hs p 45 h1 (by decide)) fun r hr => ?_
    subst hr
    by_cases c2 : bt s (p : Int) = 45
    · have := in_text c2 (by decide)
      simp only [c2, if_true]
      refine Tot.bind (digits_ans hs (p + 1) (by omega)) fun r hr => Tot.ret ?_
      exact hr
    · simp only [c2, if_false]
      refine Tot.bind (digits_ans hs p (by omega)) fun r hr => Tot.ret ?_
      exact hr
theorem j1_is (hs : s.size ≤ 1000000) (p : Nat) (h1 : p ≤ s.size) : Tot (fun k => spec_reader_number.j1 k false s (p : Int)) (Ans s (nX s p)) := by
  refine Tot.succ (fun k => by rw [spec_reader_number.j1, if_neg (by decide)]) ?_
  refine Tot.bind (take_is hs p 101 h1 (by decide)) fun r hr => ?_
  subst hr
  unfold nX
  by_cases c1 : bt s (p : Int) = 101
  · have := in_text c1 (by decide)
    simp only [c1, if_true, true_or]
    exact j2_is hs (p + 1) (by omega)
  · simp only [c1, if_false, Bool.false_eq_true, false_or]
    refine Tot.bind (take_is hs p 69 h1 (by decide)) fun r hr => ?_
    subst hr
    by_cases c2 : bt s (p : Int) = 69
    · have := in_text c2 (by decide)
      simp only [c2, if_true]
      exact j2_is hs (p + 1) (by omega)
    · simp only [c2, if_false]
      exact Tot.succ (fun k => by rw [spec_reader_number.j2, if_neg (by decide)]) (Tot.ret ⟨rfl, rfl, rfl, h1⟩)
theorem j0_is (hs : s.size ≤ 1000000) (p : Nat) (h1 : p ≤ s.size) : Tot (fun k => spec_reader_number.j0 k false s (p : Int)) (Ans s (nF s p)) := by
  refine Tot.succ (fun k => by rw [spec_reader_number.j0, if_neg (by decide)]) ?_
  refine Tot.bind (take_is hs p 46 h1 (by decide)) fun r hr => ?_
  subst hr
  unfold nF
  by_cases c1 : bt s (p : Int) = 46
  · have hp := in_text c1 (by decide)
    simp only [c1, if_true]
    refine Tot.bind (digits_is hs (p + 1) (by omega)) fun r hr => ?_
    subst hr
    by_cases c2 : Fj.digs (D s (p + 1)) = 0
    · simp only [c2, ne_eq, not_true_eq_false, decide_false, Bool.not_false, if_true]
      exact Tot.succ (fun k => by rw [spec_reader_number.j1, if_pos rfl]) (Tot.ret ⟨rfl, rfl⟩)
    · simp only [c2, ne_eq, not_false_eq_true, decide_true, Bool.not_true, if_false]
      exact j1_is hs (p + 1 + Fj.digs (D s (p + 1))) (digs_size (p + 1) (by omega))
  · simp only [c1, if_false, Bool.false_eq_true]
    exact j1_is hs p h1
theorem number_is (hs : s.size ≤ 1000000) (p : Nat) (h1 : p ≤ s.size) : Tot (fun k => spec_reader_number.f k s (p : Int)) (Ans s (nN s p)) := by
  unfold spec_reader_number.f nN
  have rest : ∀ q : Nat, q ≤ s.size → Tot (fun k => (spec_reader_take.f s (q : Int) 48).bind fun bt127 => (if bt127.1 = true then (spec_reader_number.j0 k false bt127.2.1 bt127.2.2) else ((spec_reader_digits.f k bt127.2.1 bt127.2.2).bind fun bt130 => (spec_reader_number.j0 k (!bt130.1) bt130.2.1 bt130.2.2)))) (Ans s (nW s q)) := by
    intro q hq
    refine Tot.bind (take_is hs q 48 hq (by decide)) fun r hr => ?_
    subst hr
    unfold nW
    by_cases c1 : bt s (q : Int) = 48
    · have := in_text c1 (by decide)
      simp only [c1, if_true]
      exact j0_is hs (q + 1) (by omega)
    · simp only [c1, if_false, Bool.false_eq_true]
      refine Tot.bind (digits_is hs q hq) fun r hr => ?_
      subst hr
      by_cases c2 : Fj.digs (D s q) = 0
      · simp only [c2, ne_eq, not_true_eq_false, decide_false, Bool.not_false, if_true]
        exact Tot.succ (fun k => by rw [spec_reader_number.j0, if_pos rfl]) (Tot.ret ⟨rfl, rfl⟩)
      · simp only [c2, ne_eq, not_false_eq_true, decide_true, Bool.not_true, if_false]
        exact j0_is hs (q + Fj.digs (D s q)) (digs_size q hq)
  refine Tot.bind (take_is hs p 45 h1 (by decide)) fun r hr => ?_
  subst hr
  by_cases c1 : bt s (p : Int) = 45
  · have := in_text c1 (by decide)
    simp only [c1, if_true]
    exact rest (p + 1) (by omega)
  · simp only [c1, if_false]
    exact rest p h1
/-! Strings. -/
theorem hexd_eq (c : Int) : Fj.hexd c = (hv c).isSome := by
  unfold Fj.hexd hv
  by_cases a : 48 ≤ c ∧ c ≤ 57
  · rw [if_pos a]; simp [a]
  · rw [if_neg a]
    by_cases b : 97 ≤ c ∧ c ≤ 102
    · rw [if_pos b]; simp [a, b]
    · rw [if_neg b]
      by_cases d : 65 ≤ c ∧ c ≤ 70
      · rw [if_pos d]; simp [a, b, d]
      · rw [if_neg d]; simp [a, b, d]
theorem simple8_eq (c : Int) : Fj.simple8 c = true ↔ Simple c := by
  unfold Fj.simple8 Simple
  simp only [Bool.or_eq_true, beq_iff_eq]
def hex4 (s : ByteArray) (p : Nat) : Bool := Fj.hexd (bt s (p : Int)) && (Fj.hexd (bt s ((p + 1 : Nat) : Int)) && (Fj.hexd (bt s ((p + 2 : Nat) : Int)) && Fj.hexd (bt s ((p + 3 : Nat) : Int))))
theorem hexd_in {p : Nat} (h : Fj.hexd (bt s (p : Int)) = true) : p < s.size := by
  refine Nat.lt_of_not_le fun hle => ?_
  rw [bt_out s (p : Int) (by omega)] at h
  exact absurd h (by decide)
theorem quo_at (p : Nat) (h : p < s.size) : Fj.quo (D s p) = if bt s (p : Int) = 34 then some 1 else if bt s (p : Int) < 32 then none else if bt s (p : Int) = 92 then
      (if Fj.simple8 (bt s ((p + 1 : Nat) : Int)) = true then (Fj.quo (D s (p + 2))).map (· + 2) else if bt s ((p + 1 : Nat) : Int) = 117 then (if hex4 s (p + 2) = true then (Fj.quo (D s (p + 6))).map (· + 6) else none) else none)
    else (Fj.quo (D s (p + 1))).map (· + 1) := by
  rw [D_cons p h, Fj.quo.eq_def]
  simp only []
  by_cases c34 : bt s (p : Int) = 34
  · rw [if_pos c34, if_pos c34]
  · rw [if_neg c34, if_neg c34]
    by_cases c32 : bt s (p : Int) < 32
    · rw [if_pos c32, if_pos c32]
    · rw [if_neg c32, if_neg c32]
      by_cases c92 : bt s (p : Int) = 92
      · rw [if_pos c92, if_pos c92]
        by_cases h1 : p + 1 < s.size
        · rw [D_cons (p + 1) h1]
          simp only []
          by_cases k : Fj.simple8 (bt s ((p + 1 : Nat) : Int)) = true
          · rw [if_pos k, if_pos k]
          · rw [if_neg k, if_neg k]
            by_cases u : bt s ((p + 1 : Nat) : Int) = 117
            · rw [if_pos u, if_pos u]
              by_cases h5 : p + 5 < s.size
              · rw [D_cons (p + 1 + 1) (by omega), D_cons (p + 1 + 1 + 1) (by omega), D_cons (p + 1 + 1 + 1 + 1) (by omega), D_cons (p + 1 + 1 + 1 + 1 + 1) (by omega)]
                rfl
              · have hx : hex4 s (p + 2) = false := by
                  cases hh : hex4 s (p + 2) with
                  | false => rfl
                  | true =>
                    unfold hex4 at hh
                    simp only [Bool.and_eq_true] at hh
                    have := hexd_in hh.2.2.2
                    omega
                rw [hx, if_neg (by decide)]
                have hl : (D s (p + 1 + 1)).length < 4 := by rw [D_len]; omega
                match hD : D s (p + 1 + 1), hl with
                | [], _ => rfl
                | [_], _ => rfl
                | [_, _], _ => rfl
                | [_, _, _], _ => rfl
            · rw [if_neg u, if_neg u]
        · have hz : bt s ((p + 1 : Nat) : Int) = 0 := bt_out s _ (by omega)
          rw [D_nil (p + 1) (by omega), hz]
          rfl
      · rw [if_neg c92, if_neg c92]
theorem Ans.shift {o : Option Nat} {p n : Nat} {r : Bool × ByteArray × Int} (h : Ans s (o.map (p + n + ·)) r) : Ans s ((o.map (· + n)).map (p + ·)) r := by
  cases o with
  | none => exact h
  | some e =>
    have e1 : p + (e + n) = p + n + e := by omega
    simp only [Option.map_some] at h ⊢
    rw [e1]
    exact h
theorem quoted_is (hs : s.size ≤ 1000000) : ∀ (m p : Nat), s.size - p ≤ m → Tot (fun k => spec_reader_quoted.l0 k s (p : Int)) (Ans s ((Fj.quo (D s p)).map (p + ·)))
  | m, p, hm => by
    by_cases c : p < s.size
    · cases m with
      | zero => omega
      | succ m =>
        refine Tot.succ (fun k => by rw [spec_reader_quoted.l0, if_pos (by omega), if_pos (by omega), w64 (i := (p : Int) + 1) (by omega) (by omega)]) ?_
        rw [quo_at p c]
        refine Tot.ite (fun c34 => Tot.ret ?_) fun c34 => Tot.ite (fun c32 => Tot.ret ?_) fun c32 => Tot.ite (fun c92 => ?_) (fun c92 => ?_)
        · rw [if_pos c34]; exact ⟨rfl, rfl, rfl, show p + 1 ≤ s.size by omega⟩
        · rw [if_neg c34, if_pos c32]; exact ⟨rfl, rfl⟩
        · rw [if_neg c34, if_neg c32, if_pos c92]
          by_cases c4 : Simple (bt s ((p + 1 : Nat) : Int))
          · rw [if_pos ((simple8_eq _).mpr c4)]
            refine Tot.bind (f := fun k => spec_reader_escape.f k s ((p : Int) + 1)) (Q := fun r => r = (true, s, (p : Int) + 1 + 1)) ⟨_, (Ev.ge 1).mp fun k hk => escape_simple k hk s ((p : Int) + 1) (by omega) (by omega) c4, rfl⟩ fun r hr => ?_
            subst hr
            simp only [if_true]
            exact (quoted_is hs m (p + 2) (by omega)).mono fun r h => h.shift
          · rw [if_neg (fun x => c4 ((simple8_eq _).mp x))]
            by_cases c5 : bt s ((p + 1 : Nat) : Int) = 117
            · rw [if_pos c5]
              have e4 : hex4 s (p + 2) = (h4 (hv (bt s ((p : Int) + 1 + 1))) (hv (bt s ((p : Int) + 1 + 2))) (hv (bt s ((p : Int) + 1 + 3))) (hv (bt s ((p : Int) + 1 + 4)))).isSome := by
                unfold hex4 h4
                rw [hexd_eq, hexd_eq, hexd_eq, hexd_eq]
                have x1 : ((p + 2 : Nat) : Int) = (p : Int) + 1 + 1 := by omega
                have x2 : ((p + 2 + 1 : Nat) : Int) = (p : Int) + 1 + 2 := by omega
                have x3 : ((p + 2 + 2 : Nat) : Int) = (p : Int) + 1 + 3 := by omega
                have x4 : ((p + 2 + 3 : Nat) : Int) = (p : Int) + 1 + 4 := by omega
                rw [x1, x2, x3, x4]
                cases hv (bt s ((p : Int) + 1 + 1)) <;> cases hv (bt s ((p : Int) + 1 + 2)) <;> cases hv (bt s ((p : Int) + 1 + 3)) <;> cases hv (bt s ((p : Int) + 1 + 4)) <;> rfl
              rw [e4]
              by_cases c6 : (h4 (hv (bt s ((p : Int) + 1 + 1))) (hv (bt s ((p : Int) + 1 + 2))) (hv (bt s ((p : Int) + 1 + 3))) (hv (bt s ((p : Int) + 1 + 4)))).isSome = true
              · rw [if_pos c6]
                refine Tot.bind (f := fun k => spec_reader_escape.f k s ((p : Int) + 1)) (Q := fun r => r = (true, s, (p : Int) + 1 + 5)) ⟨_, (Ev.ge 12).mp fun k hk => by
                  obtain ⟨q, hq⟩ := escape_u k hk s ((p : Int) + 1) (by omega) (by omega) (show bt s ((p : Int) + 1) = 117 from c5)
                  rw [if_pos c6] at hq
                  exact hq, rfl⟩ fun r hr => ?_
                subst hr
                simp only [if_true]
                have e6 : (p : Int) + 1 + 5 = ((p + 6 : Nat) : Int) := by omega
                rw [e6]
                exact (quoted_is hs m (p + 6) (by omega)).mono fun r h => h.shift
              · rw [if_neg c6]
                obtain ⟨q, hq⟩ := escape_u 12 (by omega) s ((p : Int) + 1) (by omega) (by omega) (show bt s ((p : Int) + 1) = 117 from c5)
                rw [if_neg c6] at hq
                refine Tot.bind (f := fun k => spec_reader_escape.f k s ((p : Int) + 1)) (Q := fun r => r = (false, s, q)) ⟨_, (Ev.ge 12).mp fun k hk => by
                  obtain ⟨j, rfl⟩ : ∃ j, k = 12 + j := ⟨k - 12, by omega⟩
                  exact tot_lift (f := fun k => spec_reader_escape.f k s ((p : Int) + 1)) (fun k => spec_reader_escape.mono s ((p : Int) + 1) k) hq j, rfl⟩ fun r hr => ?_
                subst hr
                exact Tot.ret ⟨rfl, rfl⟩
            · rw [if_neg c5]
              refine Tot.bind (f := fun k => spec_reader_escape.f k s ((p : Int) + 1)) (Q := fun r => r = (false, s, (p : Int) + 1)) ⟨_, (Ev.ge 1).mp fun k hk => escape_else k hk s ((p : Int) + 1) (by omega) (by omega) c4 c5, rfl⟩ fun r hr => ?_
              subst hr
              exact Tot.ret ⟨rfl, rfl⟩
        · rw [if_neg c34, if_neg c32, if_neg c92]
          exact (quoted_is hs m (p + 1) (by omega)).mono fun r h => h.shift
    · rw [D_nil p (by omega), show Fj.quo [] = none by rw [Fj.quo.eq_def]]
      exact Tot.succ (fun k => by rw [spec_reader_quoted.l0, if_neg (by omega)]) (Tot.ret (r := (false, s, (p : Int))) ⟨rfl, rfl⟩)
end Go.Proofs.Ytlllokmipeoelaa.ReadXFnPrSpec
end
section
namespace Go.Proofs.Ytlllokmipeoelaa.ReadXFnPrSpec
open Go.RowKit Go.Proofs.Ytlllokmipeoelaa.Base Go.Proofs.Ytlllokmipeoelaa.XFnPrSpec Go.Proofs.YtlllokmipeoelaaW.PrintWords Go.Proofs.YtlllokmipeoelaaW.PrintLast
set_option linter.unusedVariables false
set_option linter.unusedSimpArgs false
variable {s : ByteArray}
theorem begins_head {x : Int} {w l : List Int} (h : Fj.begins (x :: w) l = true) : rd l 0 = x := by
  unfold Fj.begins at h
  rw [beq_iff_eq] at h
  cases l with
  | nil => simp at h
  | cons c r =>
    simp only [List.length_cons, List.take_succ_cons, List.cons.injEq] at h
    exact h.1
theorem begins_len {w l : List Int} (h : Fj.begins w l = true) : w.length ≤ l.length := by
  unfold Fj.begins at h
  rw [beq_iff_eq] at h
  have := congrArg List.length h
  rw [List.length_take] at this
  omega
theorem word_is (hs : s.size ≤ 1000000) (p : Nat) (x : ByteArray) (h1 : p ≤ s.size) (hx0 : 1 ≤ x.size) (hx1 : x.size ≤ 100) :
    Tot (fun _ => spec_reader_word.f s (p : Int) x) (fun r => r = if Fj.begins (bytesOf x) (D s p) = true then (true, s, ((p + x.size : Nat) : Int)) else (false, s, (p : Int))) := by
  unfold spec_reader_word.f
  rw [w64 (i := (s.size : Int) - (p : Int)) (by omega) (by omega), w64 (i := (p : Int) + (x.size : Int)) (by omega) (by omega)]
  have hb : Fj.begins (bytesOf x) (D s p) = true ↔ (D s p).take x.size = bytesOf x := by
    unfold Fj.begins
    rw [beq_iff_eq, bytesOf_length]
  by_cases c1 : (s.size : Int) - (p : Int) < x.size
  · have hn : ¬ Fj.begins (bytesOf x) (D s p) = true := fun h => by
      have := begins_len h
      rw [bytesOf_length, D_len] at this
      omega
    exact Tot.eq (fun _ => by rw [if_pos c1]) (by rw [if_neg hn])
  · have he : (s.extract ((p : Nat) : Int).toNat ((p : Int) + (x.size : Int)).toNat).toList = x.toList ↔ (D s p).take x.size = bytesOf x := by
      rw [show ((p : Int) + (x.size : Int)).toNat = p + x.size by omega, Int.toNat_natCast]
      have e2 : bytesOf (s.extract p (p + x.size)) = (D s p).take x.size := by
        unfold D bytesOf
        rw [ByteArray.data_extract, Array.toList_extract]
        simp [List.map_drop, List.map_take, List.extract_eq_take_drop]
      constructor
      · intro h
        rw [← e2, toList_inj h]
      · intro h
        rw [← e2] at h
        rw [bytes_inj h]
    by_cases c2 : (s.extract ((p : Nat) : Int).toNat ((p : Int) + (x.size : Int)).toNat).toList = x.toList
    · exact Tot.eq (fun _ => by rw [if_neg c1, if_pos (by omega), if_pos (by omega), if_pos (by omega), if_pos c2]) (by rw [if_pos (hb.mpr (he.mp c2))]; rfl)
    · exact Tot.eq (fun _ => by rw [if_neg c1, if_pos (by omega), if_pos (by omega), if_pos (by omega), if_neg c2]) (by rw [if_neg (fun h => c2 (he.mpr (hb.mp h)))])
theorem begins_in {w : List Int} {p : Nat} (h1 : p ≤ s.size) (h : Fj.begins w (D s p) = true) : p + w.length ≤ s.size := by
  have := begins_len h
  rw [D_len] at this
  omega
end Go.Proofs.Ytlllokmipeoelaa.ReadXFnPrSpec
end
section
namespace Go.Proofs.Ytlllokmipeoelaa.ReadXFnPrSpec
open Go.RowKit Go.Proofs.Ytlllokmipeoelaa.Base Go.Proofs.Ytlllokmipeoelaa.XFnPrSpec Go.Proofs.YtlllokmipeoelaaW.PrintWords Go.Proofs.YtlllokmipeoelaaW.PrintLast
set_option linter.unusedVariables false
set_option linter.unusedSimpArgs false
abbrev SP := S46
abbrev PL := S37
/-- Behind the blanks. -/
def nb (s : ByteArray) (p : Nat) : Nat := p + Fj.ws (D s p)
def qE (s : ByteArray) (p : Nat) : Option Nat := (Fj.quo (D s p)).map (p + ·)
def wordk (s : ByteArray) (p : Nat) : Option (Int × Nat) :=
  if Fj.begins [110, 117, 108, 108] (D s p) = true then some (0, p + 4) else if Fj.begins [102, 97, 108, 115, 101] (D s p) = true then some (1, p + 5) else if Fj.begins [116, 114, 117, 101] (D s p) = true then some (2, p + 4) else none
mutual
/-- The value at a place, and where it ends. -/
def tV (s : ByteArray) : Nat → Nat → Option (PL × Nat)
  | 0, _ => none
  | f + 1, p =>
    if bt s (p : Int) = 123 then (if bt s (nb s (p + 1) : Int) = 125 then some (⟨6, (p : Int), ((nb s (p + 1) + 1 : Nat) : Int), [], []⟩, nb s (p + 1) + 1) else match tM s f (nb s (p + 1)) with
      | none => none
      | some r => some (⟨6, (p : Int), (r.2.2 : Int), r.1, r.2.1⟩, r.2.2))
    else if bt s (p : Int) = 91 then (if bt s (nb s (p + 1) : Int) = 93 then some (⟨5, (p : Int), ((nb s (p + 1) + 1 : Nat) : Int), [], []⟩, nb s (p + 1) + 1) else match tE s f (nb s (p + 1)) with
      | none => none
      | some r => some (⟨5, (p : Int), (r.2 : Int), [], r.1⟩, r.2))
    else if bt s (p : Int) = 34 then (match qE s (p + 1) with | none => none | some e => some (⟨4, (p : Int), (e : Int), [], []⟩, e))
    else if bt s (p : Int) = 45 ∨ (48 ≤ bt s (p : Int) ∧ bt s (p : Int) ≤ 57) then (match nN s p with | none => none | some e => some (⟨3, (p : Int), (e : Int), [], []⟩, e))
    else match wordk s p with | none => none | some r => some (⟨r.1, (p : Int), (r.2 : Int), [], []⟩, r.2)
/-- The elements from a place on, and what is behind the bracket that closes the array. -/
def tE (s : ByteArray) : Nat → Nat → Option (List PL × Nat)
  | 0, _ => none
  | f + 1, q => match tV s f q with
    | none => none
    | some v => if bt s (nb s v.2 : Int) = 93 then some ([v.1], nb s v.2 + 1) else if bt s (nb s v.2 : Int) = 44 then (match tE s f (nb s (nb s v.2 + 1)) with | none => none | some r => some (v.1 :: r.1, r.2)) else none
/-- The members. -/
def tM (s : ByteArray) : Nat → Nat → Option (List SP × List PL × Nat)
  | 0, _ => none
  | f + 1, q => if bt s (q : Int) = 34 then match qE s (q + 1) with
      | none => none
      | some b => if bt s (nb s b : Int) = 58 then match tV s f (nb s (nb s b + 1)) with
          | none => none
          | some v => if bt s (nb s v.2 : Int) = 125 then some ([⟨(q : Int), (b : Int)⟩], [v.1], nb s v.2 + 1) else if bt s (nb s v.2 : Int) = 44 then (match tM s f (nb s (nb s v.2 + 1)) with | none => none | some r => some (⟨(q : Int), (b : Int)⟩ :: r.1, v.1 :: r.2.1, r.2.2)) else none
        else none
    else none
end
variable {s : ByteArray}
theorem nb_ge (p : Nat) : p ≤ nb s p := by unfold nb; omega
theorem nb_le (p : Nat) (h : p ≤ s.size) : nb s p ≤ s.size := by
  unfold nb
  have := Fj.ws_le (D s p)
  rw [D_len] at this
  omega
theorem blanks_nb (hs : s.size ≤ 1000000) (p : Nat) (h1 : p ≤ s.size) : Tot (fun k => spec_reader_blanks.f k s (p : Int)) (fun r => r = (s, (nb s p : Int))) := blanks_is hs p h1
def AnsV' (s : ByteArray) (p : Nat) (o : Option (PL × Nat)) (r : Int × Int × Int × (List SP) × (List PL) × Bool × ByteArray × Int) : Prop := match o with
  | some v => r = (v.1.f0, v.1.f1, v.1.f2, v.1.f3, v.1.f4, true, s, (v.2 : Int)) ∧ p < v.2 ∧ v.2 ≤ s.size
  | none => r.2.2.2.2.2.1 = false ∧ r.2.2.2.2.2.2.1 = s
def AnsE' (s : ByteArray) (p : Nat) (ys : List PL) (o : Option (List PL × Nat)) (r : (List PL) × Bool × ByteArray × Int) : Prop := match o with
  | some v => r = (ys ++ v.1, true, s, (v.2 : Int)) ∧ p < v.2 ∧ v.2 ≤ s.size
  | none => r.2.1 = false ∧ r.2.2.1 = s
def AnsM' (s : ByteArray) (p : Nat) (xs : List SP) (ys : List PL) (o : Option (List SP × List PL × Nat)) (r : (List SP) × (List PL) × Bool × ByteArray × Int) : Prop := match o with
  | some v => r = (xs ++ v.1, ys ++ v.2.1, true, s, (v.2.2 : Int)) ∧ p < v.2.2 ∧ v.2.2 ≤ s.size
  | none => r.2.2.1 = false ∧ r.2.2.2.1 = s
def VT (s : ByteArray) (n : Nat) : Prop := ∀ p : Nat, p ≤ s.size → s.size - p < n → ∀ f, 2 * n + 1 ≤ f → Tot (fun k => spec_reader_value.f k s (p : Int)) (AnsV' s p (tV s f p))
def ET (s : ByteArray) (n : Nat) : Prop := ∀ (q : Nat) ys, q ≤ s.size → s.size - q < n → ∀ f, 2 * n + 2 ≤ f → ys.length ≤ q → Tot (fun k => spec_reader_elements.l0 k ys s (q : Int)) (AnsE' s q ys (tE s f q))
def MT (s : ByteArray) (n : Nat) : Prop := ∀ (q : Nat) xs ys, q ≤ s.size → s.size - q < n → ∀ f, 2 * n + 2 ≤ f → xs.length ≤ q → ys.length ≤ q → Tot (fun k => spec_reader_members.l0 k xs ys s (q : Int)) (AnsM' s q xs ys (tM s f q))
theorem ele_tree (hs : s.size ≤ 1000000) {n : Nat} (hV : VT s (n + 1)) (hE : ET s n) : ET s (n + 1) := by
  intro q ys h1 hn f hf hy
  obtain ⟨f, rfl⟩ : ∃ g, f = g + 1 := ⟨f - 1, by omega⟩
  refine Tot.succ (fun k => by rw [spec_reader_elements.l0]) ?_
  refine Tot.bind (hV q h1 (by omega) f (by omega)) fun r hr => ?_
  rw [tE]
  cases hv : tV s f q with
  | none =>
    rw [hv] at hr
    obtain ⟨h2, h3⟩ := hr
    refine Tot.ite (fun c => ?_) fun c => Tot.ret ⟨rfl, h3⟩
    rw [h2] at c; cases c
  | some v =>
    rw [hv] at hr
    obtain ⟨rfl, h2, h3⟩ := hr
    obtain ⟨⟨v0, v1, v2, v3, v4⟩, y⟩ := v
    simp only [] at h2 h3 ⊢
    refine Tot.ite (fun _ => ?_) fun c => absurd trivial c
    refine Tot.ite (fun _ => ?_) fun c => absurd (show ys.length < 1954687338268 by omega) c
    simp only [Option.bind_some]
    have hu := nb_le y h3
    have huy := nb_ge (s := s) y
    refine Tot.bind (blanks_nb hs y h3) fun r hr => ?_
    subst hr
    refine Tot.bind (take_is hs (nb s y) 93 hu (by decide)) fun r hr => ?_
    subst hr
    by_cases c1 : bt s (nb s y : Int) = 93
    · have hin := in_text c1 (by decide)
      rw [if_pos c1]
      simp only [c1, if_true]
      exact Tot.ret ⟨rfl, by show q < nb s y + 1; omega, hin⟩
    · rw [if_neg c1]
      simp only [c1, if_false, Bool.false_eq_true]
      refine Tot.bind (take_is hs (nb s y) 44 hu (by decide)) fun r hr => ?_
      subst hr
      by_cases c2 : bt s (nb s y : Int) = 44
      · have hin := in_text c2 (by decide)
        rw [if_pos c2]
        simp only [c2, if_true]
        refine Tot.bind (blanks_nb hs (nb s y + 1) (by omega)) fun r hr => ?_
        subst hr
        have h4 := nb_ge (s := s) (nb s y + 1)
        have h5 := nb_le (s := s) (nb s y + 1) (by omega)
        refine (hE (nb s (nb s y + 1)) (ys ++ [⟨v0, v1, v2, v3, v4⟩]) h5 (by omega) f (by omega) (by rw [List.length_append]; simp; omega)).mono fun r h => ?_
        cases he : tE s f (nb s (nb s y + 1)) with
        | none => rw [he] at h; exact h
        | some w =>
          rw [he] at h
          obtain ⟨h6, h7, h8⟩ := h
          refine ⟨?_, by show q < w.2; omega, h8⟩
          rw [h6]
          simp
      · rw [if_neg c2]
        simp only [c2, if_false, Bool.false_eq_true]
        exact Tot.ret ⟨rfl, rfl⟩
theorem mem_tree (hs : s.size ≤ 1000000) {n : Nat} (hV : VT s (n + 1)) (hM : MT s n) : MT s (n + 1) := by
  intro q xs ys h1 hn f hf hx hy
  obtain ⟨f, rfl⟩ : ∃ g, f = g + 1 := ⟨f - 1, by omega⟩
  have bad : ∀ e : Int, Tot (fun k => spec_reader_members.j1 k xs ys (q : Int) true s e) (AnsM' s q xs ys none) := fun e =>
    Tot.succ (fun k => by rw [spec_reader_members.j1, if_pos rfl]) (Tot.ret ⟨rfl, rfl⟩)
  rw [tM]
  refine Tot.succ (fun k => by rw [spec_reader_members.l0]) ?_
  refine Tot.bind (here_tot hs (q : Int) (by omega)) fun r hr => ?_
  subst hr
  refine Tot.ite (fun c => ?_) fun c => ?_
  rotate_left
  · rw [if_neg c]; exact bad _
  rw [if_pos c]
  have hin := in_text (s := s) (p := q) c (by decide)
  refine Tot.bind (f := fun k => spec_reader_quoted.f k s (q : Int)) (Q := Ans s (qE s (q + 1))) ?_ fun r hr => ?_
  · unfold spec_reader_quoted.f
    rw [w64 (by omega) (by omega)]
    exact quoted_is hs s.size (q + 1) (by omega)
  obtain ⟨b, t, e⟩ := r
  obtain ⟨ht, hm⟩ := hr
  simp only [] at ht hm ⊢
  subst ht
  have hqe : ∀ b, qE t (q + 1) = some b → q + 1 ≤ b := fun b h => by
    obtain ⟨x, _, rfl⟩ := Option.map_eq_some_iff.mp h
    omega
  cases hqu : qE t (q + 1) with
  | none =>
    rw [hqu] at hm
    subst hm
    exact bad _
  | some b =>
    rw [hqu] at hm
    obtain ⟨m1, m2, m3⟩ := hm
    have hqb := hqe b hqu
    simp only [] at m1 m2 m3 ⊢
    subst m1 m2
    have hzl := nb_le b m3
    have hzg := nb_ge (s := t) b
    refine Tot.succ (fun k => by rw [Bool.not_true, spec_reader_members.j1, if_neg (by decide), if_pos (show xs.length < 8796093022208 by omega), Option.bind_some]) ?_
    refine Tot.bind (blanks_nb hs b m3) fun r hr => ?_
    subst hr
    refine Tot.bind (take_is hs (nb t b) 58 hzl (by decide)) fun r hr => ?_
    subst hr
    by_cases c1 : bt t (nb t b : Int) = 58
    · have hin1 := in_text c1 (by decide)
      rw [if_pos c1]
      simp only [c1, if_true]
      refine Tot.bind (blanks_nb hs (nb t b + 1) (by omega)) fun r hr => ?_
      subst hr
      have hal := nb_le (s := t) (nb t b + 1) (by omega)
      have hag := nb_ge (s := t) (nb t b + 1)
      generalize hA : nb t (nb t b + 1) = A at *
      refine Tot.bind (hV A hal (by omega) f (by omega)) fun r hr => ?_
      cases hv : tV t f A with
      | none =>
        rw [hv] at hr
        obtain ⟨h2, h3⟩ := hr
        refine Tot.ite (fun c => ?_) fun c => Tot.ret ⟨rfl, h3⟩
        rw [h2] at c; cases c
      | some v =>
        rw [hv] at hr
        obtain ⟨rfl, h2, h3⟩ := hr
        obtain ⟨⟨v0, v1, v2, v3, v4⟩, y⟩ := v
        simp only [] at h2 h3 ⊢
        refine Tot.ite (fun _ => ?_) fun c => absurd trivial c
        refine Tot.ite (fun _ => ?_) fun c => absurd (show ys.length < 1954687338268 by omega) c
        simp only [Option.bind_some]
        have hu := nb_le y h3
        have huy := nb_ge (s := t) y
        refine Tot.bind (blanks_nb hs y h3) fun r hr => ?_
        subst hr
        refine Tot.bind (take_is hs (nb t y) 125 hu (by decide)) fun r hr => ?_
        subst hr
        by_cases c3 : bt t (nb t y : Int) = 125
        · have hin2 := in_text c3 (by decide)
          rw [if_pos c3]
          simp only [c3, if_true]
          exact Tot.ret ⟨rfl, by show q < nb t y + 1; omega, hin2⟩
        · rw [if_neg c3]
          simp only [c3, if_false, Bool.false_eq_true]
          refine Tot.bind (take_is hs (nb t y) 44 hu (by decide)) fun r hr => ?_
          subst hr
          by_cases c4 : bt t (nb t y : Int) = 44
          · have hin2 := in_text c4 (by decide)
            rw [if_pos c4]
            simp only [c4, if_true]
            refine Tot.bind (blanks_nb hs (nb t y + 1) (by omega)) fun r hr => ?_
            subst hr
            have h4 := nb_ge (s := t) (nb t y + 1)
            have h5 := nb_le (s := t) (nb t y + 1) (by omega)
            refine (hM (nb t (nb t y + 1)) (xs ++ [⟨(q : Int), (b : Int)⟩]) (ys ++ [⟨v0, v1, v2, v3, v4⟩]) h5 (by omega) f (by omega) (by rw [List.length_append]; simp; omega) (by rw [List.length_append]; simp; omega)).mono fun r h => ?_
            cases he : tM t f (nb t (nb t y + 1)) with
            | none => rw [he] at h; exact h
            | some w =>
              rw [he] at h
              obtain ⟨h6, h7, h8⟩ := h
              refine ⟨?_, by show q < w.2.2; omega, h8⟩
              rw [h6]
              simp
          · rw [if_neg c4]
            simp only [c4, if_false, Bool.false_eq_true]
            exact Tot.ret ⟨rfl, rfl⟩
    · rw [if_neg c1]
      simp only [c1, if_false, Bool.false_eq_true]
      exact Tot.ret ⟨rfl, rfl⟩
theorem num_gt {p e : Nat} (h : nN s p = some e) : p < e := by
  unfold nN nW nF nX nE at h
  repeat' split at h
  all_goals first
    | (cases h; done)
    | (obtain rfl := Option.some.inj h; omega)
theorem wordk_gt {p : Nat} {r : Int × Nat} (h : wordk s p = some r) : p < r.2 := by
  unfold wordk at h
  repeat' split at h
  all_goals first
    | (cases h; done)
    | (obtain rfl := Option.some.inj h; show p < _; omega)
theorem vnum_tree (hs : s.size ≤ 1000000) (p : Nat) (c : Int) (h1 : p ≤ s.size) : Tot (fun k => spec_reader_value.j0 k true true s (p : Int) 0 (p : Int) c) (AnsV' s p (match nN s p with | none => none | some e => some (⟨3, (p : Int), (e : Int), [], []⟩, e))) := by
  refine Tot.succ (fun k => by rw [spec_reader_value.j0, if_pos rfl]) ?_
  refine Tot.bind (number_is hs p h1) fun r hr => Tot.ret ?_
  obtain ⟨b, t, e⟩ := r
  obtain ⟨h2, h3⟩ := hr
  simp only [] at h2 h3
  cases hn : nN s p with
  | none => rw [hn] at h3; exact ⟨h3, h2⟩
  | some m =>
    rw [hn] at h3
    obtain ⟨h4, h5, h6⟩ := h3
    subst h2 h4 h5
    exact ⟨rfl, num_gt hn, h6⟩
theorem vword_tree (hs : s.size ≤ 1000000) (p : Nat) (c : Int) (h1 : p ≤ s.size) : Tot (fun k => spec_reader_value.j0 k true false s (p : Int) 0 (p : Int) c) (AnsV' s p (match wordk s p with | none => none | some r => some (⟨r.1, (p : Int), (r.2 : Int), [], []⟩, r.2))) := by
  refine Tot.succ (fun k => by rw [spec_reader_value.j0, if_neg (by decide)]) ?_
  unfold wordk
  refine Tot.bind (word_is hs p ⟨#[110, 117, 108, 108]⟩ h1 (by decide) (by decide)) fun r hr => ?_
  subst hr
  rw [show bytesOf ⟨#[110, 117, 108, 108]⟩ = [110, 117, 108, 108] from rfl]
  by_cases k1 : Fj.begins [110, 117, 108, 108] (D s p) = true
  · simp only [k1, if_true]
    exact Tot.ret ⟨rfl, by show p < p + 4; omega, begins_in h1 k1⟩
  · simp only [k1, if_false, Bool.false_eq_true]
    refine Tot.bind (word_is hs p ⟨#[102, 97, 108, 115, 101]⟩ h1 (by decide) (by decide)) fun r hr => ?_
    subst hr
    rw [show bytesOf ⟨#[102, 97, 108, 115, 101]⟩ = [102, 97, 108, 115, 101] from rfl]
    by_cases k2 : Fj.begins [102, 97, 108, 115, 101] (D s p) = true
    · simp only [k2, if_true]
      exact Tot.ret ⟨rfl, by show p < p + 5; omega, begins_in h1 k2⟩
    · simp only [k2, if_false, Bool.false_eq_true]
      refine Tot.bind (word_is hs p ⟨#[116, 114, 117, 101]⟩ h1 (by decide) (by decide)) fun r hr => ?_
      subst hr
      rw [show bytesOf ⟨#[116, 114, 117, 101]⟩ = [116, 114, 117, 101] from rfl]
      by_cases k3 : Fj.begins [116, 114, 117, 101] (D s p) = true
      · simp only [k3, if_true]
        exact Tot.ret ⟨rfl, by show p < p + 4; omega, begins_in h1 k3⟩
      · simp only [k3, if_false, Bool.false_eq_true]
        exact Tot.ret ⟨rfl, rfl⟩
theorem val_tree (hs : s.size ≤ 1000000) {n : Nat} (hM : MT s n) (hE : ET s n) : VT s (n + 1) := by
  intro p h1 hn f hf
  obtain ⟨f, rfl⟩ : ∃ g, f = g + 1 := ⟨f - 1, by omega⟩
  refine Tot.succ (fun k => by rw [spec_reader_value.f]) ?_
  refine Tot.bind (here_tot hs (p : Int) (by omega)) fun r hr => ?_
  subst hr
  simp only []
  rw [tV]
  refine Tot.ite (fun c => ?_) fun c1 => Tot.ite (fun c => ?_) fun c2 => Tot.ite (fun c => ?_) fun c3 => Tot.ite (fun c => ?_) fun c4 => Tot.ite (fun c => ?_) fun c5 => ?_
  · have hp := in_text c (by decide)
    rw [if_pos c]
    have hq := nb_le (s := s) (p + 1) (by omega)
    have hg := nb_ge (s := s) (p + 1)
    obtain ⟨f, rfl⟩ : ∃ g, f = g + 1 := ⟨f - 1, by omega⟩
    refine Tot.bind (Q := fun r => AnsM' s p [] [] (if bt s (nb s (p + 1) : Int) = 125 then some ([], [], nb s (p + 1) + 1) else tM s (f + 1) (nb s (p + 1))) r) (Tot.succ (fun k => by rw [spec_reader_members.f, w64 (i := (p : Int) + 1) (by omega) (by omega)]) ?_) fun r hr => Tot.ret ?_
    · refine Tot.bind (blanks_nb hs (p + 1) (by omega)) fun r hr => ?_
      subst hr
      refine Tot.bind (take_is hs (nb s (p + 1)) 125 hq (by decide)) fun r hr => ?_
      subst hr
      by_cases c : bt s (nb s (p + 1) : Int) = 125
      · have hin := in_text c (by decide)
        simp only [c, if_true]
        exact Tot.ret ⟨rfl, by show p < nb s (p + 1) + 1; omega, hin⟩
      · simp only [c, if_false, Bool.false_eq_true]
        refine (hM (nb s (p + 1)) [] [] hq (by omega) (f + 1) (by omega) (by simp) (by simp)).mono fun r h => ?_
        cases hm : tM s (f + 1) (nb s (p + 1)) with
        | none => rw [hm] at h; exact h
        | some w => rw [hm] at h; exact ⟨h.1, Nat.lt_of_lt_of_le (by omega : p < nb s (p + 1)) (Nat.le_of_lt h.2.1), h.2.2⟩
    · by_cases c : bt s (nb s (p + 1) : Int) = 125
      · rw [if_pos c] at hr ⊢
        obtain ⟨rfl, h2, h3⟩ := hr
        exact ⟨rfl, h2, h3⟩
      · rw [if_neg c] at hr ⊢
        cases hm : tM s (f + 1) (nb s (p + 1)) with
        | none => rw [hm] at hr; exact hr
        | some w =>
          rw [hm] at hr
          obtain ⟨rfl, h2, h3⟩ := hr
          exact ⟨rfl, h2, h3⟩
  · have hp := in_text c (by decide)
    rw [if_neg c1, if_pos c]
    have hq := nb_le (s := s) (p + 1) (by omega)
    have hg := nb_ge (s := s) (p + 1)
    obtain ⟨f, rfl⟩ : ∃ g, f = g + 1 := ⟨f - 1, by omega⟩
    refine Tot.bind (Q := fun r => AnsE' s p [] (if bt s (nb s (p + 1) : Int) = 93 then some ([], nb s (p + 1) + 1) else tE s (f + 1) (nb s (p + 1))) r) (Tot.succ (fun k => by rw [spec_reader_elements.f, w64 (i := (p : Int) + 1) (by omega) (by omega)]) ?_) fun r hr => Tot.ret ?_
    · refine Tot.bind (blanks_nb hs (p + 1) (by omega)) fun r hr => ?_
      subst hr
      refine Tot.bind (take_is hs (nb s (p + 1)) 93 hq (by decide)) fun r hr => ?_
      subst hr
      by_cases c : bt s (nb s (p + 1) : Int) = 93
      · have hin := in_text c (by decide)
        simp only [c, if_true]
        exact Tot.ret ⟨rfl, by show p < nb s (p + 1) + 1; omega, hin⟩
      · simp only [c, if_false, Bool.false_eq_true]
        refine (hE (nb s (p + 1)) [] hq (by omega) (f + 1) (by omega) (by simp)).mono fun r h => ?_
        cases hm : tE s (f + 1) (nb s (p + 1)) with
        | none => rw [hm] at h; exact h
        | some w => rw [hm] at h; exact ⟨h.1, Nat.lt_of_lt_of_le (by omega : p < nb s (p + 1)) (Nat.le_of_lt h.2.1), h.2.2⟩
    · by_cases c : bt s (nb s (p + 1) : Int) = 93
      · rw [if_pos c] at hr ⊢
        obtain ⟨rfl, h2, h3⟩ := hr
        exact ⟨rfl, h2, h3⟩
      · rw [if_neg c] at hr ⊢
        cases hm : tE s (f + 1) (nb s (p + 1)) with
        | none => rw [hm] at hr; exact hr
        | some w =>
          rw [hm] at hr
          obtain ⟨rfl, h2, h3⟩ := hr
          exact ⟨rfl, h2, h3⟩
  · have hp := in_text c (by decide)
    rw [if_neg c1, if_neg c2, if_pos c]
    refine Tot.bind (f := fun k => spec_reader_quoted.f k s (p : Int)) (Q := Ans s (qE s (p + 1))) ?_ fun r hr => Tot.ret ?_
    · unfold spec_reader_quoted.f
      rw [w64 (by omega) (by omega)]
      exact quoted_is hs s.size (p + 1) (by omega)
    · obtain ⟨b, t, e⟩ := r
      obtain ⟨h2, h3⟩ := hr
      simp only [] at h2 h3
      cases hq : qE s (p + 1) with
      | none => rw [hq] at h3; exact ⟨h3, h2⟩
      | some m =>
        rw [hq] at h3
        obtain ⟨h4, h5, h6⟩ := h3
        subst h2 h4 h5
        obtain ⟨x, _, rfl⟩ := Option.map_eq_some_iff.mp hq
        exact ⟨rfl, by show p < p + 1 + x; omega, h6⟩
  · rw [if_neg c1, if_neg c2, if_neg c3, if_pos (.inl c)]
    exact vnum_tree hs p _ h1
  · by_cases c6 : bt s (p : Int) ≤ 57
    · rw [decide_eq_true c6, if_neg c1, if_neg c2, if_neg c3, if_pos (.inr ⟨c, c6⟩)]
      exact vnum_tree hs p _ h1
    · rw [decide_eq_false c6, if_neg c1, if_neg c2, if_neg c3, if_neg (fun h => h.elim c4 fun x => c6 x.2)]
      exact vword_tree hs p _ h1
  · rw [if_neg c1, if_neg c2, if_neg c3, if_neg (fun h => h.elim c4 fun x => c5 x.1)]
    exact vword_tree hs p _ h1
theorem all_tree (hs : s.size ≤ 1000000) : ∀ n : Nat, VT s n ∧ MT s n ∧ ET s n
  | 0 => ⟨fun p _ h => by omega, fun p _ _ _ h => by omega, fun p _ _ h => by omega⟩
  | n + 1 => by
    obtain ⟨hV, hM, hE⟩ := all_tree hs n
    have hV1 := val_tree hs hM hE
    exact ⟨hV1, mem_tree hs hV1 hM, ele_tree hs hV1 hE⟩
/-- The reader of a value at a place. -/
theorem value_tree (hs : s.size ≤ 1000000) (p : Nat) (h1 : p ≤ s.size) (f : Nat) (hf : 2 * s.size + 3 ≤ f) : Tot (fun k => spec_reader_value.f k s (p : Int)) (AnsV' s p (tV s f p)) :=
  (all_tree hs (s.size + 1)).1 p h1 (by omega) f (by omega)
end Go.Proofs.Ytlllokmipeoelaa.ReadXFnPrSpec
end
section
namespace Go.Proofs.Ytlllokmipeoelaa.ReadXFnPrSpec
open Go.RowKit Go.Proofs.Ytlllokmipeoelaa.Base Go.Proofs.Ytlllokmipeoelaa.XFnPrSpec Go.Proofs.YtlllokmipeoelaaW.PrintWords Go.Proofs.YtlllokmipeoelaaW.PrintLast
set_option linter.unusedVariables false
set_option linter.unusedSimpArgs false
def White (c : Int) : Prop := c = 32 ∨ c = 9 ∨ c = 13
/-- Bytes alike, but for blanks (no line feeds) outside of strings; behind a control character anything. -/
inductive Sim : List Int → List Int → Prop
  | nil : Sim [] []
  | same (c : Int) (r p : List Int) : c ≠ 34 → Sim r p → Sim (c :: r) (c :: p)
  | bl (a b : Int) (r p : List Int) : White a → White b → Sim r p → Sim (a :: r) (b :: p)
  | str (q r p : List Int) : Fj.quo q = some q.length → Sim r p → Sim (34 :: (q ++ r)) (34 :: (q ++ p))
  | ctl (c : Int) (r p : List Int) : c < 32 → Fj.blank c = false → Sim (c :: r) p
def Ctl (l : List Int) : Prop := ∃ c r, l = c :: r ∧ c < 32 ∧ Fj.blank c = false
theorem white_blank {c : Int} (h : White c) : Fj.blank c = true := by rcases h with h | h | h <;> subst h <;> rfl
theorem white_lt {c : Int} (h : White c) : c ≤ 32 ∧ c ≠ 10 := by rcases h with h | h | h <;> subst h <;> decide
theorem rds_cons (c : Int) (r : List Int) (j : Nat) : rd (c :: r) ((j + 1 : Nat) : Int) = rd r (j : Int) := by
  unfold rd
  simp only [Int.toNat_natCast, List.getD_eq_getElem?_getD, List.getElem?_cons_succ]
theorem Sim.ws {r p : List Int} (h : Sim r p) : Ctl (r.drop (Fj.ws r)) ∨ (Fj.ws p = Fj.ws r ∧ Sim (r.drop (Fj.ws r)) (p.drop (Fj.ws r)) ∧ ∀ j, j < Fj.ws r → (rd r (j : Int) = 10 ↔ rd p (j : Int) = 10)) := by
  induction h with
  | nil => exact .inr ⟨rfl, Sim.nil, fun j hj => by simp [Fj.ws] at hj⟩
  | same c r p hc hs ih =>
    by_cases hb : Fj.blank c = true
    · simp only [Fj.ws, if_pos hb, List.drop_succ_cons]
      refine ih.imp id fun h => ⟨by rw [h.1], h.2.1, fun j hj => ?_⟩
      cases j with
      | zero => exact Iff.rfl
      | succ j => rw [rds_cons, rds_cons]; exact h.2.2 j (by omega)
    · simp only [Fj.ws, if_neg hb, List.drop_zero]
      exact .inr ⟨trivial, Sim.same c r p hc hs, fun j hj => by omega⟩
  | bl a b r p ha hb hs ih =>
    simp only [Fj.ws, if_pos (white_blank ha), if_pos (white_blank hb), List.drop_succ_cons]
    refine ih.imp id fun h => ⟨by rw [h.1], h.2.1, fun j hj => ?_⟩
    cases j with
    | zero =>
      have := white_lt ha
      have := white_lt hb
      show a = 10 ↔ b = 10
      omega
    | succ j => rw [rds_cons, rds_cons]; exact h.2.2 j (by omega)
  | str q r p hq hs ih =>
    have : Fj.blank 34 = false := rfl
    simp only [Fj.ws, this, Bool.false_eq_true, if_false, List.drop_zero]
    exact .inr ⟨trivial, Sim.str q r p hq hs, fun j hj => by omega⟩
  | ctl c r p hc hb =>
    simp only [Fj.ws, hb, Bool.false_eq_true, if_false, List.drop_zero]
    exact .inl ⟨c, r, rfl, hc, hb⟩
theorem Sim.one {c : Int} {r l : List Int} (h : Sim (c :: r) l) (h1 : 33 ≤ c) (h2 : c ≠ 34) : ∃ p, l = c :: p ∧ Sim r p := by
  cases h with
  | same _ _ p _ hs => exact ⟨p, rfl, hs⟩
  | bl _ b _ p ha _ _ => have := white_lt ha; omega
  | str => omega
  | ctl => omega
theorem quo_cons (c : Int) (r : List Int) : Fj.quo (c :: r) = if c = 34 then some 1 else if c < 32 then none else if c = 92 then (match r with
      | [] => none
      | d :: r2 => if Fj.simple8 d = true then (Fj.quo r2).map (· + 2) else if d = 117 then (match r2 with
          | a :: b :: e :: f :: r3 => if (Fj.hexd a && (Fj.hexd b && (Fj.hexd e && Fj.hexd f))) = true then (Fj.quo r3).map (· + 6) else none
          | _ => none) else none)
    else (Fj.quo r).map (· + 1) := by
  rw [Fj.quo.eq_def]
  rfl
theorem quo_append : ∀ (m : Nat) (q r : List Int) (n : Nat), q.length ≤ m → Fj.quo q = some n → Fj.quo (q ++ r) = some n
  | m, [], r, n, _, h => by simp [Fj.quo] at h
  | 0, c :: q, r, n, hm, h => by simp at hm
  | m + 1, c :: q, r, n, hm, h => by
    simp only [List.length_cons] at hm
    rw [quo_cons] at h
    rw [List.cons_append, quo_cons]
    by_cases c1 : c = 34
    · rw [if_pos c1] at h ⊢; exact h
    rw [if_neg c1] at h ⊢
    by_cases c2 : c < 32
    · rw [if_pos c2] at h; cases h
    rw [if_neg c2] at h ⊢
    by_cases c3 : c = 92
    · rw [if_pos c3] at h ⊢
      match q, h with
      | [], h => cases h
      | d :: q2, h =>
        simp only [List.cons_append, List.length_cons] at h hm ⊢
        by_cases c4 : Fj.simple8 d = true
        · rw [if_pos c4] at h ⊢
          obtain ⟨x, hx, rfl⟩ := Option.map_eq_some_iff.mp h
          rw [quo_append m q2 r x (by omega) hx]; rfl
        rw [if_neg c4] at h ⊢
        by_cases c5 : d = 117
        · rw [if_pos c5] at h ⊢
          match q2, h with
          | [], h => cases h
          | [_], h => cases h
          | [_, _], h => cases h
          | [_, _, _], h => cases h
          | a :: b :: e :: f :: q3, h =>
            simp only [List.cons_append, List.length_cons] at h hm ⊢
            by_cases c6 : (Fj.hexd a && (Fj.hexd b && (Fj.hexd e && Fj.hexd f))) = true
            · rw [if_pos c6] at h ⊢
              obtain ⟨x, hx, rfl⟩ := Option.map_eq_some_iff.mp h
              rw [quo_append m q3 r x (by omega) hx]; rfl
            · rw [if_neg c6] at h; cases h
        · rw [if_neg c5] at h; cases h
    · rw [if_neg c3] at h ⊢
      obtain ⟨x, hx, rfl⟩ := Option.map_eq_some_iff.mp h
      rw [quo_append m q r x (by omega) hx]; rfl
theorem Sim.quote {r l : List Int} {n : Nat} (h : Sim (34 :: r) l) (hn : Fj.quo r = some n) : ∃ p, l = 34 :: p ∧ Fj.quo p = some n ∧ Sim (r.drop n) (p.drop n) ∧ r.take n = p.take n := by
  cases h with
  | same _ _ _ hc _ => exact absurd rfl hc
  | bl _ _ _ _ ha _ _ => have := white_lt ha; omega
  | ctl _ _ _ hc _ => omega
  | str q r p hq hs =>
    rw [quo_append _ q r _ (Nat.le_refl _) hq] at hn
    obtain rfl := Option.some.inj hn
    exact ⟨q ++ p, rfl, quo_append _ q p _ (Nat.le_refl _) hq, by simpa using hs, by simp⟩
theorem Sim.run : ∀ (n : Nat) (r l : List Int), Sim r l → n ≤ r.length → (∀ j, j < n → 35 ≤ rd r (j : Int)) → Sim (r.drop n) (l.drop n) ∧ r.take n = l.take n ∧ n ≤ l.length
  | 0, r, l, h, _, _ => ⟨h, rfl, Nat.zero_le _⟩
  | n + 1, [], l, h, hn, _ => by simp at hn
  | n + 1, c :: r, l, h, hn, hj => by
    have h0 : 35 ≤ c := hj 0 (by omega)
    obtain ⟨p, rfl, hs⟩ := h.one (by omega) (by omega)
    obtain ⟨h1, h2, h3⟩ := Sim.run n r p hs (by simpa using hn) fun j h => by rw [← rds_cons c r j]; exact hj (j + 1) (by omega)
    exact ⟨by simpa using h1, by simp [h2], by simpa using h3⟩
theorem Sim.next {r l : List Int} (h : Sim r l) : Ctl r ∨ rd r 0 = rd l 0 ∨ (White (rd r 0) ∧ White (rd l 0)) := by
  cases h with
  | nil => exact .inr (.inl rfl)
  | same c r p hc hs => exact .inr (.inl rfl)
  | bl a b r p ha hb hs => exact .inr (.inr ⟨ha, hb⟩)
  | str q r p hq hs => exact .inr (.inl rfl)
  | ctl c r p hc hb => exact .inl ⟨c, r, rfl, hc, hb⟩
variable {s R P : ByteArray}
theorem digs_digit : ∀ (l : List Int) (j : Nat), j < Fj.digs l → 48 ≤ rd l (j : Int) ∧ rd l (j : Int) ≤ 57
  | [], j, h => by simp [Fj.digs] at h
  | c :: r, j, h => by
    rw [Fj.digs] at h
    split at h
    · rename_i hc
      cases j with
      | zero => exact hc
      | succ j => rw [rds_cons]; exact digs_digit r j (by omega)
    · omega
theorem digs_stop : ∀ (l : List Int), ¬ (48 ≤ rd l (Fj.digs l : Int) ∧ rd l (Fj.digs l : Int) ≤ 57)
  | [] => by rw [rd_nil]; omega
  | c :: r => by
    rw [Fj.digs]
    split
    · rename_i hc
      rw [rds_cons]; exact digs_stop r
    · rename_i hc; exact hc
theorem digs_of : ∀ (n : Nat) (l : List Int), (∀ j, j < n → 48 ≤ rd l (j : Int) ∧ rd l (j : Int) ≤ 57) → ¬ (48 ≤ rd l (n : Int) ∧ rd l (n : Int) ≤ 57) → Fj.digs l = n
  | n, [], h, _ => by
    cases n with
    | zero => rfl
    | succ n => have := h 0 (by omega); rw [rd_nil] at this; omega
  | 0, c :: r, _, h => by rw [Fj.digs, if_neg (show ¬ (48 ≤ c ∧ c ≤ 57) from h)]
  | n + 1, c :: r, h, h2 => by
    rw [Fj.digs, if_pos (show 48 ≤ c ∧ c ≤ 57 from h 0 (by omega)), digs_of n r (fun j hj => by rw [← rds_cons c r j]; exact h (j + 1) (by omega)) (by rw [← rds_cons c r n]; exact h2)]
/-- The bytes of which numbers are made. -/
def NumB (x : Int) : Prop := (48 ≤ x ∧ x ≤ 57) ∨ x = 43 ∨ x = 45 ∨ x = 46 ∨ x = 101 ∨ x = 69
/-- The same byte, or none of a number's in both texts. -/
def Alk (R P : ByteArray) (j : Nat) : Prop := bt R (j : Int) = bt P (j : Int) ∨ (¬ NumB (bt R (j : Int)) ∧ ¬ NumB (bt P (j : Int)))
theorem Alk.is {j : Nat} (h : Alk R P j) (x : Int) (hx : NumB x) : bt R (j : Int) = x ↔ bt P (j : Int) = x := by
  rcases h with h | ⟨h1, h2⟩
  · rw [h]
  · exact ⟨fun e => absurd (e ▸ hx) h1, fun e => absurd (e ▸ hx) h2⟩
theorem Alk.dig {j : Nat} (h : Alk R P j) : (48 ≤ bt R (j : Int) ∧ bt R (j : Int) ≤ 57) ↔ (48 ≤ bt P (j : Int) ∧ bt P (j : Int) ≤ 57) := by
  rcases h with h | ⟨h1, h2⟩
  · rw [h]
  · exact ⟨fun e => absurd (.inl e) h1, fun e => absurd (.inl e) h2⟩
theorem digs_alk (q e : Nat) (h : ∀ j, q ≤ j → j ≤ e → Alk R P j) (he : q + Fj.digs (D R q) ≤ e) : Fj.digs (D P q) = Fj.digs (D R q) := by
  refine digs_of _ _ (fun j hj => ?_) ?_
  · have := digs_digit (D R q) j hj
    rw [rd_D] at this ⊢
    exact (h (q + j) (by omega) (by omega)).dig.mp this
  · have := digs_stop (D R q)
    rw [rd_D] at this ⊢
    exact fun c => this ((h (q + Fj.digs (D R q)) (by omega) he).dig.mpr c)
theorem nb43 : NumB 43 := by unfold NumB; omega
theorem nb45 : NumB 45 := by unfold NumB; omega
theorem nb46 : NumB 46 := by unfold NumB; omega
theorem nb48 : NumB 48 := by unfold NumB; omega
theorem nb69 : NumB 69 := by unfold NumB; omega
theorem nb101 : NumB 101 := by unfold NumB; omega
theorem nE_alk {p e : Nat} (hn : nE R p = some e) (h : ∀ j, p ≤ j → j ≤ e → Alk R P j) : nE P p = some e := by
  unfold nE at hn ⊢
  by_cases c1 : bt R (p : Int) = 43 ∨ bt R (p : Int) = 45
  · rw [if_pos c1] at hn
    by_cases c2 : Fj.digs (D R (p + 1)) = 0
    · rw [if_pos c2] at hn; cases hn
    rw [if_neg c2] at hn
    obtain rfl := Option.some.inj hn
    have h0 := h p (by omega) (by omega)
    rw [if_pos (c1.imp (h0.is _ nb43).mp (h0.is _ nb45).mp), digs_alk (p + 1) _ (fun j h1 h2 => h j (by omega) h2) (Nat.le_refl _), if_neg c2]
  · rw [if_neg c1] at hn
    by_cases c2 : Fj.digs (D R p) = 0
    · rw [if_pos c2] at hn; cases hn
    rw [if_neg c2] at hn
    obtain rfl := Option.some.inj hn
    have h0 := h p (by omega) (by omega)
    rw [if_neg (fun x => c1 (x.imp (h0.is _ nb43).mpr (h0.is _ nb45).mpr)), digs_alk p _ h (Nat.le_refl _), if_neg c2]
theorem nE_ge {p e : Nat} (hn : nE R p = some e) : p < e := by
  unfold nE at hn
  repeat' split at hn
  all_goals first | (cases hn; done) | (obtain rfl := Option.some.inj hn; omega)
theorem nX_ge {p e : Nat} (hn : nX R p = some e) : p ≤ e := by
  unfold nX at hn
  split at hn
  · have := nE_ge hn; omega
  · obtain rfl := Option.some.inj hn; omega
theorem nF_ge {p e : Nat} (hn : nF R p = some e) : p ≤ e := by
  unfold nF at hn
  split at hn
  · split at hn
    · cases hn
    · have := nX_ge hn; omega
  · exact nX_ge hn
theorem nW_ge {p e : Nat} (hn : nW R p = some e) : p < e := by
  unfold nW at hn
  split at hn
  · have := nF_ge hn; omega
  · split at hn
    · cases hn
    · have := nF_ge hn; omega
theorem nX_alk {p e : Nat} (hn : nX R p = some e) (h : ∀ j, p ≤ j → j ≤ e → Alk R P j) : nX P p = some e := by
  have hg := nX_ge hn
  have h0 := h p (by omega) (by omega)
  unfold nX at hn ⊢
  by_cases c1 : bt R (p : Int) = 101 ∨ bt R (p : Int) = 69
  · rw [if_pos c1] at hn
    rw [if_pos (c1.imp (h0.is _ nb101).mp (h0.is _ nb69).mp)]
    exact nE_alk hn fun j h1 h2 => h j (by omega) h2
  · rw [if_neg c1] at hn
    rw [if_neg (fun x => c1 (x.imp (h0.is _ nb101).mpr (h0.is _ nb69).mpr))]
    exact hn
theorem nF_alk {p e : Nat} (hn : nF R p = some e) (h : ∀ j, p ≤ j → j ≤ e → Alk R P j) : nF P p = some e := by
  have hg := nF_ge hn
  have h0 := h p (by omega) (by omega)
  unfold nF at hn ⊢
  by_cases c1 : bt R (p : Int) = 46
  · rw [if_pos c1] at hn
    rw [if_pos ((h0.is _ nb46).mp c1)]
    by_cases c2 : Fj.digs (D R (p + 1)) = 0
    · rw [if_pos c2] at hn; cases hn
    rw [if_neg c2] at hn
    have hg2 := nX_ge hn
    rw [digs_alk (p + 1) e (fun j h1 h2 => h j (by omega) h2) hg2, if_neg c2]
    exact nX_alk hn fun j h1 h2 => h j (by omega) h2
  · rw [if_neg c1] at hn
    rw [if_neg (fun x => c1 ((h0.is _ nb46).mpr x))]
    exact nX_alk hn h
theorem nW_alk {p e : Nat} (hn : nW R p = some e) (h : ∀ j, p ≤ j → j ≤ e → Alk R P j) : nW P p = some e := by
  have hg := nW_ge hn
  have h0 := h p (by omega) (by omega)
  unfold nW at hn ⊢
  by_cases c1 : bt R (p : Int) = 48
  · rw [if_pos c1] at hn
    rw [if_pos ((h0.is _ nb48).mp c1)]
    exact nF_alk hn fun j h1 h2 => h j (by omega) h2
  · rw [if_neg c1] at hn
    rw [if_neg (fun x => c1 ((h0.is _ nb48).mpr x))]
    by_cases c2 : Fj.digs (D R p) = 0
    · rw [if_pos c2] at hn; cases hn
    rw [if_neg c2] at hn
    have hg2 := nF_ge hn
    rw [digs_alk p e h hg2, if_neg c2]
    exact nF_alk hn fun j h1 h2 => h j (by omega) h2
theorem nN_alk {p e : Nat} (hn : nN R p = some e) (h : ∀ j, p ≤ j → j ≤ e → Alk R P j) : nN P p = some e := by
  unfold nN at hn ⊢
  by_cases c1 : bt R (p : Int) = 45
  · rw [if_pos c1] at hn
    have hg := nW_ge hn
    rw [if_pos (((h p (by omega) (by omega)).is _ nb45).mp c1)]
    exact nW_alk hn fun j h1 h2 => h j (by omega) h2
  · rw [if_neg c1] at hn
    have hg := nW_ge hn
    rw [if_neg (fun x => c1 (((h p (by omega) (by omega)).is _ nb45).mpr x))]
    exact nW_alk hn h
/-- All bytes from p up to e are a number's. -/
def AllN (s : ByteArray) (p e : Nat) : Prop := ∀ j, p ≤ j → j < e → NumB (bt s (j : Int))
theorem AllN.trans {p q e : Nat} (h : AllN s p q) (g : AllN s q e) : AllN s p e := fun j h1 h2 => by
  rcases Nat.lt_or_ge j q with h3 | h3
  · exact h j h1 h3
  · exact g j h3 h2
theorem AllN.one {p : Nat} (h : NumB (bt s (p : Int))) : AllN s p (p + 1) := fun j h1 h2 => by
  obtain rfl : j = p := by omega
  exact h
theorem AllN.digs (p : Nat) : AllN s p (p + Fj.digs (D s p)) := fun j h1 h2 => by
  have := digs_digit (D s p) (j - p) (by omega)
  rw [rd_D, show p + (j - p) = j by omega] at this
  exact .inl this
theorem nE_all {p e : Nat} (h : nE s p = some e) : AllN s p e := by
  unfold nE at h
  split at h
  · rename_i c
    split at h
    · cases h
    · obtain rfl := Option.some.inj h
      exact (AllN.one (by unfold NumB; omega)).trans (AllN.digs _)
  · split at h
    · cases h
    · obtain rfl := Option.some.inj h
      exact AllN.digs _
theorem nX_all {p e : Nat} (h : nX s p = some e) : AllN s p e := by
  unfold nX at h
  split at h
  · rename_i c
    exact (AllN.one (by unfold NumB; omega)).trans (nE_all h)
  · obtain rfl := Option.some.inj h
    exact fun j h1 h2 => by omega
theorem nF_all {p e : Nat} (h : nF s p = some e) : AllN s p e := by
  unfold nF at h
  split at h
  · rename_i c
    split at h
    · cases h
    · exact (AllN.one (by unfold NumB; omega)).trans ((AllN.digs _).trans (nX_all h))
  · exact nX_all h
theorem nW_all {p e : Nat} (h : nW s p = some e) : AllN s p e := by
  unfold nW at h
  split at h
  · rename_i c
    exact (AllN.one (by unfold NumB; omega)).trans (nF_all h)
  · split at h
    · cases h
    · exact (AllN.digs _).trans (nF_all h)
theorem nN_all {p e : Nat} (h : nN s p = some e) : AllN s p e := by
  unfold nN at h
  split at h
  · rename_i c
    exact (AllN.one (by unfold NumB; omega)).trans (nW_all h)
  · exact nW_all h
theorem numB_ge {x : Int} (h : NumB x) : 35 ≤ x := by unfold NumB at h; omega
theorem allN_in {p e : Nat} (hp : p ≤ s.size) (h : AllN s p e) : e ≤ s.size ∨ e ≤ p := by
  rcases Nat.lt_or_ge p e with hc | hc
  · refine .inl (Nat.le_of_not_lt fun hx => ?_)
    have := numB_ge (h (e - 1) (by omega) (by omega))
    rw [bt_out s _ (by omega)] at this
    omega
  · exact .inr hc
/-- Both texts have the same bytes from p up to e. -/
def Eqs (R P : ByteArray) (p e : Nat) : Prop := (D R p).take (e - p) = (D P p).take (e - p)
theorem Eqs.bt {p e j : Nat} (h : Eqs R P p e) (h1 : p ≤ j) (h2 : j < e) : bt R (j : Int) = bt P (j : Int) := by
  obtain ⟨i, rfl⟩ : ∃ i, j = p + i := ⟨j - p, by omega⟩
  have hg : ∀ l : List Int, rd (l.take (e - p)) (i : Int) = rd l (i : Int) := fun l => by
    unfold rd
    simp only [Int.toNat_natCast, List.getD_eq_getElem?_getD]
    rw [List.getElem?_take_of_lt (by omega)]
  rw [← rd_D, ← rd_D, ← hg (D R p), ← hg (D P p), h]
theorem D_ctl {p : Nat} (h : Ctl (D s p)) : p < s.size ∧ bt s (p : Int) < 32 ∧ Fj.blank (bt s (p : Int)) = false := by
  obtain ⟨c, r, h1, h2, h3⟩ := h
  have hp : p < s.size := by
    refine Nat.lt_of_not_le fun hx => ?_
    rw [D_nil p hx] at h1
    cases h1
  have : bt s (p : Int) = c := by rw [← rd_D0, h1]; rfl
  rw [this]
  exact ⟨hp, h2, h3⟩
theorem ctl_nb {p : Nat} (h : Ctl (D s p)) : nb s p = p := by
  obtain ⟨c, r, h1, h2, h3⟩ := h
  unfold nb
  rw [h1, Fj.ws, h3]
  rfl
def Lf (R P : ByteArray) (p e : Nat) : Prop := ∀ j, p ≤ j → j < e → (bt R (j : Int) = 10 ↔ bt P (j : Int) = 10)
theorem Lf.trans {p q e : Nat} (h : Lf R P p q) (g : Lf R P q e) : Lf R P p e := fun j h1 h2 => by
  rcases Nat.lt_or_ge j q with h3 | h3
  · exact h j h1 h3
  · exact g j h3 h2
theorem Eqs.lf {p e : Nat} (h : Eqs R P p e) : Lf R P p e := fun j h1 h2 => by rw [h.bt h1 h2]
/-- The two texts are alike from a place on. -/
def At (R P : ByteArray) (p : Nat) : Prop := Sim (D R p) (D P p)
theorem At.nb {p : Nat} (h : At R P p) : Ctl (D R (nb R p)) ∨ (nb P p = nb R p ∧ At R P (nb R p) ∧ Lf R P p (nb R p)) := by
  rcases Sim.ws h with h | ⟨h1, h2, h3⟩
  · left
    rw [D_drop] at h
    exact h
  · right
    have e : ReadXFnPrSpec.nb P p = ReadXFnPrSpec.nb R p := by unfold ReadXFnPrSpec.nb; rw [h1]
    refine ⟨e, ?_, fun j g1 g2 => ?_⟩
    · rw [D_drop, D_drop] at h2
      exact h2
    · have := h3 (j - p) (by unfold ReadXFnPrSpec.nb at g2; omega)
      rw [rd_D, rd_D, show p + (j - p) = j by omega] at this
      exact this
theorem At.one {p : Nat} {c : Int} (h : At R P p) (hc : bt R (p : Int) = c) (h1 : 35 ≤ c) : bt P (p : Int) = c ∧ At R P (p + 1) ∧ Lf R P p (p + 1) := by
  have hp : p < R.size := in_text hc (by omega)
  unfold At at h
  rw [D_cons p hp, hc] at h
  obtain ⟨l, hl, hs⟩ := Sim.one h (by omega) (by omega)
  have e1 : bt P (p : Int) = c := by rw [← rd_D0, hl]; rfl
  refine ⟨e1, ?_, fun j g1 g2 => ?_⟩
  · have hp2 : p < P.size := in_text e1 (by omega)
    rw [D_cons p hp2] at hl
    unfold At
    rw [(List.cons.inj hl).2]
    exact hs
  · obtain rfl : j = p := by omega
    rw [e1, hc]
theorem At.quote {p e : Nat} (h : At R P p) (hc : bt R (p : Int) = 34) (hq : qE R (p + 1) = some e) : bt P (p : Int) = 34 ∧ qE P (p + 1) = some e ∧ At R P e ∧ Eqs R P p e := by
  have hp : p < R.size := in_text hc (by decide)
  obtain ⟨n, hn, rfl⟩ := Option.map_eq_some_iff.mp hq
  unfold At at h
  rw [D_cons p hp, hc] at h
  obtain ⟨l, hl, h1, h2, h3⟩ := Sim.quote h hn
  have e1 : bt P (p : Int) = 34 := by rw [← rd_D0, hl]; rfl
  have hp2 : p < P.size := in_text e1 (by decide)
  rw [D_cons p hp2] at hl
  have e2 := (List.cons.inj hl).2
  rw [← e2] at h1 h2 h3
  rw [D_drop, D_drop] at h2
  refine ⟨e1, by unfold qE; rw [h1]; rfl, h2, ?_⟩
  unfold Eqs
  rw [show p + 1 + n - p = n + 1 by omega, D_cons p hp, D_cons p hp2, hc, e1, List.take_succ_cons, List.take_succ_cons, h3]
theorem At.run {p e : Nat} (h : At R P p) (hp : p ≤ e) (he : e ≤ R.size) (hj : ∀ j, p ≤ j → j < e → 35 ≤ bt R (j : Int)) : At R P e ∧ Eqs R P p e := by
  obtain ⟨h1, h2, h3⟩ := Sim.run (e - p) _ _ h (by rw [D_len]; omega) fun j hjj => by rw [rd_D]; exact hj _ (by omega) (by omega)
  rw [D_drop, D_drop, show p + (e - p) = e by omega] at h1
  exact ⟨h1, h2⟩
theorem At.alk {p : Nat} (h : At R P p) : Ctl (D R p) ∨ Alk R P p := by
  rcases Sim.next h with h | h | h
  · exact .inl h
  · rw [rd_D0, rd_D0] at h
    exact .inr (.inl h)
  · rw [rd_D0, rd_D0] at h
    refine .inr (.inr ⟨fun x => ?_, fun x => ?_⟩)
    · have := numB_ge x; have := white_lt h.1; omega
    · have := numB_ge x; have := white_lt h.2; omega
theorem At.number {p e : Nat} (h : At R P p) (hp : p ≤ R.size) (hn : nN R p = some e) : Ctl (D R e) ∨ (nN P p = some e ∧ At R P e ∧ Eqs R P p e) := by
  have ha := nN_all hn
  have hg := num_gt hn
  have he : e ≤ R.size := (allN_in hp ha).resolve_right (by omega)
  obtain ⟨h1, h2⟩ := h.run (Nat.le_of_lt hg) he fun j g1 g2 => numB_ge (ha j g1 g2)
  rcases h1.alk with h3 | h3
  · exact .inl h3
  · refine .inr ⟨nN_alk hn fun j g1 g2 => ?_, h1, h2⟩
    rcases Nat.lt_or_ge j e with g3 | g3
    · exact .inl (h2.bt g1 g3)
    · obtain rfl : j = e := by omega
      exact h3
theorem begins_at' {w : List Int} {p : Nat} (h : Fj.begins w (D s p) = true) (j : Nat) (hj : j < w.length) : bt s ((p + j : Nat) : Int) = rd w (j : Int) := by
  unfold Fj.begins at h
  rw [beq_iff_eq] at h
  rw [← rd_D, ← h]
  unfold rd
  simp only [Int.toNat_natCast, List.getD_eq_getElem?_getD]
  rw [List.getElem?_take_of_lt hj]
theorem At.begins {w : List Int} {p : Nat} (h : At R P p) (hp : p ≤ R.size) (hw : ∀ j, j < w.length → 35 ≤ rd w (j : Int)) (hb : Fj.begins w (D R p) = true) : Fj.begins w (D P p) = true ∧ At R P (p + w.length) ∧ Eqs R P p (p + w.length) := by
  have he := begins_in hp hb
  obtain ⟨h1, h2⟩ := h.run (e := p + w.length) (by omega) he fun j g1 g2 => by
    obtain ⟨i, rfl⟩ : ∃ i, j = p + i := ⟨j - p, by omega⟩
    rw [begins_at' hb i (by omega)]
    exact hw i (by omega)
  refine ⟨?_, h1, h2⟩
  unfold Eqs at h2
  rw [show p + w.length - p = w.length by omega] at h2
  unfold Fj.begins at hb ⊢
  rw [← h2]
  exact hb
theorem At.word {p : Nat} {r : Int × Nat} (h : At R P p) (hp : p ≤ R.size) (hr : wordk R p = some r) : wordk P p = some r ∧ At R P r.2 ∧ Eqs R P p r.2 ∧ p < r.2 ∧ r.2 ≤ R.size := by
  have no : ∀ {x y : Int} {w u : List Int}, x ≠ y → Fj.begins (x :: w) (D R p) = true → Eqs R P p (p + (x :: w).length) → ¬ Fj.begins (y :: u) (D P p) = true := fun hxy h1 h2 h3 => by
    have e1 := begins_head h1
    have e2 := begins_head h3
    rw [rd_D0] at e1 e2
    have := h2.bt (Nat.le_refl p) (by simp)
    omega
  unfold wordk at hr ⊢
  by_cases c1 : Fj.begins [110, 117, 108, 108] (D R p) = true
  · rw [if_pos c1] at hr
    obtain rfl := Option.some.inj hr
    obtain ⟨h1, h2, h3⟩ := h.begins hp (by decide) c1
    exact ⟨if_pos h1, h2, h3, by show p < p + 4; omega, begins_in hp c1⟩
  rw [if_neg c1] at hr
  by_cases c2 : Fj.begins [102, 97, 108, 115, 101] (D R p) = true
  · rw [if_pos c2] at hr
    obtain rfl := Option.some.inj hr
    obtain ⟨h1, h2, h3⟩ := h.begins hp (by decide) c2
    exact ⟨by rw [if_neg (no (by decide) c2 h3), if_pos h1], h2, h3, by show p < p + 5; omega, begins_in hp c2⟩
  rw [if_neg c2] at hr
  by_cases c3 : Fj.begins [116, 114, 117, 101] (D R p) = true
  · rw [if_pos c3] at hr
    obtain rfl := Option.some.inj hr
    obtain ⟨h1, h2, h3⟩ := h.begins hp (by decide) c3
    exact ⟨by rw [if_neg (no (by decide) c3 h3), if_neg (no (by decide) c3 h3), if_pos h1], h2, h3, by show p < p + 4; omega, begins_in hp c3⟩
  · rw [if_neg c3] at hr; cases hr
/-- A tree of places lies in the text, and its parts that are written out are the same in both texts. -/
def Wf (R P : ByteArray) : Nat → PL → Prop
  | 0, _ => True
  | n + 1, v => (∃ b e : Nat, v.f1 = b ∧ v.f2 = e ∧ b ≤ e ∧ e ≤ R.size ∧ (v.f0 ≠ 5 → v.f0 ≠ 6 → Eqs R P b e)) ∧ (v.f0 = 6 → v.f3.length = v.f4.length) ∧ (v.f0 ≠ 6 → v.f3 = []) ∧ v.f4.length ≤ R.size ∧
    (∀ x ∈ v.f3, ∃ b e : Nat, x.f0 = b ∧ x.f1 = e ∧ b ≤ e ∧ e ≤ R.size ∧ Eqs R P b e) ∧ (∀ y ∈ v.f4, Wf R P n y)
theorem not_ctl {p : Nat} {c : Int} (h : bt s (p : Int) = c) (hc : 35 ≤ c) : ¬ Ctl (D s p) := fun x => by have := (D_ctl x).2.1; omega
/-- What is said of the elements and members that are read from a place on. -/
def Kin (R P : ByteArray) (q e : Nat) (xs : List SP) (ys : List PL) : Prop :=
  (∀ x ∈ xs, ∃ b e : Nat, x.f0 = b ∧ x.f1 = e ∧ b ≤ e ∧ e ≤ R.size ∧ Eqs R P b e) ∧ (∀ n, ∀ y ∈ ys, Wf R P n y) ∧ ys.length + q ≤ e ∧ (xs.length = ys.length ∨ xs = [])
theorem After {e : Nat} {c : Int} (h : Ctl (D R e) ∨ At R P e) (hc : bt R (nb R e : Int) = c) (h1 : 35 ≤ c) : ¬ Ctl (D R e) ∧ nb P e = nb R e ∧ bt P (nb R e : Int) = c ∧ At R P (nb R e + 1) ∧ Lf R P e (nb R e + 1) ∧ nb R e < R.size := by
  have hin : nb R e < R.size := in_text hc (by omega)
  have hno : ¬ Ctl (D R e) := fun x => by
    rw [ctl_nb x] at hc
    exact not_ctl hc h1 x
  have ha := h.resolve_left hno
  rcases ha.nb with h2 | ⟨h2, h3, h4⟩
  · exact absurd h2 (not_ctl hc h1)
  · obtain ⟨g1, g2, g3⟩ := h3.one hc h1
    exact ⟨hno, h2, g1, g2, h4.trans g3, hin⟩
theorem wordk_ctl {p : Nat} (h : bt s (p : Int) < 32) : wordk s p = none := by
  unfold wordk
  rw [if_neg, if_neg, if_neg]
  all_goals
    intro x
    have := begins_head x
    rw [rd_D0] at this
    omega
theorem tV_ctl {p : Nat} (f : Nat) (h : Ctl (D s p)) : tV s f p = none := by
  cases f with
  | zero => rfl
  | succ f =>
    have := (D_ctl h).2.1
    rw [tV, if_neg (by omega), if_neg (by omega), if_neg (by omega), if_neg (by omega), wordk_ctl this]
theorem tE_ctl {p : Nat} (f : Nat) (h : Ctl (D s p)) : tE s f p = none := by
  cases f with
  | zero => rfl
  | succ f => rw [tE, tV_ctl f h]
theorem tM_ctl {p : Nat} (f : Nat) (h : Ctl (D s p)) : tM s f p = none := by
  cases f with
  | zero => rfl
  | succ f =>
    have := (D_ctl h).2.1
    rw [tM, if_neg (by omega)]
theorem Wf.scalar {k : Int} {b e : Nat} (h5 : k ≠ 6) (hbe : b ≤ e) (he : e ≤ R.size) (hx : Eqs R P b e) : ∀ n, Wf R P n ⟨k, (b : Int), (e : Int), [], []⟩
  | 0 => trivial
  | n + 1 => ⟨⟨b, e, rfl, rfl, hbe, he, fun _ _ => hx⟩, fun h => absurd h h5, fun _ => rfl, Nat.zero_le _, fun x hx => (by cases hx), fun x hx => (by cases hx)⟩
theorem Wf.arr {b q e : Nat} {ys : List PL} (hbe : b ≤ e) (he : e ≤ R.size) (hk : Kin R P q e [] ys) : ∀ n, Wf R P n ⟨5, (b : Int), (e : Int), [], ys⟩
  | 0 => trivial
  | n + 1 => ⟨⟨b, e, rfl, rfl, hbe, he, fun h _ => absurd rfl h⟩, fun h => absurd (show (5 : Int) = 6 from h) (by decide), fun _ => rfl, by have := hk.2.2.1; show ys.length ≤ _; omega, fun x hx => (by cases hx), fun y hy => hk.2.1 n y hy⟩
theorem Wf.obj {b q e : Nat} {xs : List SP} {ys : List PL} (hbe : b ≤ e) (he : e ≤ R.size) (hk : Kin R P q e xs ys) (hl : xs.length = ys.length) : ∀ n, Wf R P n ⟨6, (b : Int), (e : Int), xs, ys⟩
  | 0 => trivial
  | n + 1 => ⟨⟨b, e, rfl, rfl, hbe, he, fun _ h => absurd rfl h⟩, fun _ => hl, fun h => absurd rfl h, by have := hk.2.2.1; show ys.length ≤ _; omega, hk.1, fun y hy => hk.2.1 n y hy⟩
theorem Kin.nil {q e : Nat} (h : q ≤ e) : Kin R P q e [] [] := ⟨fun x hx => (by cases hx), fun n y hy => (by cases hy), by simp; exact h, .inl rfl⟩
theorem Kin.cons {q q' e : Nat} {xs : List SP} {ys : List PL} {y : PL} (h : Kin R P q' e xs ys) (hq : q < q') (hy : ∀ n, Wf R P n y) (hx : xs = []) : Kin R P q e [] (y :: ys) :=
  ⟨fun x hx => (by cases hx), fun n z hz => by
    rcases List.mem_cons.mp hz with rfl | hz
    · exact hy n
    · exact h.2.1 n z hz, by have := h.2.2.1; rw [List.length_cons]; omega, .inr rfl⟩
theorem Kin.cons2 {q q' e b c : Nat} {xs : List SP} {ys : List PL} {y : PL} (h : Kin R P q' e xs ys) (hl : xs.length = ys.length) (hq : q < q') (hy : ∀ n, Wf R P n y) (hbc : b ≤ c) (hc : c ≤ R.size) (hx : Eqs R P b c) : Kin R P q e (⟨(b : Int), (c : Int)⟩ :: xs) (y :: ys) :=
  ⟨fun x hxx => by
    rcases List.mem_cons.mp hxx with rfl | hxx
    · exact ⟨b, c, rfl, rfl, hbc, hc, hx⟩
    · exact h.1 x hxx, fun n z hz => by
    rcases List.mem_cons.mp hz with rfl | hz
    · exact hy n
    · exact h.2.1 n z hz, by have := h.2.2.1; rw [List.length_cons]; omega, .inl (by simp [hl])⟩
theorem qE_gt {p e : Nat} (h : qE s p = some e) : p ≤ e := by
  obtain ⟨x, _, rfl⟩ := Option.map_eq_some_iff.mp h
  omega
theorem quo_le : ∀ (m : Nat) (l : List Int) (n : Nat), l.length ≤ m → Fj.quo l = some n → n ≤ l.length
  | m, [], n, _, h => by simp [Fj.quo] at h
  | 0, c :: q, n, hm, h => by simp at hm
  | m + 1, c :: q, n, hm, h => by
    simp only [List.length_cons] at hm ⊢
    rw [quo_cons] at h
    by_cases c1 : c = 34
    · rw [if_pos c1] at h; obtain rfl := Option.some.inj h; omega
    rw [if_neg c1] at h
    by_cases c2 : c < 32
    · rw [if_pos c2] at h; cases h
    rw [if_neg c2] at h
    by_cases c3 : c = 92
    · rw [if_pos c3] at h
      match q, h with
      | [], h => cases h
      | d :: q2, h =>
        simp only [List.length_cons] at h hm ⊢
        by_cases c4 : Fj.simple8 d = true
        · rw [if_pos c4] at h
          obtain ⟨x, hx, rfl⟩ := Option.map_eq_some_iff.mp h
          have := quo_le m q2 x (by omega) hx
          omega
        rw [if_neg c4] at h
        by_cases c5 : d = 117
        · rw [if_pos c5] at h
          match q2, h with
          | [], h => cases h
          | [_], h => cases h
          | [_, _], h => cases h
          | [_, _, _], h => cases h
          | a :: b :: e :: f :: q3, h =>
            simp only [List.length_cons] at h hm ⊢
            by_cases c6 : (Fj.hexd a && (Fj.hexd b && (Fj.hexd e && Fj.hexd f))) = true
            · rw [if_pos c6] at h
              obtain ⟨x, hx, rfl⟩ := Option.map_eq_some_iff.mp h
              have := quo_le m q3 x (by omega) hx
              omega
            · rw [if_neg c6] at h; cases h
        · rw [if_neg c5] at h; cases h
    · rw [if_neg c3] at h
      obtain ⟨x, hx, rfl⟩ := Option.map_eq_some_iff.mp h
      have := quo_le m q x (by omega) hx
      omega
theorem qE_le {p e : Nat} (hp : p ≤ s.size) (h : qE s p = some e) : e ≤ s.size := by
  obtain ⟨x, hx, rfl⟩ := Option.map_eq_some_iff.mp h
  have := quo_le _ _ x (Nat.le_refl _) hx
  rw [D_len] at this
  omega
theorem sim_tree : ∀ f : Nat,
    (∀ q v, q ≤ R.size → At R P q → tV R f q = some v → q < v.2 ∧ v.2 ≤ R.size ∧ (Ctl (D R v.2) ∨ (tV P f q = some v ∧ At R P v.2 ∧ Lf R P q v.2 ∧ ∀ n, Wf R P n v.1))) ∧
    (∀ q v, q ≤ R.size → At R P q → tE R f q = some v → q < v.2 ∧ v.2 ≤ R.size ∧ tE P f q = some v ∧ At R P v.2 ∧ Lf R P q v.2 ∧ Kin R P q v.2 [] v.1) ∧
    (∀ q v, q ≤ R.size → At R P q → tM R f q = some v → q < v.2.2 ∧ v.2.2 ≤ R.size ∧ tM P f q = some v ∧ At R P v.2.2 ∧ Lf R P q v.2.2 ∧ Kin R P q v.2.2 v.1 v.2.1 ∧ v.1.length = v.2.1.length)
  | 0 => ⟨fun _ _ _ _ h => by simp [tV] at h, fun _ _ _ _ h => by simp [tE] at h, fun _ _ _ _ h => by simp [tM] at h⟩
  | f + 1 => by
    obtain ⟨hV, hE, hM⟩ := sim_tree f
    refine ⟨fun q v hq ha hv => ?_, fun q v hq ha hv => ?_, fun q v hq ha hv => ?_⟩
    · rw [tV] at hv
      rw [tV]
      by_cases c1 : bt R (q : Int) = 123
      · rw [if_pos c1] at hv
        obtain ⟨e1, a1, l1⟩ := ha.one c1 (by decide)
        have hin := in_text c1 (by decide)
        have hg := nb_ge (s := R) (q + 1)
        have hu := nb_le (s := R) (q + 1) (by omega)
        rw [if_pos e1]
        by_cases c2 : bt R (nb R (q + 1) : Int) = 125
        · rw [if_pos c2] at hv
          obtain rfl := Option.some.inj hv
          obtain ⟨_, n1, e2, a2, l2, hin2⟩ := After (.inr a1) c2 (by decide)
          refine ⟨by show q < nb R (q + 1) + 1; omega, hin2, .inr ⟨by rw [n1, if_pos e2], a2, l1.trans l2, Wf.obj (q := q) (by omega) hin2 (Kin.nil (by omega)) rfl⟩⟩
        · rw [if_neg c2] at hv
          rcases a1.nb with hctl | ⟨n1, a2, l2⟩
          · rw [tM_ctl f hctl] at hv; cases hv
          cases hm : tM R f (nb R (q + 1)) with
          | none => rw [hm] at hv; cases hv
          | some r =>
            rw [hm] at hv
            obtain rfl := Option.some.inj hv
            obtain ⟨g1, g2, g3, g4, g5, g6, g7⟩ := hM _ r hu a2 hm
            have hne : bt P (nb R (q + 1) : Int) ≠ 125 := fun x => by
              cases f with
              | zero => simp [tM] at hm
              | succ f => rw [tM, if_neg (by omega)] at g3; cases g3
            exact ⟨by show q < r.2.2; omega, g2, .inr ⟨by rw [n1, if_neg hne, g3], g4, (l1.trans l2).trans g5, Wf.obj (by omega) g2 g6 g7⟩⟩
      rw [if_neg c1] at hv
      by_cases c2 : bt R (q : Int) = 91
      · rw [if_pos c2] at hv
        obtain ⟨e1, a1, l1⟩ := ha.one c2 (by decide)
        have hin := in_text c2 (by decide)
        have hg := nb_ge (s := R) (q + 1)
        have hu := nb_le (s := R) (q + 1) (by omega)
        rw [if_neg (by omega), if_pos e1]
        by_cases c3 : bt R (nb R (q + 1) : Int) = 93
        · rw [if_pos c3] at hv
          obtain rfl := Option.some.inj hv
          obtain ⟨_, n1, e2, a2, l2, hin2⟩ := After (.inr a1) c3 (by decide)
          refine ⟨by show q < nb R (q + 1) + 1; omega, hin2, .inr ⟨by rw [n1, if_pos e2], a2, l1.trans l2, Wf.arr (q := q) (by omega) hin2 (Kin.nil (by omega))⟩⟩
        · rw [if_neg c3] at hv
          rcases a1.nb with hctl | ⟨n1, a2, l2⟩
          · rw [tE_ctl f hctl] at hv; cases hv
          cases hm : tE R f (nb R (q + 1)) with
          | none => rw [hm] at hv; cases hv
          | some r =>
            rw [hm] at hv
            obtain rfl := Option.some.inj hv
            obtain ⟨g1, g2, g3, g4, g5, g6⟩ := hE _ r hu a2 hm
            have hne : bt P (nb R (q + 1) : Int) ≠ 93 := fun x => by
              have hn : ∀ f', tV P f' (nb R (q + 1)) = none := fun f' => by
                cases f' with
                | zero => rfl
                | succ f' =>
                  have hw : wordk P (nb R (q + 1)) = none := by
                    unfold wordk
                    rw [if_neg, if_neg, if_neg]
                    all_goals
                      intro y
                      have := begins_head y
                      rw [rd_D0] at this
                      omega
                  rw [tV, if_neg (by omega), if_neg (by omega), if_neg (by omega), if_neg (by omega), hw]
              cases f with
              | zero => simp [tE] at hm
              | succ f => rw [tE, hn] at g3; cases g3
            exact ⟨by show q < r.2; omega, g2, .inr ⟨by rw [n1, if_neg hne, g3], g4, (l1.trans l2).trans g5, Wf.arr (by omega) g2 g6⟩⟩
      rw [if_neg c2] at hv
      by_cases c3 : bt R (q : Int) = 34
      · rw [if_pos c3] at hv
        cases hqu : qE R (q + 1) with
        | none => rw [hqu] at hv; cases hv
        | some e =>
          rw [hqu] at hv
          obtain rfl := Option.some.inj hv
          obtain ⟨e1, g1, g2, g3⟩ := ha.quote c3 hqu
          have hlt := qE_gt hqu
          have hin := in_text c3 (by decide)
          have hle := qE_le (by omega) hqu
          rw [if_neg (by omega), if_neg (by omega), if_pos e1, g1]
          exact ⟨by show q < e; omega, hle, .inr ⟨rfl, g2, g3.lf, Wf.scalar (by decide) (by omega) hle g3⟩⟩
      rw [if_neg c3] at hv
      by_cases c4 : bt R (q : Int) = 45 ∨ (48 ≤ bt R (q : Int) ∧ bt R (q : Int) ≤ 57)
      · rw [if_pos c4] at hv
        cases hnn : nN R q with
        | none => rw [hnn] at hv; cases hv
        | some e =>
          rw [hnn] at hv
          obtain rfl := Option.some.inj hv
          have hlt := num_gt hnn
          have hle : e ≤ R.size := (allN_in hq (nN_all hnn)).resolve_right (by omega)
          refine ⟨hlt, hle, (ha.number hq hnn).imp id fun ⟨g1, g2, g3⟩ => ?_⟩
          have eb := g3.bt (Nat.le_refl q) hlt
          rw [if_neg (by omega), if_neg (by omega), if_neg (by omega), if_pos (by omega), g1]
          exact ⟨rfl, g2, g3.lf, Wf.scalar (by decide) (by omega) hle g3⟩
      · rw [if_neg c4] at hv
        cases hw : wordk R q with
        | none => rw [hw] at hv; cases hv
        | some r =>
          rw [hw] at hv
          obtain rfl := Option.some.inj hv
          obtain ⟨g1, g2, g3, g4, g5⟩ := ha.word hq hw
          have eb := g3.bt (Nat.le_refl q) g4
          rw [if_neg (by omega), if_neg (by omega), if_neg (by omega), if_neg (by omega), g1]
          refine ⟨g4, g5, .inr ⟨rfl, g2, g3.lf, Wf.scalar ?_ (by omega) g5 g3⟩⟩
          unfold wordk at hw
          repeat' split at hw
          all_goals first | (cases hw; done) | (obtain rfl := Option.some.inj hw; simp only []; decide)
    · rw [tE] at hv
      rw [tE]
      cases h1 : tV R f q with
      | none => rw [h1] at hv; cases hv
      | some w =>
        rw [h1] at hv
        obtain ⟨hlt, hle, hor⟩ := hV q w hq ha h1
        simp only [] at hv
        by_cases c1 : bt R (nb R w.2 : Int) = 93
        · rw [if_pos c1] at hv
          obtain rfl := Option.some.inj hv
          obtain ⟨k0, k1, k2, k3, k4, k5⟩ := After (hor.imp id (·.2.1)) c1 (by decide)
          obtain ⟨g1, g2, g3, g4⟩ := hor.resolve_left k0
          have hg := nb_ge (s := R) w.2
          refine ⟨by show q < nb R w.2 + 1; omega, k5, ?_, k3, g3.trans k4, Kin.cons (q' := nb R w.2 + 1) (Kin.nil (Nat.le_refl _)) (by omega) g4 rfl⟩
          rw [g1]
          simp only []
          rw [k1, if_pos k2]
        · rw [if_neg c1] at hv
          by_cases c2 : bt R (nb R w.2 : Int) = 44
          · rw [if_pos c2] at hv
            obtain ⟨k0, k1, k2, k3, k4, k5⟩ := After (hor.imp id (·.2.1)) c2 (by decide)
            obtain ⟨g1, g2, g3, g4⟩ := hor.resolve_left k0
            have hg := nb_ge (s := R) w.2
            have hg2 := nb_ge (s := R) (nb R w.2 + 1)
            have hl2 := nb_le (s := R) (nb R w.2 + 1) (by omega)
            rcases k3.nb with hctl | ⟨m1, m2, m3⟩
            · rw [tE_ctl f hctl] at hv; cases hv
            cases h2 : tE R f (nb R (nb R w.2 + 1)) with
            | none => rw [h2] at hv; cases hv
            | some r =>
              rw [h2] at hv
              obtain rfl := Option.some.inj hv
              obtain ⟨p1, p2, p3, p4, p5, p6⟩ := hE _ r hl2 m2 h2
              refine ⟨by show q < r.2; omega, p2, ?_, p4, ((g3.trans k4).trans m3).trans p5, Kin.cons p6 (by omega) g4 rfl⟩
              rw [g1]
              simp only []
              rw [k1, if_neg (by omega), if_pos k2, m1, p3]
          · rw [if_neg c2] at hv; cases hv
    · rw [tM] at hv
      rw [tM]
      by_cases c0 : bt R (q : Int) = 34
      · rw [if_pos c0] at hv
        cases hqu : qE R (q + 1) with
        | none => rw [hqu] at hv; cases hv
        | some b =>
          rw [hqu] at hv
          simp only [] at hv
          obtain ⟨e1, x1, x2, x3⟩ := ha.quote c0 hqu
          have hqb := qE_gt hqu
          have hin := in_text c0 (by decide)
          have hbl := qE_le (by omega) hqu
          by_cases c1 : bt R (nb R b : Int) = 58
          · rw [if_pos c1] at hv
            obtain ⟨_, y1, y2, y3, y4, y5⟩ := After (.inr x2) c1 (by decide)
            have hgb := nb_ge (s := R) b
            have hga := nb_ge (s := R) (nb R b + 1)
            have hla := nb_le (s := R) (nb R b + 1) (by omega)
            rcases y3.nb with hctl | ⟨z1, z2, z3⟩
            · rw [tV_ctl f hctl] at hv; cases hv
            cases h1 : tV R f (nb R (nb R b + 1)) with
            | none => rw [h1] at hv; cases hv
            | some w =>
              rw [h1] at hv
              simp only [] at hv
              obtain ⟨hlt, hle, hor⟩ := hV _ w hla z2 h1
              have hg := nb_ge (s := R) w.2
              by_cases c2 : bt R (nb R w.2 : Int) = 125
              · rw [if_pos c2] at hv
                obtain rfl := Option.some.inj hv
                obtain ⟨k0, k1, k2, k3, k4, k5⟩ := After (hor.imp id (·.2.1)) c2 (by decide)
                obtain ⟨g1, g2, g3, g4⟩ := hor.resolve_left k0
                refine ⟨by show q < nb R w.2 + 1; omega, k5, ?_, k3, (((x3.lf.trans y4).trans z3).trans g3).trans k4, Kin.cons2 (q' := nb R w.2 + 1) (Kin.nil (Nat.le_refl _)) rfl (by omega) g4 (by omega) hbl x3, rfl⟩
                rw [if_pos e1, x1]
                simp only []
                rw [y1, if_pos y2, z1, g1]
                simp only []
                rw [k1, if_pos k2]
              · rw [if_neg c2] at hv
                by_cases c3 : bt R (nb R w.2 : Int) = 44
                · rw [if_pos c3] at hv
                  obtain ⟨k0, k1, k2, k3, k4, k5⟩ := After (hor.imp id (·.2.1)) c3 (by decide)
                  obtain ⟨g1, g2, g3, g4⟩ := hor.resolve_left k0
                  have hg2 := nb_ge (s := R) (nb R w.2 + 1)
                  have hl2 := nb_le (s := R) (nb R w.2 + 1) (by omega)
                  rcases k3.nb with hctl | ⟨m1, m2, m3⟩
                  · rw [tM_ctl f hctl] at hv; cases hv
                  cases h2 : tM R f (nb R (nb R w.2 + 1)) with
                  | none => rw [h2] at hv; cases hv
                  | some r =>
                    rw [h2] at hv
                    obtain rfl := Option.some.inj hv
                    obtain ⟨p1, p2, p3, p4, p5, p6, p7⟩ := hM _ r hl2 m2 h2
                    refine ⟨by show q < r.2.2; omega, p2, ?_, p4, (((((x3.lf.trans y4).trans z3).trans g3).trans k4).trans m3).trans p5, Kin.cons2 p6 p7 (by omega) g4 (by omega) hbl x3, by simp [p7]⟩
                    rw [if_pos e1, x1]
                    simp only []
                    rw [y1, if_pos y2, z1, g1]
                    simp only []
                    rw [k1, if_neg (by omega), if_pos k2, m1, p3]
                · rw [if_neg c3] at hv; cases hv
          · rw [if_neg c1] at hv; cases hv
      · rw [if_neg c0] at hv; cases hv
end Go.Proofs.Ytlllokmipeoelaa.ReadXFnPrSpec
end
section
namespace Go.Proofs.Ytlllokmipeoelaa.ReadXFnPrSpec
open Go.RowKit Go.Proofs.Ytlllokmipeoelaa.Pr Go.Proofs.Ytlllokmipeoelaa.Base Go.Proofs.Ytlllokmipeoelaa.XFnPrSpec Go.Proofs.YtlllokmipeoelaaW.PrintWords Go.Proofs.YtlllokmipeoelaaW.PrintLast
set_option linter.unusedVariables false
set_option linter.unusedSimpArgs false
/-- The reference's loop: the place, the last token's place, what is made of what is ahead of the place. -/
inductive Reach (l : List Int) : Nat → Int → List Int → Prop
  | start : Reach l 0 (-1) []
  | com (i : Nat) (last : Int) (pre : List Int) (e : Nat) : Reach l i last pre → Com l i e → Reach l e last (pre ++ (cutp l i e).map wr)
  | str (i : Nat) (last : Int) (pre : List Int) (m : Nat) : Reach l i last pre → rd l (i : Int) = 34 → Fj.quo (l.drop (i + 1)) = some m → Reach l (i + 1 + m) i (pre ++ 34 :: (l.drop (i + 1)).take m)
  | brk (i : Nat) (last : Nat) (pre : List Int) : Reach l i last pre → (rd l (i : Int) = 125 ∨ rd l (i : Int) = 93) → rd l (last : Int) = 44 → Reach l (i + 1) i (pre.set last 32 ++ [rd l (i : Int)])
  | tok (i : Nat) (last : Int) (pre : List Int) : Reach l i last pre → i < l.length → Fj.blank (rd l (i : Int)) = false → rd l (i : Int) ≠ 47 → rd l (i : Int) ≠ 34 →
      ((rd l (i : Int) = 125 ∨ rd l (i : Int) = 93) → 0 ≤ last → rd l last ≠ 44) → Reach l (i + 1) i (pre ++ [rd l (i : Int)])
  | bl (i : Nat) (last : Int) (pre : List Int) : Reach l i last pre → i < l.length → Fj.blank (rd l (i : Int)) = true → Reach l (i + 1) last (pre ++ [rd l (i : Int)])
inductive Bls : List Int → List Int → Prop
  | nil : Bls [] []
  | ws (a b : Int) (r p : List Int) : White a → White b → Bls r p → Bls (a :: r) (b :: p)
  | lf (r p : List Int) : Bls r p → Bls (10 :: r) (10 :: p)
theorem Bls.append {r p r' p' : List Int} (h : Bls r p) (g : Bls r' p') : Bls (r ++ r') (p ++ p') := by
  induction h with
  | nil => exact g
  | ws a b r p ha hb _ ih => exact Bls.ws a b _ _ ha hb ih
  | lf r p _ ih => exact Bls.lf _ _ ih
theorem Bls.sim {r p : List Int} (h : Bls r p) : Sim r p := by
  induction h with
  | nil => exact Sim.nil
  | ws a b r p ha hb _ ih => exact Sim.bl a b _ _ ha hb ih
  | lf r p _ ih => exact Sim.same 10 _ _ (by decide) ih
theorem Bls.low {r p : List Int} (h : Bls r p) : ∀ c ∈ p, c ≤ 32 := by
  induction h with
  | nil => intro c hc; cases hc
  | ws a b r p ha hb _ ih =>
    intro c hc
    rcases List.mem_cons.mp hc with rfl | hc
    · exact (white_lt hb).1
    · exact ih c hc
  | lf r p _ ih =>
    intro c hc
    rcases List.mem_cons.mp hc with rfl | hc
    · decide
    · exact ih c hc
theorem Bls.com : ∀ x : List Int, Bls (x.map wr) (x.map wh)
  | [] => Bls.nil
  | c :: x => by
    simp only [List.map_cons]
    by_cases h : c = 10
    · subst h
      exact Bls.lf _ _ (Bls.com x)
    · rw [show wr c = 32 from if_neg h]
      refine Bls.ws _ _ _ _ (.inl rfl) ?_ (Bls.com x)
      unfold wh White
      split <;> omega
theorem Sim.append {r p r' p' : List Int} (h : Sim r p) (g : Sim r' p') : Sim (r ++ r') (p ++ p') := by
  induction h with
  | nil => exact g
  | same c r p hc _ ih => exact Sim.same c _ _ hc ih
  | bl a b r p ha hb _ ih => exact Sim.bl a b _ _ ha hb ih
  | str q r p hq _ ih => simpa using Sim.str q _ _ hq ih
  | ctl c r p hc hb => exact Sim.ctl c _ _ hc hb
theorem Sim.self {r p : List Int} (h : Sim r p) : Sim r r := by
  induction h with
  | nil => exact Sim.nil
  | same c r p hc _ ih => exact Sim.same c _ _ hc ih
  | bl a b r p ha hb _ ih => exact Sim.bl a a _ _ ha ha ih
  | str q r p hq _ ih => exact Sim.str q _ _ hq ih
  | ctl c r p hc hb => exact Sim.ctl c _ _ hc hb
theorem kc_low : ∀ (x y : List Int), (∀ c ∈ x, c ≤ 32) → kc (x ++ y) = x ++ kc y
  | [], y, _ => rfl
  | c :: x, y, h => by
    rw [List.cons_append, kc, if_pos (h c (by simp)), kc_low x y fun d hd => h d (by simp [hd])]
    rfl
theorem kill_low (x : List Int) (h : ∀ c ∈ x, c ≤ 32) : kill x = x := by
  unfold kill
  have := kc_low x.reverse [] (fun c hc => h c (by simpa using hc))
  simp only [List.append_nil, kc] at this
  rw [this, List.reverse_reverse]
theorem kill_tok (a b : List Int) (c : Int) (hb : ∀ d ∈ b, d ≤ 32) (hc : 33 ≤ c) : kill (a ++ [c] ++ b) = a ++ [if c = 44 then 32 else c] ++ b := by
  unfold kill
  have e : (a ++ [c] ++ b).reverse = b.reverse ++ c :: a.reverse := by simp
  rw [e, kc_low _ _ (fun d hd => hb d (by simpa using hd)), kc, if_neg (by omega)]
  by_cases h : c = 44
  · rw [if_pos h, if_pos h]; simp
  · rw [if_neg h, if_neg h]; simp
theorem quo_end : ∀ (m : Nat) (q : List Int), q.length ≤ m → Fj.quo q = some q.length → ∃ r, q = r ++ [34]
  | m, [], _, h => by simp [Fj.quo] at h
  | 0, c :: q, hm, h => by simp at hm
  | m + 1, c :: q, hm, h => by
    simp only [List.length_cons] at hm
    rw [quo_cons] at h
    by_cases c1 : c = 34
    · rw [if_pos c1, List.length_cons] at h
      have hq : q = [] := List.length_eq_zero_iff.mp (by have := Option.some.inj h; omega)
      subst hq c1
      exact ⟨[], rfl⟩
    rw [if_neg c1] at h
    by_cases c2 : c < 32
    · rw [if_pos c2] at h; cases h
    rw [if_neg c2] at h
    by_cases c3 : c = 92
    · rw [if_pos c3] at h
      match q, h with
      | [], h => cases h
      | d :: q2, h =>
        simp only [List.length_cons] at h hm ⊢
        by_cases c4 : Fj.simple8 d = true
        · rw [if_pos c4] at h
          obtain ⟨x, hx, hx2⟩ := Option.map_eq_some_iff.mp h
          obtain ⟨r, rfl⟩ := quo_end m q2 (by omega) (by rw [hx]; congr 1; omega)
          exact ⟨c :: d :: r, rfl⟩
        rw [if_neg c4] at h
        by_cases c5 : d = 117
        · rw [if_pos c5] at h
          match q2, h with
          | [], h => cases h
          | [_], h => cases h
          | [_, _], h => cases h
          | [_, _, _], h => cases h
          | a :: b :: e :: f :: q3, h =>
            simp only [List.length_cons] at h hm ⊢
            by_cases c6 : (Fj.hexd a && (Fj.hexd b && (Fj.hexd e && Fj.hexd f))) = true
            · rw [if_pos c6] at h
              obtain ⟨x, hx, hx2⟩ := Option.map_eq_some_iff.mp h
              obtain ⟨r, rfl⟩ := quo_end m q3 (by omega) (by rw [hx]; congr 1; omega)
              exact ⟨c :: d :: a :: b :: e :: f :: r, rfl⟩
            · rw [if_neg c6] at h; cases h
        · rw [if_neg c5] at h; cases h
    · rw [if_neg c3] at h
      obtain ⟨x, hx, hx2⟩ := Option.map_eq_some_iff.mp h
      rw [List.length_cons] at hx2
      obtain ⟨r, rfl⟩ := quo_end m q (by omega) (by rw [hx]; congr 1; omega)
      exact ⟨c :: r, rfl⟩
/-- A string's inside goes by its own bytes alone. -/
theorem quo_take : ∀ (m : Nat) (q : List Int) (n : Nat), q.length ≤ m → Fj.quo q = some n → Fj.quo (q.take n) = some n
  | m, [], n, _, h => by simp [Fj.quo] at h
  | 0, c :: q, n, hm, h => by simp at hm
  | m + 1, c :: q, n, hm, h => by
    simp only [List.length_cons] at hm
    rw [quo_cons] at h
    by_cases c1 : c = 34
    · rw [if_pos c1] at h
      obtain rfl := Option.some.inj h
      subst c1
      rfl
    rw [if_neg c1] at h
    by_cases c2 : c < 32
    · rw [if_pos c2] at h; cases h
    rw [if_neg c2] at h
    by_cases c3 : c = 92
    · rw [if_pos c3] at h
      match q, h with
      | [], h => cases h
      | d :: q2, h =>
        simp only [List.length_cons] at h hm ⊢
        by_cases c4 : Fj.simple8 d = true
        · rw [if_pos c4] at h
          obtain ⟨x, hx, rfl⟩ := Option.map_eq_some_iff.mp h
          have := quo_take m q2 x (by omega) hx
          simp only [List.take_succ_cons]
          rw [quo_cons, if_neg c1, if_neg c2, if_pos c3]
          simp only []
          rw [if_pos c4, this]; rfl
        rw [if_neg c4] at h
        by_cases c5 : d = 117
        · rw [if_pos c5] at h
          match q2, h with
          | [], h => cases h
          | [_], h => cases h
          | [_, _], h => cases h
          | [_, _, _], h => cases h
          | a :: b :: e :: f :: q3, h =>
            simp only [List.length_cons] at h hm ⊢
            by_cases c6 : (Fj.hexd a && (Fj.hexd b && (Fj.hexd e && Fj.hexd f))) = true
            · rw [if_pos c6] at h
              obtain ⟨x, hx, rfl⟩ := Option.map_eq_some_iff.mp h
              have := quo_take m q3 x (by omega) hx
              simp only [List.take_succ_cons]
              rw [quo_cons, if_neg c1, if_neg c2, if_pos c3]
              simp only []
              rw [if_neg c4, if_pos c5, if_pos c6, this]; rfl
            · rw [if_neg c6] at h; cases h
        · rw [if_neg c5] at h; cases h
    · rw [if_neg c3] at h
      obtain ⟨x, hx, rfl⟩ := Option.map_eq_some_iff.mp h
      have := quo_take m q x (by omega) hx
      rw [List.take_succ_cons, quo_cons, if_neg c1, if_neg c2, if_neg c3, this]; rfl
/-- A token: one byte, or a string. -/
def Tok (c : Int) (t : List Int) : Prop := (t = [c] ∧ 33 ≤ c ∧ c ≠ 34) ∨ (c = 34 ∧ ∃ q, t = 34 :: q ∧ Fj.quo q = some q.length)
theorem Tok.sim {c : Int} {t : List Int} (h : Tok c t) : Sim t t := by
  rcases h with ⟨rfl, h1, h2⟩ | ⟨rfl, q, rfl, hq⟩
  · exact Sim.same c _ _ h2 Sim.nil
  · simpa using Sim.str q [] [] hq Sim.nil
theorem Tok.kill {c : Int} {t : List Int} (h : Tok c t) (a b : List Int) (hb : ∀ d ∈ b, d ≤ 32) : kill (a ++ t ++ b) = if c = 44 then a ++ [32] ++ b else a ++ t ++ b := by
  rcases h with ⟨rfl, h1, h2⟩ | ⟨rfl, q, rfl, hq⟩
  · rw [kill_tok a b c hb h1]
    by_cases hc : c = 44
    · rw [if_pos hc, if_pos hc]
    · rw [if_neg hc, if_neg hc]
  · obtain ⟨r, rfl⟩ := quo_end _ q (Nat.le_refl _) hq
    have := kill_tok (a ++ 34 :: r) b 34 hb (by decide)
    rw [if_neg (by decide)] at this ⊢
    simpa using this
/-- The state of both: no token yet; the last token and blanks behind it; or a control character that spoils the text. -/
def Inv (l : List Int) (last : Int) (R P : List Int) : Prop :=
  (last = -1 ∧ Bls R P) ∨
  (∃ aR aP t bR bP c, R = aR ++ t ++ bR ∧ P = aP ++ t ++ bP ∧ Sim aR aP ∧ Bls bR bP ∧ last = (aR.length : Int) ∧ aP.length = aR.length ∧ rd l (aR.length : Int) = c ∧ Tok c t) ∨
  (∃ a c b, R = a ++ c :: b ∧ Sim a a ∧ c < 32 ∧ Fj.blank c = false ∧ rd l (a.length : Int) = c ∧ (a.length : Int) ≤ last)
theorem Inv.sim {l : List Int} {last : Int} {R P : List Int} (h : Inv l last R P) : Sim R P ∨ Sim R (R ++ [0]) := by
  rcases h with ⟨_, h⟩ | ⟨aR, aP, t, bR, bP, c, rfl, rfl, h1, h2, _, _, _, h3⟩ | ⟨a, c, b, rfl, h1, h2, h3, _, _⟩
  · exact .inl h.sim
  · exact .inl ((h1.append h3.sim).append h2.sim)
  · exact .inr (by rw [List.append_assoc]; exact h1.append (Sim.ctl c b _ h2 h3))
theorem rd_at {l : List Int} {i : Nat} (h : i < l.length) : l.drop i = rd l (i : Int) :: l.drop (i + 1) := by
  rw [List.drop_eq_getElem_cons h]
  congr 1
  unfold rd
  simp only [Int.toNat_natCast, List.getD_eq_getElem?_getD]
  rw [List.getElem?_eq_getElem h]
  rfl
theorem rd_lt {l : List Int} {i : Nat} {c : Int} (h : rd l (i : Int) = c) (hc : c ≠ 0) : i < l.length := by
  refine Nat.lt_of_not_le fun hx => hc ?_
  rw [← h, rd_out l _ (by simpa using hx)]
theorem kc_len : ∀ x, (kc x).length = x.length
  | [] => rfl
  | c :: r => by
    rw [kc]
    split
    · simp [kc_len r]
    · split <;> rfl
theorem kill_len (x : List Int) : (kill x).length = x.length := by unfold kill; rw [List.length_reverse, kc_len, List.length_reverse]
/-- A control character outside of strings. -/
def Dead (l : List Int) (last : Int) (R : List Int) : Prop := ∃ a c b, R = a ++ c :: b ∧ Sim a a ∧ c < 32 ∧ Fj.blank c = false ∧ rd l (a.length : Int) = c ∧ (a.length : Int) ≤ last
theorem Inv.pre {l : List Int} {last : Int} {R P : List Int} (h : Inv l last R P) : Sim R P ∨ Dead l last R := by
  rcases h with ⟨_, h⟩ | ⟨aR, aP, t, bR, bP, c, rfl, rfl, h1, h2, _, _, _, h3⟩ | h
  · exact .inl h.sim
  · exact .inl ((h1.append h3.sim).append h2.sim)
  · exact .inr h
theorem Dead.more {l : List Int} {last last' : Int} {R : List Int} (h : Dead l last R) (t : List Int) (hl : last ≤ last') : Dead l last' (R ++ t) := by
  obtain ⟨a, c, b, rfl, h1, h2, h3, h4, h5⟩ := h
  exact ⟨a, c, b ++ t, by simp, h1, h2, h3, h4, by omega⟩
theorem Inv.blanks {l : List Int} {last : Int} {R P b b' : List Int} (h : Inv l last R P) (g : Bls b b') : Inv l last (R ++ b) (P ++ b') := by
  rcases h with ⟨h0, h⟩ | ⟨aR, aP, t, bR, bP, c, rfl, rfl, h1, h2, h3⟩ | h
  · exact .inl ⟨h0, h.append g⟩
  · exact .inr (.inl ⟨aR, aP, t, bR ++ b, bP ++ b', c, by simp, by simp, h1, h2.append g, h3⟩)
  · exact .inr (.inr (Dead.more h b (Int.le_refl _)))
theorem Inv.token {l : List Int} {last c : Int} {i : Nat} {R P t : List Int} (h : Sim R P ∨ Dead l last R) (hR : R.length = i) (hP : P.length = i) (hl : last < i) (hc : rd l (i : Int) = c) (ht : Tok c t) : Inv l i (R ++ t) (P ++ t) := by
  rcases h with h | h
  · exact .inr (.inl ⟨R, P, t, [], [], c, by simp, by simp, h, Bls.nil, by rw [hR], by omega, by rw [hR]; exact hc, ht⟩)
  · exact .inr (.inr (h.more t (by omega)))
theorem reach_run {l : List Int} {i : Nat} {last : Int} {R : List Int} (h : Reach l i last R) :
    R.length = i ∧ i ≤ l.length ∧ last < i ∧ -1 ≤ last ∧ ∃ acc, acc.length = i ∧ Inv l last R acc ∧ ∀ fin, Run l i acc fin → Run l 0 [] fin := by
  induction h with
  | start => exact ⟨rfl, Nat.zero_le _, by decide, Int.le_refl _, [], rfl, .inl ⟨rfl, Bls.nil⟩, fun _ h => h⟩
  | com i last pre e hr hc ih =>
    obtain ⟨h1, h2, h3, h4, acc, h5, h6, h7⟩ := ih
    obtain ⟨g1, g2⟩ := hc.lt
    have hp := cutp_len g2 (by omega : i ≤ e)
    refine ⟨by rw [List.length_append, List.length_map]; omega, g2, by omega, h4, acc ++ (cutp l i e).map wh, by rw [List.length_append, List.length_map]; omega, h6.blanks (Bls.com _), fun fin hf => h7 fin (Run.com i acc fin e hc hf)⟩
  | str i last pre m hr hc hq ih =>
    obtain ⟨h1, h2, h3, h4, acc, h5, h6, h7⟩ := ih
    have hm := quo_le _ _ _ (Nat.le_refl _) hq
    have hi := rd_lt hc (by decide)
    rw [List.length_drop] at hm
    have hlen : ((l.drop (i + 1)).take m).length = m := by rw [List.length_take, List.length_drop]; omega
    refine ⟨by rw [List.length_append, List.length_cons]; omega, by omega, by omega, by omega, _, ?_, Inv.token h6.pre h1 h5 h3 hc (.inr ⟨rfl, _, rfl, by rw [hlen]; exact quo_take _ _ _ (Nat.le_refl _) hq⟩), fun fin hf => h7 fin (Run.str i acc fin m hc hq hf)⟩
    rw [List.length_append, List.length_cons]; omega
  | brk i last pre hr hc hl ih =>
    obtain ⟨h1, h2, h3, h4, acc, h5, h6, h7⟩ := ih
    have hi : i < l.length := by rcases hc with hc | hc <;> exact rd_lt hc (by decide)
    have hpre : Sim (pre.set last 32) (kill acc) ∨ Dead l last (pre.set last 32) := by
      rcases h6 with ⟨h0, _⟩ | ⟨aR, aP, t, bR, bP, c, rfl, rfl, k1, k2, k3, k4, k5, k6⟩ | ⟨a, c, b, rfl, k1, k2, k3, k4, k5⟩
      · omega
      · left
        obtain rfl : last = aR.length := by omega
        rw [hl] at k5
        subst k5
        have ht : t = [44] := by
          rcases k6 with ⟨h, _, _⟩ | ⟨h, _⟩
          · exact h
          · cases h
        subst ht
        rw [k6.kill _ _ k2.low, if_pos rfl]
        have e : (aR ++ [(44 : Int)] ++ bR).set aR.length 32 = aR ++ [32] ++ bR := by simp
        rw [e]
        exact (k1.append (Sim.same 32 _ _ (by decide) Sim.nil)).append k2.sim
      · right
        have hne : a.length ≠ last := fun e => by
          rw [e, hl] at k4
          omega
        refine ⟨a, c, b.set (last - a.length - 1) 32, ?_, k1, k2, k3, k4, k5⟩
        rw [List.set_append, if_neg (by omega), show last - a.length = (last - a.length - 1) + 1 by omega]
        rfl
    have hc33 : 33 ≤ rd l (i : Int) ∧ rd l (i : Int) ≠ 34 := by rcases hc with hc | hc <;> rw [hc] <;> decide
    refine ⟨by rw [List.length_append, List.length_set]; simp [h1], hi, by omega, by omega, _, ?_, Inv.token hpre (by rw [List.length_set]; exact h1) (by rw [kill_len]; exact h5) h3 rfl (.inl ⟨rfl, hc33⟩), fun fin hf => h7 fin (Run.brk i acc fin hc hf)⟩
    rw [List.length_append, kill_len]; simp [h5]
  | tok i last pre hr hi hb h47 h34 hk ih =>
    obtain ⟨h1, h2, h3, h4, acc, h5, h6, h7⟩ := ih
    by_cases c33 : rd l (i : Int) < 33
    · have c32 : rd l (i : Int) < 32 := by
        by_cases e : rd l (i : Int) = 32
        · rw [e] at hb; cases hb
        · omega
      refine ⟨by simp [h1], hi, by omega, by omega, acc ++ [rd l (i : Int)], by simp [h5], .inr (.inr ?_), fun fin hf => h7 fin (Run.oth i acc fin hi h47 h34 (by omega) (by omega) hf)⟩
      rcases h6.pre with g | g
      · exact ⟨pre, _, [], rfl, g.self, c32, hb, by rw [h1], by omega⟩
      · exact g.more _ (by omega)
    · have ht : Tok (rd l (i : Int)) [rd l (i : Int)] := .inl ⟨rfl, by omega, h34⟩
      by_cases cb : rd l (i : Int) = 125 ∨ rd l (i : Int) = 93
      · have hpre : Sim pre (kill acc) ∨ Dead l last pre := by
          rcases h6 with ⟨h0, g⟩ | ⟨aR, aP, t, bR, bP, c, rfl, rfl, k1, k2, k3, k4, k5, k6⟩ | g
          · rw [kill_low _ g.low]
            exact .inl g.sim
          · left
            rw [k6.kill _ _ k2.low, if_neg ?_]
            · exact (k1.append k6.sim).append k2.sim
            · have := hk cb (by omega)
              rw [k3, k5] at this
              exact this
          · exact .inr g
        refine ⟨by simp [h1], hi, by omega, by omega, kill acc ++ [rd l (i : Int)], by simp [kill_len, h5], Inv.token hpre h1 (by rw [kill_len]; exact h5) h3 rfl ht, fun fin hf => h7 fin (Run.brk i acc fin cb hf)⟩
      · exact ⟨by simp [h1], hi, by omega, by omega, acc ++ [rd l (i : Int)], by simp [h5], Inv.token h6.pre h1 h5 h3 rfl ht, fun fin hf => h7 fin (Run.oth i acc fin hi h47 h34 (fun e => cb (.inl e)) (fun e => cb (.inr e)) hf)⟩
  | bl i last pre hr hi hb ih =>
    obtain ⟨h1, h2, h3, h4, acc, h5, h6, h7⟩ := ih
    have hbl : Bls [rd l (i : Int)] [rd l (i : Int)] ∧ rd l (i : Int) ≤ 32 := by
      unfold Fj.blank at hb
      simp only [Bool.or_eq_true, beq_iff_eq] at hb
      rcases hb with e | e | e | e <;> rw [e]
      · exact ⟨Bls.ws _ _ _ _ (.inl rfl) (.inl rfl) Bls.nil, by decide⟩
      · exact ⟨Bls.lf _ _ Bls.nil, by decide⟩
      · exact ⟨Bls.ws _ _ _ _ (.inr (.inl rfl)) (.inr (.inl rfl)) Bls.nil, by decide⟩
      · exact ⟨Bls.ws _ _ _ _ (.inr (.inr rfl)) (.inr (.inr rfl)) Bls.nil, by decide⟩
    exact ⟨by simp [h1], hi, by omega, h4, acc ++ [rd l (i : Int)], by simp [h5], h6.blanks hbl.1, fun fin hf => h7 fin (Run.oth i acc fin hi (by omega) (by omega) (by omega) (by omega) hf)⟩
/-- What both make of a text. -/
theorem reach_end {l : List Int} {last : Int} {R : List Int} (h : Reach l l.length last R) :
    R.length = l.length ∧ ∃ P, Run l 0 [] P ∧ P.length = l.length ∧ (Sim R P ∨ Sim R (R ++ [0])) := by
  obtain ⟨h1, h2, h3, h4, acc, h5, h6, h7⟩ := reach_run h
  exact ⟨h1, acc, h7 acc (Run.stop _ _ (Nat.le_refl _)), h5, h6.sim⟩
/-- Bytes are bytes. -/
def Byt (l : List Int) : Prop := ∀ c ∈ l, 0 ≤ c ∧ c ≤ 255
theorem Byt.append {a b : List Int} (h : Byt a) (g : Byt b) : Byt (a ++ b) := fun c hc => (List.mem_append.mp hc).elim (h c) (g c)
theorem Byt.one {c : Int} (h : 0 ≤ c ∧ c ≤ 255) : Byt [c] := fun d hd => by rw [List.mem_singleton.mp hd]; exact h
theorem Byt.sub {a b : List Int} (h : Byt a) (hs : ∀ c ∈ b, c ∈ a) : Byt b := fun c hc => h c (hs c hc)
theorem Byt.cutp {l : List Int} (h : Byt l) (i e : Nat) : Byt (cutp l i e) := h.sub fun c hc => List.mem_of_mem_drop (List.mem_of_mem_take hc)
theorem Byt.rd {l : List Int} (h : Byt l) (i : Int) : 0 ≤ rd l i ∧ rd l i ≤ 255 := by
  by_cases c : i.toNat < l.length
  · rw [rd_get l i c]; exact h _ (List.getElem_mem c)
  · rw [rd_out l i (by omega)]; decide
theorem Byt.map {l : List Int} {g : Int → Int} (h : Byt l) (hg : ∀ c, 0 ≤ c ∧ c ≤ 255 → 0 ≤ g c ∧ g c ≤ 255) : Byt (l.map g) := fun c hc => by
  obtain ⟨d, hd, rfl⟩ := List.mem_map.mp hc
  exact hg d (h d hd)
theorem wr_byt (c : Int) (h : 0 ≤ c ∧ c ≤ 255) : 0 ≤ wr c ∧ wr c ≤ 255 := by unfold wr; split <;> omega
theorem wh_byt (c : Int) (h : 0 ≤ c ∧ c ≤ 255) : 0 ≤ wh c ∧ wh c ≤ 255 := by unfold wh; split <;> omega
theorem reach_byt {l : List Int} (hl : Byt l) {i : Nat} {last : Int} {R : List Int} (h : Reach l i last R) : Byt R := by
  induction h with
  | start => exact fun c hc => by cases hc
  | com i last pre e hr hc ih => exact ih.append ((hl.cutp _ _).map wr_byt)
  | str i last pre m hr h34 hq ih => exact ih.append (fun c hc => by
      rcases List.mem_cons.mp hc with rfl | hc
      · decide
      · exact hl c (List.mem_of_mem_drop (List.mem_of_mem_take hc)))
  | brk i last pre hr hc hl' ih =>
    refine Byt.append ?_ (Byt.one (hl.rd _))
    intro c hc
    rcases List.mem_or_eq_of_mem_set hc with hc | rfl
    · exact ih c hc
    · decide
  | tok i last pre hr hi hb h47 h34 hk ih => exact ih.append (Byt.one (hl.rd _))
  | bl i last pre hr hi hb ih => exact ih.append (Byt.one (hl.rd _))
theorem kc_byt : ∀ {x : List Int}, Byt x → Byt (kc x)
  | [], _ => fun c hc => by cases hc
  | c :: r, h => by
    have hr : Byt r := h.sub fun d hd => List.mem_cons_of_mem _ hd
    have h1 := h c (List.mem_cons_self ..)
    rw [kc]
    split
    · exact fun d hd => by
        rcases List.mem_cons.mp hd with rfl | hd
        · exact h1
        · exact kc_byt hr d hd
    · split
      · exact fun d hd => by
          rcases List.mem_cons.mp hd with rfl | hd
          · decide
          · exact hr d hd
      · exact h
theorem kill_byt {x : List Int} (h : Byt x) : Byt (kill x) := by
  unfold kill
  have h1 : Byt x.reverse := h.sub fun c hc => List.mem_reverse.mp hc
  exact (kc_byt h1).sub fun c hc => List.mem_reverse.mp hc
theorem run_byt {l : List Int} (hl : Byt l) {i : Nat} {acc fin : List Int} (h : Run l i acc fin) : Byt acc → Byt fin := by
  induction h with
  | stop _ _ _ => exact id
  | com i acc fin e hc hr ih => exact fun h => ih (h.append ((hl.cutp _ _).map wh_byt))
  | str i acc fin m h34 hq hr ih => exact fun h => ih (h.append fun c hc => by
      rcases List.mem_cons.mp hc with rfl | hc
      · decide
      · exact hl c (List.mem_of_mem_drop (List.mem_of_mem_take hc)))
  | brk i acc fin hc hr ih => exact fun h => ih ((kill_byt h).append (Byt.one (hl.rd _)))
  | oth i acc fin hi h47 h34 h125 h93 hr ih => exact fun h => ih (h.append (Byt.one (hl.rd _)))
theorem com_unique {l : List Int} {i e e' : Nat} (h : Com l i e) (g : Com l i e') : e = e' := by
  cases h with
  | line a1 a2 a3 a4 a5 a6 =>
    cases g with
    | line b1 b2 b3 b4 b5 b6 =>
      rcases Nat.lt_trichotomy e e' with h | h | h
      · rcases a6 with a6 | a6
        · omega
        · exact absurd a6 (b5 e a3 h)
      · exact h
      · rcases b6 with b6 | b6
        · omega
        · exact absurd b6 (a5 e' b3 h)
    | block b1 b2 => omega
  | block a1 a2 a3 a4 a5 a6 a7 =>
    cases g with
    | line b1 b2 => omega
    | block b1 b2 b3 b4 b5 b6 b7 =>
      rcases Nat.lt_trichotomy e e' with h | h | h
      · exact absurd ⟨a5, by rw [show e - 2 + 1 = e - 1 by omega]; exact a6⟩ (b7 (e - 2) (by omega) (by omega))
      · exact h
      · exact absurd ⟨b5, by rw [show e' - 2 + 1 = e' - 1 by omega]; exact b6⟩ (a7 (e' - 2) (by omega) (by omega))
theorem com_is47 {l : List Int} {i e : Nat} (h : Com l i e) : rd l (i : Int) = 47 := by cases h <;> assumption
theorem run_det {l : List Int} {i : Nat} {acc fin : List Int} (h : Run l i acc fin) : ∀ fin', Run l i acc fin' → fin = fin' := by
  induction h with
  | stop i acc hi =>
    intro fin' g
    cases g with
    | stop _ _ _ => rfl
    | com _ _ _ e hc _ => have := hc.lt; omega
    | str _ _ _ m h34 _ _ => have := rd_lt h34 (by decide); omega
    | brk _ _ _ h _ => rcases h with h | h <;> (have := rd_lt h (by decide); omega)
    | oth _ _ _ h => omega
  | com i acc fin e hc hr ih =>
    intro fin' g
    have h47 := com_is47 hc
    cases g with
    | stop _ _ h => have := hc.lt; omega
    | com _ _ _ e' hc' g => rw [← com_unique hc hc'] at g; exact ih _ g
    | str _ _ _ m h34 _ _ => omega
    | brk _ _ _ h _ => omega
    | oth _ _ _ _ h => omega
  | str i acc fin m h34 hq hr ih =>
    intro fin' g
    cases g with
    | stop _ _ h => have := rd_lt h34 (by decide); omega
    | com _ _ _ e' hc' g => have := com_is47 hc'; omega
    | str _ _ _ m' _ hq' g =>
      rw [hq] at hq'
      obtain rfl := Option.some.inj hq'
      exact ih _ g
    | brk _ _ _ h _ => omega
    | oth _ _ _ _ _ h => omega
  | brk i acc fin hc hr ih =>
    intro fin' g
    cases g with
    | stop _ _ h => rcases hc with h' | h' <;> (have := rd_lt h' (by decide); omega)
    | com _ _ _ e' hc' g => have := com_is47 hc'; omega
    | str _ _ _ m' h34 _ _ => omega
    | brk _ _ _ _ g => exact ih _ g
    | oth _ _ _ _ _ _ h1 h2 _ => omega
  | oth i acc fin hi h47 h34 h125 h93 hr ih =>
    intro fin' g
    cases g with
    | stop _ _ h => omega
    | com _ _ _ e' hc' g => have := com_is47 hc'; omega
    | str _ _ _ m' h34 _ _ => omega
    | brk _ _ _ h _ => omega
    | oth _ _ _ _ _ _ _ _ g => exact ih _ g
end Go.Proofs.Ytlllokmipeoelaa.ReadXFnPrSpec
end
section
namespace Go.Proofs.Ytlllokmipeoelaa.ReadXFnPrSpec
open Go.RowKit Go.Proofs.Ytlllokmipeoelaa.Pr Go.Proofs.Ytlllokmipeoelaa.Base Go.Proofs.Ytlllokmipeoelaa.XFnPrSpec Go.Proofs.YtlllokmipeoelaaW.PrintWords Go.Proofs.YtlllokmipeoelaaW.PrintLast
set_option linter.unusedVariables false
set_option linter.unusedSimpArgs false
variable {s : ByteArray}
theorem strOf_bytes (l : List Int) (h : ∀ c ∈ l, 0 ≤ c ∧ c ≤ 255) : bytesOf (strOfNums l) = l := by
  unfold bytesOf strOfNums
  simp only [List.map_map]
  refine (List.map_congr_left (g := id) fun c hc => ?_).trans (List.map_id l)
  have := h c hc
  simp
  omega
abbrev B (s : ByteArray) : List Int := bytesOf s
theorem line_loop (hs : s.size ≤ 1000000) (x : Nat) (h47 : bt s (x : Int) = 47) (h1 : bt s ((x + 1 : Nat) : Int) = 47) (hx : x + 1 < s.size) : ∀ (m y : Nat), s.size - y ≤ m → x + 2 ≤ y → y ≤ s.size → (∀ k : Nat, x + 2 ≤ k → k < y → bt s (k : Int) ≠ 10) →
    Tot (fun k => spec_comment.l0 k s (x : Int) (y : Int)) (fun r => ∃ e : Nat, r = ((e : Int), true) ∧ Com (B s) x e)
  | m, y, hm, hxy, hy, hno => by
    have e1 : wrap64 ((x : Int) + 1) = ((x + 1 : Nat) : Int) := by rw [w64 (by omega) (by omega)]; rfl
    have a1 : (0 : Int) ≤ ((x + 1 : Nat) : Int) := by omega
    have a2 : ((x + 1 : Nat) : Int) < (s.size : Int) := by omega
    by_cases c : y < s.size
    · cases m with
      | zero => omega
      | succ m =>
        refine Tot.succ (fun k => by rw [spec_comment.l0, if_pos (show (y : Int) < (s.size : Int) by omega), e1, if_pos a1, if_pos a2, if_pos h1, if_pos (show (0 : Int) ≤ (y : Int) by omega)]) ?_
        by_cases c10 : bt s (y : Int) = 10
        · refine Tot.succ (fun k => by rw [spec_comment.j2, if_pos (beq_iff_eq.mpr c10)]) (Tot.ret ⟨y, rfl, ?_⟩)
          exact Com.line x y (by rw [rd_bytesOf]; exact h47) (by rw [rd_bytesOf]; exact h1) hxy (by rw [bytesOf_length]; omega) (fun k h2 h3 => by rw [rd_bytesOf]; exact hno k h2 h3) (.inr (by rw [rd_bytesOf]; exact c10))
        · refine Tot.succ (fun k => by rw [spec_comment.j2, if_neg (by rw [beq_eq_false_iff_ne.mpr c10]; decide), e1, if_pos a1, if_pos a2, if_neg (by omega), w64 (by omega) (by omega)]) ?_
          exact line_loop hs x h47 h1 hx m (y + 1) (by omega) (by omega) (by omega) fun k h2 h3 => by
            by_cases e : k = y
            · subst e; exact c10
            · exact hno k h2 (by omega)
    · obtain rfl : y = s.size := by omega
      refine Tot.succ (fun k => by rw [spec_comment.l0, if_neg (by omega), e1, if_pos a1, if_pos a2]) (Tot.ret ⟨s.size, ?_, ?_⟩)
      · rw [beq_iff_eq.mpr h1]
      · exact Com.line x s.size (by rw [rd_bytesOf]; exact h47) (by rw [rd_bytesOf]; exact h1) hxy (by rw [bytesOf_length]; omega) (fun k h2 h3 => by rw [rd_bytesOf]; exact hno k h2 h3) (.inl (by rw [bytesOf_length]))
theorem block_loop (hs : s.size ≤ 1000000) (x : Nat) (h47 : bt s (x : Int) = 47) (h1 : bt s ((x + 1 : Nat) : Int) = 42) (hx : x + 1 < s.size) : ∀ (m y : Nat), s.size - y ≤ m → x + 2 ≤ y → y ≤ s.size → (∀ k : Nat, x + 2 ≤ k → k + 1 < y → ¬ (bt s (k : Int) = 42 ∧ bt s ((k + 1 : Nat) : Int) = 47)) →
    Tot (fun k => spec_comment.l0 k s (x : Int) (y : Int)) (fun r => r.2 = false ∨ ∃ e : Nat, r = ((e : Int), true) ∧ Com (B s) x e)
  | m, y, hm, hxy, hy, hno => by
    have e1 : wrap64 ((x : Int) + 1) = ((x + 1 : Nat) : Int) := by rw [w64 (by omega) (by omega)]; rfl
    have e2 : wrap64 ((x : Int) + 2) = ((x + 2 : Nat) : Int) := by rw [w64 (by omega) (by omega)]; rfl
    have a1 : (0 : Int) ≤ ((x + 1 : Nat) : Int) := by omega
    have a2 : ((x + 1 : Nat) : Int) < (s.size : Int) := by omega
    by_cases c : y < s.size
    · cases m with
      | zero => omega
      | succ m =>
        have hnext : (y = x + 2 ∨ ¬ (bt s ((y - 1 : Nat) : Int) = 42 ∧ bt s (y : Int) = 47)) → Tot (fun k => spec_comment.l0 k s (x : Int) (wrap64 ((y : Int) + 1))) (fun r => r.2 = false ∨ ∃ e : Nat, r = ((e : Int), true) ∧ Com (B s) x e) := fun hh => by
          rw [w64 (by omega) (by omega)]
          exact block_loop hs x h47 h1 hx m (y + 1) (by omega) (by omega) (by omega) fun k h2 h3 => by
            by_cases e : k + 1 = y
            · rcases hh with hh | hh
              · omega
              · rw [show y - 1 = k by omega, ← e] at hh; exact hh
            · exact hno k h2 (by omega)
        refine Tot.succ (fun k => by rw [spec_comment.l0, if_pos (show (y : Int) < (s.size : Int) by omega), e1, if_pos a1, if_pos a2, if_neg (by omega)]) ?_
        refine Tot.succ (fun k => by rw [spec_comment.j2, if_neg (by decide), e1, e2, if_pos a1, if_pos a2, if_pos h1]) ?_
        refine Tot.ite (fun c2 => ?_) fun c2 => hnext (.inl (by omega))
        have e3 : wrap64 ((y : Int) - 1) = ((y - 1 : Nat) : Int) := by rw [w64 (by omega) (by omega)]; omega
        rw [e3]
        refine Tot.ite (fun _ => ?_) fun h => absurd (by omega) h
        refine Tot.ite (fun _ => ?_) fun h => absurd (by omega) h
        refine Tot.ite (fun c42 => ?_) fun c42 => hnext (.inr fun h => c42 h.1)
        refine Tot.ite (fun _ => ?_) fun h => absurd (by omega) h
        refine Tot.ite (fun _ => ?_) fun h => absurd (by omega) h
        refine Tot.ite (fun c47 => Tot.ret (.inr ⟨y + 1, by rw [w64 (by omega) (by omega)]; rfl, ?_⟩)) fun c47 => hnext (.inr fun h => c47 h.2)
        exact Com.block x (y + 1) (by rw [rd_bytesOf]; exact h47) (by rw [rd_bytesOf]; exact h1) (by omega) (by rw [bytesOf_length]; omega) (by rw [rd_bytesOf, show y + 1 - 2 = y - 1 by omega]; exact c42) (by rw [rd_bytesOf, show y + 1 - 1 = y by omega]; exact c47)
          fun k h2 h3 => by rw [rd_bytesOf, rd_bytesOf]; exact hno k h2 (by omega)
    · obtain rfl : y = s.size := by omega
      exact Tot.succ (fun k => by rw [spec_comment.l0, if_neg (by omega), e1, if_pos a1, if_pos a2]) (Tot.ret (.inl (by rw [h1]; rfl)))
theorem comment_is (hs : s.size ≤ 1000000) (x : Nat) (hx : x < s.size) : Tot (fun k => spec_comment.f k s (x : Int)) (fun r => (r = ((x : Int), true) ∧ bt s (x : Int) ≠ 47) ∨ r.2 = false ∨ ∃ e : Nat, r = ((e : Int), true) ∧ Com (B s) x e) := by
  have e1 : wrap64 ((x : Int) + 1) = ((x + 1 : Nat) : Int) := by rw [w64 (by omega) (by omega)]; rfl
  have e2 : wrap64 ((x : Int) + 2) = ((x + 2 : Nat) : Int) := by rw [w64 (by omega) (by omega)]; rfl
  unfold spec_comment.f
  rw [e1]
  refine Tot.ite (fun _ => ?_) fun h => absurd (by omega) h
  refine Tot.ite (fun _ => ?_) fun h => absurd (by omega) h
  refine Tot.ite (fun h47 => ?_) fun h47 => Tot.ret (.inl ⟨rfl, h47⟩)
  refine Tot.ite (fun _ => Tot.succ (fun k => by rw [spec_comment.j0, if_pos rfl]) (Tot.ret (.inr (.inl rfl)))) fun h => ?_
  have hx1 : x + 1 < s.size := by omega
  refine Tot.ite (fun _ => ?_) fun h => absurd (by omega) h
  refine Tot.ite (fun _ => ?_) fun h => absurd (by omega) h
  refine Tot.ite (fun c => Tot.succ (fun k => by rw [spec_comment.j0, if_neg (by decide), e2]) ?_) fun c => ?_
  · exact (line_loop hs x h47 c hx1 s.size (x + 2) (by omega) (Nat.le_refl _) (by omega) fun k h2 h3 => by omega).mono fun r h => .inr (.inr h)
  · by_cases c42 : bt s ((x + 1 : Nat) : Int) = 42
    · refine Tot.succ (fun k => by rw [c42, spec_comment.j0, if_neg (by decide), e2]) ?_
      exact (block_loop hs x h47 c42 hx1 s.size (x + 2) (by omega) (Nat.le_refl _) (by omega) fun k h2 h3 => by omega).mono fun r h => .inr h
    · exact Tot.succ (fun k => by rw [spec_comment.j0, if_pos (bne_iff_ne.mpr c42)]) (Tot.ret (.inr (.inl rfl)))
/-- What Places answers. -/
def plc (s : ByteArray) : Int × Int × Int × List SP × List PL × Bool := match tV s (2 * s.size + 3) (nb s 0) with
  | some v => if nb s v.2 = s.size then (v.1.f0, v.1.f1, v.1.f2, v.1.f3, v.1.f4, true) else (0, 0, 0, [], [], false)
  | none => (0, 0, 0, [], [], false)
theorem places_is (hs : s.size ≤ 1000000) : Tot (fun k => spec_Places.f k s) (fun r => r = plc s) := by
  unfold spec_Places.f plc
  refine Tot.bind (blanks_nb hs 0 (Nat.zero_le _)) fun r hr => ?_
  subst hr
  refine Tot.bind (value_tree hs (nb s 0) (nb_le 0 (Nat.zero_le _)) (2 * s.size + 3) (Nat.le_refl _)) fun r hr => ?_
  cases hv : tV s (2 * s.size + 3) (nb s 0) with
  | none =>
    rw [hv] at hr
    refine Tot.ite (fun c => ?_) fun c => Tot.ret rfl
    rw [hr.1] at c; cases c
  | some v =>
    rw [hv] at hr
    obtain ⟨rfl, h1, h2⟩ := hr
    obtain ⟨⟨v0, v1, v2, v3, v4⟩, y⟩ := v
    simp only [] at h1 h2 ⊢
    refine Tot.ite (fun _ => ?_) fun c => absurd trivial c
    refine Tot.bind (blanks_nb hs y h2) fun r hr => ?_
    subst hr
    simp only []
    refine Tot.ite (fun c => Tot.ret ?_) fun c => Tot.ret ?_
    · rw [if_pos (by omega)]
    · rw [if_neg (by omega)]
theorem bl_is (pre : List Int) (l : List Int) (x : Nat) (hp : pre.length = x) : ∀ n, x + n ≤ l.length → spec_Uncommented.bl (pre ++ l.drop x) x n = pre ++ (cutp l x (x + n)).map wr ++ l.drop (x + n)
  | 0, _ => by simp [spec_Uncommented.bl, cutp]
  | n + 1, h => by
    have ih := bl_is pre l x hp n (by omega)
    have hlen : (pre ++ (cutp l x (x + n)).map wr).length = x + n := by
      rw [List.length_append, List.length_map, cutp_len (by omega) (by omega)]
      omega
    have hx : rd (spec_Uncommented.bl (pre ++ l.drop x) x n) ((x + n : Nat) : Int) = rd l ((x + n : Nat) : Int) := by
      rw [ih]
      unfold rd
      simp only [Int.toNat_natCast, List.getD_eq_getElem?_getD]
      rw [List.getElem?_append_right (by omega), hlen, Nat.sub_self, List.getElem?_drop]
      rfl
    have hsn : (cutp l x (x + (n + 1))).map wr = (cutp l x (x + n)).map wr ++ [wr (rd l ((x + n : Nat) : Int))] := by
      rw [show x + (n + 1) = x + n + 1 by omega, cutp_snoc (by omega) (by omega), List.map_append]
      rfl
    have hdr : l.drop (x + n) = rd l ((x + n : Nat) : Int) :: l.drop (x + n + 1) := rd_at (by omega)
    rw [spec_Uncommented.bl, hx, ih, hsn]
    by_cases c : rd l ((x + n : Nat) : Int) = 10
    · rw [if_pos c, hdr, c]
      simp [wr, Nat.add_assoc]
    · rw [if_neg c, hdr, show wr (rd l ((x + n : Nat) : Int)) = 32 from if_neg c, List.set_append, if_neg (by omega), hlen, Nat.sub_self]
      simp [Nat.add_assoc]
/-- Where Uncommented says yes. -/
def Yes (l : List Int) (r : ByteArray × Bool) : Prop := r.2 = true → ∃ last R, Reach l l.length last R ∧ r.1 = strOfNums R ∧ (plc (strOfNums R)).2.2.2.2.2 = true
theorem unc_loop (hs : s.size ≤ 1000000) : ∀ (m x : Nat) (y : Int) (pre : List Int), s.size - x ≤ m → Reach (B s) x y pre → Tot (fun k => spec_Uncommented.l0 k s (x : Int) y (pre ++ (B s).drop x)) (Yes (B s))
  | m, x, y, pre, hm, hr => by
    obtain ⟨hlen, hxl, hy1, hy0, _⟩ := reach_run hr
    rw [bytesOf_length] at hxl
    by_cases c : x < s.size
    · cases m with
      | zero => omega
      | succ m =>
        refine Tot.succ (fun k => by rw [spec_Uncommented.l0, if_pos (by omega)]) ?_
        refine Tot.bind (comment_is hs x c) fun r h => ?_
        rcases h with ⟨rfl, h47⟩ | h | ⟨e, rfl, hc⟩
        · refine Tot.ite (fun _ => ?_) fun h => absurd rfl h
          refine Tot.ite (fun h => absurd h (by omega)) fun _ => ?_
          refine Tot.ite (fun h34 => ?_) fun h34 => ?_
          · refine Tot.bind (f := fun k => spec_reader_quoted.f k s (x : Int)) (Q := Ans s (qE s (x + 1))) ?_ fun q hq => ?_
            · unfold spec_reader_quoted.f
              rw [w64 (by omega) (by omega)]
              exact quoted_is hs s.size (x + 1) (by omega)
            · obtain ⟨qb, qs, qe⟩ := q
              obtain ⟨hqs, hq⟩ := hq
              have hqs' : s = qs := hqs.symm
              subst hqs'
              clear hqs
              cases hqe : qE s (x + 1) with
              | none =>
                rw [hqe] at hq
                refine Tot.ite (fun h => ?_) fun _ => Tot.ret fun h => by cases h
                rw [show qb = false from hq] at h; cases h
              | some e =>
                rw [hqe] at hq
                obtain ⟨h1, h2, h3⟩ := hq
                simp only [] at h1 h2 h3
                subst h1 h2
                obtain ⟨n, hn, he⟩ := Option.map_eq_some_iff.mp hqe
                refine Tot.ite (fun _ => ?_) fun h => absurd rfl h
                dsimp only
                refine Tot.ite (fun h => ?_) fun h => absurd ⟨by omega, by omega⟩ h
                have hn' : Fj.quo ((B s).drop (x + 1)) = some n := hn
                have hr2 := Reach.str x y pre n hr (by rw [rd_bytesOf]; exact h34) hn'
                rw [he] at hr2
                have := unc_loop hs m e (x : Int) _ (by omega) hr2
                have hout : pre ++ 34 :: ((B s).drop (x + 1)).take n ++ (B s).drop e = pre ++ (B s).drop x := by
                  rw [rd_at (l := B s) (i := x) (by rw [bytesOf_length]; exact c), rd_bytesOf, h34, ← he]
                  rw [List.append_assoc, List.cons_append]
                  congr 2
                  rw [show (B s).drop (x + 1 + n) = ((B s).drop (x + 1)).drop n from by rw [List.drop_drop], List.take_append_drop]
                rw [hout] at this
                exact this
          · refine Tot.bind (f := fun _ => spec_Blank.f (bt s (x : Int))) (Q := fun b => b = Fj.blank (bt s (x : Int))) (Tot.eq (fun _ => blank_eq _) rfl) fun b hb => ?_
            subst hb
            have hdr : (B s).drop x = bt s (x : Int) :: (B s).drop (x + 1) := by
              rw [rd_at (l := B s) (i := x) (by rw [bytesOf_length]; exact c), rd_bytesOf]
            have hrx : rd (B s) (x : Int) = bt s (x : Int) := rd_bytesOf _ _
            have hxlen : x < (B s).length := by rw [bytesOf_length]; exact c
            by_cases cb : (bt s (x : Int) = 125 ∨ bt s (x : Int) = 93) ∧ 0 ≤ y ∧ bt s y = 44
            · obtain ⟨n, rfl⟩ : ∃ n : Nat, y = n := ⟨y.toNat, by omega⟩
              have hbl : Fj.blank (bt s (x : Int)) = false := by rcases cb.1 with h | h <;> rw [h] <;> rfl
              have hr2 := Reach.brk x n pre hr (by rw [hrx]; exact cb.1) (by rw [rd_bytesOf]; exact cb.2.2)
              have := unc_loop hs m (x + 1) (x : Int) _ (by omega) hr2
              have hout : pre.set n 32 ++ [rd (B s) (x : Int)] ++ (B s).drop (x + 1) = (pre ++ (B s).drop x).set n 32 := by
                rw [hdr, List.set_append, if_pos (by omega), hrx]
                simp
              rw [hout] at this
              rw [if_pos cb, hbl]
              exact this
            · rw [if_neg cb]
              have hout : pre ++ [rd (B s) (x : Int)] ++ (B s).drop (x + 1) = pre ++ (B s).drop x := by
                rw [hdr, hrx]
                simp
              cases hbl : Fj.blank (bt s (x : Int)) with
              | true =>
                have := unc_loop hs m (x + 1) y _ (by omega) (Reach.bl x y pre hr hxlen (by rw [hrx]; exact hbl))
                rw [hout] at this
                exact this
              | false =>
                have := unc_loop hs m (x + 1) (x : Int) _ (by omega) (Reach.tok x y pre hr hxlen (by rw [hrx]; exact hbl) (by rw [hrx]; exact h47) (by rw [hrx]; exact h34) fun h1 h2 h3 => cb ⟨by rw [hrx] at h1; exact h1, h2, by rw [rd_bytesOf] at h3; exact h3⟩)
                rw [hout] at this
                exact this
        · refine Tot.ite (fun h2 => ?_) fun _ => Tot.ret fun h => by cases h
          rw [h] at h2; cases h2
        · obtain ⟨g1, g2⟩ := hc.lt
          have g3 := g2
          rw [bytesOf_length] at g3
          refine Tot.ite (fun _ => ?_) fun h => absurd rfl h
          refine Tot.ite (fun _ => ?_) fun h => absurd (by omega) h
          refine Tot.ite (fun _ => ?_) fun h => absurd (by omega) h
          have := unc_loop hs m e y _ (by omega) (Reach.com x y pre e hr hc)
          have hbl := bl_is pre (B s) x hlen (e - x) (by omega)
          rw [show x + (e - x) = e by omega] at hbl
          rw [← hbl] at this
          simp only [Int.toNat_natCast]
          rw [show ((e : Int) - (x : Int)).toNat = e - x by omega]
          exact this
    · obtain rfl : x = s.size := by omega
      refine Tot.succ (fun k => by rw [spec_Uncommented.l0, if_neg (by omega)]) ?_
      have hd : (B s).drop s.size = [] := List.drop_of_length_le (by rw [bytesOf_length]; exact Nat.le_refl _)
      rw [hd, List.append_nil]
      have hsz : (strOfNums pre).size = pre.length := by unfold strOfNums; simp [ByteArray.size]
      refine Tot.bind (places_is (by omega)) fun r h => Tot.ret fun h2 => ?_
      subst h
      refine ⟨y, pre, ?_, rfl, h2⟩
      rw [bytesOf_length]
      exact hr
theorem unc_is (hs : s.size ≤ 1000000) : Tot (fun k => spec_Uncommented.f k s) (Yes (B s)) := by
  unfold spec_Uncommented.f
  refine Tot.ite (fun _ => ?_) fun h => absurd hs h
  exact unc_loop hs s.size 0 (-1) [] (by omega) Reach.start
end Go.Proofs.Ytlllokmipeoelaa.ReadXFnPrSpec
end
section
namespace Go.Proofs.Ytlllokmipeoelaa.ReadXFnPrSpec
open Go.RowKit Go.Proofs.Ytlllokmipeoelaa.Pr Go.Proofs.Ytlllokmipeoelaa.Base Go.Proofs.Ytlllokmipeoelaa.XFnPrSpec Go.Proofs.YtlllokmipeoelaaW.PrintWords Go.Proofs.YtlllokmipeoelaaW.PrintLast
set_option linter.unusedVariables false
set_option linter.unusedSimpArgs false
variable {s R P : ByteArray}
def Dp : Nat → PL → Prop
  | 0, _ => False
  | n + 1, v => ∀ y ∈ v.f4, Dp n y
theorem Dp.succ : ∀ {n : Nat} {v : PL}, Dp n v → Dp (n + 1) v
  | 0, _, h => h.elim
  | n + 1, v, h => fun y hy => Dp.succ (h y hy)
theorem tree_dp : ∀ f : Nat, (∀ q v, tV s f q = some v → Dp f v.1) ∧ (∀ q v, tE s f q = some v → ∀ y ∈ v.1, Dp f y) ∧ (∀ q v, tM s f q = some v → ∀ y ∈ v.2.1, Dp f y)
  | 0 => ⟨fun _ _ h => by simp [tV] at h, fun _ _ h => by simp [tE] at h, fun _ _ h => by simp [tM] at h⟩
  | f + 1 => by
    obtain ⟨hV, hE, hM⟩ := tree_dp f
    refine ⟨fun q v h => ?_, fun q v h => ?_, fun q v h => ?_⟩
    · rw [tV] at h
      split at h
      · split at h
        · obtain rfl := Option.some.inj h; intro y hy; cases hy
        · cases hm : tM s f (nb s (q + 1)) with
          | none => rw [hm] at h; cases h
          | some r => rw [hm] at h; obtain rfl := Option.some.inj h; exact hM _ r hm
      · split at h
        · split at h
          · obtain rfl := Option.some.inj h; intro y hy; cases hy
          · cases hm : tE s f (nb s (q + 1)) with
            | none => rw [hm] at h; cases h
            | some r => rw [hm] at h; obtain rfl := Option.some.inj h; exact hE _ r hm
        · split at h
          · cases hm : qE s (q + 1) with
            | none => rw [hm] at h; cases h
            | some r => rw [hm] at h; obtain rfl := Option.some.inj h; intro y hy; cases hy
          · split at h
            · cases hm : nN s q with
              | none => rw [hm] at h; cases h
              | some r => rw [hm] at h; obtain rfl := Option.some.inj h; intro y hy; cases hy
            · cases hm : wordk s q with
              | none => rw [hm] at h; cases h
              | some r => rw [hm] at h; obtain rfl := Option.some.inj h; intro y hy; cases hy
    · rw [tE] at h
      cases h1 : tV s f q with
      | none => rw [h1] at h; cases h
      | some w =>
        rw [h1] at h
        simp only [] at h
        have hw := (hV q w h1).succ
        split at h
        · obtain rfl := Option.some.inj h
          intro y hy
          rcases List.mem_cons.mp hy with rfl | hy
          · exact hw
          · cases hy
        · split at h
          · cases h2 : tE s f (nb s (nb s w.2 + 1)) with
            | none => rw [h2] at h; cases h
            | some r =>
              rw [h2] at h
              obtain rfl := Option.some.inj h
              intro y hy
              rcases List.mem_cons.mp hy with rfl | hy
              · exact hw
              · exact (hE _ r h2 y hy).succ
          · cases h
    · rw [tM] at h
      split at h
      · cases hq : qE s (q + 1) with
        | none => rw [hq] at h; cases h
        | some b =>
          rw [hq] at h
          simp only [] at h
          split at h
          · cases h1 : tV s f (nb s (nb s b + 1)) with
            | none => rw [h1] at h; cases h
            | some w =>
              rw [h1] at h
              simp only [] at h
              have hw := (hV _ w h1).succ
              split at h
              · obtain rfl := Option.some.inj h
                intro y hy
                rcases List.mem_cons.mp hy with rfl | hy
                · exact hw
                · cases hy
              · split at h
                · cases h2 : tM s f (nb s (nb s w.2 + 1)) with
                  | none => rw [h2] at h; cases h
                  | some r =>
                    rw [h2] at h
                    obtain rfl := Option.some.inj h
                    intro y hy
                    rcases List.mem_cons.mp hy with rfl | hy
                    · exact hw
                    · exact (hM _ r h2 y hy).succ
                · cases h
          · cases h
      · cases h
/-- A name's bytes. -/
def nmB (s : ByteArray) (x : SP) : List Int := bytesOf (s.extract x.f0.toNat x.f1.toNat)
/-- The members or elements, a comma ahead of each but the first. -/
def items (g : PL → List Int) (nm : SP → List Int) (o : Bool) : Bool → List SP → List PL → List Int
  | _, _, [] => []
  | first, xs, y :: ys => (if first then [] else [44]) ++ ((if o then (match xs with | [] => [] | x :: _ => nm x) ++ [58] else []) ++ (g y ++ items g nm o false xs.tail ys))
theorem items_nil (g : PL → List Int) (nm : SP → List Int) (o first : Bool) (xs : List SP) : items g nm o first xs [] = [] := by simp only [items]
theorem items_cons (g : PL → List Int) (nm : SP → List Int) (o first : Bool) (xs : List SP) (y : PL) (ys : List PL) : items g nm o first xs (y :: ys) = (if first then [] else [44]) ++ ((if o then (match xs with | [] => [] | x :: _ => nm x) ++ [58] else []) ++ (g y ++ items g nm o false xs.tail ys)) := by simp only [items]
/-- A value's text without blanks. -/
def bareF (s : ByteArray) : Nat → PL → List Int
  | 0, _ => []
  | n + 1, v => if v.f0 ≠ 5 ∧ v.f0 ≠ 6 then bytesOf (s.extract v.f1.toNat v.f2.toNat) else (if v.f0 = 6 then 123 else 91) :: (items (bareF s n) (nmB s) (decide (v.f0 = 6)) true v.f3 v.f4 ++ [if v.f0 = 6 then 125 else 93])
theorem extract_take (b e : Nat) : bytesOf (s.extract b e) = (D s b).take (e - b) := by
  unfold D bytesOf
  rw [ByteArray.data_extract, Array.toList_extract]
  simp [List.map_drop, List.map_take, List.extract_eq_take_drop]
theorem items_eq {g h : PL → List Int} {n1 n2 : SP → List Int} {o : Bool} : ∀ (ys : List PL) (xs : List SP) (first : Bool), (∀ x ∈ xs, n1 x = n2 x) → (∀ y ∈ ys, g y = h y) → items g n1 o first xs ys = items h n2 o first xs ys
  | [], _, _, _, _ => by rw [items_nil, items_nil]
  | y :: ys, xs, first, hx, hy => by
    rw [items_cons, items_cons, hy y (List.mem_cons_self ..), items_eq ys xs.tail false (fun x h => hx x (List.mem_of_mem_tail h)) fun z hz => hy z (List.mem_cons_of_mem _ hz)]
    cases xs with
    | nil => rfl
    | cons x xs => simp only [hx x (List.mem_cons_self ..)]
theorem bare_eq : ∀ (n : Nat) (v : PL), (∀ m, Wf R P m v) → bareF R n v = bareF P n v
  | 0, _, _ => rfl
  | n + 1, v, h => by
    obtain ⟨⟨b, e, hb, he, hbe, hes, hs⟩, h2, h3, h4, h5, h6⟩ := h 1
    rw [bareF, bareF]
    by_cases c : v.f0 ≠ 5 ∧ v.f0 ≠ 6
    · rw [if_pos c, if_pos c, hb, he]
      simp only [Int.toNat_natCast]
      rw [extract_take, extract_take]
      exact hs c.1 c.2
    · rw [if_neg c, if_neg c]
      congr 2
      refine items_eq _ _ _ (fun x hx => ?_) fun y hy => bare_eq n y fun m => ?_
      · obtain ⟨b, e, hb, he, _, _, hs⟩ := h5 x hx
        unfold nmB
        rw [hb, he]
        simp only [Int.toNat_natCast]
        rw [extract_take, extract_take]
        exact hs
      · obtain ⟨_, _, _, _, _, h6⟩ := h (m + 1)
        exact h6 y hy
/-- The text without blanks is no longer than the value. -/
theorem bare_len : ∀ f : Nat,
    (∀ q v, tV s f q = some v → q ≤ v.2 ∧ ∀ n, (bareF s n v.1).length + q ≤ v.2) ∧
    (∀ q v, tE s f q = some v → q + 1 ≤ v.2 ∧ ∀ n, (items (bareF s n) (nmB s) false true [] v.1).length + q + 1 ≤ v.2 ∧ (items (bareF s n) (nmB s) false false [] v.1).length + q ≤ v.2) ∧
    (∀ q v, tM s f q = some v → q + 1 ≤ v.2.2 ∧ ∀ n, (items (bareF s n) (nmB s) true true v.1 v.2.1).length + q + 1 ≤ v.2.2 ∧ (items (bareF s n) (nmB s) true false v.1 v.2.1).length + q ≤ v.2.2)
  | 0 => ⟨fun _ _ h => by simp [tV] at h, fun _ _ h => by simp [tE] at h, fun _ _ h => by simp [tM] at h⟩
  | f + 1 => by
    obtain ⟨hV, hE, hM⟩ := bare_len f
    have sc : ∀ (k : Int) (q e : Nat), k ≠ 5 → k ≠ 6 → q ≤ e → q ≤ e ∧ ∀ n, (bareF s n ⟨k, (q : Int), (e : Int), [], []⟩).length + q ≤ e := fun k q e h5 h6 hqe => ⟨hqe, fun n => by
      cases n with
      | zero => simp [bareF]; omega
      | succ n =>
        rw [bareF, if_pos ⟨h5, h6⟩]
        simp only [Int.toNat_natCast]
        rw [extract_take, List.length_take]
        omega⟩
    refine ⟨fun q v h => ?_, fun q v h => ?_, fun q v h => ?_⟩
    · rw [tV] at h
      have hg := nb_ge (s := s) (q + 1)
      split at h
      · split at h
        · obtain rfl := Option.some.inj h
          refine ⟨by show q ≤ nb s (q + 1) + 1; omega, fun n => ?_⟩
          cases n with
          | zero => simp [bareF]; omega
          | succ n => rw [bareF, if_neg (by simp)]; simp [items]; omega
        · cases hm : tM s f (nb s (q + 1)) with
          | none => rw [hm] at h; cases h
          | some r =>
            rw [hm] at h
            obtain rfl := Option.some.inj h
            obtain ⟨g1, g2⟩ := hM _ r hm
            refine ⟨by show q ≤ r.2.2; omega, fun n => ?_⟩
            cases n with
            | zero => simp [bareF]; omega
            | succ n =>
              have := (g2 n).1
              rw [bareF, if_neg (by simp)]
              simp only [List.length_cons, List.length_append, List.length_nil]
              show (items (bareF s n) (nmB s) (decide ((6 : Int) = 6)) true r.1 r.2.1).length + 1 + 1 + q ≤ r.2.2
              rw [show decide ((6 : Int) = 6) = true from rfl]
              omega
      · split at h
        · split at h
          · obtain rfl := Option.some.inj h
            refine ⟨by show q ≤ nb s (q + 1) + 1; omega, fun n => ?_⟩
            cases n with
            | zero => simp [bareF]; omega
            | succ n => rw [bareF, if_neg (by simp)]; simp [items]; omega
          · cases hm : tE s f (nb s (q + 1)) with
            | none => rw [hm] at h; cases h
            | some r =>
              rw [hm] at h
              obtain rfl := Option.some.inj h
              obtain ⟨g1, g2⟩ := hE _ r hm
              refine ⟨by show q ≤ r.2; omega, fun n => ?_⟩
              cases n with
              | zero => simp [bareF]; omega
              | succ n =>
                have := (g2 n).1
                rw [bareF, if_neg (by simp)]
                simp only [List.length_cons, List.length_append, List.length_nil]
                show (items (bareF s n) (nmB s) (decide ((5 : Int) = 6)) true [] r.1).length + 1 + 1 + q ≤ r.2
                rw [show decide ((5 : Int) = 6) = false from rfl]
                omega
        · split at h
          · cases hm : qE s (q + 1) with
            | none => rw [hm] at h; cases h
            | some r => rw [hm] at h; obtain rfl := Option.some.inj h; exact sc 4 q r (by decide) (by decide) (by have := qE_gt hm; omega)
          · split at h
            · cases hm : nN s q with
              | none => rw [hm] at h; cases h
              | some r => rw [hm] at h; obtain rfl := Option.some.inj h; exact sc 3 q r (by decide) (by decide) (by have := num_gt hm; omega)
            · cases hm : wordk s q with
              | none => rw [hm] at h; cases h
              | some r =>
                rw [hm] at h
                obtain rfl := Option.some.inj h
                have hlt := wordk_gt hm
                refine sc r.1 q r.2 ?_ ?_ (by omega)
                all_goals
                  unfold wordk at hm
                  repeat' split at hm
                  all_goals first | (cases hm; done) | (obtain rfl := Option.some.inj hm; simp)
    · rw [tE] at h
      cases h1 : tV s f q with
      | none => rw [h1] at h; cases h
      | some w =>
        rw [h1] at h
        simp only [] at h
        obtain ⟨a1, a2⟩ := hV q w h1
        have hg := nb_ge (s := s) w.2
        split at h
        · obtain rfl := Option.some.inj h
          refine ⟨by show q + 1 ≤ nb s w.2 + 1; omega, fun n => ?_⟩
          have := a2 n
          simp only [items, List.length_append, List.length_nil, List.length_cons, if_true, if_false, Bool.false_eq_true]
          omega
        · split at h
          · cases h2 : tE s f (nb s (nb s w.2 + 1)) with
            | none => rw [h2] at h; cases h
            | some r =>
              rw [h2] at h
              obtain rfl := Option.some.inj h
              obtain ⟨b1, b2⟩ := hE _ r h2
              have hg2 := nb_ge (s := s) (nb s w.2 + 1)
              refine ⟨by show q + 1 ≤ r.2; omega, fun n => ?_⟩
              have := a2 n
              have := (b2 n).2
              simp only [items, List.length_append, List.length_nil, List.length_cons, if_true, if_false, Bool.false_eq_true, List.tail_nil]
              omega
          · cases h
    · rw [tM] at h
      split at h
      · cases hq : qE s (q + 1) with
        | none => rw [hq] at h; cases h
        | some b =>
          rw [hq] at h
          simp only [] at h
          have hqb := qE_gt hq
          have hnm : (nmB s ⟨(q : Int), (b : Int)⟩).length + q ≤ b := by
            unfold nmB
            simp only [Int.toNat_natCast]
            rw [extract_take, List.length_take]
            omega
          have hgb := nb_ge (s := s) b
          have hga := nb_ge (s := s) (nb s b + 1)
          split at h
          · cases h1 : tV s f (nb s (nb s b + 1)) with
            | none => rw [h1] at h; cases h
            | some w =>
              rw [h1] at h
              simp only [] at h
              obtain ⟨a1, a2⟩ := hV _ w h1
              have hg := nb_ge (s := s) w.2
              split at h
              · obtain rfl := Option.some.inj h
                refine ⟨by show q + 1 ≤ nb s w.2 + 1; omega, fun n => ?_⟩
                have := a2 n
                simp only [items, List.length_append, List.length_nil, List.length_cons, if_true, if_false, Bool.false_eq_true]
                omega
              · split at h
                · cases h2 : tM s f (nb s (nb s w.2 + 1)) with
                  | none => rw [h2] at h; cases h
                  | some r =>
                    rw [h2] at h
                    obtain rfl := Option.some.inj h
                    obtain ⟨b1, b2⟩ := hM _ r h2
                    have hg2 := nb_ge (s := s) (nb s w.2 + 1)
                    refine ⟨by show q + 1 ≤ r.2.2; omega, fun n => ?_⟩
                    have := a2 n
                    have := (b2 n).2
                    simp only [items, List.length_append, List.length_nil, List.length_cons, if_true, if_false, Bool.false_eq_true, List.tail_cons]
                    omega
                · cases h
          · cases h
      · cases h
theorem rdT {α : Type} (d : α) (l : List α) (i : Nat) (h : i < l.length) : l.drop i = l.getD i d :: l.drop (i + 1) := by
  rw [List.drop_eq_getElem_cons h]
  congr 1
  rw [List.getD_eq_getElem?_getD, List.getElem?_eq_getElem h]
  rfl
/-- A place lies in the text. -/
structure In1 (s : ByteArray) (v : PL) : Prop where
  rng : v.f0 ≠ 5 → v.f0 ≠ 6 → 0 ≤ v.f1 ∧ v.f1 ≤ v.f2 ∧ v.f2 ≤ s.size
  nms : v.f0 = 6 → v.f3.length = v.f4.length
  few : v.f4.length ≤ 1000000
  fewn : v.f3.length ≤ 1000000
  nin : ∀ x ∈ v.f3, 0 ≤ x.f0 ∧ x.f0 ≤ x.f1 ∧ x.f1 ≤ s.size
def InT (s : ByteArray) : Nat → PL → Prop
  | 0, _ => True
  | n + 1, v => In1 s v ∧ ∀ y ∈ v.f4, InT s n y
theorem in_of (hs : R.size ≤ 1000000) (hz : s.size = R.size) : ∀ (n : Nat) (v : PL), (∀ m, Wf R P m v) → InT s n v
  | 0, _, _ => trivial
  | n + 1, v, h => by
    obtain ⟨⟨b, e, hb, he, hbe, hes, _⟩, h2, h3, h4, h5, h6⟩ := h 1
    refine ⟨⟨fun _ _ => by rw [hb, he]; omega, h2, by omega, ?_, fun x hx => ?_⟩, fun y hy => in_of hs hz n y fun m => ?_⟩
    · by_cases c : v.f0 = 6
      · have := h2 c; omega
      · rw [h3 c]; simp
    · obtain ⟨b, e, hb, he, hbe, hes, _⟩ := h5 x hx
      rw [hb, he]
      omega
    · obtain ⟨_, _, _, _, _, h6⟩ := h (m + 1)
      exact h6 y hy
theorem lp_is (v : PL) (g : PL → List Int) (h1 : In1 s v) (hk : v.f0 = 5 ∨ v.f0 = 6) (hg : ∀ y ∈ v.f4, ∀ out : List Int, out.length + (g y).length ≤ 1000000000 → Tot (fun k => spec_Bare.to k out s y) (fun r => r = out ++ g y)) :
    ∀ (m i : Nat) (acc : List Int), v.f4.length - i ≤ m → i ≤ v.f4.length → acc.length + (items g (nmB s) (decide (v.f0 = 6)) (i == 0) (v.f3.drop i) (v.f4.drop i)).length ≤ 1000000000 →
      Tot (fun k => spec_Bare.lp k acc s v (i : Int)) (fun r => r = acc ++ items g (nmB s) (decide (v.f0 = 6)) (i == 0) (v.f3.drop i) (v.f4.drop i))
  | m, i, acc, hm, hi, hl => by
    have hfew := h1.few
    by_cases c : i < v.f4.length
    · cases m with
      | zero => omega
      | succ m =>
        have hd := rdT z37 v.f4 i c
        have hmem : v.f4.getD i z37 ∈ v.f4 := by
          rw [List.getD_eq_getElem?_getD, List.getElem?_eq_getElem c]
          exact List.getElem_mem c
        have hrd : rd_T37 v.f4 (i : Int) = v.f4.getD i z37 := by unfold rd_T37; rw [Int.toNat_natCast]
        rw [hd, items_cons] at hl ⊢
        generalize hY : v.f4.getD i z37 = Y at *
        have e1 : (if (i : Int) > 0 then acc ++ [44] else acc) = acc ++ (if (i == 0) then [] else [44]) := by
          by_cases z : i = 0
          · subst z; simp
          · rw [if_pos (by omega), if_neg (by simp; exact z)]
        have hi1 : ((i + 1 : Nat) == 0) = false := rfl
        simp only [List.length_append] at hl
        rcases hk with hk | hk
        · have hdec : decide (v.f0 = 6) = false := decide_eq_false (by omega)
          rw [hdec] at hl ⊢
          simp only [Bool.false_eq_true, if_false, List.nil_append, List.length_nil, List.tail_drop] at hl ⊢
          refine Tot.succ (fun k => by rw [spec_Bare.lp, if_pos (by omega), if_pos (by omega), if_neg (by omega), e1, hrd]) ?_
          refine Tot.bind (hg Y hmem _ (by rw [List.length_append]; omega)) fun r hr => ?_
          subst hr
          have := lp_is v g h1 (.inl hk) hg m (i + 1) (acc ++ (if (i == 0) then [] else [44]) ++ g Y) (by omega) (by omega) (by rw [hdec, hi1]; simp only [List.length_append]; omega)
          rw [hdec, hi1] at this
          refine Tot.mono this fun r hr => ?_
          rw [hr]
          simp [List.append_assoc]
        · have hdec : decide (v.f0 = 6) = true := decide_eq_true hk
          have hnl := h1.nms hk
          have cn : i < v.f3.length := by omega
          have hdn := rdT z46 v.f3 i cn
          have hmemn : v.f3.getD i z46 ∈ v.f3 := by
            rw [List.getD_eq_getElem?_getD, List.getElem?_eq_getElem cn]
            exact List.getElem_mem cn
          have hrdn : rd_T46 v.f3 (i : Int) = v.f3.getD i z46 := by unfold rd_T46; rw [Int.toNat_natCast]
          have hin := h1.nin _ hmemn
          rw [hdec, hdn] at hl ⊢
          generalize hX : v.f3.getD i z46 = X at *
          simp only [if_true, List.tail_cons, List.length_append, List.length_cons, List.length_nil] at hl ⊢
          refine Tot.succ (fun k => by rw [spec_Bare.lp, if_pos (by omega), if_pos (by omega), if_pos hk, if_pos (by omega), hrdn, if_pos hin, e1, hrd]) ?_
          have hnm : nmB s X = bytesOf (s.extract X.f0.toNat X.f1.toNat) := rfl
          rw [← hnm]
          refine Tot.bind (hg Y hmem _ (by simp only [List.length_append, List.length_cons, List.length_nil]; omega)) fun r hr => ?_
          subst hr
          have := lp_is v g h1 (.inr hk) hg m (i + 1) (acc ++ (if (i == 0) then [] else [44]) ++ nmB s X ++ [58] ++ g Y) (by omega) (by omega) (by rw [hdec, hi1]; simp only [List.length_append, List.length_cons, List.length_nil]; omega)
          rw [hdec, hi1] at this
          refine Tot.mono this fun r hr => ?_
          rw [hr]
          simp [List.append_assoc]
    · have hd : v.f4.drop i = [] := List.drop_of_length_le (by omega)
      rw [hd, items_nil, List.append_nil]
      exact Tot.succ (fun k => by rw [spec_Bare.lp, if_neg (by omega)]) (Tot.ret rfl)
theorem to_is : ∀ (n : Nat) (v : PL), Dp n v → InT s n v → ∀ out : List Int, out.length + (bareF s n v).length ≤ 1000000000 → Tot (fun k => spec_Bare.to k out s v) (fun r => r = out ++ bareF s n v)
  | 0, _, h, _, _, _ => h.elim
  | n + 1, v, hd, hi, out, hl => by
    obtain ⟨h1, h2⟩ := hi
    have hfew := h1.few
    rw [bareF] at hl ⊢
    by_cases c : v.f0 ≠ 5 ∧ v.f0 ≠ 6
    · rw [if_pos c] at hl ⊢
      have := h1.rng c.1 c.2
      exact Tot.succ (fun k => by rw [spec_Bare.to, if_pos ⟨by omega, hfew⟩, if_pos c, if_pos this]) (Tot.ret rfl)
    · rw [if_neg c] at hl ⊢
      simp only [List.length_cons, List.length_append, List.length_nil] at hl
      refine Tot.succ (fun k => by rw [spec_Bare.to, if_pos ⟨by omega, hfew⟩, if_neg c]) ?_
      have := lp_is v (bareF s n) h1 (by omega) (fun y hy out ho => to_is n y (hd y hy) (h2 y hy) out ho) v.f4.length 0 (out ++ [if v.f0 = 6 then 123 else 91]) (by omega) (by omega) (by
        simp only [List.drop_zero, List.length_append, List.length_cons, List.length_nil]
        show out.length + 1 + (items (bareF s n) (nmB s) (decide (v.f0 = 6)) true v.f3 v.f4).length ≤ _
        omega)
      refine Tot.bind this fun r hr => ?_
      subst hr
      refine Tot.ite (fun _ => Tot.ret ?_) fun h => absurd ?_ h
      · simp
      · simp only [List.drop_zero, List.length_append, List.length_cons, List.length_nil]
        show out.length + 1 + (items (bareF s n) (nmB s) (decide (v.f0 = 6)) true v.f3 v.f4).length ≤ _
        omega
theorem bare_is (hs : s.size ≤ 1000000) (n : Nat) (v : PL) (hd : Dp n v) (hi : InT s n v) (hl : (bareF s n v).length ≤ 1000000000) : Tot (fun k => spec_Bare.f k s v.f0 v.f1 v.f2 v.f3 v.f4) (fun r => r = strOfNums (bareF s n v)) := by
  unfold spec_Bare.f
  have hfew : v.f4.length ≤ 1000000 := by
    cases n with
    | zero => exact hd.elim
    | succ n => exact hi.1.few
  refine Tot.ite (fun _ => ?_) fun h => absurd ⟨hs, hfew⟩ h
  have hv : (⟨v.f0, v.f1, v.f2, v.f3, v.f4⟩ : PL) = v := by cases v; rfl
  rw [hv]
  obtain ⟨r, hr, hq⟩ := to_is n v hd hi [] (by simpa using hl)
  refine ⟨strOfNums r, hr.mp fun k hk => ?_, by rw [hq]; rfl⟩
  show (spec_Bare.to k [] s v).map strOfNums = _
  rw [show spec_Bare.to k [] s v = some r from hk]
  rfl
theorem kids_placed (a0 a1 a2 : Int) (l3 : List SP) (l4 : List PL) (hl : l4.length ≤ 1000000) (hk : ∀ y ∈ l4, Tot (fun k => laws_prPlaced.f k y.f0 y.f1 y.f2 y.f3 y.f4 y.f0 y.f1 y.f2 y.f3 y.f4) (fun r => r = true)) :
    ∀ (m i : Nat), l4.length - i ≤ m → Tot (fun k => laws_prPlaced.l1 k (l4.length : Int) (i : Int) a0 a1 a2 l3 l4 a0 a1 a2 l3 l4) (fun r => r = true)
  | m, i, hm => by
    by_cases c : i < l4.length
    · cases m with
      | zero => omega
      | succ m =>
        have hrd : rd_T37 l4 (i : Int) ∈ l4 := by
          unfold rd_T37
          rw [Int.toNat_natCast, List.getD_eq_getElem?_getD, List.getElem?_eq_getElem c]
          exact List.getElem_mem c
        refine Tot.succ (fun k => by rw [laws_prPlaced.l1, if_pos (by omega), if_pos (by omega), if_pos (by omega), if_pos (by omega)]) ?_
        refine Tot.bind (hk _ hrd) fun r hr => ?_
        subst hr
        refine Tot.ite (fun _ => ?_) fun h => absurd rfl h
        rw [w64 (by omega) (by omega)]
        exact kids_placed a0 a1 a2 l3 l4 hl hk m (i + 1) (by omega)
    · exact Tot.succ (fun k => by rw [laws_prPlaced.l1, if_neg (by omega)]) (Tot.ret rfl)
theorem names_placed (a0 a1 a2 : Int) (l3 : List SP) (l4 : List PL) (hl3 : l3.length ≤ 1000000) (hl : l4.length ≤ 1000000) (hk : ∀ y ∈ l4, Tot (fun k => laws_prPlaced.f k y.f0 y.f1 y.f2 y.f3 y.f4 y.f0 y.f1 y.f2 y.f3 y.f4) (fun r => r = true)) :
    ∀ (m i : Nat), l3.length - i ≤ m → Tot (fun k => laws_prPlaced.l0 k (l3.length : Int) (i : Int) a0 a1 a2 l3 l4 a0 a1 a2 l3 l4) (fun r => r = true)
  | m, i, hm => by
    by_cases c : i < l3.length
    · cases m with
      | zero => omega
      | succ m =>
        refine Tot.succ (fun k => by rw [laws_prPlaced.l0, if_pos (by omega), if_pos (by omega), if_pos (by omega), if_pos (by omega)]) ?_
        refine Tot.ite (fun h => ?_) fun _ => ?_
        · simp at h
        · rw [w64 (by omega) (by omega)]
          exact names_placed a0 a1 a2 l3 l4 hl3 hl hk m (i + 1) (by omega)
    · exact Tot.succ (fun k => by rw [laws_prPlaced.l0, if_neg (by omega)]; rfl) (kids_placed a0 a1 a2 l3 l4 hl hk l4.length 0 (by omega))
/-- A place is placed as itself. -/
theorem placed_is : ∀ (n : Nat) (v : PL), Dp n v → InT s n v → Tot (fun k => laws_prPlaced.f k v.f0 v.f1 v.f2 v.f3 v.f4 v.f0 v.f1 v.f2 v.f3 v.f4) (fun r => r = true)
  | 0, _, h, _ => h.elim
  | n + 1, v, hd, hi => by
    obtain ⟨h1, h2⟩ := hi
    refine Tot.succ (fun k => by rw [laws_prPlaced.f, if_pos rfl, if_pos rfl, if_pos rfl, if_pos rfl, bne_self_eq_false]) ?_
    refine Tot.succ (fun k => by rw [laws_prPlaced.j0, if_neg (by decide)]) ?_
    exact names_placed v.f0 v.f1 v.f2 v.f3 v.f4 h1.fewn h1.few (fun y hy => placed_is n y (hd y hy) (h2 y hy)) v.f3.length 0 (by omega)
/-- Texts that are alike are read alike. -/
theorem plc_alike (hz : P.size = R.size) (ha : At R P 0) (h : (plc R).2.2.2.2.2 = true) : ∃ v : PL × Nat, plc R = (v.1.f0, v.1.f1, v.1.f2, v.1.f3, v.1.f4, true) ∧ plc P = plc R ∧ Lf R P 0 R.size ∧ (∀ n, Wf R P n v.1) ∧ tV R (2 * R.size + 3) (nb R 0) = some v ∧ v.2 ≤ R.size := by
  unfold plc at h ⊢
  cases hv : tV R (2 * R.size + 3) (nb R 0) with
  | none => rw [hv] at h; cases h
  | some v =>
    rw [hv] at h
    simp only [] at h
    have c : nb R v.2 = R.size := by
      by_cases c : nb R v.2 = R.size
      · exact c
      · rw [if_neg c] at h; cases h
    have hnc : ∀ {q : Nat}, q = R.size → ¬ Ctl (D R q) := fun hq x => by have := (D_ctl x).1; omega
    rcases ha.nb with h0 | ⟨h0, h1, h2⟩
    · rw [tV_ctl _ h0] at hv; cases hv
    obtain ⟨g1, g2, g3⟩ := (sim_tree (2 * R.size + 3)).1 _ v (nb_le 0 (Nat.zero_le _)) h1 hv
    rcases g3 with g3 | ⟨g3, g4, g5, g6⟩
    · rw [ctl_nb g3] at c
      exact absurd g3 (hnc c)
    rcases g4.nb with k0 | ⟨k0, k1, k2⟩
    · exact absurd k0 (hnc c)
    refine ⟨v, by simp only [if_pos c], ?_, ?_, g6, rfl, g2⟩
    · rw [hz, h0, g3]
      simp only []
      rw [k0]
    · rw [← c]
      exact (h2.trans g5).trans k2
/-- Nothing but blanks is told apart; the other text may not be longer. -/
theorem alike_size (ha : At R P 0) (h : (plc R).2.2.2.2.2 = true) : P.size ≤ R.size := by
  unfold plc at h
  cases hv : tV R (2 * R.size + 3) (nb R 0) with
  | none => rw [hv] at h; cases h
  | some v =>
    rw [hv] at h
    simp only [] at h
    have c : nb R v.2 = R.size := by
      by_cases c : nb R v.2 = R.size
      · exact c
      · rw [if_neg c] at h; cases h
    have hnc : ∀ {q : Nat}, q = R.size → ¬ Ctl (D R q) := fun hq x => by have := (D_ctl x).1; omega
    rcases ha.nb with h0 | ⟨h0, h1, h2⟩
    · rw [tV_ctl _ h0] at hv; cases hv
    obtain ⟨g1, g2, g3⟩ := (sim_tree (2 * R.size + 3)).1 _ v (nb_le 0 (Nat.zero_le _)) h1 hv
    rcases g3 with g3 | ⟨g3, g4, g5, g6⟩
    · rw [ctl_nb g3] at c
      exact absurd g3 (hnc c)
    rcases g4.nb with k0 | ⟨k0, k1, k2⟩
    · exact absurd k0 (hnc c)
    unfold At at k1
    rw [c, D_nil R.size (Nat.le_refl _)] at k1
    refine Nat.le_of_not_lt fun hlt => ?_
    rw [D_cons R.size hlt] at k1
    cases k1
theorem same_is (hs : R.size ≤ 1000000) (hz : P.size = R.size) (ha : At R P 0) (h : (plc R).2.2.2.2.2 = true) : Tot (fun k => laws_prSame.f k P R) (fun r => r = true) := by
  obtain ⟨v, e1, e2, hlf, hwf, hv, hve⟩ := plc_alike hz ha h
  have hdp := (tree_dp (s := R) (2 * R.size + 3)).1 _ v hv
  have hbl := ((bare_len (s := R) (2 * R.size + 3)).1 _ v hv).2 (2 * R.size + 3)
  have hbe := bare_eq (2 * R.size + 3) v.1 hwf
  have iR := in_of (s := R) hs rfl (2 * R.size + 3) v.1 hwf
  have iP := in_of (s := P) hs hz (2 * R.size + 3) v.1 hwf
  have fin : Tot (fun k => laws_prSame.l0 k P R (R.size : Int)) (fun r => r = true) := by
    refine Tot.succ (fun k => by rw [laws_prSame.l0, if_neg (by omega)]) ?_
    refine Tot.bind (places_is (by omega)) fun r hr => ?_
    refine Tot.bind (places_is hs) fun r2 hr2 => ?_
    subst hr hr2
    rw [e2, e1]
    refine Tot.ite (fun _ => ?_) fun h => absurd rfl h
    refine Tot.ite (fun _ => ?_) fun h => absurd rfl h
    refine Tot.bind (placed_is (2 * R.size + 3) v.1 hdp iR) fun r hr => ?_
    subst hr
    refine Tot.ite (fun _ => ?_) fun h => absurd rfl h
    refine Tot.bind (bare_is (s := P) (by omega) (2 * R.size + 3) v.1 hdp iP (by rw [← hbe]; omega)) fun r hr => ?_
    refine Tot.bind (bare_is (s := R) hs (2 * R.size + 3) v.1 hdp iR (by omega)) fun r2 hr2 => Tot.ret ?_
    subst hr hr2
    rw [hbe]
    simp
  have loop : ∀ (m i : Nat), R.size - i ≤ m → i ≤ R.size → Tot (fun k => laws_prSame.l0 k P R (i : Int)) (fun r => r = true) := by
    intro m
    induction m with
    | zero =>
      intro i hm hi
      obtain rfl : i = R.size := by omega
      exact fin
    | succ m ih =>
      intro i hm hi
      by_cases c : i < R.size
      · refine Tot.succ (fun k => by rw [laws_prSame.l0, if_pos (by omega), if_pos (by omega), if_pos (by omega)]) ?_
        have := hlf i (Nat.zero_le _) c
        refine Tot.ite (fun h => ?_) fun _ => ?_
        · by_cases z : bt R (i : Int) = 10
          · rw [z, this.mp z] at h; cases h
          · rw [beq_eq_false_iff_ne.mpr z, beq_eq_false_iff_ne.mpr fun x => z (this.mpr x)] at h; cases h
        · rw [w64 (by omega) (by omega)]
          exact ih (i + 1) (by omega) (by omega)
      · obtain rfl : i = R.size := by omega
        exact fin
  unfold laws_prSame.f
  refine Tot.ite (fun _ => loop R.size 0 (by omega) (by omega)) fun h => absurd (by omega) h
end Go.Proofs.Ytlllokmipeoelaa.ReadXFnPrSpec
end
section
namespace Go.Proofs.Ytlllokmipeoelaa.ReadXFnPrSpec
open Go.RowKit Go.Proofs.Ytlllokmipeoelaa.Pr Go.Proofs.Ytlllokmipeoelaa.Base Go.Proofs.Ytlllokmipeoelaa.XFnPrSpec Go.Proofs.YtlllokmipeoelaaW.PrintWords Go.Proofs.YtlllokmipeoelaaW.PrintLast
set_option linter.unusedVariables false
set_option linter.unusedSimpArgs false
theorem strOf_size (l : List Int) : (strOfNums l).size = l.length := by unfold strOfNums; simp [ByteArray.size]
theorem at_of {a b : List Int} (h : Sim a b) (ha : Byt a) (hb : Byt b) : At (strOfNums a) (strOfNums b) 0 := by
  unfold At D
  rw [List.drop_zero, List.drop_zero, strOf_bytes a ha, strOf_bytes b hb]
  exact h
theorem spec_is (s : ByteArray) (hs : s.size ≤ 1000000) : Tot (fun k => (spec_Uncommented.f k s).bind fun bt => (if bt.2 = true then ((impl_PrSpec.f k s).bind fun t => ((laws_prSame.f k t bt.1).bind fun t' => (some t'))) else (some true))) (fun r => r = true) := by
  refine Tot.bind (unc_is hs) fun r hr => ?_
  refine Tot.ite (fun hyes => ?_) fun _ => Tot.ret rfl
  obtain ⟨last, R, hR, e1, hp⟩ := hr hyes
  obtain ⟨hlen, P, hrun, hPl, hsim⟩ := reach_end hR
  have hbs : Byt (B s) := fun c hc => by
    obtain ⟨j, hj, rfl⟩ := List.mem_iff_getElem.mp hc
    have := bytes_range s (j : Int)
    rwa [rd_get _ _ (by simpa using hj)] at this
  have hbR := reach_byt hbs hR
  have hbP := run_byt hbs hrun (fun c hc => by cases hc)
  have hf : ∀ k, impl_PrSpec.f k s = some (strOfNums P) := fun k => by
    unfold impl_PrSpec.f
    have hex : s.size ≤ 1000000 ∧ ∃ fin, Run (bytesOf s) 0 [] fin := ⟨hs, P, hrun⟩
    rw [dif_pos hex, run_det hex.2.choose_spec P hrun]
  refine Tot.bind (Q := fun t => t = strOfNums P) (Tot.eq hf rfl) fun t ht => ?_
  subst ht
  rw [e1]
  have hszR : (strOfNums R).size = s.size := by rw [strOf_size, hlen, bytesOf_length]
  have hszP : (strOfNums P).size = (strOfNums R).size := by rw [strOf_size, strOf_size, hPl, hlen]
  have hsim' : Sim R P := by
    rcases hsim with h | h
    · exact h
    · have hb0 : Byt (R ++ [0]) := hbR.append (Byt.one (by decide))
      have := alike_size (at_of h hbR hb0) hp
      rw [strOf_size, strOf_size, List.length_append] at this
      have h1 : ([0] : List Int).length = 1 := rfl
      omega
  exact Tot.bind (same_is (by omega) hszP (at_of hsim' hbR hbP) hp) fun r hr => Tot.ret hr
end Go.Proofs.Ytlllokmipeoelaa.ReadXFnPrSpec
namespace Go.Proofs.Ytlllokmipeoelaa.Pure
open Go.RowKit Go.Proofs.Ytlllokmipeoelaa.ReadXFnPrSpec Go.Proofs.Ytlllokmipeoelaa.XFnPrSpec Go.Proofs.YtlllokmipeoelaaW.PrintWords Go.Proofs.YtlllokmipeoelaaW.PrintLast
theorem FnPrSpec : laws_FnPrSpec.Pure := by
  intro a0 _
  have h : Tot (fun k => laws_FnPrSpec.f k a0) (fun r => r = true) := by
    unfold laws_FnPrSpec.f
    refine Tot.ite (fun _ => Tot.ret rfl) fun _ => Tot.ite (fun _ => Tot.ret rfl) fun h => ?_
    exact spec_is a0 (by omega)
  obtain ⟨r, hr, rfl⟩ := h
  exact hr.ex
end Go.Proofs.Ytlllokmipeoelaa.Pure
end
