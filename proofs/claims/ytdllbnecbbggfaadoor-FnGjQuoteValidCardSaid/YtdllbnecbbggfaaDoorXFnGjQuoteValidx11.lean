-- Written by xprint.py of this session (a program that runs the kit's print and adds to it); Lean checks it.
import Derived.Test.YtdllbnecbbggfaaDoorXFnGjQuoteValidx0
import Derived.Test.YtdllbnecbbggfaaDoorXFnGjQuoteValidx10
namespace Go.Proofs.YtdllbnecbbggfaaDoor.XFnGjQuoteValid
open Go.RowKit Go.Proofs.YtdllbnecbbggfaaDoorW.PrintWords Go.Proofs.YtdllbnecbbggfaaDoorW.PrintLast Go.Proofs.YtdllbnecbbggfaaDoorW.PrintMore
attribute [local go_sem] max2_int min2_int max_two min_two max_three min_three max_four min_four   -- for this text's walks alone
set_option linter.unusedVariables false
set_option linter.unusedSimpArgs false

--EXT
/-! ### gjson_Valid: function 44 (by hand) -/
def gjson_Valid.f (k : Nat) (a0 : ByteArray) : Option Bool := if a0.size ≤ 140737488351232 then ((gjson_validpayload.f k (bytesOf a0) 0).bind fun t => (some t.2)) else (none)
theorem gjson_Valid.mono : ∀ a0 k, LeO (gjson_Valid.f k a0) (gjson_Valid.f (k + 1) a0) := by
  intro a0 k
  unfold gjson_Valid.f
  refine LeO.ite ?_ (LeO.none _)
  exact LeO.bind (gjson_validpayload.mono _ _ _) (fun _ => LeO.refl _)
set_option maxHeartbeats 400000 in
theorem gjson_Valid.calls (k : Nat) (a0 : ByteArray) (r : Bool) (w : World) (h : gjson_Valid.f k a0 = some r) :
    Calls Tryd.prog 44 #[.string a0] w fun e w' => e = .returned (.bool r) ∧ Below w.heap.size w w' := by
  unfold gjson_Valid.f at h
  by_cases hs : a0.size ≤ 140737488351232
  · rw [if_pos hs] at h
    obtain ⟨t, ht, h2⟩ := Option.bind_eq_some_iff.mp h
    obtain ⟨r1, r2⟩ := t
    simp only [Option.some.injEq] at h2
    subst h2
    have HT := Aside0.mk ht
    clear ht h
    have kb := fun W => print_bytes (P := Tryd.prog) 9 42 5 Tryd.underlying9 Tryd.underlying42 Tryd.underlying5 a0 W
    have hb := Aside0.mk (bytes_below (Below.refl w.heap.size w) (Nat.le_refl _) 5 a0)
    have hc := Aside0.mk (Kd.C_of_reads (d := (0 : Int)) (h1 := fun _ => rfl) (bytes_reads w 5 a0 (by omega)))
    have hl := Aside0.mk (bytesOf_length a0)
    have hcap : Aside0 (a0.size ≤ grownCap w a0.size 0 5) := ⟨grownCap_ge _ _ _ _⟩
    go_enter Tryd.func44, Tryd.ntmps44
    go_wp2_with (first | (go_at_call 65; refine calls_of_args (args' := #[.slice (some ⟨w.heap.size, 0, none⟩) (bytesOf a0).length (grownCap w a0.size 0 5), .int .i64 0]) (by rw [hl.out]) ?_; (with_reducible refine (gjson_validpayload.calls k _ _ (bytesOf a0) 0 r1 r2 _ ?side1 ?side2 HT.out).mono ?_); (case side1 => rw [hl.out]; exact hc.out); (case side2 => rw [hl.out]; exact hcap.out); rintro e w' ⟨rfl, ⟨nd, rfl⟩⟩) | go_in)
    go_ret
    exact ⟨rfl, pw_below_drewN hb.out _⟩
  · rw [if_neg hs] at h
    exact absurd h (by simp)


end Go.Proofs.YtdllbnecbbggfaaDoor.XFnGjQuoteValid
