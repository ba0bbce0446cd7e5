/- Proved: GetUnsafeString along keys that lead to a value gives its text as it stands; for every text and all keys. -/
import Derived.Test.YtcfhnfjkiljigaaDoorCards
import Derived.Test.YtcfhnfjkiljigaaDoorTie
import Derived.Test.YtcfhnfjkiljigaaDoorPa20
import Derived.WalkKit
import Derived.ProofKit
import Derived.OpenShut
import Derived.ShutString
import Derived.SliceStrings
import Derived.Carry
import Derived.ChangeOld
import Derived.Below
import Derived.SizedLaws
import Derived.Deep.DeepHandedRow
import Derived.Deep.DeepWitnessRowRef
import Derived.LaidMore
import Derived.LaidLaws
import Derived.Stop.Joined
import Derived.SevenTiedAt
namespace Go.Proofs.YtcfhnfjkiljigaaDoor.fnJpGetUnsafe
open Go.ChangeShapes Go.WideShapes Go.ChangeAt Go.RowKit
open Go.ChangeMaps (open_string shut_string)
open Go.Proofs.YtcfhnfjkiljigaaDoorW.PrintWords Go.Proofs.YtcfhnfjkiljigaaDoorW.PrintLast
set_option linter.unusedVariables false
theorem own : ownKnob Tryd.prog.godebug = none := by kernel_rfl
theorem laidOut : laidOutB Tryd.prog = true := by kernel_rfl
theorem cellsS : Tryd.prog.cellsOf 9 = 1 := by kernel_rfl
/-- The walk, at all strings and all keys. -/
theorem walked (a0 : ByteArray) (A : Option Addr) (c : Nat) (l : List ByteArray) (w : World) (hr : Kd.C Kd.string w A l.length l) (hc : l.length ≤ c) (hG : Glob w) :
    Calls Tryd.prog 4 #[.string a0, .slice A l.length c] w fun e w' => e = .returned (.bool true) ∧ Below w.heap.size w w' := by
  obtain ⟨k, hk⟩ := XFnJpGetUnsafe.Pure.FnJpGetUnsafe a0 l
  exact XFnJpGetUnsafe.laws_FnJpGetUnsafe.calls k a0 A c l true w hr hc hG hk
/-- A start that the row's list lets in. -/
theorem laid_met (os : Os) : laidMetH Tryd.prog Rows.fnJpGetUnsafeRow.laid ((World.doorLaid Tryd.prog 400 os).forCall (fun _ _ => 0) ⟨#[], #[.string ByteArray.empty, .slice none 0 0], []⟩).memory :=
  laidMetH_of_parts3 (fuel := 8) (laidMet_of_run' 8 (by kernel_rfl) (by kernel_rfl)) (by kernel_rfl) (by kernel_rfl)
theorem reads (os : Os) {H : Type} (enc : TypeId × Value → H) : ∃ places, DataW.whole enc Tryd.prog ((World.doorLaid Tryd.prog 400 os).forCall (fun _ _ => 0) ⟨#[], #[.string ByteArray.empty, .slice none 0 0], []⟩).memory Tryd.f4.params.toList Rows.fnJpGetUnsafeSpec.vars false (#[.string ByteArray.empty, .slice none 0 0] : Array Value).toList 8 = some ([.lit (.string []), .nil], [], places) :=
  ⟨[], by kernel_rfl⟩
set_option maxRecDepth 100000 in
theorem lifted (os : Os) (started : os.Started) (H : Type) (enc : TypeId × Value → H) (F : Stop.Interp) :
    ReturnsInHanded {} Tryd.checked os 4 .any ((OpenSpec.ofChange Rows.fnJpGetUnsafeSpec).preRow enc Tryd.prog Tryd.f4 Rows.fnJpGetUnsafeRow.domain false Rows.fnJpGetUnsafeRow.laid) (((OpenSpec.ofChange Rows.fnJpGetUnsafeSpec).at F).post enc Tryd.prog Tryd.f4 false true false false) := by
  obtain ⟨places, hx⟩ := reads os enc
  refine returnsInHanded_of_row (C := Tryd.checked) (s := OpenSpec.ofChange Rows.fnJpGetUnsafeSpec) own started (by kernel_rfl) Tryd.func4
    (witness_row_atRef (enc := enc) (C := Tryd.checked) false (World.doorLaid Tryd.prog 400 os) #[.string ByteArray.empty, .slice none 0 0] rfl (by kernel_rfl) (by kernel_rfl) (by kernel_rfl)
      (OpenSpec.preRow_of_cond 8 hx (by kernel_rfl) (fun k hk => by cases hk) (by kernel_rfl) (laid_met os))) ?_
  intro W base args ds gs before hval0 hW hcnd _ hsz0 hL _ _
  have hval : ∀ (j : Nat) t v, Tryd.f4.params[j]? = some t → args[j]? = some v → Value.okWide Tryd.prog W .any base t v := hval0
  have hW' := hW
  obtain ⟨p, q, hA0, hV, rfl, hfz, hnd⟩ := hW
  have hA : DataW.TrodAll enc Tryd.prog W 0 (fun _ => true) true Tryd.f4.params.toList args.toList ds p := hA0
  rw [Tryd.params4] at hA hval
  obtain ⟨v0, vs0, d0, ds0, p0, q0, hargs, rfl, rfl, h0, r0⟩ := trodAll_cons hA
  obtain ⟨v1, vs1, d1, ds1, p1, q1, rfl, rfl, rfl, h1, r1⟩ := trodAll_cons r0
  obtain ⟨rfl, rfl, rfl⟩ := trodAll_nil r1
  obtain rfl : args = #[v0, v1] := by cases args; simp_all
  obtain ⟨rfl, rfl⟩ := trodVars_none hV
  obtain ⟨a0, rfl, rfl, rfl, y0⟩ := open_string Tryd.underlying9 (hval 0 9 v0 rfl rfl) h0
  obtain ⟨A1, len, cap, rfl⟩ := okWide_slice Tryd.underlying22 (hval 1 22 v1 rfl rfl)
  have h1k := h1
  obtain ⟨fuel, hf⟩ := h1
  clear hA0 hval0 hsz0
  have hlt : ∀ x ∈ p1, x.block < W.heap.size := fun x hx => by simpa using hW'.lt x (by simpa using hx)
  have fin : ∀ e W', (e = Ending.returned (.bool true) ∧ Below W.heap.size W W') → ∃ v, e = Ending.returned v ∧ ((OpenSpec.ofChange Rows.fnJpGetUnsafeSpec).at F).post enc Tryd.prog Tryd.f4 false true false false W #[.string a0, .slice A1 len cap] v W' := by
    intro e W' ⟨he, bel⟩
    subst he
    exact ⟨_, rfl, _, _, _, [], _, [], hW', trodAll_mk1 (shut_bool Tryd.underlying4 _), (trodAll_cons_mk (shut_string Tryd.underlying9 y0) (trodAll_cons_mk (Below.trod laidOut (by kernel_rfl) (of_decide_eq_true (by kernel_rfl)) h1k bel hlt) trodAll_mk0)), rfl, bel.frame _, fun h => by cases h⟩
  rcases open_strings Tryd.underlying22 Tryd.underlying9 cellsS hf with ⟨hcs, hx⟩ | ⟨a, len', cap', ss, hcs, _, hl, hm, hz, hx, hcell, hws⟩
  · simp [Value.cells] at hcs
    obtain ⟨rfl, rfl, rfl⟩ := hcs
    exact (walked a0 none 0 [] W (Kd.C_of_reads (d := ByteArray.empty) (h1 := fun _ => rfl) ⟨rfl, by decide, fun h => absurd h (by decide)⟩) (Nat.le_refl _) (glob_of_laid hL)).mono fin
  · simp [Value.cells] at hcs
    obtain ⟨rfl, rfl, rfl⟩ := hcs
    simp only [if_true] at hz
    have hm' : cap ≤ 9223372036854775807 := Nat.le_trans hm (by decide)
    have hlen : (ss.take len).length = len := by rw [List.length_take]; omega
    have hrd : ReadsOf Value.string ByteArray.empty W (some a) (ss.take len).length (ss.take len) := ⟨rfl, by omega, fun h => ⟨a, rfl, fun j hj => by
      rw [hcell j (by omega), List.getD_eq_getElem?_getD, List.getD_eq_getElem?_getD, List.getElem?_take, if_pos (by omega)]⟩⟩
    have hcalls := walked a0 (some a) cap (ss.take len) W (Kd.C_of_reads (d := ByteArray.empty) (h1 := fun _ => rfl) hrd) (by omega) (glob_of_laid hL)
    rw [hlen] at hcalls
    exact hcalls.mono fin
theorem said : Rows.FnJpGetUnsafeSaid :=
  OpenClaim.holds_of_cond 4 Tryd.f4 rfl rfl rfl rfl rfl rfl rfl ⟨rfl, rfl, rfl, rfl, rfl⟩ rfl rfl rfl rfl rfl (by kernel_rfl) Tryd.func4 (by kernel_rfl)
    (of_decide_eq_true (by kernel_rfl)) (by unfold Func.isWrapper; first | (rw [if_pos (by decide +kernel)]; kernel_rfl) | (rw [if_neg (by decide +kernel)]; exact ⟨rfl, rfl⟩))
    (fun os started H enc _ F => by rw [OpenClaim.pre_eq_preRow]; exact lifted os started H enc F)
theorem plain (f : FuncId) (fn : Func) (hf : Tryd.pinned.checked.prog.funcNamed "pub-tetrapla/laws.FnJpGetUnsafe" = some f) (hfn : Tryd.pinned.checked.prog.funcs[f]? = some fn) :
    true = Tryd.pinned.checked.prog.looks [] ∧ ∀ (j : Nat) t, fn.params[j]? = some t → Tryd.pinned.checked.prog.wantsStandIn t = false := by
  obtain rfl : f = 4 := Option.some.inj ((show Tryd.prog.funcNamed "pub-tetrapla/laws.FnJpGetUnsafe" = some 4 by kernel_rfl).symm.trans hf) |>.symm
  obtain rfl : fn = Tryd.f4 := (Option.some.inj (Tryd.func4.symm.trans hfn)).symm
  refine ⟨by kernel_rfl, fun j t ht => ?_⟩
  rw [Tryd.params4] at ht
  have hm : t ∈ [9, 22] := by simpa using Array.mem_of_getElem? ht
  have hall : ([9, 22].all fun u => !Tryd.prog.wantsStandIn u) = true := by kernel_rfl
  exact (show Tryd.prog.wantsStandIn t = false by simpa using List.all_eq_true.1 hall t hm)
theorem card : Rows.FnJpGetUnsafeCardSaid :=
  Claim7.holds_tied_plain_at .later [] _ _ _ _ said (fun _ h => by cases h) (by kernel_rfl) (fun _ h => by cases h) fnJpGetUnsafe_row_tie rfl ⟨rfl, rfl⟩ (by kernel_rfl) rfl plain (by kernel_rfl)
#print axioms card
end Go.Proofs.YtcfhnfjkiljigaaDoor.fnJpGetUnsafe
namespace Go.Proofs.YtcfhnfjkiljigaaDoor
/-- The card, under a short name, for the claim. -/
theorem fnJpGetUnsafe_holds : Rows.FnJpGetUnsafeCardSaid := fnJpGetUnsafe.card
end Go.Proofs.YtcfhnfjkiljigaaDoor
