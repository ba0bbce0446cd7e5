-- Written by xprint.py of this session (a program that runs the kit's print and adds to it); Lean checks it.
import Derived.Test.YtdllbnecbbggfaaDoorXFnMtNoCasex0
namespace Go.Proofs.YtdllbnecbbggfaaDoor.XFnMtNoCase
open Go.RowKit Go.Proofs.YtdllbnecbbggfaaDoorW.PrintWords Go.Proofs.YtdllbnecbbggfaaDoorW.PrintLast Go.Proofs.YtdllbnecbbggfaaDoorW.PrintMore
attribute [local go_sem] max2_int min2_int max_two min_two max_three min_three max_four min_four   -- for this text's walks alone
set_option linter.unusedVariables false
set_option linter.unusedSimpArgs false

--EXT
/-! ### spec_Small: function 15 (by hand) -/
def spec_Small.at (s : ByteArray) (k j : Nat) : Int := if j < k then Glob.lo true (bt s j) else bt s j
/-- The bytes of the row g are those of s, small letters in the first k. -/
structure spec_Small.Row (w : World) (g : Nat) (s : ByteArray) (k : Nat) : Prop where
  cell : ∀ j, j < s.size → w.cell? ⟨g, j, none⟩ = some (.int .u8 (spec_Small.at s k j))
  free : ∀ j, j < s.size → w.frozen? ⟨g, j, none⟩ = false
def spec_Small.f (a0 : ByteArray) : Option ByteArray := if a0.size ≤ 140737488351232 then some (strOfNums ((bytesOf a0).map (Glob.lo true))) else none
theorem spec_Small.start (w : World) (e : TypeId) (s : ByteArray) : spec_Small.Row (Lib.bytesWorld w e s) w.heap.size s 0 := by
  refine ⟨fun j hj => ?_, fun j hj => ?_⟩
  · rw [Lib.bytesWorld_cell w e s j hj]
    have h' : j < s.data.toList.length := by rw [data_length]; exact hj
    unfold spec_Small.at
    rw [if_neg (by omega)]
    unfold bt
    rw [dif_pos (by simpa using hj)]
    simp [List.getD_eq_getElem?_getD, List.getElem?_eq_getElem h']
    rfl
  · unfold World.frozen?
    rw [Lib.bytesWorld_at_new]
    have hz : s.size ≤ (Lib.bytesCells w e s).size := by
      unfold Lib.bytesCells
      simp
    simp only []
    simp
    omega
theorem spec_Small.keep {w : World} {g : Nat} {s : ByteArray} {k : Nat} (h : spec_Small.Row w g s k) (hc : Glob.lo true (bt s k) = bt s k) : spec_Small.Row w g s (k + 1) := by
  refine ⟨fun j hj => ?_, h.free⟩
  rw [h.cell j hj]
  unfold spec_Small.at
  by_cases c : j < k
  · rw [if_pos c, if_pos (by omega)]
  · rw [if_neg c]
    by_cases d : j = k
    · subst d
      rw [if_pos (by omega), hc]
    · rw [if_neg (by omega)]
theorem spec_Small.step {w : World} {g : Nat} {s : ByteArray} {k : Nat} (h : spec_Small.Row w g s k) (hk : k < s.size) (v : Int) (hc : Glob.lo true (bt s k) = v) : spec_Small.Row (w.setCell ⟨g, k, none⟩ (.int .u8 v)) g s (k + 1) := by
  refine ⟨fun j hj => ?_, fun j hj => by rw [World.frozen?_setCell]; exact h.free j hj⟩
  by_cases d : j = k
  · subst d
    rw [World.cell?_setCell_same _ _ _ (h.cell j hj)]
    unfold spec_Small.at
    rw [if_pos (by omega), hc]
  · rw [World.cell?_setCell_other _ _ _ _ (by intro e; injection e; omega), h.cell j hj]
    unfold spec_Small.at
    by_cases c : j < k
    · rw [if_pos c, if_pos (by omega)]
    · rw [if_neg c, if_neg (by omega)]
set_option maxHeartbeats 2000000 in
set_option maxRecDepth 100000 in
theorem spec_Small.calls (a0 : ByteArray) (r : ByteArray) (w : World) (h : spec_Small.f a0 = some r) :
    Calls Tryd.prog 15 #[.string a0] w fun e w' => e = .returned (.string r) ∧ Below w.heap.size w w' := by
  unfold spec_Small.f at h
  by_cases hs : a0.size ≤ 140737488351232
  · rw [if_pos hs] at h
    obtain rfl := Option.some.inj h
    clear h
    have kb := fun W => print_bytes (P := Tryd.prog) 9 42 5 Tryd.underlying9 Tryd.underlying42 Tryd.underlying5 a0 W
    have hcap : Aside0 (a0.size ≤ grownCap w a0.size 0 5) := ⟨grownCap_ge _ _ _ _⟩
    have HB := Aside0.mk (bytes_below (Below.refl w.heap.size w) (Nat.le_refl _) 5 a0)
    have HR := Aside0.mk (spec_Small.start w 5 a0)
    go_enter Tryd.func15, Tryd.ntmps15
    go_wp2
    clear kb
    go_loopw [10] (fun i wr => ∃ k : Nat, k ≤ a0.size ∧ i = .int .i64 k ∧ Aside0 (spec_Small.Row wr w.heap.size a0 k) ∧ Aside0 (Below w.heap.size w wr)) (fun i _ => a0.size - (intOf i).toNat)
    case atStart => exact ⟨0, by omega, rfl, HR, HB⟩
    case round =>
      clear HR HB
      obtain ⟨k, hk, rfl, HR, HB⟩ := hrel
      by_cases hlt : k < a0.size
      · have hc : wr.cell? ⟨w.heap.size, k, none⟩ = some (.int .u8 (bt a0 k)) := by
          have := HR.out.cell k hlt
          unfold spec_Small.at at this
          rw [if_neg (by omega)] at this
          exact this
        have hf := HR.out.free k hlt
        have hb := bt_range a0 k
        by_cases c1 : 65 ≤ bt a0 k ∧ bt a0 k ≤ 90
        · obtain ⟨c2, c3⟩ := c1
          have e1 : decide (65 ≤ bt a0 k) = true := decide_eq_true c2
          have e2 : decide (bt a0 k ≤ 90) = true := decide_eq_true c3
          have HL : Aside0 (Glob.lo true (bt a0 k) = bt a0 k + 32) := ⟨by unfold Glob.lo; rw [if_pos ⟨rfl, c2, c3⟩]⟩
          go_wp2
          go_roundw
          case rel => exact ⟨k + 1, by omega, by go_num, ⟨spec_Small.step HR.out hlt _ HL.out⟩, ⟨HB.out.setCell (Nat.le_refl _) _⟩⟩
          case measure => simp [intOf]; omega
        · have HL : Aside0 (Glob.lo true (bt a0 k) = bt a0 k) := ⟨by unfold Glob.lo; rw [if_neg (fun h => c1 h.2)]⟩
          by_cases c2 : 65 ≤ bt a0 k
          · have e1 : decide (65 ≤ bt a0 k) = true := decide_eq_true c2
            have e2 : decide (bt a0 k ≤ 90) = false := decide_eq_false (by omega)
            clear c1
            go_wp2
            go_roundw
            case rel => exact ⟨k + 1, by omega, by go_num, ⟨spec_Small.keep HR.out HL.out⟩, HB⟩
            case measure => simp [intOf]; omega
          · have e1 : decide (65 ≤ bt a0 k) = false := decide_eq_false c2
            clear c1
            go_wp2
            go_roundw
            case rel => exact ⟨k + 1, by omega, by go_num, ⟨spec_Small.keep HR.out HL.out⟩, HB⟩
            case measure => simp [intOf]; omega
      · obtain rfl : k = a0.size := by omega
        have hcv := fun cap => run_convert_bytes_arg (P := Tryd.prog) wr 42 5 Tryd.underlying42 Tryd.underlying5 w.heap.size 0 a0.size cap ((bytesOf a0).map (Glob.lo true)) (by rw [List.length_map, bytesOf_length]) (fun i hi => by
          rw [Nat.zero_add, HR.out.cell i hi]
          unfold spec_Small.at
          rw [if_pos hi]
          have : i < (bytesOf a0).length := by rw [bytesOf_length]; exact hi
          rw [List.getD_eq_getElem?_getD, List.getElem?_map, List.getElem?_eq_getElem this, ← rd_bytesOf]
          unfold rd
          rw [List.getD_eq_getElem?_getD, Int.toNat_natCast, List.getElem?_eq_getElem this]
          rfl) 9 Tryd.underlying9
        go_wp2
        go_ret
        exact ⟨rfl, HB.out⟩
  · rw [if_neg hs] at h
    cases h


end Go.Proofs.YtdllbnecbbggfaaDoor.XFnMtNoCase
