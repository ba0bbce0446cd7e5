/- Proved here: parts of the law FnAlValid (the texts GlobFj LaidAl XFnAlValidx0 XFnAlValidx1 XFnAlValidx2 XFnAlValidx3), no conditions of their own beyond what each theorem says. -/
import Derived.Test.YtlhaefblchpjhaaGreatDoorProg
import Derived.Test.YtlhaefblchpjhaaGreatDoorPa0
import Derived.Test.YtlhaefblchpjhaaGreatDoorRows
import Derived.LaidLaws
import Derived.LaidMore
import Derived.ProofKit
import Derived.Stop.LaidErr
import Derived.Below
import Derived.Deep.Draws
import Derived.Deep.AppendLies
import Derived.Maps.AppendAt
import Derived.OwnWalk
import Derived.Laws.BytesArg
import Derived.Laws.MakeOwn
import Derived.Laws.OwnMore
import Derived.Deep.OwnRows
import Derived.Tactics
import Derived.Lib.ConvBytes
import Derived.Laws.Slices
import Derived.WalkKit
import Derived.KernelRfl
import Derived.RowKit3
import Derived.Deep.LoopGhost
import Derived.Deep.QuietTactic
import Derived.BigQuiet
import Derived.WideLaws
import Derived.Deep.DeepCutAuto
import Derived.Deep.CutBlock
import Derived.Deep.RegionHeld3
import Derived.Laws.Rows
import Derived.Lib.AppendStr
import Derived.ArgAppend
import Derived.Laws.IdiomCopy
import Derived.OrdersHeld
import Derived.Laws.BitsLemmas
import Derived.RowKit
section
namespace Go.Proofs.YtlhaefblchpjhaaGreatDoor
open Go.RowKit Go.Proofs.YtlhaefblchpjhaaGreatDoorW.PrintWords
/-- The variable holds an interface value. -/
def Glob (w : World) : Prop := ∃ te pe, w.cell? ⟨0, 0, none⟩ = some (.iface te pe)
theorem Glob.below {w w' : World} (h : Glob w) (hb : Below w.heap.size w w') : Glob w' := by
  obtain ⟨te, pe, h⟩ := h
  exact ⟨te, pe, pw_cell_below hb h⟩
end Go.Proofs.YtlhaefblchpjhaaGreatDoor
end
section
namespace Go.Proofs.YtlhaefblchpjhaaGreatDoor
open Go.ChangeShapes Go.WideShapes Go.ChangeAt Go.RowKit
theorem gErrSyn : Tryz.prog.globalNamed "strconv.ErrSyntax" = some 0 := by kernel_rfl
theorem gErrSynType : (Tryz.prog.globals[0]?).map (·.type) = some 69 := by kernel_rfl
theorem starErr : "*" ++ "errors.errorString" = "*errors.errorString" := by decide
theorem rowErrString (u : TypeId) (h : Tryz.prog.typeName? 3 u = some "*errors.errorString") : u = 144 :=
  typeName_ptr_named (nm := "errors.errorString") (by rw [starErr]; kernel_rfl) (by kernel_rfl) (by decide) u (by rw [starErr]; exact h)
theorem cellsErrString : Tryz.prog.cellsOf 146 = 1 := by kernel_rfl
theorem cellsStr : Tryz.prog.cellsOf 9 = 1 := by kernel_rfl
theorem glob_of_laid {W : World} (h : laidMetH Tryz.prog Rows.fnAlValidRow.laid W) : Glob W := by
  rw [MakeChecks.laidMetH_plain _ _ _ (by kernel_rfl)] at h
  have h1 := laidMet.tail (laidMet.tail (laidMet.tail (laidMet.tail (laidMet.tail h))))
  obtain ⟨a0, s0, hv, _, _, _⟩ := laid_sentinel h1 gErrSyn gErrSynType Tryz.underlying69 rowErrString Tryz.underlying144 Tryz.underlying146 rfl rfl Tryz.underlying9 cellsErrString cellsStr
  have z0 := World.var?_cell gErrSyn hv 0
  exact ⟨_, _, by simpa using z0⟩
end Go.Proofs.YtlhaefblchpjhaaGreatDoor
end
section
-- Written by xprint.py of this session (a program that runs the kit's print and adds to it); Lean checks it.
namespace Go.Proofs.YtlhaefblchpjhaaGreatDoor.XFnAlValid
open Go.RowKit Go.Proofs.YtlhaefblchpjhaaGreatDoorW.PrintWords Go.Proofs.YtlhaefblchpjhaaGreatDoorW.PrintLast Go.Proofs.YtlhaefblchpjhaaGreatDoorW.PrintMore
attribute [local go_sem] max2_int min2_int max_two min_two max_three min_three max_four min_four   -- for this text's walks alone
set_option linter.unusedVariables false
set_option linter.unusedSimpArgs false
theorem info46 : (Tryz.prog.info? 46).map (fun i => (i.zero, i.size, i.bytes)) = some (some (.agg #[(.int .i64 0), (.int .i64 0), (.int .i64 0), (.slice none 0 0), (.slice none 0 0)]), 5, 72) := by kernel_rfl
theorem info156 : (Tryz.prog.info? 156).map (fun i => (i.zero, i.size, i.bytes)) = some (some (.agg #[(.int .i64 0), (.int .i64 0)]), 2, 16) := by kernel_rfl
-- the values' own types
/-! #### struct type 156 -/
structure S156 where
  f0 : Int
  f1 : Int
def k156 : Kd S156 := Kd.iso (Kd.pair (Kd.int .i64) (Kd.int .i64)) (fun x : S156 => (x.f0, x.f1))
theorem k156_mkM (w : World) (base : Nat) (ok : Nat → Prop) (x : S156)  : k156.M w base ok x [.int .i64 x.f0, .int .i64 x.f1] := ⟨[.int .i64 x.f0], [.int .i64 x.f1], rfl, rfl, rfl⟩
/-! #### struct type 46, nested in itself -/
structure S46 where
  f0 : Int
  f1 : Int
  f2 : Int
  f3 : (List S156)
  f4 : (List S46)
def F46 (d : Kd S46) : Kd S46 := Kd.iso (Kd.pair (Kd.int .i64) (Kd.pair (Kd.int .i64) (Kd.pair (Kd.int .i64) (Kd.pair (Kd.slice 156 k156) (Kd.slice 46 d))))) (fun x : S46 => (x.f0, x.f1, x.f2, x.f3, x.f4))
theorem mono46 : Kd.Mono F46 := Kd.mono_iso _ (Kd.mono_pair (Kd.mono_const _) (Kd.mono_pair (Kd.mono_const _) (Kd.mono_pair (Kd.mono_const _) (Kd.mono_pair (Kd.mono_const _) (Kd.mono_slice 46 Kd.mono_id)))))
theorem sub46 : Kd.Sub F46 [46, 156] := Kd.sub_iso _ (Kd.sub_pair (Kd.sub_const _ (by decide)) (Kd.sub_pair (Kd.sub_const _ (by decide)) (Kd.sub_pair (Kd.sub_const _ (by decide)) (Kd.sub_pair (Kd.sub_const _ (by decide)) (Kd.sub_slice 46 (by decide) Kd.sub_id)))))
theorem sz46 : ∀ n, (Kd.upto F46 5 [46, 156] n).sz = 5 := Kd.upto_sz (fun _ => rfl)
def k46 : Kd S46 := Kd.fix F46 5 [46, 156] sz46 (Kd.upto_E sub46)
theorem k46_mkM (w : World) (base : Nat) (ok : Nat → Prop) (x : S46) {v3 : Value} (g3 : k156.R 156 w base ok v3 x.f3) {v4 : Value} (g4 : k46.R 46 w base ok v4 x.f4) : k46.M w base ok x [.int .i64 x.f0, .int .i64 x.f1, .int .i64 x.f2, v3, v4] := by
  obtain ⟨n4, q4⟩ := Kd.fix_R_back mono46 g4
  have r4 := Kd.upto_R_le mono46 sz46 (show n4 ≤ n4 by omega) q4
  exact ⟨n4 + 1, ⟨[.int .i64 x.f0], [.int .i64 x.f1, .int .i64 x.f2, v3, v4], rfl, rfl, ⟨[.int .i64 x.f1], [.int .i64 x.f2, v3, v4], rfl, rfl, ⟨[.int .i64 x.f2], [v3, v4], rfl, rfl, ⟨[v3], [v4], rfl, ⟨v3, rfl, g3⟩, ⟨v4, rfl, r4⟩⟩⟩⟩⟩⟩
/-! #### struct type 26, nested in itself -/
end Go.Proofs.YtlhaefblchpjhaaGreatDoor.XFnAlValid
end
section
-- Written by xprint.py of this session (a program that runs the kit's print and adds to it); Lean checks it.
namespace Go.Proofs.YtlhaefblchpjhaaGreatDoor.XFnAlValid
open Go.RowKit Go.Proofs.YtlhaefblchpjhaaGreatDoorW.PrintWords Go.Proofs.YtlhaefblchpjhaaGreatDoorW.PrintLast Go.Proofs.YtlhaefblchpjhaaGreatDoorW.PrintMore
attribute [local go_sem] max2_int min2_int max_two min_two max_three min_three max_four min_four   -- for this text's walks alone
set_option linter.unusedVariables false
set_option linter.unusedSimpArgs false
/-! ### laws_alOpens: function 17 -/
def laws_alOpens.l0 : Nat → ByteArray → Int → Int → Option (Int)
  | 0, _, _, _ => none
  | k + 1, x0, x3, x4 => if x4 < (x0.size : Int) then (if 0 ≤ x4 then (if (bt x0 x4) = 91 then (laws_alOpens.l0 k x0 (wrap64 (x3 + 1)) (wrap64 (x4 + 1))) else (if (bt x0 x4) = 123 then (laws_alOpens.l0 k x0 (wrap64 (x3 + 1)) (wrap64 (x4 + 1))) else (laws_alOpens.l0 k x0 x3 (wrap64 (x4 + 1))))) else (none)) else (some x3)
def laws_alOpens.f (k : Nat) (a0 : ByteArray) : Option (Int) := laws_alOpens.l0 k a0 0 0
set_option maxHeartbeats 8000000 in
set_option maxRecDepth 100000 in
theorem laws_alOpens.calls (k : Nat) (a0 : ByteArray) (r : Int) (w : World) (h : laws_alOpens.f k a0 = some r) :
    Calls Tryz.prog 17 #[.string a0] w fun e w' => e = .returned (.int .i64 r) ∧ Drawn0 w w' := by
  have H : (laws_alOpens.l0 k a0 0 0) = some r := h
  clear h
  have H' := Aside0.mk H
  clear H
  go_enter Tryz.func17, Tryz.ntmps17
  go_wp2
  try simp only [Act.put, List.setIfInBounds_toArray, List.set_cons_succ, List.set_cons_zero]
  go_loopg [3, 4] k (fun kq v3 v4 w' => ∃ (x3_1 : Int) (x4_1 : Int), v3 = .int .i64 x3_1 ∧ v4 = .int .i64 x4_1 ∧ Aside0 (laws_alOpens.l0 kq a0 x3_1 x4_1 = some r) ∧ Aside0 (kq ≤ k) ∧ Drawn0 w w')
  case atStart => exact ⟨(0), (0), (by rfl), (by rfl), H', ⟨Nat.le_refl _⟩, by repeat (exact Drawn0.refl _)⟩
  case round =>
    clear H'
    obtain ⟨x3_1, x4_1, rfl, rfl, HA, HK1, ⟨m1, rfl⟩⟩ := hrel
    cases gk with
    | zero => exact absurd HA.out (by simp [laws_alOpens.l0])
    | succ k1 =>
      have H := HA.out
      clear HA
      simp only [laws_alOpens.l0] at H
      by_cases c2 : x4_1 < (a0.size : Int)
      · rw [if_pos c2] at H
        have c2b0 : decide (x4_1 < (a0.size : Int)) = true := decide_eq_true c2
        clear c2
        by_cases c3 : 0 ≤ x4_1
        · rw [if_pos c3] at H
          have c3b0 : decide (0 ≤ x4_1) = true := decide_eq_true c3
          clear c3
          by_cases c5 : (bt a0 x4_1) = 91
          · rw [if_pos c5] at H
            have c5b0 : ((bt a0 x4_1) == 91) = true := beq_iff_eq.mpr c5
            have c5b1 : ((bt a0 x4_1) != 91) = false := bne_eq_false_iff_eq.mpr c5
            clear c5
            have H' := Aside0.mk H
            clear H
            have p4 : 0 ≤ (x4_1 : Int) := of_decide_eq_true (by (with_reducible assumption))
            have q4 : x4_1 < (a0.size : Int) := of_decide_eq_true (by (with_reducible assumption))
            have hx4 := bt_at a0 x4_1
            replace p4 := eq_true p4
            replace q4 := eq_true q4
            go_wp2
            go_roundg k1
            case measure => have := HK1.out; omega
            case rel => exact ⟨(wrap64 (x3_1 + 1)), (wrap64 (x4_1 + 1)), (by rfl), (by rfl), H', ⟨by have := HK1.out; omega⟩, by repeat (first | exact Drawn0.refl _ | apply Drawn0.step)⟩
          · rw [if_neg c5] at H
            have c5b0 : ((bt a0 x4_1) == 91) = false := beq_eq_false_iff_ne.mpr c5
            have c5b1 : ((bt a0 x4_1) != 91) = true := bne_iff_ne.mpr c5
            by_cases c7 : (bt a0 x4_1) = 123
            · rw [if_pos c7] at H
              have c7b0 : ((bt a0 x4_1) == 123) = true := beq_iff_eq.mpr c7
              have c7b1 : ((bt a0 x4_1) != 123) = false := bne_eq_false_iff_eq.mpr c7
              clear c7
              have H' := Aside0.mk H
              clear H
              have p4 : 0 ≤ (x4_1 : Int) := of_decide_eq_true (by (with_reducible assumption))
              have q4 : x4_1 < (a0.size : Int) := of_decide_eq_true (by (with_reducible assumption))
              have hx4 := bt_at a0 x4_1
              replace p4 := eq_true p4
              replace q4 := eq_true q4
              have p6 : 0 ≤ (x4_1 : Int) := of_decide_eq_true (by (with_reducible assumption))
              have q6 : x4_1 < (a0.size : Int) := of_decide_eq_true (by (with_reducible assumption))
              have hx6 := bt_at a0 x4_1
              replace p6 := eq_true p6
              replace q6 := eq_true q6
              go_wp2
              go_roundg k1
              case measure => have := HK1.out; omega
              case rel => exact ⟨(wrap64 (x3_1 + 1)), (wrap64 (x4_1 + 1)), (by rfl), (by rfl), H', ⟨by have := HK1.out; omega⟩, by repeat (first | exact Drawn0.refl _ | apply Drawn0.step)⟩
            · rw [if_neg c7] at H
              have c7b0 : ((bt a0 x4_1) == 123) = false := beq_eq_false_iff_ne.mpr c7
              have c7b1 : ((bt a0 x4_1) != 123) = true := bne_iff_ne.mpr c7
              have H' := Aside0.mk H
              clear H
              have p4 : 0 ≤ (x4_1 : Int) := of_decide_eq_true (by (with_reducible assumption))
              have q4 : x4_1 < (a0.size : Int) := of_decide_eq_true (by (with_reducible assumption))
              have hx4 := bt_at a0 x4_1
              replace p4 := eq_true p4
              replace q4 := eq_true q4
              have p6 : 0 ≤ (x4_1 : Int) := of_decide_eq_true (by (with_reducible assumption))
              have q6 : x4_1 < (a0.size : Int) := of_decide_eq_true (by (with_reducible assumption))
              have hx6 := bt_at a0 x4_1
              replace p6 := eq_true p6
              replace q6 := eq_true q6
              go_wp2
              go_roundg k1
              case measure => have := HK1.out; omega
              case rel => exact ⟨(x3_1), (wrap64 (x4_1 + 1)), (by rfl), (by rfl), H', ⟨by have := HK1.out; omega⟩, by repeat (first | exact Drawn0.refl _ | apply Drawn0.step)⟩
        · rw [if_neg c3] at H
          exact absurd H (by simp)
      · rw [if_neg c2] at H
        have c2b0 : decide (x4_1 < (a0.size : Int)) = false := decide_eq_false c2
        clear c2
        obtain rfl := Option.some.inj H
        go_wp2
        go_ret
        exact ⟨by rfl, by repeat (first | exact Drawn0.refl _ | apply Drawn0.step)⟩
/-! ### laws_fjSteady: function 18 -/
mutual
def laws_fjSteady.l0 : Nat → ByteArray → Bool → Int → Option (Bool)
  | 0, _, _, _ => none
  | k + 1, x0, x3, x4 => if x4 < (x0.size : Int) then (if 0 ≤ x4 then (if (bt x0 x4) = 34 then (laws_fjSteady.l0 k x0 false (wrap64 (x4 + 1))) else (if (bt x0 x4) = 92 then (laws_fjSteady.j1 k x0 x3 x4 x3) else (laws_fjSteady.j1 k x0 x3 x4 false))) else (none)) else (some true)
def laws_fjSteady.j1 : Nat → ByteArray → Bool → Int → Bool → Option (Bool)
  | 0, _, _, _, _ => none
  | k + 1, x0, x3, x4, x16 => if x16 = true then (some false) else (if 0 ≤ x4 then (if x4 < (x0.size : Int) then (if (bt x0 x4) < 32 then (laws_fjSteady.l0 k x0 true (wrap64 (x4 + 1))) else (laws_fjSteady.l0 k x0 x3 (wrap64 (x4 + 1)))) else (none)) else (none))
end
def laws_fjSteady.f (k : Nat) (a0 : ByteArray) : Option (Bool) := laws_fjSteady.l0 k a0 false 0
set_option maxHeartbeats 8000000 in
set_option maxRecDepth 100000 in
theorem laws_fjSteady.calls (k : Nat) (a0 : ByteArray) (r : Bool) (w : World) (h : laws_fjSteady.f k a0 = some r) :
    Calls Tryz.prog 18 #[.string a0] w fun e w' => e = .returned (.bool r) ∧ Drawn0 w w' := by
  have H : (laws_fjSteady.l0 k a0 false 0) = some r := h
  clear h
  have H' := Aside0.mk H
  clear H
  go_enter Tryz.func18, Tryz.ntmps18
  go_wp2
  try simp only [Act.put, List.setIfInBounds_toArray, List.set_cons_succ, List.set_cons_zero]
  go_loopg [3, 4] k (fun kq v3 v4 w' => ∃ (x3_1 : Bool) (x4_1 : Int), v3 = .bool x3_1 ∧ v4 = .int .i64 x4_1 ∧ Aside0 (laws_fjSteady.l0 kq a0 x3_1 x4_1 = some r) ∧ Aside0 (kq ≤ k) ∧ Drawn0 w w')
  case atStart => exact ⟨(false), (0), (by rfl), (by rfl), H', ⟨Nat.le_refl _⟩, by repeat (exact Drawn0.refl _)⟩
  case round =>
    clear H'
    obtain ⟨x3_1, x4_1, rfl, rfl, HA, HK1, ⟨m1, rfl⟩⟩ := hrel
    cases gk with
    | zero => exact absurd HA.out (by simp [laws_fjSteady.l0])
    | succ k1 =>
      have H := HA.out
      clear HA
      simp only [laws_fjSteady.l0] at H
      by_cases c2 : x4_1 < (a0.size : Int)
      · rw [if_pos c2] at H
        have c2b0 : decide (x4_1 < (a0.size : Int)) = true := decide_eq_true c2
        clear c2
        by_cases c3 : 0 ≤ x4_1
        · rw [if_pos c3] at H
          have c3b0 : decide (0 ≤ x4_1) = true := decide_eq_true c3
          clear c3
          by_cases c5 : (bt a0 x4_1) = 34
          · rw [if_pos c5] at H
            have c5b0 : ((bt a0 x4_1) == 34) = true := beq_iff_eq.mpr c5
            have c5b1 : ((bt a0 x4_1) != 34) = false := bne_eq_false_iff_eq.mpr c5
            clear c5
            have H' := Aside0.mk H
            clear H
            have p4 : 0 ≤ (x4_1 : Int) := of_decide_eq_true (by (with_reducible assumption))
            have q4 : x4_1 < (a0.size : Int) := of_decide_eq_true (by (with_reducible assumption))
            have hx4 := bt_at a0 x4_1
            replace p4 := eq_true p4
            replace q4 := eq_true q4
            go_wp2
            go_roundg k1
            case measure => have := HK1.out; omega
            case rel => exact ⟨(false), (wrap64 (x4_1 + 1)), (by rfl), (by rfl), H', ⟨by have := HK1.out; omega⟩, by repeat (first | exact Drawn0.refl _ | apply Drawn0.step)⟩
          · rw [if_neg c5] at H
            have c5b0 : ((bt a0 x4_1) == 34) = false := beq_eq_false_iff_ne.mpr c5
            have c5b1 : ((bt a0 x4_1) != 34) = true := bne_iff_ne.mpr c5
            have HC6 := Aside0.mk H
            clear H
            have p4 : 0 ≤ (x4_1 : Int) := of_decide_eq_true (by (with_reducible assumption))
            have q4 : x4_1 < (a0.size : Int) := of_decide_eq_true (by (with_reducible assumption))
            have hx4 := bt_at a0 x4_1
            replace p4 := eq_true p4
            replace q4 := eq_true q4
            go_upto_region 7 with (fail)
            go_cut [16] (fun v16 wc => ∃ (kq : Nat) (x16_5 : Bool), v16 = .bool x16_5 ∧ Aside0 (laws_fjSteady.j1 kq a0 x3_1 x4_1 x16_5 = some r) ∧ Aside0 (kq ≤ k1) ∧ Drawn0 w wc)
            case first =>
              have H := HC6.out
              clear HC6
              by_cases c8 : (bt a0 x4_1) = 92
              · rw [if_pos c8] at H
                have c8b0 : ((bt a0 x4_1) == 92) = true := beq_iff_eq.mpr c8
                have c8b1 : ((bt a0 x4_1) != 92) = false := bne_eq_false_iff_eq.mpr c8
                clear c8
                (skip)
                have H' := Aside0.mk H
                clear H
                have p7 : 0 ≤ (x4_1 : Int) := of_decide_eq_true (by (with_reducible assumption))
                have q7 : x4_1 < (a0.size : Int) := of_decide_eq_true (by (with_reducible assumption))
                have hx7 := bt_at a0 x4_1
                replace p7 := eq_true p7
                replace q7 := eq_true q7
                go_wp2
                go_meet
                case rel => exact ⟨_, (x3_1), (by rfl), H', ⟨by have := HK1.out; omega⟩, by repeat (first | exact Drawn0.refl _ | apply Drawn0.step)⟩
              · rw [if_neg c8] at H
                have c8b0 : ((bt a0 x4_1) == 92) = false := beq_eq_false_iff_ne.mpr c8
                have c8b1 : ((bt a0 x4_1) != 92) = true := bne_iff_ne.mpr c8
                (skip)
                have H' := Aside0.mk H
                clear H
                have p7 : 0 ≤ (x4_1 : Int) := of_decide_eq_true (by (with_reducible assumption))
                have q7 : x4_1 < (a0.size : Int) := of_decide_eq_true (by (with_reducible assumption))
                have hx7 := bt_at a0 x4_1
                replace p7 := eq_true p7
                replace q7 := eq_true q7
                go_wp2
                go_meet
                case rel => exact ⟨_, (false), (by rfl), H', ⟨by have := HK1.out; omega⟩, by repeat (first | exact Drawn0.refl _ | apply Drawn0.step)⟩
            case rest =>
              clear HC6
              clear c2b0
              clear c3b0
              clear p4
              clear q4
              clear hx4
              clear c5
              clear c5b0
              clear c5b1
              obtain ⟨kq, x16_5, rfl, HA, HJ5, ⟨mc5, rfl⟩⟩ := hcut
              cases kq with
              | zero => exact absurd HA.out (by simp [laws_fjSteady.j1])
              | succ kj5 =>
                have H := HA.out
                clear HA
                simp only [laws_fjSteady.j1] at H
                by_cases c9 : x16_5 = true
                · subst c9
                  have H1 : (some false) = some r := by rw [if_pos rfl] at H; exact H
                  clear H
                  have H := H1
                  clear H1
                  obtain rfl := Option.some.inj H
                  go_wp2
                  go_ret
                  exact ⟨by rfl, by repeat (first | exact Drawn0.refl _ | apply Drawn0.step)⟩
                · replace c9 := Bool.eq_false_iff.mpr c9
                  subst c9
                  have H1 : (if 0 ≤ x4_1 then (if x4_1 < (a0.size : Int) then (if (bt a0 x4_1) < 32 then (laws_fjSteady.l0 kj5 a0 true (wrap64 (x4_1 + 1))) else (laws_fjSteady.l0 kj5 a0 x3_1 (wrap64 (x4_1 + 1)))) else (none)) else (none)) = some r := by rw [if_neg (show ¬ (false = true) by decide)] at H; exact H
                  clear H
                  have H := H1
                  clear H1
                  by_cases c10 : 0 ≤ x4_1
                  · rw [if_pos c10] at H
                    have c10b0 : decide (0 ≤ x4_1) = true := decide_eq_true c10
                    clear c10
                    by_cases c11 : x4_1 < (a0.size : Int)
                    · rw [if_pos c11] at H
                      have c11b0 : decide (x4_1 < (a0.size : Int)) = true := decide_eq_true c11
                      clear c11
                      by_cases c13 : (bt a0 x4_1) < 32
                      · rw [if_pos c13] at H
                        have c13b0 : decide ((bt a0 x4_1) < 32) = true := decide_eq_true c13
                        clear c13
                        have H' := Aside0.mk H
                        clear H
                        have p12 : 0 ≤ (x4_1 : Int) := of_decide_eq_true (by (with_reducible assumption))
                        have q12 : x4_1 < (a0.size : Int) := of_decide_eq_true (by (with_reducible assumption))
                        have hx12 := bt_at a0 x4_1
                        replace p12 := eq_true p12
                        replace q12 := eq_true q12
                        go_wp2
                        go_roundg kj5
                        case measure => have := HK1.out; have := HJ5.out; omega
                        case rel => exact ⟨(true), (wrap64 (x4_1 + 1)), (by rfl), (by rfl), H', ⟨by have := HK1.out; have := HJ5.out; omega⟩, by repeat (first | exact Drawn0.refl _ | apply Drawn0.step)⟩
                      · rw [if_neg c13] at H
                        have c13b0 : decide ((bt a0 x4_1) < 32) = false := decide_eq_false c13
                        clear c13
                        have H' := Aside0.mk H
                        clear H
                        have p12 : 0 ≤ (x4_1 : Int) := of_decide_eq_true (by (with_reducible assumption))
                        have q12 : x4_1 < (a0.size : Int) := of_decide_eq_true (by (with_reducible assumption))
                        have hx12 := bt_at a0 x4_1
                        replace p12 := eq_true p12
                        replace q12 := eq_true q12
                        go_wp2
                        go_roundg kj5
                        case measure => have := HK1.out; have := HJ5.out; omega
                        case rel => exact ⟨(x3_1), (wrap64 (x4_1 + 1)), (by rfl), (by rfl), H', ⟨by have := HK1.out; have := HJ5.out; omega⟩, by repeat (first | exact Drawn0.refl _ | apply Drawn0.step)⟩
                    · rw [if_neg c11] at H
                      exact absurd H (by simp)
                  · rw [if_neg c10] at H
                    exact absurd H (by simp)
        · rw [if_neg c3] at H
          exact absurd H (by simp)
      · rw [if_neg c2] at H
        have c2b0 : decide (x4_1 < (a0.size : Int)) = false := decide_eq_false c2
        clear c2
        obtain rfl := Option.some.inj H
        go_wp2
        go_ret
        exact ⟨by rfl, by repeat (first | exact Drawn0.refl _ | apply Drawn0.step)⟩
/-! ### spec_Blank: function 76 -/
def spec_Blank.f (a0 : Int) : Option (Bool) := if a0 = 32 then (some true) else (if a0 = 9 then (some true) else (if a0 = 10 then (some true) else (some (a0 == 13))))
set_option maxHeartbeats 8000000 in
set_option maxRecDepth 100000 in
theorem spec_Blank.calls (a0 : Int) (r : Bool) (w : World) (h : spec_Blank.f a0 = some r) :
    Calls Tryz.prog 76 #[.int .u8 a0] w fun e w' => e = .returned (.bool r) ∧ Drawn0 w w' := by
  have H : (if a0 = 32 then (some true) else (if a0 = 9 then (some true) else (if a0 = 10 then (some true) else (some (a0 == 13))))) = some r := h
  clear h
  by_cases c2 : a0 = 32
  · rw [if_pos c2] at H
    have c2b0 : (a0 == 32) = true := beq_iff_eq.mpr c2
    have c2b1 : (a0 != 32) = false := bne_eq_false_iff_eq.mpr c2
    clear c2
    obtain rfl := Option.some.inj H
    go_enter Tryz.func76, Tryz.ntmps76
    go_wp2
    go_ret
    exact ⟨by rfl, by repeat (exact Drawn0.refl _)⟩
  · rw [if_neg c2] at H
    have c2b0 : (a0 == 32) = false := beq_eq_false_iff_ne.mpr c2
    have c2b1 : (a0 != 32) = true := bne_iff_ne.mpr c2
    by_cases c3 : a0 = 9
    · rw [if_pos c3] at H
      have c3b0 : (a0 == 9) = true := beq_iff_eq.mpr c3
      have c3b1 : (a0 != 9) = false := bne_eq_false_iff_eq.mpr c3
      clear c3
      obtain rfl := Option.some.inj H
      go_enter Tryz.func76, Tryz.ntmps76
      go_wp2
      go_ret
      exact ⟨by rfl, by repeat (exact Drawn0.refl _)⟩
    · rw [if_neg c3] at H
      have c3b0 : (a0 == 9) = false := beq_eq_false_iff_ne.mpr c3
      have c3b1 : (a0 != 9) = true := bne_iff_ne.mpr c3
      by_cases c4 : a0 = 10
      · rw [if_pos c4] at H
        have c4b0 : (a0 == 10) = true := beq_iff_eq.mpr c4
        have c4b1 : (a0 != 10) = false := bne_eq_false_iff_eq.mpr c4
        clear c4
        obtain rfl := Option.some.inj H
        go_enter Tryz.func76, Tryz.ntmps76
        go_wp2
        go_ret
        exact ⟨by rfl, by repeat (exact Drawn0.refl _)⟩
      · rw [if_neg c4] at H
        have c4b0 : (a0 == 10) = false := beq_eq_false_iff_ne.mpr c4
        have c4b1 : (a0 != 10) = true := bne_iff_ne.mpr c4
        obtain rfl := Option.some.inj H
        go_enter Tryz.func76, Tryz.ntmps76
        go_wp2
        go_ret
        exact ⟨by rfl, by repeat (exact Drawn0.refl _)⟩
/-- A state of type 85 at block g of W; what its slices lead to came in by w0. -/
def IsS85 (w0 W : World) (g : Nat) (f0 : ByteArray) (f1 : Int) : Prop := W.heap[g]? = some (.cells #[.string f0, .int .i64 f1] 85 (0, 0)) ∧ w0.heap.size ≤ g
theorem IsS85.grown {w0 W : World} {g : Nat} {f0 : ByteArray} {f1 : Int} {W1 : World} {row : Option Nat} (h : IsS85 w0 W g f0 f1) (hw : W.grownBy W1 row) (hne : some g ≠ row) : IsS85 w0 W1 g f0 f1 := by
  obtain ⟨hb, hg⟩ := h
  exact ⟨blk_grown hb hw hne, hg⟩
theorem IsS85.below {w0 W : World} {g : Nat} {f0 : ByteArray} {f1 : Int} {W1 : World} (h : IsS85 w0 W g f0 f1) (hw : Below W.heap.size W W1) : IsS85 w0 W1 g f0 f1 := h.grown (grown_of_below hw none) (by simp)
theorem IsS85.drewN {w0 W : World} {g : Nat} {f0 : ByteArray} {f1 : Int} (h : IsS85 w0 W g f0 f1) (m : Nat) : IsS85 w0 (W.drewN m) g f0 f1 := h
theorem IsS85.apart {w0 W : World} {g : Nat} {f0 : ByteArray} {f1 : Int} {α : Type} {d : Kd α} {e : Nat} {base : Nat} {ok : Nat → Prop} {v : Value} {xs : List α} (h : IsS85 w0 W g f0 f1) (ho : d.R e W base ok v xs) (ht : ∀ q, q ∈ e :: d.E → q ≠ 85) : d.R e W base (fun k => ok k ∧ k ≠ g) v xs := by
  obtain ⟨hb, hg⟩ := h
  exact Kd.R_types ho hb ht
theorem IsS85.own_ne {w0 W : World} {g : Nat} {f0 : ByteArray} {f1 : Int} {α : Type} {d : Kd α} {e : Nat} {base : Nat} {ok : Nat → Prop} {v : Value} {xs : List α} (h : IsS85 w0 W g f0 f1) (ho : d.R e W base ok v xs) (ht : e ≠ 85) : some g ≠ v.ownBlock := by
  obtain ⟨hb, hg⟩ := h
  exact Kd.R_ne ho hb ht
theorem IsS85.lt {w0 W : World} {g : Nat} {f0 : ByteArray} {f1 : Int} (h : IsS85 w0 W g f0 f1) : g < W.heap.size := by
  obtain ⟨hb, hg⟩ := h
  exact blk_lt hb
theorem IsS85.ge {w0 W : World} {g : Nat} {f0 : ByteArray} {f1 : Int} (h : IsS85 w0 W g f0 f1) : w0.heap.size ≤ g := by
  obtain ⟨hb, hg⟩ := h
  exact hg
theorem IsS85.far {w0 W : World} {g : Nat} {f0 : ByteArray} {f1 : Int} {p : Addr} (h : IsS85 w0 W g f0 f1) (hne : g ≠ p.block) (u : Value) : IsS85 w0 (W.setCell p u) g f0 f1 := by
  obtain ⟨hb, hg⟩ := h
  exact ⟨blk_far hb hne u, hg⟩
theorem cellS85_0 {W : World} {g : Nat} {f0 : ByteArray} {f1 : Int} (h : W.heap[g]? = some (.cells #[.string f0, .int .i64 f1] 85 (0, 0))) : W.cell? ⟨g, 0, none⟩ = some (.string f0) := (blk_cell h 0).trans rfl
theorem IsS85.set_0 {w0 W : World} {g : Nat} {f0 : ByteArray} {f1 : Int} (h : IsS85 w0 W g f0 f1) (x : ByteArray) : IsS85 w0 (W.setCell ⟨g, 0, none⟩ (.string x)) g x f1 := by
  obtain ⟨hb, hg⟩ := h
  exact ⟨by simpa using blk_set hb 0 (.string x), hg⟩
theorem cellS85_1 {W : World} {g : Nat} {f0 : ByteArray} {f1 : Int} (h : W.heap[g]? = some (.cells #[.string f0, .int .i64 f1] 85 (0, 0))) : W.cell? ⟨g, 1, none⟩ = some (.int .i64 f1) := (blk_cell h 1).trans rfl
theorem IsS85.set_1 {w0 W : World} {g : Nat} {f0 : ByteArray} {f1 : Int} (h : IsS85 w0 W g f0 f1) (x : Int) : IsS85 w0 (W.setCell ⟨g, 1, none⟩ (.int .i64 x)) g f0 x := by
  obtain ⟨hb, hg⟩ := h
  exact ⟨by simpa using blk_set hb 1 (.int .i64 x), hg⟩
/-! ### spec_reader_blanks: function 48 -/
def spec_reader_blanks.l0 : Nat → ByteArray → Int → Option (ByteArray × Int)
  | 0, _, _ => none
  | k + 1, x1000, x1001 => if x1001 < (x1000.size : Int) then (if 0 ≤ x1001 then ((spec_Blank.f (bt x1000 x1001)).bind fun t101 => (if t101 = true then (spec_reader_blanks.l0 k x1000 (wrap64 (x1001 + 1))) else (some (x1000, x1001)))) else (none)) else (some (x1000, x1001))
def spec_reader_blanks.f (k : Nat) (s0_0 : ByteArray) (s0_1 : Int) : Option (ByteArray × Int) := spec_reader_blanks.l0 k s0_0 s0_1
set_option maxHeartbeats 8000000 in
set_option maxRecDepth 100000 in
theorem spec_reader_blanks.calls (k : Nat) (g : Nat) (s0_0 : ByteArray) (s0_1 : Int) (r1 : ByteArray) (r2 : Int) (w0 w : World) (hI : IsS85 w0 w g s0_0 s0_1) (hB : Below w0.heap.size w0 w) (h : spec_reader_blanks.f k s0_0 s0_1 = some (r1, r2)) :
    Calls Tryz.prog 48 #[.pointer (some ⟨g, 0, none⟩)] w fun e w' => e = .returned (.tuple #[]) ∧ IsS85 w0 w' g r1 r2 ∧ Below w0.heap.size w0 w' ∧ KeepBut w w' g none := by
  have HI0 := Aside0.mk hI
  have HK := Aside0.mk (KeepBut.refl w g none)
  have HL := Aside0.mk hB.size
  clear hI
  have HW0 := Aside0.mk hB.size
  have HB := Aside0.mk hB
  clear hB
  have H : (spec_reader_blanks.l0 k s0_0 s0_1) = some (r1, r2) := h
  clear h
  have H' := Aside0.mk H
  clear H
  go_enter Tryz.func48, Tryz.ntmps48
  go_wp2
  repeat (go_quiet (fail); try go_wp2)
  try simp only [Act.put, List.setIfInBounds_toArray, List.set_cons_succ, List.set_cons_zero]
  go_loopg [] k (fun kq w' => ∃ (x1001_1 : Int), Aside0 (spec_reader_blanks.l0 kq s0_0 x1001_1 = some (r1, r2)) ∧ Aside0 (kq ≤ k) ∧ Aside0 (IsS85 w0 w' g s0_0 x1001_1) ∧ Aside0 (KeepBut w w' g none) ∧ Aside0 (Below w0.heap.size w0 w'))
  case atStart => exact ⟨(s0_1), H', ⟨Nat.le_refl _⟩, ⟨by exact HI0.out⟩, ⟨by exact HK.out⟩, ⟨by exact HB.out⟩⟩
  case round =>
    clear H'
    obtain ⟨x1001_1, HA, HK1, HI0, HK, HB⟩ := hrel
    cases gk with
    | zero => exact absurd HA.out (by simp [spec_reader_blanks.l0])
    | succ k1 =>
      have H := HA.out
      clear HA
      simp only [spec_reader_blanks.l0] at H
      by_cases c2 : x1001_1 < (s0_0.size : Int)
      · rw [if_pos c2] at H
        have c2b0 : decide (x1001_1 < (s0_0.size : Int)) = true := decide_eq_true c2
        clear c2
        by_cases c3 : 0 ≤ x1001_1
        · rw [if_pos c3] at H
          have c3b0 : decide (0 ≤ x1001_1) = true := decide_eq_true c3
          clear c3
          replace H := Option.bind_eq_some_iff.mp H
          obtain ⟨t101, A50, H⟩ := H
          replace H : (if t101 = true then (spec_reader_blanks.l0 k1 s0_0 (wrap64 (x1001_1 + 1))) else (some (s0_0, x1001_1))) = some (r1, r2) := H
          have A5 := Aside0.mk A50
          clear A50
          by_cases c6 : t101 = true
          · subst c6
            have H1 : (spec_reader_blanks.l0 k1 s0_0 (wrap64 (x1001_1 + 1))) = some (r1, r2) := by rw [if_pos rfl] at H; exact H
            clear H
            have H := H1
            clear H1
            have H' := Aside0.mk H
            clear H
            obtain ⟨HGz7, hgz7⟩ := HI0.out
            have hcz7_0 := cellS85_0 HGz7
            have hcz7_1 := cellS85_1 HGz7
            have hfz7_0 := blk_frozen HGz7 0
            have hfz7_1 := blk_frozen HGz7 1
            clear HGz7 hgz7
            have p4 : 0 ≤ (x1001_1 : Int) := of_decide_eq_true (by (with_reducible assumption))
            have q4 : x1001_1 < (s0_0.size : Int) := of_decide_eq_true (by (with_reducible assumption))
            have hx4 := bt_at s0_0 x1001_1
            replace p4 := eq_true p4
            replace q4 := eq_true q4
            go_wp2_with (fail)
            repeat (go_quiet (((go_at_call 76; (with_reducible refine (spec_Blank.calls (bt s0_0 x1001_1) true _ A5.out).mono ?_); rintro e w' ⟨rfl, ⟨nd, rfl⟩⟩; (try exact ⟨rfl, _, World.drewN_drewN _ _ _⟩)))); try go_wp2_with (fail))
            go_roundg k1
            case measure => have := HK1.out; omega
            case rel => exact ⟨(wrap64 (x1001_1 + 1)), H', ⟨by have := HK1.out; omega⟩, ⟨by repeat ((with_reducible first | exact HI0.out | apply IsS85.drewN | apply IsS85.set_1))⟩, ⟨by repeat ((with_reducible first | exact HK.out | apply KeepBut.set_ | apply keep_drewN))⟩, ⟨by repeat ((with_reducible first | exact HB.out | apply pw_below_drewN | refine below_set ?_ (IsS85.ge HI0.out)))⟩⟩
          · replace c6 := Bool.eq_false_iff.mpr c6
            subst c6
            have H1 : (some (s0_0, x1001_1)) = some (r1, r2) := by rw [if_neg (show ¬ (false = true) by decide)] at H; exact H
            clear H
            have H := H1
            clear H1
            simp only [Option.some.injEq, Prod.mk.injEq] at H
            obtain ⟨rfl, rfl⟩ := H
            obtain ⟨HGz8, hgz8⟩ := HI0.out
            have hcz8_0 := cellS85_0 HGz8
            have hcz8_1 := cellS85_1 HGz8
            have hfz8_0 := blk_frozen HGz8 0
            have hfz8_1 := blk_frozen HGz8 1
            clear HGz8 hgz8
            have p4 : 0 ≤ (x1001_1 : Int) := of_decide_eq_true (by (with_reducible assumption))
            have q4 : x1001_1 < (s0_0.size : Int) := of_decide_eq_true (by (with_reducible assumption))
            have hx4 := bt_at s0_0 x1001_1
            replace p4 := eq_true p4
            replace q4 := eq_true q4
            go_wp2_with (fail)
            repeat (go_quiet (((go_at_call 76; (with_reducible refine (spec_Blank.calls (bt s0_0 x1001_1) false _ A5.out).mono ?_); rintro e w' ⟨rfl, ⟨nd, rfl⟩⟩; (try exact ⟨rfl, _, World.drewN_drewN _ _ _⟩)))); try go_wp2_with (fail))
            go_end0
            exact ⟨by rfl, by repeat ((with_reducible first | exact HI0.out | apply IsS85.drewN)), by repeat ((with_reducible first | exact HB.out | apply pw_below_drewN)), by repeat ((with_reducible first | exact HK.out | apply keep_drewN))⟩
        · rw [if_neg c3] at H
          exact absurd H (by simp)
      · rw [if_neg c2] at H
        have c2b0 : decide (x1001_1 < (s0_0.size : Int)) = false := decide_eq_false c2
        clear c2
        simp only [Option.some.injEq, Prod.mk.injEq] at H
        obtain ⟨rfl, rfl⟩ := H
        obtain ⟨HGz9, hgz9⟩ := HI0.out
        have hcz9_0 := cellS85_0 HGz9
        have hcz9_1 := cellS85_1 HGz9
        have hfz9_0 := blk_frozen HGz9 0
        have hfz9_1 := blk_frozen HGz9 1
        clear HGz9 hgz9
        go_wp2
        repeat (go_quiet (fail); try go_wp2)
        go_end0
        exact ⟨by rfl, by repeat ((with_reducible first | exact HI0.out | apply IsS85.drewN)), by repeat ((with_reducible first | exact HB.out | apply pw_below_drewN)), by repeat ((with_reducible first | exact HK.out | apply keep_drewN))⟩
/-! ### spec_reader_here: function 85 -/
def spec_reader_here.f (s0_0 : ByteArray) (s0_1 : Int) : Option (Int × ByteArray × Int) := if s0_1 < (s0_0.size : Int) then (if 0 ≤ s0_1 then (some (bt s0_0 s0_1, s0_0, s0_1)) else (none)) else (some (0, s0_0, s0_1))
set_option maxHeartbeats 8000000 in
set_option maxRecDepth 100000 in
theorem spec_reader_here.calls (g : Nat) (s0_0 : ByteArray) (s0_1 : Int) (r1 : Int) (r2 : ByteArray) (r3 : Int) (w0 w : World) (hI : IsS85 w0 w g s0_0 s0_1) (hB : Below w0.heap.size w0 w) (h : spec_reader_here.f s0_0 s0_1 = some (r1, r2, r3)) :
    Calls Tryz.prog 85 #[.pointer (some ⟨g, 0, none⟩)] w fun e w' => e = .returned (.int .u8 r1) ∧ IsS85 w0 w' g r2 r3 ∧ Below w0.heap.size w0 w' ∧ KeepBut w w' g none := by
  have HI0 := Aside0.mk hI
  have HK := Aside0.mk (KeepBut.refl w g none)
  have HL := Aside0.mk hB.size
  clear hI
  have HW0 := Aside0.mk hB.size
  have HB := Aside0.mk hB
  clear hB
  have H : (if s0_1 < (s0_0.size : Int) then (if 0 ≤ s0_1 then (some (bt s0_0 s0_1, s0_0, s0_1)) else (none)) else (some (0, s0_0, s0_1))) = some (r1, r2, r3) := h
  clear h
  by_cases c2 : s0_1 < (s0_0.size : Int)
  · rw [if_pos c2] at H
    have c2b0 : decide (s0_1 < (s0_0.size : Int)) = true := decide_eq_true c2
    clear c2
    by_cases c3 : 0 ≤ s0_1
    · rw [if_pos c3] at H
      have c3b0 : decide (0 ≤ s0_1) = true := decide_eq_true c3
      clear c3
      simp only [Option.some.injEq, Prod.mk.injEq] at H
      obtain ⟨rfl, rfl, rfl⟩ := H
      obtain ⟨HGz5, hgz5⟩ := HI0.out
      have hcz5_0 := cellS85_0 HGz5
      have hcz5_1 := cellS85_1 HGz5
      have hfz5_0 := blk_frozen HGz5 0
      have hfz5_1 := blk_frozen HGz5 1
      clear HGz5 hgz5
      have p4 : 0 ≤ (s0_1 : Int) := of_decide_eq_true (by (with_reducible assumption))
      have q4 : s0_1 < (s0_0.size : Int) := of_decide_eq_true (by (with_reducible assumption))
      have hx4 := bt_at s0_0 s0_1
      replace p4 := eq_true p4
      replace q4 := eq_true q4
      go_enter Tryz.func85, Tryz.ntmps85
      go_wp2
      repeat (go_quiet (fail); try go_wp2)
      go_ret
      exact ⟨by rfl, by repeat ((with_reducible first | exact HI0.out | apply IsS85.drewN)), by repeat ((with_reducible first | exact HB.out | apply pw_below_drewN)), by repeat ((with_reducible first | exact HK.out | apply keep_drewN))⟩
    · rw [if_neg c3] at H
      exact absurd H (by simp)
  · rw [if_neg c2] at H
    have c2b0 : decide (s0_1 < (s0_0.size : Int)) = false := decide_eq_false c2
    clear c2
    simp only [Option.some.injEq, Prod.mk.injEq] at H
    obtain ⟨rfl, rfl, rfl⟩ := H
    obtain ⟨HGz6, hgz6⟩ := HI0.out
    have hcz6_0 := cellS85_0 HGz6
    have hcz6_1 := cellS85_1 HGz6
    have hfz6_0 := blk_frozen HGz6 0
    have hfz6_1 := blk_frozen HGz6 1
    clear HGz6 hgz6
    go_enter Tryz.func85, Tryz.ntmps85
    go_wp2
    repeat (go_quiet (fail); try go_wp2)
    go_ret
    exact ⟨by rfl, by repeat ((with_reducible first | exact HI0.out | apply IsS85.drewN)), by repeat ((with_reducible first | exact HB.out | apply pw_below_drewN)), by repeat ((with_reducible first | exact HK.out | apply keep_drewN))⟩
end Go.Proofs.YtlhaefblchpjhaaGreatDoor.XFnAlValid
end
section
-- Written by xprint.py of this session (a program that runs the kit's print and adds to it); Lean checks it.
namespace Go.Proofs.YtlhaefblchpjhaaGreatDoor.XFnAlValid
open Go.RowKit Go.Proofs.YtlhaefblchpjhaaGreatDoorW.PrintWords Go.Proofs.YtlhaefblchpjhaaGreatDoorW.PrintLast Go.Proofs.YtlhaefblchpjhaaGreatDoorW.PrintMore
attribute [local go_sem] max2_int min2_int max_two min_two max_three min_three max_four min_four   -- for this text's walks alone
set_option linter.unusedVariables false
set_option linter.unusedSimpArgs false
/-! ### spec_hexDigit: function 154 -/
mutual
def spec_hexDigit.j0 : Nat → Int → Bool → Option (Int × Bool)
  | 0, _, _ => none
  | k + 1, x0, x4 => if x4 = true then (some ((x0 - 48) % 256, true)) else (if 97 ≤ x0 then (spec_hexDigit.j1 k x0 (decide (x0 ≤ 102))) else (spec_hexDigit.j1 k x0 false))
def spec_hexDigit.j1 : Nat → Int → Bool → Option (Int × Bool)
  | 0, _, _ => none
  | k + 1, x0, x14 => if x14 = true then (some (((x0 - 97) % 256) + 10, true)) else (if 65 ≤ x0 then (if x0 ≤ 70 then (some (((x0 - 65) % 256) + 10, true)) else (some (0, false))) else (some (0, false)))
end
def spec_hexDigit.f (k : Nat) (a0 : Int) : Option (Int × Bool) := if 48 ≤ a0 then (spec_hexDigit.j0 k a0 (decide (a0 ≤ 57))) else (spec_hexDigit.j0 k a0 false)
theorem spec_hexDigit.mono_l : ∀ k, (∀ y0 y1, LeO (spec_hexDigit.j0 k y0 y1) (spec_hexDigit.j0 (k + 1) y0 y1)) ∧ (∀ y0 y1, LeO (spec_hexDigit.j1 k y0 y1) (spec_hexDigit.j1 (k + 1) y0 y1))
  | 0 => ⟨fun _ _ r h => by simp [spec_hexDigit.j0] at h, fun _ _ r h => by simp [spec_hexDigit.j1] at h⟩
  | k + 1 => by
    obtain ⟨ih0, ih1⟩ := spec_hexDigit.mono_l k
    refine ⟨?_, ?_⟩
    · intro y0 y1
      unfold spec_hexDigit.j0
      repeat' first
      | (with_reducible exact ih0 _ _)
      | (with_reducible exact ih1 _ _)
      | (with_reducible exact LeO.refl _)
      | (with_reducible exact LeO.none _)
      | (with_reducible refine LeO.ite ?_ ?_)
      | (with_reducible refine LeO.bind ?_ (fun _ => ?_))
      | exact ih0 _ _
      | exact ih1 _ _
      | exact LeO.none _
      | refine LeO.ite ?_ ?_
      | refine LeO.bind ?_ (fun _ => ?_)
    · intro y0 y1
      unfold spec_hexDigit.j1
      repeat' first
      | (with_reducible exact ih0 _ _)
      | (with_reducible exact ih1 _ _)
      | (with_reducible exact LeO.refl _)
      | (with_reducible exact LeO.none _)
      | (with_reducible refine LeO.ite ?_ ?_)
      | (with_reducible refine LeO.bind ?_ (fun _ => ?_))
      | exact ih0 _ _
      | exact ih1 _ _
      | exact LeO.none _
      | refine LeO.ite ?_ ?_
      | refine LeO.bind ?_ (fun _ => ?_)
theorem spec_hexDigit.mono : ∀ a0 k, LeO (spec_hexDigit.f k a0) (spec_hexDigit.f (k + 1) a0) := by
  intro a0 k
  obtain ⟨ih0, ih1⟩ := spec_hexDigit.mono_l k
  unfold spec_hexDigit.f
  repeat' first
      | (with_reducible exact ih0 _ _)
      | (with_reducible exact ih1 _ _)
      | (with_reducible exact LeO.refl _)
      | (with_reducible exact LeO.none _)
      | (with_reducible refine LeO.ite ?_ ?_)
      | (with_reducible refine LeO.bind ?_ (fun _ => ?_))
      | exact ih0 _ _
      | exact ih1 _ _
      | exact LeO.none _
      | refine LeO.ite ?_ ?_
      | refine LeO.bind ?_ (fun _ => ?_)
set_option maxHeartbeats 8000000 in
set_option maxRecDepth 100000 in
theorem spec_hexDigit.calls (k : Nat) (a0 : Int) (r1 : Int) (r2 : Bool) (w : World) (h : spec_hexDigit.f k a0 = some (r1, r2)) :
    Calls Tryz.prog 154 #[.int .u8 a0] w fun e w' => e = .returned (.tuple #[.int .i64 r1, .bool r2]) ∧ Drawn0 w w' := by
  have H : (if 48 ≤ a0 then (spec_hexDigit.j0 k a0 (decide (a0 ≤ 57))) else (spec_hexDigit.j0 k a0 false)) = some (r1, r2) := h
  clear h
  have HC2 := Aside0.mk H
  clear H
  go_enter Tryz.func154, Tryz.ntmps154
  go_upto_region 1 with (fail)
  go_cut [4] (fun v4 wc => ∃ (kq : Nat) (x4_1 : Bool), v4 = .bool x4_1 ∧ Aside0 (spec_hexDigit.j0 kq a0 x4_1 = some (r1, r2)) ∧ Aside0 (kq ≤ k) ∧ Drawn0 w wc)
  case first =>
    have H := HC2.out
    clear HC2
    by_cases c3 : 48 ≤ a0
    · rw [if_pos c3] at H
      have c3b0 : decide (48 ≤ a0) = true := decide_eq_true c3
      clear c3
      (skip)
      have H' := Aside0.mk H
      clear H
      go_wp2
      go_meet
      case rel => exact ⟨_, (decide (a0 ≤ 57)), (by rfl), H', ⟨by omega⟩, by repeat (exact Drawn0.refl _)⟩
    · rw [if_neg c3] at H
      have c3b0 : decide (48 ≤ a0) = false := decide_eq_false c3
      clear c3
      (skip)
      have H' := Aside0.mk H
      clear H
      go_wp2
      go_meet
      case rel => exact ⟨_, (false), (by rfl), H', ⟨by omega⟩, by repeat (exact Drawn0.refl _)⟩
  case rest =>
    clear HC2
    obtain ⟨kq, x4_1, rfl, HA, HJ1, ⟨mc1, rfl⟩⟩ := hcut
    cases kq with
    | zero => exact absurd HA.out (by simp [spec_hexDigit.j0])
    | succ kj1 =>
      have H := HA.out
      clear HA
      simp only [spec_hexDigit.j0] at H
      by_cases c4 : x4_1 = true
      · subst c4
        have H1 : (some ((a0 - 48) % 256, true)) = some (r1, r2) := by rw [if_pos rfl] at H; exact H
        clear H
        have H := H1
        clear H1
        simp only [Option.some.injEq, Prod.mk.injEq] at H
        obtain ⟨rfl, rfl⟩ := H
        go_wp2
        go_ret2
        exact ⟨by rfl, by repeat (first | exact Drawn0.refl _ | apply Drawn0.step)⟩
      · replace c4 := Bool.eq_false_iff.mpr c4
        subst c4
        have H1 : (if 97 ≤ a0 then (spec_hexDigit.j1 kj1 a0 (decide (a0 ≤ 102))) else (spec_hexDigit.j1 kj1 a0 false)) = some (r1, r2) := by rw [if_neg (show ¬ (false = true) by decide)] at H; exact H
        clear H
        have H := H1
        clear H1
        have HC5 := Aside0.mk H
        clear H
        go_upto_region 3 with (fail)
        go_cut [14] (fun v14 wc => ∃ (kq : Nat) (x14_4 : Bool), v14 = .bool x14_4 ∧ Aside0 (spec_hexDigit.j1 kq a0 x14_4 = some (r1, r2)) ∧ Aside0 (kq ≤ kj1) ∧ Drawn0 w wc)
        case first =>
          have H := HC5.out
          clear HC5
          by_cases c6 : 97 ≤ a0
          · rw [if_pos c6] at H
            have c6b0 : decide (97 ≤ a0) = true := decide_eq_true c6
            clear c6
            (skip)
            have H' := Aside0.mk H
            clear H
            go_wp2
            go_meet
            case rel => exact ⟨_, (decide (a0 ≤ 102)), (by rfl), H', ⟨by have := HJ1.out; omega⟩, by repeat (first | exact Drawn0.refl _ | apply Drawn0.step)⟩
          · rw [if_neg c6] at H
            have c6b0 : decide (97 ≤ a0) = false := decide_eq_false c6
            clear c6
            (skip)
            have H' := Aside0.mk H
            clear H
            go_wp2
            go_meet
            case rel => exact ⟨_, (false), (by rfl), H', ⟨by have := HJ1.out; omega⟩, by repeat (first | exact Drawn0.refl _ | apply Drawn0.step)⟩
        case rest =>
          clear HC5
          obtain ⟨kq, x14_4, rfl, HA, HJ4, ⟨mc4, rfl⟩⟩ := hcut
          cases kq with
          | zero => exact absurd HA.out (by simp [spec_hexDigit.j1])
          | succ kj4 =>
            have H := HA.out
            clear HA
            simp only [spec_hexDigit.j1] at H
            by_cases c7 : x14_4 = true
            · subst c7
              have H1 : (some (((a0 - 97) % 256) + 10, true)) = some (r1, r2) := by rw [if_pos rfl] at H; exact H
              clear H
              have H := H1
              clear H1
              simp only [Option.some.injEq, Prod.mk.injEq] at H
              obtain ⟨rfl, rfl⟩ := H
              go_wp2
              go_ret2
              exact ⟨by rfl, by repeat (first | exact Drawn0.refl _ | apply Drawn0.step)⟩
            · replace c7 := Bool.eq_false_iff.mpr c7
              subst c7
              have H1 : (if 65 ≤ a0 then (if a0 ≤ 70 then (some (((a0 - 65) % 256) + 10, true)) else (some (0, false))) else (some (0, false))) = some (r1, r2) := by rw [if_neg (show ¬ (false = true) by decide)] at H; exact H
              clear H
              have H := H1
              clear H1
              by_cases c8 : 65 ≤ a0
              · rw [if_pos c8] at H
                have c8b0 : decide (65 ≤ a0) = true := decide_eq_true c8
                clear c8
                by_cases c9 : a0 ≤ 70
                · rw [if_pos c9] at H
                  have c9b0 : decide (a0 ≤ 70) = true := decide_eq_true c9
                  clear c9
                  simp only [Option.some.injEq, Prod.mk.injEq] at H
                  obtain ⟨rfl, rfl⟩ := H
                  go_wp2
                  go_ret2
                  exact ⟨by rfl, by repeat (first | exact Drawn0.refl _ | apply Drawn0.step)⟩
                · rw [if_neg c9] at H
                  have c9b0 : decide (a0 ≤ 70) = false := decide_eq_false c9
                  clear c9
                  simp only [Option.some.injEq, Prod.mk.injEq] at H
                  obtain ⟨rfl, rfl⟩ := H
                  go_wp2
                  go_ret2
                  exact ⟨by rfl, by repeat (first | exact Drawn0.refl _ | apply Drawn0.step)⟩
              · rw [if_neg c8] at H
                have c8b0 : decide (65 ≤ a0) = false := decide_eq_false c8
                clear c8
                simp only [Option.some.injEq, Prod.mk.injEq] at H
                obtain ⟨rfl, rfl⟩ := H
                go_wp2
                go_ret2
                exact ⟨by rfl, by repeat (first | exact Drawn0.refl _ | apply Drawn0.step)⟩
/-! ### spec_reader_escape: function 139 -/
mutual
def spec_reader_escape.j0 : Nat → Int → Bool → ByteArray → Int → Option (Bool × ByteArray × Int)
  | 0, _, _, _, _ => none
  | k + 1, x7, x8, x1000, x1001 => if x8 = true then (some (true, x1000, wrap64 (x1001 + 1))) else (if x7 = 117 then (spec_reader_escape.l0 k 0 x1000 (wrap64 (x1001 + 1))) else (some (false, x1000, x1001)))
def spec_reader_escape.l0 : Nat → Int → ByteArray → Int → Option (Bool × ByteArray × Int)
  | 0, _, _, _ => none
  | k + 1, x3, x1000, x1001 => if x3 < 4 then ((spec_reader_here.f x1000 x1001).bind fun bt105 => ((spec_hexDigit.f k bt105.1).bind fun bt108 => (if bt108.2 = true then (spec_reader_escape.l0 k (wrap64 (x3 + 1)) bt105.2.1 (wrap64 (bt105.2.2 + 1))) else (some (false, bt105.2.1, bt105.2.2))))) else (some (true, x1000, x1001))
end
def spec_reader_escape.f (k : Nat) (s0_0 : ByteArray) (s0_1 : Int) : Option (Bool × ByteArray × Int) := (spec_reader_here.f s0_0 s0_1).bind fun bt102 => (if bt102.1 = 34 then (spec_reader_escape.j0 k bt102.1 (bt102.1 == 34) bt102.2.1 bt102.2.2) else (if bt102.1 = 92 then (spec_reader_escape.j0 k bt102.1 (bt102.1 == 92) bt102.2.1 bt102.2.2) else (if bt102.1 = 47 then (spec_reader_escape.j0 k bt102.1 (bt102.1 == 47) bt102.2.1 bt102.2.2) else (if bt102.1 = 98 then (spec_reader_escape.j0 k bt102.1 (bt102.1 == 98) bt102.2.1 bt102.2.2) else (if bt102.1 = 102 then (spec_reader_escape.j0 k bt102.1 (bt102.1 == 102) bt102.2.1 bt102.2.2) else (if bt102.1 = 110 then (spec_reader_escape.j0 k bt102.1 (bt102.1 == 110) bt102.2.1 bt102.2.2) else (if bt102.1 = 114 then (spec_reader_escape.j0 k bt102.1 (bt102.1 == 114) bt102.2.1 bt102.2.2) else (spec_reader_escape.j0 k bt102.1 (bt102.1 == 116) bt102.2.1 bt102.2.2))))))))
theorem spec_reader_escape.mono_l : ∀ k, (∀ y0 y1 y2 y3, LeO (spec_reader_escape.j0 k y0 y1 y2 y3) (spec_reader_escape.j0 (k + 1) y0 y1 y2 y3)) ∧ (∀ y0 y1 y2, LeO (spec_reader_escape.l0 k y0 y1 y2) (spec_reader_escape.l0 (k + 1) y0 y1 y2))
  | 0 => ⟨fun _ _ _ _ r h => by simp [spec_reader_escape.j0] at h, fun _ _ _ r h => by simp [spec_reader_escape.l0] at h⟩
  | k + 1 => by
    obtain ⟨ih0, ih1⟩ := spec_reader_escape.mono_l k
    refine ⟨?_, ?_⟩
    · intro y0 y1 y2 y3
      unfold spec_reader_escape.j0
      repeat' first
      | (with_reducible exact ih0 _ _ _ _)
      | (with_reducible exact ih1 _ _ _)
      | (with_reducible exact spec_hexDigit.mono _ _)
      | (with_reducible exact LeO.refl _)
      | (with_reducible exact LeO.none _)
      | (with_reducible refine LeO.ite ?_ ?_)
      | (with_reducible refine LeO.bind ?_ (fun _ => ?_))
      | exact ih0 _ _ _ _
      | exact ih1 _ _ _
      | exact spec_hexDigit.mono _ _
      | exact LeO.none _
      | refine LeO.ite ?_ ?_
      | refine LeO.bind ?_ (fun _ => ?_)
    · intro y0 y1 y2
      unfold spec_reader_escape.l0
      repeat' first
      | (with_reducible exact ih0 _ _ _ _)
      | (with_reducible exact ih1 _ _ _)
      | (with_reducible exact spec_hexDigit.mono _ _)
      | (with_reducible exact LeO.refl _)
      | (with_reducible exact LeO.none _)
      | (with_reducible refine LeO.ite ?_ ?_)
      | (with_reducible refine LeO.bind ?_ (fun _ => ?_))
      | exact ih0 _ _ _ _
      | exact ih1 _ _ _
      | exact spec_hexDigit.mono _ _
      | exact LeO.none _
      | refine LeO.ite ?_ ?_
      | refine LeO.bind ?_ (fun _ => ?_)
theorem spec_reader_escape.mono : ∀ a0 a1 k, LeO (spec_reader_escape.f k a0 a1) (spec_reader_escape.f (k + 1) a0 a1) := by
  intro a0 a1 k
  obtain ⟨ih0, ih1⟩ := spec_reader_escape.mono_l k
  unfold spec_reader_escape.f
  repeat' first
      | (with_reducible exact ih0 _ _ _ _)
      | (with_reducible exact ih1 _ _ _)
      | (with_reducible exact spec_hexDigit.mono _ _)
      | (with_reducible exact LeO.refl _)
      | (with_reducible exact LeO.none _)
      | (with_reducible refine LeO.ite ?_ ?_)
      | (with_reducible refine LeO.bind ?_ (fun _ => ?_))
      | exact ih0 _ _ _ _
      | exact ih1 _ _ _
      | exact spec_hexDigit.mono _ _
      | exact LeO.none _
      | refine LeO.ite ?_ ?_
      | refine LeO.bind ?_ (fun _ => ?_)
set_option maxHeartbeats 8000000 in
set_option maxRecDepth 100000 in
theorem spec_reader_escape.calls (k : Nat) (g : Nat) (s0_0 : ByteArray) (s0_1 : Int) (r1 : Bool) (r2 : ByteArray) (r3 : Int) (w0 w : World) (hI : IsS85 w0 w g s0_0 s0_1) (hB : Below w0.heap.size w0 w) (h : spec_reader_escape.f k s0_0 s0_1 = some (r1, r2, r3)) :
    Calls Tryz.prog 139 #[.pointer (some ⟨g, 0, none⟩)] w fun e w' => e = .returned (.bool r1) ∧ IsS85 w0 w' g r2 r3 ∧ Below w0.heap.size w0 w' ∧ KeepBut w w' g none := by
  have HI0 := Aside0.mk hI
  have HK := Aside0.mk (KeepBut.refl w g none)
  have HL := Aside0.mk hB.size
  clear hI
  have HW0 := Aside0.mk hB.size
  have HB := Aside0.mk hB
  clear hB
  have H : ((spec_reader_here.f s0_0 s0_1).bind fun bt102 => (if bt102.1 = 34 then (spec_reader_escape.j0 k bt102.1 (bt102.1 == 34) bt102.2.1 bt102.2.2) else (if bt102.1 = 92 then (spec_reader_escape.j0 k bt102.1 (bt102.1 == 92) bt102.2.1 bt102.2.2) else (if bt102.1 = 47 then (spec_reader_escape.j0 k bt102.1 (bt102.1 == 47) bt102.2.1 bt102.2.2) else (if bt102.1 = 98 then (spec_reader_escape.j0 k bt102.1 (bt102.1 == 98) bt102.2.1 bt102.2.2) else (if bt102.1 = 102 then (spec_reader_escape.j0 k bt102.1 (bt102.1 == 102) bt102.2.1 bt102.2.2) else (if bt102.1 = 110 then (spec_reader_escape.j0 k bt102.1 (bt102.1 == 110) bt102.2.1 bt102.2.2) else (if bt102.1 = 114 then (spec_reader_escape.j0 k bt102.1 (bt102.1 == 114) bt102.2.1 bt102.2.2) else (spec_reader_escape.j0 k bt102.1 (bt102.1 == 116) bt102.2.1 bt102.2.2))))))))) = some (r1, r2, r3) := h
  clear h
  replace H := Option.bind_eq_some_iff.mp H
  obtain ⟨⟨t102, t103, t104⟩, A20, H⟩ := H
  replace H : (if t102 = 34 then (spec_reader_escape.j0 k t102 (t102 == 34) t103 t104) else (if t102 = 92 then (spec_reader_escape.j0 k t102 (t102 == 92) t103 t104) else (if t102 = 47 then (spec_reader_escape.j0 k t102 (t102 == 47) t103 t104) else (if t102 = 98 then (spec_reader_escape.j0 k t102 (t102 == 98) t103 t104) else (if t102 = 102 then (spec_reader_escape.j0 k t102 (t102 == 102) t103 t104) else (if t102 = 110 then (spec_reader_escape.j0 k t102 (t102 == 110) t103 t104) else (if t102 = 114 then (spec_reader_escape.j0 k t102 (t102 == 114) t103 t104) else (spec_reader_escape.j0 k t102 (t102 == 116) t103 t104)))))))) = some (r1, r2, r3) := H
  have A2 := Aside0.mk A20
  clear A20
  have HC3 := Aside0.mk H
  clear H
  go_enter Tryz.func139, Tryz.ntmps139
  go_upto_if 8 with ((((with_reducible refine gate_callee (f := 85) rfl ?_); refine goesL_ (some 7) rfl rfl Tryz.func85 (by kernel_rfl) rfl #[.pointer (some ⟨g, 0, none⟩)] rfl (by (try simp only [List.map_toArray, List.map_cons, List.map_nil]); rfl) ?_; (with_reducible refine (spec_reader_here.calls g s0_0 s0_1 t102 t103 t104 w0 _ ?side1 ?side2 A2.out).mono ?_); (case side1 => exact HI0.out); (case side2 => exact HB.out); rintro e w4 ⟨rfl, hi, hb, hk⟩; refine ⟨_, rfl, ?_⟩; have n0_ := Aside0.mk (KeepBut.trans (by exact HK.out) hk (.inl rfl)); have n1_ := Aside0.mk (hb); have n2_ := Aside0.mk (hi); clear HK; clear HB; clear HI0; have HK := n0_; have HB := n1_; have HI0 := n2_; clear n0_ n1_ n2_; clear hb; clear hk; clear hi)))
  (try simp only [Act.put, List.setIfInBounds_toArray, List.set_cons_zero, List.set_cons_succ])
  go_cut [8] (fun v8 wc => ∃ (kq : Nat) (x8_2 : Bool), v8 = .bool x8_2 ∧ Aside0 (spec_reader_escape.j0 kq t102 x8_2 t103 t104 = some (r1, r2, r3)) ∧ Aside0 (kq ≤ k) ∧ Aside0 (IsS85 w0 wc g t103 t104) ∧ Aside0 (KeepBut w wc g none) ∧ Aside0 (Below w0.heap.size w0 wc))
  case first =>
    have H := HC3.out
    clear HC3
    by_cases c5 : t102 = 34
    · rw [if_pos c5] at H
      have c5b0 : (t102 == 34) = true := beq_iff_eq.mpr c5
      have c5b1 : (t102 != 34) = false := bne_eq_false_iff_eq.mpr c5
      clear c5
      (rw [c5b0])
      have H' := Aside0.mk H
      clear H
      go_wp2
      go_meet
      case rel => exact ⟨_, ((t102 == 34)), (by ((simp [*]; done))), H', ⟨by omega⟩, ⟨by exact HI0.out⟩, ⟨by exact HK.out⟩, ⟨by exact HB.out⟩⟩
    · rw [if_neg c5] at H
      have c5b0 : (t102 == 34) = false := beq_eq_false_iff_ne.mpr c5
      have c5b1 : (t102 != 34) = true := bne_iff_ne.mpr c5
      (rw [c5b0])
      by_cases c6 : t102 = 92
      · rw [if_pos c6] at H
        have c6b0 : (t102 == 92) = true := beq_iff_eq.mpr c6
        have c6b1 : (t102 != 92) = false := bne_eq_false_iff_eq.mpr c6
        clear c6
        have H' := Aside0.mk H
        clear H
        go_wp2
        go_meet
        case rel => exact ⟨_, ((t102 == 92)), (by ((simp [*]; done))), H', ⟨by omega⟩, ⟨by exact HI0.out⟩, ⟨by exact HK.out⟩, ⟨by exact HB.out⟩⟩
      · rw [if_neg c6] at H
        have c6b0 : (t102 == 92) = false := beq_eq_false_iff_ne.mpr c6
        have c6b1 : (t102 != 92) = true := bne_iff_ne.mpr c6
        by_cases c7 : t102 = 47
        · rw [if_pos c7] at H
          have c7b0 : (t102 == 47) = true := beq_iff_eq.mpr c7
          have c7b1 : (t102 != 47) = false := bne_eq_false_iff_eq.mpr c7
          clear c7
          have H' := Aside0.mk H
          clear H
          go_wp2
          go_meet
          case rel => exact ⟨_, ((t102 == 47)), (by ((simp [*]; done))), H', ⟨by omega⟩, ⟨by exact HI0.out⟩, ⟨by exact HK.out⟩, ⟨by exact HB.out⟩⟩
        · rw [if_neg c7] at H
          have c7b0 : (t102 == 47) = false := beq_eq_false_iff_ne.mpr c7
          have c7b1 : (t102 != 47) = true := bne_iff_ne.mpr c7
          by_cases c8 : t102 = 98
          · rw [if_pos c8] at H
            have c8b0 : (t102 == 98) = true := beq_iff_eq.mpr c8
            have c8b1 : (t102 != 98) = false := bne_eq_false_iff_eq.mpr c8
            clear c8
            have H' := Aside0.mk H
            clear H
            go_wp2
            go_meet
            case rel => exact ⟨_, ((t102 == 98)), (by ((simp [*]; done))), H', ⟨by omega⟩, ⟨by exact HI0.out⟩, ⟨by exact HK.out⟩, ⟨by exact HB.out⟩⟩
          · rw [if_neg c8] at H
            have c8b0 : (t102 == 98) = false := beq_eq_false_iff_ne.mpr c8
            have c8b1 : (t102 != 98) = true := bne_iff_ne.mpr c8
            by_cases c9 : t102 = 102
            · rw [if_pos c9] at H
              have c9b0 : (t102 == 102) = true := beq_iff_eq.mpr c9
              have c9b1 : (t102 != 102) = false := bne_eq_false_iff_eq.mpr c9
              clear c9
              have H' := Aside0.mk H
              clear H
              go_wp2
              go_meet
              case rel => exact ⟨_, ((t102 == 102)), (by ((simp [*]; done))), H', ⟨by omega⟩, ⟨by exact HI0.out⟩, ⟨by exact HK.out⟩, ⟨by exact HB.out⟩⟩
            · rw [if_neg c9] at H
              have c9b0 : (t102 == 102) = false := beq_eq_false_iff_ne.mpr c9
              have c9b1 : (t102 != 102) = true := bne_iff_ne.mpr c9
              by_cases c10 : t102 = 110
              · rw [if_pos c10] at H
                have c10b0 : (t102 == 110) = true := beq_iff_eq.mpr c10
                have c10b1 : (t102 != 110) = false := bne_eq_false_iff_eq.mpr c10
                clear c10
                have H' := Aside0.mk H
                clear H
                go_wp2
                go_meet
                case rel => exact ⟨_, ((t102 == 110)), (by ((simp [*]; done))), H', ⟨by omega⟩, ⟨by exact HI0.out⟩, ⟨by exact HK.out⟩, ⟨by exact HB.out⟩⟩
              · rw [if_neg c10] at H
                have c10b0 : (t102 == 110) = false := beq_eq_false_iff_ne.mpr c10
                have c10b1 : (t102 != 110) = true := bne_iff_ne.mpr c10
                by_cases c11 : t102 = 114
                · rw [if_pos c11] at H
                  have c11b0 : (t102 == 114) = true := beq_iff_eq.mpr c11
                  have c11b1 : (t102 != 114) = false := bne_eq_false_iff_eq.mpr c11
                  clear c11
                  have H' := Aside0.mk H
                  clear H
                  go_wp2
                  go_meet
                  case rel => exact ⟨_, ((t102 == 114)), (by ((simp [*]; done))), H', ⟨by omega⟩, ⟨by exact HI0.out⟩, ⟨by exact HK.out⟩, ⟨by exact HB.out⟩⟩
                · rw [if_neg c11] at H
                  have c11b0 : (t102 == 114) = false := beq_eq_false_iff_ne.mpr c11
                  have c11b1 : (t102 != 114) = true := bne_iff_ne.mpr c11
                  have H' := Aside0.mk H
                  clear H
                  go_wp2
                  go_meet
                  case rel => exact ⟨_, ((t102 == 116)), (by rfl), H', ⟨by omega⟩, ⟨by exact HI0.out⟩, ⟨by exact HK.out⟩, ⟨by exact HB.out⟩⟩
  case rest =>
    clear HC3
    obtain ⟨kq, x8_2, rfl, HA, HJ2, HI0, HK, HB⟩ := hcut
    cases kq with
    | zero => exact absurd HA.out (by simp [spec_reader_escape.j0])
    | succ kj2 =>
      have H := HA.out
      clear HA
      simp only [spec_reader_escape.j0] at H
      by_cases c12 : x8_2 = true
      · subst c12
        have H1 : (some (true, t103, wrap64 (t104 + 1))) = some (r1, r2, r3) := by rw [if_pos rfl] at H; exact H
        clear H
        have H := H1
        clear H1
        simp only [Option.some.injEq, Prod.mk.injEq] at H
        obtain ⟨rfl, rfl, rfl⟩ := H
        obtain ⟨HGz13, hgz13⟩ := HI0.out
        have hcz13_0 := cellS85_0 HGz13
        have hcz13_1 := cellS85_1 HGz13
        have hfz13_0 := blk_frozen HGz13 0
        have hfz13_1 := blk_frozen HGz13 1
        clear HGz13 hgz13
        go_wp2
        go_ret
        exact ⟨by rfl, by repeat ((with_reducible first | exact HI0.out | apply IsS85.set_1)), by repeat ((with_reducible first | exact HB.out | refine below_set ?_ (IsS85.ge HI0.out))), by repeat ((with_reducible first | exact HK.out | apply KeepBut.set_))⟩
      · replace c12 := Bool.eq_false_iff.mpr c12
        subst c12
        have H1 : (if t102 = 117 then (spec_reader_escape.l0 kj2 0 t103 (wrap64 (t104 + 1))) else (some (false, t103, t104))) = some (r1, r2, r3) := by rw [if_neg (show ¬ (false = true) by decide)] at H; exact H
        clear H
        have H := H1
        clear H1
        by_cases c14 : t102 = 117
        · rw [if_pos c14] at H
          have c14b0 : (t102 == 117) = true := beq_iff_eq.mpr c14
          have c14b1 : (t102 != 117) = false := bne_eq_false_iff_eq.mpr c14
          clear c14
          have H' := Aside0.mk H
          clear H
          obtain ⟨HGz15, hgz15⟩ := HI0.out
          have hcz15_0 := cellS85_0 HGz15
          have hcz15_1 := cellS85_1 HGz15
          have hfz15_0 := blk_frozen HGz15 0
          have hfz15_1 := blk_frozen HGz15 1
          clear HGz15 hgz15
          go_wp2
          try simp only [Act.put, List.setIfInBounds_toArray, List.set_cons_succ, List.set_cons_zero]
          go_loopg [3] kj2 (fun kq v3 w' => ∃ (x3_2 : Int) (x1000_2 : ByteArray) (x1001_2 : Int), v3 = .int .i64 x3_2 ∧ Aside0 (spec_reader_escape.l0 kq x3_2 x1000_2 x1001_2 = some (r1, r2, r3)) ∧ Aside0 (kq ≤ kj2) ∧ Aside0 (IsS85 w0 w' g x1000_2 x1001_2) ∧ Aside0 (KeepBut w w' g none) ∧ Aside0 (Below w0.heap.size w0 w'))
          case atStart => exact ⟨(0), (t103), (wrap64 (t104 + 1)), (by rfl), H', ⟨Nat.le_refl _⟩, ⟨by repeat ((with_reducible first | exact HI0.out | apply IsS85.set_1))⟩, ⟨by repeat ((with_reducible first | exact HK.out | apply KeepBut.set_))⟩, ⟨by repeat ((with_reducible first | exact HB.out | refine below_set ?_ (IsS85.ge HI0.out)))⟩⟩
          case round =>
            clear H'
            clear c14b0
            clear c14b1
            clear hcz15_0
            clear hcz15_1
            clear hfz15_0
            clear hfz15_1
            obtain ⟨x3_2, x1000_2, x1001_2, rfl, HA, HK2, HI0, HK, HB⟩ := hrel
            cases gk with
            | zero => exact absurd HA.out (by simp [spec_reader_escape.l0])
            | succ k2 =>
              have H := HA.out
              clear HA
              simp only [spec_reader_escape.l0] at H
              by_cases c16 : x3_2 < 4
              · rw [if_pos c16] at H
                have c16b0 : decide (x3_2 < 4) = true := decide_eq_true c16
                clear c16
                replace H := Option.bind_eq_some_iff.mp H
                obtain ⟨⟨t105, t106, t107⟩, A170, H⟩ := H
                replace H : ((spec_hexDigit.f k2 t105).bind fun bt108 => (if bt108.2 = true then (spec_reader_escape.l0 k2 (wrap64 (x3_2 + 1)) t106 (wrap64 (t107 + 1))) else (some (false, t106, t107)))) = some (r1, r2, r3) := H
                have A17 := Aside0.mk A170
                clear A170
                replace H := Option.bind_eq_some_iff.mp H
                obtain ⟨⟨t108, t109⟩, A180, H⟩ := H
                replace H : (if t109 = true then (spec_reader_escape.l0 k2 (wrap64 (x3_2 + 1)) t106 (wrap64 (t107 + 1))) else (some (false, t106, t107))) = some (r1, r2, r3) := H
                have A18 := Aside0.mk A180
                clear A180
                by_cases c19 : t109 = true
                · subst c19
                  have H1 : (spec_reader_escape.l0 k2 (wrap64 (x3_2 + 1)) t106 (wrap64 (t107 + 1))) = some (r1, r2, r3) := by rw [if_pos rfl] at H; exact H
                  clear H
                  have H := H1
                  clear H1
                  have H' := Aside0.mk H
                  clear H
                  go_wp2_with (first | ((with_reducible refine gate_callee (f := 85) rfl ?_); refine goesL_ (some 39) rfl rfl Tryz.func85 (by kernel_rfl) rfl #[.pointer (some ⟨g, 0, none⟩)] rfl (by (try simp only [List.map_toArray, List.map_cons, List.map_nil]); rfl) ?_; (with_reducible refine (spec_reader_here.calls g x1000_2 x1001_2 t105 t106 t107 w0 _ ?side1 ?side2 A17.out).mono ?_); (case side1 => exact HI0.out); (case side2 => exact HB.out); rintro e w20 ⟨rfl, hi, hb, hk⟩; refine ⟨_, rfl, ?_⟩; have n0_ := Aside0.mk (KeepBut.trans (by exact HK.out) hk (.inl rfl)); have n1_ := Aside0.mk (hb); have n2_ := Aside0.mk (hi); clear HK; clear HB; clear HI0; have HK := n0_; have HB := n1_; have HI0 := n2_; clear n0_ n1_ n2_; clear hb; clear hk; clear hi) | ((with_reducible refine gate_callee (f := 154) rfl ?_); refine goesL_ (some 40) rfl rfl Tryz.func154 (by kernel_rfl) rfl #[.int .u8 t105] rfl (by (try simp only [List.map_toArray, List.map_cons, List.map_nil]); rfl) ?_; (with_reducible refine (spec_hexDigit.calls k2 t105 t108 true _ A18.out).mono ?_); rintro e w' ⟨rfl, ⟨nd, rfl⟩⟩; refine ⟨_, rfl, ?_⟩; (try (rw [drewN_self w20]; generalize hq_ : World.drewN w20 _ = w20; have n0_ : Aside0 (IsS85 w0 w20 g t106 t107) := ⟨by rw [← hq_]; exact (by repeat ((with_reducible first | exact HI0.out | apply IsS85.drewN)))⟩; have n1_ : Aside0 (KeepBut w w20 g none) := ⟨by rw [← hq_]; exact (by repeat ((with_reducible first | exact HK.out | apply keep_drewN)))⟩; have n2_ : Aside0 (Below w0.heap.size w0 w20) := ⟨by rw [← hq_]; exact (by repeat ((with_reducible first | exact HB.out | apply pw_below_drewN)))⟩; clear HI0 HK HB hq_; have HI0 := n0_; have HK := n1_; have HB := n2_; clear n0_ n1_ n2_)); obtain ⟨HGz21, hgz21⟩ := HI0.out; have hcz21_0 := cellS85_0 HGz21; have hcz21_1 := cellS85_1 HGz21; have hfz21_0 := blk_frozen HGz21 0; have hfz21_1 := blk_frozen HGz21 1; clear HGz21 hgz21))
                  go_roundg k2
                  case measure => have := HJ2.out; have := HK2.out; omega
                  case rel => exact ⟨(wrap64 (x3_2 + 1)), (t106), (wrap64 (t107 + 1)), (by rfl), H', ⟨by have := HJ2.out; have := HK2.out; omega⟩, ⟨by repeat ((with_reducible first | exact HI0.out | apply IsS85.set_1))⟩, ⟨by repeat ((with_reducible first | exact HK.out | apply KeepBut.set_))⟩, ⟨by repeat ((with_reducible first | exact HB.out | refine below_set ?_ (IsS85.ge HI0.out)))⟩⟩
                · replace c19 := Bool.eq_false_iff.mpr c19
                  subst c19
                  have H1 : (some (false, t106, t107)) = some (r1, r2, r3) := by rw [if_neg (show ¬ (false = true) by decide)] at H; exact H
                  clear H
                  have H := H1
                  clear H1
                  simp only [Option.some.injEq, Prod.mk.injEq] at H
                  obtain ⟨rfl, rfl, rfl⟩ := H
                  go_wp2_with (first | ((with_reducible refine gate_callee (f := 85) rfl ?_); refine goesL_ (some 39) rfl rfl Tryz.func85 (by kernel_rfl) rfl #[.pointer (some ⟨g, 0, none⟩)] rfl (by (try simp only [List.map_toArray, List.map_cons, List.map_nil]); rfl) ?_; (with_reducible refine (spec_reader_here.calls g x1000_2 x1001_2 t105 t106 t107 w0 _ ?side1 ?side2 A17.out).mono ?_); (case side1 => exact HI0.out); (case side2 => exact HB.out); rintro e w22 ⟨rfl, hi, hb, hk⟩; refine ⟨_, rfl, ?_⟩; have n0_ := Aside0.mk (KeepBut.trans (by exact HK.out) hk (.inl rfl)); have n1_ := Aside0.mk (hb); have n2_ := Aside0.mk (hi); clear HK; clear HB; clear HI0; have HK := n0_; have HB := n1_; have HI0 := n2_; clear n0_ n1_ n2_; clear hb; clear hk; clear hi) | ((with_reducible refine gate_callee (f := 154) rfl ?_); refine goesL_ (some 40) rfl rfl Tryz.func154 (by kernel_rfl) rfl #[.int .u8 t105] rfl (by (try simp only [List.map_toArray, List.map_cons, List.map_nil]); rfl) ?_; (with_reducible refine (spec_hexDigit.calls k2 t105 t108 false _ A18.out).mono ?_); rintro e w' ⟨rfl, ⟨nd, rfl⟩⟩; refine ⟨_, rfl, ?_⟩))
                  go_ret
                  exact ⟨by rfl, by repeat ((with_reducible first | exact HI0.out | apply IsS85.drewN)), by repeat ((with_reducible first | exact HB.out | apply pw_below_drewN)), by repeat ((with_reducible first | exact HK.out | apply keep_drewN))⟩
              · rw [if_neg c16] at H
                have c16b0 : decide (x3_2 < 4) = false := decide_eq_false c16
                clear c16
                simp only [Option.some.injEq, Prod.mk.injEq] at H
                obtain ⟨rfl, rfl, rfl⟩ := H
                go_wp2
                go_ret
                exact ⟨by rfl, by exact HI0.out, by exact HB.out, by exact HK.out⟩
        · rw [if_neg c14] at H
          have c14b0 : (t102 == 117) = false := beq_eq_false_iff_ne.mpr c14
          have c14b1 : (t102 != 117) = true := bne_iff_ne.mpr c14
          simp only [Option.some.injEq, Prod.mk.injEq] at H
          obtain ⟨rfl, rfl, rfl⟩ := H
          go_wp2
          go_ret
          exact ⟨by rfl, by exact HI0.out, by exact HB.out, by exact HK.out⟩
/-! ### spec_reader_quoted: function 88 -/
def spec_reader_quoted.l0 : Nat → ByteArray → Int → Option (Bool × ByteArray × Int)
  | 0, _, _ => none
  | k + 1, x1000, x1001 => if x1001 < (x1000.size : Int) then (if 0 ≤ x1001 then (if (bt x1000 x1001) = 34 then (some (true, x1000, wrap64 (x1001 + 1))) else (if (bt x1000 x1001) < 32 then (some (false, x1000, wrap64 (x1001 + 1))) else (if (bt x1000 x1001) = 92 then ((spec_reader_escape.f k x1000 (wrap64 (x1001 + 1))).bind fun bt110 => (if bt110.1 = true then (spec_reader_quoted.l0 k bt110.2.1 bt110.2.2) else (some (false, bt110.2.1, bt110.2.2)))) else (spec_reader_quoted.l0 k x1000 (wrap64 (x1001 + 1)))))) else (none)) else (some (false, x1000, x1001))
def spec_reader_quoted.f (k : Nat) (s0_0 : ByteArray) (s0_1 : Int) : Option (Bool × ByteArray × Int) := spec_reader_quoted.l0 k s0_0 (wrap64 (s0_1 + 1))
set_option maxHeartbeats 8000000 in
set_option maxRecDepth 100000 in
theorem spec_reader_quoted.calls (k : Nat) (g : Nat) (s0_0 : ByteArray) (s0_1 : Int) (r1 : Bool) (r2 : ByteArray) (r3 : Int) (w0 w : World) (hI : IsS85 w0 w g s0_0 s0_1) (hB : Below w0.heap.size w0 w) (h : spec_reader_quoted.f k s0_0 s0_1 = some (r1, r2, r3)) :
    Calls Tryz.prog 88 #[.pointer (some ⟨g, 0, none⟩)] w fun e w' => e = .returned (.bool r1) ∧ IsS85 w0 w' g r2 r3 ∧ Below w0.heap.size w0 w' ∧ KeepBut w w' g none := by
  have HI0 := Aside0.mk hI
  have HK := Aside0.mk (KeepBut.refl w g none)
  have HL := Aside0.mk hB.size
  clear hI
  have HW0 := Aside0.mk hB.size
  have HB := Aside0.mk hB
  clear hB
  have H : (spec_reader_quoted.l0 k s0_0 (wrap64 (s0_1 + 1))) = some (r1, r2, r3) := h
  clear h
  have H' := Aside0.mk H
  clear H
  obtain ⟨HGz2, hgz2⟩ := HI0.out
  have hcz2_0 := cellS85_0 HGz2
  have hcz2_1 := cellS85_1 HGz2
  have hfz2_0 := blk_frozen HGz2 0
  have hfz2_1 := blk_frozen HGz2 1
  clear HGz2 hgz2
  go_enter Tryz.func88, Tryz.ntmps88
  go_wp2
  repeat (go_quiet (fail); try go_wp2)
  try simp only [Act.put, List.setIfInBounds_toArray, List.set_cons_succ, List.set_cons_zero]
  go_loopg [] k (fun kq w' => ∃ (x1000_1 : ByteArray) (x1001_1 : Int), Aside0 (spec_reader_quoted.l0 kq x1000_1 x1001_1 = some (r1, r2, r3)) ∧ Aside0 (kq ≤ k) ∧ Aside0 (IsS85 w0 w' g x1000_1 x1001_1) ∧ Aside0 (KeepBut w w' g none) ∧ Aside0 (Below w0.heap.size w0 w'))
  case atStart => exact ⟨(s0_0), (wrap64 (s0_1 + 1)), H', ⟨Nat.le_refl _⟩, ⟨by repeat ((with_reducible first | exact HI0.out | apply IsS85.set_1))⟩, ⟨by repeat ((with_reducible first | exact HK.out | apply KeepBut.set_))⟩, ⟨by repeat ((with_reducible first | exact HB.out | refine below_set ?_ (IsS85.ge HI0.out)))⟩⟩
  case round =>
    clear H'
    clear hcz2_0
    clear hcz2_1
    clear hfz2_0
    clear hfz2_1
    obtain ⟨x1000_1, x1001_1, HA, HK1, HI0, HK, HB⟩ := hrel
    cases gk with
    | zero => exact absurd HA.out (by simp [spec_reader_quoted.l0])
    | succ k1 =>
      have H := HA.out
      clear HA
      simp only [spec_reader_quoted.l0] at H
      by_cases c3 : x1001_1 < (x1000_1.size : Int)
      · rw [if_pos c3] at H
        have c3b0 : decide (x1001_1 < (x1000_1.size : Int)) = true := decide_eq_true c3
        clear c3
        by_cases c4 : 0 ≤ x1001_1
        · rw [if_pos c4] at H
          have c4b0 : decide (0 ≤ x1001_1) = true := decide_eq_true c4
          clear c4
          by_cases c6 : (bt x1000_1 x1001_1) = 34
          · rw [if_pos c6] at H
            have c6b0 : ((bt x1000_1 x1001_1) == 34) = true := beq_iff_eq.mpr c6
            have c6b1 : ((bt x1000_1 x1001_1) != 34) = false := bne_eq_false_iff_eq.mpr c6
            clear c6
            simp only [Option.some.injEq, Prod.mk.injEq] at H
            obtain ⟨rfl, rfl, rfl⟩ := H
            obtain ⟨HGz7, hgz7⟩ := HI0.out
            have hcz7_0 := cellS85_0 HGz7
            have hcz7_1 := cellS85_1 HGz7
            have hfz7_0 := blk_frozen HGz7 0
            have hfz7_1 := blk_frozen HGz7 1
            clear HGz7 hgz7
            have p5 : 0 ≤ (x1001_1 : Int) := of_decide_eq_true (by (with_reducible assumption))
            have q5 : x1001_1 < (x1000_1.size : Int) := of_decide_eq_true (by (with_reducible assumption))
            have hx5 := bt_at x1000_1 x1001_1
            replace p5 := eq_true p5
            replace q5 := eq_true q5
            go_wp2
            repeat (go_quiet (fail); try go_wp2)
            go_ret
            exact ⟨by rfl, by repeat ((with_reducible first | exact HI0.out | apply IsS85.drewN | apply IsS85.set_1)), by repeat ((with_reducible first | exact HB.out | apply pw_below_drewN | refine below_set ?_ (IsS85.ge HI0.out))), by repeat ((with_reducible first | exact HK.out | apply KeepBut.set_ | apply keep_drewN))⟩
          · rw [if_neg c6] at H
            have c6b0 : ((bt x1000_1 x1001_1) == 34) = false := beq_eq_false_iff_ne.mpr c6
            have c6b1 : ((bt x1000_1 x1001_1) != 34) = true := bne_iff_ne.mpr c6
            by_cases c8 : (bt x1000_1 x1001_1) < 32
            · rw [if_pos c8] at H
              have c8b0 : decide ((bt x1000_1 x1001_1) < 32) = true := decide_eq_true c8
              clear c8
              simp only [Option.some.injEq, Prod.mk.injEq] at H
              obtain ⟨rfl, rfl, rfl⟩ := H
              obtain ⟨HGz9, hgz9⟩ := HI0.out
              have hcz9_0 := cellS85_0 HGz9
              have hcz9_1 := cellS85_1 HGz9
              have hfz9_0 := blk_frozen HGz9 0
              have hfz9_1 := blk_frozen HGz9 1
              clear HGz9 hgz9
              have p5 : 0 ≤ (x1001_1 : Int) := of_decide_eq_true (by (with_reducible assumption))
              have q5 : x1001_1 < (x1000_1.size : Int) := of_decide_eq_true (by (with_reducible assumption))
              have hx5 := bt_at x1000_1 x1001_1
              replace p5 := eq_true p5
              replace q5 := eq_true q5
              go_wp2
              repeat (go_quiet (fail); try go_wp2)
              go_ret
              exact ⟨by rfl, by repeat ((with_reducible first | exact HI0.out | apply IsS85.drewN | apply IsS85.set_1)), by repeat ((with_reducible first | exact HB.out | apply pw_below_drewN | refine below_set ?_ (IsS85.ge HI0.out))), by repeat ((with_reducible first | exact HK.out | apply KeepBut.set_ | apply keep_drewN))⟩
            · rw [if_neg c8] at H
              have c8b0 : decide ((bt x1000_1 x1001_1) < 32) = false := decide_eq_false c8
              clear c8
              by_cases c10 : (bt x1000_1 x1001_1) = 92
              · rw [if_pos c10] at H
                have c10b0 : ((bt x1000_1 x1001_1) == 92) = true := beq_iff_eq.mpr c10
                have c10b1 : ((bt x1000_1 x1001_1) != 92) = false := bne_eq_false_iff_eq.mpr c10
                clear c10
                replace H := Option.bind_eq_some_iff.mp H
                obtain ⟨⟨t110, t111, t112⟩, A110, H⟩ := H
                replace H : (if t110 = true then (spec_reader_quoted.l0 k1 t111 t112) else (some (false, t111, t112))) = some (r1, r2, r3) := H
                have A11 := Aside0.mk A110
                clear A110
                by_cases c12 : t110 = true
                · subst c12
                  have H1 : (spec_reader_quoted.l0 k1 t111 t112) = some (r1, r2, r3) := by rw [if_pos rfl] at H; exact H
                  clear H
                  have H := H1
                  clear H1
                  have H' := Aside0.mk H
                  clear H
                  obtain ⟨HGz13, hgz13⟩ := HI0.out
                  have hcz13_0 := cellS85_0 HGz13
                  have hcz13_1 := cellS85_1 HGz13
                  have hfz13_0 := blk_frozen HGz13 0
                  have hfz13_1 := blk_frozen HGz13 1
                  clear HGz13 hgz13
                  have p5 : 0 ≤ (x1001_1 : Int) := of_decide_eq_true (by (with_reducible assumption))
                  have q5 : x1001_1 < (x1000_1.size : Int) := of_decide_eq_true (by (with_reducible assumption))
                  have hx5 := bt_at x1000_1 x1001_1
                  replace p5 := eq_true p5
                  replace q5 := eq_true q5
                  go_wp2_with (fail)
                  repeat (go_quiet (fail); try go_wp2_with (((go_at_call 139; (with_reducible refine (spec_reader_escape.calls k1 g x1000_1 (wrap64 (x1001_1 + 1)) true t111 t112 w0 _ ?side1 ?side2 A11.out).mono ?_); (case side1 => repeat ((with_reducible first | exact HI0.out | apply IsS85.drewN | apply IsS85.set_1))); (case side2 => repeat ((with_reducible first | exact HB.out | apply pw_below_drewN | refine below_set ?_ (IsS85.ge HI0.out)))); rintro e w14 ⟨rfl, hi, hb, hk⟩; have n0_ := Aside0.mk (KeepBut.trans (by repeat ((with_reducible first | exact HK.out | apply KeepBut.set_ | apply keep_drewN))) hk (.inl rfl)); have n1_ := Aside0.mk (hb); have n2_ := Aside0.mk (hi); clear HK; clear HB; clear HI0; have HK := n0_; have HB := n1_; have HI0 := n2_; clear n0_ n1_ n2_; clear hb; clear hk; clear hi))))
                  go_roundg k1
                  case measure => have := HK1.out; omega
                  case rel => exact ⟨(t111), (t112), H', ⟨by have := HK1.out; omega⟩, ⟨by exact HI0.out⟩, ⟨by exact HK.out⟩, ⟨by exact HB.out⟩⟩
                · replace c12 := Bool.eq_false_iff.mpr c12
                  subst c12
                  have H1 : (some (false, t111, t112)) = some (r1, r2, r3) := by rw [if_neg (show ¬ (false = true) by decide)] at H; exact H
                  clear H
                  have H := H1
                  clear H1
                  simp only [Option.some.injEq, Prod.mk.injEq] at H
                  obtain ⟨rfl, rfl, rfl⟩ := H
                  obtain ⟨HGz15, hgz15⟩ := HI0.out
                  have hcz15_0 := cellS85_0 HGz15
                  have hcz15_1 := cellS85_1 HGz15
                  have hfz15_0 := blk_frozen HGz15 0
                  have hfz15_1 := blk_frozen HGz15 1
                  clear HGz15 hgz15
                  have p5 : 0 ≤ (x1001_1 : Int) := of_decide_eq_true (by (with_reducible assumption))
                  have q5 : x1001_1 < (x1000_1.size : Int) := of_decide_eq_true (by (with_reducible assumption))
                  have hx5 := bt_at x1000_1 x1001_1
                  replace p5 := eq_true p5
                  replace q5 := eq_true q5
                  go_wp2_with (fail)
                  repeat (go_quiet (fail); try go_wp2_with (((go_at_call 139; (with_reducible refine (spec_reader_escape.calls k1 g x1000_1 (wrap64 (x1001_1 + 1)) false t111 t112 w0 _ ?side1 ?side2 A11.out).mono ?_); (case side1 => repeat ((with_reducible first | exact HI0.out | apply IsS85.drewN | apply IsS85.set_1))); (case side2 => repeat ((with_reducible first | exact HB.out | apply pw_below_drewN | refine below_set ?_ (IsS85.ge HI0.out)))); rintro e w16 ⟨rfl, hi, hb, hk⟩; have n0_ := Aside0.mk (KeepBut.trans (by repeat ((with_reducible first | exact HK.out | apply KeepBut.set_ | apply keep_drewN))) hk (.inl rfl)); have n1_ := Aside0.mk (hb); have n2_ := Aside0.mk (hi); clear HK; clear HB; clear HI0; have HK := n0_; have HB := n1_; have HI0 := n2_; clear n0_ n1_ n2_; clear hb; clear hk; clear hi))))
                  go_ret
                  exact ⟨by rfl, by exact HI0.out, by exact HB.out, by exact HK.out⟩
              · rw [if_neg c10] at H
                have c10b0 : ((bt x1000_1 x1001_1) == 92) = false := beq_eq_false_iff_ne.mpr c10
                have c10b1 : ((bt x1000_1 x1001_1) != 92) = true := bne_iff_ne.mpr c10
                have H' := Aside0.mk H
                clear H
                obtain ⟨HGz17, hgz17⟩ := HI0.out
                have hcz17_0 := cellS85_0 HGz17
                have hcz17_1 := cellS85_1 HGz17
                have hfz17_0 := blk_frozen HGz17 0
                have hfz17_1 := blk_frozen HGz17 1
                clear HGz17 hgz17
                have p5 : 0 ≤ (x1001_1 : Int) := of_decide_eq_true (by (with_reducible assumption))
                have q5 : x1001_1 < (x1000_1.size : Int) := of_decide_eq_true (by (with_reducible assumption))
                have hx5 := bt_at x1000_1 x1001_1
                replace p5 := eq_true p5
                replace q5 := eq_true q5
                go_wp2
                repeat (go_quiet (fail); try go_wp2)
                go_roundg k1
                case measure => have := HK1.out; omega
                case rel => exact ⟨(x1000_1), (wrap64 (x1001_1 + 1)), H', ⟨by have := HK1.out; omega⟩, ⟨by repeat ((with_reducible first | exact HI0.out | apply IsS85.drewN | apply IsS85.set_1))⟩, ⟨by repeat ((with_reducible first | exact HK.out | apply KeepBut.set_ | apply keep_drewN))⟩, ⟨by repeat ((with_reducible first | exact HB.out | apply pw_below_drewN | refine below_set ?_ (IsS85.ge HI0.out)))⟩⟩
        · rw [if_neg c4] at H
          exact absurd H (by simp)
      · rw [if_neg c3] at H
        have c3b0 : decide (x1001_1 < (x1000_1.size : Int)) = false := decide_eq_false c3
        clear c3
        simp only [Option.some.injEq, Prod.mk.injEq] at H
        obtain ⟨rfl, rfl, rfl⟩ := H
        obtain ⟨HGz18, hgz18⟩ := HI0.out
        have hcz18_0 := cellS85_0 HGz18
        have hcz18_1 := cellS85_1 HGz18
        have hfz18_0 := blk_frozen HGz18 0
        have hfz18_1 := blk_frozen HGz18 1
        clear HGz18 hgz18
        go_wp2
        repeat (go_quiet (fail); try go_wp2)
        go_ret
        exact ⟨by rfl, by repeat ((with_reducible first | exact HI0.out | apply IsS85.drewN)), by repeat ((with_reducible first | exact HB.out | apply pw_below_drewN)), by repeat ((with_reducible first | exact HK.out | apply keep_drewN))⟩
/-! ### spec_reader_take: function 138 -/
def spec_reader_take.f (s0_0 : ByteArray) (s0_1 : Int) (a1 : Int) : Option (Bool × ByteArray × Int) := if s0_1 < (s0_0.size : Int) then (if 0 ≤ s0_1 then (if (bt s0_0 s0_1) = a1 then (some (true, s0_0, wrap64 (s0_1 + 1))) else (some (false, s0_0, s0_1))) else (none)) else (some (false, s0_0, s0_1))
set_option maxHeartbeats 8000000 in
set_option maxRecDepth 100000 in
theorem spec_reader_take.calls (g : Nat) (s0_0 : ByteArray) (s0_1 : Int) (a1 : Int) (r1 : Bool) (r2 : ByteArray) (r3 : Int) (w0 w : World) (hI : IsS85 w0 w g s0_0 s0_1) (hB : Below w0.heap.size w0 w) (h : spec_reader_take.f s0_0 s0_1 a1 = some (r1, r2, r3)) :
    Calls Tryz.prog 138 #[.pointer (some ⟨g, 0, none⟩), .int .u8 a1] w fun e w' => e = .returned (.bool r1) ∧ IsS85 w0 w' g r2 r3 ∧ Below w0.heap.size w0 w' ∧ KeepBut w w' g none := by
  have HI0 := Aside0.mk hI
  have HK := Aside0.mk (KeepBut.refl w g none)
  have HL := Aside0.mk hB.size
  clear hI
  have HW0 := Aside0.mk hB.size
  have HB := Aside0.mk hB
  clear hB
  have H : (if s0_1 < (s0_0.size : Int) then (if 0 ≤ s0_1 then (if (bt s0_0 s0_1) = a1 then (some (true, s0_0, wrap64 (s0_1 + 1))) else (some (false, s0_0, s0_1))) else (none)) else (some (false, s0_0, s0_1))) = some (r1, r2, r3) := h
  clear h
  by_cases c3 : s0_1 < (s0_0.size : Int)
  · rw [if_pos c3] at H
    have c3b0 : decide (s0_1 < (s0_0.size : Int)) = true := decide_eq_true c3
    clear c3
    by_cases c4 : 0 ≤ s0_1
    · rw [if_pos c4] at H
      have c4b0 : decide (0 ≤ s0_1) = true := decide_eq_true c4
      clear c4
      by_cases c6 : (bt s0_0 s0_1) = a1
      · rw [if_pos c6] at H
        have c6b0 : ((bt s0_0 s0_1) == a1) = true := beq_iff_eq.mpr c6
        have c6b1 : ((bt s0_0 s0_1) != a1) = false := bne_eq_false_iff_eq.mpr c6
        clear c6
        simp only [Option.some.injEq, Prod.mk.injEq] at H
        obtain ⟨rfl, rfl, rfl⟩ := H
        obtain ⟨HGz7, hgz7⟩ := HI0.out
        have hcz7_0 := cellS85_0 HGz7
        have hcz7_1 := cellS85_1 HGz7
        have hfz7_0 := blk_frozen HGz7 0
        have hfz7_1 := blk_frozen HGz7 1
        clear HGz7 hgz7
        have p5 : 0 ≤ (s0_1 : Int) := of_decide_eq_true (by (with_reducible assumption))
        have q5 : s0_1 < (s0_0.size : Int) := of_decide_eq_true (by (with_reducible assumption))
        have hx5 := bt_at s0_0 s0_1
        replace p5 := eq_true p5
        replace q5 := eq_true q5
        go_enter Tryz.func138, Tryz.ntmps138
        go_wp2
        repeat (go_quiet (fail); try go_wp2)
        go_ret
        exact ⟨by rfl, by repeat ((with_reducible first | exact HI0.out | apply IsS85.drewN | apply IsS85.set_1)), by repeat ((with_reducible first | exact HB.out | apply pw_below_drewN | refine below_set ?_ (IsS85.ge HI0.out))), by repeat ((with_reducible first | exact HK.out | apply KeepBut.set_ | apply keep_drewN))⟩
      · rw [if_neg c6] at H
        have c6b0 : ((bt s0_0 s0_1) == a1) = false := beq_eq_false_iff_ne.mpr c6
        have c6b1 : ((bt s0_0 s0_1) != a1) = true := bne_iff_ne.mpr c6
        simp only [Option.some.injEq, Prod.mk.injEq] at H
        obtain ⟨rfl, rfl, rfl⟩ := H
        obtain ⟨HGz8, hgz8⟩ := HI0.out
        have hcz8_0 := cellS85_0 HGz8
        have hcz8_1 := cellS85_1 HGz8
        have hfz8_0 := blk_frozen HGz8 0
        have hfz8_1 := blk_frozen HGz8 1
        clear HGz8 hgz8
        have p5 : 0 ≤ (s0_1 : Int) := of_decide_eq_true (by (with_reducible assumption))
        have q5 : s0_1 < (s0_0.size : Int) := of_decide_eq_true (by (with_reducible assumption))
        have hx5 := bt_at s0_0 s0_1
        replace p5 := eq_true p5
        replace q5 := eq_true q5
        go_enter Tryz.func138, Tryz.ntmps138
        go_wp2
        repeat (go_quiet (fail); try go_wp2)
        go_ret
        exact ⟨by rfl, by repeat ((with_reducible first | exact HI0.out | apply IsS85.drewN)), by repeat ((with_reducible first | exact HB.out | apply pw_below_drewN)), by repeat ((with_reducible first | exact HK.out | apply keep_drewN))⟩
    · rw [if_neg c4] at H
      exact absurd H (by simp)
  · rw [if_neg c3] at H
    have c3b0 : decide (s0_1 < (s0_0.size : Int)) = false := decide_eq_false c3
    clear c3
    simp only [Option.some.injEq, Prod.mk.injEq] at H
    obtain ⟨rfl, rfl, rfl⟩ := H
    obtain ⟨HGz9, hgz9⟩ := HI0.out
    have hcz9_0 := cellS85_0 HGz9
    have hcz9_1 := cellS85_1 HGz9
    have hfz9_0 := blk_frozen HGz9 0
    have hfz9_1 := blk_frozen HGz9 1
    clear HGz9 hgz9
    go_enter Tryz.func138, Tryz.ntmps138
    go_wp2
    repeat (go_quiet (fail); try go_wp2)
    go_ret
    exact ⟨by rfl, by repeat ((with_reducible first | exact HI0.out | apply IsS85.drewN)), by repeat ((with_reducible first | exact HB.out | apply pw_below_drewN)), by repeat ((with_reducible first | exact HK.out | apply keep_drewN))⟩
end Go.Proofs.YtlhaefblchpjhaaGreatDoor.XFnAlValid
end
section
-- Written by xprint.py of this session (a program that runs the kit's print and adds to it); Lean checks it.
namespace Go.Proofs.YtlhaefblchpjhaaGreatDoor.XFnAlValid
open Go.RowKit Go.Proofs.YtlhaefblchpjhaaGreatDoorW.PrintWords Go.Proofs.YtlhaefblchpjhaaGreatDoorW.PrintLast Go.Proofs.YtlhaefblchpjhaaGreatDoorW.PrintMore
attribute [local go_sem] max2_int min2_int max_two min_two max_three min_three max_four min_four   -- for this text's walks alone
set_option linter.unusedVariables false
set_option linter.unusedSimpArgs false
/-! ### spec_reader_digits: function 140 -/
def spec_reader_digits.l0 : Nat → Int → Int → ByteArray → Int → Option (Bool × ByteArray × Int)
  | 0, _, _, _, _ => none
  | k + 1, x3, x4, x1000, x1001 => if 48 ≤ x4 then (if x4 ≤ 57 then ((spec_reader_here.f x1000 (wrap64 (x1001 + 1))).bind fun bt116 => (spec_reader_digits.l0 k x3 bt116.1 bt116.2.1 bt116.2.2)) else (some (decide (x1001 > x3), x1000, x1001))) else (some (decide (x1001 > x3), x1000, x1001))
def spec_reader_digits.f (k : Nat) (s0_0 : ByteArray) (s0_1 : Int) : Option (Bool × ByteArray × Int) := (spec_reader_here.f s0_0 s0_1).bind fun bt113 => (spec_reader_digits.l0 k s0_1 bt113.1 bt113.2.1 bt113.2.2)
set_option maxHeartbeats 8000000 in
set_option maxRecDepth 100000 in
theorem spec_reader_digits.calls (k : Nat) (g : Nat) (s0_0 : ByteArray) (s0_1 : Int) (r1 : Bool) (r2 : ByteArray) (r3 : Int) (w0 w : World) (hI : IsS85 w0 w g s0_0 s0_1) (hB : Below w0.heap.size w0 w) (h : spec_reader_digits.f k s0_0 s0_1 = some (r1, r2, r3)) :
    Calls Tryz.prog 140 #[.pointer (some ⟨g, 0, none⟩)] w fun e w' => e = .returned (.bool r1) ∧ IsS85 w0 w' g r2 r3 ∧ Below w0.heap.size w0 w' ∧ KeepBut w w' g none := by
  have HI0 := Aside0.mk hI
  have HK := Aside0.mk (KeepBut.refl w g none)
  have HL := Aside0.mk hB.size
  clear hI
  have HW0 := Aside0.mk hB.size
  have HB := Aside0.mk hB
  clear hB
  have H : ((spec_reader_here.f s0_0 s0_1).bind fun bt113 => (spec_reader_digits.l0 k s0_1 bt113.1 bt113.2.1 bt113.2.2)) = some (r1, r2, r3) := h
  clear h
  replace H := Option.bind_eq_some_iff.mp H
  obtain ⟨⟨t113, t114, t115⟩, A20, H⟩ := H
  replace H : (spec_reader_digits.l0 k s0_1 t113 t114 t115) = some (r1, r2, r3) := H
  have A2 := Aside0.mk A20
  clear A20
  have H' := Aside0.mk H
  clear H
  obtain ⟨HGz3, hgz3⟩ := HI0.out
  have hcz3_0 := cellS85_0 HGz3
  have hcz3_1 := cellS85_1 HGz3
  have hfz3_0 := blk_frozen HGz3 0
  have hfz3_1 := blk_frozen HGz3 1
  clear HGz3 hgz3
  go_enter Tryz.func140, Tryz.ntmps140
  go_wp2_with ((((with_reducible refine gate_callee (f := 85) rfl ?_); refine goesL_ (some 10) rfl rfl Tryz.func85 (by kernel_rfl) rfl #[.pointer (some ⟨g, 0, none⟩)] rfl (by (try simp only [List.map_toArray, List.map_cons, List.map_nil]); rfl) ?_; (with_reducible refine (spec_reader_here.calls g s0_0 s0_1 t113 t114 t115 w0 _ ?side1 ?side2 A2.out).mono ?_); (case side1 => exact HI0.out); (case side2 => exact HB.out); rintro e w4 ⟨rfl, hi, hb, hk⟩; refine ⟨_, rfl, ?_⟩; have n0_ := Aside0.mk (KeepBut.trans (by exact HK.out) hk (.inl rfl)); have n1_ := Aside0.mk (hb); have n2_ := Aside0.mk (hi); clear HK; clear HB; clear HI0; have HK := n0_; have HB := n1_; have HI0 := n2_; clear n0_ n1_ n2_; clear hb; clear hk; clear hi)))
  try simp only [Act.put, List.setIfInBounds_toArray, List.set_cons_succ, List.set_cons_zero]
  go_loopg [4] k (fun kq v4 w' => ∃ (x4_1 : Int) (x1000_1 : ByteArray) (x1001_1 : Int), v4 = .int .u8 x4_1 ∧ Aside0 (spec_reader_digits.l0 kq s0_1 x4_1 x1000_1 x1001_1 = some (r1, r2, r3)) ∧ Aside0 (kq ≤ k) ∧ Aside0 (IsS85 w0 w' g x1000_1 x1001_1) ∧ Aside0 (KeepBut w w' g none) ∧ Aside0 (Below w0.heap.size w0 w'))
  case atStart => exact ⟨(t113), (t114), (t115), (by rfl), H', ⟨Nat.le_refl _⟩, ⟨by exact HI0.out⟩, ⟨by exact HK.out⟩, ⟨by exact HB.out⟩⟩
  case round =>
    clear H'
    clear hcz3_0
    clear hcz3_1
    clear hfz3_0
    clear hfz3_1
    obtain ⟨x4_1, x1000_1, x1001_1, rfl, HA, HK1, HI0, HK, HB⟩ := hrel
    cases gk with
    | zero => exact absurd HA.out (by simp [spec_reader_digits.l0])
    | succ k1 =>
      have H := HA.out
      clear HA
      simp only [spec_reader_digits.l0] at H
      by_cases c5 : 48 ≤ x4_1
      · rw [if_pos c5] at H
        have c5b0 : decide (48 ≤ x4_1) = true := decide_eq_true c5
        clear c5
        by_cases c6 : x4_1 ≤ 57
        · rw [if_pos c6] at H
          have c6b0 : decide (x4_1 ≤ 57) = true := decide_eq_true c6
          clear c6
          replace H := Option.bind_eq_some_iff.mp H
          obtain ⟨⟨t116, t117, t118⟩, A70, H⟩ := H
          replace H : (spec_reader_digits.l0 k1 s0_1 t116 t117 t118) = some (r1, r2, r3) := H
          have A7 := Aside0.mk A70
          clear A70
          have H' := Aside0.mk H
          clear H
          obtain ⟨HGz8, hgz8⟩ := HI0.out
          have hcz8_0 := cellS85_0 HGz8
          have hcz8_1 := cellS85_1 HGz8
          have hfz8_0 := blk_frozen HGz8 0
          have hfz8_1 := blk_frozen HGz8 1
          clear HGz8 hgz8
          go_wp2_with ((((with_reducible refine gate_callee (f := 85) rfl ?_); refine goesL_ (some 18) rfl rfl Tryz.func85 (by kernel_rfl) rfl #[.pointer (some ⟨g, 0, none⟩)] rfl (by (try simp only [List.map_toArray, List.map_cons, List.map_nil]); rfl) ?_; (with_reducible refine (spec_reader_here.calls g x1000_1 (wrap64 (x1001_1 + 1)) t116 t117 t118 w0 _ ?side1 ?side2 A7.out).mono ?_); (case side1 => repeat ((with_reducible first | exact HI0.out | apply IsS85.set_1))); (case side2 => repeat ((with_reducible first | exact HB.out | refine below_set ?_ (IsS85.ge HI0.out)))); rintro e w9 ⟨rfl, hi, hb, hk⟩; refine ⟨_, rfl, ?_⟩; have n0_ := Aside0.mk (KeepBut.trans (by repeat ((with_reducible first | exact HK.out | apply KeepBut.set_))) hk (.inl rfl)); have n1_ := Aside0.mk (hb); have n2_ := Aside0.mk (hi); clear HK; clear HB; clear HI0; have HK := n0_; have HB := n1_; have HI0 := n2_; clear n0_ n1_ n2_; clear hb; clear hk; clear hi)))
          go_roundg k1
          case measure => have := HK1.out; omega
          case rel => exact ⟨(t116), (t117), (t118), (by rfl), H', ⟨by have := HK1.out; omega⟩, ⟨by exact HI0.out⟩, ⟨by exact HK.out⟩, ⟨by exact HB.out⟩⟩
        · rw [if_neg c6] at H
          have c6b0 : decide (x4_1 ≤ 57) = false := decide_eq_false c6
          clear c6
          simp only [Option.some.injEq, Prod.mk.injEq] at H
          obtain ⟨rfl, rfl, rfl⟩ := H
          obtain ⟨HGz10, hgz10⟩ := HI0.out
          have hcz10_0 := cellS85_0 HGz10
          have hcz10_1 := cellS85_1 HGz10
          have hfz10_0 := blk_frozen HGz10 0
          have hfz10_1 := blk_frozen HGz10 1
          clear HGz10 hgz10
          go_wp2
          go_ret
          exact ⟨by rfl, by exact HI0.out, by exact HB.out, by exact HK.out⟩
      · rw [if_neg c5] at H
        have c5b0 : decide (48 ≤ x4_1) = false := decide_eq_false c5
        clear c5
        simp only [Option.some.injEq, Prod.mk.injEq] at H
        obtain ⟨rfl, rfl, rfl⟩ := H
        obtain ⟨HGz11, hgz11⟩ := HI0.out
        have hcz11_0 := cellS85_0 HGz11
        have hcz11_1 := cellS85_1 HGz11
        have hfz11_0 := blk_frozen HGz11 0
        have hfz11_1 := blk_frozen HGz11 1
        clear HGz11 hgz11
        go_wp2
        go_ret
        exact ⟨by rfl, by exact HI0.out, by exact HB.out, by exact HK.out⟩
/-! ### spec_reader_number: function 89 -/
mutual
def spec_reader_number.j0 : Nat → Bool → ByteArray → Int → Option (Bool × ByteArray × Int)
  | 0, _, _, _ => none
  | k + 1, x12, x1000, x1001 => if x12 = true then (some (false, x1000, x1001)) else ((spec_reader_take.f x1000 x1001 46).bind fun bt128 => (if bt128.1 = true then ((spec_reader_digits.f k bt128.2.1 bt128.2.2).bind fun bt131 => (spec_reader_number.j1 k (!bt131.1) bt131.2.1 bt131.2.2)) else (spec_reader_number.j1 k false bt128.2.1 bt128.2.2)))
def spec_reader_number.j1 : Nat → Bool → ByteArray → Int → Option (Bool × ByteArray × Int)
  | 0, _, _, _ => none
  | k + 1, x19, x1000, x1001 => if x19 = true then (some (false, x1000, x1001)) else ((spec_reader_take.f x1000 x1001 101).bind fun bt134 => (if bt134.1 = true then (spec_reader_number.j2 k true bt134.2.1 bt134.2.2) else ((spec_reader_take.f bt134.2.1 bt134.2.2 69).bind fun bt137 => (spec_reader_number.j2 k bt137.1 bt137.2.1 bt137.2.2))))
def spec_reader_number.j2 : Nat → Bool → ByteArray → Int → Option (Bool × ByteArray × Int)
  | 0, _, _, _ => none
  | k + 1, x25, x1000, x1001 => if x25 = true then ((spec_reader_take.f x1000 x1001 43).bind fun bt140 => (if bt140.1 = true then ((spec_reader_digits.f k bt140.2.1 bt140.2.2).bind fun bt143 => (some (bt143.1, bt143.2.1, bt143.2.2))) else ((spec_reader_take.f bt140.2.1 bt140.2.2 45).bind fun bt146 => ((spec_reader_digits.f k bt146.2.1 bt146.2.2).bind fun bt149 => (some (bt149.1, bt149.2.1, bt149.2.2)))))) else (some (true, x1000, x1001))
end
def spec_reader_number.f (k : Nat) (s0_0 : ByteArray) (s0_1 : Int) : Option (Bool × ByteArray × Int) := (spec_reader_take.f s0_0 s0_1 45).bind fun bt119 => ((spec_reader_take.f bt119.2.1 bt119.2.2 48).bind fun bt122 => (if bt122.1 = true then (spec_reader_number.j0 k false bt122.2.1 bt122.2.2) else ((spec_reader_digits.f k bt122.2.1 bt122.2.2).bind fun bt125 => (spec_reader_number.j0 k (!bt125.1) bt125.2.1 bt125.2.2))))
set_option maxHeartbeats 8000000 in
set_option maxRecDepth 100000 in
theorem spec_reader_number.calls (k : Nat) (g : Nat) (s0_0 : ByteArray) (s0_1 : Int) (r1 : Bool) (r2 : ByteArray) (r3 : Int) (w0 w : World) (hI : IsS85 w0 w g s0_0 s0_1) (hB : Below w0.heap.size w0 w) (h : spec_reader_number.f k s0_0 s0_1 = some (r1, r2, r3)) :
    Calls Tryz.prog 89 #[.pointer (some ⟨g, 0, none⟩)] w fun e w' => e = .returned (.bool r1) ∧ IsS85 w0 w' g r2 r3 ∧ Below w0.heap.size w0 w' ∧ KeepBut w w' g none := by
  have HI0 := Aside0.mk hI
  have HK := Aside0.mk (KeepBut.refl w g none)
  have HL := Aside0.mk hB.size
  clear hI
  have HW0 := Aside0.mk hB.size
  have HB := Aside0.mk hB
  clear hB
  have H : ((spec_reader_take.f s0_0 s0_1 45).bind fun bt119 => ((spec_reader_take.f bt119.2.1 bt119.2.2 48).bind fun bt122 => (if bt122.1 = true then (spec_reader_number.j0 k false bt122.2.1 bt122.2.2) else ((spec_reader_digits.f k bt122.2.1 bt122.2.2).bind fun bt125 => (spec_reader_number.j0 k (!bt125.1) bt125.2.1 bt125.2.2))))) = some (r1, r2, r3) := h
  clear h
  replace H := Option.bind_eq_some_iff.mp H
  obtain ⟨⟨t119, t120, t121⟩, A20, H⟩ := H
  replace H : ((spec_reader_take.f t120 t121 48).bind fun bt122 => (if bt122.1 = true then (spec_reader_number.j0 k false bt122.2.1 bt122.2.2) else ((spec_reader_digits.f k bt122.2.1 bt122.2.2).bind fun bt125 => (spec_reader_number.j0 k (!bt125.1) bt125.2.1 bt125.2.2)))) = some (r1, r2, r3) := H
  have A2 := Aside0.mk A20
  clear A20
  have HC3 := Aside0.mk H
  clear H
  go_enter Tryz.func89, Tryz.ntmps89
  go_upto_region 2 with ((((with_reducible refine gate_callee (f := 138) rfl ?_); refine goesL_ (some 4) rfl rfl Tryz.func138 (by kernel_rfl) rfl #[.pointer (some ⟨g, 0, none⟩), .int .u8 45] rfl (by (try simp only [List.map_toArray, List.map_cons, List.map_nil]); rfl) ?_; (with_reducible refine (spec_reader_take.calls g s0_0 s0_1 45 t119 t120 t121 w0 _ ?side1 ?side2 A2.out).mono ?_); (case side1 => exact HI0.out); (case side2 => exact HB.out); rintro e w4 ⟨rfl, hi, hb, hk⟩; refine ⟨_, rfl, ?_⟩; have n0_ := Aside0.mk (KeepBut.trans (by exact HK.out) hk (.inl rfl)); have n1_ := Aside0.mk (hb); have n2_ := Aside0.mk (hi); clear HK; clear HB; clear HI0; have HK := n0_; have HB := n1_; have HI0 := n2_; clear n0_ n1_ n2_; clear hb; clear hk; clear hi)))
  (try simp only [Act.put, List.setIfInBounds_toArray, List.set_cons_zero, List.set_cons_succ])
  go_cut [12] (fun v12 wc => ∃ (kq : Nat) (x12_2 : Bool) (x1000_2 : ByteArray) (x1001_2 : Int), v12 = .bool x12_2 ∧ Aside0 (spec_reader_number.j0 kq x12_2 x1000_2 x1001_2 = some (r1, r2, r3)) ∧ Aside0 (kq ≤ k) ∧ Aside0 (IsS85 w0 wc g x1000_2 x1001_2) ∧ Aside0 (KeepBut w wc g none) ∧ Aside0 (Below w0.heap.size w0 wc))
  case first =>
    have H := HC3.out
    clear HC3
    replace H := Option.bind_eq_some_iff.mp H
    obtain ⟨⟨t122, t123, t124⟩, A50, H⟩ := H
    replace H : (if t122 = true then (spec_reader_number.j0 k false t123 t124) else ((spec_reader_digits.f k t123 t124).bind fun bt125 => (spec_reader_number.j0 k (!bt125.1) bt125.2.1 bt125.2.2))) = some (r1, r2, r3) := H
    have A5 := Aside0.mk A50
    clear A50
    by_cases c6 : t122 = true
    · subst c6
      have H1 : (spec_reader_number.j0 k false t123 t124) = some (r1, r2, r3) := by rw [if_pos rfl] at H; exact H
      clear H
      have H := H1
      clear H1
      have H' := Aside0.mk H
      clear H
      go_wp2_with ((((with_reducible refine gate_callee (f := 138) rfl ?_); refine goesL_ (some 6) rfl rfl Tryz.func138 (by kernel_rfl) rfl #[.pointer (some ⟨g, 0, none⟩), .int .u8 48] rfl (by (try simp only [List.map_toArray, List.map_cons, List.map_nil]); rfl) ?_; (with_reducible refine (spec_reader_take.calls g t120 t121 48 true t123 t124 w0 _ ?side1 ?side2 A5.out).mono ?_); (case side1 => exact HI0.out); (case side2 => exact HB.out); rintro e w7 ⟨rfl, hi, hb, hk⟩; refine ⟨_, rfl, ?_⟩; have n0_ := Aside0.mk (KeepBut.trans (by exact HK.out) hk (.inl rfl)); have n1_ := Aside0.mk (hb); have n2_ := Aside0.mk (hi); clear HK; clear HB; clear HI0; have HK := n0_; have HB := n1_; have HI0 := n2_; clear n0_ n1_ n2_; clear hb; clear hk; clear hi)))
      go_meet
      case rel => exact ⟨_, (false), (t123), (t124), (by rfl), H', ⟨by omega⟩, ⟨by exact HI0.out⟩, ⟨by exact HK.out⟩, ⟨by exact HB.out⟩⟩
    · replace c6 := Bool.eq_false_iff.mpr c6
      subst c6
      have H1 : ((spec_reader_digits.f k t123 t124).bind fun bt125 => (spec_reader_number.j0 k (!bt125.1) bt125.2.1 bt125.2.2)) = some (r1, r2, r3) := by rw [if_neg (show ¬ (false = true) by decide)] at H; exact H
      clear H
      have H := H1
      clear H1
      replace H := Option.bind_eq_some_iff.mp H
      obtain ⟨⟨t125, t126, t127⟩, A80, H⟩ := H
      replace H : (spec_reader_number.j0 k (!t125) t126 t127) = some (r1, r2, r3) := H
      have A8 := Aside0.mk A80
      clear A80
      have H' := Aside0.mk H
      clear H
      go_wp2_with (first | ((with_reducible refine gate_callee (f := 138) rfl ?_); refine goesL_ (some 6) rfl rfl Tryz.func138 (by kernel_rfl) rfl #[.pointer (some ⟨g, 0, none⟩), .int .u8 48] rfl (by (try simp only [List.map_toArray, List.map_cons, List.map_nil]); rfl) ?_; (with_reducible refine (spec_reader_take.calls g t120 t121 48 false t123 t124 w0 _ ?side1 ?side2 A5.out).mono ?_); (case side1 => exact HI0.out); (case side2 => exact HB.out); rintro e w9 ⟨rfl, hi, hb, hk⟩; refine ⟨_, rfl, ?_⟩; have n0_ := Aside0.mk (KeepBut.trans (by exact HK.out) hk (.inl rfl)); have n1_ := Aside0.mk (hb); have n2_ := Aside0.mk (hi); clear HK; clear HB; clear HI0; have HK := n0_; have HB := n1_; have HI0 := n2_; clear n0_ n1_ n2_; clear hb; clear hk; clear hi) | (go_at_call 140; (with_reducible refine (spec_reader_digits.calls k g t123 t124 t125 t126 t127 w0 _ ?side1 ?side2 A8.out).mono ?_); (case side1 => exact HI0.out); (case side2 => exact HB.out); rintro e w10 ⟨rfl, hi, hb, hk⟩; have n0_ := Aside0.mk (KeepBut.trans (by exact HK.out) hk (.inl rfl)); have n1_ := Aside0.mk (hb); have n2_ := Aside0.mk (hi); clear HK; clear HB; clear HI0; have HK := n0_; have HB := n1_; have HI0 := n2_; clear n0_ n1_ n2_; clear hb; clear hk; clear hi))
      go_meet
      case rel => exact ⟨_, (!t125), (t126), (t127), (by rfl), H', ⟨by omega⟩, ⟨by exact HI0.out⟩, ⟨by exact HK.out⟩, ⟨by exact HB.out⟩⟩
  case rest =>
    clear HC3
    obtain ⟨kq, x12_2, x1000_2, x1001_2, rfl, HA, HJ2, HI0, HK, HB⟩ := hcut
    cases kq with
    | zero => exact absurd HA.out (by simp [spec_reader_number.j0])
    | succ kj2 =>
      have H := HA.out
      clear HA
      simp only [spec_reader_number.j0] at H
      by_cases c11 : x12_2 = true
      · subst c11
        have H1 : (some (false, x1000_2, x1001_2)) = some (r1, r2, r3) := by rw [if_pos rfl] at H; exact H
        clear H
        have H := H1
        clear H1
        simp only [Option.some.injEq, Prod.mk.injEq] at H
        obtain ⟨rfl, rfl, rfl⟩ := H
        go_wp2
        go_ret
        exact ⟨by rfl, by exact HI0.out, by exact HB.out, by exact HK.out⟩
      · replace c11 := Bool.eq_false_iff.mpr c11
        subst c11
        have H1 : ((spec_reader_take.f x1000_2 x1001_2 46).bind fun bt128 => (if bt128.1 = true then ((spec_reader_digits.f kj2 bt128.2.1 bt128.2.2).bind fun bt131 => (spec_reader_number.j1 kj2 (!bt131.1) bt131.2.1 bt131.2.2)) else (spec_reader_number.j1 kj2 false bt128.2.1 bt128.2.2))) = some (r1, r2, r3) := by rw [if_neg (show ¬ (false = true) by decide)] at H; exact H
        clear H
        have H := H1
        clear H1
        have HC12 := Aside0.mk H
        clear H
        go_upto_region 4 with (fail)
        go_cut [19] (fun v19 wc => ∃ (kq : Nat) (x19_11 : Bool) (x1000_11 : ByteArray) (x1001_11 : Int), v19 = .bool x19_11 ∧ Aside0 (spec_reader_number.j1 kq x19_11 x1000_11 x1001_11 = some (r1, r2, r3)) ∧ Aside0 (kq ≤ kj2) ∧ Aside0 (IsS85 w0 wc g x1000_11 x1001_11) ∧ Aside0 (KeepBut w wc g none) ∧ Aside0 (Below w0.heap.size w0 wc))
        case first =>
          have H := HC12.out
          clear HC12
          replace H := Option.bind_eq_some_iff.mp H
          obtain ⟨⟨t128, t129, t130⟩, A130, H⟩ := H
          replace H : (if t128 = true then ((spec_reader_digits.f kj2 t129 t130).bind fun bt131 => (spec_reader_number.j1 kj2 (!bt131.1) bt131.2.1 bt131.2.2)) else (spec_reader_number.j1 kj2 false t129 t130)) = some (r1, r2, r3) := H
          have A13 := Aside0.mk A130
          clear A130
          by_cases c14 : t128 = true
          · subst c14
            have H1 : ((spec_reader_digits.f kj2 t129 t130).bind fun bt131 => (spec_reader_number.j1 kj2 (!bt131.1) bt131.2.1 bt131.2.2)) = some (r1, r2, r3) := by rw [if_pos rfl] at H; exact H
            clear H
            have H := H1
            clear H1
            replace H := Option.bind_eq_some_iff.mp H
            obtain ⟨⟨t131, t132, t133⟩, A150, H⟩ := H
            replace H : (spec_reader_number.j1 kj2 (!t131) t132 t133) = some (r1, r2, r3) := H
            have A15 := Aside0.mk A150
            clear A150
            have H' := Aside0.mk H
            clear H
            go_wp2_with (first | ((with_reducible refine gate_callee (f := 138) rfl ?_); refine goesL_ (some 14) rfl rfl Tryz.func138 (by kernel_rfl) rfl #[.pointer (some ⟨g, 0, none⟩), .int .u8 46] rfl (by (try simp only [List.map_toArray, List.map_cons, List.map_nil]); rfl) ?_; (with_reducible refine (spec_reader_take.calls g x1000_2 x1001_2 46 true t129 t130 w0 _ ?side1 ?side2 A13.out).mono ?_); (case side1 => exact HI0.out); (case side2 => exact HB.out); rintro e w16 ⟨rfl, hi, hb, hk⟩; refine ⟨_, rfl, ?_⟩; have n0_ := Aside0.mk (KeepBut.trans (by exact HK.out) hk (.inl rfl)); have n1_ := Aside0.mk (hb); have n2_ := Aside0.mk (hi); clear HK; clear HB; clear HI0; have HK := n0_; have HB := n1_; have HI0 := n2_; clear n0_ n1_ n2_; clear hb; clear hk; clear hi) | (go_at_call 140; (with_reducible refine (spec_reader_digits.calls kj2 g t129 t130 t131 t132 t133 w0 _ ?side1 ?side2 A15.out).mono ?_); (case side1 => exact HI0.out); (case side2 => exact HB.out); rintro e w17 ⟨rfl, hi, hb, hk⟩; have n0_ := Aside0.mk (KeepBut.trans (by exact HK.out) hk (.inl rfl)); have n1_ := Aside0.mk (hb); have n2_ := Aside0.mk (hi); clear HK; clear HB; clear HI0; have HK := n0_; have HB := n1_; have HI0 := n2_; clear n0_ n1_ n2_; clear hb; clear hk; clear hi))
            go_meet
            case rel => exact ⟨_, (!t131), (t132), (t133), (by rfl), H', ⟨by have := HJ2.out; omega⟩, ⟨by exact HI0.out⟩, ⟨by exact HK.out⟩, ⟨by exact HB.out⟩⟩
          · replace c14 := Bool.eq_false_iff.mpr c14
            subst c14
            have H1 : (spec_reader_number.j1 kj2 false t129 t130) = some (r1, r2, r3) := by rw [if_neg (show ¬ (false = true) by decide)] at H; exact H
            clear H
            have H := H1
            clear H1
            have H' := Aside0.mk H
            clear H
            go_wp2_with ((((with_reducible refine gate_callee (f := 138) rfl ?_); refine goesL_ (some 14) rfl rfl Tryz.func138 (by kernel_rfl) rfl #[.pointer (some ⟨g, 0, none⟩), .int .u8 46] rfl (by (try simp only [List.map_toArray, List.map_cons, List.map_nil]); rfl) ?_; (with_reducible refine (spec_reader_take.calls g x1000_2 x1001_2 46 false t129 t130 w0 _ ?side1 ?side2 A13.out).mono ?_); (case side1 => exact HI0.out); (case side2 => exact HB.out); rintro e w18 ⟨rfl, hi, hb, hk⟩; refine ⟨_, rfl, ?_⟩; have n0_ := Aside0.mk (KeepBut.trans (by exact HK.out) hk (.inl rfl)); have n1_ := Aside0.mk (hb); have n2_ := Aside0.mk (hi); clear HK; clear HB; clear HI0; have HK := n0_; have HB := n1_; have HI0 := n2_; clear n0_ n1_ n2_; clear hb; clear hk; clear hi)))
            go_meet
            case rel => exact ⟨_, (false), (t129), (t130), (by rfl), H', ⟨by have := HJ2.out; omega⟩, ⟨by exact HI0.out⟩, ⟨by exact HK.out⟩, ⟨by exact HB.out⟩⟩
        case rest =>
          clear HC12
          obtain ⟨kq, x19_11, x1000_11, x1001_11, rfl, HA, HJ11, HI0, HK, HB⟩ := hcut
          cases kq with
          | zero => exact absurd HA.out (by simp [spec_reader_number.j1])
          | succ kj11 =>
            have H := HA.out
            clear HA
            simp only [spec_reader_number.j1] at H
            by_cases c19 : x19_11 = true
            · subst c19
              have H1 : (some (false, x1000_11, x1001_11)) = some (r1, r2, r3) := by rw [if_pos rfl] at H; exact H
              clear H
              have H := H1
              clear H1
              simp only [Option.some.injEq, Prod.mk.injEq] at H
              obtain ⟨rfl, rfl, rfl⟩ := H
              go_wp2
              go_ret
              exact ⟨by rfl, by exact HI0.out, by exact HB.out, by exact HK.out⟩
            · replace c19 := Bool.eq_false_iff.mpr c19
              subst c19
              have H1 : ((spec_reader_take.f x1000_11 x1001_11 101).bind fun bt134 => (if bt134.1 = true then (spec_reader_number.j2 kj11 true bt134.2.1 bt134.2.2) else ((spec_reader_take.f bt134.2.1 bt134.2.2 69).bind fun bt137 => (spec_reader_number.j2 kj11 bt137.1 bt137.2.1 bt137.2.2)))) = some (r1, r2, r3) := by rw [if_neg (show ¬ (false = true) by decide)] at H; exact H
              clear H
              have H := H1
              clear H1
              have HC20 := Aside0.mk H
              clear H
              go_upto_region 6 with (fail)
              go_cut [25] (fun v25 wc => ∃ (kq : Nat) (x25_19 : Bool) (x1000_19 : ByteArray) (x1001_19 : Int), v25 = .bool x25_19 ∧ Aside0 (spec_reader_number.j2 kq x25_19 x1000_19 x1001_19 = some (r1, r2, r3)) ∧ Aside0 (kq ≤ kj11) ∧ Aside0 (IsS85 w0 wc g x1000_19 x1001_19) ∧ Aside0 (KeepBut w wc g none) ∧ Aside0 (Below w0.heap.size w0 wc))
              case first =>
                have H := HC20.out
                clear HC20
                replace H := Option.bind_eq_some_iff.mp H
                obtain ⟨⟨t134, t135, t136⟩, A210, H⟩ := H
                replace H : (if t134 = true then (spec_reader_number.j2 kj11 true t135 t136) else ((spec_reader_take.f t135 t136 69).bind fun bt137 => (spec_reader_number.j2 kj11 bt137.1 bt137.2.1 bt137.2.2))) = some (r1, r2, r3) := H
                have A21 := Aside0.mk A210
                clear A210
                by_cases c22 : t134 = true
                · subst c22
                  have H1 : (spec_reader_number.j2 kj11 true t135 t136) = some (r1, r2, r3) := by rw [if_pos rfl] at H; exact H
                  clear H
                  have H := H1
                  clear H1
                  have H' := Aside0.mk H
                  clear H
                  go_wp2_with ((((with_reducible refine gate_callee (f := 138) rfl ?_); refine goesL_ (some 21) rfl rfl Tryz.func138 (by kernel_rfl) rfl #[.pointer (some ⟨g, 0, none⟩), .int .u8 101] rfl (by (try simp only [List.map_toArray, List.map_cons, List.map_nil]); rfl) ?_; (with_reducible refine (spec_reader_take.calls g x1000_11 x1001_11 101 true t135 t136 w0 _ ?side1 ?side2 A21.out).mono ?_); (case side1 => exact HI0.out); (case side2 => exact HB.out); rintro e w23 ⟨rfl, hi, hb, hk⟩; refine ⟨_, rfl, ?_⟩; have n0_ := Aside0.mk (KeepBut.trans (by exact HK.out) hk (.inl rfl)); have n1_ := Aside0.mk (hb); have n2_ := Aside0.mk (hi); clear HK; clear HB; clear HI0; have HK := n0_; have HB := n1_; have HI0 := n2_; clear n0_ n1_ n2_; clear hb; clear hk; clear hi)))
                  go_meet
                  case rel => exact ⟨_, (true), (t135), (t136), (by rfl), H', ⟨by have := HJ2.out; have := HJ11.out; omega⟩, ⟨by exact HI0.out⟩, ⟨by exact HK.out⟩, ⟨by exact HB.out⟩⟩
                · replace c22 := Bool.eq_false_iff.mpr c22
                  subst c22
                  have H1 : ((spec_reader_take.f t135 t136 69).bind fun bt137 => (spec_reader_number.j2 kj11 bt137.1 bt137.2.1 bt137.2.2)) = some (r1, r2, r3) := by rw [if_neg (show ¬ (false = true) by decide)] at H; exact H
                  clear H
                  have H := H1
                  clear H1
                  replace H := Option.bind_eq_some_iff.mp H
                  obtain ⟨⟨t137, t138, t139⟩, A240, H⟩ := H
                  replace H : (spec_reader_number.j2 kj11 t137 t138 t139) = some (r1, r2, r3) := H
                  have A24 := Aside0.mk A240
                  clear A240
                  have H' := Aside0.mk H
                  clear H
                  go_wp2_with (first | ((with_reducible refine gate_callee (f := 138) rfl ?_); refine goesL_ (some 21) rfl rfl Tryz.func138 (by kernel_rfl) rfl #[.pointer (some ⟨g, 0, none⟩), .int .u8 101] rfl (by (try simp only [List.map_toArray, List.map_cons, List.map_nil]); rfl) ?_; (with_reducible refine (spec_reader_take.calls g x1000_11 x1001_11 101 false t135 t136 w0 _ ?side1 ?side2 A21.out).mono ?_); (case side1 => exact HI0.out); (case side2 => exact HB.out); rintro e w25 ⟨rfl, hi, hb, hk⟩; refine ⟨_, rfl, ?_⟩; have n0_ := Aside0.mk (KeepBut.trans (by exact HK.out) hk (.inl rfl)); have n1_ := Aside0.mk (hb); have n2_ := Aside0.mk (hi); clear HK; clear HB; clear HI0; have HK := n0_; have HB := n1_; have HI0 := n2_; clear n0_ n1_ n2_; clear hb; clear hk; clear hi) | (go_at_call 138; (with_reducible refine (spec_reader_take.calls g t135 t136 69 t137 t138 t139 w0 _ ?side1 ?side2 A24.out).mono ?_); (case side1 => exact HI0.out); (case side2 => exact HB.out); rintro e w26 ⟨rfl, hi, hb, hk⟩; have n0_ := Aside0.mk (KeepBut.trans (by exact HK.out) hk (.inl rfl)); have n1_ := Aside0.mk (hb); have n2_ := Aside0.mk (hi); clear HK; clear HB; clear HI0; have HK := n0_; have HB := n1_; have HI0 := n2_; clear n0_ n1_ n2_; clear hb; clear hk; clear hi))
                  go_meet
                  case rel => exact ⟨_, (t137), (t138), (t139), (by rfl), H', ⟨by have := HJ2.out; have := HJ11.out; omega⟩, ⟨by exact HI0.out⟩, ⟨by exact HK.out⟩, ⟨by exact HB.out⟩⟩
              case rest =>
                clear HC20
                obtain ⟨kq, x25_19, x1000_19, x1001_19, rfl, HA, HJ19, HI0, HK, HB⟩ := hcut
                cases kq with
                | zero => exact absurd HA.out (by simp [spec_reader_number.j2])
                | succ kj19 =>
                  have H := HA.out
                  clear HA
                  simp only [spec_reader_number.j2] at H
                  by_cases c27 : x25_19 = true
                  · subst c27
                    have H1 : ((spec_reader_take.f x1000_19 x1001_19 43).bind fun bt140 => (if bt140.1 = true then ((spec_reader_digits.f kj19 bt140.2.1 bt140.2.2).bind fun bt143 => (some (bt143.1, bt143.2.1, bt143.2.2))) else ((spec_reader_take.f bt140.2.1 bt140.2.2 45).bind fun bt146 => ((spec_reader_digits.f kj19 bt146.2.1 bt146.2.2).bind fun bt149 => (some (bt149.1, bt149.2.1, bt149.2.2)))))) = some (r1, r2, r3) := by rw [if_pos rfl] at H; exact H
                    clear H
                    have H := H1
                    clear H1
                    replace H := Option.bind_eq_some_iff.mp H
                    obtain ⟨⟨t140, t141, t142⟩, A280, H⟩ := H
                    replace H : (if t140 = true then ((spec_reader_digits.f kj19 t141 t142).bind fun bt143 => (some (bt143.1, bt143.2.1, bt143.2.2))) else ((spec_reader_take.f t141 t142 45).bind fun bt146 => ((spec_reader_digits.f kj19 bt146.2.1 bt146.2.2).bind fun bt149 => (some (bt149.1, bt149.2.1, bt149.2.2))))) = some (r1, r2, r3) := H
                    have A28 := Aside0.mk A280
                    clear A280
                    by_cases c29 : t140 = true
                    · subst c29
                      have H1 : ((spec_reader_digits.f kj19 t141 t142).bind fun bt143 => (some (bt143.1, bt143.2.1, bt143.2.2))) = some (r1, r2, r3) := by rw [if_pos rfl] at H; exact H
                      clear H
                      have H := H1
                      clear H1
                      replace H := Option.bind_eq_some_iff.mp H
                      obtain ⟨⟨t143, t144, t145⟩, A300, H⟩ := H
                      replace H : (some (t143, t144, t145)) = some (r1, r2, r3) := H
                      have A30 := Aside0.mk A300
                      clear A300
                      simp only [Option.some.injEq, Prod.mk.injEq] at H
                      obtain ⟨rfl, rfl, rfl⟩ := H
                      go_wp2_with (first | ((with_reducible refine gate_callee (f := 138) rfl ?_); refine goesL_ (some 27) rfl rfl Tryz.func138 (by kernel_rfl) rfl #[.pointer (some ⟨g, 0, none⟩), .int .u8 43] rfl (by (try simp only [List.map_toArray, List.map_cons, List.map_nil]); rfl) ?_; (with_reducible refine (spec_reader_take.calls g x1000_19 x1001_19 43 true t141 t142 w0 _ ?side1 ?side2 A28.out).mono ?_); (case side1 => exact HI0.out); (case side2 => exact HB.out); rintro e w31 ⟨rfl, hi, hb, hk⟩; refine ⟨_, rfl, ?_⟩; have n0_ := Aside0.mk (KeepBut.trans (by exact HK.out) hk (.inl rfl)); have n1_ := Aside0.mk (hb); have n2_ := Aside0.mk (hi); clear HK; clear HB; clear HI0; have HK := n0_; have HB := n1_; have HI0 := n2_; clear n0_ n1_ n2_; clear hb; clear hk; clear hi) | ((with_reducible refine gate_callee (f := 140) rfl ?_); refine goesL_ (some 32) rfl rfl Tryz.func140 (by kernel_rfl) rfl #[.pointer (some ⟨g, 0, none⟩)] rfl (by (try simp only [List.map_toArray, List.map_cons, List.map_nil]); rfl) ?_; (with_reducible refine (spec_reader_digits.calls kj19 g t141 t142 t143 t144 t145 w0 _ ?side1 ?side2 A30.out).mono ?_); (case side1 => exact HI0.out); (case side2 => exact HB.out); rintro e w32 ⟨rfl, hi, hb, hk⟩; refine ⟨_, rfl, ?_⟩; have n0_ := Aside0.mk (KeepBut.trans (by exact HK.out) hk (.inl rfl)); have n1_ := Aside0.mk (hb); have n2_ := Aside0.mk (hi); clear HK; clear HB; clear HI0; have HK := n0_; have HB := n1_; have HI0 := n2_; clear n0_ n1_ n2_; clear hb; clear hk; clear hi))
                      go_ret
                      exact ⟨by rfl, by exact HI0.out, by exact HB.out, by exact HK.out⟩
                    · replace c29 := Bool.eq_false_iff.mpr c29
                      subst c29
                      have H1 : ((spec_reader_take.f t141 t142 45).bind fun bt146 => ((spec_reader_digits.f kj19 bt146.2.1 bt146.2.2).bind fun bt149 => (some (bt149.1, bt149.2.1, bt149.2.2)))) = some (r1, r2, r3) := by rw [if_neg (show ¬ (false = true) by decide)] at H; exact H
                      clear H
                      have H := H1
                      clear H1
                      replace H := Option.bind_eq_some_iff.mp H
                      obtain ⟨⟨t146, t147, t148⟩, A330, H⟩ := H
                      replace H : ((spec_reader_digits.f kj19 t147 t148).bind fun bt149 => (some (bt149.1, bt149.2.1, bt149.2.2))) = some (r1, r2, r3) := H
                      have A33 := Aside0.mk A330
                      clear A330
                      replace H := Option.bind_eq_some_iff.mp H
                      obtain ⟨⟨t149, t150, t151⟩, A340, H⟩ := H
                      replace H : (some (t149, t150, t151)) = some (r1, r2, r3) := H
                      have A34 := Aside0.mk A340
                      clear A340
                      simp only [Option.some.injEq, Prod.mk.injEq] at H
                      obtain ⟨rfl, rfl, rfl⟩ := H
                      go_wp2_with (first | ((with_reducible refine gate_callee (f := 138) rfl ?_); refine goesL_ (some 27) rfl rfl Tryz.func138 (by kernel_rfl) rfl #[.pointer (some ⟨g, 0, none⟩), .int .u8 43] rfl (by (try simp only [List.map_toArray, List.map_cons, List.map_nil]); rfl) ?_; (with_reducible refine (spec_reader_take.calls g x1000_19 x1001_19 43 false t141 t142 w0 _ ?side1 ?side2 A28.out).mono ?_); (case side1 => exact HI0.out); (case side2 => exact HB.out); rintro e w35 ⟨rfl, hi, hb, hk⟩; refine ⟨_, rfl, ?_⟩; have n0_ := Aside0.mk (KeepBut.trans (by exact HK.out) hk (.inl rfl)); have n1_ := Aside0.mk (hb); have n2_ := Aside0.mk (hi); clear HK; clear HB; clear HI0; have HK := n0_; have HB := n1_; have HI0 := n2_; clear n0_ n1_ n2_; clear hb; clear hk; clear hi) | ((with_reducible refine gate_callee (f := 138) rfl ?_); refine goesL_ (some 30) rfl rfl Tryz.func138 (by kernel_rfl) rfl #[.pointer (some ⟨g, 0, none⟩), .int .u8 45] rfl (by (try simp only [List.map_toArray, List.map_cons, List.map_nil]); rfl) ?_; (with_reducible refine (spec_reader_take.calls g t141 t142 45 t146 t147 t148 w0 _ ?side1 ?side2 A33.out).mono ?_); (case side1 => exact HI0.out); (case side2 => exact HB.out); rintro e w36 ⟨rfl, hi, hb, hk⟩; refine ⟨_, rfl, ?_⟩; have n0_ := Aside0.mk (KeepBut.trans (by exact HK.out) hk (.inl rfl)); have n1_ := Aside0.mk (hb); have n2_ := Aside0.mk (hi); clear HK; clear HB; clear HI0; have HK := n0_; have HB := n1_; have HI0 := n2_; clear n0_ n1_ n2_; clear hb; clear hk; clear hi) | ((with_reducible refine gate_callee (f := 140) rfl ?_); refine goesL_ (some 32) rfl rfl Tryz.func140 (by kernel_rfl) rfl #[.pointer (some ⟨g, 0, none⟩)] rfl (by (try simp only [List.map_toArray, List.map_cons, List.map_nil]); rfl) ?_; (with_reducible refine (spec_reader_digits.calls kj19 g t147 t148 t149 t150 t151 w0 _ ?side1 ?side2 A34.out).mono ?_); (case side1 => exact HI0.out); (case side2 => exact HB.out); rintro e w37 ⟨rfl, hi, hb, hk⟩; refine ⟨_, rfl, ?_⟩; have n0_ := Aside0.mk (KeepBut.trans (by exact HK.out) hk (.inl rfl)); have n1_ := Aside0.mk (hb); have n2_ := Aside0.mk (hi); clear HK; clear HB; clear HI0; have HK := n0_; have HB := n1_; have HI0 := n2_; clear n0_ n1_ n2_; clear hb; clear hk; clear hi))
                      go_ret
                      exact ⟨by rfl, by exact HI0.out, by exact HB.out, by exact HK.out⟩
                  · replace c27 := Bool.eq_false_iff.mpr c27
                    subst c27
                    have H1 : (some (true, x1000_19, x1001_19)) = some (r1, r2, r3) := by rw [if_neg (show ¬ (false = true) by decide)] at H; exact H
                    clear H
                    have H := H1
                    clear H1
                    simp only [Option.some.injEq, Prod.mk.injEq] at H
                    obtain ⟨rfl, rfl, rfl⟩ := H
                    go_wp2
                    go_ret
                    exact ⟨by rfl, by exact HI0.out, by exact HB.out, by exact HK.out⟩
/-! ### spec_reader_word: function 90 -/
def spec_reader_word.f (s0_0 : ByteArray) (s0_1 : Int) (a1 : ByteArray) : Option (Bool × ByteArray × Int) := if (wrap64 ((s0_0.size : Int) - s0_1)) < (a1.size : Int) then (some (false, s0_0, s0_1)) else (if 0 ≤ s0_1 then (if s0_1 ≤ (wrap64 (s0_1 + (a1.size : Int))) then (if (wrap64 (s0_1 + (a1.size : Int))) ≤ (s0_0.size : Int) then (if (s0_0.extract (s0_1 : Int).toNat ((wrap64 (s0_1 + (a1.size : Int))) : Int).toNat).toList = a1.toList then (some (true, s0_0, wrap64 (s0_1 + (a1.size : Int)))) else (some (false, s0_0, s0_1))) else (none)) else (none)) else (none))
set_option maxHeartbeats 8000000 in
set_option maxRecDepth 100000 in
theorem spec_reader_word.calls (g : Nat) (s0_0 : ByteArray) (s0_1 : Int) (a1 : ByteArray) (r1 : Bool) (r2 : ByteArray) (r3 : Int) (w0 w : World) (hI : IsS85 w0 w g s0_0 s0_1) (hB : Below w0.heap.size w0 w) (h : spec_reader_word.f s0_0 s0_1 a1 = some (r1, r2, r3)) :
    Calls Tryz.prog 90 #[.pointer (some ⟨g, 0, none⟩), .string a1] w fun e w' => e = .returned (.bool r1) ∧ IsS85 w0 w' g r2 r3 ∧ Below w0.heap.size w0 w' ∧ KeepBut w w' g none := by
  have HI0 := Aside0.mk hI
  have HK := Aside0.mk (KeepBut.refl w g none)
  have HL := Aside0.mk hB.size
  clear hI
  have HW0 := Aside0.mk hB.size
  have HB := Aside0.mk hB
  clear hB
  have H : (if (wrap64 ((s0_0.size : Int) - s0_1)) < (a1.size : Int) then (some (false, s0_0, s0_1)) else (if 0 ≤ s0_1 then (if s0_1 ≤ (wrap64 (s0_1 + (a1.size : Int))) then (if (wrap64 (s0_1 + (a1.size : Int))) ≤ (s0_0.size : Int) then (if (s0_0.extract (s0_1 : Int).toNat ((wrap64 (s0_1 + (a1.size : Int))) : Int).toNat).toList = a1.toList then (some (true, s0_0, wrap64 (s0_1 + (a1.size : Int)))) else (some (false, s0_0, s0_1))) else (none)) else (none)) else (none))) = some (r1, r2, r3) := h
  clear h
  by_cases c3 : (wrap64 ((s0_0.size : Int) - s0_1)) < (a1.size : Int)
  · rw [if_pos c3] at H
    have c3b0 : decide ((wrap64 ((s0_0.size : Int) - s0_1)) < (a1.size : Int)) = true := decide_eq_true c3
    clear c3
    simp only [Option.some.injEq, Prod.mk.injEq] at H
    obtain ⟨rfl, rfl, rfl⟩ := H
    obtain ⟨HGz4, hgz4⟩ := HI0.out
    have hcz4_0 := cellS85_0 HGz4
    have hcz4_1 := cellS85_1 HGz4
    have hfz4_0 := blk_frozen HGz4 0
    have hfz4_1 := blk_frozen HGz4 1
    clear HGz4 hgz4
    go_enter Tryz.func90, Tryz.ntmps90
    go_wp2
    repeat (go_quiet (fail); try go_wp2)
    go_ret
    exact ⟨by rfl, by repeat ((with_reducible first | exact HI0.out | apply IsS85.drewN)), by repeat ((with_reducible first | exact HB.out | apply pw_below_drewN)), by repeat ((with_reducible first | exact HK.out | apply keep_drewN))⟩
  · rw [if_neg c3] at H
    have c3b0 : decide ((wrap64 ((s0_0.size : Int) - s0_1)) < (a1.size : Int)) = false := decide_eq_false c3
    clear c3
    by_cases c5 : 0 ≤ s0_1
    · rw [if_pos c5] at H
      have c5b0 := eq_true c5
      have c5b1 : decide (0 ≤ s0_1) = true := decide_eq_true c5
      clear c5
      by_cases c6 : s0_1 ≤ (wrap64 (s0_1 + (a1.size : Int)))
      · rw [if_pos c6] at H
        have c6b0 := eq_true c6
        have c6b1 : decide (s0_1 ≤ (wrap64 (s0_1 + (a1.size : Int)))) = true := decide_eq_true c6
        by_cases c7 : (wrap64 (s0_1 + (a1.size : Int))) ≤ (s0_0.size : Int)
        · rw [if_pos c7] at H
          have c7b0 := eq_true c7
          have c7b1 : decide ((wrap64 (s0_1 + (a1.size : Int))) ≤ (s0_0.size : Int)) = true := decide_eq_true c7
          by_cases c8 : (s0_0.extract (s0_1 : Int).toNat ((wrap64 (s0_1 + (a1.size : Int))) : Int).toNat).toList = a1.toList
          · rw [if_pos c8] at H
            have c8b0 : ((s0_0.extract (s0_1 : Int).toNat ((wrap64 (s0_1 + (a1.size : Int))) : Int).toNat).toList == a1.toList) = true := beq_iff_eq.mpr c8
            have c8b1 : ((s0_0.extract (s0_1 : Int).toNat ((wrap64 (s0_1 + (a1.size : Int))) : Int).toNat).toList != a1.toList) = false := bne_eq_false_iff_eq.mpr c8
            clear c8
            simp only [Option.some.injEq, Prod.mk.injEq] at H
            obtain ⟨rfl, rfl, rfl⟩ := H
            obtain ⟨HGz9, hgz9⟩ := HI0.out
            have hcz9_0 := cellS85_0 HGz9
            have hcz9_1 := cellS85_1 HGz9
            have hfz9_0 := blk_frozen HGz9 0
            have hfz9_1 := blk_frozen HGz9 1
            clear HGz9 hgz9
            go_enter Tryz.func90, Tryz.ntmps90
            go_wp2
            repeat (go_quiet (fail); try go_wp2)
            go_ret
            exact ⟨by rfl, by repeat ((with_reducible first | exact HI0.out | apply IsS85.drewN | apply IsS85.set_1)), by repeat ((with_reducible first | exact HB.out | apply pw_below_drewN | refine below_set ?_ (IsS85.ge HI0.out))), by repeat ((with_reducible first | exact HK.out | apply KeepBut.set_ | apply keep_drewN))⟩
          · rw [if_neg c8] at H
            have c8b0 : ((s0_0.extract (s0_1 : Int).toNat ((wrap64 (s0_1 + (a1.size : Int))) : Int).toNat).toList == a1.toList) = false := beq_eq_false_iff_ne.mpr c8
            have c8b1 : ((s0_0.extract (s0_1 : Int).toNat ((wrap64 (s0_1 + (a1.size : Int))) : Int).toNat).toList != a1.toList) = true := bne_iff_ne.mpr c8
            simp only [Option.some.injEq, Prod.mk.injEq] at H
            obtain ⟨rfl, rfl, rfl⟩ := H
            obtain ⟨HGz10, hgz10⟩ := HI0.out
            have hcz10_0 := cellS85_0 HGz10
            have hcz10_1 := cellS85_1 HGz10
            have hfz10_0 := blk_frozen HGz10 0
            have hfz10_1 := blk_frozen HGz10 1
            clear HGz10 hgz10
            go_enter Tryz.func90, Tryz.ntmps90
            go_wp2
            repeat (go_quiet (fail); try go_wp2)
            go_ret
            exact ⟨by rfl, by repeat ((with_reducible first | exact HI0.out | apply IsS85.drewN)), by repeat ((with_reducible first | exact HB.out | apply pw_below_drewN)), by repeat ((with_reducible first | exact HK.out | apply keep_drewN))⟩
        · rw [if_neg c7] at H
          exact absurd H (by simp)
      · rw [if_neg c6] at H
        exact absurd H (by simp)
    · rw [if_neg c5] at H
      exact absurd H (by simp)
/-! ### spec_reader_members: function 86 -/
/-! ### spec_reader_elements: function 87 -/
/-! ### spec_reader_value: function 49 -/
mutual
def spec_reader_members.l0 : Nat → List (S156) → List (S46) → ByteArray → Int → Option ((List (S156)) × (List (S46)) × Bool × ByteArray × Int)
  | 0, _, _, _, _ => none
  | k + 1, x5, x6, x1000, x1001 => (spec_reader_here.f x1000 x1001).bind fun bt157 => (if bt157.1 = 34 then ((spec_reader_quoted.f k bt157.2.1 bt157.2.2).bind fun bt160 => (spec_reader_members.j1 k x5 x6 x1001 (!bt160.1) bt160.2.1 bt160.2.2)) else (spec_reader_members.j1 k x5 x6 x1001 true bt157.2.1 bt157.2.2))
def spec_reader_members.j1 : Nat → List (S156) → List (S46) → Int → Bool → ByteArray → Int → Option ((List (S156)) × (List (S46)) × Bool × ByteArray × Int)
  | 0, _, _, _, _, _, _ => none
  | k + 1, x5, x6, x7, x32, x1000, x1001 => if x32 = true then (some (([] : List (S156)), ([] : List (S46)), false, x1000, x1001)) else (if x5.length < 8796093022208 then ((some (x5 ++ [(⟨x7, x1001⟩ : S156)] : List (S156))).bind fun y163 => ((spec_reader_blanks.f k x1000 x1001).bind fun bt166 => ((spec_reader_take.f bt166.1 bt166.2 58).bind fun bt168 => (if bt168.1 = true then ((spec_reader_blanks.f k bt168.2.1 bt168.2.2).bind fun bt171 => ((spec_reader_value.f k bt171.1 bt171.2).bind fun bt173 => (if bt173.2.2.2.2.2.1 = true then (if x6.length < 1954687338268 then ((some (x6 ++ [(⟨bt173.1, bt173.2.1, bt173.2.2.1, bt173.2.2.2.1, bt173.2.2.2.2.1⟩ : S46)] : List (S46))).bind fun y186 => ((spec_reader_blanks.f k bt173.2.2.2.2.2.2.1 bt173.2.2.2.2.2.2.2).bind fun bt189 => ((spec_reader_take.f bt189.1 bt189.2 125).bind fun bt191 => (if bt191.1 = true then (some (y163, y186, true, bt191.2.1, bt191.2.2)) else ((spec_reader_take.f bt191.2.1 bt191.2.2 44).bind fun bt194 => (if bt194.1 = true then ((spec_reader_blanks.f k bt194.2.1 bt194.2.2).bind fun bt197 => (spec_reader_members.l0 k y163 y186 bt197.1 bt197.2)) else (some (([] : List (S156)), ([] : List (S46)), false, bt194.2.1, bt194.2.2)))))))) else (none)) else (some (([] : List (S156)), ([] : List (S46)), false, bt173.2.2.2.2.2.2.1, bt173.2.2.2.2.2.2.2))))) else (some (([] : List (S156)), ([] : List (S46)), false, bt168.2.1, bt168.2.2)))))) else (none))
def spec_reader_members.f : Nat → ByteArray → Int → Option ((List (S156)) × (List (S46)) × Bool × ByteArray × Int)
  | 0, _, _ => none
  | k + 1, s0_0, s0_1 => (spec_reader_blanks.f k s0_0 (wrap64 (s0_1 + 1))).bind fun bt152 => ((spec_reader_take.f bt152.1 bt152.2 125).bind fun bt154 => (if bt154.1 = true then (some (([] : List (S156)), ([] : List (S46)), true, bt154.2.1, bt154.2.2)) else (spec_reader_members.l0 k ([] : List (S156)) ([] : List (S46)) bt154.2.1 bt154.2.2)))
def spec_reader_elements.l0 : Nat → List (S46) → ByteArray → Int → Option ((List (S46)) × Bool × ByteArray × Int)
  | 0, _, _, _ => none
  | k + 1, x4, x1000, x1001 => (spec_reader_value.f k x1000 x1001).bind fun bt204 => (if bt204.2.2.2.2.2.1 = true then (if x4.length < 1954687338268 then ((some (x4 ++ [(⟨bt204.1, bt204.2.1, bt204.2.2.1, bt204.2.2.2.1, bt204.2.2.2.2.1⟩ : S46)] : List (S46))).bind fun y217 => ((spec_reader_blanks.f k bt204.2.2.2.2.2.2.1 bt204.2.2.2.2.2.2.2).bind fun bt220 => ((spec_reader_take.f bt220.1 bt220.2 93).bind fun bt222 => (if bt222.1 = true then (some (y217, true, bt222.2.1, bt222.2.2)) else ((spec_reader_take.f bt222.2.1 bt222.2.2 44).bind fun bt225 => (if bt225.1 = true then ((spec_reader_blanks.f k bt225.2.1 bt225.2.2).bind fun bt228 => (spec_reader_elements.l0 k y217 bt228.1 bt228.2)) else (some (([] : List (S46)), false, bt225.2.1, bt225.2.2)))))))) else (none)) else (some (([] : List (S46)), false, bt204.2.2.2.2.2.2.1, bt204.2.2.2.2.2.2.2)))
def spec_reader_elements.f : Nat → ByteArray → Int → Option ((List (S46)) × Bool × ByteArray × Int)
  | 0, _, _ => none
  | k + 1, s0_0, s0_1 => (spec_reader_blanks.f k s0_0 (wrap64 (s0_1 + 1))).bind fun bt199 => ((spec_reader_take.f bt199.1 bt199.2 93).bind fun bt201 => (if bt201.1 = true then (some (([] : List (S46)), true, bt201.2.1, bt201.2.2)) else (spec_reader_elements.l0 k ([] : List (S46)) bt201.2.1 bt201.2.2)))
def spec_reader_value.j0 : Nat → Bool → Bool → ByteArray → Int → Int → Int → Int → Option (Int × Int × Int × (List (S156)) × (List (S46)) × Bool × ByteArray × Int)
  | 0, _, _, _, _, _, _, _ => none
  | k + 1, x5, x42, x1000, x1001, x232000, x232001, x232002 => if x42 = true then ((spec_reader_number.f k x1000 x1001).bind fun bt253 => (some (3, x232001, bt253.2.2, ([] : List (S156)), ([] : List (S46)), bt253.1, bt253.2.1, bt253.2.2))) else ((spec_reader_word.f x1000 x1001 (⟨#[110, 117, 108, 108]⟩ : ByteArray)).bind fun bt256 => (if bt256.1 = true then (some (0, x232001, bt256.2.2, ([] : List (S156)), ([] : List (S46)), x5, bt256.2.1, bt256.2.2)) else ((spec_reader_word.f bt256.2.1 bt256.2.2 (⟨#[102, 97, 108, 115, 101]⟩ : ByteArray)).bind fun bt259 => (if bt259.1 = true then (some (1, x232001, bt259.2.2, ([] : List (S156)), ([] : List (S46)), x5, bt259.2.1, bt259.2.2)) else ((spec_reader_word.f bt259.2.1 bt259.2.2 (⟨#[116, 114, 117, 101]⟩ : ByteArray)).bind fun bt262 => (if bt262.1 = true then (some (2, x232001, bt262.2.2, ([] : List (S156)), ([] : List (S46)), x5, bt262.2.1, bt262.2.2)) else (some (x232000, x232001, bt262.2.2, ([] : List (S156)), ([] : List (S46)), false, bt262.2.1, bt262.2.2))))))))
def spec_reader_value.f : Nat → ByteArray → Int → Option (Int × Int × Int × (List (S156)) × (List (S46)) × Bool × ByteArray × Int)
  | 0, _, _ => none
  | k + 1, s0_0, s0_1 => (spec_reader_here.f s0_0 s0_1).bind fun bt232 => (if bt232.1 = 123 then ((spec_reader_members.f k bt232.2.1 bt232.2.2).bind fun bt235 => (some (6, s0_1, bt235.2.2.2.2, bt235.1, bt235.2.1, bt235.2.2.1, bt235.2.2.2.1, bt235.2.2.2.2))) else (if bt232.1 = 91 then ((spec_reader_elements.f k bt232.2.1 bt232.2.2).bind fun bt244 => (some (5, s0_1, bt244.2.2.2, ([] : List (S156)), bt244.1, bt244.2.1, bt244.2.2.1, bt244.2.2.2))) else (if bt232.1 = 34 then ((spec_reader_quoted.f k bt232.2.1 bt232.2.2).bind fun bt250 => (some (4, s0_1, bt250.2.2, ([] : List (S156)), ([] : List (S46)), bt250.1, bt250.2.1, bt250.2.2))) else (if bt232.1 = 45 then (spec_reader_value.j0 k true true bt232.2.1 bt232.2.2 0 s0_1 0) else (if 48 ≤ bt232.1 then (spec_reader_value.j0 k true (decide (bt232.1 ≤ 57)) bt232.2.1 bt232.2.2 0 s0_1 0) else (spec_reader_value.j0 k true false bt232.2.1 bt232.2.2 0 s0_1 0))))))
end
abbrev spec_reader_members.Spec (k : Nat) : Prop := ∀ (g : Nat) (s0_0 : ByteArray) (s0_1 : Int) (r1 : List (S156)) (r2 : List (S46)) (r3 : Bool) (r4 : ByteArray) (r5 : Int) (w0 w : World) (hI : IsS85 w0 w g s0_0 s0_1) (hB : Below w0.heap.size w0 w) (h : spec_reader_members.f k s0_0 s0_1 = some (r1, r2, r3, r4, r5)),
    Calls Tryz.prog 86 #[.pointer (some ⟨g, 0, none⟩)] w fun e w' => ∃ v0_ v1_ : Value, e = .returned (.tuple #[v0_, v1_, .bool r3]) ∧ Kd.R k156 156 w' w.heap.size (fun _ => True) v0_ r1 ∧ Kd.R k46 46 w' w.heap.size (fun k_ => some k_ ≠ (v0_ : Value).ownBlock) v1_ r2 ∧ IsS85 w0 w' g r4 r5 ∧ Below w0.heap.size w0 w' ∧ KeepBut w w' g none
abbrev spec_reader_elements.Spec (k : Nat) : Prop := ∀ (g : Nat) (s0_0 : ByteArray) (s0_1 : Int) (r1 : List (S46)) (r2 : Bool) (r3 : ByteArray) (r4 : Int) (w0 w : World) (hI : IsS85 w0 w g s0_0 s0_1) (hB : Below w0.heap.size w0 w) (h : spec_reader_elements.f k s0_0 s0_1 = some (r1, r2, r3, r4)),
    Calls Tryz.prog 87 #[.pointer (some ⟨g, 0, none⟩)] w fun e w' => ∃ v0_ : Value, e = .returned (.tuple #[v0_, .bool r2]) ∧ Kd.R k46 46 w' w.heap.size (fun _ => True) v0_ r1 ∧ IsS85 w0 w' g r3 r4 ∧ Below w0.heap.size w0 w' ∧ KeepBut w w' g none
abbrev spec_reader_value.Spec (k : Nat) : Prop := ∀ (g : Nat) (s0_0 : ByteArray) (s0_1 : Int) (r1 : Int) (r2 : Int) (r3 : Int) (r4 : List (S156)) (r5 : List (S46)) (r6 : Bool) (r7 : ByteArray) (r8 : Int) (w0 w : World) (hI : IsS85 w0 w g s0_0 s0_1) (hB : Below w0.heap.size w0 w) (h : spec_reader_value.f k s0_0 s0_1 = some (r1, r2, r3, r4, r5, r6, r7, r8)),
    Calls Tryz.prog 49 #[.pointer (some ⟨g, 0, none⟩)] w fun e w' => ∃ v3_ v4_ : Value, e = .returned (.tuple #[.agg #[.int .i64 r1, .int .i64 r2, .int .i64 r3, v3_, v4_], .bool r6]) ∧ Kd.R k156 156 w' w.heap.size (fun _ => True) v3_ r4 ∧ Kd.R k46 46 w' w.heap.size (fun k_ => some k_ ≠ (v3_ : Value).ownBlock) v4_ r5 ∧ IsS85 w0 w' g r7 r8 ∧ Below w0.heap.size w0 w' ∧ KeepBut w w' g none
end Go.Proofs.YtlhaefblchpjhaaGreatDoor.XFnAlValid
end
