/- The shelf's contract of unicode/utf8.EncodeRune, laid at this seat's program. -/
import Derived.Shelf.Spec.EncodeRune
import Derived.Test.YtdllbnecbbggfaaDoorProg
namespace Go.Proofs.YtdllbnecbbggfaaDoor
open Go.Shelf Go.Proofs
def encRen : Go.Shelf.Ren := ⟨fun | 30 => 83 | 47 => 98 | n => n, fun | 0 => 0 | 3 => 3 | 4 => 4 | 5 => 5 | 21 => 21 | 25 => 103 | 27 => 126 | 30 => 42 | n => n, fun | n => n⟩
theorem encLays : Lays7.n30 Tryd.prog encRen := {
  mixed := by kernel_rfl
  f30 := Tryd.func83.trans (congrArg some (by kernel_rfl))
  f47 := Tryd.func98.trans (congrArg some (by kernel_rfl))
  t0 := Tryd.underlying0
  a0 := Tryd.isAgg0
  z0 := Tryd.sizeOf0
  v0 := Tryd.zeroValue0
  i0 := by kernel_rfl
  t3 := Tryd.underlying3
  a3 := Tryd.isAgg3
  z3 := Tryd.sizeOf3
  v3 := Tryd.zeroValue3
  i3 := by kernel_rfl
  t4 := Tryd.underlying4
  a4 := Tryd.isAgg4
  z4 := Tryd.sizeOf4
  v4 := Tryd.zeroValue4
  i4 := by kernel_rfl
  t5 := Tryd.underlying5
  a5 := Tryd.isAgg5
  z5 := Tryd.sizeOf5
  v5 := Tryd.zeroValue5
  i5 := by kernel_rfl
  t21 := Tryd.underlying21
  a21 := Tryd.isAgg21
  z21 := Tryd.sizeOf21
  v21 := Tryd.zeroValue21
  i21 := by kernel_rfl
  t25 := Tryd.underlying103
  a25 := Tryd.isAgg103
  z25 := Tryd.sizeOf103
  v25 := Tryd.zeroValue103
  i25 := by kernel_rfl
  t27 := Tryd.underlying126
  a27 := Tryd.isAgg126
  z27 := Tryd.sizeOf126
  v27 := Tryd.zeroValue126
  i27 := by kernel_rfl
  t30 := Tryd.underlying42
  a30 := Tryd.isAgg42
  z30 := Tryd.sizeOf42
  v30 := Tryd.zeroValue42
  i30 := by kernel_rfl }
theorem encodeRune_calls (b off len cap : Nat) (r : Int) (hlo : -2147483648 ≤ r) (hhi : r ≤ 2147483647) (w : World) (hl : (Lib.runeCells r).length ≤ len)
    (hc : ∀ j, j < (Lib.runeCells r).length → (w.cell? ⟨b, off + j, none⟩).isSome = true) (hf : ∀ j, j < (Lib.runeCells r).length → w.frozen? ⟨b, off + j, none⟩ = false) :
    Calls Tryd.prog 83 #[.slice (some ⟨b, off, none⟩) len cap, .int .i32 r] w fun e w' => e = .returned (.int .i64 (Lib.runeCells r).length) ∧ w' = w.setCells b off (Lib.runeCells r) := Any7.utf8_EncodeRune encLays b off len cap r hlo hhi w hl hc hf
end Go.Proofs.YtdllbnecbbggfaaDoor
