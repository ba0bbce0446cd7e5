/- What the walks of gjson's AppendJSONString ask of unicode/utf8's two tables and of the row of hexadecimal digits, and that it lasts. -/
import Derived.Test.YtdllbnecbbggfaaDoorShelf
import Derived.Test.YtdllbnecbbggfaaDoorWWords
import Derived.Test.YtdllbnecbbggfaaDoorRunes
import Derived.Lib.AppendZeros
namespace Go.Proofs.YtdllbnecbbggfaaDoor
open Go.RowKit Go.Proofs.YtdllbnecbbggfaaDoorW.PrintWords

/-- A hexadecimal digit, as a byte. -/
def hexc (i : Nat) : Int := if i < 10 then 48 + i else 87 + i
/-- The tables of unicode/utf8 and gjson's digits hold what they were laid with. -/
structure Glob (w : World) : Prop where
  tabs : Lib.Utf8Tabs 5 6 w
  hex : ∀ i, i < 16 → w.cell? ⟨1, i, none⟩ = some (.int .u8 (hexc i))
theorem Glob.below {w w' : World} (h : Glob w) (hb : Below w.heap.size w w') : Glob w' :=
  ⟨⟨fun c hc => pw_cell_below hb (h.tabs.1 c hc), fun i hi => ⟨pw_cell_below hb (h.tabs.2 i hi).1, pw_cell_below hb (h.tabs.2 i hi).2⟩⟩, fun i hi => pw_cell_below hb (h.hex i hi)⟩
theorem Glob.drewN {w : World} (h : Glob w) (n : Nat) : Glob (w.drewN n) := ⟨h.tabs, h.hex⟩
theorem Glob.drew {w : World} (h : Glob w) : Glob w.drew := ⟨h.tabs, h.hex⟩
/-- The first character of a text, as Go's decoder has it: the character and how many bytes. -/
def dgo (s : ByteArray) : Int × Int := ((Lib.decodeGo s).1, (Lib.decodeGo s).2)
def dlast (s : ByteArray) : Int × Int := ((Lib.decodeLastL s.data.toList).1, (Lib.decodeLastL s.data.toList).2)
theorem dgo_calls (s : ByteArray) (w : World) (hG : Glob w) :
    Calls Tryd.prog 62 #[.string s] w fun e w' => e = .returned (.tuple #[.int .i32 (dgo s).1, .int .i64 (dgo s).2]) ∧ Below w.heap.size w w' := Tryd.utf8_DecodeRuneInString s w hG.tabs
theorem dlast_calls (s : ByteArray) (w : World) (hs : s.size ≤ 9223372036854775807) (hG : Glob w) :
    Calls Tryd.prog 102 #[.string s] w fun e w' => e = .returned (.tuple #[.int .i32 (dlast s).1, .int .i64 (dlast s).2]) ∧ Below w.heap.size w w' := Tryd.utf8_DecodeLastRuneInString s w hs hG.tabs
theorem dgo_bounds (s : ByteArray) : 0 ≤ (dgo s).2 ∧ (dgo s).2 ≤ 4 ∧ (dgo s).2 ≤ s.size ∧ 0 ≤ (dgo s).1 ∧ (dgo s).1 ≤ 1114111 ∧ ((dgo s).2 = 0 ↔ s.size = 0) := by
  have h1 := Lib.decodeGo_le4 s
  have h2 := Lib.decodeGo_le_size s
  unfold dgo
  simp only []
  have key : ∀ n a b c d : Nat, a < 256 → b < 256 → c < 256 → d < 256 → (Lib.decodeN n a b c d).1 ≤ 1114111 ∧ 1 ≤ (Lib.decodeN n a b c d).2 := by
    intro n a b c d ha hb hc hd
    unfold Lib.decodeN
    repeat' split
    all_goals (simp only []; omega)
  refine ⟨by omega, by omega, by omega, by omega, ?_, ?_⟩
  · unfold Lib.decodeGo
    split
    · simp
    · rw [Lib.decode_at]
      have := (key (s.size - 0) _ _ _ _ (s.get! 0).toNat_lt (s.get! (0 + 1)).toNat_lt (s.get! (0 + 2)).toNat_lt (s.get! (0 + 3)).toNat_lt).1
      omega
  · unfold Lib.decodeGo
    split
    · rename_i hz
      exact ⟨fun _ => hz, fun _ => rfl⟩
    · rename_i hz
      rw [Lib.decode_at]
      have := (key (s.size - 0) _ _ _ _ (s.get! 0).toNat_lt (s.get! (0 + 1)).toNat_lt (s.get! (0 + 2)).toNat_lt (s.get! (0 + 3)).toNat_lt).2
      exact ⟨fun h => by omega, fun h => absurd h hz⟩
theorem dgo_ascii {s : ByteArray} (h0 : 0 < s.size) (h : bt s 0 < 128) : dgo s = (bt s 0, 1) := by
  have g := Runes.get_rd s 0
  rw [rd_bytesOf] at g
  unfold dgo Lib.decodeGo
  rw [if_neg (by omega), Lib.decode_at, Runes.decodeN_one (by have : ((0 : Nat) : Int) = 0 := rfl; rw [this] at g; omega)]
  refine Prod.ext ?_ rfl
  simp only []
  exact g

end Go.Proofs.YtdllbnecbbggfaaDoor
