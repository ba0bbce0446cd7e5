/- The first of a byte in a text; the closing quote by the backslashes ahead of the first quotation mark. -/
import Derived.Test.YtjfofbgnppdlgaaDoorFjW0
import Derived.Test.YtjfofbgnppdlgaaDoorFjA
import Derived.Test.YtjfofbgnppdlgaaDoorIdxStr
import Derived.Lib.IndexLaws
namespace Go.Proofs.YtjfofbgnppdlgaaDoor.FjW
open Go.RowKit Go.Proofs.YtjfofbgnppdlgaaDoorW.PrintWords Go.Proofs.YtjfofbgnppdlgaaDoorW.PrintLast Go.Proofs.YtjfofbgnppdlgaaDoorW.PrintMore
attribute [local go_sem] max2_int min2_int max_two min_two max_three min_three max_four min_four
set_option linter.unusedVariables false
set_option linter.unusedSimpArgs false

/-- strings.IndexByte of a text and a byte. -/
def ixOf (a : ByteArray) (c : Int) : Int := Lib.indexByte a.data.toList c.toNat.toUInt8
theorem ixCall (a : ByteArray) (c v : Int) (h : ixOf a c = v) (w : World) : Calls Tryd.prog 38 #[.string a, .int .u8 c] w fun e w' => e = .returned (.int .i64 v) ∧ w = w' := by
  subst h
  exact (Tryd.strings_IndexByte a c w).mono fun _ _ h => ⟨h.1, h.2.symm⟩
theorem bytesOf_get (a : ByteArray) (k : Nat) : (bytesOf a)[k]? = (a.data.toList[k]?).map fun b => (b.toNat : Int) := by
  unfold bytesOf; rw [List.getElem?_map]
theorem mem_take {l : List Int} {c : Int} {n : Nat} (h : c ∈ l.take n) : ∃ k, k < n ∧ l[k]? = some c := by
  obtain ⟨k, hk⟩ := List.getElem?_of_mem h
  rw [List.getElem?_take] at hk
  split at hk
  · exact ⟨k, by assumption, hk⟩
  · cases hk
theorem u8c {c : Int} (h0 : 0 ≤ c) (h1 : c ≤ 255) (b : UInt8) : (b.toNat : Int) = c ↔ b = c.toNat.toUInt8 := by
  constructor
  · intro h
    apply UInt8.toNat_inj.mp
    have : c.toNat < 256 := by omega
    rw [Nat.toUInt8, UInt8.toNat_ofNat']
    omega
  · intro h
    subst h
    rw [Nat.toUInt8, UInt8.toNat_ofNat']
    omega
theorem ix_or (a : ByteArray) (c : Int) (h0 : 0 ≤ c) (h1 : c ≤ 255) : (ixOf a c = -1 ∧ c ∉ bytesOf a) ∨ ∃ n : Nat, ixOf a c = (n : Int) ∧ n < a.size ∧ bt a (n : Int) = c ∧ c ∉ (bytesOf a).take n := by
  have hg := Lib.indexByte_ge a.data.toList c.toNat.toUInt8
  by_cases h : ixOf a c = -1
  · refine .inl ⟨h, fun hm => ?_⟩
    obtain ⟨k, hk⟩ := List.getElem?_of_mem hm
    rw [bytesOf_get] at hk
    obtain ⟨b, hb, e⟩ := Option.map_eq_some_iff.mp hk
    rw [(u8c h0 h1 b).mp e] at hb
    exact Lib.indexByte_none h k hb
  · obtain ⟨n, hn⟩ : ∃ n : Nat, ixOf a c = (n : Int) := ⟨(ixOf a c).toNat, by unfold ixOf at *; omega⟩
    obtain ⟨g1, g2⟩ := Lib.indexByte_some (o := n) hn
    have hl : n < (bytesOf a).length := by
      rw [bytesOf, List.length_map]
      exact (List.getElem?_eq_some_iff.mp g1).1
    refine .inr ⟨n, hn, by rw [bytesOf_length] at hl; exact hl, ?_, fun hm => ?_⟩
    · rw [← rd_bytesOf]
      unfold rd
      rw [Int.toNat_natCast, List.getD_eq_getElem?_getD, bytesOf_get, g1]
      exact (u8c h0 h1 _).mpr rfl
    · obtain ⟨k, hk, e⟩ := mem_take hm
      rw [bytesOf_get] at e
      obtain ⟨b, hb, e⟩ := Option.map_eq_some_iff.mp e
      rw [(u8c h0 h1 b).mp e] at hb
      exact g2 k hk hb
theorem bt_get (a : ByteArray) (k : Nat) (h : k < a.size) : (bytesOf a)[k]? = some (bt a (k : Int)) := by
  have hl : k < (bytesOf a).length := by rw [bytesOf_length]; exact h
  rw [List.getElem?_eq_getElem hl, ← rd_bytesOf]
  unfold rd
  rw [Int.toNat_natCast, List.getD_eq_getElem?_getD, List.getElem?_eq_getElem hl]; rfl
theorem split_at (b : ByteArray) (n i : Nat) (hi : i ≤ n) (hn : n < b.size) (h34 : bt b (n : Int) = 34) (hr : ∀ j, i ≤ j → j < n → bt b (j : Int) = 92) :
    bytesOf b = (bytesOf b).take i ++ (List.replicate (n - i) 92 ++ 34 :: D b (n + 1)) := by
  have e1 : D b n = 34 :: D b (n + 1) := by rw [← h34]; exact D_cons b n hn
  rw [← e1]
  have e2 : (List.replicate (n - i) (92 : Int)) = (D b i).take (n - i) := by
    refine List.ext_getElem? fun k => ?_
    rw [List.getElem?_replicate, List.getElem?_take]
    split
    · rw [List.getElem?_drop, bt_get b (i + k) (by omega), hr (i + k) (by omega) (by omega)]
    · rfl
  rw [e2]
  have e3 : D b n = (D b i).drop (n - i) := by rw [D_drop]; congr 1; omega
  rw [e3, List.take_append_drop, List.take_append_drop]
/-- The first quotation mark, with the backslashes ahead of it. -/
theorem qend_at (b : ByteArray) (n i : Nat) (hi : i ≤ n) (hn : n < b.size) (h34 : bt b (n : Int) = 34) (hno : (34 : Int) ∉ (bytesOf b).take n) (hr : ∀ j, i ≤ j → j < n → bt b (j : Int) = 92) (hx : i = 0 ∨ bt b ((i : Int) - 1) ≠ 92) :
    Fj.qend (bytesOf b) = if (n - i) % 2 = 0 then some n else (Fj.qend (D b (n + 1))).map (n + 1 + ·) := by
  have hs := split_at b n i hi hn h34 hr
  have hl : ((bytesOf b).take i).length = i := by rw [List.length_take, bytesOf_length]; omega
  have hq := Fj.qend_first ((bytesOf b).take i) (D b (n + 1)) (n - i) (by
    rcases hx with h | h
    · left; rw [h]; rfl
    · by_cases h0 : i = 0
      · left; rw [h0]; rfl
      · right
        obtain ⟨m, rfl⟩ : ∃ m, i = m + 1 := ⟨i - 1, by omega⟩
        refine ⟨(bytesOf b).take m, bt b (m : Int), ?_, by rw [show ((m + 1 : Nat) : Int) - 1 = (m : Int) by omega] at h; exact h⟩
        rw [List.take_add_one, bt_get b m (by omega)]; rfl) (fun hm => hno (by
          have : (bytesOf b).take i = ((bytesOf b).take n).take i := by rw [List.take_take]; congr 1; omega
          rw [this] at hm
          exact List.mem_of_mem_take hm))
  rw [← hs, hl] at hq
  rw [hq]
  rw [show i + (n - i) = n from by omega]
theorem qend_no (b : ByteArray) (h : (34 : Int) ∉ bytesOf b) : Fj.qend (bytesOf b) = none := Fj.qend_without _ _ (Nat.le_refl _) h
/-- A string's inside and what is behind it, or an error. -/
def SaidR (a : ByteArray) (o : Option Nat) (e : Ending) : Prop := match o with
  | none => ∃ (x y : ByteArray) (T : TypeId) (u : Value), e = .returned (.tuple #[.string x, .string y, .iface T u])
  | some q => e = .returned (.tuple #[.string (a.extract 0 q), .string (cut a (q + 1)), .nilIface])
theorem saidR_none {a : ByteArray} {o : Option Nat} (h : o = none) (e : Ending) (x y : ByteArray) (T : TypeId) (u : Value) (he : e = .returned (.tuple #[.string x, .string y, .iface T u])) : SaidR a o e := by
  subst h; exact ⟨x, y, T, u, he⟩
theorem saidR_some {a x y : ByteArray} {o : Option Nat} {q : Nat} (h : o = some q) (hx : x = a.extract 0 q) (hy : y = cut a (q + 1)) {e : Ending} (he : e = .returned (.tuple #[.string x, .string y, .nilIface])) : SaidR a o e := by
  subst h; subst hx; subst hy; exact he
end Go.Proofs.YtjfofbgnppdlgaaDoor.FjW
