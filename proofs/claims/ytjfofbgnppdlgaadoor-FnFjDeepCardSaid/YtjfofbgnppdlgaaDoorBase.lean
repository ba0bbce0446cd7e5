/- Plain lemmas on lists of bytes and numbers, for the proofs of this seat. -/
import Derived.Test.YtjfofbgnppdlgaaDoorWWords
import Derived.Test.YtjfofbgnppdlgaaDoorWMore
namespace Go.Proofs.YtjfofbgnppdlgaaDoor.Base
open Go.RowKit Go.Proofs.YtjfofbgnppdlgaaDoorW.PrintWords Go.Proofs.YtjfofbgnppdlgaaDoorW.PrintLast

theorem w64 {i : Int} (h0 : 0 ≤ i) (h : i ≤ 9223372036854775807) : wrap64 i = i := by unfold wrap64; omega
theorem w64i {i : Int} (h0 : -9223372036854775808 ≤ i) (h : i ≤ 9223372036854775807) : wrap64 i = i := by unfold wrap64; omega
theorem bytesOf_append (a b : ByteArray) : bytesOf (a ++ b) = bytesOf a ++ bytesOf b := by simp [bytesOf]
theorem rd_nil (i : Int) : rd [] i = 0 := by simp [rd]
theorem rd_get (A : List Int) (i : Int) (h : i.toNat < A.length) : rd A i = A[i.toNat] := by
  unfold rd; rw [List.getD_eq_getElem?_getD, List.getElem?_eq_getElem h]; rfl
theorem rd_out (A : List Int) (i : Int) (h : A.length ≤ i.toNat) : rd A i = 0 := by
  unfold rd; rw [List.getD_eq_getElem?_getD, List.getElem?_eq_none h]; rfl
theorem rd_append (A B : List Int) (i : Int) (h0 : 0 ≤ i) : rd (A ++ B) i = if i < A.length then rd A i else rd B (i - A.length) := by
  unfold rd
  rw [List.getD_eq_getElem?_getD, List.getElem?_append]
  split
  · rw [if_pos (by omega), List.getD_eq_getElem?_getD]
  · rw [if_neg (by omega), List.getD_eq_getElem?_getD, show (i - (A.length : Int)).toNat = i.toNat - A.length from by omega]
theorem bytes_range (s : ByteArray) (i : Int) : 0 ≤ rd (bytesOf s) i ∧ rd (bytesOf s) i ≤ 255 := by rw [rd_bytesOf]; exact bt_range s i
theorem toList_bytes (s : ByteArray) (l : List UInt8) : s.toList = l ↔ bytesOf s = l.map (fun b => (b.toNat : Int)) := by
  rw [ByteArray.toList_eq]
  unfold bytesOf
  constructor
  · intro h; rw [h]
  · intro h
    refine (List.map_inj_right ?_).mp h
    intro a b hab
    exact UInt8.toNat_inj.mp (by omega)
theorem bytes_inj {a b : ByteArray} (h : bytesOf a = bytesOf b) : a = b := by
  have h1 : a.data.toList = b.data.toList := by
    rw [← ByteArray.toList_eq, ← ByteArray.toList_eq]
    exact (toList_bytes a _).mpr (by rw [ByteArray.toList_eq]; exact h)
  cases a; cases b; simp_all
theorem toList_inj {a b : ByteArray} (h : a.toList = b.toList) : a = b := by
  rw [ByteArray.toList_eq, ByteArray.toList_eq] at h
  exact bytes_inj (by unfold bytesOf; rw [h])
/-- Two lists of the same length that read the same are the same. -/
theorem rd_ext {A B : List Int} (hl : A.length = B.length) (h : ∀ i : Int, 0 ≤ i → i < A.length → rd A i = rd B i) : A = B := by
  refine List.ext_getElem hl fun i h1 h2 => ?_
  have := h i (by omega) (by omega)
  rw [rd_get _ _ (by omega), rd_get _ _ (by omega)] at this
  simpa using this

end Go.Proofs.YtjfofbgnppdlgaaDoor.Base
