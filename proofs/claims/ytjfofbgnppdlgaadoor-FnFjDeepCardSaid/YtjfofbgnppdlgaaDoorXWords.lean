/- Laws of this session for the walks of this seat: copy out of a string into a row of the call's own. -/
import Derived.Test.YtjfofbgnppdlgaaDoorWWords
import Derived.Test.YtjfofbgnppdlgaaDoorWMore
import Derived.Laws.CopyRow
import Derived.Laws.CopyOwn
import Derived.Deep.WholeRow
namespace Go.Proofs.YtjfofbgnppdlgaaDoor.XWords
open Go.RowKit Go.Proofs.YtjfofbgnppdlgaaDoorW.PrintWords Go.Proofs.YtjfofbgnppdlgaaDoorW.PrintLast

theorem strOfNums_bytesOf (s : ByteArray) : strOfNums (bytesOf s) = s := by
  unfold strOfNums bytesOf
  rw [List.map_map]
  have : (fun n : Int => UInt8.ofNat n.toNat) ∘ (fun b : UInt8 => (b.toNat : Int)) = id := by
    funext b; simp
  rw [this]; cases s; simp

/-- copy(dst, s), s a string no longer than dst, dst a row of the call's own from its head on. -/
theorem run_copy_str {P : Program} (w : World) (dT sT ty elem : TypeId) (g dLen dCap : Nat) (s : ByteArray) (cur : Array Value) (t : TypeId)
    (hu : P.underlying dT = some (.slice elem)) (hs : (P.info? elem).map (·.size) = some 1) (hg : w.heap[g]? = some (.cells cur t (0, 0))) (hle : s.size ≤ dLen) (hfit : s.size ≤ cur.size) :
    (Builtin.copy_ #[dT, sT] ty #[.slice (some ⟨g, 0, none⟩) dLen dCap, .string s]).run P w =
      .ok (goInt s.size) (w.setRow g (nums .u8 (bytesOf s) ++ cur.toList.drop s.size).toArray) := by
  have hn : nums .u8 (bytesOf s) = s.data.toList.map fun x => Value.int .u8 (x.toNat : Int) := by simp [nums, bytesOf]
  have hl : (nums .u8 (bytesOf s)).length = s.size := by rw [nums_length, bytesOf_length]
  have hst := run_storeCells_at P g 0 t (nums .u8 (bytesOf s)) 0 cur w hg (by rw [hl]; simpa using hfit) (by
    intro v hv
    obtain ⟨x, _, rfl⟩ := List.mem_map.1 hv
    rfl)
  have hmin : Nat.min s.size dLen = s.size := Nat.min_eq_left hle
  rw [hl] at hst
  simp only [Nat.add_zero, Nat.zero_add, List.take_zero, List.nil_append] at hst
  cases hq : P.info? elem with
  | none => simp [hq] at hs
  | some i =>
    simp [Builtin.copy_, run_underlying hu, Builtin.lenOf, Builtin.firstCells, sizeOf, typeInfo, hq, hmin]
    rw [List.take_of_length_le (by rw [List.length_map, data_length]; exact Nat.le_refl _), ← hn, hst]
    simp [Result.andThen]

theorem wpList_copy_str {P : Program} {w : World} {ops : Array Oper} {rest : List Oper} {o : Oper} {a : Act} {Q : Exit → Act → World → Prop} (hgd : o.guard = none) (d s : Operand) (dT sT : TypeId)
    (ho : o.op = .call { callee := .builtin .copy, args := #[d, s], argTypes := #[dT, sT] }) (elem : TypeId) (hu : P.underlying dT = some (.slice elem)) (hsz : (P.info? elem).map (·.size) = some 1)
    (g dLen dCap : Nat) (str : ByteArray) (hd : a.eval d = .slice (some ⟨g, 0, none⟩) dLen dCap) (hs : a.eval s = .string str)
    (cur : Array Value) (t : TypeId) (hg : w.heap[g]? = some (.cells cur t (0, 0))) (hle : str.size ≤ dLen) (hfit : str.size ≤ cur.size)
    (h : wpList P ops Q rest (a.put o.dst (goInt str.size)) (w.setRow g (nums .u8 (bytesOf str) ++ cur.toList.drop str.size).toArray)) : wpList P ops Q (o :: rest) a w := by
  refine wpList_plain hgd fun K hK => ?_
  have hrun := run_copy_str (P := P) w dT sT o.type elem g dLen dCap str cur t hu hsz hg hle hfit
  unfold Oper.wp
  simp [execOp, ho, resolve, invoke, builtin, hd, hs, hrun, Result.andThen]
  exact hK _ _ h

theorem below_alloc0 {B : Nat} {w W : World} (hB : B ≤ W.heap.size) (h : Below B w W) (o : Obj) : Below B w (W.alloc o) := h.alloc hB o
theorem drawn_trans {a b c : World} (h : Drawn0 a b) (k : Drawn0 b c) : Drawn0 a c := by
  obtain ⟨n, rfl⟩ := k
  exact h.step n
theorem make_succ {P : Program} (t e : TypeId) (ht : P.underlying t = some (.slice e)) (hinfo : (P.info? e).map (fun i => (i.zero, i.size, i.bytes)) = some (some (.int .u8 0), 1, 1)) (m : Nat) (hm : m ≤ 35184372088831) (W : World) :
    (Instr.makeSlice t (.int .i64 ((m : Int) + 1)) (.int .i64 ((m : Int) + 1))).run P W = .ok (.slice (some ⟨W.heap.size, 0, none⟩) (m + 1) (m + 1)) (W.alloc (.cells (madeCells #[.int .u8 0] (m + 1)) e)) := by
  have h := print_make t e .u8 1 ht hinfo (by omega) (m + 1) (by omega) W
  rw [show (((m + 1 : Nat) : Nat) : Int) = (m : Int) + 1 from by omega] at h
  exact h
theorem extract_take (s : ByteArray) (n : Nat) : bytesOf (s.extract 0 n) = (bytesOf s).take n := by
  unfold bytesOf
  rw [ByteArray.data_extract, Array.toList_extract, List.map_take]
  simp
/-- What a copy into a made row leaves, cut to the bytes that went over. -/
theorem own_copied (W : World) (base e m n : Nat) (s : ByteArray) (hb : base ≤ W.heap.size) (hn : n ≤ s.size) (hm : s.size ≤ m) (hl : m ≤ 9223372036854775807) :
    (W.alloc (.cells (nums .u8 (bytesOf (s.extract 0 n)) ++ (madeCells #[Value.int .u8 0] m).toList.drop n).toArray e)).ownsRow base e 1 (.slice (some ⟨W.heap.size, 0, none⟩) n m) n (nums .u8 ((bytesOf s).take n)) := by
  have hk : (nums .u8 ((bytesOf s).take n)).length = n := by rw [nums_length, List.length_take, bytesOf_length]; omega
  refine ⟨by rw [hk]; omega, .inr ⟨W.heap.size, m, _, rfl, hb, heap_alloc_new W _, by omega, by simpa [maxLen] using hl, ?_, ?_⟩⟩
  · rw [extract_take]
    have hmm : (madeCells #[Value.int .u8 0] m).toList.length = m := by simp [madeCells]
    simp only [List.size_toArray, List.length_append, List.length_drop, hk, hmm]
    omega
  · rw [extract_take]
    simp only [Nat.mul_one]
    rw [List.take_append_of_le_length (by rw [hk]; omega), List.take_of_length_le (by rw [hk]; omega)]

end Go.Proofs.YtjfofbgnppdlgaaDoor.XWords
