/- A row of the function's own whose last cells are written by another function (World.setCells), and cut there. -/
import Derived.Test.YtjfofbgnppdlgaaDoorProg
import Derived.Test.YtjfofbgnppdlgaaDoorWWords
import Derived.Test.YtjfofbgnppdlgaaDoorWMore
import Derived.Laws.IdiomCopy
import Derived.Laws.MakeOwn
namespace Go.Proofs.YtjfofbgnppdlgaaDoor.OwnRow
open Go.RowKit Go.Proofs.YtjfofbgnppdlgaaDoorW.PrintWords

theorem heap_setCell {w : World} {g j e : Nat} {cur : Array Value} {fz : Nat × Nat} (h : w.heap[g]? = some (.cells cur e fz)) (v : Value) :
    (w.setCell ⟨g, j, none⟩ v).heap[g]? = some (.cells (cur.setIfInBounds j v) e fz) := by
  simp [World.setCell, Array.getElem?_modify, h]
theorem heap_setCells {g e : Nat} {fz : Nat × Nat} : ∀ (vs : List Value) (o : Nat) (w : World) (cur : Array Value), w.heap[g]? = some (.cells cur e fz) → o + vs.length ≤ cur.size →
    ∃ cur' : Array Value, (w.setCells g o vs).heap[g]? = some (.cells cur' e fz) ∧ cur'.size = cur.size ∧ cur'.toList = cur.toList.take o ++ vs ++ cur.toList.drop (o + vs.length)
  | [], o, w, cur, h, hl => ⟨cur, h, rfl, by simp⟩
  | v :: r, o, w, cur, h, hl => by
    simp only [List.length_cons] at hl
    obtain ⟨cur', h1, h2, h3⟩ := heap_setCells r (o + 1) (w.setCell ⟨g, o, none⟩ v) (cur.setIfInBounds o v) (heap_setCell h v) (by rw [Array.size_setIfInBounds]; omega)
    refine ⟨cur', h1, by rw [h2, Array.size_setIfInBounds], ?_⟩
    rw [h3, Array.toList_setIfInBounds]
    have ho : o < cur.toList.length := by rw [Array.length_toList]; omega
    rw [List.take_set, List.drop_set_of_lt (by omega), List.take_succ_eq_append_getElem ho]
    rw [List.set_append]
    simp [List.length_take, Nat.add_assoc, Nat.add_comm 1]
    have hm : min o cur.size = o := by rw [Array.length_toList] at ho; omega
    rw [hm, if_neg (by omega)]
    simp

/-- Behind the writing of 'ys' at the end of the first n, the row is cut behind them. -/
theorem own_written {W : World} {base g n m e cap : Nat} {xs ys zs : List Int} (h : W.ownsRow base e 1 (.slice (some ⟨g, 0, none⟩) (n + m) cap) (n + m) (nums .u8 (xs ++ zs))) (hx : xs.length = n) (hy : ys.length ≤ m) :
    (W.setCells g n (ys.map fun x => Value.int .u8 x)).ownsRow base e 1 (.slice (some ⟨g, 0, none⟩) (n + ys.length) cap) (n + ys.length) (nums .u8 (xs ++ ys)) := by
  rcases h with ⟨hl, ⟨hv, _⟩ | ⟨g', cap', cur, hv, hb, hg, hn, hc, hs, ht⟩⟩
  · cases hv
  · obtain ⟨rfl, rfl⟩ : g' = g ∧ cap' = cap := by
      injection hv with a b c
      injection a with a
      injection a with a
      exact ⟨a.symm, c.symm⟩
    obtain ⟨cur', h1, h2, h3⟩ := heap_setCells (ys.map fun x => Value.int .u8 x) n W cur hg (by rw [List.length_map]; omega)
    refine ⟨by simp [nums, hx], .inr ⟨g', cap', cur', rfl, hb, h1, by omega, hc, by omega, ?_⟩⟩
    have hcn : n ≤ cur.toList.length := by rw [Array.length_toList]; omega
    have htk : cur.toList.take n = nums .u8 xs := by
      have := congrArg (List.take n) ht
      rw [List.take_take, Nat.min_eq_left (by omega)] at this
      rw [this]
      simp [nums, ← hx]
    rw [h3, htk, Nat.mul_one, List.append_assoc, List.take_append, List.take_of_length_le (by simp [nums, hx]), show n + ys.length - (nums .u8 xs).length = ys.length by simp [nums, hx], List.take_append,
      List.take_of_length_le (by simp), show ys.length - (ys.map fun x => Value.int .u8 x).length = 0 by simp]
    simp [nums]

/-- make([]byte, 0, m) -/
theorem make_cap {P : Program} (t e : TypeId) (ht : P.underlying t = some (.slice e)) (hinfo : (P.info? e).map (fun i => (i.zero, i.size, i.bytes)) = some (some (.int .u8 0), 1, 1)) (m : Nat) (hm : m ≤ 140737488355328) (W : World) :
    (Instr.makeSlice t (.int .i64 0) (.int .i64 (m : Int))).run P W = .ok (.slice (some ⟨W.heap.size, 0, none⟩) 0 m) (W.alloc (.cells (madeCells #[.int .u8 0] m) e)) := by
  obtain ⟨i0, hi, hz⟩ := Option.map_eq_some_iff.1 hinfo
  simp only [Prod.mk.injEq] at hz
  have hr := Go.run_make (P := P) W t e i0 (.int .u8 0) ht hi hz.1 .i64 .i64 0 (m : Int) (Int.le_refl _) (by omega) (by rw [hz.2.2]; omega) (by omega)
  rw [hz.2.1, Int.toNat_zero, Int.toNat_natCast, Nat.mul_one] at hr
  exact hr
theorem made_own (W : World) (base e m : Nat) (hb : base ≤ W.heap.size) (hm : m ≤ 140737488355328) :
    (W.alloc (.cells (madeCells #[.int .u8 0] m) e)).ownsRow base e 1 (.slice (some ⟨W.heap.size, 0, none⟩) 0 m) 0 (nums .u8 []) :=
  World.ownsRow_made W _ m hb (by simp [maxLen]; omega) (by simp [size_madeCells])

/-- A row of the function's own that is not empty, spelled out. -/
theorem own_shape {W : World} {base e n : Nat} {v : Value} {xs : List Value} (h : W.ownsRow base e 1 v n xs) (hn : 0 < n) :
    ∃ g cap, v = .slice (some ⟨g, 0, none⟩) n cap ∧ base ≤ g ∧ n ≤ cap ∧ cap ≤ 9223372036854775807 ∧ g < W.heap.size ∧ (∀ j, j < n → (W.cell? ⟨g, j, none⟩).isSome = true) ∧ ∀ j, W.frozen? ⟨g, j, none⟩ = false := by
  rcases h.2 with ⟨_, h0⟩ | ⟨g, cap, cur, rfl, hb, hg, hnc, hc, hs, ht⟩
  · omega
  · refine ⟨g, cap, rfl, hb, hnc, by simpa [maxLen] using hc, ?_, fun j hj => ?_, fun j => ?_⟩
    · refine Nat.lt_of_not_le fun hle => ?_
      rw [Array.getElem?_eq_none hle] at hg
      cases hg
    · have hj' : j < cur.size := by omega
      simp [World.cell?, hg, hj']
    · simp [World.frozen?, hg]

theorem reads8 (W : World) (e : TypeId) : ReadsInt (W.alloc (.cells #[.int .u8 0, .int .u8 0, .int .u8 0, .int .u8 0, .int .u8 0, .int .u8 0, .int .u8 0, .int .u8 0] e)) .u8 (some ⟨W.heap.size, 0, none⟩) 8 [0, 0, 0, 0, 0, 0, 0, 0] := by
  refine ⟨rfl, by omega, fun _ => ⟨_, rfl, fun j hj => ?_⟩⟩
  rw [add_plain, World.cell?_alloc_new]
  have : j = 0 ∨ j = 1 ∨ j = 2 ∨ j = 3 ∨ j = 4 ∨ j = 5 ∨ j = 6 ∨ j = 7 := by omega
  rcases this with rfl | rfl | rfl | rfl | rfl | rfl | rfl | rfl <;> rfl
theorem own_below {W W' : World} {base e n : Nat} {v : Value} {xs : List Value} (h : W.ownsRow base e 1 v n xs) (hb : Below W.heap.size W W') : W'.ownsRow base e 1 v n xs := by
  refine ⟨h.1, h.2.imp id ?_⟩
  rintro ⟨g, cap, cur, rfl, h1, hg, rest⟩
  have hlt : g < W.heap.size := by
    refine Nat.lt_of_not_le fun hle => ?_
    rw [Array.getElem?_eq_none hle] at hg
    cases hg
  exact ⟨g, cap, cur, rfl, h1, (hb.block g hlt).trans hg, rest⟩

theorem below_setCells {B b : Nat} {a : World} (hb : B ≤ b) : ∀ (vs : List Value) (o : Nat) (w : World), Below B a w → Below B a (w.setCells b o vs)
  | [], _, _, h => h
  | v :: r, o, _, h => below_setCells hb r (o + 1) _ (h.setCell hb v)

end Go.Proofs.YtjfofbgnppdlgaaDoor.OwnRow
