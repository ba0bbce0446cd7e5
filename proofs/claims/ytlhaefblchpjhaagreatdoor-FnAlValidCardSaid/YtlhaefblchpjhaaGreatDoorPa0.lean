/- Proved here: parts of the law FnAlValid (the texts WWords WLast WApart WArr WFoot WKept WShare WZeros WN WFootNe WAt WEqStruct WTab WFour WGuard WInv WInvWords WQPut WNEv WMore WRepsOne), no conditions of their own beyond what each theorem says. -/
import Derived.Below
import Derived.Deep.Draws
import Derived.Deep.AppendLies
import Derived.Maps.AppendAt
import Derived.OwnWalk
import Derived.Laws.BytesArg
import Derived.Laws.MakeOwn
import Derived.Laws.OwnMore
import Derived.Deep.OwnRows
import Derived.Tactics
import Derived.Lib.ConvBytes
import Derived.Laws.Slices
import Derived.WalkKit
import Derived.KernelRfl
import Derived.RowKit3
import Derived.Deep.LoopGhost
import Derived.Deep.QuietTactic
import Derived.BigQuiet
import Derived.WideLaws
import Derived.Deep.DeepCutAuto
import Derived.Deep.CutBlock
import Derived.Deep.RegionHeld3
import Derived.Laws.Rows
import Derived.Lib.AppendStr
import Derived.ArgAppend
import Derived.Laws.IdiomCopy
import Derived.RowKit
import Derived.OrdersHeld
import Derived.Laws.BitsLemmas
import Derived.Laws.StructEq
section
-- PRINTED BY print.sh 35421559b90ae4d0a3588c463048766b98c2df88dd9212a6774a882060cdf62d: not written by this session
-- PRINTED WORDS (module Derived/Print/Words.lean): go-wishes' parts 1 to 38 and go-gate-2's additions: AI agents of Go's test side, Mon Nov 16 2026; no person has read them. Plain theorems and definitions: no macro, no elab, no axiom.
set_option linter.unusedVariables false
set_option linter.unusedSimpArgs false
namespace Go.Proofs.YtlhaefblchpjhaaGreatDoorW.PrintWords
open Go.RowKit
/-- A fact that the walk's simp doesn't look into. -/
structure Aside0 (p : Prop) : Prop where mk :: (out : p)
/-- The world is the old one, some orders having been drawn. -/
structure Drawn0 (w w' : World) : Prop where mk :: (out : ∃ n, w' = w.drewN n)
theorem Drawn0.refl (w : World) : Drawn0 w w := ⟨⟨0, rfl⟩⟩
theorem Drawn0.step {w w' : World} (h : Drawn0 w w') (n : Nat) : Drawn0 w (w'.drewN n) := by
  obtain ⟨m, rfl⟩ := h
  exact ⟨⟨m + n, World.drewN_drewN ..⟩⟩
/-! ### 1. Values and lists -/
def rd (xs : List Int) (i : Int) : Int := xs.getD i.toNat 0
def bt (s : ByteArray) (i : Int) : Int := if h : i.toNat < s.size then ((s[i.toNat]'h).toNat : Int) else 0
theorem bt_at (s : ByteArray) (i : Int) : ∀ h : i.toNat < s.size, ((s[i.toNat]'h).toNat : Int) = bt s i := fun h => by simp [bt, h]
theorem bt_range (s : ByteArray) (i : Int) : 0 ≤ bt s i ∧ bt s i ≤ 255 := by
  unfold bt
  split
  · rename_i h
    have := (s[i.toNat]'h).toNat_lt
    omega
  · omega
def nums (k : IntKind) (xs : List Int) : List Value := xs.map fun x => .int k x
/-! ### 2. The world -/
theorem below_alloc {w W : World} (h : Below w.heap.size w W) (o : Obj) : Below w.heap.size w (W.alloc o) := h.alloc h.size o
theorem below_drew {B : Nat} {w W : World} (h : Below B w W) : Below B w W.drew := ⟨h.os, h.tape, h.output, h.size, h.block⟩
theorem pw_below_drewN {B : Nat} {w W : World} (h : Below B w W) (n : Nat) : Below B w (W.drewN n) := ⟨h.os, h.tape, h.output, h.size, h.block⟩
theorem below_then {B : Nat} {w w1 w2 : World} (h : Below B w w1) (hB : B ≤ w1.heap.size) (k : Below w1.heap.size w1 w2) : Below B w w2 :=
  h.trans ⟨k.os, k.tape, k.output, k.size, fun i hi => k.block i (Nat.lt_of_lt_of_le hi hB)⟩
theorem grown_of_below {w w1 : World} (h : Below w.heap.size w w1) (row : Option Nat) : w.grownBy w1 row := ⟨h.os, h.tape, h.output, h.size, fun i hi _ => h.block i hi⟩
theorem pw_cell_below {w w1 : World} (h : Below w.heap.size w w1) {a : Addr} {v : Value} (hc : w.cell? a = some v) : w1.cell? a = some v := (h.cell (World.block_lt_of_cell? w a hc)).trans hc
theorem add_plain (g j : Nat) : (⟨g, 0, none⟩ : Addr).add j = ⟨g, j, none⟩ := by unfold Addr.add; split <;> simp_all
/-! ### 3. A slice of whole numbers that is read; nil, empty and other slices alike -/
def ReadsInt (w : World) (k : IntKind) (A : Option Addr) (n : Nat) (xs : List Int) : Prop :=
  xs.length = n ∧ n ≤ 9223372036854775807 ∧ (0 < n → ∃ ad, A = some ad ∧ ∀ j, j < n → w.cell? (ad.add j) = some (.int k (xs.getD j 0)))
/-! ### 4. A row of the call's own -/
theorem own_nil (W : World) (base : Nat) (e : TypeId) (size : Nat) : W.ownsRow base e size (.slice none 0 0) 0 [] := ⟨by simp, .inl ⟨rfl, rfl⟩⟩
theorem own_base {w : World} {base : Nat} {e : TypeId} {size n : Nat} {v : Value} {xs : List Value} (h : w.ownsRow base e size v n xs) (k : Nat) (hk : v.ownBlock = some k) : base ≤ k := by
  rcases h.2 with ⟨rfl, _⟩ | ⟨g, cap, cur, rfl, hb, _⟩
  · simp [Value.ownBlock] at hk
  · have : g = k := by simpa [Value.ownBlock] using hk
    omega
theorem own_lt {w : World} {base : Nat} {e : TypeId} {size n : Nat} {v : Value} {xs : List Value} (h : w.ownsRow base e size v n xs) (k : Nat) (hk : v.ownBlock = some k) : k < w.heap.size := by
  rcases h.2 with ⟨rfl, _⟩ | ⟨g, cap, cur, rfl, hb, hh, _⟩
  · simp [Value.ownBlock] at hk
  · have : g = k := by simpa [Value.ownBlock] using hk
    subst this
    exact (Array.getElem?_eq_some_iff.1 hh).1
theorem own_reads {w : World} {base n : Nat} {e : TypeId} {k : IntKind} {v : Value} {xs : List Int} (h : w.ownsRow base e 1 v n (nums k xs)) : ∃ A c, v = .slice A n c ∧ ReadsInt w k A n xs := by
  have hl : xs.length = n := by have := h.1; simp [nums] at this; exact this
  rcases Nat.eq_zero_or_pos n with h0 | h0
  · rcases h.2 with ⟨rfl, rfl⟩ | ⟨g, cap, cur, rfl, _⟩
    · exact ⟨none, 0, rfl, hl, by omega, fun hp => absurd hp (by omega)⟩
    · exact ⟨_, cap, rfl, hl, by omega, fun hp => absurd hp (by omega)⟩
  · obtain ⟨g, cap, rfl, _, _⟩ := h.form h0
    have hm : n ≤ 9223372036854775807 := by
      rcases h.2 with ⟨_, h1⟩ | ⟨g', cap', cur, he, _, _, h1, h2, _⟩
      · omega
      · simp only [maxLen] at h2
        omega
    refine ⟨_, cap, rfl, hl, hm, fun _ => ⟨_, rfl, fun j hj => h.cells (g := g) rfl j _ ?_⟩⟩
    simp [nums, List.getElem?_eq_getElem (show j < xs.length by omega), List.getD_eq_getElem?_getD]
/-! ### 5. append(v, x): behind 'at_builtin'; the goal's world is 'W.alloc' of the variadic's box -/
section
variable {P : Program} {ops : Array Oper} {rest : List Oper} {o : Oper} {a : Act} {Q : Exit → Act → World → Prop}
end
/-! ### 6. make([]T, n), n an Int; a literal -/
section
variable {P : Program}
end
/-! ### 7. v[i] read and v[i] = x, v a row of the call's own: 'obtain ⟨g, cap, rfl, hgb, hgl⟩ := HO.out.form (by omega)' first -/
/-! ### 8. append(v, ys...): ys a slice that is read, nil let in; behind 'at_builtin' -/
section
variable {P : Program} {ops : Array Oper} {rest : List Oper} {o : Oper} {a : Act} {Q : Exit → Act → World → Prop}
end
/-! ### 9. []byte(s): a slice that is read (its row bears a conversion's mark: no row of one's own); cuts of a slice that is read -/
def bytesOf (s : ByteArray) : List Int := s.data.toList.map fun b => (b.toNat : Int)
theorem data_length (s : ByteArray) : s.data.toList.length = s.size := by rw [Array.length_toList]; rfl
theorem bytesOf_length (s : ByteArray) : (bytesOf s).length = s.size := by rw [bytesOf, List.length_map, data_length]
theorem rd_bytesOf (s : ByteArray) (i : Int) : rd (bytesOf s) i = bt s i := by
  unfold rd bt bytesOf
  split
  · rename_i h
    have h' : i.toNat < s.data.toList.length := by rw [data_length]; exact h
    simp [List.getD_eq_getElem?_getD, List.getElem?_eq_getElem h']
    rfl
  · rename_i h
    have h' : s.data.toList.length ≤ i.toNat := by rw [data_length]; omega
    simp [List.getD_eq_getElem?_getD, List.getElem?_eq_none h']
/-- Laid ahead: 'have kb := fun W => print_bytes (P := A.prog) SRC DST E A.underlyingSRC A.underlyingDST A.underlyingE s W'. -/
theorem print_bytes {P : Program} (src dst e : TypeId) {u : TypeDesc} (hs : P.underlying src = some u) (hd : P.underlying dst = some (.slice e)) (he : P.underlying e = some (.int .u8)) (s : ByteArray) (W : World) :
    (convert src dst (.string s)).run P W = .ok (.slice (some ⟨W.heap.size, 0, none⟩) s.size (grownCap W s.size 0 e)) (Lib.bytesWorld W e s) := Lib.run_convert_string_bytes W src dst e s hs hd he
theorem bytes_reads (W : World) (e : TypeId) (s : ByteArray) (hs : s.size ≤ 9223372036854775807) : ReadsInt (Lib.bytesWorld W e s) .u8 (some ⟨W.heap.size, 0, none⟩) s.size (bytesOf s) := by
  refine ⟨bytesOf_length s, hs, fun _ => ⟨_, rfl, fun j hj => ?_⟩⟩
  rw [add_plain, Lib.bytesWorld_cell W e s j hj]
  have h' : j < s.data.toList.length := by rw [data_length]; exact hj
  simp [bytesOf, List.getD_eq_getElem?_getD, List.getElem?_eq_getElem h']
theorem bytes_below {B : Nat} {w W : World} (h : Below B w W) (hB : B ≤ W.heap.size) (e : TypeId) (s : ByteArray) : Below B w (Lib.bytesWorld W e s) :=
  h.trans ⟨rfl, rfl, rfl, by rw [Lib.bytesWorld_size]; omega, fun i hi => Lib.bytesWorld_at_old W e s i (by omega)⟩
/-! ### 10. Rounds: more rounds give the same answer; what ends gives a number of rounds -/
/-- Where the first answers, the second answers the same. -/
def LeO {α : Type} (a b : Option α) : Prop := ∀ r, a = some r → b = some r
theorem LeO.refl {α : Type} (a : Option α) : LeO a a := fun _ h => h
theorem LeO.trans {α : Type} {a b c : Option α} (h : LeO a b) (k : LeO b c) : LeO a c := fun r hr => k r (h r hr)
theorem LeO.ite {α : Type} {c : Prop} [Decidable c] {a a' b b' : Option α} (h : LeO a a') (k : LeO b b') : LeO (if c then a else b) (if c then a' else b') := by
  split
  · exact h
  · exact k
theorem LeO.bind {α β : Type} {a a' : Option α} {f f' : α → Option β} (h : LeO a a') (k : ∀ x, LeO (f x) (f' x)) : LeO (a.bind f) (a'.bind f') := by
  intro r hr
  obtain ⟨x, hx, hf⟩ := Option.bind_eq_some_iff.1 hr
  exact Option.bind_eq_some_iff.2 ⟨x, h x hx, k x r hf⟩
theorem more_rounds {α : Type} {g : Nat → Option α} (h : ∀ k, LeO (g k) (g (k + 1))) (k : Nat) : ∀ j, LeO (g k) (g (k + j))
  | 0 => LeO.refl _
  | j + 1 => (more_rounds h k j).trans (h (k + j))
/-! ### 11. Rows of elements of several cells (structs): read, made. R: what an element's cells say ('RepItem w': printed for each type) -/
def Reps {α : Type} (R : α → List Value → Prop) (size : Nat) (ps : List α) (cs : List Value) : Prop :=
  cs.length = ps.length * size ∧ ∀ j p, ps[j]? = some p → R p ((cs.drop (j * size)).take size)
theorem Reps.none {α : Type} (R : α → List Value → Prop) (size : Nat) : Reps R size [] [] := ⟨by simp, fun j p h => by simp at h⟩
theorem Reps.snoc {α : Type} {R : α → List Value → Prop} {size : Nat} {ps : List α} {cs c : List Value} {p : α} (h : Reps R size ps cs) (hp : R p c) (hc : c.length = size) : Reps R size (ps ++ [p]) (cs ++ c) := by
  refine ⟨by rw [List.length_append, h.1, hc, List.length_append, List.length_singleton, Nat.add_mul, Nat.one_mul], fun j q hq => ?_⟩
  rcases Nat.lt_or_ge j ps.length with hj | hj
  · rw [List.getElem?_append_left hj] at hq
    have h1 : j * size + size ≤ cs.length := by rw [h.1, ← Nat.succ_mul]; exact Nat.mul_le_mul_right _ hj
    have h2 := h.2 j q hq
    rw [List.drop_append_of_le_length (by omega), List.take_append_of_le_length (by rw [List.length_drop]; omega)]
    exact h2
  · have hj' : j = ps.length := by
      have := (List.getElem?_eq_some_iff.1 hq).1
      rw [List.length_append, List.length_singleton] at this
      omega
    subst hj'
    have hq' : p = q := by simpa using hq
    subst hq'
    rw [← h.1, List.drop_left, ← hc, List.take_length]
    exact hp
theorem Reps.imp_ {α : Type} {R R' : α → List Value → Prop} {size : Nat} {ps : List α} {cs : List Value} (h : Reps R size ps cs) (hR : ∀ p c, R p c → R' p c) : Reps R' size ps cs := ⟨h.1, fun j p hj => hR _ _ (h.2 j p hj)⟩
def ReadsRow {α : Type} (R : α → List Value → Prop) (size : Nat) (w : World) (A : Option Addr) (n : Nat) (ps : List α) : Prop :=
  ps.length = n ∧ n ≤ 9223372036854775807 ∧ (0 < n → ∃ ad, A = some ad ∧ ∀ j p, ps[j]? = some p → ∃ c, c.length = size ∧ R p c ∧ ∀ i u, c[i]? = some u → w.cell? (ad.add (j * size + i)) = some u)
theorem ReadsRow.imp_ {α : Type} {R R' : α → List Value → Prop} {size : Nat} {w w1 : World} {A : Option Addr} {n : Nat} {ps : List α} (h : ReadsRow R size w A n ps) (hb : Below w.heap.size w w1) (hR : ∀ p c, R p c → R' p c) : ReadsRow R' size w1 A n ps :=
  ⟨h.1, h.2.1, fun hn => by
    obtain ⟨ad, e, hc⟩ := h.2.2 hn
    refine ⟨ad, e, fun j p hj => ?_⟩
    obtain ⟨c, hs, hr, hcell⟩ := hc j p hj
    exact ⟨c, hs, hR _ _ hr, fun i u hu => pw_cell_below hb (hcell i u hu)⟩⟩
theorem own_reads_row {α : Type} {R : α → List Value → Prop} {w : World} {base n size : Nat} {e : TypeId} {v : Value} {ps : List α} {cs : List Value} (h : w.ownsRow base e size v n cs) (hR : Reps R size ps cs) (hn : ps.length = n) :
    ∃ A c, v = .slice A n c ∧ ReadsRow R size w A n ps := by
  rcases Nat.eq_zero_or_pos n with h0 | h0
  · rcases h.2 with ⟨rfl, rfl⟩ | ⟨g, cap, cur, rfl, _⟩
    · exact ⟨none, 0, rfl, hn, by omega, fun hp => absurd hp (by omega)⟩
    · exact ⟨_, cap, rfl, hn, by omega, fun hp => absurd hp (by omega)⟩
  · obtain ⟨g, cap, rfl, _, _⟩ := h.form h0
    have hm : n ≤ 9223372036854775807 := by
      rcases h.2 with ⟨_, h1⟩ | ⟨g', cap', cur, he, _, _, h1, h2, _⟩
      · omega
      · simp only [maxLen] at h2
        omega
    refine ⟨_, cap, rfl, hn, hm, fun _ => ⟨_, rfl, fun j p hj => ⟨(cs.drop (j * size)).take size, ?_, hR.2 j p hj, fun i u hu => ?_⟩⟩⟩
    · have hjl := (List.getElem?_eq_some_iff.1 hj).1
      have h1 : j * size + size ≤ cs.length := by rw [hR.1, ← Nat.succ_mul]; exact Nat.mul_le_mul_right _ hjl
      rw [List.length_take, List.length_drop]
      omega
    · refine h.cells (g := g) rfl _ u ?_
      rw [List.getElem?_take] at hu
      split at hu
      · rw [List.getElem?_drop] at hu
        exact hu
      · cases hu
section
variable {P : Program} {ops : Array Oper} {rest : List Oper} {o : Oper} {a : Act} {Q : Exit → Act → World → Prop}
/-- append(v, x), x of several cells; behind 'at_builtin'; the goal's world is 'W.alloc' of the variadic's box. -/
theorem print_append_cells {w0 W : World} (base : Nat) (hgd : o.guard = none) (s x : Operand) (t e : TypeId) (z : Value) (size bytes : Nat)
    (ho : o.op = .call { callee := .builtin .append, args := #[s, x], argTypes := #[t, t] })
    (ht : P.underlying t = some (.slice e)) (hinfo : (P.info? e).map (fun i => (i.zero, i.size, i.bytes)) = some (some z, size, bytes)) (hz : z.cells.size = size) (hs0 : 0 < size) (hb0 : 0 < bytes)
    (v : Value) (n : Nat) (xs ys : List Value) (hs : a.eval s = v) (hx : a.eval x = .slice (some ⟨W.heap.size, 0, none⟩) 1 1) (hys : ys.length = size) (h1 : ∀ u ∈ ys, u.oneCell' = true)
    (HO : W.ownsRow base e size v n xs) (HB : Below base w0 W) (hbase : base ≤ W.heap.size) (hl : (n + 1) * bytes ≤ 140737488355328)
    (h : ∀ v1 w1, w1.ownsRow base e size v1 (n + 1) (xs ++ ys) → Below base w0 w1 → W.grownBy w1 v.ownBlock → (v1.ownBlock = v.ownBlock ∨ ∃ b, v1.ownBlock = some b ∧ W.heap.size ≤ b) → wpList P ops Q rest (a.put o.dst v1) w1) :
    wpList P ops Q (o :: rest) a (W.alloc (.cells ys.toArray e)) := by
  obtain ⟨i0, hi, hzz⟩ := Option.map_eq_some_iff.1 hinfo
  simp only [Prod.mk.injEq] at hzz
  obtain ⟨hz0, hz1, hz2⟩ := hzz
  have hlen : n + 1 ≤ 140737488355328 := Nat.le_trans (Nat.le_mul_of_pos_right _ hb0) hl
  refine wpList_append_own_at (W.alloc (.cells ys.toArray e)) hgd s x t ho base e i0 z size bytes ht hi hz0 hz1 hz2 hz hs0 v n xs hs (HO.alloc _) ⟨W.heap.size, 0, none⟩ 1 1 ys hx (by rw [hys]; simp)
    (by simpa using World.news_of_block (cs := ys.toArray) (t := e) (fr := (0, 0)) (heap_alloc_new W (.cells ys.toArray e))) h1 (by simp only [maxLen]; omega) hl (by simp; omega) ?_
  intro v1 w1 hown hg _ hat
  refine h v1 w1 hown ((HB.alloc hbase _).grown hg (by simp; omega) (own_base HO)) (World.grownBy.trans (World.grownBy_alloc W _ _) hg) ?_
  rcases hat with hat | hat
  · exact .inl hat
  · exact .inr ⟨_, hat, by simp⟩
end
/-! ### 12. A block of one's own that is a state: its cells, what a store leaves -/
theorem own_ne {w : World} {base : Nat} {e t : TypeId} {size n g : Nat} {v : Value} {xs : List Value} {cs : Array Value} (h : w.ownsRow base e size v n xs) (hg : w.heap[g]? = some (.cells cs t (0, 0))) (hne : e ≠ t) : some g ≠ v.ownBlock := by
  rcases h.2 with ⟨rfl, _⟩ | ⟨g', cap, cur, rfl, _, hh, _⟩
  · simp [Value.ownBlock]
  · intro he
    have : g = g' := by simpa [Value.ownBlock] using he
    subst this
    rw [hg] at hh
    injection hh with hh
    injection hh with _ ht
    exact hne ht.symm
theorem blk_set {w : World} {g : Nat} {t : TypeId} {cs : Array Value} (h : w.heap[g]? = some (.cells cs t (0, 0))) (i : Nat) (u : Value) : (w.setCell ⟨g, i, none⟩ u).heap[g]? = some (.cells (cs.setIfInBounds i u) t (0, 0)) := by
  simp [World.setCell, Array.getElem?_modify, h]
theorem blk_far {w : World} {g : Nat} {t : TypeId} {cs : Array Value} (h : w.heap[g]? = some (.cells cs t (0, 0))) {p : Addr} (hp : g ≠ p.block) (u : Value) : (w.setCell p u).heap[g]? = some (.cells cs t (0, 0)) := (Below.heap_setCell w p u g hp).trans h
theorem blk_lt {w : World} {g : Nat} {o : Obj} (h : w.heap[g]? = some o) : g < w.heap.size := (Array.getElem?_eq_some_iff.1 h).1
theorem blk_cell {w : World} {g : Nat} {t : TypeId} {cs : Array Value} (h : w.heap[g]? = some (.cells cs t (0, 0))) (i : Nat) : w.cell? ⟨g, i, none⟩ = cs[i]? := cell_of_row w g i cs t (0, 0) h
theorem blk_frozen {w : World} {g : Nat} {t : TypeId} {cs : Array Value} (h : w.heap[g]? = some (.cells cs t (0, 0))) (i : Nat) : w.frozen? ⟨g, i, none⟩ = false := by simp [World.frozen?, h]
theorem blk_grown {w w1 : World} {g : Nat} {o : Obj} {row : Option Nat} (h : w.heap[g]? = some o) (hg : w.grownBy w1 row) (hne : some g ≠ row) : w1.heap[g]? = some o := (hg.block g (blk_lt h) hne).trans h
/-! ### 13. Two states at once: what a call on the state at block g (its row before: 'row') has turned -/
def KeepBut (w w' : World) (g : Nat) (row : Option Nat) : Prop := w.heap.size ≤ w'.heap.size ∧ ∀ i, i < w.heap.size → i ≠ g → some i ≠ row → w'.heap[i]? = w.heap[i]?
theorem KeepBut.refl (w : World) (g : Nat) (row : Option Nat) : KeepBut w w g row := ⟨Nat.le_refl _, fun _ _ _ _ => rfl⟩
theorem KeepBut.of_grown {w w1 : World} {row : Option Nat} (h : w.grownBy w1 row) (g : Nat) : KeepBut w w1 g row := ⟨h.size, fun i hi _ hr => h.block i hi hr⟩
theorem KeepBut.of_below {w w1 : World} (h : Below w.heap.size w w1) (g : Nat) (row : Option Nat) : KeepBut w w1 g row := ⟨h.size, fun i hi _ _ => h.block i hi⟩
theorem KeepBut.set_ {w w1 : World} {g : Nat} {row : Option Nat} (h : KeepBut w w1 g row) (j : Nat) (u : Value) : KeepBut w (w1.setCell ⟨g, j, none⟩ u) g row :=
  ⟨by simpa [World.setCell] using h.1, fun i hi hg hr => (Below.heap_setCell w1 ⟨g, j, none⟩ u i hg).trans (h.2 i hi hg hr)⟩
theorem KeepBut.trans {w w1 w2 : World} {g : Nat} {row row1 : Option Nat} (h : KeepBut w w1 g row) (k : KeepBut w1 w2 g row1) (hr : row1 = row ∨ ∃ b, row1 = some b ∧ w.heap.size ≤ b) : KeepBut w w2 g row :=
  ⟨Nat.le_trans h.1 k.1, fun i hi hg hn => by
    refine (k.2 i (Nat.lt_of_lt_of_le hi h.1) hg ?_).trans (h.2 i hi hg hn)
    rcases hr with rfl | ⟨b, rfl, hb⟩
    · exact hn
    · intro e
      injection e with e
      omega⟩
/-- Another block, another row: they live on. -/
theorem KeepBut.blk {w w1 : World} {g g' : Nat} {row : Option Nat} {o : Obj} (h : KeepBut w w1 g row) (hb : w.heap[g']? = some o) (hg : g' ≠ g) (hr : some g' ≠ row) : w1.heap[g']? = some o := (h.2 g' (blk_lt hb) hg hr).trans hb
/-! ### 10b. From some number of rounds on -/
/-! ### 14. append as_ one step of a region that draws its order: for 'go_region_law' (and a region walked by hand) -/
section
variable {P : Program} {ops : Array Oper} {o : Oper} {a : Act} {Q : Exit → Act → World → Prop} {K : Act → World → Prop}
end
/-! ### 15. A row's base may be lowered -/
theorem own_weaken {w : World} {base base' : Nat} {e : TypeId} {size n : Nat} {v : Value} {xs : List Value} (h : w.ownsRow base e size v n xs) (hb : base' ≤ base) : w.ownsRow base' e size v n xs := by
  obtain ⟨h1, h2⟩ := h
  refine ⟨h1, ?_⟩
  rcases h2 with h2 | ⟨g, cap, cur, rfl, hg, r⟩
  · exact .inl h2
  · exact .inr ⟨g, cap, cur, rfl, Nat.le_trans hb hg, r⟩
/-! ### 16. Parts 3 to 9 for ANY element of one cell: 'enc' (Value.int k, Value.string, Value.bool), a default 'd' -/
section
variable {α : Type} {enc : α → Value} {d : α}
end
section
variable {α : Type} {P : Program} {ops : Array Oper} {rest : List Oper} {o : Oper} {a : Act} {Q : Exit → Act → World → Prop}
end
/-! ### 17. Rows of one element type held at once: no two share a block -/
def NeRow (v v' : Value) : Prop := ∀ k, v.ownBlock = some k → v'.ownBlock ≠ some k
/-- A row that was made since W (by a call from W on: its base is W's size) against a row of W's. -/
theorem ne_below {W w1 : World} {v1 v' : Value} {base n size n1 size1 : Nat} {e e1 : TypeId} {xs xs1 : List Value} (h1 : w1.ownsRow W.heap.size e1 size1 v1 n1 xs1) (ho : W.ownsRow base e size v' n xs) : NeRow v1 v' := by
  intro k hk hk'
  have h2 := own_base h1 k hk
  have h3 := own_lt ho k hk'
  omega
/-! ### 18. A block behind a new one; behind a draw -/
theorem blk_below {w w1 : World} {g : Nat} {o : Obj} (h : w.heap[g]? = some o) (hb : Below w.heap.size w w1) : w1.heap[g]? = some o := (hb.block g (blk_lt h)).trans h
theorem blk_new (w : World) (o : Obj) : (w.alloc o).heap[w.heap.size]? = some o := heap_alloc_new w o
/-! ### 19. Results that lie in memory beside others -/
section
variable {P : Program}
theorem results_ct {fn : Func} {p u : Tmp} {ty : TypeId} (h : fn.results = #[.cell p ty, .tmp u]) (tmps : Array Value) (w : World) (g : Nat) (t : TypeId) (cs : Array Value) (fr : Nat × Nat) (d : TypeDesc)
    (hp : tmps.getD p undef = .pointer (some ⟨g, 0, none⟩)) (hg : w.heap[g]? = some (.cells cs t fr))
    (hu : P.underlying ty = some d) (hd : (match d with | .struct _ | .array _ _ => true | _ => false) = true) (hi : (P.info? ty).map (·.size) = some cs.size) :
    (results fn tmps).run P w = .ok (.tuple #[.agg cs, tmps.getD u undef]) w := by
  have hp' : tmps[p]?.getD undef = .pointer (some ⟨g, 0, none⟩) := by simpa using hp
  simp [results, h, hp', asAddr, run_loadVar_row w g t ty cs fr d hg hu hd hi]
end
/-! ### 20. Rows of elements of any kind: R is what an element's cells say -/
theorem own_le {w : World} {base n m c size : Nat} {e : TypeId} {A : Option Addr} {xs : List Value} (h : w.ownsRow base e size (.slice A m c) n xs) : m ≤ c := by
  rcases h.2 with ⟨he, _⟩ | ⟨g, cap, cur, he, _, _, hnc, _⟩
  · injection he with _ h2 h3
    omega
  · injection he with _ h2 h3
    omega
def OwnRow {α : Type} (R : α → List Value → Prop) (e : TypeId) (size : Nat) (w : World) (base : Nat) (v : Value) (ps : List α) : Prop :=
  ∃ inner, w.ownsRow base e size v ps.length inner ∧ Reps R size ps inner
section
variable {α : Type} {R R' : α → List Value → Prop} {e : TypeId} {size : Nat} {w w1 : World} {base : Nat} {v : Value} {ps : List α}
theorem OwnRow.none_ (R : α → List Value → Prop) (e : TypeId) (size : Nat) (w : World) (base : Nat) : OwnRow R e size w base (.slice none 0 0) [] := ⟨[], own_nil _ _ _ _, Reps.none _ _⟩
theorem OwnRow.imp_ (h : OwnRow R e size w base v ps) (hR : ∀ p c, R p c → R' p c) : OwnRow R' e size w base v ps := by
  obtain ⟨inner, ho, hr⟩ := h
  exact ⟨inner, ho, hr.imp_ hR⟩
theorem OwnRow.reads (h : OwnRow R e size w base v ps) : ∃ A c, v = .slice A ps.length c ∧ ps.length ≤ c ∧ ReadsRow R size w A ps.length ps := by
  obtain ⟨inner, ho, hr⟩ := h
  obtain ⟨A, c, rfl, hrow⟩ := own_reads_row ho hr rfl
  exact ⟨A, c, rfl, own_le ho, hrow⟩
theorem OwnRow.ne_block (h : OwnRow R e size w base v ps) {g : Nat} {t : TypeId} {cells : Array Value} (hb : w.heap[g]? = some (.cells cells t (0, 0))) (ht : e ≠ t) : some g ≠ v.ownBlock := by
  obtain ⟨inner, ho, hr⟩ := h
  exact own_ne ho hb ht
end
section
variable {P : Program} {ops : Array Oper} {rest : List Oper} {o : Oper} {a : Act} {Q : Exit → Act → World → Prop} {α : Type} {R : α → List Value → Prop}
end
section
variable {P : Program} {ops : Array Oper} {o : Oper} {a : Act} {Q : Exit → Act → World → Prop} {K : Act → World → Prop} {α : Type} {R : α → List Value → Prop}
end
/-! ### 21. Cuts of a slice that came in, lengths spelled as_ the lists' -/
section
variable {α : Type} {P : Program}
end
/-! ### 22. append([]byte, s...), s a string; behind 'at_builtin'. (No word on where the new row lies: two rows of bytes at once don't go by it.) -/
section
variable {P : Program} {ops : Array Oper} {rest : List Oper} {o : Oper} {a : Act} {Q : Exit → Act → World → Prop}
end
/-! ### 23. KINDS: what a value's cells say, read (K) and made (M), kind by kind; every mover proved once -/
/-- ok: which blocks the rows inside may be ('not the row that is being written'). -/
structure Kd (α : Type) where
  sz : Nat
  E : List Nat
  K : World → α → List Value → Prop
  M : World → Nat → (Nat → Prop) → α → List Value → Prop
  K_len : ∀ {w x cs}, K w x cs → cs.length = sz
  K_one : ∀ {w x cs}, K w x cs → ∀ u ∈ cs, u.oneCell' = true
  K_below : ∀ {w w1 : World} {x cs}, Below w.heap.size w w1 → K w x cs → K w1 x cs
  K_of_M : ∀ {w base ok x cs}, M w base ok x cs → K w x cs
  M_mono : ∀ {w base ok ok' x cs}, (∀ k, ok k → ok' k) → M w base ok x cs → M w base ok' x cs
  M_bound : ∀ {w : World} {base ok x cs}, M w base ok x cs → M w base (fun k => ok k ∧ base ≤ k ∧ k < w.heap.size ∧ ∃ q, q ∈ E ∧ ∃ cells, w.heap[k]? = some (.cells cells q (0, 0))) x cs
  M_move : ∀ {w w1 : World} {base ok x cs}, (∀ k, ok k → w1.heap[k]? = w.heap[k]?) → M w base ok x cs → M w1 base ok x cs
  M_lower : ∀ {w base base' ok x cs}, base' ≤ base → M w base ok x cs → M w base' ok x cs
theorem own_move {w w1 : World} {base : Nat} {e : TypeId} {size n : Nat} {v : Value} {xs : List Value} (h : w.ownsRow base e size v n xs) (hm : ∀ k, v.ownBlock = some k → w1.heap[k]? = w.heap[k]?) : w1.ownsRow base e size v n xs := by
  obtain ⟨h1, h2⟩ := h
  refine ⟨h1, ?_⟩
  rcases h2 with h2 | ⟨g, cap, cur, rfl, hg, hh, r⟩
  · exact .inl h2
  · exact .inr ⟨g, cap, cur, rfl, hg, (hm g (by simp [Value.ownBlock])).trans hh, r⟩
theorem own_typed {w : World} {base : Nat} {e : TypeId} {size n : Nat} {v : Value} {xs : List Value} (h : w.ownsRow base e size v n xs) (k : Nat) (hk : v.ownBlock = some k) : ∃ cells, w.heap[k]? = some (.cells cells e (0, 0)) := by
  rcases h.2 with ⟨rfl, _⟩ | ⟨g, cap, cur, rfl, hg, hh, r⟩
  · simp [Value.ownBlock] at hk
  · have : g = k := by simpa [Value.ownBlock] using hk
    subst this
    exact ⟨cur, hh⟩
namespace Kd
/-- A row of elements that is read. -/
def C {α : Type} (d : Kd α) (w : World) (A : Option Addr) (n : Nat) (xs : List α) : Prop := ReadsRow (d.K w) d.sz w A n xs
/-- A row of elements (type e) of the call's own; the elements' rows are not this one. -/
def R {α : Type} (d : Kd α) (e : Nat) (w : World) (base : Nat) (ok : Nat → Prop) (v : Value) (xs : List α) : Prop :=
  (∀ k, v.ownBlock = some k → ok k) ∧ OwnRow (d.M w base (fun k => ok k ∧ some k ≠ v.ownBlock)) e d.sz w base v xs
section
variable {α : Type} {d : Kd α} {e : Nat} {w w1 : World} {base : Nat} {ok ok' : Nat → Prop} {v : Value} {xs : List α}
theorem C_below {A : Option Addr} {n : Nat} (h : d.C w A n xs) (hb : Below w.heap.size w w1) : d.C w1 A n xs := ReadsRow.imp_ h hb (fun _ _ hp => d.K_below hb hp)
theorem R_nil (d : Kd α) (e : Nat) (w : World) (base : Nat) (ok : Nat → Prop) : d.R e w base ok (.slice none 0 0) [] := ⟨fun k hk => by simp [Value.ownBlock] at hk, OwnRow.none_ _ _ _ _ _⟩
theorem R_mono (h : d.R e w base ok v xs) (hok : ∀ k, ok k → ok' k) : d.R e w base ok' v xs := ⟨fun k hk => hok k (h.1 k hk), h.2.imp_ (fun _ _ hp => d.M_mono (fun k hk => ⟨hok k hk.1, hk.2⟩) hp)⟩
theorem R_bound (h : d.R e w base ok v xs) : d.R e w base (fun k => ok k ∧ base ≤ k ∧ k < w.heap.size ∧ ∃ q, q ∈ e :: d.E ∧ ∃ cells, w.heap[k]? = some (.cells cells q (0, 0))) v xs := by
  obtain ⟨h0, inner, ho, hr⟩ := h
  refine ⟨fun k hk => ?_, inner, ho, hr.imp_ (fun _ _ hp => d.M_mono (fun k hk => ?_) (d.M_bound hp))⟩
  · obtain ⟨cells, hc⟩ := own_typed ho k hk
    exact ⟨h0 k hk, own_base ho k hk, own_lt ho k hk, e, List.mem_cons_self, cells, hc⟩
  · obtain ⟨⟨h1, h2⟩, h3, h4, q, hq, hc⟩ := hk
    exact ⟨⟨h1, h3, h4, q, List.mem_cons_of_mem _ hq, hc⟩, h2⟩
theorem R_move (h : d.R e w base ok v xs) (hm : ∀ k, ok k → w1.heap[k]? = w.heap[k]?) : d.R e w1 base ok v xs := by
  obtain ⟨h0, inner, ho, hr⟩ := h
  exact ⟨h0, inner, own_move ho (fun k hk => hm k (h0 k hk)), hr.imp_ (fun _ _ hp => d.M_move (fun k hk => hm k hk.1) hp)⟩
theorem R_lower {base' : Nat} (h : d.R e w base ok v xs) (hb : base' ≤ base) : d.R e w base' ok v xs := by
  obtain ⟨h0, inner, ho, hr⟩ := h
  exact ⟨h0, inner, own_weaken ho hb, hr.imp_ (fun _ _ hp => d.M_lower hb hp)⟩
/-- Any mover: what is ok, and a block of w's, stays. -/
theorem R_step (h : d.R e w base ok v xs) (hm : ∀ k, ok k → k < w.heap.size → w1.heap[k]? = w.heap[k]?) : d.R e w1 base ok v xs :=
  R_mono (R_move (R_bound h) (fun k hk => hm k hk.1 hk.2.2.1)) (fun _ hk => hk.1)
theorem R_below (h : d.R e w base ok v xs) (hb : Below w.heap.size w w1) : d.R e w1 base ok v xs := R_step h (fun k _ hk => hb.block k hk)
/-- A store into another block. -/
theorem R_far (h : d.R e w base ok v xs) {p : Addr} (hok : ∀ k, ok k → k ≠ p.block) (u : Value) : d.R e (w.setCell p u) base ok v xs := R_step h (fun k ho _ => Below.heap_setCell w p u k (hok k ho))
theorem R_keep (h : d.R e w base ok v xs) {g : Nat} (hk : KeepBut w w1 g none) (hok : ∀ k, ok k → k ≠ g) : d.R e w1 base ok v xs := R_step h (fun k ho hlt => hk.2 k hlt (hok k ho) (by simp))
/-- By types alone: the rows inside are none of a block of type t. -/
theorem R_types (h : d.R e w base ok v xs) {g t : Nat} {cells : Array Value} (hb : w.heap[g]? = some (.cells cells t (0, 0))) (ht : ∀ q, q ∈ e :: d.E → q ≠ t) : d.R e w base (fun k => ok k ∧ k ≠ g) v xs :=
  R_mono (R_bound h) (fun k hk => ⟨hk.1, by
    obtain ⟨_, _, _, q, hq, cells', hc⟩ := hk
    rintro rfl
    rw [hc] at hb
    injection hb with hb
    injection hb with _ hb
    exact ht q hq hb⟩)
theorem R_reads (h : d.R e w base ok v xs) : ∃ A c, v = .slice A xs.length c ∧ xs.length ≤ c ∧ d.C w A xs.length xs := by
  obtain ⟨A, c, he, hl, hr⟩ := OwnRow.reads h.2
  exact ⟨A, c, he, hl, hr.imp_ (Below.refl _ _) (fun _ _ hp => d.K_of_M hp)⟩
theorem R_slice (h : d.R e w base ok v xs) : ∃ A c, v = .slice A xs.length c := by
  obtain ⟨A, c, he, _⟩ := R_reads h
  exact ⟨A, c, he⟩
theorem R_own (h : d.R e w base ok v xs) : ∃ inner, w.ownsRow base e d.sz v xs.length inner := by
  obtain ⟨_, inner, ho, _⟩ := h
  exact ⟨inner, ho⟩
theorem R_ne (h : d.R e w base ok v xs) {g t : Nat} {cells : Array Value} (hb : w.heap[g]? = some (.cells cells t (0, 0))) (ht : e ≠ t) : some g ≠ v.ownBlock := OwnRow.ne_block h.2 hb ht
end
/-! #### the kinds -/
def scalar {α : Type} (enc : α → Value) (h1 : ∀ x, (enc x).oneCell' = true) : Kd α where
  sz := 1
  E := []
  K := fun _ x cs => cs = [enc x]
  M := fun _ _ _ x cs => cs = [enc x]
  K_len := fun h => by rw [h]; rfl
  K_one := fun h u hu => by
    rw [h] at hu
    rw [List.mem_singleton.1 hu]
    exact h1 _
  K_below := fun _ h => h
  K_of_M := fun h => h
  M_mono := fun _ h => h
  M_bound := fun h => h
  M_move := fun _ h => h
  M_lower := fun _ h => h
def int (k : IntKind) : Kd Int := scalar (Value.int k) (fun _ => rfl)
def slice {α : Type} (e : Nat) (d : Kd α) : Kd (List α) where
  sz := 1
  E := e :: d.E
  K := fun w xs cs => ∃ A c, cs = [.slice A xs.length c] ∧ xs.length ≤ c ∧ d.C w A xs.length xs
  M := fun w base ok xs cs => ∃ v, cs = [v] ∧ d.R e w base ok v xs
  K_len := by
    rintro w x cs ⟨A, c, rfl, _⟩
    rfl
  K_one := by
    rintro w x cs ⟨A, c, rfl, _⟩ u hu
    rw [List.mem_singleton.1 hu]
    rfl
  K_below := by
    rintro w w1 x cs hb ⟨A, c, rfl, hl, hr⟩
    exact ⟨A, c, rfl, hl, C_below hr hb⟩
  K_of_M := by
    rintro w base ok x cs ⟨v, rfl, h⟩
    obtain ⟨A, c, rfl, hl, hr⟩ := R_reads h
    exact ⟨A, c, rfl, hl, hr⟩
  M_mono := by
    rintro w base ok ok' x cs hok ⟨v, rfl, h⟩
    exact ⟨v, rfl, R_mono h hok⟩
  M_bound := by
    rintro w base ok x cs ⟨v, rfl, h⟩
    exact ⟨v, rfl, R_bound h⟩
  M_move := by
    rintro w w1 base ok x cs hm ⟨v, rfl, h⟩
    exact ⟨v, rfl, R_move h hm⟩
  M_lower := by
    rintro w base base' ok x cs hb ⟨v, rfl, h⟩
    exact ⟨v, rfl, R_lower h hb⟩
/-- Two in line. -/
def pair {α β : Type} (a : Kd α) (b : Kd β) : Kd (α × β) where
  sz := a.sz + b.sz
  E := a.E ++ b.E
  K := fun w x cs => ∃ c0 c1, cs = c0 ++ c1 ∧ a.K w x.1 c0 ∧ b.K w x.2 c1
  M := fun w base ok x cs => ∃ c0 c1, cs = c0 ++ c1 ∧ a.M w base ok x.1 c0 ∧ b.M w base ok x.2 c1
  K_len := by
    rintro w x cs ⟨c0, c1, rfl, h0, h1⟩
    rw [List.length_append, a.K_len h0, b.K_len h1]
  K_one := by
    rintro w x cs ⟨c0, c1, rfl, h0, h1⟩ u hu
    rcases List.mem_append.1 hu with hu | hu
    · exact a.K_one h0 u hu
    · exact b.K_one h1 u hu
  K_below := by
    rintro w w1 x cs hb ⟨c0, c1, rfl, h0, h1⟩
    exact ⟨c0, c1, rfl, a.K_below hb h0, b.K_below hb h1⟩
  K_of_M := by
    rintro w base ok x cs ⟨c0, c1, rfl, h0, h1⟩
    exact ⟨c0, c1, rfl, a.K_of_M h0, b.K_of_M h1⟩
  M_mono := by
    rintro w base ok ok' x cs hok ⟨c0, c1, rfl, h0, h1⟩
    exact ⟨c0, c1, rfl, a.M_mono hok h0, b.M_mono hok h1⟩
  M_bound := by
    rintro w base ok x cs ⟨c0, c1, rfl, h0, h1⟩
    refine ⟨c0, c1, rfl, a.M_mono ?_ (a.M_bound h0), b.M_mono ?_ (b.M_bound h1)⟩
    · rintro k ⟨h2, h3, h4, q, hq, hc⟩
      exact ⟨h2, h3, h4, q, List.mem_append_left _ hq, hc⟩
    · rintro k ⟨h2, h3, h4, q, hq, hc⟩
      exact ⟨h2, h3, h4, q, List.mem_append_right _ hq, hc⟩
  M_move := by
    rintro w w1 base ok x cs hm ⟨c0, c1, rfl, h0, h1⟩
    exact ⟨c0, c1, rfl, a.M_move hm h0, b.M_move hm h1⟩
  M_lower := by
    rintro w base base' ok x cs hb ⟨c0, c1, rfl, h0, h1⟩
    exact ⟨c0, c1, rfl, a.M_lower hb h0, b.M_lower hb h1⟩
/-- A Lean structure by its fields. -/
def iso {α β : Type} (d : Kd α) (f : β → α) : Kd β where
  sz := d.sz
  E := d.E
  K := fun w x cs => d.K w (f x) cs
  M := fun w base ok x cs => d.M w base ok (f x) cs
  K_len := d.K_len
  K_one := d.K_one
  K_below := d.K_below
  K_of_M := d.K_of_M
  M_mono := d.M_mono
  M_bound := d.M_bound
  M_move := d.M_move
  M_lower := d.M_lower
/-- Nothing is of this kind: where the nesting's depth is used up. -/
def bot {α : Type} (sz : Nat) (E : List Nat) : Kd α where
  sz := sz
  E := E
  K := fun _ _ _ => False
  M := fun _ _ _ _ _ => False
  K_len := fun h => h.elim
  K_one := fun h => h.elim
  K_below := fun _ h => h
  K_of_M := fun h => h
  M_mono := fun _ h => h
  M_bound := fun h => h
  M_move := fun _ h => h
  M_lower := fun _ h => h
/-- A type nested in itself: nested at most n deep .. -/
def upto {α : Type} (F : Kd α → Kd α) (sz : Nat) (E : List Nat) : Nat → Kd α
  | 0 => bot sz E
  | n + 1 => F (upto F sz E n)
/-- .. for some n. -/
def fix {α : Type} (F : Kd α → Kd α) (sz : Nat) (E : List Nat) (hs : ∀ n, (upto F sz E n).sz = sz) (hE : ∀ n q, q ∈ (upto F sz E n).E → q ∈ E) : Kd α where
  sz := sz
  E := E
  K := fun w x cs => ∃ n, (upto F sz E n).K w x cs
  M := fun w base ok x cs => ∃ n, (upto F sz E n).M w base ok x cs
  K_len := by
    rintro w x cs ⟨n, h⟩
    rw [(upto F sz E n).K_len h, hs n]
  K_one := by
    rintro w x cs ⟨n, h⟩
    exact (upto F sz E n).K_one h
  K_below := by
    rintro w w1 x cs hb ⟨n, h⟩
    exact ⟨n, (upto F sz E n).K_below hb h⟩
  K_of_M := by
    rintro w base ok x cs ⟨n, h⟩
    exact ⟨n, (upto F sz E n).K_of_M h⟩
  M_mono := by
    rintro w base ok ok' x cs hok ⟨n, h⟩
    exact ⟨n, (upto F sz E n).M_mono hok h⟩
  M_bound := by
    rintro w base ok x cs ⟨n, h⟩
    refine ⟨n, (upto F sz E n).M_mono ?_ ((upto F sz E n).M_bound h)⟩
    rintro k ⟨h2, h3, h4, q, hq, hc⟩
    exact ⟨h2, h3, h4, q, hE n q hq, hc⟩
  M_move := by
    rintro w w1 base ok x cs hm ⟨n, h⟩
    exact ⟨n, (upto F sz E n).M_move hm h⟩
  M_lower := by
    rintro w base base' ok x cs hb ⟨n, h⟩
    exact ⟨n, (upto F sz E n).M_lower hb h⟩
/-! #### an element of a row that is read; an element appended -/
/-- What an append leaves: the old elements' rows and the new one's are not the new row's block. -/
theorem R_appended {α : Type} {d : Kd α} {e base : Nat} {ok okp : Nat → Prop} {W w1 : World} {v v1 : Value} {xs : List α} {p : α} {inner cs : List Value} (h0 : ∀ k, v.ownBlock = some k → ok k) (hr : Reps (d.M W base (fun k => ok k ∧ some k ≠ v.ownBlock)) d.sz xs inner) (hp : d.M W base okp p cs) (hokp : ∀ k, okp k → ok k ∧ some k ≠ v.ownBlock) (hfresh : ∀ k, W.heap.size ≤ k → ok k)
    (hown : w1.ownsRow base e d.sz v1 (xs.length + 1) (inner ++ cs)) (hg : W.grownBy w1 v.ownBlock) (hat : v1.ownBlock = v.ownBlock ∨ ∃ b, v1.ownBlock = some b ∧ W.heap.size ≤ b) : d.R e w1 base ok v1 (xs ++ [p]) := by
  have hne : ∀ k, some k ≠ v.ownBlock → k < W.heap.size → some k ≠ v1.ownBlock := by
    intro k hk hlt
    rcases hat with hat | ⟨b, hb, hle⟩
    · rw [hat]; exact hk
    · rw [hb]
      intro he
      injection he with he
      omega
  have step : ∀ {q : α} {c : List Value} {o : Nat → Prop}, d.M W base o q c → (∀ k, o k → ok k ∧ some k ≠ v.ownBlock) → d.M w1 base (fun k => ok k ∧ some k ≠ v1.ownBlock) q c := by
    intro q c o hq ho
    have h1 := d.M_move (w1 := w1) (fun k hk => hg.block k hk.2.2.1 (ho k hk.1).2) (d.M_bound hq)
    exact d.M_mono (fun k hk => ⟨(ho k hk.1).1, hne k (ho k hk.1).2 hk.2.2.1⟩) h1
  refine ⟨fun k hk => ?_, inner ++ cs, by rw [List.length_append, List.length_singleton]; exact hown, ?_⟩
  · rcases hat with hat | ⟨b, hb, hle⟩
    · exact h0 k (hat ▸ hk)
    · rw [hb] at hk
      injection hk with hk
      exact hfresh k (by omega)
  · exact (hr.imp_ (fun _ _ hq => step hq (fun _ hk => hk))).snoc (step hp hokp) (d.K_len (d.K_of_M hp))
section
variable {P : Program} {ops : Array Oper} {rest : List Oper} {o : Oper} {a : Act} {Q : Exit → Act → World → Prop} {α : Type}
/-- append(v, x), behind 'at_builtin'; the goal's world is 'W.alloc' of the variadic's box; x's cells are cs, made (its rows satisfy okp). hfresh: a block that is new at W is ok. -/
theorem R_append (d : Kd α) {w0 W : World} (base : Nat) (hgd : o.guard = none) (s x : Operand) (t e : TypeId) (z : Value) (bytes : Nat)
    (ho : o.op = .call { callee := .builtin .append, args := #[s, x], argTypes := #[t, t] })
    (ht : P.underlying t = some (.slice e)) (hinfo : (P.info? e).map (fun i => (i.zero, i.size, i.bytes)) = some (some z, d.sz, bytes)) (hz : z.cells.size = d.sz) (hs0 : 0 < d.sz) (hb0 : 0 < bytes)
    (v : Value) (xs : List α) (p : α) (cs : List Value) (ok okp : Nat → Prop) (hs : a.eval s = v) (hx : a.eval x = .slice (some ⟨W.heap.size, 0, none⟩) 1 1) (hp : d.M W base okp p cs) (hokp : ∀ k, okp k → ok k ∧ some k ≠ v.ownBlock) (hfresh : ∀ k, W.heap.size ≤ k → ok k)
    (HO : d.R e W base ok v xs) (HB : Below base w0 W) (hbase : base ≤ W.heap.size) (hl : (xs.length + 1) * bytes ≤ 140737488355328)
    (h : ∀ v1 w1, d.R e w1 base ok v1 (xs ++ [p]) → Below base w0 w1 → W.grownBy w1 v.ownBlock → (v1.ownBlock = v.ownBlock ∨ ∃ b, v1.ownBlock = some b ∧ W.heap.size ≤ b) → wpList P ops Q rest (a.put o.dst v1) w1) :
    wpList P ops Q (o :: rest) a (W.alloc (.cells cs.toArray e)) := by
  obtain ⟨h0, inner, hown, hr⟩ := HO
  refine print_append_cells base hgd s x t e z d.sz bytes ho ht hinfo hz hs0 hb0 v xs.length inner cs hs hx (d.K_len (d.K_of_M hp)) (d.K_one (d.K_of_M hp)) hown HB hbase hl ?_
  intro v1 w1 hown1 hb1 hg1 hat1
  exact h v1 w1 (R_appended h0 hr hp hokp hfresh hown1 hg1 hat1) hb1 hg1 hat1
end
section
variable {P : Program} {ops : Array Oper} {o : Oper} {a : Act} {Q : Exit → Act → World → Prop} {Kc : Act → World → Prop} {α : Type}
end
end Kd
/-! ### 24. Kinds nested in themselves -/
namespace Kd
/-- F says the more, the more its argument says. -/
structure Mono {α β : Type} (F : Kd α → Kd β) : Prop where
  sz : ∀ d d' : Kd α, d.sz = d'.sz → (F d).sz = (F d').sz
  K : ∀ d d' : Kd α, d.sz = d'.sz → (∀ w x cs, d.K w x cs → d'.K w x cs) → ∀ w x cs, (F d).K w x cs → (F d').K w x cs
  M : ∀ d d' : Kd α, d.sz = d'.sz → (∀ w base ok x cs, d.M w base ok x cs → d'.M w base ok x cs) → ∀ w base ok x cs, (F d).M w base ok x cs → (F d').M w base ok x cs
theorem mono_const {α β : Type} (k : Kd β) : Mono (fun _ : Kd α => k) := ⟨fun _ _ _ => rfl, fun _ _ _ _ _ _ _ h => h, fun _ _ _ _ _ _ _ _ _ h => h⟩
theorem mono_id {α : Type} : Mono (fun d : Kd α => d) := ⟨fun _ _ h => h, fun _ _ _ h => h, fun _ _ _ h => h⟩
theorem C_imp {α : Type} {d d' : Kd α} (hs : d.sz = d'.sz) (h : ∀ w x cs, d.K w x cs → d'.K w x cs) {w : World} {A : Option Addr} {n : Nat} {xs : List α} (hc : d.C w A n xs) : d'.C w A n xs := by
  unfold C at hc ⊢
  rw [← hs]
  exact hc.imp_ (Below.refl _ _) (fun _ _ hp => h _ _ _ hp)
theorem R_imp {α : Type} {d d' : Kd α} (hs : d.sz = d'.sz) (h : ∀ w base ok x cs, d.M w base ok x cs → d'.M w base ok x cs) {e : Nat} {w : World} {base : Nat} {ok : Nat → Prop} {v : Value} {xs : List α} (hr : d.R e w base ok v xs) : d'.R e w base ok v xs := by
  unfold R at hr ⊢
  rw [← hs]
  exact ⟨hr.1, hr.2.imp_ (fun _ _ hp => h _ _ _ _ _ hp)⟩
theorem mono_slice {α β : Type} (e : Nat) {G : Kd α → Kd β} (hG : Mono G) : Mono (fun d => slice e (G d)) := by
  refine ⟨fun _ _ _ => rfl, ?_, ?_⟩
  · rintro d d' hs h w x cs ⟨A, c, rfl, hl, hr⟩
    exact ⟨A, c, rfl, hl, C_imp (hG.sz d d' hs) (hG.K d d' hs h) hr⟩
  · rintro d d' hs h w base ok x cs ⟨v, rfl, hr⟩
    exact ⟨v, rfl, R_imp (hG.sz d d' hs) (hG.M d d' hs h) hr⟩
theorem mono_pair {α β γ : Type} {G : Kd α → Kd β} {H : Kd α → Kd γ} (hG : Mono G) (hH : Mono H) : Mono (fun d => pair (G d) (H d)) := by
  refine ⟨fun d d' hs => ?_, ?_, ?_⟩
  · show (G d).sz + (H d).sz = (G d').sz + (H d').sz
    rw [hG.sz d d' hs, hH.sz d d' hs]
  · rintro d d' hs h w x cs ⟨c0, c1, rfl, h0, h1⟩
    exact ⟨c0, c1, rfl, hG.K d d' hs h _ _ _ h0, hH.K d d' hs h _ _ _ h1⟩
  · rintro d d' hs h w base ok x cs ⟨c0, c1, rfl, h0, h1⟩
    exact ⟨c0, c1, rfl, hG.M d d' hs h _ _ _ _ _ h0, hH.M d d' hs h _ _ _ _ _ h1⟩
theorem mono_iso {α β γ : Type} {G : Kd α → Kd β} (f : γ → β) (hG : Mono G) : Mono (fun d => iso (G d) f) :=
  ⟨hG.sz, fun d d' hs h w x cs => hG.K d d' hs h w (f x) cs, fun d d' hs h w base ok x cs => hG.M d d' hs h w base ok (f x) cs⟩
/-- The element types inside stay among E. -/
def Sub {α β : Type} (F : Kd α → Kd β) (E : List Nat) : Prop := ∀ d : Kd α, (∀ q, q ∈ d.E → q ∈ E) → ∀ q, q ∈ (F d).E → q ∈ E
theorem sub_const {α β : Type} {E : List Nat} (k : Kd β) (h : ∀ q, q ∈ k.E → q ∈ E) : Sub (fun _ : Kd α => k) E := fun _ _ => h
theorem sub_id {α : Type} {E : List Nat} : Sub (fun d : Kd α => d) E := fun _ h => h
theorem sub_slice {α β : Type} {E : List Nat} (e : Nat) {G : Kd α → Kd β} (he : e ∈ E) (hG : Sub G E) : Sub (fun d => slice e (G d)) E := fun d h q hq => by
  rcases List.mem_cons.1 hq with rfl | hq
  · exact he
  · exact hG d h q hq
theorem sub_pair {α β γ : Type} {E : List Nat} {G : Kd α → Kd β} {H : Kd α → Kd γ} (hG : Sub G E) (hH : Sub H E) : Sub (fun d => pair (G d) (H d)) E := fun d h q hq => by
  rcases List.mem_append.1 hq with hq | hq
  · exact hG d h q hq
  · exact hH d h q hq
theorem sub_iso {α β γ : Type} {E : List Nat} {G : Kd α → Kd β} (f : γ → β) (hG : Sub G E) : Sub (fun d => iso (G d) f) E := hG
theorem upto_E {α : Type} {F : Kd α → Kd α} {sz : Nat} {E : List Nat} (h : Sub F E) : ∀ n q, q ∈ (upto F sz E n).E → q ∈ E
  | 0, _, hq => hq
  | n + 1, q, hq => h _ (upto_E h n) q hq
theorem upto_sz {α : Type} {F : Kd α → Kd α} {sz : Nat} {E : List Nat} (h : ∀ d : Kd α, (F d).sz = sz) : ∀ n, (upto F sz E n).sz = sz
  | 0 => rfl
  | _ + 1 => h _
section
variable {α : Type} {F : Kd α → Kd α} {sz : Nat} {E : List Nat} {hs : ∀ n, (upto F sz E n).sz = sz} {hE : ∀ n q, q ∈ (upto F sz E n).E → q ∈ E}
theorem upto_K (hm : Mono F) (hs : ∀ n, (upto F sz E n).sz = sz) : ∀ n {w x cs}, (upto F sz E n).K w x cs → (upto F sz E (n + 1)).K w x cs
  | 0, _, _, _, h => h.elim
  | n + 1, _, _, _, h => hm.K _ _ (by rw [hs n, hs (n + 1)]) (fun _ _ _ hk => upto_K hm hs n hk) _ _ _ h
theorem upto_M (hm : Mono F) (hs : ∀ n, (upto F sz E n).sz = sz) : ∀ n {w base ok x cs}, (upto F sz E n).M w base ok x cs → (upto F sz E (n + 1)).M w base ok x cs
  | 0, _, _, _, _, _, h => h.elim
  | n + 1, _, _, _, _, _, h => hm.M _ _ (by rw [hs n, hs (n + 1)]) (fun _ _ _ _ _ hk => upto_M hm hs n hk) _ _ _ _ _ h
theorem upto_K_le (hm : Mono F) (hs : ∀ n, (upto F sz E n).sz = sz) {n m : Nat} (hnm : n ≤ m) {w x cs} (h : (upto F sz E n).K w x cs) : (upto F sz E m).K w x cs := by
  obtain ⟨j, rfl⟩ := Nat.exists_eq_add_of_le hnm
  induction j with
  | zero => exact h
  | succ j ih => exact upto_K hm hs _ (ih (by omega))
theorem upto_M_le (hm : Mono F) (hs : ∀ n, (upto F sz E n).sz = sz) {n m : Nat} (hnm : n ≤ m) {w base ok x cs} (h : (upto F sz E n).M w base ok x cs) : (upto F sz E m).M w base ok x cs := by
  obtain ⟨j, rfl⟩ := Nat.exists_eq_add_of_le hnm
  induction j with
  | zero => exact h
  | succ j ih => exact upto_M hm hs _ (ih (by omega))
theorem bounded {P : Nat → Nat → Prop} (hP : ∀ n m j, n ≤ m → P n j → P m j) : ∀ m, (∀ j, j < m → ∃ n, P n j) → ∃ N, ∀ j, j < m → P N j
  | 0, _ => ⟨0, fun j hj => absurd hj (Nat.not_lt_zero j)⟩
  | m + 1, h => by
    obtain ⟨N, hN⟩ := bounded hP m (fun j hj => h j (by omega))
    obtain ⟨n, hn⟩ := h m (by omega)
    refine ⟨max N n, fun j hj => ?_⟩
    rcases Nat.lt_or_ge j m with hj' | hj'
    · exact hP N _ j (Nat.le_max_left _ _) (hN j hj')
    · have : j = m := by omega
      subst this
      exact hP n _ j (Nat.le_max_right _ _) hn
theorem reps_bounded {α : Type} {R : Nat → α → List Value → Prop} (hR : ∀ n m p c, n ≤ m → R n p c → R m p c) {size : Nat} {ps : List α} {cs : List Value} (h : Reps (fun p c => ∃ n, R n p c) size ps cs) : ∃ N, Reps (R N) size ps cs := by
  obtain ⟨N, hN⟩ := bounded (P := fun n j => ∀ p, ps[j]? = some p → R n p ((cs.drop (j * size)).take size)) (fun n m j hnm hp p hj => hR n m p _ hnm (hp p hj)) ps.length
    (fun j hj => by
      obtain ⟨n, hn⟩ := h.2 j _ (List.getElem?_eq_getElem hj)
      refine ⟨n, fun p hp => ?_⟩
      rw [List.getElem?_eq_getElem hj] at hp
      injection hp with hp
      rw [← hp]
      exact hn)
  exact ⟨N, h.1, fun j p hj => hN j (List.getElem?_eq_some_iff.1 hj).1 p hj⟩
theorem fix_R_back (hm : Mono F) {e : Nat} {w : World} {base : Nat} {ok : Nat → Prop} {v : Value} {xs : List α} (h : (fix F sz E hs hE).R e w base ok v xs) : ∃ n, (upto F sz E n).R e w base ok v xs := by
  obtain ⟨h0, inner, ho, hr⟩ := h
  obtain ⟨N, hN⟩ := reps_bounded (R := fun n p c => (upto F sz E n).M w base (fun k => ok k ∧ some k ≠ v.ownBlock) p c) (fun n m p c hnm hp => upto_M_le hm hs hnm hp) hr
  refine ⟨N, h0, inner, ?_, ?_⟩
  · rw [hs N]; exact ho
  · rw [hs N]; exact hN
theorem upto_R_le (hm : Mono F) (hs : ∀ n, (upto F sz E n).sz = sz) {n m : Nat} (hnm : n ≤ m) {e : Nat} {w : World} {base : Nat} {ok : Nat → Prop} {v : Value} {xs : List α} (h : (upto F sz E n).R e w base ok v xs) : (upto F sz E m).R e w base ok v xs := R_imp (by rw [hs n, hs m]) (fun _ _ _ _ _ hp => upto_M_le hm hs hnm hp) h
end
end Kd
/-! ### 25. What is held while another row is written: 'ok' says that its rows are none of that row's block -/
namespace Kd
/-- Behind an append to v (it left v1): what is held apart from v is held apart from v1. -/
theorem R_after {α : Type} {d : Kd α} {e base : Nat} {ok : Nat → Prop} {W w1 : World} {u v v1 : Value} {xs : List α} (h : d.R e W base (fun k => ok k ∧ some k ≠ v.ownBlock) u xs) (hg : W.grownBy w1 v.ownBlock) (hat : v1.ownBlock = v.ownBlock ∨ ∃ b, v1.ownBlock = some b ∧ W.heap.size ≤ b) : d.R e w1 base (fun k => ok k ∧ some k ≠ v1.ownBlock) u xs := by
  refine R_mono (R_move (R_bound h) (fun k hk => hg.block k hk.2.2.1 hk.1.2)) (fun k hk => ⟨hk.1.1, ?_⟩)
  rcases hat with hat | ⟨b, hb, hle⟩
  · rw [hat]; exact hk.1.2
  · rw [hb]
    intro he
    injection he with he
    have := hk.2.2.1
    omega
end Kd
/-! ### 26. Words for a printer that takes every slice by its kind -/
namespace Kd
section
variable {α β : Type} {d : Kd α} {d' : Kd β} {e e' : Nat} {w w1 W : World} {base b b' : Nat} {ok ok' okv oku : Nat → Prop} {v u : Value} {xs : List α} {ys : List β}
theorem R_lt (h : d.R e w base ok v xs) : ∀ k, v.ownBlock = some k → k < w.heap.size := by
  obtain ⟨inner, ho⟩ := R_own h
  exact own_lt ho
theorem R_base (h : d.R e w base ok v xs) : ∀ k, v.ownBlock = some k → base ≤ k := by
  obtain ⟨inner, ho⟩ := R_own h
  exact own_base ho
/-- The row's own block is no block that isn't ok. -/
theorem R_away (h : d.R e w base ok v xs) {g : Nat} (hok : ∀ k, ok k → k ≠ g) : some g ≠ v.ownBlock := fun e => hok g (h.1 g e.symm) rfl
end
/-! #### scalars -/
section
variable {w W : World} {A : Option Addr} {n : Nat}
variable {α : Type} {enc : α → Value} {h1 : ∀ x, (enc x).oneCell' = true} {e base g cap : Nat} {ok : Nat → Prop} {xs : List α}
end
/-! #### events: a letter for what make and a literal leave -/
section
variable {P : Program} {ops : Array Oper} {rest : List Oper} {o : Oper} {a : Act} {Q : Exit → Act → World → Prop}
theorem event_run {W w1 : World} {v : Value} (hgd : o.guard = none) (hrun : (execOp a.eval o).run P W = .ok (.value v) w1) (h : wpList P ops Q rest (a.put o.dst v) w1) : wpList P ops Q (o :: rest) a W := by
  refine wpList_plain hgd fun K hK => ?_
  unfold Oper.wp
  rw [hrun]
  exact hK _ _ h
variable {α : Type}
end
end Kd
/-! ### 27. Cuts of a row of one's own: 'xs = xs[:n]' stays a row (R_take); 'xs = xs[k:]' is a row that begins inside its block (Kd.Q), append goes on it too -/
section
variable {P : Program}
end
section
variable {w w1 : World} {base n size : Nat} {e : TypeId} {v : Value} {xs : List Value}
end
section
variable {P : Program}
end
/-! ### 28. The kinds' words for cuts: R_take; Q (a row that may begin inside its block) with all of R's movers -/
namespace Kd
section
variable {α : Type} {d : Kd α} {e : Nat} {w w1 W : World} {base : Nat} {ok ok' : Nat → Prop} {v : Value} {xs : List α}
end
section
variable {P : Program} {ops : Array Oper} {rest : List Oper} {o : Oper} {a : Act} {Q' : Exit → Act → World → Prop} {Kc : Act → World → Prop} {α : Type}
end
end Kd
/-! ### 29. Movers that ask of another row no more than they need: for R and for Q -/
namespace Kd
section
variable {α : Type} {d : Kd α} {e e' : Nat} {w w1 W : World} {base : Nat} {ok : Nat → Prop} {u v : Value} {xs : List α}
theorem R_typed (h : d.R e w base ok v xs) : ∀ k, v.ownBlock = some k → ∃ cells, w.heap[k]? = some (.cells cells e (0, 0)) := by
  obtain ⟨inner, ho⟩ := R_own h
  exact fun k hk => own_typed ho k hk
theorem R_over' (h : d.R e W base ok u xs) (hty : ∀ k, v.ownBlock = some k → ∃ cells, W.heap[k]? = some (.cells cells e' (0, 0))) (ht : ∀ q, q ∈ e :: d.E → q ≠ e') (hg : W.grownBy w1 v.ownBlock) : d.R e w1 base ok u xs := by
  refine R_mono (R_move (R_bound h) (fun k hk => hg.block k hk.2.2.1 (fun he => ?_))) (fun _ hk => hk.1)
  obtain ⟨_, _, _, q, hq, cells, hc⟩ := hk
  obtain ⟨cells', hc'⟩ := hty k he.symm
  rw [hc] at hc'
  injection hc' with hc'
  injection hc' with _ hc'
  exact ht q hq hc'
theorem R_apart' (h : d.R e W base ok u xs) (hty : ∀ k, v.ownBlock = some k → ∃ cells, W.heap[k]? = some (.cells cells e' (0, 0))) (ht : ∀ q, q ∈ e :: d.E → q ≠ e') : d.R e W base (fun k => ok k ∧ some k ≠ v.ownBlock) u xs := by
  refine R_mono (R_bound h) (fun k hk => ⟨hk.1, fun he => ?_⟩)
  obtain ⟨_, _, _, q, hq, cells, hc⟩ := hk
  obtain ⟨cells', hc'⟩ := hty k he.symm
  rw [hc] at hc'
  injection hc' with hc'
  injection hc' with _ hc'
  exact ht q hq hc'
theorem R_new' (h : d.R e w1 W.heap.size ok v xs) (hlt : ∀ k, u.ownBlock = some k → k < W.heap.size) : d.R e w1 W.heap.size (fun k => ok k ∧ some k ≠ u.ownBlock) v xs :=
  R_mono (R_bound h) (fun k hk => ⟨hk.1, fun he => by have := hlt k he.symm; have := hk.2.1; omega⟩)
theorem fresh' (hlt : ∀ k, u.ownBlock = some k → k < W.heap.size) : ∀ k, W.heap.size ≤ k → some k ≠ u.ownBlock := fun k hk he => by have := hlt k he.symm; omega
end
end Kd
/-! ### 30. Elements written: x[i] = T{..}, x[i].f = v, swaps, in a row of elements of any kind -/
namespace Kd
section
variable {α : Type} {d : Kd α} {e base g n cap : Nat} {ok okp : Nat → Prop} {W : World} {xs : List α}
end
end Kd
/-! ### 31. What came in, put into what is made: 'fixed d w0' (read in w0, whatever happens since), 'or_ a b', 'mix' (a slice that came in, or one that is made) -/
namespace Kd
section
variable {α : Type} {F : Kd α → Kd α} {sz : Nat} {E : List Nat} {hs : ∀ n, (upto F sz E n).sz = sz} {hE : ∀ n q, q ∈ (upto F sz E n).E → q ∈ E}
end
end Kd
/-! ### 32. A whole row appended, of elements of any kind; copy onto a row of scalars of one's own -/
namespace Kd
section
variable {P : Program} {ops : Array Oper} {rest : List Oper} {o : Oper} {a : Act} {Q : Exit → Act → World → Prop} {α : Type}
end
end Kd
/-! ### 33. A store into a row of one's own, as_ an event: no go_simp -/
namespace Kd
section
variable {P : Program} {ops : Array Oper} {rest : List Oper} {o : Oper} {a : Act} {Q : Exit → Act → World → Prop} {α : Type}
end
end Kd
/-! ### 34. Cuts that are only read, of any row -/
namespace Kd
section
variable {α : Type} {k : Kd α} {w : World} {A : Option Addr} {xs : List α} {m c : Nat}
end
end Kd
section
variable {P : Program}
end
/-! ### 35. string(b), b read (a cut too) -/
theorem string_of_reads {P : Program} {w : World} {src dst e : TypeId} {A : Option Addr} {n c : Nat} {xs : List Int} (hs : P.underlying src = some (.slice e)) (he : P.underlying e = some (.int .u8)) (hd : P.underlying dst = some .string)
    (h : ReadsInt w .u8 A n xs) : (convert src dst (.slice A n c)).run P w = .ok (.string (strOfNums xs)) w := by
  have hn : xs.length = n := h.1
  rcases A with _ | ad
  · have h0 : n = 0 := by
      rcases Nat.eq_zero_or_pos n with h0 | h0
      · exact h0
      · obtain ⟨ad, h', _⟩ := h.2.2 h0
        cases h'
    subst h0
    obtain rfl : xs = [] := List.eq_nil_of_length_eq_zero hn
    exact run_convert_bytes_nil w src e hs he 0 c dst hd
  · have hl : (loadCells ad n).run P w = .ok (xs.map (Value.int .u8)).toArray w := by
      have := run_loadCells_list (P := P) w ad (xs.map (Value.int .u8)) (fun j v hj => by
        have hjl : j < xs.length := by
          rcases Nat.lt_or_ge j xs.length with h' | h'
          · exact h'
          · rw [List.getElem?_eq_none (by rw [List.length_map]; exact h')] at hj
            cases hj
        obtain ⟨ad', he', hc⟩ := h.2.2 (by omega)
        injection he' with he'
        subst he'
        rw [hc j (by omega)]
        rw [List.getElem?_map, List.getElem?_eq_getElem hjl] at hj
        simp at hj
        subst hj
        simp [List.getD_eq_getElem?_getD, List.getElem?_eq_getElem hjl])
      simpa [hn] using this
    rw [run_convert_bytes_string w src dst e _ n c hs he hd, run_bytesToString w ad n c xs hl, foldl_push_bytes]
    simp [strOfNums, ByteArray.empty, ByteArray.emptyWithCapacity]
    rfl
/-! ### 6. What the printer adds -/
theorem below_size {w W : World} (h : Below w.heap.size w W) : w.heap.size ≤ W.heap.size := h.size
theorem below_step {w W w2 : World} (h : Below w.heap.size w W) (k : Below W.heap.size W w2) : Below w.heap.size w w2 := below_then h h.size k
theorem below_set {w W : World} {g j : Nat} {v : Value} (h : Below w.heap.size w W) (hg : w.heap.size ≤ g) : Below w.heap.size w (W.setCell ⟨g, j, none⟩ v) := h.setCell hg _
theorem keep_drewN {w W : World} {g : Nat} {row : Option Nat} (h : KeepBut w W g row) (m : Nat) : KeepBut w (W.drewN m) g row := h
theorem below_weaken {w0 w w1 : World} {B : Nat} (h : Below w0.heap.size w0 w) (hB : w0.heap.size ≤ B) (k : Below B w w1) : Below w0.heap.size w0 w1 :=
  h.trans ⟨k.os, k.tape, k.output, k.size, fun i hi => k.block i (Nat.lt_of_lt_of_le hi hB)⟩
theorem own_base' {w : World} {base : Nat} {e : TypeId} {size n : Nat} {v : Value} {xs : List Value} (h : w.ownsRow base e size v n xs) : v.ownBlock = none ∨ ∃ b, v.ownBlock = some b ∧ base ≤ b := by
  cases hv : v.ownBlock with
  | none => exact .inl rfl
  | some b => exact .inr ⟨b, rfl, own_base h b hv⟩
theorem keep_size {w W : World} {g : Nat} {row : Option Nat} (h : KeepBut w W g row) : w.heap.size ≤ W.heap.size := h.1
theorem blk_put {w : World} {g : Nat} {t : TypeId} {cs cs' : Array Value} (h : w.heap[g]? = some (.cells cs t (0, 0))) (i : Nat) (u : Value) (e : cs.setIfInBounds i u = cs') : (w.setCell ⟨g, i, none⟩ u).heap[g]? = some (.cells cs' t (0, 0)) := e ▸ blk_set h i u
theorem keep_far {w W : World} {g : Nat} {row : Option Nat} (h : KeepBut w W g row) {p : Addr} (hp : w.heap.size ≤ p.block) (u : Value) : KeepBut w (W.setCell p u) g row :=
  ⟨by simpa [World.setCell] using h.1, fun i hi hg hr => (Below.heap_setCell W p u i (by omega)).trans (h.2 i hi hg hr)⟩
namespace Kd
section
variable {α β : Type} {d : Kd α} {d' : Kd β} {e e' base base' n : Nat} {ok ok' : Nat → Prop} {w W w1 W1 : World} {v u : Value} {xs : List α} {ys : List β} {A : Option Addr} {c : Nat}
theorem R_base2 (h : d.R e w base ok v xs) : v.ownBlock = none ∨ ∃ k, v.ownBlock = some k ∧ base ≤ k := by
  obtain ⟨inner, ho⟩ := R_own h
  exact own_base' ho
end
section
variable {α : Type} {enc : α → Value} {h1 : ∀ x, (enc x).oneCell' = true} {w W : World} {A : Option Addr} {n g : Nat} {xs : List α}
end
end Kd
namespace Kd
section
variable {α : Type} {d : Kd α} {e base g : Nat} {ok : Nat → Prop} {w w1 : World} {v : Value} {xs : List α} {o : Obj}
theorem R_elderB (h : d.R e w base ok v xs) (a : Nat) (ha : w.heap.size ≤ a) : d.R e w base (fun k => ok k ∧ k ≠ a) v xs := R_mono (R_bound h) (fun k hk => ⟨hk.1, by have := hk.2.2.1; omega⟩)
theorem R_newB (h : d.R e w1 w.heap.size ok v xs) (hb : w.heap[g]? = some o) : d.R e w1 w.heap.size (fun k => ok k ∧ k ≠ g) v xs := R_mono (R_bound h) (fun k hk => ⟨hk.1, by have := blk_lt hb; have := hk.2.1; omega⟩)
theorem freshB (hb : w.heap[g]? = some o) : ∀ k, w.heap.size ≤ k → k ≠ g := fun k hk => by have := blk_lt hb; omega
end
end Kd
section
variable {P : Program} {ops : Array Oper} {rest : List Oper} {o : Oper} {a : Act} {Q : Exit → Act → World → Prop}
theorem box_event {W : World} (hgd : o.guard = none) {N : Tmp} (_hd : o.dst = some N) {cs : Array Value} {t : TypeId}
    (hrun : (execOp a.eval o).run P W = .ok (.value (.pointer (some ⟨W.heap.size, 0, none⟩))) (W.alloc (.cells cs t (0, 0))))
    (h : ∀ g, g = W.heap.size → ∀ w1, w1.heap[g]? = some (.cells cs t (0, 0)) → Below W.heap.size W w1 → wpList P ops Q rest (a.put o.dst (.pointer (some ⟨g, 0, none⟩))) w1) : wpList P ops Q (o :: rest) a W :=
  Kd.event_run hgd hrun (h _ rfl _ (blk_new W _) (below_alloc (Below.refl _ _) _))
end
namespace Kd
section
variable {α : Type} {enc : α → Value} {h1 : ∀ x, (enc x).oneCell' = true} {e base g n cap : Nat} {ok : Nat → Prop} {W : World} {xs : List α}
end
end Kd
section
variable {P : Program} {ops : Array Oper} {rest : List Oper} {o : Oper} {a : Act} {Q : Exit → Act → World → Prop}
theorem store_event {W w1 : World} (hgd : o.guard = none) {t : TypeId} {p : Tmp} {v : Operand} (_ho : o.op = .store t (.tmp p) v) (hN : o.dst = none)
    (hrun : (execOp a.eval o).run P W = .ok .skip w1) (h : ∀ w', w' = w1 → wpList P ops Q rest a w') : wpList P ops Q (o :: rest) a W := by
  refine wpList_plain hgd fun K hK => ?_
  unfold Oper.wp
  rw [hrun]
  show K (a.put o.dst undef) w1
  rw [hN]
  exact hK _ _ (h _ rfl)
end
namespace Kd
section
variable {α : Type} {enc : α → Value} {h1 : ∀ x, (enc x).oneCell' = true} {e base g n cap : Nat} {ok : Nat → Prop} {W : World} {xs : List α}
end
end Kd
section
variable {P : Program} {ops : Array Oper} {rest : List Oper} {o : Oper} {a : Act} {Q : Exit → Act → World → Prop} {W : World}
theorem gate_dst {N : Tmp} (_hN : o.dst = some N) (h : wpList P ops Q (o :: rest) a W) : wpList P ops Q (o :: rest) a W := h
theorem gate_store {t : TypeId} {p : Tmp} {v : Operand} (_ho : o.op = .store t (.tmp p) v) (h : wpList P ops Q (o :: rest) a W) : wpList P ops Q (o :: rest) a W := h
end
/-! ### 36. Events as_ one step of a region that draws (for one_, two_, three_) -/
section
variable {P : Program} {ops : Array Oper} {o : Oper} {a : Act} {Q : Exit → Act → World → Prop} {Kc : Act → World → Prop}
namespace Kd
variable {α : Type}
end Kd
end
/-! ### 37. Results of any shape -/
inductive Vals (P : Program) (tmps : Array Value) (w : World) : List ResultVar → List Value → Prop where
  | nil : Vals P tmps w [] []
  | tmp {u : Tmp} {rs : List ResultVar} {vs : List Value} (h : Vals P tmps w rs vs) : Vals P tmps w (.tmp u :: rs) (tmps.getD u undef :: vs)
  | cell {p : Tmp} {ty : TypeId} {rs : List ResultVar} {vs : List Value} (g : Nat) (t : TypeId) (cs : Array Value) (fr : Nat × Nat) (d : TypeDesc)
      (hp : tmps.getD p undef = .pointer (some ⟨g, 0, none⟩)) (hg : w.heap[g]? = some (.cells cs t fr))
      (hu : P.underlying ty = some d) (hd : (match d with | .struct _ | .array _ _ => true | _ => false) = true) (hi : (P.info? ty).map (·.size) = some cs.size)
      (h : Vals P tmps w rs vs) : Vals P tmps w (.cell p ty :: rs) (.agg cs :: vs)
section
variable {P : Program} {tmps : Array Value} {w : World}
theorem vals_run {rs : List ResultVar} {vs : List Value} (hv : Vals P tmps w rs vs) (f : ResultVar → Sem Value) (hf : ∀ u, f (.tmp u) = pure (tmps.getD u undef)) (hc : ∀ a t, f (.cell a t) = (do loadVar t (← asAddr (tmps.getD a undef)))) :
    (rs.mapM f).run P w = .ok vs w := by
  induction hv with
  | nil => simp
  | tmp h ih => simp [List.mapM_cons, hf, ih]
  | cell g t cs fr d hp hg hu hd hi h ih =>
    rw [List.mapM_cons, hc, hp]
    simp [asAddr, run_loadVar_row w g t _ cs fr d hg hu hd hi, ih]
theorem results_single {fn : Func} {r : ResultVar} {v : Value} (h : fn.results = #[r]) (hv : Vals P tmps w [r] [v]) : (results fn tmps).run P w = .ok v w := by
  unfold results
  rw [show fn.results = [r].toArray from h, List.mapM_toArray]
  simp only [Sem.run_bind, Sem.run_map]
  rw [vals_run hv]
  · simp
  · intro u
    rfl
  · intro a t
    rfl
end
/-! ### 38. 'out = append(out[:k], out[k+1:]...)': an element taken out of a row of one's own, in place -/
namespace Kd
section
variable {P : Program} {α : Type}
end
section
variable {P : Program} {ops : Array Oper} {rest : List Oper} {o : Oper} {a : Act} {Q : Exit → Act → World → Prop} {Kc : Act → World → Prop} {α : Type}
end
end Kd
end Go.Proofs.YtlhaefblchpjhaaGreatDoorW.PrintWords
end
section
-- PRINTED BY print.sh 35421559b90ae4d0a3588c463048766b98c2df88dd9212a6774a882060cdf62d: not written by this session
/-
  PRINTED WORDS, second file: A REGION THAT DRAWS ITS ORDER, WALKED BY HAND, where its last store writes what its own loads read ('x.f = append(x.f, f(i))'). Plain theorems; no macro, no elab. A claim may hold it (turn the namespace's name).
  A load may be taken first in every world that meets S; behind the operations of ds nothing is shown; sound because each of ds waits for what is taken (Region.lastB). The kernel checks it.
  By an AI agent of Go's test side, Mon Nov 16 2026. No person has read it.
-/
namespace Go.Proofs.YtlhaefblchpjhaaGreatDoorW.PrintLast
section
variable {P : Program} {ops : Array Oper} {Q : Exit → Act → World → Prop} {md : Region.Mode} {S : World → Prop} {ds : List Nat}
end
section
variable {P : Program} {ops : Array Oper} {Q : Exit → Act → World → Prop} {md : Region.Mode} {S : World → Prop} {ds : List Nat}
/-! ### Several operations that write or call may come up: each order is walked, what follows is shown once (join_) -/
theorem enters_ {f : FuncId} {fn : Func} (hf : P.funcs[f]? = some fn) (hname : (fn.name == "runtime.NumGoroutine") = false) (hb : fn.body.isSome = true) (args : Array Value) (w : World) : (callFunc f args).run P w = .ok (.enter f args) w := by
  have h1 : fn.name ≠ "runtime.NumGoroutine" := by simpa using hname
  obtain ⟨c, hc⟩ := Option.isSome_iff_exists.1 hb
  simp [callFunc, hf, h1, hc]
/-- A call in a plain region, as an arm of go_wp2_with ('hd' first: it fails at once at another operation). -/
theorem goesL_ {rest : List Oper} {oi : Oper} {a : Act} {w : World} (N : Option Tmp) (hd : oi.dst = N) (hg : oi.guard = none) {f : FuncId} {fn : Func} {as : Array Operand} {ts : Array TypeId} (hf : P.funcs[f]? = some fn) (hname : (fn.name == "runtime.NumGoroutine") = false) (hb : fn.body.isSome = true) (args : Array Value)
    (hop : oi.op = .call { callee := .value (.func f), args := as, argTypes := ts }) (hargs : as.map a.eval = args)
    (h : Calls P f args w fun e w' => ∃ v, e = .returned v ∧ wpList P ops Q rest (a.put N v) w') : wpList P ops Q (oi :: rest) a w := by
  refine wpList_plain hg fun K hK => ?_
  have he := enters_ hf hname hb args w
  have hrun : (execOp a.eval oi).run P w = .ok (.enter f args) w := by
    unfold execOp
    simp [hop, resolve, Deferred.ofValue, invoke, Act.eval, hargs, he]
  unfold Oper.wp
  rw [hrun, Oper.upon_enter]
  refine h.mono fun e w'' hh => ?_
  obtain ⟨v, rfl, hk⟩ := hh
  subst hd
  exact hK _ _ hk
end
end Go.Proofs.YtlhaefblchpjhaaGreatDoorW.PrintLast
end
section
-- PRINTED BY print.sh 35421559b90ae4d0a3588c463048766b98c2df88dd9212a6774a882060cdf62d: not written by this session
/-! ### 40. Elements whose inner rows lie apart: what is stored into one says nothing of the others.
   S: as R, with an owner function f (block to element's index). H: as S with a hole: of element i its cells alone are told, its blocks are oki. -/
namespace Go.Proofs.YtlhaefblchpjhaaGreatDoorW.PrintWords
open Go.RowKit
namespace Kd
section
variable {α β : Type} {d : Kd α} {d' : Kd β} {e e' : Nat} {w w1 W : World} {base b : Nat} {ok ok' okv oku : Nat → Prop} {u v : Value} {xs : List α} {ys : List β}
end
section
variable {α β : Type} {d : Kd α} {d' : Kd β} {e e' g : Nat} {w w1 W : World} {base b : Nat} {ok ok' okv oku : Nat → Prop} {u v : Value} {xs : List α} {ys : List β}
end
/-! #### append, make, literals: the new element's blocks are none of the elder ones' -/
section
variable {P : Program} {ops : Array Oper} {rest : List Oper} {o : Oper} {a : Act} {Q : Exit → Act → World → Prop} {Kc : Act → World → Prop} {α : Type}
end
/-! #### a row with a hole: element i is lent, its blocks are oki; of it the row says its cells alone -/
section
variable {α β : Type} {d : Kd α} {e e' g n cap : Nat} {w w1 W : World} {base : Nat} {ok ok' oki okp : Nat → Prop} {u v : Value} {xs : List α} {i : Int} {c : List Value}
end
section
variable {P : Program} {ops : Array Oper} {rest : List Oper} {o : Oper} {a : Act} {Q : Exit → Act → World → Prop} {α : Type}
end
end Kd
end Go.Proofs.YtlhaefblchpjhaaGreatDoorW.PrintWords
end
section
-- PRINTED BY print.sh 35421559b90ae4d0a3588c463048766b98c2df88dd9212a6774a882060cdf62d: not written by this session
/-! ### 41. Arrays '[n]T' as_ values: a kind (a field, an element of a row), an element read, an element set -/
namespace Go.Proofs.YtlhaefblchpjhaaGreatDoorW.PrintWords
open Go.RowKit
namespace Kd
section
variable {α : Type} {n : Nat} {d : Kd α} {hs : 0 < d.sz} {w : World} {base : Nat} {ok : Nat → Prop} {xs : List α} {cs : List Value}
end
section
variable {α : Type} {n : Nat} {enc : α → Value} {h1 : ∀ x, (enc x).oneCell' = true} {hs : 0 < (scalar enc h1).sz} {w : World} {base : Nat} {ok : Nat → Prop} {xs : List α} {cs : List Value}
end
end Kd
end Go.Proofs.YtlhaefblchpjhaaGreatDoorW.PrintWords
end
section
-- PRINTED BY print.sh 35421559b90ae4d0a3588c463048766b98c2df88dd9212a6774a882060cdf62d: not written by this session
/-! ### 43. What is read beside a state: it stays read whatever the state's calls turn ('∀ W', KeepBut w W' g none → d.C W' A n xs') -/
namespace Go.Proofs.YtlhaefblchpjhaaGreatDoorW.PrintWords
open Go.RowKit
namespace Kd
section
variable {α : Type} {d : Kd α} {e base g n c : Nat} {ok : Nat → Prop} {w w0 W : World} {A : Option Addr} {xs : List α}
end
end Kd
end Go.Proofs.YtlhaefblchpjhaaGreatDoorW.PrintWords
end
section
-- PRINTED BY print.sh 35421559b90ae4d0a3588c463048766b98c2df88dd9212a6774a882060cdf62d: not written by this session
/-! ### 45. What a call keeps: all but the blocks of S (the rows that it was given to write) and what is new since -/
namespace Go.Proofs.YtlhaefblchpjhaaGreatDoorW.PrintWords
open Go.RowKit
section
variable {w W W2 : World} {S S2 S' : Nat → Prop}
end
namespace Kd
section
variable {α : Type} {d : Kd α} {e base n c : Nat} {ok oki S S2 : Nat → Prop} {w w0 W W1 W2 : World} {v : Value} {A : Option Addr} {xs : List α} {i : Int} {cs : List Value}
end
end Kd
end Go.Proofs.YtlhaefblchpjhaaGreatDoorW.PrintWords
end
section
-- PRINTED BY print.sh 35421559b90ae4d0a3588c463048766b98c2df88dd9212a6774a882060cdf62d: not written by this session
/-! ### 46. Values that share: what is only read, with the blocks it lies in (its footprint 'ok'): Foot, F (a row that is read), FK (an element's cells) -/
namespace Go.Proofs.YtlhaefblchpjhaaGreatDoorW.PrintWords
open Go.RowKit
theorem heap_lt {W W1 : World} {k : Nat} (h : W1.heap[k]? = W.heap[k]?) (hlt : k < W.heap.size) : k < W1.heap.size := by
  rw [Array.getElem?_eq_getElem hlt] at h
  exact (Array.getElem?_eq_some_iff.1 h).1
namespace Foot
variable {P Q : World → Prop} {W W1 : World} {ok ok' : Nat → Prop}
end Foot
namespace Kd
section
variable {α β : Type} {d : Kd α} {e base n n' cc g N : Nat} {ok ok' okp S : Nat → Prop} {w w0 w1 W W1 : World} {A A' : Option Addr} {u v v1 : Value} {xs : List α} {xs' : List β} {d' : Kd β} {x : α} {c : List Value}
end
end Kd
end Go.Proofs.YtlhaefblchpjhaaGreatDoorW.PrintWords
end
section
-- PRINTED BY print.sh 35421559b90ae4d0a3588c463048766b98c2df88dd9212a6774a882060cdf62d: not written by this session
/-! ### 42. append(v, make([]T, n)...): the operation comes as_ append with the number in the second place -/
namespace Go.Proofs.YtlhaefblchpjhaaGreatDoorW.PrintWords
open Go.RowKit
section
variable {P : Program}
end
namespace Kd
section
variable {P : Program} {ops : Array Oper} {rest : List Oper} {o : Oper} {a : Act} {Q : Exit → Act → World → Prop} {Kc : Act → World → Prop} {α : Type}
end
/-! #### the same for rows whose elements lie apart -/
section
variable {α : Type} {d : Kd α} {e : Nat} {w : World} {base : Nat} {ok : Nat → Prop} {v : Value} {xs : List α}
end
section
variable {P : Program} {ops : Array Oper} {rest : List Oper} {o : Oper} {a : Act} {Q : Exit → Act → World → Prop} {Kc : Act → World → Prop} {α : Type}
end
end Kd
end Go.Proofs.YtlhaefblchpjhaaGreatDoorW.PrintWords
end
section
-- PRINTED BY print.sh 35421559b90ae4d0a3588c463048766b98c2df88dd9212a6774a882060cdf62d: not written by this session
/-! ### 47. N: a row of the call's own whose elements share (what they lead to is only read) -/
namespace Go.Proofs.YtlhaefblchpjhaaGreatDoorW.PrintWords
open Go.RowKit
namespace Kd
section
variable {α : Type} {d : Kd α} {e base n cc g : Nat} {ok ok' okp S : Nat → Prop} {w w1 W W1 : World} {A : Option Addr} {u v v1 : Value} {xs : List α} {x : α} {c : List Value}
end
end Kd
end Go.Proofs.YtlhaefblchpjhaaGreatDoorW.PrintWords
end
section
-- PRINTED BY print.sh 35421559b90ae4d0a3588c463048766b98c2df88dd9212a6774a882060cdf62d: not written by this session
/-! ### 52. A row that stays read whatever happens to a block (a set of blocks) doesn't lie there -/
namespace Go.Proofs.YtlhaefblchpjhaaGreatDoorW.PrintWords
open Go.RowKit
namespace Kd
section
variable {α : Type} {d : Kd α} {W : World} {g n : Nat} {S ok : Nat → Prop} {A : Option Addr} {ad : Addr} {xs : List α}
end
end Kd
end Go.Proofs.YtlhaefblchpjhaaGreatDoorW.PrintWords
end
section
-- PRINTED BY print.sh 35421559b90ae4d0a3588c463048766b98c2df88dd9212a6774a882060cdf62d: not written by this session
/-! ### 54. Behind orders that were drawn quietly: the same facts at the world's new name; a flat row's foot -/
namespace Go.Proofs.YtlhaefblchpjhaaGreatDoorW.PrintWords
open Go.RowKit
section
variable {w w' u : World} {m B g : Nat} {o : Obj} {row : Option Nat} {S : Nat → Prop} {a : Addr} {v : Value}
end
namespace Kd
section
variable {α : Type} {d : Kd α} {e base n m : Nat} {ok : Nat → Prop} {w w' : World} {v : Value} {A : Option Addr} {xs : List α}
end
end Kd
end Go.Proofs.YtlhaefblchpjhaaGreatDoorW.PrintWords
end
section
-- PRINTED BY print.sh 35421559b90ae4d0a3588c463048766b98c2df88dd9212a6774a882060cdf62d: not written by this session
/-! ### 53. '==' of structs as_ one Bool -/
namespace Go.Proofs.YtlhaefblchpjhaaGreatDoorW.PrintWords
open Go.RowKit
section
variable {P : Program} {d : Nat} {xs ys : Array Value} {f : Field} {fs : List Field} {a b : Value} {r s : Bool} {w : World}
end
end Go.Proofs.YtlhaefblchpjhaaGreatDoorW.PrintWords
end
section
-- PRINTED BY print.sh 35421559b90ae4d0a3588c463048766b98c2df88dd9212a6774a882060cdf62d: not written by this session
/-! ### 50. A region's order in a table, made once a region: each step asks the table (numbers alone), not the operations -/
namespace Go.Proofs.YtlhaefblchpjhaaGreatDoorW.PrintLast
open Go.Proofs.YtlhaefblchpjhaaGreatDoorW.PrintWords (Aside0)
section
variable {md : Region.Mode} {ops : Array Oper} {T : Bool × List (List Nat × List Nat)} {l l' li lj lk : Array Bool} {ds : List Nat} {i j k : Nat}
end
end Go.Proofs.YtlhaefblchpjhaaGreatDoorW.PrintLast
end
section
-- PRINTED BY print.sh 35421559b90ae4d0a3588c463048766b98c2df88dd9212a6774a882060cdf62d: not written by this session
/-! ### 56. Four, five, six operations that may come up next, in any order -/
namespace Go.Proofs.YtlhaefblchpjhaaGreatDoorW.PrintLast
section
variable {P : Program} {ops : Array Oper} {Q : Exit → Act → World → Prop} {md : Region.Mode} {S : World → Prop} {ds : List Nat} {T : Bool × List (List Nat × List Nat)}
end
end Go.Proofs.YtlhaefblchpjhaaGreatDoorW.PrintLast
end
section
-- PRINTED BY print.sh 35421559b90ae4d0a3588c463048766b98c2df88dd9212a6774a882060cdf62d: not written by this session
/-! ### 58. A guarded operation whose guard is known to want it: the same goal without the guard -/
namespace Go.Proofs.YtlhaefblchpjhaaGreatDoorW.PrintWords
open Go.RowKit
section
variable {P : Program} {ops : Array Oper} {rest : List Oper} {o : Oper} {a : Act} {Q : Exit → Act → World → Prop} {W : World}
end
end Go.Proofs.YtlhaefblchpjhaaGreatDoorW.PrintWords
end
section
-- PRINTED BY print.sh 35421559b90ae4d0a3588c463048766b98c2df88dd9212a6774a882060cdf62d: not written by this session
/-! ### 57. A region of open order by ONE relation over what is listed so far: each operation is shown once, whatever came up before it -/
namespace Go.Proofs.YtlhaefblchpjhaaGreatDoorW.PrintLast
section
variable {P : Program} {ops : Array Oper} {Q : Exit → Act → World → Prop} {md : Region.Mode} {T : Bool × List (List Nat × List Nat)} {B : List Nat} {O : List Nat} {b : Nat → Bool} {i j n : Nat}
/-! The frame: what is listed has its destination filled. -/
end
end Go.Proofs.YtlhaefblchpjhaaGreatDoorW.PrintLast
end
section
-- PRINTED BY print.sh 35421559b90ae4d0a3588c463048766b98c2df88dd9212a6774a882060cdf62d: not written by this session
namespace Go.Proofs.YtlhaefblchpjhaaGreatDoorW.PrintWords
open Go.RowKit
end Go.Proofs.YtlhaefblchpjhaaGreatDoorW.PrintWords
namespace Go.Proofs.YtlhaefblchpjhaaGreatDoorW.PrintLast
section
variable {ops : Array Oper} {a : Act} {o og : Oper} {g : Nat} {t : Tmp} {u : Bool}
end
end Go.Proofs.YtlhaefblchpjhaaGreatDoorW.PrintLast
end
section
-- PRINTED BY print.sh 35421559b90ae4d0a3588c463048766b98c2df88dd9212a6774a882060cdf62d: not written by this session
/-! ### 39. Stores into a row that may begin inside its block (Q): Q_form, Q_elem, Q_seg; scalars: Q_cell, Q_putg -/
namespace Go.Proofs.YtlhaefblchpjhaaGreatDoorW.PrintWords
open Go.RowKit
namespace Kd
section
variable {α : Type} {d : Kd α} {e base g o n cap : Nat} {ok okp : Nat → Prop} {w W : World} {v : Value} {xs : List α}
end
section
variable {α : Type} {enc : α → Value} {h1 : ∀ x, (enc x).oneCell' = true} {e base g o n cap : Nat} {ok : Nat → Prop} {W : World} {xs : List α}
end
end Kd
end Go.Proofs.YtlhaefblchpjhaaGreatDoorW.PrintWords
end
section
-- PRINTED BY print.sh 35421559b90ae4d0a3588c463048766b98c2df88dd9212a6774a882060cdf62d: not written by this session
/-! ### 48. N's events: append, a whole row appended, zeros appended, literals, make, stores, cuts, an element taken out -/
namespace Go.Proofs.YtlhaefblchpjhaaGreatDoorW.PrintWords
open Go.RowKit
namespace Kd
section
variable {α : Type} {d : Kd α} {e base n cap g : Nat} {ok ok' okp : Nat → Prop} {w w1 W : World} {v v1 : Value} {xs ys : List α}
end
section
variable {P : Program} {ops : Array Oper} {rest : List Oper} {o : Oper} {a : Act} {Q : Exit → Act → World → Prop} {Kc : Act → World → Prop} {α : Type}
end
end Kd
end Go.Proofs.YtlhaefblchpjhaaGreatDoorW.PrintWords
end
section
-- PRINTED BY print.sh 35421559b90ae4d0a3588c463048766b98c2df88dd9212a6774a882060cdf62d: not written by this session
-- PRINTED WORDS (module Derived/Print/More.lean): go-gate-2's additions: an AI agent of Go's test side, Tue Nov 17 2026; no person has read it. Lean checks it.
namespace Go.Proofs.YtlhaefblchpjhaaGreatDoorW.PrintMore
open Go.RowKit Go.Proofs.YtlhaefblchpjhaaGreatDoorW.PrintWords
namespace Kd
open Go.Proofs.YtlhaefblchpjhaaGreatDoorW.PrintWords.Kd
end Kd
namespace Kd
open Go.Proofs.YtlhaefblchpjhaaGreatDoorW.PrintWords.Kd
section
variable {α : Type} {d : Kd α} {e base g N : Nat} {ok : Nat → Prop} {W w1 : World} {u v : Value} {xs : List α}
/-- The same over a state's call. -/
theorem R_oldK (hu : d.R e W base (fun k => ok k ∧ k ≠ g) u xs) (hk : KeepBut W w1 g none) : d.R e w1 base (fun k => ok k ∧ k < W.heap.size) u xs :=
  R_mono (R_keep (R_bound hu) hk (fun _ h => h.1.2)) (fun _ h => ⟨h.1.1, h.2.2.1⟩)
/-- It is none of the rows made since. -/
theorem R_told (h : d.R e w1 base (fun k => ok k ∧ k < N) u xs) (hbase : ∀ k, v.ownBlock = some k → N ≤ k) : d.R e w1 base (fun k => (ok k ∧ some k ≠ v.ownBlock) ∧ k < N) u xs :=
  R_mono h (fun k hk => ⟨⟨hk.1, fun e => Nat.lt_irrefl _ (Nat.lt_of_lt_of_le hk.2 (hbase k e.symm))⟩, hk.2⟩)
end
end Kd
/-- 'max' and 'min' of two whole numbers. -/
theorem max2_int (k k' : IntKind) (x y : Int) : Builtin.max2 (.int k x) (.int k' y) = pure (.int k (if x < y then y else x)) := by simp only [Builtin.max2, gt_iff_lt]
theorem min2_int (k k' : IntKind) (x y : Int) : Builtin.min2 (.int k x) (.int k' y) = pure (.int k (if y < x then y else x)) := by simp only [Builtin.min2]
theorem max_two (ats : Array TypeId) (ty : TypeId) (a b : Value) : Builtin.max_ ats ty #[a, b] = (Builtin.max2 a b >>= fun s => pure s) := by simp only [Builtin.max_, List.foldlM_cons, List.foldlM_nil]
theorem min_two (ats : Array TypeId) (ty : TypeId) (a b : Value) : Builtin.min_ ats ty #[a, b] = (Builtin.min2 a b >>= fun s => pure s) := by simp only [Builtin.min_, List.foldlM_cons, List.foldlM_nil]
theorem max_three (ats : Array TypeId) (ty : TypeId) (a b c : Value) : Builtin.max_ ats ty #[a, b, c] = (Builtin.max2 a b >>= fun s => Builtin.max2 s c >>= fun s => pure s) := by simp only [Builtin.max_, List.foldlM_cons, List.foldlM_nil]
theorem min_three (ats : Array TypeId) (ty : TypeId) (a b c : Value) : Builtin.min_ ats ty #[a, b, c] = (Builtin.min2 a b >>= fun s => Builtin.min2 s c >>= fun s => pure s) := by simp only [Builtin.min_, List.foldlM_cons, List.foldlM_nil]
theorem max_four (ats : Array TypeId) (ty : TypeId) (a b c d : Value) : Builtin.max_ ats ty #[a, b, c, d] = (Builtin.max2 a b >>= fun s => Builtin.max2 s c >>= fun s => Builtin.max2 s d >>= fun s => pure s) := by simp only [Builtin.max_, List.foldlM_cons, List.foldlM_nil]
theorem min_four (ats : Array TypeId) (ty : TypeId) (a b c d : Value) : Builtin.min_ ats ty #[a, b, c, d] = (Builtin.min2 a b >>= fun s => Builtin.min2 s c >>= fun s => Builtin.min2 s d >>= fun s => pure s) := by simp only [Builtin.min_, List.foldlM_cons, List.foldlM_nil]
end Go.Proofs.YtlhaefblchpjhaaGreatDoorW.PrintMore
namespace Go.Proofs.YtlhaefblchpjhaaGreatDoorW.PrintWords
open Go.RowKit
section
variable {P : Program} {ops : Array Oper} {rest : List Oper} {o : Oper} {a : Act} {Q : Exit → Act → World → Prop} {W : World}
/-- The operation is a call of this function (a cheap look ahead of a dear step). -/
theorem gate_callee {f : FuncId} {as : Array Operand} {ts : Array TypeId} (_ho : o.op = .call { callee := .value (.func f), args := as, argTypes := ts }) (h : wpList P ops Q (o :: rest) a W) : wpList P ops Q (o :: rest) a W := h
/-- The operation is a builtin over these places. -/
theorem gate_builtin {b : Builtin} {xs : Array Operand} {ts : Array TypeId} (_ho : o.op = .call { callee := .builtin b, args := xs, argTypes := ts }) (h : wpList P ops Q (o :: rest) a W) : wpList P ops Q (o :: rest) a W := h
end
/-- It says x = x, and that is its use: 'rw [drewN_self w]' fails where the world was not drawn, and the row behind it is skipped. -/
theorem drewN_self (w : World) (n : Nat) : w.drewN n = w.drewN n := rfl
namespace Kd
section
variable {α : Type} {d : Kd α} {e base : Nat} {ok : Nat → Prop} {W w1 : World} {v : Value} {xs : List α}
end
section
variable {α : Type} {d : Kd α} {e base g n cap : Nat} {ok oki okp : Nat → Prop} {W : World} {xs : List α} {i : Int} {c : List Value}
end
section
variable {α : Type} {d : Kd α} {e base b b' g N : Nat} {ok ok1 : Nat → Prop} {W W2 w1 : World} {u v : Value} {xs ys : List α} {S : Nat → Prop}
end
end Kd
end Go.Proofs.YtlhaefblchpjhaaGreatDoorW.PrintWords
namespace Go.Proofs.YtlhaefblchpjhaaGreatDoorW.PrintWords
open Go.RowKit
namespace Kd
section
variable {α β : Type} {d : Kd α} {e base base' n m c g N' lo hi : Nat} {ok ok' S : Nat → Prop} {w W w1 : World} {A : Option Addr} {ad : Addr} {u v v1 : Value} {xs : List α}
end
end Kd
end Go.Proofs.YtlhaefblchpjhaaGreatDoorW.PrintWords
end
section
-- PRINTED BY print.sh 35421559b90ae4d0a3588c463048766b98c2df88dd9212a6774a882060cdf62d: not written by this session
/-! ### 55. Reps told from the front, no append: for rows of one-cell elements and of wider ones -/
namespace Go.Proofs.YtlhaefblchpjhaaGreatDoorW.PrintWords
end Go.Proofs.YtlhaefblchpjhaaGreatDoorW.PrintWords
end
