/- fastjson's values in memory: the cache of a Parser, what a value's cells say, and what later steps leave as it is. -/
import Derived.Test.YtjfofbgnppdlgaaDoorProg
import Derived.Test.YtjfofbgnppdlgaaDoorFpPlain
import Derived.Test.YtjfofbgnppdlgaaDoorWWords
import Derived.Test.YtjfofbgnppdlgaaDoorWMore
namespace Go.Proofs.YtjfofbgnppdlgaaDoor.Fp
open Go.RowKit Go.Proofs.YtjfofbgnppdlgaaDoorW.PrintWords Go.Proofs.YtjfofbgnppdlgaaDoorW.PrintLast
set_option linter.unusedVariables false
set_option linter.unusedSimpArgs false

abbrev TV : TypeId := 63
abbrev nilS : Value := .slice none 0 0
abbrev emptyS : Value := .string ⟨#[]⟩
/-- The cells of a Value that is made anew. -/
def vz : List Value := [nilS, .bool false, nilS, emptyS, .int .i64 0]
theorem infoV : (Tryd.prog.info? TV).map (fun i => (i.zero.map (·.cells), i.size, i.bytes)) = some (some vz.toArray, 5, 80) := by kernel_rfl
/-- The cache: n values lie in the row v, and what is behind them is as made anew. -/
def Ca (w : World) (pb n : Nat) (v : Value) : Prop :=
  (n = 0 ∧ v = nilS) ∨ ∃ (cb cap : Nat) (cur : Array Value), v = .slice (some ⟨cb, 0, none⟩) n cap ∧ w.heap[cb]? = some (.cells cur TV (0, 0)) ∧ n ≤ cap ∧ cap ≤ maxLen ∧ cur.size = cap * 5 ∧ cb ≠ pb ∧ ∀ j i, n ≤ j → j < cap → i < 5 → cur[j * 5 + i]? = vz[i]?
/-- The Parser's block. -/
def Pb (w : World) (pb : Nat) (bv cv : Value) : Prop := w.heap[pb]? = some (.cells #[bv, cv] 35 (0, 0))
/-- Nothing that was there is changed but the Parser's own cells, and what is free in the cache. -/
structure Step (pb n : Nat) (v : Value) (w w' : World) : Prop where
  out : w'.os = w.os ∧ w'.tape = w.tape ∧ w'.output = w.output
  size : w.heap.size ≤ w'.heap.size
  blk : ∀ k, k < w.heap.size → k ≠ pb → some k ≠ v.ownBlock → w'.heap[k]? = w.heap[k]?
  cel : ∀ cb, v.ownBlock = some cb → ∀ cur, w.heap[cb]? = some (.cells cur TV (0, 0)) → ∃ cur', w'.heap[cb]? = some (.cells cur' TV (0, 0)) ∧ cur'.size = cur.size ∧ ∀ j, j < n * 5 → cur'[j]? = cur[j]?
/-- A place that a step makes. -/
def New (n : Nat) (v : Value) (w : World) (x : Addr) : Prop := w.heap.size ≤ x.block ∨ (some x.block = v.ownBlock ∧ n * 5 ≤ x.off)
/-- A place that later steps leave. -/
def In (pb n : Nat) (v : Value) (w : World) (x : Addr) : Prop := x.spot = none ∧ x.block < w.heap.size ∧ x.block ≠ pb ∧ (some x.block = v.ownBlock → x.off < n * 5)
/-- The cache has grown, in its row or in a new one. -/
def Up (n n' : Nat) (v v' : Value) (w : World) : Prop := n ≤ n' ∧ (v'.ownBlock = v.ownBlock ∨ ∃ b, v'.ownBlock = some b ∧ w.heap.size ≤ b)
theorem Step.refl (pb n : Nat) (v : Value) (w : World) : Step pb n v w w := ⟨⟨rfl, rfl, rfl⟩, Nat.le_refl _, fun _ _ _ _ => rfl, fun _ _ cur h => ⟨cur, h, rfl, fun _ _ => rfl⟩⟩
theorem Up.refl (n : Nat) (v : Value) (w : World) : Up n n v v w := ⟨Nat.le_refl _, .inl rfl⟩
theorem Up.trans {n n1 n2 : Nat} {v v1 v2 : Value} {w w1 : World} (h : Up n n1 v v1 w) (g : Up n1 n2 v1 v2 w1) (hs : w.heap.size ≤ w1.heap.size) : Up n n2 v v2 w := by
  refine ⟨Nat.le_trans h.1 g.1, ?_⟩
  rcases g.2 with e | ⟨b, e, hb⟩
  · rw [e]; exact h.2
  · exact .inr ⟨b, e, Nat.le_trans hs hb⟩
theorem Ca.lt {w : World} {pb n : Nat} {v : Value} (h : Ca w pb n v) {cb : Nat} (hc : v.ownBlock = some cb) : cb < w.heap.size ∧ cb ≠ pb ∧ ∃ cur, w.heap[cb]? = some (.cells cur TV (0, 0)) := by
  rcases h with ⟨_, rfl⟩ | ⟨cb', cap, cur, rfl, h1, _, _, _, h2, _⟩
  · simp [Value.ownBlock] at hc
  · simp only [Value.ownBlock, Option.some.injEq] at hc
    subst hc
    refine ⟨?_, h2, cur, h1⟩
    refine Nat.lt_of_not_le fun hle => ?_
    rw [Array.getElem?_eq_none hle] at h1
    cases h1
theorem Step.trans {pb n n1 : Nat} {v v1 : Value} {w w1 w2 : World} (hc : Ca w pb n v) (h : Step pb n v w w1) (hu : Up n n1 v v1 w) (g : Step pb n1 v1 w1 w2) : Step pb n v w w2 := by
  refine ⟨⟨g.out.1.trans h.out.1, g.out.2.1.trans h.out.2.1, g.out.2.2.trans h.out.2.2⟩, Nat.le_trans h.size g.size, fun k hk hp hv => ?_, fun cb hcb cur hcur => ?_⟩
  · refine (g.blk k (Nat.lt_of_lt_of_le hk h.size) hp fun e => ?_).trans (h.blk k hk hp hv)
    rcases hu.2 with e1 | ⟨b, e1, hb⟩
    · rw [e1] at e; exact hv e
    · rw [e1] at e; injection e with e; omega
  · obtain ⟨cur1, h1, h2, h3⟩ := h.cel cb hcb cur hcur
    have hl := hc.lt hcb
    rcases hu.2 with e1 | ⟨b, e1, hb⟩
    · obtain ⟨cur2, g1, g2, g3⟩ := g.cel cb (e1.trans hcb) cur1 h1
      have := hu.1
      exact ⟨cur2, g1, by omega, fun j hj => (g3 j (by omega)).trans (h3 j hj)⟩
    · refine ⟨cur1, (g.blk cb (Nat.lt_of_lt_of_le hl.1 h.size) hl.2.1 fun e => ?_).trans h1, h2, h3⟩
      rw [e1] at e; injection e with e; omega
/-- What is settled stays. -/
theorem In.cell {pb n : Nat} {v : Value} {w w' : World} {x : Addr} (hc : Ca w pb n v) (h : In pb n v w x) (g : Step pb n v w w') : w'.cell? x = w.cell? x := by
  obtain ⟨h0, h1, h2, h3⟩ := h
  obtain ⟨xb, xo, xs⟩ := x
  simp only at h0 h1 h2 h3
  subst h0
  by_cases e : some xb = v.ownBlock
  · obtain ⟨_, _, cur, hcur⟩ := hc.lt e.symm
    obtain ⟨cur', g1, g2, g3⟩ := g.cel xb e.symm cur hcur
    simp [World.cell?, hcur, g1, g3 xo (h3 e)]
  · simp [World.cell?, g.blk xb h1 h2 e]
theorem In.step {pb n n' : Nat} {v v' : Value} {w w' : World} {x : Addr} (h : In pb n v w x) (g : Step pb n v w w') (hu : Up n n' v v' w) : In pb n' v' w' x := by
  obtain ⟨h0, h1, h2, h3⟩ := h
  refine ⟨h0, Nat.lt_of_lt_of_le h1 g.size, h2, fun e => ?_⟩
  have := hu.1
  rcases hu.2 with e1 | ⟨b, e1, hb⟩
  · have := h3 (e.trans e1); omega
  · rw [e1] at e; injection e with e; omega
/-- Five cells, all of a footprint. -/
def Cells (w : World) (F : Addr → Prop) (b o : Nat) (c0 c1 c2 c3 c4 : Value) : Prop :=
  (w.cell? ⟨b, o, none⟩ = some c0 ∧ w.cell? ⟨b, o + 1, none⟩ = some c1 ∧ w.cell? ⟨b, o + 2, none⟩ = some c2 ∧ w.cell? ⟨b, o + 3, none⟩ = some c3 ∧ w.cell? ⟨b, o + 4, none⟩ = some c4) ∧
  (F ⟨b, o, none⟩ ∧ F ⟨b, o + 1, none⟩ ∧ F ⟨b, o + 2, none⟩ ∧ F ⟨b, o + 3, none⟩ ∧ F ⟨b, o + 4, none⟩) ∧ ∃ cur, w.heap[b]? = some (.cells cur TV (0, 0))
def ptr (p : Nat × Nat) : Value := .pointer (some ⟨p.1, p.2, none⟩)
/-- A row of pointers. -/
def RowIs (w : World) (F : Addr → Prop) (av : Value) (ps : List (Nat × Nat)) : Prop :=
  (ps = [] ∧ av = nilS) ∨ ∃ ab cap, av = .slice (some ⟨ab, 0, none⟩) ps.length cap ∧ ps.length ≤ cap ∧ ∀ i, i < ps.length → w.cell? ⟨ab, i, none⟩ = (ps[i]?).map ptr ∧ F ⟨ab, i, none⟩
/-- A row of members: a name and a pointer each. -/
def KvIs (w : World) (F : Addr → Prop) (kv : Value) (ks : List (List Int)) (ps : List (Nat × Nat)) : Prop :=
  (ps = [] ∧ ks = [] ∧ kv = nilS) ∨ ∃ kb cap cur, kv = .slice (some ⟨kb, 0, none⟩) ps.length cap ∧ 0 < ps.length ∧ ps.length ≤ cap ∧ ks.length = ps.length ∧ w.heap[kb]? = some (.cells cur 79 (0, 0)) ∧
    ∀ i, i < ps.length → w.cell? ⟨kb, i * 2, none⟩ = (ks[i]?).map (fun k => .string (strOfNums k)) ∧ w.cell? ⟨kb, i * 2 + 1, none⟩ = (ps[i]?).map ptr ∧ F ⟨kb, i * 2, none⟩ ∧ F ⟨kb, i * 2 + 1, none⟩
mutual
/-- What the cells of a value say; F: the places that they lie at, each child's apart from the others' and from the value's own. -/
inductive Rep (w : World) : (Addr → Prop) → Nat → Nat → FV → Prop
  | lit (F : Addr → Prop) (b o : Nat) (t : Int) : Cells w F b o nilS (.bool false) nilS emptyS (.int .i64 t) → Rep w F b o (.lit t)
  | str (F : Addr → Prop) (b o : Nat) (s : List Int) : Cells w F b o nilS (.bool false) nilS (.string (strOfNums s)) (.int .i64 7) → Rep w F b o (.str s)
  | num (F : Addr → Prop) (b o : Nat) (s : List Int) : Cells w F b o nilS (.bool false) nilS (.string (strOfNums s)) (.int .i64 4) → Rep w F b o (.num s)
  | arr (F Fk : Addr → Prop) (b o : Nat) (av : Value) (ps : List (Nat × Nat)) (vs : List FV) : Cells w F b o nilS (.bool false) av emptyS (.int .i64 2) → RowIs w F av ps → Reps w Fk ps vs → (∀ x, Fk x → F x ∧ some x.block ≠ av.ownBlock ∧ ∀ i, i < 5 → (⟨b, o + i, none⟩ : Addr) ≠ x) → (∀ x : Addr, x.spot = none → some x.block = av.ownBlock → F x) → Rep w F b o (.arr vs)
  | obj (F Fk : Addr → Prop) (b o : Nat) (kv : Value) (ps : List (Nat × Nat)) (ms : List (List Int × FV)) : Cells w F b o kv (.bool false) nilS emptyS (.int .i64 1) → KvIs w F kv (ms.map Prod.fst) ps → Reps w Fk ps (ms.map Prod.snd) → (∀ x, Fk x → F x ∧ some x.block ≠ kv.ownBlock ∧ ∀ i, i < 5 → (⟨b, o + i, none⟩ : Addr) ≠ x) → (∀ x : Addr, x.spot = none → some x.block = kv.ownBlock → F x) → Rep w F b o (.obj ms)
inductive Reps (w : World) : (Addr → Prop) → List (Nat × Nat) → List FV → Prop
  | nil (F : Addr → Prop) : Reps w F [] []
  | cons (F F1 F2 : Addr → Prop) (p : Nat × Nat) (v : FV) (ps : List (Nat × Nat)) (vs : List FV) : Rep w F1 p.1 p.2 v → Reps w F2 ps vs → (∀ x, F1 x → F x) → (∀ x, F2 x → F x) → (∀ x, F1 x → F2 x → False) → Reps w F (p :: ps) (v :: vs)
end
theorem Cells.keep {w w' : World} {F G : Addr → Prop} {b o : Nat} {c0 c1 c2 c3 c4 : Value} (h : Cells w F b o c0 c1 c2 c3 c4) (hk : ∀ x, F x → w'.cell? x = w.cell? x) (hb : ∀ x, F x → ∀ cur, w.heap[x.block]? = some (.cells cur TV (0, 0)) → ∃ cur', w'.heap[x.block]? = some (.cells cur' TV (0, 0))) (hg : ∀ x, F x → G x) : Cells w' G b o c0 c1 c2 c3 c4 := by
  obtain ⟨⟨h0, h1, h2, h3, h4⟩, ⟨f0, f1, f2, f3, f4⟩, cur, hc⟩ := h
  exact ⟨⟨(hk _ f0).trans h0, (hk _ f1).trans h1, (hk _ f2).trans h2, (hk _ f3).trans h3, (hk _ f4).trans h4⟩, ⟨hg _ f0, hg _ f1, hg _ f2, hg _ f3, hg _ f4⟩, hb _ f0 cur hc⟩

/-- The cells of a value that is made anew. -/
def Zer (w : World) (b o : Nat) : Prop := ∀ i, i < 5 → w.cell? ⟨b, o + i, none⟩ = vz[i]?
theorem Pb.cell {w : World} {pb : Nat} {bv cv : Value} (h : Pb w pb bv cv) : w.cell? ⟨pb, 1, none⟩ = some cv := by unfold Pb at h; simp [World.cell?, h]
theorem Pb.cell0 {w : World} {pb : Nat} {bv cv : Value} (h : Pb w pb bv cv) : w.cell? ⟨pb, 0, none⟩ = some bv := by unfold Pb at h; simp [World.cell?, h]
theorem Pb.free {w : World} {pb : Nat} {bv cv : Value} (h : Pb w pb bv cv) (j : Nat) : w.frozen? ⟨pb, j, none⟩ = false := by
  unfold Pb at h
  simp [World.frozen?, h]
theorem Pb.lt {w : World} {pb : Nat} {bv cv : Value} (h : Pb w pb bv cv) : pb < w.heap.size := by
  refine Nat.lt_of_not_le fun hle => ?_
  unfold Pb at h
  rw [Array.getElem?_eq_none hle] at h
  cases h
theorem heap_set {w : World} {g j e : Nat} {cur : Array Value} {fz : Nat × Nat} (h : w.heap[g]? = some (.cells cur e fz)) (v : Value) :
    (w.setCell ⟨g, j, none⟩ v).heap[g]? = some (.cells (cur.setIfInBounds j v) e fz) := by
  simp [World.setCell, Array.getElem?_modify, h]
theorem heap_other (w : World) (g j k : Nat) (v : Value) (h : k ≠ g) : (w.setCell ⟨g, j, none⟩ v).heap[k]? = w.heap[k]? := Below.heap_setCell w ⟨g, j, none⟩ v k h
theorem set_size (w : World) (p : Addr) (v : Value) : (w.setCell p v).heap.size = w.heap.size := by simp [World.setCell]
theorem Pb.set {w : World} {pb : Nat} {bv cv : Value} (h : Pb w pb bv cv) (v : Value) : Pb (w.setCell ⟨pb, 1, none⟩ v) pb bv v := by
  unfold Pb
  rw [heap_set h v]
  rfl
theorem zc_get (m j i : Nat) (hj : j < m) (hi : i < 5) : (Builtin.zeroCells vz.toArray m)[j * 5 + i]? = vz[i]? := by
  have h5 : vz.toArray.size = 5 := rfl
  have e1 : (j * 5 + i) % 5 = i := by omega
  have hlt : j * 5 + i < m * 5 := by omega
  unfold Builtin.zeroCells
  rw [Array.getElem?_eq_getElem (by simp [h5]; exact hlt)]
  simp [h5, e1]
  have : i = 0 ∨ i = 1 ∨ i = 2 ∨ i = 3 ∨ i = 4 := by omega
  rcases this with rfl | rfl | rfl | rfl | rfl <;> rfl

end Go.Proofs.YtjfofbgnppdlgaaDoor.Fp
