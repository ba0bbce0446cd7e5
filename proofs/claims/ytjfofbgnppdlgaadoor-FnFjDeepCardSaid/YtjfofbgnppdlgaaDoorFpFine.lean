/- What a step of fastjson's parser leaves, and an array while its elements are read. -/
import Derived.Test.YtjfofbgnppdlgaaDoorFpGet
import Derived.Test.YtjfofbgnppdlgaaDoorFjW0
namespace Go.Proofs.YtjfofbgnppdlgaaDoor.Fp
open Go.RowKit Go.Proofs.YtjfofbgnppdlgaaDoorW.PrintWords Go.Proofs.YtjfofbgnppdlgaaDoorW.PrintLast Go.Proofs.YtjfofbgnppdlgaaDoorW.PrintMore
set_option linter.unusedVariables false
set_option linter.unusedSimpArgs false

abbrev TP : TypeId := 36
structure Fine (pb n : Nat) (bv v : Value) (w : World) (n' : Nat) (v' : Value) (w' : World) : Prop where
  pbs : Pb w' pb bv v'
  ca : Ca w' pb n' v'
  step : Step pb n v w w'
  up : Up n n' v v' w
theorem Fine.refl {pb n : Nat} {bv v : Value} {w : World} (hP : Pb w pb bv v) (hC : Ca w pb n v) : Fine pb n bv v w n v w := ⟨hP, hC, Step.refl _ _ _ _, Up.refl _ _ _⟩
theorem Fine.trans {pb n n1 n2 : Nat} {bv v v1 v2 : Value} {w w1 w2 : World} (hC : Ca w pb n v) (h : Fine pb n bv v w n1 v1 w1) (g : Fine pb n1 bv v1 w1 n2 v2 w2) : Fine pb n bv v w n2 v2 w2 :=
  ⟨g.pbs, g.ca, h.step.trans hC h.up g.step, h.up.trans g.up h.step.size⟩
theorem Got.fine {pb n b : Nat} {bv v v' : Value} {w w' : World} (h : Got pb n bv v w b v' w') : Fine pb n bv v w (n + 1) v' w' := ⟨h.pbs, h.ca, h.step, h.up⟩
theorem Ca.set {pb n : Nat} {v : Value} {w : World} {x : Addr} (h : Ca w pb n v) (hx : In pb n v w x) (u : Value) : Ca (w.setCell x u) pb n v := by
  obtain ⟨xb, xo, xs⟩ := x
  obtain ⟨h0, h1, h2, h3⟩ := hx
  simp only at h0 h1 h2 h3
  subst h0
  rcases h with h | ⟨cb, cap, cur, rfl, g1, g2, g3, g4, g5, g6⟩
  · exact .inl h
  · by_cases e : xb = cb
    · subst e
      have := h3 rfl
      refine .inr ⟨_, cap, _, rfl, heap_set g1 u, g2, g3, by rw [Array.size_setIfInBounds]; exact g4, g5, fun j i a1 a2 a3 => ?_⟩
      rw [Array.getElem?_setIfInBounds_ne (by omega)]
      exact g6 j i a1 a2 a3
    · exact .inr ⟨_, cap, cur, rfl, (heap_other _ _ _ _ _ (Ne.symm e)).trans g1, g2, g3, g4, g5, g6⟩
theorem Pb.other {pb : Nat} {bv v : Value} {w : World} {x : Addr} (h : Pb w pb bv v) (hx : x.block ≠ pb) (u : Value) : Pb (w.setCell x u) pb bv v := by
  unfold Pb
  rw [Below.heap_setCell w x u pb (Ne.symm hx)]
  exact h
theorem heap_lt {w : World} {k : Nat} {o : Obj} (h : w.heap[k]? = some o) : k < w.heap.size := (Array.getElem?_eq_some_iff.1 h).1
theorem Step.set {pb n : Nat} {v : Value} {w w1 : World} {x : Addr} (h : Step pb n v w w1) (hs : x.spot = none) (hx : New n v w x) (u : Value) : Step pb n v w (w1.setCell x u) := by
  obtain ⟨xb, xo, xs⟩ := x
  simp only at hs
  subst hs
  refine ⟨h.out, by rw [set_size]; exact h.size, fun k a1 a2 a3 => (heap_other _ _ _ _ _ ?_).trans (h.blk k a1 a2 a3), fun cb a1 cur a2 => ?_⟩
  · rintro rfl
    rcases hx with c | ⟨c, _⟩
    · exact absurd a1 (Nat.not_lt.2 c)
    · exact a3 c
  · obtain ⟨cur', b1, b2, b3⟩ := h.cel cb a1 cur a2
    by_cases e : cb = xb
    · subst e
      refine ⟨_, heap_set b1 u, by rw [Array.size_setIfInBounds]; exact b2, fun j hj => ?_⟩
      rcases hx with c | ⟨_, c⟩
      · exact absurd (heap_lt a2) (Nat.not_lt.2 c)
      · simp only at c
        rw [Array.getElem?_setIfInBounds_ne (by omega)]
        exact b3 j hj
    · exact ⟨cur', (heap_other _ _ _ _ _ e).trans b1, b2, b3⟩
theorem Fine.set {pb n n1 : Nat} {bv v v1 : Value} {w w1 : World} {x : Addr} (h : Fine pb n bv v w n1 v1 w1) (hx : New n v w x) (hi : In pb n1 v1 w1 x) (u : Value) : Fine pb n bv v w n1 v1 (w1.setCell x u) :=
  ⟨h.pbs.other hi.2.2.1 u, h.ca.set hi u, h.step.set hi.1 hx u, h.up⟩
theorem In.set {pb n : Nat} {v : Value} {w : World} {x y : Addr} (h : In pb n v w x) (u : Value) : In pb n v (w.setCell y u) x := ⟨h.1, by rw [set_size]; exact h.2.1, h.2.2⟩
theorem Fine.grown {pb n n1 : Nat} {bv v v1 : Value} {w w1 w2 : World} {row : Option Nat} (h : Fine pb n bv v w n1 v1 w1) (g : w1.grownBy w2 row) (hr : ∀ k, row = some k → w.heap.size ≤ k ∧ k ≠ pb ∧ some k ≠ v1.ownBlock) : Fine pb n bv v w n1 v1 w2 := by
  refine ⟨(g.block pb h.pbs.lt fun e => (hr pb e.symm).2.1 rfl).trans h.pbs, ?_, ⟨⟨g.os.trans h.step.out.1, g.tape.trans h.step.out.2.1, g.output.trans h.step.out.2.2⟩, Nat.le_trans h.step.size g.size, fun k a1 a2 a3 => ?_, fun cb a1 cur a2 => ?_⟩, h.up⟩
  · rcases h.ca with c | ⟨cb, cap, cur, rfl, g1, rest⟩
    · exact .inl c
    · exact .inr ⟨cb, cap, cur, rfl, (g.block cb (heap_lt g1) fun e => (hr cb e.symm).2.2 rfl).trans g1, rest⟩
  · exact (g.block k (Nat.lt_of_lt_of_le a1 h.step.size) fun e => absurd (hr k e.symm).1 (Nat.not_le.2 a1)).trans (h.step.blk k a1 a2 a3)
  · obtain ⟨cur', b1, b2, b3⟩ := h.step.cel cb a1 cur a2
    exact ⟨cur', (g.block cb (heap_lt b1) fun e => absurd (hr cb e.symm).1 (Nat.not_le.2 (heap_lt a2))).trans b1, b2, b3⟩
theorem below_grown {w w' : World} (h : Below w.heap.size w w') : w.grownBy w' none := ⟨h.os, h.tape, h.output, h.size, fun k hk _ => h.block k hk⟩
theorem Fine.below {pb n n1 : Nat} {bv v v1 : Value} {w w1 w2 : World} (h : Fine pb n bv v w n1 v1 w1) (g : Below w1.heap.size w1 w2) : Fine pb n bv v w n1 v1 w2 := h.grown (below_grown g) fun k e => by cases e
theorem In.grown {pb n : Nat} {v : Value} {w w' : World} {x : Addr} {row : Option Nat} (h : In pb n v w x) (g : w.grownBy w' row) : In pb n v w' x := ⟨h.1, Nat.lt_of_lt_of_le h.2.1 g.size, h.2.2⟩
theorem New.up {pb n n1 : Nat} {bv v v1 : Value} {w w1 : World} {x : Addr} (h : Fine pb n bv v w n1 v1 w1) (hx : New n1 v1 w1 x) : New n v w x := by
  have h1 := h.step.size
  have h2 := h.up.1
  rcases hx with c | ⟨c, d⟩
  · exact .inl (Nat.le_trans h1 c)
  · rcases h.up.2 with e | ⟨b, e, hb⟩
    · exact .inr ⟨c.trans e, by omega⟩
    · rw [e] at c
      injection c with c
      exact .inl (by omega)
theorem New.out {pb n : Nat} {v : Value} {w : World} {x : Addr} (h : New n v w x) (g : In pb n v w x) : False := by
  obtain ⟨g0, g1, g2, g3⟩ := g
  rcases h with c | ⟨c, d⟩
  · omega
  · have := g3 c; omega
theorem Got.place {pb n b : Nat} {bv v v' : Value} {w w' : World} (h : Got pb n bv v w b v' w') (i : Nat) (hi : i < 5) : New n v w ⟨b, n * 5 + i, none⟩ ∧ In pb (n + 1) v' w' ⟨b, n * 5 + i, none⟩ := by
  have hl := h.ca.lt h.own
  refine ⟨?_, rfl, hl.1, hl.2.1, fun _ => by simp only; omega⟩
  rcases h.up.2 with e | ⟨c, e, hc⟩
  · exact .inr ⟨h.own.symm.trans e, by simp only; omega⟩
  · have := h.own.symm.trans e
    injection this with this
    exact .inl (by simp only; omega)
/-- Places that are left as they are. -/
def Keep (w w' : World) (F : Addr → Prop) : Prop := ∀ x, F x → w'.cell? x = w.cell? x ∧ ∀ cur T, w.heap[x.block]? = some (.cells cur T (0, 0)) → ∃ cur', w'.heap[x.block]? = some (.cells cur' T (0, 0))
theorem Step.keep {pb n : Nat} {v : Value} {w w' : World} {F : Addr → Prop} (hC : Ca w pb n v) (g : Step pb n v w w') (h : ∀ x, F x → In pb n v w x) : Keep w w' F := fun x hx => by
  refine ⟨(h x hx).cell hC g, fun cur T hc => ?_⟩
  by_cases e : some x.block = v.ownBlock
  · obtain ⟨_, _, cur0, hcur⟩ := hC.lt e.symm
    have := hcur.symm.trans hc
    simp only [Option.some.injEq, Obj.cells.injEq] at this
    obtain ⟨rfl, rfl, _⟩ := this
    obtain ⟨cur', g1, _⟩ := g.cel x.block e.symm _ hcur
    exact ⟨cur', g1⟩
  · exact ⟨cur, (g.blk _ (h x hx).2.1 (h x hx).2.2.1 e).trans hc⟩
theorem grown_keep {w w' : World} {row : Option Nat} {F : Addr → Prop} (g : w.grownBy w' row) (h : ∀ x, F x → x.block < w.heap.size ∧ some x.block ≠ row) : Keep w w' F := fun x hx => by
  have e := g.block _ (h x hx).1 (h x hx).2
  exact ⟨World.cell?_of_block e, fun cur T hc => ⟨cur, e.trans hc⟩⟩
theorem set_keep {w : World} {F : Addr → Prop} {y : Addr} (u : Value) (hs : y.spot = none) (h : ∀ x, F x → y ≠ x) : Keep w (w.setCell y u) F := fun x hx => by
  refine ⟨World.cell?_setCell_other _ _ _ _ (h x hx), fun cur T hc => ?_⟩
  obtain ⟨yb, yo, ys⟩ := y
  simp only at hs
  subst hs
  by_cases e : x.block = yb
  · subst e; exact ⟨_, heap_set hc u⟩
  · exact ⟨cur, (heap_other _ _ _ _ _ e).trans hc⟩
theorem Keep.trans {w w1 w2 : World} {F : Addr → Prop} (h : Keep w w1 F) (g : Keep w1 w2 F) : Keep w w2 F := fun x hx =>
  ⟨(g x hx).1.trans (h x hx).1, fun cur T hc => by obtain ⟨c1, h1⟩ := (h x hx).2 cur T hc; exact (g x hx).2 c1 T h1⟩
theorem Cells.kept {w w' : World} {F G : Addr → Prop} {b o : Nat} {c0 c1 c2 c3 c4 : Value} (h : Cells w F b o c0 c1 c2 c3 c4) (hk : Keep w w' F) (hg : ∀ x, F x → G x) : Cells w' G b o c0 c1 c2 c3 c4 :=
  h.keep (fun x hx => (hk x hx).1) (fun x hx cur hc => (hk x hx).2 cur _ hc) hg
theorem RowIs.kept {w w' : World} {F G : Addr → Prop} {av : Value} {ps : List (Nat × Nat)} (h : RowIs w F av ps) (hk : Keep w w' F) (hg : ∀ x, F x → G x) : RowIs w' G av ps := by
  rcases h with h | ⟨ab, cap, h1, h2, h3⟩
  · exact .inl h
  · exact .inr ⟨ab, cap, h1, h2, fun i hi => ⟨(hk _ (h3 i hi).2).1.trans (h3 i hi).1, hg _ (h3 i hi).2⟩⟩
theorem KvIs.kept {w w' : World} {F G : Addr → Prop} {kv : Value} {ks : List (List Int)} {ps : List (Nat × Nat)} (h : KvIs w F kv ks ps) (hk : Keep w w' F) (hg : ∀ x, F x → G x) : KvIs w' G kv ks ps := by
  rcases h with h | ⟨kb, cap, cur, h1, h0, h2, h3, h4, h5⟩
  · exact .inl h
  · obtain ⟨cur', h6⟩ := (hk _ (h5 0 h0).2.2.1).2 cur _ h4
    exact .inr ⟨kb, cap, cur', h1, h0, h2, h3, h6, fun i hi => ⟨(hk _ (h5 i hi).2.2.1).1.trans (h5 i hi).1, (hk _ (h5 i hi).2.2.2).1.trans (h5 i hi).2.1, hg _ (h5 i hi).2.2.1, hg _ (h5 i hi).2.2.2⟩⟩
theorem Keep.sub {w w' : World} {F G : Addr → Prop} (h : Keep w w' F) (hg : ∀ x, G x → F x) : Keep w w' G := fun x hx => h x (hg x hx)
mutual
theorem Rep.kept {w w' : World} {F G : Addr → Prop} (hk : Keep w w' F) (hg : ∀ x, F x → G x) {b o : Nat} {v : FV} : Rep w F b o v → Rep w' G b o v
  | .lit _ _ _ t h => .lit _ _ _ t (h.kept hk hg)
  | .str _ _ _ s h => .str _ _ _ s (h.kept hk hg)
  | .num _ _ _ s h => .num _ _ _ s (h.kept hk hg)
  | .arr _ Fk _ _ av ps vs h1 h2 h3 h4 h5 => .arr _ Fk _ _ av ps vs (h1.kept hk hg) (h2.kept hk hg) (Reps.kept (hk.sub fun x hx => (h4 x hx).1) (fun _ hx => hx) h3) (fun x hx => ⟨hg _ (h4 x hx).1, (h4 x hx).2⟩) (fun x a b => hg _ (h5 x a b))
  | .obj _ Fk _ _ kv ps ms h1 h2 h3 h4 h5 => .obj _ Fk _ _ kv ps ms (h1.kept hk hg) (h2.kept hk hg) (Reps.kept (hk.sub fun x hx => (h4 x hx).1) (fun _ hx => hx) h3) (fun x hx => ⟨hg _ (h4 x hx).1, (h4 x hx).2⟩) (fun x a b => hg _ (h5 x a b))
theorem Reps.kept {w w' : World} {F G : Addr → Prop} (hk : Keep w w' F) (hg : ∀ x, F x → G x) {ps : List (Nat × Nat)} {vs : List FV} : Reps w F ps vs → Reps w' G ps vs
  | .nil _ => .nil _
  | .cons _ F1 F2 p v ps vs h1 h2 h3 h4 h5 => .cons _ F1 F2 p v ps vs (Rep.kept (hk.sub h3) (fun _ hx => hx) h1) (Reps.kept (hk.sub h4) (fun _ hx => hx) h2) (fun x hx => hg _ (h3 x hx)) (fun x hx => hg _ (h4 x hx)) h5
end
theorem Keep.refl (w : World) (F : Addr → Prop) : Keep w w F := fun x _ => ⟨rfl, fun cur T h => ⟨cur, h⟩⟩
theorem Reps.snoc {w : World} {G : Addr → Prop} {p : Nat × Nat} {v : FV} (h : Rep w G p.1 p.2 v) : ∀ {F : Addr → Prop} {ps : List (Nat × Nat)} {vs : List FV}, Reps w F ps vs → (∀ x, F x → G x → False) → Reps w (fun x => F x ∨ G x) (ps ++ [p]) (vs ++ [v])
  | F, _, _, .nil _, hd => .cons _ G (fun _ => False) _ _ _ _ h (.nil _) (fun _ hx => .inr hx) (fun _ hx => hx.elim) (fun _ _ hx => hx)
  | F, _, _, .cons _ F1 F2 q u ps vs h1 h2 h3 h4 h5, hd => .cons _ F1 (fun x => F2 x ∨ G x) q u _ _ h1 (Reps.snoc h h2 fun x a b => hd x (h4 x a) b) (fun x hx => .inl (h3 x hx)) (fun x hx => hx.elim (fun a => .inl (h4 x a)) .inr) (fun x a b => b.elim (h5 x a) (hd x (h3 x a)))
/-- An array at b, n·5, while its elements are read. -/
structure Arr (pb n : Nat) (bv v : Value) (w : World) (b nn : Nat) (vv : Value) (W : World) (F : Addr → Prop) (av : Value) (ps : List (Nat × Nat)) (vs : List FV) : Prop where
  fine : Fine pb n bv v w nn vv W
  own : W.ownsRow w.heap.size TP 1 av ps.length (ps.map ptr)
  cel : W.cell? ⟨b, n * 5, none⟩ = some nilS ∧ W.cell? ⟨b, n * 5 + 1, none⟩ = some (.bool false) ∧ W.cell? ⟨b, n * 5 + 2, none⟩ = some av ∧ W.cell? ⟨b, n * 5 + 3, none⟩ = some emptyS ∧ W.cell? ⟨b, n * 5 + 4, none⟩ = some (.int .i64 2)
  blk : ∃ cur, W.heap[b]? = some (.cells cur TV (0, 0))
  new : ∀ i, i < 5 → New n v w ⟨b, n * 5 + i, none⟩ ∧ In pb nn vv W ⟨b, n * 5 + i, none⟩
  reps : Reps W F ps vs
  foot : ∀ x, F x → New n v w x ∧ In pb nn vv W x ∧ some x.block ≠ av.ownBlock ∧ ∀ i, i < 5 → (⟨b, n * 5 + i, none⟩ : Addr) ≠ x
theorem row_in {pb n lo m : Nat} {bv v av : Value} {xs : List Value} {W : World} (hP : Pb W pb bv v) (hC : Ca W pb n v) (h : W.ownsRow lo TP 1 av m xs) {k : Nat} (hk : av.ownBlock = some k) : lo ≤ k ∧ k < W.heap.size ∧ k ≠ pb ∧ some k ≠ v.ownBlock := by
  rcases h.2 with ⟨rfl, _⟩ | ⟨g, cap, cur, rfl, h1, h2, _⟩
  · cases hk
  · simp only [Value.ownBlock, Option.some.injEq] at hk
    subst hk
    refine ⟨h1, heap_lt h2, ?_, ?_⟩
    · rintro rfl
      unfold Pb at hP
      rw [hP] at h2
      simp only [Option.some.injEq, Obj.cells.injEq] at h2
      exact absurd h2.2.1 (by decide)
    · intro e
      obtain ⟨_, _, cur', hc⟩ := hC.lt e.symm
      rw [hc] at h2
      simp only [Option.some.injEq, Obj.cells.injEq] at h2
      exact absurd h2.2.1 (by decide)
theorem Step.grown {pb n : Nat} {v : Value} {w w' : World} (h : Step pb n v w w') {av : Value} {lo m : Nat} {xs : List Value} {bv : Value} (hP : Pb w pb bv v) (hC : Ca w pb n v) (hr : w.ownsRow lo TP 1 av m xs) : w'.ownsRow lo TP 1 av m xs := by
  refine ⟨hr.1, ?_⟩
  rcases hr.2 with c | ⟨g, cap, cur, rfl, h1, h2, rest⟩
  · exact .inl c
  · have := row_in hP hC hr (k := g) rfl
    exact .inr ⟨g, cap, cur, rfl, h1, (h.blk g this.2.1 this.2.2.1 this.2.2.2).trans h2, rest⟩
/-- What a child's reading leaves of the array. -/
theorem Arr.child {pb n b nn n2 : Nat} {bv v vv v2 av : Value} {w W W2 : World} {F : Addr → Prop} {ps : List (Nat × Nat)} {vs : List FV} (hC : Ca w pb n v) (h : Arr pb n bv v w b nn vv W F av ps vs) (g : Fine pb nn bv vv W n2 v2 W2) : Arr pb n bv v w b n2 v2 W2 F av ps vs := by
  have hc : ∀ i, i < 5 → W2.cell? ⟨b, n * 5 + i, none⟩ = W.cell? ⟨b, n * 5 + i, none⟩ := fun i hi => (h.new i hi).2.cell h.fine.ca g.step
  refine ⟨h.fine.trans hC g, g.step.grown h.fine.pbs h.fine.ca h.own, ⟨(hc 0 (by omega)).trans h.cel.1, (hc 1 (by omega)).trans h.cel.2.1, (hc 2 (by omega)).trans h.cel.2.2.1, (hc 3 (by omega)).trans h.cel.2.2.2.1, (hc 4 (by omega)).trans h.cel.2.2.2.2⟩, ?_, fun i hi => ⟨(h.new i hi).1, (h.new i hi).2.step g.step g.up⟩, h.reps.kept (g.step.keep h.fine.ca fun x hx => (h.foot x hx).2.1) (fun _ hx => hx), fun x hx => ⟨(h.foot x hx).1, (h.foot x hx).2.1.step g.step g.up, (h.foot x hx).2.2⟩⟩
  obtain ⟨cur, hcur⟩ := h.blk
  exact (g.step.keep (F := fun x => x = ⟨b, n * 5 + 0, none⟩) h.fine.ca (fun x hx => by rw [hx]; exact (h.new 0 (by omega)).2) _ rfl).2 cur _ hcur
/-- A child is appended to the array. -/
theorem Arr.push {pb n b nn n2 : Nat} {bv v vv v2 av av' : Value} {w W W2 W3 : World} {F G : Addr → Prop} {ps : List (Nat × Nat)} {vs : List FV} {p : Nat × Nat} {u : FV} (hC : Ca w pb n v) (h0 : Arr pb n bv v w b nn vv W F av ps vs) (g : Fine pb nn bv vv W n2 v2 W2)
    (hR : Rep W2 G p.1 p.2 u) (hG : ∀ x, G x → New nn vv W x ∧ In pb n2 v2 W2 x) (o : Obj) (hown : W3.ownsRow w.heap.size TP 1 av' (ps.length + 1) (ps.map ptr ++ [ptr p])) (hgr : (W2.alloc o).grownBy W3 av.ownBlock) (hat : av'.ownBlock = av.ownBlock ∨ av'.ownBlock = some (W2.heap.size + 1)) :
    Arr pb n bv v w b n2 v2 (W3.setCell ⟨b, n * 5 + 2, none⟩ av') (fun x => F x ∨ G x) av' (ps ++ [p]) (vs ++ [u]) := by
  have h := h0.child hC g
  have g3 : W2.grownBy W3 av.ownBlock := (World.grownBy_alloc W2 o _).trans hgr
  have f3 : Fine pb n bv v w n2 v2 W3 := h.fine.grown g3 fun k hk => by have := row_in h.fine.pbs h.fine.ca h.own hk; exact ⟨this.1, this.2.2⟩
  have hi3 : ∀ i, i < 5 → In pb n2 v2 W3 ⟨b, n * 5 + i, none⟩ := fun i hi => (h.new i hi).2.grown g3
  obtain ⟨cur, hcur⟩ := h.blk
  have hbr : some b ≠ av.ownBlock := fun e => by
    rcases h.own.2 with ⟨rfl, _⟩ | ⟨g', cap, cur', rfl, h1, h2, _⟩
    · cases e
    · simp only [Value.ownBlock, Option.some.injEq] at e
      subst e
      rw [hcur] at h2
      simp only [Option.some.injEq, Obj.cells.injEq] at h2
      exact absurd h2.2.1 (by decide)
  have hbl := heap_lt hcur
  have hc3 : ∀ i, i < 5 → W3.cell? ⟨b, n * 5 + i, none⟩ = W2.cell? ⟨b, n * 5 + i, none⟩ := fun i hi => World.cell?_of_block (g3.block b hbl hbr)
  have hcs : ∀ i, i < 5 → i ≠ 2 → (W3.setCell ⟨b, n * 5 + 2, none⟩ av').cell? ⟨b, n * 5 + i, none⟩ = W2.cell? ⟨b, n * 5 + i, none⟩ := fun i hi hne => (World.cell?_setCell_other _ _ _ _ (fun e => by injection e with _ e _; omega)).trans (hc3 i hi)
  have hb3 : W3.heap[b]? = some (.cells cur TV (0, 0)) := (g3.block b hbl hbr).trans hcur
  have hrow : ∀ x, F x ∨ G x → x.block < W2.heap.size ∧ some x.block ≠ av.ownBlock ∧ ∀ i, i < 5 → (⟨b, n * 5 + i, none⟩ : Addr) ≠ x := fun x hx => by
    rcases hx with hx | hx
    · exact ⟨(h.foot x hx).2.1.2.1, (h.foot x hx).2.2⟩
    · refine ⟨(hG x hx).2.2.1, fun e => ?_, fun i hi e => (hG x hx).1.out (by rw [← e]; exact (h0.new i hi).2)⟩
      have := row_in h0.fine.pbs h0.fine.ca h0.own e.symm
      rcases (hG x hx).1 with c | ⟨c, _⟩
      · omega
      · exact this.2.2.2 c
  have hk : Keep W2 (W3.setCell ⟨b, n * 5 + 2, none⟩ av') (fun x => F x ∨ G x) := (grown_keep g3 fun x hx => ⟨(hrow x hx).1, (hrow x hx).2.1⟩).trans (set_keep _ rfl fun x hx => (hrow x hx).2.2 2 (by omega))
  refine ⟨f3.set (h.new 2 (by omega)).1 (hi3 2 (by omega)) av', ?_, ⟨(hcs 0 (by omega) (by omega)).trans h.cel.1, (hcs 1 (by omega) (by omega)).trans h.cel.2.1, ?_, (hcs 3 (by omega) (by omega)).trans h.cel.2.2.2.1, (hcs 4 (by omega) (by omega)).trans h.cel.2.2.2.2⟩, ⟨_, heap_set hb3 av'⟩, fun i hi => ⟨(h.new i hi).1, (hi3 i hi).set _⟩, ?_, fun x hx => ?_⟩
  · rw [List.length_append, List.map_append]
    refine ⟨hown.1, ?_⟩
    rcases hown.2 with c | ⟨g', cap, cur', e, h1, h2, rest⟩
    · exact .inl c
    · refine .inr ⟨g', cap, cur', e, h1, (heap_other _ _ _ _ _ ?_).trans h2, rest⟩
      rintro rfl
      rw [hb3] at h2
      simp only [Option.some.injEq, Obj.cells.injEq] at h2
      exact absurd h2.2.1 (by decide)
  · exact World.cell?_setCell_same _ _ _ ((hc3 2 (by omega)).trans h.cel.2.2.1)
  · exact Reps.snoc (hR.kept (fun x hx => hk x (.inr hx)) fun _ hx => hx) (h.reps.kept (fun x hx => hk x (.inl hx)) fun _ hx => hx) fun x a b => (hG x b).1.out (h0.foot x a).2.1
  · refine ⟨?_, ?_, fun e => ?_, (hrow x hx).2.2⟩
    · rcases hx with hx | hx
      · exact (h.foot x hx).1
      · exact (hG x hx).1.up h0.fine
    · refine In.set (In.grown ?_ g3) _
      rcases hx with hx | hx
      · exact (h.foot x hx).2.1
      · exact (hG x hx).2
    · have := hrow x hx
      rcases hat with e1 | e1
      · exact this.2.1 (e.trans e1)
      · rw [e1] at e; injection e with e; omega
theorem Arr.rep {pb n b nn : Nat} {bv v vv av : Value} {w W : World} {F : Addr → Prop} {ps : List (Nat × Nat)} {vs : List FV} (h : Arr pb n bv v w b nn vv W F av ps vs) : ∃ G, Rep W G b (n * 5) (.arr vs) ∧ ∀ x, G x → New n v w x ∧ In pb nn vv W x := by
  refine ⟨fun x => F x ∨ (∃ i, i < 5 ∧ x = ⟨b, n * 5 + i, none⟩) ∨ (x.spot = none ∧ some x.block = av.ownBlock), ?_, fun x hx => ?_⟩
  · refine .arr _ F b (n * 5) av ps vs ⟨h.cel, ⟨.inr (.inl ⟨0, by omega, rfl⟩), .inr (.inl ⟨1, by omega, rfl⟩), .inr (.inl ⟨2, by omega, rfl⟩), .inr (.inl ⟨3, by omega, rfl⟩), .inr (.inl ⟨4, by omega, rfl⟩)⟩, h.blk⟩ ?_ h.reps (fun x hx => ⟨.inl hx, (h.foot x hx).2.2⟩) (fun x a b => .inr (.inr ⟨a, b⟩))
    rcases h.own.2 with ⟨e1, e2⟩ | ⟨g, cap, cur, e1, h1, h2, h3, h4, h5, h6⟩
    · exact .inl ⟨List.eq_nil_of_length_eq_zero e2, e1⟩
    · refine .inr ⟨g, cap, e1, h3, fun i hi => ⟨?_, .inr (.inr ⟨rfl, by rw [e1]; rfl⟩)⟩⟩
      have h7 : W.cell? ⟨g, i, none⟩ = (ps.map ptr)[i]? := (e1 ▸ h.own).cellAt i (by omega)
      rw [h7, List.getElem?_map]
  · rcases hx with hx | ⟨i, hi, rfl⟩ | ⟨hs, hx⟩
    · exact ⟨(h.foot x hx).1, (h.foot x hx).2.1⟩
    · exact h.new i hi
    · have := row_in h.fine.pbs h.fine.ca h.own hx.symm
      exact ⟨.inl this.1, hs, this.2.1, this.2.2.1, fun e => absurd e this.2.2.2⟩
end Go.Proofs.YtjfofbgnppdlgaaDoor.Fp
