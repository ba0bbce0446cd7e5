/- Proved here: parts of the law FnAlValid (the texts FpFine FpArr GjV GjStr GjNum GjWord GjArr GjObj GjAny), no conditions of their own beyond what each theorem says. -/
import Derived.Test.YtlhaefblchpjhaaGreatDoorPa4
import Derived.Maps.AppendAt
import Derived.Deep.LoopGhost
import Derived.ScopeJumps
import Derived.WalkMore
section
namespace Go.Proofs.YtlhaefblchpjhaaGreatDoor.Fp
open Go.RowKit Go.Proofs.YtlhaefblchpjhaaGreatDoorW.PrintWords Go.Proofs.YtlhaefblchpjhaaGreatDoorW.PrintLast Go.Proofs.YtlhaefblchpjhaaGreatDoorW.PrintMore
set_option linter.unusedVariables false
set_option linter.unusedSimpArgs false
abbrev TP : TypeId := 67
structure Fine (pb n : Nat) (bv v : Value) (w : World) (n' : Nat) (v' : Value) (w' : World) : Prop where
  pbs : Pb w' pb bv v'
  ca : Ca w' pb n' v'
  step : Step pb n v w w'
  up : Up n n' v v' w
theorem Fine.refl {pb n : Nat} {bv v : Value} {w : World} (hP : Pb w pb bv v) (hC : Ca w pb n v) : Fine pb n bv v w n v w := ⟨hP, hC, Step.refl _ _ _ _, Up.refl _ _ _⟩
theorem Fine.trans {pb n n1 n2 : Nat} {bv v v1 v2 : Value} {w w1 w2 : World} (hC : Ca w pb n v) (h : Fine pb n bv v w n1 v1 w1) (g : Fine pb n1 bv v1 w1 n2 v2 w2) : Fine pb n bv v w n2 v2 w2 :=
  ⟨g.pbs, g.ca, h.step.trans hC h.up g.step, h.up.trans g.up h.step.size⟩
theorem Got.fine {pb n b : Nat} {bv v v' : Value} {w w' : World} (h : Got pb n bv v w b v' w') : Fine pb n bv v w (n + 1) v' w' := ⟨h.pbs, h.ca, h.step, h.up⟩
theorem Ca.set {pb n : Nat} {v : Value} {w : World} {x : Addr} (h : Ca w pb n v) (hx : In pb n v w x) (u : Value) : Ca (w.setCell x u) pb n v := by
  obtain ⟨xb, xo, xs⟩ := x
  obtain ⟨h0, h1, h2, h3⟩ := hx
  simp only at h0 h1 h2 h3
  subst h0
  rcases h with h | ⟨cb, cap, cur, rfl, g1, g2, g3, g4, g5, g6⟩
  · exact .inl h
  · by_cases e : xb = cb
    · subst e
      have := h3 rfl
      refine .inr ⟨_, cap, _, rfl, heap_set g1 u, g2, g3, by rw [Array.size_setIfInBounds]; exact g4, g5, fun j i a1 a2 a3 => ?_⟩
      rw [Array.getElem?_setIfInBounds_ne (by omega)]
      exact g6 j i a1 a2 a3
    · exact .inr ⟨_, cap, cur, rfl, (heap_other _ _ _ _ _ (Ne.symm e)).trans g1, g2, g3, g4, g5, g6⟩
theorem Pb.other {pb : Nat} {bv v : Value} {w : World} {x : Addr} (h : Pb w pb bv v) (hx : x.block ≠ pb) (u : Value) : Pb (w.setCell x u) pb bv v := by
  unfold Pb
  rw [Below.heap_setCell w x u pb (Ne.symm hx)]
  exact h
theorem heap_lt {w : World} {k : Nat} {o : Obj} (h : w.heap[k]? = some o) : k < w.heap.size := (Array.getElem?_eq_some_iff.1 h).1
theorem Step.set {pb n : Nat} {v : Value} {w w1 : World} {x : Addr} (h : Step pb n v w w1) (hs : x.spot = none) (hx : New n v w x) (u : Value) : Step pb n v w (w1.setCell x u) := by
  obtain ⟨xb, xo, xs⟩ := x
  simp only at hs
  subst hs
  refine ⟨h.out, by rw [set_size]; exact h.size, fun k a1 a2 a3 => (heap_other _ _ _ _ _ ?_).trans (h.blk k a1 a2 a3), fun cb a1 cur a2 => ?_⟩
  · rintro rfl
    rcases hx with c | ⟨c, _⟩
    · exact absurd a1 (Nat.not_lt.2 c)
    · exact a3 c
  · obtain ⟨cur', b1, b2, b3⟩ := h.cel cb a1 cur a2
    by_cases e : cb = xb
    · subst e
      refine ⟨_, heap_set b1 u, by rw [Array.size_setIfInBounds]; exact b2, fun j hj => ?_⟩
      rcases hx with c | ⟨_, c⟩
      · exact absurd (heap_lt a2) (Nat.not_lt.2 c)
      · simp only at c
        rw [Array.getElem?_setIfInBounds_ne (by omega)]
        exact b3 j hj
    · exact ⟨cur', (heap_other _ _ _ _ _ e).trans b1, b2, b3⟩
theorem Fine.set {pb n n1 : Nat} {bv v v1 : Value} {w w1 : World} {x : Addr} (h : Fine pb n bv v w n1 v1 w1) (hx : New n v w x) (hi : In pb n1 v1 w1 x) (u : Value) : Fine pb n bv v w n1 v1 (w1.setCell x u) :=
  ⟨h.pbs.other hi.2.2.1 u, h.ca.set hi u, h.step.set hi.1 hx u, h.up⟩
theorem In.set {pb n : Nat} {v : Value} {w : World} {x y : Addr} (h : In pb n v w x) (u : Value) : In pb n v (w.setCell y u) x := ⟨h.1, by rw [set_size]; exact h.2.1, h.2.2⟩
theorem Fine.grown {pb n n1 : Nat} {bv v v1 : Value} {w w1 w2 : World} {row : Option Nat} (h : Fine pb n bv v w n1 v1 w1) (g : w1.grownBy w2 row) (hr : ∀ k, row = some k → w.heap.size ≤ k ∧ k ≠ pb ∧ some k ≠ v1.ownBlock) : Fine pb n bv v w n1 v1 w2 := by
  refine ⟨(g.block pb h.pbs.lt fun e => (hr pb e.symm).2.1 rfl).trans h.pbs, ?_, ⟨⟨g.os.trans h.step.out.1, g.tape.trans h.step.out.2.1, g.output.trans h.step.out.2.2⟩, Nat.le_trans h.step.size g.size, fun k a1 a2 a3 => ?_, fun cb a1 cur a2 => ?_⟩, h.up⟩
  · rcases h.ca with c | ⟨cb, cap, cur, rfl, g1, rest⟩
    · exact .inl c
    · exact .inr ⟨cb, cap, cur, rfl, (g.block cb (heap_lt g1) fun e => (hr cb e.symm).2.2 rfl).trans g1, rest⟩
  · exact (g.block k (Nat.lt_of_lt_of_le a1 h.step.size) fun e => absurd (hr k e.symm).1 (Nat.not_le.2 a1)).trans (h.step.blk k a1 a2 a3)
  · obtain ⟨cur', b1, b2, b3⟩ := h.step.cel cb a1 cur a2
    exact ⟨cur', (g.block cb (heap_lt b1) fun e => absurd (hr cb e.symm).1 (Nat.not_le.2 (heap_lt a2))).trans b1, b2, b3⟩
theorem below_grown {w w' : World} (h : Below w.heap.size w w') : w.grownBy w' none := ⟨h.os, h.tape, h.output, h.size, fun k hk _ => h.block k hk⟩
theorem Fine.below {pb n n1 : Nat} {bv v v1 : Value} {w w1 w2 : World} (h : Fine pb n bv v w n1 v1 w1) (g : Below w1.heap.size w1 w2) : Fine pb n bv v w n1 v1 w2 := h.grown (below_grown g) fun k e => by cases e
theorem In.grown {pb n : Nat} {v : Value} {w w' : World} {x : Addr} {row : Option Nat} (h : In pb n v w x) (g : w.grownBy w' row) : In pb n v w' x := ⟨h.1, Nat.lt_of_lt_of_le h.2.1 g.size, h.2.2⟩
theorem New.up {pb n n1 : Nat} {bv v v1 : Value} {w w1 : World} {x : Addr} (h : Fine pb n bv v w n1 v1 w1) (hx : New n1 v1 w1 x) : New n v w x := by
  have h1 := h.step.size
  have h2 := h.up.1
  rcases hx with c | ⟨c, d⟩
  · exact .inl (Nat.le_trans h1 c)
  · rcases h.up.2 with e | ⟨b, e, hb⟩
    · exact .inr ⟨c.trans e, by omega⟩
    · rw [e] at c
      injection c with c
      exact .inl (by omega)
theorem New.out {pb n : Nat} {v : Value} {w : World} {x : Addr} (h : New n v w x) (g : In pb n v w x) : False := by
  obtain ⟨g0, g1, g2, g3⟩ := g
  rcases h with c | ⟨c, d⟩
  · omega
  · have := g3 c; omega
theorem Got.place {pb n b : Nat} {bv v v' : Value} {w w' : World} (h : Got pb n bv v w b v' w') (i : Nat) (hi : i < 5) : New n v w ⟨b, n * 5 + i, none⟩ ∧ In pb (n + 1) v' w' ⟨b, n * 5 + i, none⟩ := by
  have hl := h.ca.lt h.own
  refine ⟨?_, rfl, hl.1, hl.2.1, fun _ => by simp only; omega⟩
  rcases h.up.2 with e | ⟨c, e, hc⟩
  · exact .inr ⟨h.own.symm.trans e, by simp only; omega⟩
  · have := h.own.symm.trans e
    injection this with this
    exact .inl (by simp only; omega)
/-- Places that are left as they are. -/
def Keep (w w' : World) (F : Addr → Prop) : Prop := ∀ x, F x → w'.cell? x = w.cell? x ∧ ∀ cur T, w.heap[x.block]? = some (.cells cur T (0, 0)) → ∃ cur', w'.heap[x.block]? = some (.cells cur' T (0, 0))
theorem Step.keep {pb n : Nat} {v : Value} {w w' : World} {F : Addr → Prop} (hC : Ca w pb n v) (g : Step pb n v w w') (h : ∀ x, F x → In pb n v w x) : Keep w w' F := fun x hx => by
  refine ⟨(h x hx).cell hC g, fun cur T hc => ?_⟩
  by_cases e : some x.block = v.ownBlock
  · obtain ⟨_, _, cur0, hcur⟩ := hC.lt e.symm
    have := hcur.symm.trans hc
    simp only [Option.some.injEq, Obj.cells.injEq] at this
    obtain ⟨rfl, rfl, _⟩ := this
    obtain ⟨cur', g1, _⟩ := g.cel x.block e.symm _ hcur
    exact ⟨cur', g1⟩
  · exact ⟨cur, (g.blk _ (h x hx).2.1 (h x hx).2.2.1 e).trans hc⟩
theorem grown_keep {w w' : World} {row : Option Nat} {F : Addr → Prop} (g : w.grownBy w' row) (h : ∀ x, F x → x.block < w.heap.size ∧ some x.block ≠ row) : Keep w w' F := fun x hx => by
  have e := g.block _ (h x hx).1 (h x hx).2
  exact ⟨World.cell?_of_block e, fun cur T hc => ⟨cur, e.trans hc⟩⟩
theorem set_keep {w : World} {F : Addr → Prop} {y : Addr} (u : Value) (hs : y.spot = none) (h : ∀ x, F x → y ≠ x) : Keep w (w.setCell y u) F := fun x hx => by
  refine ⟨World.cell?_setCell_other _ _ _ _ (h x hx), fun cur T hc => ?_⟩
  obtain ⟨yb, yo, ys⟩ := y
  simp only at hs
  subst hs
  by_cases e : x.block = yb
  · subst e; exact ⟨_, heap_set hc u⟩
  · exact ⟨cur, (heap_other _ _ _ _ _ e).trans hc⟩
theorem Keep.trans {w w1 w2 : World} {F : Addr → Prop} (h : Keep w w1 F) (g : Keep w1 w2 F) : Keep w w2 F := fun x hx =>
  ⟨(g x hx).1.trans (h x hx).1, fun cur T hc => by obtain ⟨c1, h1⟩ := (h x hx).2 cur T hc; exact (g x hx).2 c1 T h1⟩
theorem Cells.kept {w w' : World} {F G : Addr → Prop} {b o : Nat} {c0 c1 c2 c3 c4 : Value} (h : Cells w F b o c0 c1 c2 c3 c4) (hk : Keep w w' F) (hg : ∀ x, F x → G x) : Cells w' G b o c0 c1 c2 c3 c4 :=
  h.keep (fun x hx => (hk x hx).1) (fun x hx cur hc => (hk x hx).2 cur _ hc) hg
theorem RowIs.kept {w w' : World} {F G : Addr → Prop} {av : Value} {ps : List (Nat × Nat)} (h : RowIs w F av ps) (hk : Keep w w' F) (hg : ∀ x, F x → G x) : RowIs w' G av ps := by
  rcases h with h | ⟨ab, cap, h1, h2, h3⟩
  · exact .inl h
  · exact .inr ⟨ab, cap, h1, h2, fun i hi => ⟨(hk _ (h3 i hi).2).1.trans (h3 i hi).1, hg _ (h3 i hi).2⟩⟩
theorem KvIs.kept {w w' : World} {F G : Addr → Prop} {kv : Value} {ks : List (List Int)} {ps : List (Nat × Nat)} (h : KvIs w F kv ks ps) (hk : Keep w w' F) (hg : ∀ x, F x → G x) : KvIs w' G kv ks ps := by
  rcases h with h | ⟨kb, cap, cur, h1, h0, h2, h3, h4, h5⟩
  · exact .inl h
  · obtain ⟨cur', h6⟩ := (hk _ (h5 0 h0).2.2.1).2 cur _ h4
    exact .inr ⟨kb, cap, cur', h1, h0, h2, h3, h6, fun i hi => ⟨(hk _ (h5 i hi).2.2.1).1.trans (h5 i hi).1, (hk _ (h5 i hi).2.2.2).1.trans (h5 i hi).2.1, hg _ (h5 i hi).2.2.1, hg _ (h5 i hi).2.2.2⟩⟩
theorem Keep.sub {w w' : World} {F G : Addr → Prop} (h : Keep w w' F) (hg : ∀ x, G x → F x) : Keep w w' G := fun x hx => h x (hg x hx)
mutual
theorem Rep.kept {w w' : World} {F G : Addr → Prop} (hk : Keep w w' F) (hg : ∀ x, F x → G x) {b o : Nat} {v : FV} : Rep w F b o v → Rep w' G b o v
  | .lit _ _ _ t h => .lit _ _ _ t (h.kept hk hg)
  | .str _ _ _ s h => .str _ _ _ s (h.kept hk hg)
  | .num _ _ _ s h => .num _ _ _ s (h.kept hk hg)
  | .arr _ Fk _ _ av ps vs h1 h2 h3 h4 h5 => .arr _ Fk _ _ av ps vs (h1.kept hk hg) (h2.kept hk hg) (Reps.kept (hk.sub fun x hx => (h4 x hx).1) (fun _ hx => hx) h3) (fun x hx => ⟨hg _ (h4 x hx).1, (h4 x hx).2⟩) (fun x a b => hg _ (h5 x a b))
  | .obj _ Fk _ _ kv ps ms h1 h2 h3 h4 h5 => .obj _ Fk _ _ kv ps ms (h1.kept hk hg) (h2.kept hk hg) (Reps.kept (hk.sub fun x hx => (h4 x hx).1) (fun _ hx => hx) h3) (fun x hx => ⟨hg _ (h4 x hx).1, (h4 x hx).2⟩) (fun x a b => hg _ (h5 x a b))
theorem Reps.kept {w w' : World} {F G : Addr → Prop} (hk : Keep w w' F) (hg : ∀ x, F x → G x) {ps : List (Nat × Nat)} {vs : List FV} : Reps w F ps vs → Reps w' G ps vs
  | .nil _ => .nil _
  | .cons _ F1 F2 p v ps vs h1 h2 h3 h4 h5 => .cons _ F1 F2 p v ps vs (Rep.kept (hk.sub h3) (fun _ hx => hx) h1) (Reps.kept (hk.sub h4) (fun _ hx => hx) h2) (fun x hx => hg _ (h3 x hx)) (fun x hx => hg _ (h4 x hx)) h5
end
theorem Reps.snoc {w : World} {G : Addr → Prop} {p : Nat × Nat} {v : FV} (h : Rep w G p.1 p.2 v) : ∀ {F : Addr → Prop} {ps : List (Nat × Nat)} {vs : List FV}, Reps w F ps vs → (∀ x, F x → G x → False) → Reps w (fun x => F x ∨ G x) (ps ++ [p]) (vs ++ [v])
  | F, _, _, .nil _, hd => .cons _ G (fun _ => False) _ _ _ _ h (.nil _) (fun _ hx => .inr hx) (fun _ hx => hx.elim) (fun _ _ hx => hx)
  | F, _, _, .cons _ F1 F2 q u ps vs h1 h2 h3 h4 h5, hd => .cons _ F1 (fun x => F2 x ∨ G x) q u _ _ h1 (Reps.snoc h h2 fun x a b => hd x (h4 x a) b) (fun x hx => .inl (h3 x hx)) (fun x hx => hx.elim (fun a => .inl (h4 x a)) .inr) (fun x a b => b.elim (h5 x a) (hd x (h3 x a)))
/-- An array at b, n·5, while its elements are read. -/
structure Arr (pb n : Nat) (bv v : Value) (w : World) (b nn : Nat) (vv : Value) (W : World) (F : Addr → Prop) (av : Value) (ps : List (Nat × Nat)) (vs : List FV) : Prop where
  fine : Fine pb n bv v w nn vv W
  own : W.ownsRow w.heap.size TP 1 av ps.length (ps.map ptr)
  cel : W.cell? ⟨b, n * 5, none⟩ = some nilS ∧ W.cell? ⟨b, n * 5 + 1, none⟩ = some (.bool false) ∧ W.cell? ⟨b, n * 5 + 2, none⟩ = some av ∧ W.cell? ⟨b, n * 5 + 3, none⟩ = some emptyS ∧ W.cell? ⟨b, n * 5 + 4, none⟩ = some (.int .i64 2)
  blk : ∃ cur, W.heap[b]? = some (.cells cur TV (0, 0))
  new : ∀ i, i < 5 → New n v w ⟨b, n * 5 + i, none⟩ ∧ In pb nn vv W ⟨b, n * 5 + i, none⟩
  reps : Reps W F ps vs
  foot : ∀ x, F x → New n v w x ∧ In pb nn vv W x ∧ some x.block ≠ av.ownBlock ∧ ∀ i, i < 5 → (⟨b, n * 5 + i, none⟩ : Addr) ≠ x
theorem row_in {pb n lo m : Nat} {bv v av : Value} {xs : List Value} {W : World} (hP : Pb W pb bv v) (hC : Ca W pb n v) (h : W.ownsRow lo TP 1 av m xs) {k : Nat} (hk : av.ownBlock = some k) : lo ≤ k ∧ k < W.heap.size ∧ k ≠ pb ∧ some k ≠ v.ownBlock := by
  rcases h.2 with ⟨rfl, _⟩ | ⟨g, cap, cur, rfl, h1, h2, _⟩
  · cases hk
  · simp only [Value.ownBlock, Option.some.injEq] at hk
    subst hk
    refine ⟨h1, heap_lt h2, ?_, ?_⟩
    · rintro rfl
      unfold Pb at hP
      rw [hP] at h2
      simp only [Option.some.injEq, Obj.cells.injEq] at h2
      exact absurd h2.2.1 (by decide)
    · intro e
      obtain ⟨_, _, cur', hc⟩ := hC.lt e.symm
      rw [hc] at h2
      simp only [Option.some.injEq, Obj.cells.injEq] at h2
      exact absurd h2.2.1 (by decide)
theorem Step.grown {pb n : Nat} {v : Value} {w w' : World} (h : Step pb n v w w') {av : Value} {lo m : Nat} {xs : List Value} {bv : Value} (hP : Pb w pb bv v) (hC : Ca w pb n v) (hr : w.ownsRow lo TP 1 av m xs) : w'.ownsRow lo TP 1 av m xs := by
  refine ⟨hr.1, ?_⟩
  rcases hr.2 with c | ⟨g, cap, cur, rfl, h1, h2, rest⟩
  · exact .inl c
  · have := row_in hP hC hr (k := g) rfl
    exact .inr ⟨g, cap, cur, rfl, h1, (h.blk g this.2.1 this.2.2.1 this.2.2.2).trans h2, rest⟩
/-- What a child's reading leaves of the array. -/
theorem Arr.child {pb n b nn n2 : Nat} {bv v vv v2 av : Value} {w W W2 : World} {F : Addr → Prop} {ps : List (Nat × Nat)} {vs : List FV} (hC : Ca w pb n v) (h : Arr pb n bv v w b nn vv W F av ps vs) (g : Fine pb nn bv vv W n2 v2 W2) : Arr pb n bv v w b n2 v2 W2 F av ps vs := by
  have hc : ∀ i, i < 5 → W2.cell? ⟨b, n * 5 + i, none⟩ = W.cell? ⟨b, n * 5 + i, none⟩ := fun i hi => (h.new i hi).2.cell h.fine.ca g.step
  refine ⟨h.fine.trans hC g, g.step.grown h.fine.pbs h.fine.ca h.own, ⟨(hc 0 (by omega)).trans h.cel.1, (hc 1 (by omega)).trans h.cel.2.1, (hc 2 (by omega)).trans h.cel.2.2.1, (hc 3 (by omega)).trans h.cel.2.2.2.1, (hc 4 (by omega)).trans h.cel.2.2.2.2⟩, ?_, fun i hi => ⟨(h.new i hi).1, (h.new i hi).2.step g.step g.up⟩, h.reps.kept (g.step.keep h.fine.ca fun x hx => (h.foot x hx).2.1) (fun _ hx => hx), fun x hx => ⟨(h.foot x hx).1, (h.foot x hx).2.1.step g.step g.up, (h.foot x hx).2.2⟩⟩
  obtain ⟨cur, hcur⟩ := h.blk
  exact (g.step.keep (F := fun x => x = ⟨b, n * 5 + 0, none⟩) h.fine.ca (fun x hx => by rw [hx]; exact (h.new 0 (by omega)).2) _ rfl).2 cur _ hcur
/-- A child is appended to the array. -/
theorem Arr.push {pb n b nn n2 : Nat} {bv v vv v2 av av' : Value} {w W W2 W3 : World} {F G : Addr → Prop} {ps : List (Nat × Nat)} {vs : List FV} {p : Nat × Nat} {u : FV} (hC : Ca w pb n v) (h0 : Arr pb n bv v w b nn vv W F av ps vs) (g : Fine pb nn bv vv W n2 v2 W2)
    (hR : Rep W2 G p.1 p.2 u) (hG : ∀ x, G x → New nn vv W x ∧ In pb n2 v2 W2 x) (o : Obj) (hown : W3.ownsRow w.heap.size TP 1 av' (ps.length + 1) (ps.map ptr ++ [ptr p])) (hgr : (W2.alloc o).grownBy W3 av.ownBlock) (hat : av'.ownBlock = av.ownBlock ∨ av'.ownBlock = some (W2.heap.size + 1)) :
    Arr pb n bv v w b n2 v2 (W3.setCell ⟨b, n * 5 + 2, none⟩ av') (fun x => F x ∨ G x) av' (ps ++ [p]) (vs ++ [u]) := by
  have h := h0.child hC g
  have g3 : W2.grownBy W3 av.ownBlock := (World.grownBy_alloc W2 o _).trans hgr
  have f3 : Fine pb n bv v w n2 v2 W3 := h.fine.grown g3 fun k hk => by have := row_in h.fine.pbs h.fine.ca h.own hk; exact ⟨this.1, this.2.2⟩
  have hi3 : ∀ i, i < 5 → In pb n2 v2 W3 ⟨b, n * 5 + i, none⟩ := fun i hi => (h.new i hi).2.grown g3
  obtain ⟨cur, hcur⟩ := h.blk
  have hbr : some b ≠ av.ownBlock := fun e => by
    rcases h.own.2 with ⟨rfl, _⟩ | ⟨g', cap, cur', rfl, h1, h2, _⟩
    · cases e
    · simp only [Value.ownBlock, Option.some.injEq] at e
      subst e
      rw [hcur] at h2
      simp only [Option.some.injEq, Obj.cells.injEq] at h2
      exact absurd h2.2.1 (by decide)
  have hbl := heap_lt hcur
  have hc3 : ∀ i, i < 5 → W3.cell? ⟨b, n * 5 + i, none⟩ = W2.cell? ⟨b, n * 5 + i, none⟩ := fun i hi => World.cell?_of_block (g3.block b hbl hbr)
  have hcs : ∀ i, i < 5 → i ≠ 2 → (W3.setCell ⟨b, n * 5 + 2, none⟩ av').cell? ⟨b, n * 5 + i, none⟩ = W2.cell? ⟨b, n * 5 + i, none⟩ := fun i hi hne => (World.cell?_setCell_other _ _ _ _ (fun e => by injection e with _ e _; omega)).trans (hc3 i hi)
  have hb3 : W3.heap[b]? = some (.cells cur TV (0, 0)) := (g3.block b hbl hbr).trans hcur
  have hrow : ∀ x, F x ∨ G x → x.block < W2.heap.size ∧ some x.block ≠ av.ownBlock ∧ ∀ i, i < 5 → (⟨b, n * 5 + i, none⟩ : Addr) ≠ x := fun x hx => by
    rcases hx with hx | hx
    · exact ⟨(h.foot x hx).2.1.2.1, (h.foot x hx).2.2⟩
    · refine ⟨(hG x hx).2.2.1, fun e => ?_, fun i hi e => (hG x hx).1.out (by rw [← e]; exact (h0.new i hi).2)⟩
      have := row_in h0.fine.pbs h0.fine.ca h0.own e.symm
      rcases (hG x hx).1 with c | ⟨c, _⟩
      · omega
      · exact this.2.2.2 c
  have hk : Keep W2 (W3.setCell ⟨b, n * 5 + 2, none⟩ av') (fun x => F x ∨ G x) := (grown_keep g3 fun x hx => ⟨(hrow x hx).1, (hrow x hx).2.1⟩).trans (set_keep _ rfl fun x hx => (hrow x hx).2.2 2 (by omega))
  refine ⟨f3.set (h.new 2 (by omega)).1 (hi3 2 (by omega)) av', ?_, ⟨(hcs 0 (by omega) (by omega)).trans h.cel.1, (hcs 1 (by omega) (by omega)).trans h.cel.2.1, ?_, (hcs 3 (by omega) (by omega)).trans h.cel.2.2.2.1, (hcs 4 (by omega) (by omega)).trans h.cel.2.2.2.2⟩, ⟨_, heap_set hb3 av'⟩, fun i hi => ⟨(h.new i hi).1, (hi3 i hi).set _⟩, ?_, fun x hx => ?_⟩
  · rw [List.length_append, List.map_append]
    refine ⟨hown.1, ?_⟩
    rcases hown.2 with c | ⟨g', cap, cur', e, h1, h2, rest⟩
    · exact .inl c
    · refine .inr ⟨g', cap, cur', e, h1, (heap_other _ _ _ _ _ ?_).trans h2, rest⟩
      rintro rfl
      rw [hb3] at h2
      simp only [Option.some.injEq, Obj.cells.injEq] at h2
      exact absurd h2.2.1 (by decide)
  · exact World.cell?_setCell_same _ _ _ ((hc3 2 (by omega)).trans h.cel.2.2.1)
  · exact Reps.snoc (hR.kept (fun x hx => hk x (.inr hx)) fun _ hx => hx) (h.reps.kept (fun x hx => hk x (.inl hx)) fun _ hx => hx) fun x a b => (hG x b).1.out (h0.foot x a).2.1
  · refine ⟨?_, ?_, fun e => ?_, (hrow x hx).2.2⟩
    · rcases hx with hx | hx
      · exact (h.foot x hx).1
      · exact (hG x hx).1.up h0.fine
    · refine In.set (In.grown ?_ g3) _
      rcases hx with hx | hx
      · exact (h.foot x hx).2.1
      · exact (hG x hx).2
    · have := hrow x hx
      rcases hat with e1 | e1
      · exact this.2.1 (e.trans e1)
      · rw [e1] at e; injection e with e; omega
theorem Arr.rep {pb n b nn : Nat} {bv v vv av : Value} {w W : World} {F : Addr → Prop} {ps : List (Nat × Nat)} {vs : List FV} (h : Arr pb n bv v w b nn vv W F av ps vs) : ∃ G, Rep W G b (n * 5) (.arr vs) ∧ ∀ x, G x → New n v w x ∧ In pb nn vv W x := by
  refine ⟨fun x => F x ∨ (∃ i, i < 5 ∧ x = ⟨b, n * 5 + i, none⟩) ∨ (x.spot = none ∧ some x.block = av.ownBlock), ?_, fun x hx => ?_⟩
  · refine .arr _ F b (n * 5) av ps vs ⟨h.cel, ⟨.inr (.inl ⟨0, by omega, rfl⟩), .inr (.inl ⟨1, by omega, rfl⟩), .inr (.inl ⟨2, by omega, rfl⟩), .inr (.inl ⟨3, by omega, rfl⟩), .inr (.inl ⟨4, by omega, rfl⟩)⟩, h.blk⟩ ?_ h.reps (fun x hx => ⟨.inl hx, (h.foot x hx).2.2⟩) (fun x a b => .inr (.inr ⟨a, b⟩))
    rcases h.own.2 with ⟨e1, e2⟩ | ⟨g, cap, cur, e1, h1, h2, h3, h4, h5, h6⟩
    · exact .inl ⟨List.eq_nil_of_length_eq_zero e2, e1⟩
    · refine .inr ⟨g, cap, e1, h3, fun i hi => ⟨?_, .inr (.inr ⟨rfl, by rw [e1]; rfl⟩)⟩⟩
      have h7 : W.cell? ⟨g, i, none⟩ = (ps.map ptr)[i]? := (e1 ▸ h.own).cellAt i (by omega)
      rw [h7, List.getElem?_map]
  · rcases hx with hx | ⟨i, hi, rfl⟩ | ⟨hs, hx⟩
    · exact ⟨(h.foot x hx).1, (h.foot x hx).2.1⟩
    · exact h.new i hi
    · have := row_in h.fine.pbs h.fine.ca h.own hx.symm
      exact ⟨.inl this.1, hs, this.2.1, this.2.2.1, fun e => absurd e this.2.2.2⟩
end Go.Proofs.YtlhaefblchpjhaaGreatDoor.Fp
end
section
namespace Go.Proofs.YtlhaefblchpjhaaGreatDoor.Fp
open Go.RowKit Go.Proofs.YtlhaefblchpjhaaGreatDoorW.PrintWords Go.Proofs.YtlhaefblchpjhaaGreatDoorW.PrintLast Go.Proofs.YtlhaefblchpjhaaGreatDoorW.PrintMore
open Go.Proofs.YtlhaefblchpjhaaGreatDoor.FjW (cut cut_cut cut_size cut_bytes cut_zero cut_bt bt_out D rd_D rd_D0 D_drop D_len D_nil D_cons ws_at skipWS errNew)
set_option linter.unusedVariables false
set_option linter.unusedSimpArgs false
theorem infoP : ∃ i0 z, Tryz.prog.info? TP = some i0 ∧ i0.zero = some z ∧ z.cells.size = 1 ∧ i0.size = 1 ∧ i0.bytes = 8 := by
  have h : (Tryz.prog.info? TP).map (fun i => (i.zero.map (·.cells.size), i.size, i.bytes)) = some (some 1, 1, 8) := by kernel_rfl
  cases hi : Tryz.prog.info? TP with
  | none => rw [hi] at h; cases h
  | some i0 =>
    rw [hi] at h
    simp only [Option.map_some, Option.some.injEq, Prod.mk.injEq] at h
    cases hz : i0.zero with
    | none => rw [hz] at h; simp at h
    | some z => rw [hz] at h; exact ⟨i0, z, rfl, hz, Option.some.inj h.1, h.2.1, h.2.2⟩
/-- append(row, one), of a row that is the function's own. -/
theorem wp_push {ops : Array Oper} {rest : List Oper} {o : Oper} {a : Act} {Q : Exit → Act → World → Prop} (W : World) (lo m : Nat) (av : Value) (xs : List Value) (u : Value) (hu : u.oneCell' = true) (hR : W.ownsRow lo TP 1 av m xs) (hlo : lo ≤ W.heap.size) (hm : m ≤ 1000000) (hgd : o.guard = none) (s x : Operand)
    (ho : o.op = .call { callee := .builtin .append, args := #[s, x], argTypes := #[73, 73] }) (hs : a.eval s = av) (hx : a.eval x = .slice (some ⟨W.heap.size, 0, none⟩) 1 1)
    (h : ∀ v' w', w'.ownsRow lo TP 1 v' (m + 1) (xs ++ [u]) → (W.alloc (.cells #[u] TP)).grownBy w' av.ownBlock → (v'.ownBlock = av.ownBlock ∨ v'.ownBlock = some (W.heap.size + 1)) → wpList Tryz.prog ops Q rest (a.put o.dst v') w') :
    wpList Tryz.prog ops Q (o :: rest) a (W.alloc (.cells #[u] TP)) := by
  obtain ⟨i0, z, hi, hz, hzc, hsz, hby⟩ := infoP
  have hsize : (W.alloc (.cells #[u] TP)).heap.size = W.heap.size + 1 := by show (W.heap.push _).size = _; rw [Array.size_push]
  refine wpList_append_own_at (P := Tryz.prog) _ hgd s x _ ho lo TP i0 z 1 8 Tryz.underlying73 hi hz hsz hby hzc (by decide) av m xs hs (hR.alloc _) _ 1 1 [u] hx rfl (cell_one_new _ _ _) (fun y hy => by simp at hy; rw [hy]; exact hu) (by simp only [maxLen]; omega) (by omega) (by omega) fun v' w' h1 h2 _ h3 => h v' w' h1 h2 ?_
  rw [hsize] at h3
  exact h3
theorem row_shape {W : World} {lo e m : Nat} {v : Value} {xs : List Value} (h : W.ownsRow lo e 1 v (m + 1) xs) : ∃ g cap, v = .slice (some ⟨g, 0, none⟩) (m + 1) cap := by
  rcases h.2 with ⟨_, h0⟩ | ⟨g, cap, cur, rfl, _⟩
  · omega
  · exact ⟨g, cap, rfl⟩
/-- Behind the blanks. -/
def nx (s : ByteArray) (p : Nat) : Nat := p + Fj.ws (D s p)
theorem nx_ge (s : ByteArray) (p : Nat) : p ≤ nx s p := Nat.le_add_right _ _
theorem ws_stop : ∀ l : List Int, Fj.ws (l.drop (Fj.ws l)) = 0
  | [] => rfl
  | c :: r => by
    by_cases b : Fj.blank c = true
    · have e : Fj.ws (c :: r) = Fj.ws r + 1 := by rw [Fj.ws, if_pos b]
      rw [e]; exact ws_stop r
    · have e : Fj.ws (c :: r) = 0 := by rw [Fj.ws, if_neg b]
      rw [e, List.drop_zero, e]
theorem nx_nx (s : ByteArray) (p : Nat) : nx s (nx s p) = nx s p := by
  have h : Fj.ws (D s (nx s p)) = 0 := by
    have := ws_stop (D s p)
    rwa [D_drop] at this
  unfold nx at h ⊢
  rw [h]; rfl
theorem nx_le (s : ByteArray) (p : Nat) (h : p ≤ s.size) : nx s p ≤ s.size := by
  have := Fj.ws_le (D s p)
  rw [D_len] at this
  unfold nx; omega
def vP (a : ByteArray) (k d p : Nat) : Option (FV × Nat) := (pval k d (D a p)).map fun r => (r.1, p + r.2)
def eP (a : ByteArray) (k d p : Nat) : Option (List FV × Nat) := (pels k d (D a p)).map fun r => (r.1, p + r.2)
theorem eP_succ (a : ByteArray) (k d p : Nat) : eP a (k + 1) d p = match vP a k d (nx a p) with
    | none => none
    | some v => if bt a (nx a v.2 : Int) = 44 then (eP a k d (nx a v.2 + 1)).map fun t => (v.1 :: t.1, t.2) else if bt a (nx a v.2 : Int) = 93 then some ([v.1], nx a v.2 + 1) else none := by
  unfold eP vP
  rw [pels, D_drop]
  show Option.map _ (match pval k d (D a (nx a p)) with | none => none | some v => _) = _
  cases hv : pval k d (D a (nx a p)) with
  | none => rfl
  | some v =>
    simp only [Option.map_some]
    have e1 : p + (Fj.ws (D a p) + v.2) = nx a p + v.2 := by unfold nx; omega
    rw [D_drop, e1, rd_D, D_drop]
    obtain ⟨N, hN⟩ : ∃ N, Fj.ws (D a p) + v.2 + Fj.ws (D a (nx a p + v.2)) = N := ⟨_, rfl⟩
    have e2 : p + N = nx a (nx a p + v.2) := by rw [← hN]; unfold nx; omega
    rw [hN, e2, show p + (N + 1) = nx a (nx a p + v.2) + 1 by omega]
    by_cases c : bt a (nx a (nx a p + v.2) : Int) = 44
    · rw [if_pos c, if_pos c]
      cases pels k d (D a (nx a (nx a p + v.2) + 1)) with
      | none => rfl
      | some r => simp only [Option.map_some]; congr 2; omega
    · rw [if_neg c, if_neg c]
      by_cases c2 : bt a (nx a (nx a p + v.2) : Int) = 93
      · rw [if_pos c2, if_pos c2]; simp only [Option.map_some]; congr 2; omega
      · rw [if_neg c2, if_neg c2]; rfl
theorem eP_nx (a : ByteArray) (k d p : Nat) : eP a (k + 1) d (nx a p) = eP a (k + 1) d p := by rw [eP_succ, eP_succ, nx_nx]
/-- An array's rest, behind the bracket that opens it. -/
def arrO (a : ByteArray) (k d : Nat) : Option (FV × Nat) := if bt a (nx a 0 : Int) = 93 then some (.arr [], nx a 0 + 1) else (eP a k d 0).map fun r => (.arr r.1, r.2)
def Out (pb n : Nat) (bv v : Value) (w : World) (a : ByteArray) (x : Nat) (r : Option (FV × Nat)) (e : Ending) (w' : World) : Prop :=
  ∃ n' v', Fine pb n bv v w n' v' w' ∧ match r with
    | none => n' ≤ n + a.size + x ∧ ∃ t T u, e = .returned (.tuple #[.pointer none, .string t, .iface T u])
    | some r => n' ≤ n + r.2 + x ∧ r.2 ≤ a.size ∧ ∃ b o F, e = .returned (.tuple #[.pointer (some ⟨b, o, none⟩), .string (cut a r.2), .nilIface]) ∧ Rep w' F b o r.1 ∧ ∀ y, F y → New n v w y ∧ In pb n' v' w' y
theorem out_none {pb n : Nat} {bv v : Value} {w : World} {a : ByteArray} {x : Nat} {r : Option (FV × Nat)} {e : Ending} {w' : World} (h : r = none) (n' : Nat) (v' : Value) (hf : Fine pb n bv v w n' v' w') (hn : n' ≤ n + a.size + x) (t : ByteArray) (T : TypeId) (u : Value) (he : e = .returned (.tuple #[.pointer none, .string t, .iface T u])) : Out pb n bv v w a x r e w' := by
  subst h; exact ⟨n', v', hf, hn, t, T, u, he⟩
/-- parseValue, with at most k fuel. -/
def VC (P : List Int → Prop) (k : Nat) : Prop := ∀ (pb n : Nat) (bv v : Value) (w : World) (a : ByteArray) (d : Nat), Pb w pb bv v → Ca w pb n v → n + a.size ≤ 1000000 → 2 * a.size + 1 ≤ k → P (bytesOf a) → d ≤ 300 →
    Calls Tryz.prog 70 #[.pointer (some ⟨pb, 1, none⟩), .string a, .int .i64 (d : Int)] w fun e w' => Out pb n bv v w a 0 (pval k d (bytesOf a)) e w'
theorem skipTo (a b c : ByteArray) (p : Nat) (hs : a.size ≤ 1000000) (hb : b = cut a p) (hc : c = cut a (nx a p)) (w : World) :
    Calls Tryz.prog 68 #[.string b] w fun e w' => e = .returned (.string c) ∧ w = w' := by
  refine (skipWS b (by rw [hb, cut_size]; omega) w).mono fun e w' h => ⟨?_, h.2.symm⟩
  rw [h.1, hc, hb, cut_bytes]
  congr 2
  exact cut_cut a p (Fj.ws (D a p))
/-- The first byte of a part. -/
theorem first_bt (a b : ByteArray) (p : Nat) (hb : b = cut a p) : ∀ h : 0 < b.size, ((b[0]'h).toNat : Int) = bt a (p : Int) := fun h => by
  have h1 := bt_at b 0 h
  have h2 := cut_bt a p 0
  rw [← hb] at h2
  exact h1.trans h2
theorem cut_out {a b : ByteArray} {p : Nat} (hb : b = cut a p) (h : b.size = 0) : bt a (p : Int) = 0 := bt_out a p (by
  rw [hb, cut_size] at h; omega)
theorem pval_nil (k d : Nat) : pval k d [] = none := by
  cases k with
  | zero => rfl
  | succ k => rw [pval, if_pos rfl]
theorem vP_out {a b : ByteArray} {p : Nat} (hb : b = cut a p) (h : b.size = 0) (k d : Nat) : vP a k d p = none := by
  unfold vP
  rw [D_nil a p (by rw [hb, cut_size] at h; omega), pval_nil]; rfl
/-- The array as it is when its elements are about to be read. -/
theorem Arr.start {pb n b : Nat} {bv v v1 : Value} {w w1 : World} (h : Got pb n bv v w b v1 w1) : Arr pb n bv v w b (n + 1) v1 ((w1.setCell ⟨b, n * 5 + 4, none⟩ (.int .i64 2)).setCell ⟨b, n * 5 + 2, none⟩ nilS) (fun _ => False) nilS [] [] := by
  have hp := h.place
  have f1 := h.fine.set (hp 4 (by omega)).1 (hp 4 (by omega)).2 (.int .i64 2)
  have f2 := f1.set (hp 2 (by omega)).1 ((hp 2 (by omega)).2.set _) nilS
  obtain ⟨cur, hcur⟩ := h.blt
  have hz := h.zero
  have ho : ∀ i j, i ≠ j → ∀ (W : World) (u : Value), (W.setCell ⟨b, n * 5 + j, none⟩ u).cell? ⟨b, n * 5 + i, none⟩ = W.cell? ⟨b, n * 5 + i, none⟩ := fun i j hij W u => World.cell?_setCell_other _ _ _ _ (fun e => by injection e with _ e _; omega)
  refine ⟨f2, World.ownsRow_nil _ _ _ _, ⟨?_, ?_, ?_, ?_, ?_⟩, ⟨_, heap_set (heap_set hcur _) _⟩, fun i hi => ⟨(hp i hi).1, ((hp i hi).2.set _).set _⟩, .nil _, fun x hx => hx.elim⟩
  · exact ((ho 0 2 (by omega) _ _).trans (ho 0 4 (by omega) _ _)).trans (hz 0 (by omega))
  · exact ((ho 1 2 (by omega) _ _).trans (ho 1 4 (by omega) _ _)).trans (hz 1 (by omega))
  · exact World.cell?_setCell_same _ _ _ ((ho 2 4 (by omega) _ _).trans (hz 2 (by omega)))
  · exact ((ho 3 2 (by omega) _ _).trans (ho 3 4 (by omega) _ _)).trans (hz 3 (by omega))
  · exact (ho 4 2 (by omega) _ _).trans (World.cell?_setCell_same _ _ _ (hz 4 (by omega)))
theorem free_of {w : World} {b : Nat} (h : ∃ cur, w.heap[b]? = some (.cells cur TV (0, 0))) (j : Nat) : w.frozen? ⟨b, j, none⟩ = false := by
  obtain ⟨cur, h⟩ := h
  simp [World.frozen?, h]
theorem same_grown {w w' : World} (e1 : w'.heap = w.heap) (e2 : w'.os = w.os ∧ w'.tape = w.tape ∧ w'.output = w.output) : w.grownBy w' none := ⟨e2.1, e2.2.1, e2.2.2, by rw [e1]; exact Nat.le_refl _, fun k _ _ => by rw [e1]⟩
theorem Out.same {pb n : Nat} {bv v : Value} {w : World} {a : ByteArray} {x : Nat} {r : Option (FV × Nat)} {e : Ending} {w' w2 : World} (h : Out pb n bv v w a x r e w') (e1 : w2.heap = w'.heap) (e2 : w2.os = w'.os ∧ w2.tape = w'.tape ∧ w2.output = w'.output) : Out pb n bv v w a x r e w2 := by
  obtain ⟨n', v', hf, h⟩ := h
  have g := same_grown e1 e2
  refine ⟨n', v', hf.grown g (fun k e => by cases e), ?_⟩
  cases r with
  | none => exact h
  | some r =>
    obtain ⟨h1, h2, b, o, F, h3, h4, h5⟩ := h
    exact ⟨h1, h2, b, o, F, h3, h4.kept (grown_keep g fun y hy => ⟨(h5 y hy).2.2.1, fun e => by cases e⟩) fun _ hy => hy, fun y hy => ⟨(h5 y hy).1, (h5 y hy).2.grown g⟩⟩
theorem out_arr {pb n b nn : Nat} {bv v vv av : Value} {w W : World} {F : Addr → Prop} {ps : List (Nat × Nat)} {vs : List FV} {a t : ByteArray} {r : Option (FV × Nat)} {m : Nat} (h : Arr pb n bv v w b nn vv W F av ps vs) (hr : r = some (.arr vs, m)) (hn : nn ≤ n + m + 1) (hm : m ≤ a.size) (ht : t = cut a m) {e : Ending} (he : e = .returned (.tuple #[.pointer (some ⟨b, n * 5, none⟩), .string t, .nilIface])) : Out pb n bv v w a 1 r e W := by
  subst hr ht
  obtain ⟨G, h1, h2⟩ := h.rep
  exact ⟨nn, vv, h.fine, hn, hm, b, n * 5, G, he, h1, h2⟩
/-- The cell of the row, behind what a child and its laying leave. -/
theorem Arr.at3 {pb n b nn : Nat} {bv v vv av : Value} {w W W3 : World} {F : Addr → Prop} {ps : List (Nat × Nat)} {vs : List FV} (h : Arr pb n bv v w b nn vv W F av ps vs) {o : Obj} (hgr : (W.alloc o).grownBy W3 av.ownBlock) : W3.cell? ⟨b, n * 5 + 2, none⟩ = some av ∧ ∀ j, W3.frozen? ⟨b, j, none⟩ = false := by
  have g3 : W.grownBy W3 av.ownBlock := (World.grownBy_alloc W o _).trans hgr
  obtain ⟨cur, hcur⟩ := h.blk
  have hbr : some b ≠ av.ownBlock := fun e => by
    rcases h.own.2 with ⟨rfl, _⟩ | ⟨g', cap, cur', rfl, h1, h2, _⟩
    · cases e
    · simp only [Value.ownBlock, Option.some.injEq] at e
      subst e
      rw [hcur] at h2
      simp only [Option.some.injEq, Obj.cells.injEq] at h2
      exact absurd h2.2.1 (by decide)
  have e := g3.block b (heap_lt hcur) hbr
  exact ⟨(World.cell?_of_block e).trans h.cel.2.2.1, fun j => free_of ⟨cur, e.trans hcur⟩ j⟩
set_option maxHeartbeats 8000000 in
set_option maxRecDepth 100000 in
theorem arr (P : List Int → Prop) (hPd : ∀ l m, P l → P (l.drop m)) (k : Nat) (hV : ∀ j, j < k → VC P j) (pb n : Nat) (bv v : Value) (w : World) (a : ByteArray) (d : Nat) (hP : Pb w pb bv v) (hC : Ca w pb n v) (hn : n + a.size + 1 ≤ 1000000) (hk : 2 * a.size + 2 ≤ k) (ha : P (bytesOf a)) (hd : d ≤ 300) :
    Calls Tryz.prog 122 #[.pointer (some ⟨pb, 1, none⟩), .string a, .int .i64 (d : Int)] w fun e w' => Out pb n bv v w a 1 (arrO a k d) e w' := by
  obtain ⟨k, rfl⟩ : ∃ j, k = j + 1 := ⟨k - 1, by omega⟩
  have HP := Aside0.mk hP
  have HC := Aside0.mk hC
  have HV := Aside0.mk hV
  have HN := Aside0.mk hn
  have HK := Aside0.mk hk
  have HA := Aside0.mk ha
  have HD := Aside0.mk hd
  have HS : Aside0 (a.size ≤ 1000000) := ⟨by omega⟩
  have HN0 : Aside0 (n ≤ 1000000) := ⟨by omega⟩
  obtain ⟨b0, hb0⟩ : ∃ b, b = cut a (nx a 0) := ⟨_, rfl⟩
  have HB0 := Aside0.mk hb0
  have hx := first_bt a b0 _ hb0
  have HA0 : Aside0 (a = cut a 0) := ⟨(cut_zero a).symm⟩
  clear hP hC hV hn hk ha hd
  by_cases h0 : b0.size = 0
  · have HC1 : Aside0 (arrO a (k + 1) d = none) := ⟨by
      unfold arrO
      rw [if_neg (by rw [cut_out hb0 h0]; decide), eP_succ, vP_out hb0 h0]; rfl⟩
    have e0 : ((b0.size : Int) == 0) = true := beq_iff_eq.mpr (by omega)
    clear h0 hb0 hx
    go_enter Tryz.func122, Tryz.ntmps122
    go_wp2_with (first
      | (go_at_call 68; (with_reducible refine (skipTo a _ b0 0 HS.out HA0.out HB0.out _).mono ?_); rintro e w' ⟨rfl, rfl⟩)
      | (go_at_call 72; (with_reducible refine (errNew _ _).mono ?_); rintro e w' ⟨⟨T, u, rfl⟩, hb⟩))
    go_ret3
    exact out_none HC1.out n v ((Fine.refl HP.out HC.out).below hb) (by omega) _ T u rfl
  · have e0 : ((b0.size : Int) == 0) = false := beq_eq_false_iff_ne.mpr (by omega)
    have hz : 0 < b0.size := by omega
    have HSZ : Aside0 (nx a 0 + 1 ≤ a.size) := ⟨by rw [hb0, cut_size] at hz; omega⟩
    clear h0
    by_cases c : bt a (nx a 0 : Int) = 93
    · have HC1 : Aside0 (arrO a (k + 1) d = some (.arr [], nx a 0 + 1)) := ⟨by unfold arrO; rw [if_pos c]⟩
      have e1 : (bt a (nx a 0 : Int) == 93) = true := beq_iff_eq.mpr c
      have HX : Aside0 (b0.extract 1 b0.size = cut a (nx a 0 + 1)) := ⟨by rw [hb0]; exact cut_cut a _ 1⟩
      clear hb0 c
      go_enter Tryz.func122, Tryz.ntmps122
      go_wp2_with (first
        | (go_at_call 68; (with_reducible refine (skipTo a _ b0 0 HS.out HA0.out HB0.out _).mono ?_); rintro e w' ⟨rfl, rfl⟩)
        | (go_at_call 124; (with_reducible refine (getValue _ pb n bv v HP.out HC.out HN0.out).mono ?_); rintro e w1 ⟨b, v1, rfl, hg⟩; have HG := Aside0.mk hg; have hz4 := hg.zero 4 (by omega); have hz2 : ∀ u, (w1.setCell ⟨b, n * 5 + 4, none⟩ u).cell? ⟨b, n * 5 + 2, none⟩ = some nilS := (fun u => (World.cell?_setCell_other _ _ _ _ (fun e => by injection e with _ e _; omega)).trans (hg.zero 2 (by omega))); have hfr := free_of hg.blt; clear hg))
      go_quiet (fail)
      go_wp2
      go_ret3
      exact (out_arr (Arr.start HG.out) HC1.out (by omega) HSZ.out HX.out rfl).same rfl ⟨rfl, rfl, rfl⟩
    · have e1 : (bt a (nx a 0 : Int) == 93) = false := beq_eq_false_iff_ne.mpr c
      have HE : Aside0 (arrO a (k + 1) d = (eP a (k + 1) d (nx a 0)).map fun r => (.arr ([] ++ r.1), r.2)) := ⟨by unfold arrO; rw [if_neg c, eP_nx]; rfl⟩
      clear hb0 c
      go_enter Tryz.func122, Tryz.ntmps122
      go_wp2_with (first
        | (go_at_call 68; (with_reducible refine (skipTo a _ b0 0 HS.out HA0.out HB0.out _).mono ?_); rintro e w' ⟨rfl, rfl⟩)
        | (go_at_call 124; (with_reducible refine (getValue _ pb n bv v HP.out HC.out HN0.out).mono ?_); rintro e w1 ⟨b, v1, rfl, hg⟩; have HG := Aside0.mk hg; have hz4 := hg.zero 4 (by omega); have hz2 : ∀ u, (w1.setCell ⟨b, n * 5 + 4, none⟩ u).cell? ⟨b, n * 5 + 2, none⟩ = some nilS := (fun u => (World.cell?_setCell_other _ _ _ _ (fun e => by injection e with _ e _; omega)).trans (hg.zero 2 (by omega))); have hfr := free_of hg.blt; clear hg))
      go_loopg [1] (k + 1) (fun kk x1 wr => ∃ (c : ByteArray) (p nn : Nat) (vv : Value) (F : Addr → Prop) (av : Value) (ps : List (Nat × Nat)) (vs : List FV), x1 = .string c ∧ Aside0 (c = cut a p ∧ p ≤ a.size ∧ 2 * (a.size - p) + 2 ≤ kk ∧ kk ≤ k + 1 ∧ nn ≤ n + 1 + p ∧ ps.length ≤ p ∧ arrO a (k + 1) d = (eP a kk d p).map fun r => (.arr (vs ++ r.1), r.2)) ∧ Aside0 (Arr pb n bv v w b nn vv wr F av ps vs))
      case atStart => exact ⟨b0, nx a 0, n + 1, v1, _, _, _, _, rfl, ⟨HB0.out, by have := HSZ.out; omega, by have := HK.out; omega, Nat.le_refl _, by omega, Nat.zero_le _, HE.out⟩, ⟨Arr.start HG.out⟩⟩
      case round =>
        clear HE hx hz e1 e0 hz4 hz2 hfr
        obtain ⟨c, p, nn, vv, F, av, ps, vs, rfl, HR, HAr⟩ := hrel
        obtain ⟨kk, rfl⟩ : ∃ j, gk = j + 1 := ⟨gk - 1, by have := HR.out.2.2.1; omega⟩
        obtain ⟨q, hq⟩ : ∃ q, nx a p = q := ⟨_, rfl⟩
        have hpq : p ≤ q := by rw [← hq]; exact nx_ge a p
        have hqa : q ≤ a.size := by rw [← hq]; exact nx_le a p HR.out.2.1
        obtain ⟨c2, hc⟩ : ∃ c2, c2 = cut a q := ⟨_, rfl⟩
        have HCQ : Aside0 (c2 = cut a (nx a p)) := ⟨by rw [hq]; exact hc⟩
        have hcs : c2.size = a.size - q := by rw [hc]; exact cut_size a q
        have HPL : Aside0 (ps.length ≤ 1000000) := ⟨by have := HR.out.2.2.2.2.2.1; have := HR.out.2.1; have := HS.out; omega⟩
        have HVC : Aside0 (∀ W, Pb W pb bv vv → Ca W pb nn vv → Calls Tryz.prog 70 #[.pointer (some ⟨pb, 1, none⟩), .string c2, .int .i64 (d : Int)] W fun e w' => Out pb nn bv vv W c2 0 (pval kk d (bytesOf c2)) e w') := ⟨fun W h1 h2 => HV.out kk (by have := HR.out.2.2.2.1; omega) pb nn bv vv W c2 d h1 h2 (by have := HR.out.2.2.2.2.1; have := HN.out; omega) (by have := HR.out.2.2.1; omega) (by rw [hc, cut_bytes]; exact hPd _ _ HA.out) HD.out⟩
        have HE : Aside0 (arrO a (k + 1) d = (match (vP a kk d q : Option (FV × Nat)) with
          | none => none
          | some v => if bt a (nx a v.2 : Int) = 44 then (eP a kk d (nx a v.2 + 1)).map fun (t : List FV × Nat) => (v.1 :: t.1, t.2) else if bt a (nx a v.2 : Int) = 93 then some ([v.1], nx a v.2 + 1) else none : Option (List FV × Nat)).map fun r => (FV.arr (vs ++ r.1), r.2)) := ⟨by rw [HR.out.2.2.2.2.2.2, eP_succ, hq]; first | done | rfl⟩
        cases hv : pval kk d (bytesOf c2) with
        | none =>
          have HVV : Aside0 (pval kk d (bytesOf c2) = none) := ⟨hv⟩
          have HC1 : Aside0 (arrO a (k + 1) d = none) := ⟨by
            rw [HE.out]
            have : vP a kk d q = none := by unfold vP; rw [hc, cut_bytes] at hv; rw [hv]; rfl
            rw [this]; rfl⟩
          have HNN : Aside0 (nn + c2.size ≤ n + a.size + 1) := ⟨by have := HR.out.2.2.2.2.1; omega⟩
          clear hv hc hcs hpq hq hqa
          go_wp2_with (first
            | (go_at_call_of 68 c; (with_reducible refine (skipTo a _ c2 p HS.out HR.out.1 HCQ.out _).mono ?_); rintro e w' ⟨rfl, rfl⟩)
            | (go_at_call 70; (with_reducible refine (HVC.out _ HAr.out.fine.pbs HAr.out.fine.ca).mono ?_); rintro e w2 ⟨n2, v2, hf, h⟩; rw [HVV.out] at h; obtain ⟨hn2, t, T, u, rfl⟩ := h; have HF2 := Aside0.mk (HAr.out.child HC.out hf).fine; have HN2 := Aside0.mk hn2; clear hf hn2)
            | (go_at_call 72; (with_reducible refine (errNew _ _).mono ?_); rintro e w' ⟨⟨T, u, rfl⟩, hb⟩))
          go_ret3
          exact out_none HC1.out _ _ (HF2.out.below hb) (by have := HN2.out; have := HNN.out; omega) _ T u rfl
        | some r =>
          obtain ⟨fv, m⟩ := r
          have HVV : Aside0 (pval kk d (bytesOf c2) = some (fv, m)) := ⟨hv⟩
          have hvp : vP a kk d q = some (fv, q + m) := by unfold vP; rw [hc, cut_bytes] at hv; rw [hv]; rfl
          obtain ⟨dd, hd⟩ : ∃ d, d = cut a (q + m) := ⟨_, rfl⟩
          have HDV : Aside0 (cut c2 m = dd) := ⟨by rw [hc, hd]; exact cut_cut a q m⟩
          have HD0 := Aside0.mk hd
          obtain ⟨z, hzz⟩ : ∃ z, nx a (q + m) = z := ⟨_, rfl⟩
          have hrm : q + m ≤ z := by rw [← hzz]; exact nx_ge a _
          obtain ⟨f, hf⟩ : ∃ f, f = cut a z := ⟨_, rfl⟩
          have HFM : Aside0 (f = cut a (nx a (q + m))) := ⟨by rw [hzz]; exact hf⟩
          have HE2 : Aside0 (arrO a (k + 1) d = (if bt a (z : Int) = 44 then (eP a kk d (z + 1)).map fun (t : List FV × Nat) => (fv :: t.1, t.2) else if bt a (z : Int) = 93 then some ([fv], z + 1) else none : Option (List FV × Nat)).map fun r => (FV.arr (vs ++ r.1), r.2)) := ⟨by rw [HE.out, hvp]; simp only []; rw [hzz]⟩
          have hx := first_bt a f _ hf
          have HX : Aside0 (f.extract 1 f.size = cut a (z + 1)) := ⟨by rw [hf]; exact cut_cut a z 1⟩
          have HF0 := Aside0.mk hf
          have hfs : f.size = a.size - z := by rw [hf]; exact cut_size a z
          have HNE : Aside0 (2 * (a.size - (z + 1)) + 2 ≤ kk ∨ a.size ≤ z) := ⟨by have := HR.out.2.2.1; omega⟩
          have HNN : Aside0 (nn + m ≤ n + 1 + z ∧ ps.length ≤ z ∧ kk ≤ k + 1) := ⟨by have := HR.out.2.2.2.2.1; omega, by have := HR.out.2.2.2.2.2.1; omega, by have := HR.out.2.2.2.1; omega⟩
          have HZA0 : Aside0 (nn + c2.size ≤ n + a.size + 1) := ⟨by have := HR.out.2.2.2.2.1; omega⟩
          clear hv hvp hc hcs hpq hq hqa hd hzz hf HE hrm
          by_cases y : f.size = 0
          · have HC1 : Aside0 (arrO a (k + 1) d = none) := ⟨by rw [HE2.out, cut_out HF0.out y]; rfl⟩
            have e0 : ((f.size : Int) == 0) = true := beq_iff_eq.mpr (by omega)
            clear y hx hfs
            go_wp2_with (first
              | (go_at_call_of 68 c; (with_reducible refine (skipTo a _ c2 p HS.out HR.out.1 HCQ.out _).mono ?_); rintro e w' ⟨rfl, rfl⟩)
              | (go_at_call_of 68 dd; (with_reducible refine (skipTo a _ f (q + m) HS.out HD0.out HFM.out _).mono ?_); rintro e w' ⟨rfl, rfl⟩)
              | (go_at_call 70; (with_reducible refine (HVC.out _ HAr.out.fine.pbs HAr.out.fine.ca).mono ?_); rintro e w2 ⟨n2, v2, hf, h⟩; rw [HVV.out] at h; obtain ⟨hn2, hm2, b2, o2, G, rfl, hrep, hG⟩ := h; simp only [] at hrep hG hn2 hm2 ⊢; rw [HDV.out]; have HF2 := Aside0.mk hf; have HN2 := Aside0.mk hn2; have HM2 := Aside0.mk hm2; have HRP := Aside0.mk hrep; have HGG := Aside0.mk hG; have HA2 := Aside0.mk (HAr.out.child HC.out hf); clear hf hn2 hm2 hrep hG; have hc2 := HA2.out.cel.2.2.1)
              | (at_builtin; refine wp_push _ w.heap.size ps.length av (ps.map ptr) (.pointer (some ⟨b2, o2, none⟩)) rfl HA2.out.own HA2.out.fine.step.size HPL.out rfl _ _ rfl rfl rfl ?_; intro av' w3 k1 k2 k3; obtain ⟨ga, ca, rfl⟩ := row_shape k1; have HA3 := Aside0.mk (HAr.out.push (p := (b2, o2)) HC.out HF2.out HRP.out HGG.out _ k1 k2 k3); have hc3 := (HA2.out.at3 k2).1; have hf3 := (HA2.out.at3 k2).2; clear k1 k2 k3 hc2)
              | (go_at_call 72; (with_reducible refine (errNew _ _).mono ?_); rintro e w' ⟨⟨T, u, rfl⟩, hb⟩))
            go_ret3
            exact out_none HC1.out _ _ (HA3.out.fine.below hb) (by have := HN2.out; have := HM2.out; have := HZA0.out; omega) _ T u rfl
          · have e0 : ((f.size : Int) == 0) = false := beq_eq_false_iff_ne.mpr (by omega)
            have hz : 0 < f.size := by omega
            have HZA : Aside0 (z + 1 ≤ a.size) := ⟨by omega⟩
            have HNE2 : Aside0 (2 * (a.size - (z + 1)) + 2 ≤ kk) := ⟨by have := HNE.out; omega⟩
            clear y hfs
            by_cases c1 : bt a (z : Int) = 44
            · have e1 : (bt a (z : Int) == 44) = true := beq_iff_eq.mpr c1
              have HC1 : Aside0 (arrO a (k + 1) d = (eP a kk d (z + 1)).map fun r => (.arr ((vs ++ [fv]) ++ r.1), r.2)) := ⟨by rw [HE2.out, if_pos c1, Option.map_map]; congr 1; funext r; simp⟩
              clear c1
              go_wp2_with (first
                | (go_at_call_of 68 c; (with_reducible refine (skipTo a _ c2 p HS.out HR.out.1 HCQ.out _).mono ?_); rintro e w' ⟨rfl, rfl⟩)
                | (go_at_call_of 68 dd; (with_reducible refine (skipTo a _ f (q + m) HS.out HD0.out HFM.out _).mono ?_); rintro e w' ⟨rfl, rfl⟩)
                | (go_at_call 70; (with_reducible refine (HVC.out _ HAr.out.fine.pbs HAr.out.fine.ca).mono ?_); rintro e w2 ⟨n2, v2, hf, h⟩; rw [HVV.out] at h; obtain ⟨hn2, hm2, b2, o2, G, rfl, hrep, hG⟩ := h; simp only [] at hrep hG hn2 hm2 ⊢; rw [HDV.out]; have HF2 := Aside0.mk hf; have HN2 := Aside0.mk hn2; have HM2 := Aside0.mk hm2; have HRP := Aside0.mk hrep; have HGG := Aside0.mk hG; have HA2 := Aside0.mk (HAr.out.child HC.out hf); clear hf hn2 hm2 hrep hG; have hc2 := HA2.out.cel.2.2.1)
                | (at_builtin; refine wp_push _ w.heap.size ps.length av (ps.map ptr) (.pointer (some ⟨b2, o2, none⟩)) rfl HA2.out.own HA2.out.fine.step.size HPL.out rfl _ _ rfl rfl rfl ?_; intro av' w3 k1 k2 k3; obtain ⟨ga, ca, rfl⟩ := row_shape k1; have HA3 := Aside0.mk (HAr.out.push (p := (b2, o2)) HC.out HF2.out HRP.out HGG.out _ k1 k2 k3); have hc3 := (HA2.out.at3 k2).1; have hf3 := (HA2.out.at3 k2).2; clear k1 k2 k3 hc2))
              go_roundg kk
              case measure => omega
              case rel => exact ⟨_, z + 1, n2, v2, _, _, _, _, rfl, ⟨HX.out, HZA.out, HNE2.out, HNN.out.2.2, by have := HN2.out; have := HNN.out.1; omega, by have := HNN.out.2.1; simp; omega, HC1.out⟩, HA3⟩
            · have e1 : (bt a (z : Int) == 44) = false := beq_eq_false_iff_ne.mpr c1
              by_cases c2 : bt a (z : Int) = 93
              · have e2 : (bt a (z : Int) == 93) = true := beq_iff_eq.mpr c2
                have HC1 : Aside0 (arrO a (k + 1) d = some (.arr (vs ++ [fv]), z + 1)) := ⟨by rw [HE2.out, if_neg c1, if_pos c2]; rfl⟩
                clear c1 c2
                go_wp2_with (first
                  | (go_at_call_of 68 c; (with_reducible refine (skipTo a _ c2 p HS.out HR.out.1 HCQ.out _).mono ?_); rintro e w' ⟨rfl, rfl⟩)
                  | (go_at_call_of 68 dd; (with_reducible refine (skipTo a _ f (q + m) HS.out HD0.out HFM.out _).mono ?_); rintro e w' ⟨rfl, rfl⟩)
                  | (go_at_call 70; (with_reducible refine (HVC.out _ HAr.out.fine.pbs HAr.out.fine.ca).mono ?_); rintro e w2 ⟨n2, v2, hf, h⟩; rw [HVV.out] at h; obtain ⟨hn2, hm2, b2, o2, G, rfl, hrep, hG⟩ := h; simp only [] at hrep hG hn2 hm2 ⊢; rw [HDV.out]; have HF2 := Aside0.mk hf; have HN2 := Aside0.mk hn2; have HM2 := Aside0.mk hm2; have HRP := Aside0.mk hrep; have HGG := Aside0.mk hG; have HA2 := Aside0.mk (HAr.out.child HC.out hf); clear hf hn2 hm2 hrep hG; have hc2 := HA2.out.cel.2.2.1)
                  | (at_builtin; refine wp_push _ w.heap.size ps.length av (ps.map ptr) (.pointer (some ⟨b2, o2, none⟩)) rfl HA2.out.own HA2.out.fine.step.size HPL.out rfl _ _ rfl rfl rfl ?_; intro av' w3 k1 k2 k3; obtain ⟨ga, ca, rfl⟩ := row_shape k1; have HA3 := Aside0.mk (HAr.out.push (p := (b2, o2)) HC.out HF2.out HRP.out HGG.out _ k1 k2 k3); have hc3 := (HA2.out.at3 k2).1; have hf3 := (HA2.out.at3 k2).2; clear k1 k2 k3 hc2))
                go_ret3
                exact out_arr HA3.out HC1.out (by have := HN2.out; have := HNN.out.1; omega) HZA.out HX.out rfl
              · have e2 : (bt a (z : Int) == 93) = false := beq_eq_false_iff_ne.mpr c2
                have HC1 : Aside0 (arrO a (k + 1) d = none) := ⟨by rw [HE2.out, if_neg c1, if_neg c2]; rfl⟩
                clear c1 c2
                go_wp2_with (first
                  | (go_at_call_of 68 c; (with_reducible refine (skipTo a _ c2 p HS.out HR.out.1 HCQ.out _).mono ?_); rintro e w' ⟨rfl, rfl⟩)
                  | (go_at_call_of 68 dd; (with_reducible refine (skipTo a _ f (q + m) HS.out HD0.out HFM.out _).mono ?_); rintro e w' ⟨rfl, rfl⟩)
                  | (go_at_call 70; (with_reducible refine (HVC.out _ HAr.out.fine.pbs HAr.out.fine.ca).mono ?_); rintro e w2 ⟨n2, v2, hf, h⟩; rw [HVV.out] at h; obtain ⟨hn2, hm2, b2, o2, G, rfl, hrep, hG⟩ := h; simp only [] at hrep hG hn2 hm2 ⊢; rw [HDV.out]; have HF2 := Aside0.mk hf; have HN2 := Aside0.mk hn2; have HM2 := Aside0.mk hm2; have HRP := Aside0.mk hrep; have HGG := Aside0.mk hG; have HA2 := Aside0.mk (HAr.out.child HC.out hf); clear hf hn2 hm2 hrep hG; have hc2 := HA2.out.cel.2.2.1)
                  | (at_builtin; refine wp_push _ w.heap.size ps.length av (ps.map ptr) (.pointer (some ⟨b2, o2, none⟩)) rfl HA2.out.own HA2.out.fine.step.size HPL.out rfl _ _ rfl rfl rfl ?_; intro av' w3 k1 k2 k3; obtain ⟨ga, ca, rfl⟩ := row_shape k1; have HA3 := Aside0.mk (HAr.out.push (p := (b2, o2)) HC.out HF2.out HRP.out HGG.out _ k1 k2 k3); have hc3 := (HA2.out.at3 k2).1; have hf3 := (HA2.out.at3 k2).2; clear k1 k2 k3 hc2)
                  | (go_at_call 72; (with_reducible refine (errNew _ _).mono ?_); rintro e w' ⟨⟨T, u, rfl⟩, hb⟩))
                go_ret3
                exact out_none HC1.out _ _ (HA3.out.fine.below hb) (by have := HN2.out; have := HNN.out.1; have := HZA.out; omega) _ T u rfl
end Go.Proofs.YtlhaefblchpjhaaGreatDoor.Fp
end
section
namespace Go.Proofs.YtlhaefblchpjhaaGreatDoor.GjV
open Go.RowKit Go.Proofs.YtlhaefblchpjhaaGreatDoorW.PrintWords Go.Proofs.YtlhaefblchpjhaaGreatDoorW.PrintLast Go.Proofs.YtlhaefblchpjhaaGreatDoorW.PrintMore
open Go.Proofs.YtlhaefblchpjhaaGreatDoor.FjW (cut cut_cut cut_size cut_bytes cut_zero cut_bt bt_out D rd_D rd_D0 D_drop D_len D_nil D_cons ws_at)
open Go.Proofs.YtlhaefblchpjhaaGreatDoor.Fp (nx nx_ge nx_nx nx_le)
attribute [local go_sem] max2_int min2_int max_two min_two max_three min_three max_four min_four
set_option linter.unusedVariables false
set_option linter.unusedSimpArgs false
/-- The block g holds the text's bytes. -/
def RdB (W : World) (g : Nat) (s : ByteArray) : Prop := ∀ j : Nat, j < s.size → W.cell? ⟨g, j, none⟩ = some (.int .u8 (bt s (j : Int)))
/-- An end, or false. -/
def VS (o : Option Nat) (e : Ending) : Prop := match o with
  | some m => e = .returned (.tuple #[.int .i64 (m : Int), .bool true])
  | none => ∃ j : Int, e = .returned (.tuple #[.int .i64 j, .bool false])
theorem vs_no {o : Option Nat} (h : o = none) (j : Int) {e : Ending} (he : e = .returned (.tuple #[.int .i64 j, .bool false])) : VS o e := by subst h; exact ⟨j, he⟩
theorem vs_yes {o : Option Nat} {m : Nat} (h : o = some m) {x : Int} (hx : x = (m : Int)) {e : Ending} (he : e = .returned (.tuple #[.int .i64 x, .bool true])) : VS o e := by subst h hx; exact he
theorem nx_step {s : ByteArray} {j : Nat} (h : j < s.size) (b : Fj.blank (bt s (j : Int)) = true) : nx s (j + 1) = nx s j := by
  unfold nx
  rw [ws_at s j, if_pos ⟨h, b⟩]; omega
theorem nx_here {s : ByteArray} {j : Nat} (h : s.size ≤ j ∨ Fj.blank (bt s (j : Int)) = false) : nx s j = j := by
  unfold nx
  rw [ws_at s j, if_neg]
  · rfl
  · rintro ⟨a, b⟩
    rcases h with h | h
    · omega
    · rw [h] at b; cases b
/-- A byte is one of the four blanks, or none. -/
theorem blank4 (c : Int) : (c = 32 ∧ Fj.blank c = true) ∨ (c = 9 ∧ Fj.blank c = true) ∨ (c = 10 ∧ Fj.blank c = true) ∨ (c = 13 ∧ Fj.blank c = true) ∨ ((c == 32) = false ∧ (c == 9) = false ∧ (c == 10) = false ∧ (c == 13) = false ∧ Fj.blank c = false) := by
  by_cases a : c = 32
  · subst a; exact .inl ⟨rfl, rfl⟩
  by_cases b : c = 9
  · subst b; exact .inr (.inl ⟨rfl, rfl⟩)
  by_cases d : c = 10
  · subst d; exact .inr (.inr (.inl ⟨rfl, rfl⟩))
  by_cases e : c = 13
  · subst e; exact .inr (.inr (.inr (.inl ⟨rfl, rfl⟩)))
  have a' := beq_eq_false_iff_ne.mpr a
  have b' := beq_eq_false_iff_ne.mpr b
  have d' := beq_eq_false_iff_ne.mpr d
  have e' := beq_eq_false_iff_ne.mpr e
  exact .inr (.inr (.inr (.inr ⟨a', b', d', e', by unfold Fj.blank; rw [a', d', b', e']; rfl⟩)))
def oColon (s : ByteArray) (p : Nat) : Option Nat := if bt s (nx s p : Int) = 58 then some (nx s p + 1) else none
def oComma (s : ByteArray) (p : Nat) (z : Int) : Option Nat := if bt s (nx s p : Int) = 44 ∨ bt s (nx s p : Int) = z then some (nx s p) else none
set_option maxHeartbeats 4000000 in
theorem vcolon (s : ByteArray) (hs : s.size ≤ 1000000) (w : World) (g cap p : Nat) (hR : RdB w g s) (hp : p ≤ s.size) :
    Calls Tryz.prog 185 #[.slice (some ⟨g, 0, none⟩) s.size cap, .int .i64 (p : Int)] w fun e w' => VS (oColon s p) e ∧ w = w' := by
  have HR := Aside0.mk hR
  clear hR
  go_enter Tryz.func185, Tryz.ntmps185
  go_wp2
  go_loopw [1] (fun v wr => ∃ j : Nat, v = .int .i64 (j : Int) ∧ j ≤ s.size ∧ w = wr ∧ Aside0 (nx s j = nx s p)) (fun v _ => s.size - (intOf v).toNat)
  case atStart => exact ⟨p, rfl, hp, rfl, ⟨rfl⟩⟩
  case round =>
    obtain ⟨j, rfl, hj, rfl, HJ⟩ := hrel
    by_cases hlt : j < s.size
    · have hx := HR.out j hlt
      have hlt' : (j : Int) < (s.size : Int) := by omega
      rcases blank4 (bt s (j : Int)) with ⟨f, hb⟩ | ⟨f, hb⟩ | ⟨f, hb⟩ | ⟨f, hb⟩ | ⟨f1, f2, f3, f4, hb⟩
      rotate_right 1
      · have HQ : Aside0 (nx s p = j) := ⟨by rw [← HJ.out]; exact nx_here (.inr hb)⟩
        by_cases c : bt s (j : Int) = 58
        · have HO : Aside0 (oColon s p = some (j + 1)) := ⟨by unfold oColon; rw [HQ.out, if_pos c]⟩
          rw [c] at hx
          clear c f1 f2 f3 f4 hb
          go_wp2
          go_ret2
          exact ⟨vs_yes HO.out (by omega) rfl, rfl⟩
        · have HO : Aside0 (oColon s p = none) := ⟨by unfold oColon; rw [HQ.out, if_neg c]⟩
          have f5 : (bt s (j : Int) == 58) = false := beq_eq_false_iff_ne.mpr c
          clear c hb
          go_wp2
          go_ret2
          exact ⟨vs_no HO.out _ rfl, rfl⟩
      all_goals
        have HJ' : Aside0 (nx s (j + 1) = nx s p) := ⟨(nx_step hlt hb).trans HJ.out⟩
        rw [f] at hx
        clear f hb HJ
        go_wp2
        go_roundw
        case rel => exact ⟨j + 1, by go_num, by omega, trivial, HJ'⟩
        case measure => simp [intOf]; omega
    · obtain rfl : j = s.size := by omega
      have HO : Aside0 (oColon s p = none) := ⟨by unfold oColon; rw [← HJ.out, nx_here (.inl (Nat.le_refl _)), bt_out s _ (Int.le_refl _), if_neg (by decide)]⟩
      go_wp2
      go_ret2
      exact ⟨vs_no HO.out _ rfl, rfl⟩
end Go.Proofs.YtlhaefblchpjhaaGreatDoor.GjV
end
section
namespace Go.Proofs.YtlhaefblchpjhaaGreatDoor.GjV
open Go.RowKit Go.Proofs.YtlhaefblchpjhaaGreatDoorW.PrintWords Go.Proofs.YtlhaefblchpjhaaGreatDoorW.PrintLast Go.Proofs.YtlhaefblchpjhaaGreatDoorW.PrintMore
open Go.Proofs.YtlhaefblchpjhaaGreatDoor.FjW (cut cut_cut cut_size cut_bytes cut_zero cut_bt bt_out D rd_D rd_D0 D_drop D_len D_nil D_cons ws_at)
open Go.Proofs.YtlhaefblchpjhaaGreatDoor.Fp (nx nx_ge nx_nx nx_le)
attribute [local go_sem] max2_int min2_int max_two min_two max_three min_three max_four min_four
set_option linter.unusedVariables false
set_option linter.unusedSimpArgs false
theorem hexd_iff (c : Int) : Fj.hexd c = true ↔ (48 ≤ c ∧ c ≤ 57) ∨ (97 ≤ c ∧ c ≤ 102) ∨ (65 ≤ c ∧ c ≤ 70) := by
  unfold Fj.hexd
  simp only [Bool.or_eq_true, decide_eq_true_eq]
theorem vishex (c : Int) (w : World) : Calls Tryz.prog 187 #[.int .u8 c] w fun e w' => e = .returned (.bool (Fj.hexd c)) ∧ w = w' := by
  have hno : ∀ {c : Int}, ¬ ((48 ≤ c ∧ c ≤ 57) ∨ (97 ≤ c ∧ c ≤ 102) ∨ (65 ≤ c ∧ c ≤ 70)) → Fj.hexd c = false := fun h => by
    rw [← Bool.not_eq_true, hexd_iff]; exact h
  have hyes : ∀ {c : Int}, ((48 ≤ c ∧ c ≤ 57) ∨ (97 ≤ c ∧ c ≤ 102) ∨ (65 ≤ c ∧ c ≤ 70)) → Fj.hexd c = true := fun h => (hexd_iff _).mpr h
  have hcase : (c < 48 ∧ Fj.hexd c = false) ∨ (48 ≤ c ∧ c ≤ 57 ∧ Fj.hexd c = true) ∨ (57 < c ∧ c < 65 ∧ Fj.hexd c = false) ∨ (65 ≤ c ∧ c ≤ 70 ∧ Fj.hexd c = true) ∨ (70 < c ∧ c < 97 ∧ Fj.hexd c = false) ∨ (97 ≤ c ∧ c ≤ 102 ∧ Fj.hexd c = true) ∨ (102 < c ∧ Fj.hexd c = false) := by
    by_cases a : c < 48
    · exact .inl ⟨a, hno (by omega)⟩
    by_cases b : c ≤ 57
    · exact .inr (.inl ⟨by omega, b, hyes (by omega)⟩)
    by_cases d : c < 65
    · exact .inr (.inr (.inl ⟨by omega, d, hno (by omega)⟩))
    by_cases e : c ≤ 70
    · exact .inr (.inr (.inr (.inl ⟨by omega, e, hyes (by omega)⟩)))
    by_cases f : c < 97
    · exact .inr (.inr (.inr (.inr (.inl ⟨by omega, f, hno (by omega)⟩))))
    by_cases g : c ≤ 102
    · exact .inr (.inr (.inr (.inr (.inr (.inl ⟨by omega, g, hyes (by omega)⟩)))))
    · exact .inr (.inr (.inr (.inr (.inr (.inr ⟨by omega, hno (by omega)⟩)))))
  clear hno hyes
  rcases hcase with ⟨a, h⟩ | ⟨a, b, h⟩ | ⟨a, b, h⟩ | ⟨a, b, h⟩ | ⟨a, b, h⟩ | ⟨a, b, h⟩ | ⟨a, h⟩
  all_goals
    have H := Aside0.mk h
    clear h
    go_enter Tryz.func187, Tryz.ntmps187
    go_wp2
    go_ret
    refine ⟨?_, rfl⟩
    rw [H.out]
    first
      | rfl
      | (show Ending.returned (Value.bool _) = _; congr 2; simp; omega)
def hex4 (s : ByteArray) (p : Nat) : Bool := Fj.hexd (bt s (p : Int)) && (Fj.hexd (bt s ((p + 1 : Nat) : Int)) && (Fj.hexd (bt s ((p + 2 : Nat) : Int)) && Fj.hexd (bt s ((p + 3 : Nat) : Int))))
theorem hexd_in {s : ByteArray} {p : Nat} (h : Fj.hexd (bt s (p : Int)) = true) : p < s.size := by
  refine Nat.lt_of_not_le fun hle => ?_
  rw [bt_out s _ (by omega)] at h
  revert h; decide
theorem quo_at (s : ByteArray) (p : Nat) (h : p < s.size) : Fj.quo (D s p) = if bt s (p : Int) = 34 then some 1 else if bt s (p : Int) < 32 then none else if bt s (p : Int) = 92 then
      (if Fj.simple8 (bt s ((p + 1 : Nat) : Int)) = true then (Fj.quo (D s (p + 2))).map (· + 2) else if bt s ((p + 1 : Nat) : Int) = 117 then (if hex4 s (p + 2) = true then (Fj.quo (D s (p + 6))).map (· + 6) else none) else none)
    else (Fj.quo (D s (p + 1))).map (· + 1) := by
  rw [D_cons s p h, Fj.quo.eq_def]
  simp only []
  by_cases c34 : bt s (p : Int) = 34
  · rw [if_pos c34, if_pos c34]
  · rw [if_neg c34, if_neg c34]
    by_cases c32 : bt s (p : Int) < 32
    · rw [if_pos c32, if_pos c32]
    · rw [if_neg c32, if_neg c32]
      by_cases c92 : bt s (p : Int) = 92
      · rw [if_pos c92, if_pos c92]
        by_cases h1 : p + 1 < s.size
        · rw [D_cons s (p + 1) h1]
          simp only []
          by_cases k : Fj.simple8 (bt s ((p + 1 : Nat) : Int)) = true
          · rw [if_pos k, if_pos k]
          · rw [if_neg k, if_neg k]
            by_cases u : bt s ((p + 1 : Nat) : Int) = 117
            · rw [if_pos u, if_pos u]
              by_cases h5 : p + 5 < s.size
              · rw [D_cons s (p + 1 + 1) (by omega), D_cons s (p + 1 + 1 + 1) (by omega), D_cons s (p + 1 + 1 + 1 + 1) (by omega), D_cons s (p + 1 + 1 + 1 + 1 + 1) (by omega)]
                rfl
              · have hx : hex4 s (p + 2) = false := by
                  cases hh : hex4 s (p + 2) with
                  | false => rfl
                  | true =>
                    unfold hex4 at hh
                    simp only [Bool.and_eq_true] at hh
                    have := hexd_in hh.2.2.2
                    omega
                rw [hx, if_neg (by decide)]
                have hl : (D s (p + 1 + 1)).length < 4 := by rw [D_len]; omega
                match hD : D s (p + 1 + 1), hl with
                | [], _ => rfl
                | [_], _ => rfl
                | [_, _], _ => rfl
                | [_, _, _], _ => rfl
            · rw [if_neg u, if_neg u]
        · have hz : bt s ((p + 1 : Nat) : Int) = 0 := bt_out s _ (by omega)
          rw [D_nil s (p + 1) (by omega), hz]
          rfl
      · rw [if_neg c92, if_neg c92]
/-- The end of a string, behind its closing quote. -/
def oQ (s : ByteArray) (p : Nat) : Option Nat := (Fj.quo (D s p)).map (p + ·)
theorem oQ_out {s : ByteArray} {p : Nat} (h : s.size ≤ p) : oQ s p = none := by unfold oQ; rw [D_nil s p h]; rfl
theorem oQ_at (s : ByteArray) (p : Nat) (h : p < s.size) : oQ s p = if bt s (p : Int) = 34 then some (p + 1) else if bt s (p : Int) < 32 then none else if bt s (p : Int) = 92 then
      (if Fj.simple8 (bt s ((p + 1 : Nat) : Int)) = true then oQ s (p + 2) else if bt s ((p + 1 : Nat) : Int) = 117 then (if hex4 s (p + 2) = true then oQ s (p + 6) else none) else none)
    else oQ s (p + 1) := by
  have sh : ∀ n : Nat, ((Fj.quo (D s (p + n))).map (· + n)).map (p + ·) = (Fj.quo (D s (p + n))).map (p + n + ·) := fun n => by
    cases Fj.quo (D s (p + n)) with
    | none => rfl
    | some x => simp only [Option.map_some]; congr 1; omega
  unfold oQ
  rw [quo_at s p h]
  by_cases a : bt s (p : Int) = 34
  · rw [if_pos a, if_pos a]; rfl
  rw [if_neg a, if_neg a]
  by_cases b : bt s (p : Int) < 32
  · rw [if_pos b, if_pos b]; rfl
  rw [if_neg b, if_neg b]
  by_cases c : bt s (p : Int) = 92
  · rw [if_pos c, if_pos c]
    by_cases d : Fj.simple8 (bt s ((p + 1 : Nat) : Int)) = true
    · rw [if_pos d, if_pos d]; exact sh 2
    rw [if_neg d, if_neg d]
    by_cases e : bt s ((p + 1 : Nat) : Int) = 117
    · rw [if_pos e, if_pos e]
      by_cases f : hex4 s (p + 2) = true
      · rw [if_pos f, if_pos f]; exact sh 6
      · rw [if_neg f, if_neg f]; rfl
    · rw [if_neg e, if_neg e]; rfl
  · rw [if_neg c, if_neg c]; exact sh 1
theorem simple8_or {c : Int} (h : Fj.simple8 c = true) : c = 34 ∨ c = 92 ∨ c = 47 ∨ c = 98 ∨ c = 102 ∨ c = 110 ∨ c = 114 ∨ c = 116 := by
  unfold Fj.simple8 at h
  simp only [Bool.or_eq_true, beq_iff_eq] at h
  exact h
theorem simple8_no {c : Int} (h : ¬ Fj.simple8 c = true) : (c == 34) = false ∧ (c == 92) = false ∧ (c == 47) = false ∧ (c == 98) = false ∧ (c == 102) = false ∧ (c == 110) = false ∧ (c == 114) = false ∧ (c == 116) = false := by
  unfold Fj.simple8 at h
  simpa only [Bool.or_eq_true, not_or, Bool.not_eq_true] using h
theorem hex4_no {s : ByteArray} {p k : Nat} (hk : k < 4) (h : ¬ Fj.hexd (bt s ((p + k : Nat) : Int)) = true) : hex4 s p = false := by
  rw [← Bool.not_eq_true]
  unfold hex4
  simp only [Bool.and_eq_true]
  rintro ⟨a, b, c, d⟩
  match k, hk with
  | 0, _ => exact h a
  | 1, _ => exact h b
  | 2, _ => exact h c
  | 3, _ => exact h d
theorem hex4_yes {s : ByteArray} {p : Nat} (h : ∀ k : Nat, k < 4 → Fj.hexd (bt s ((p + k : Nat) : Int)) = true) : hex4 s p = true := by
  unfold hex4
  simp only [Bool.and_eq_true]
  exact ⟨h 0 (by omega), h 1 (by omega), h 2 (by omega), h 3 (by omega)⟩
set_option maxHeartbeats 8000000 in
set_option maxRecDepth 100000 in
theorem vstring (s : ByteArray) (hs : s.size ≤ 1000000) (w : World) (g cap p : Nat) (hR : RdB w g s) (hp : p ≤ s.size) :
    Calls Tryz.prog 171 #[.slice (some ⟨g, 0, none⟩) s.size cap, .int .i64 (p : Int)] w fun e w' => VS (oQ s p) e ∧ w = w' := by
  have HR := Aside0.mk hR
  clear hR
  go_enter Tryz.func171, Tryz.ntmps171
  go_wp2
  go_loopw [1] (fun v wr => ∃ j : Nat, v = .int .i64 (j : Int) ∧ j ≤ s.size ∧ w = wr ∧ Aside0 (oQ s j = oQ s p)) (fun v _ => s.size - (intOf v).toNat)
  case atStart => exact ⟨p, rfl, hp, rfl, ⟨rfl⟩⟩
  case round =>
    obtain ⟨j, rfl, hj, rfl, HJ⟩ := hrel
    by_cases hlt : j < s.size
    · have hx := HR.out j hlt
      have hlt' : (j : Int) < (s.size : Int) := by omega
      have HA := Aside0.mk (oQ_at s j hlt)
      obtain ⟨c, hc⟩ : ∃ c, bt s (j : Int) = c := ⟨_, rfl⟩
      rw [hc] at hx HA
      by_cases c32 : c < 32
      · have HO : Aside0 (oQ s p = none) := ⟨by rw [← HJ.out, HA.out, if_neg (by omega), if_pos c32]⟩
        have e1 : decide (c < 32) = true := decide_eq_true c32
        clear c32 hc
        go_wp2
        go_ret2
        exact ⟨vs_no HO.out _ rfl, rfl⟩
      have e1 : decide (c < 32) = false := decide_eq_false c32
      by_cases c92 : c = 92
      · subst c92
        by_cases h1 : j + 1 < s.size
        · have hx1 := HR.out (j + 1) h1
          have h1' : (j : Int) + 1 < (s.size : Int) := by omega
          have f1 : ((j : Int) + 1 == (s.size : Int)) = false := beq_eq_false_iff_ne.mpr (by omega)
          obtain ⟨d, hd⟩ : ∃ d, bt s ((j + 1 : Nat) : Int) = d := ⟨_, rfl⟩
          rw [hd] at hx1
          have HA2 : Aside0 (oQ s p = if Fj.simple8 d = true then oQ s (j + 2) else if d = 117 then (if hex4 s (j + 2) = true then oQ s (j + 6) else none) else none) := ⟨by rw [← HJ.out, HA.out, if_neg (by decide), if_neg c32, if_pos rfl, hd]⟩
          clear hc c32 hd HA
          by_cases k : Fj.simple8 d = true
          · have HO : Aside0 (oQ s (j + 2) = oQ s p) := ⟨by rw [HA2.out, if_pos k]⟩
            rcases simple8_or k with rfl | rfl | rfl | rfl | rfl | rfl | rfl | rfl
            all_goals
              clear k HA2
              go_wp2
              go_roundw
              case rel => exact ⟨j + 2, by go_num, by omega, trivial, HO⟩
              case measure => simp [intOf]; omega
          · by_cases u : d = 117
            · subst u
              have HO : Aside0 (oQ s p = if hex4 s (j + 2) = true then oQ s (j + 6) else none) := ⟨by rw [HA2.out, if_neg k, if_pos rfl]⟩
              clear k HA2
              go_wp2
              clear hx hx1 f1
              go_loopw [46, 1] (fun v46 v1 wr => ∃ k : Nat, v46 = .int .i64 (k : Int) ∧ v1 = .int .i64 ((j + 1 + k : Nat) : Int) ∧ k ≤ 4 ∧ j + 1 + k < s.size ∧ w = wr ∧ Aside0 (∀ i : Nat, i < k → Fj.hexd (bt s ((j + 2 + i : Nat) : Int)) = true)) (fun v46 _ _ => 4 - (intOf v46).toNat)
              case atStart => exact ⟨0, rfl, by go_num, Nat.zero_le _, h1, rfl, ⟨fun i hi => absurd hi (Nat.not_lt_zero _)⟩⟩
              case round =>
                clear h1' e1
                obtain ⟨k, rfl, rfl, hk, hjk, rfl, HK⟩ := hrel
                by_cases hk4 : k < 4
                · obtain ⟨m, hm⟩ : ∃ m, j + 1 + k = m := ⟨_, rfl⟩
                  have HM := Aside0.mk hm
                  rw [hm]
                  by_cases h2 : m + 1 < s.size
                  · have hx2 := HR.out (m + 1) h2
                    obtain ⟨b, hb⟩ : ∃ b, bt s ((m + 1 : Nat) : Int) = b := ⟨_, rfl⟩
                    rw [hb] at hx2
                    have h2' : (m : Int) + 1 < (s.size : Int) := by omega
                    have q1 : decide ((s.size : Int) ≤ (m : Int) + 1) = false := decide_eq_false (by omega)
                    have q0 : decide ((k : Int) < 4) = true := decide_eq_true (by omega)
                    have HHX := Aside0.mk (fun W => vishex b W)
                    cases hh : Fj.hexd b with
                    | true =>
                      have HHH := Aside0.mk hh
                      have HK' : Aside0 (∀ i : Nat, i < k + 1 → Fj.hexd (bt s ((j + 2 + i : Nat) : Int)) = true) := ⟨fun i hi => by
                        by_cases e : i = k
                        · subst e; rw [show j + 2 + i = m + 1 by omega, hb]; exact hh
                        · exact HK.out i (by omega)⟩
                      clear hh hb HK hm
                      go_wp2_with (first | (go_at_call 187; (with_reducible refine (HHX.out _).mono ?_); rintro e w' ⟨rfl, rfl⟩; rw [HHH.out]))
                      go_roundw
                      case rel => exact ⟨k + 1, by go_num, by rw [show j + 1 + (k + 1) = m + 1 by have := HM.out; omega]; go_num, by omega, by have := HM.out; omega, trivial, HK'⟩
                      case measure => simp [intOf]; omega
                    | false =>
                      have HHH := Aside0.mk hh
                      have HN : Aside0 (oQ s p = none) := ⟨by rw [HO.out, hex4_no (p := j + 2) hk4 (by rw [show j + 2 + k = m + 1 by omega, hb, hh]; decide), if_neg (by decide)]⟩
                      clear hh hb HK hm
                      go_wp2_with (first | (go_at_call 187; (with_reducible refine (HHX.out _).mono ?_); rintro e w' ⟨rfl, rfl⟩; rw [HHH.out]))
                      go_ret2
                      exact ⟨vs_no HN.out _ rfl, rfl⟩
                  · have HN : Aside0 (oQ s p = none) := ⟨by rw [HO.out, hex4_no (p := j + 2) hk4 (by rw [bt_out s _ (by omega)]; decide), if_neg (by decide)]⟩
                    have h2' : (s.size : Int) ≤ (m : Int) + 1 := by omega
                    have h3' : m + 1 = s.size := by omega
                    have q0 : decide ((k : Int) < 4) = true := decide_eq_true (by omega)
                    clear HK hm
                    go_wp2
                    go_ret2
                    exact ⟨vs_no HN.out _ rfl, rfl⟩
                · obtain rfl : k = 4 := by omega
                  have HN : Aside0 (oQ s (j + 6) = oQ s p) := ⟨by rw [HO.out, if_pos (hex4_yes fun k hk => HK.out k hk)]⟩
                  clear HK
                  go_wp2
                  go_roundw
                  case rel => exact ⟨j + 6, by go_num, by omega, trivial, HN⟩
                  case measure => simp [intOf]; omega
            · have HO : Aside0 (oQ s p = none) := ⟨by rw [HA2.out, if_neg k, if_neg u]⟩
              have f2 : (d == 117) = false := beq_eq_false_iff_ne.mpr u
              obtain ⟨n1, n2, n3, n4, n5, n6, n7, n8⟩ := simple8_no k
              clear k u HA2
              go_wp2
              go_ret2
              exact ⟨vs_no HO.out _ rfl, rfl⟩
        · have HO : Aside0 (oQ s p = none) := ⟨by rw [← HJ.out, HA.out, if_neg (by decide), if_neg c32, if_pos rfl, bt_out s ((j + 1 : Nat) : Int) (by omega)]; rfl⟩
          have f1 : ((j : Int) + 1 == (s.size : Int)) = true := beq_iff_eq.mpr (by omega)
          clear hc c32
          go_wp2
          go_ret2
          exact ⟨vs_no HO.out _ rfl, rfl⟩
      have e2 : (c == 92) = false := beq_eq_false_iff_ne.mpr c92
      by_cases c34 : c = 34
      · subst c34
        have HO : Aside0 (oQ s p = some (j + 1)) := ⟨by rw [← HJ.out, HA.out, if_pos rfl]⟩
        clear hc c32 c92
        go_wp2
        go_ret2
        exact ⟨vs_yes HO.out (by omega) rfl, rfl⟩
      · have HO : Aside0 (oQ s (j + 1) = oQ s p) := ⟨by rw [← HJ.out, HA.out, if_neg c34, if_neg c32, if_neg c92]⟩
        have e3 : (c == 34) = false := beq_eq_false_iff_ne.mpr c34
        clear hc c32 c92 c34
        go_wp2
        go_roundw
        case rel => exact ⟨j + 1, by go_num, by omega, trivial, HO⟩
        case measure => simp [intOf]; omega
    · obtain rfl : j = s.size := by omega
      have HO : Aside0 (oQ s p = none) := ⟨by rw [← HJ.out]; exact oQ_out (Nat.le_refl _)⟩
      go_wp2
      go_ret2
      exact ⟨vs_no HO.out _ rfl, rfl⟩
end Go.Proofs.YtlhaefblchpjhaaGreatDoor.GjV
end
section
namespace Go.Proofs.YtlhaefblchpjhaaGreatDoor.GjV
open Go.RowKit Go.Proofs.YtlhaefblchpjhaaGreatDoorW.PrintWords Go.Proofs.YtlhaefblchpjhaaGreatDoorW.PrintLast Go.Proofs.YtlhaefblchpjhaaGreatDoorW.PrintMore
open Go.Proofs.YtlhaefblchpjhaaGreatDoor.FjW (cut cut_cut cut_size cut_bytes cut_zero cut_bt bt_out D rd_D rd_D0 D_drop D_len D_nil D_cons ws_at)
open Go.Proofs.YtlhaefblchpjhaaGreatDoor.Fp (nx nx_ge nx_nx nx_le)
attribute [local go_sem] max2_int min2_int max_two min_two max_three min_three max_four min_four
set_option linter.unusedVariables false
set_option linter.unusedSimpArgs false
def dg (c : Int) : Prop := 48 ≤ c ∧ c ≤ 57
instance (c : Int) : Decidable (dg c) := inferInstanceAs (Decidable (_ ∧ _))
/-- Behind the digits. -/
def nd (s : ByteArray) (p : Nat) : Nat := p + Fj.digs (D s p)
theorem nd_step {s : ByteArray} {j : Nat} (h : dg (bt s (j : Int))) : nd s (j + 1) = nd s j := by
  have hj : j < s.size := by
    refine Nat.lt_of_not_le fun hle => ?_
    rw [bt_out s _ (by omega)] at h
    exact absurd h.1 (by decide)
  unfold nd
  rw [D_cons s j hj, Fj.digs, if_pos (show 48 ≤ bt s (j : Int) ∧ bt s (j : Int) ≤ 57 from h)]; omega
theorem nd_here {s : ByteArray} {j : Nat} (h : ¬ dg (bt s (j : Int))) : nd s j = j := by
  unfold nd
  by_cases hj : j < s.size
  · rw [D_cons s j hj, Fj.digs, if_neg (show ¬ (48 ≤ bt s (j : Int) ∧ bt s (j : Int) ≤ 57) from h)]; rfl
  · rw [D_nil s j (by omega)]; rfl
theorem nd_out {s : ByteArray} {j : Nat} (h : s.size ≤ j) : nd s j = j := nd_here (by rw [bt_out s _ (by omega)]; exact fun h => absurd h.1 (by decide))
def gX2 (s : ByteArray) (r : Nat) : Option Nat := if dg (bt s (r : Int)) then some (nd s (r + 1)) else none
def gX (s : ByteArray) (q : Nat) : Option Nat := if bt s (q : Int) = 101 ∨ bt s (q : Int) = 69 then (if bt s ((q + 1 : Nat) : Int) = 43 ∨ bt s ((q + 1 : Nat) : Int) = 45 then gX2 s (q + 2) else gX2 s (q + 1)) else some q
def gF (s : ByteArray) (q : Nat) : Option Nat := if bt s (q : Int) = 46 then (if dg (bt s ((q + 1 : Nat) : Int)) then gX s (nd s (q + 2)) else none) else gX s q
def gW (s : ByteArray) (q : Nat) : Option Nat := if bt s (q : Int) = 48 then gF s (q + 1) else gF s (nd s q)
def gN (s : ByteArray) (p : Nat) : Option Nat := if bt s (p : Int) = 45 then (if dg (bt s ((p + 1 : Nat) : Int)) then gW s (p + 1) else none) else gW s p
theorem gX_end {s : ByteArray} {q : Nat} (h : s.size ≤ q) : gX s q = some q := by
  unfold gX; rw [bt_out s _ (by omega), if_neg (by decide)]
theorem gF_end {s : ByteArray} {q : Nat} (h : s.size ≤ q) : gF s q = some q := by
  unfold gF; rw [bt_out s _ (by omega), if_neg (by decide)]; exact gX_end h
theorem gX2_end {s : ByteArray} {q : Nat} (h : s.size ≤ q) : gX2 s q = none := by
  unfold gX2; rw [bt_out s _ (by omega), if_neg (fun h => absurd h.1 (by decide))]
def sg (c : Int) : Bool := decide (c = 43 ∨ c = 45)
theorem sg_yes {c : Int} (h : c = 43 ∨ c = 45) : true = sg c := (decide_eq_true h).symm
theorem sg_no {c : Int} (h1 : c ≠ 43) (h2 : c ≠ 45) : false = sg c := (decide_eq_false (fun h => h.elim h1 h2)).symm
theorem sg_t {c : Int} (h : true = sg c) : c = 43 ∨ c = 45 := of_decide_eq_true h.symm
theorem sg_f {c : Int} (h : false = sg c) : ¬ (c = 43 ∨ c = 45) := of_decide_eq_false h.symm
theorem no_dg {c : Int} (h : ¬ dg c) : c < 48 ∨ (¬ c < 48 ∧ 57 < c) := by unfold dg at h; omega
set_option maxHeartbeats 16000000 in
set_option maxRecDepth 100000 in
theorem vnumber (s : ByteArray) (hs : s.size ≤ 1000000) (w : World) (g cap p : Nat) (hR : RdB w g s) (hp : p < s.size) (hc : bt s (p : Int) = 45 ∨ dg (bt s (p : Int))) :
    Calls Tryz.prog 172 #[.slice (some ⟨g, 0, none⟩) s.size cap, .int .i64 ((p : Int) + 1)] w fun e w' => VS (gN s p) e ∧ w = w' := by
  have HR := Aside0.mk hR
  have hx := hR p hp
  have hp' : (p : Int) < (s.size : Int) := by omega
  clear hR
  go_enter Tryz.func172, Tryz.ntmps172
  go_upto_if 12 with (fail)
  go_cut [1] from 13 to 32 (fun v1 wc => ∃ q : Nat, v1 = .int .i64 (q : Int) ∧ w = wc ∧ q < s.size ∧ Aside0 (gN s p = gW s q ∧ dg (bt s (q : Int))))
  case first =>
    by_cases c : bt s (p : Int) = 45
    · have f0 : (bt s (p : Int) == 45) = true := beq_iff_eq.mpr c
      by_cases h1 : p + 1 < s.size
      · have hx1 := HR.out (p + 1) h1
        obtain ⟨c1, hc1⟩ : ∃ c, bt s ((p + 1 : Nat) : Int) = c := ⟨_, rfl⟩
        rw [hc1] at hx1
        have h1' : (p : Int) + 1 < (s.size : Int) := by omega
        have f1 : ((p : Int) + 1 == (s.size : Int)) = false := beq_eq_false_iff_ne.mpr (by omega)
        by_cases d : dg c1
        · have HO : Aside0 (gN s p = gW s (p + 1) ∧ dg (bt s ((p + 1 : Nat) : Int))) := ⟨by unfold gN; rw [if_pos c, hc1, if_pos d], by rw [hc1]; exact d⟩
          have d1 : decide (c1 < 48) = false := decide_eq_false (by unfold dg at d; omega)
          have d2 : decide (57 < c1) = false := decide_eq_false (by unfold dg at d; omega)
          clear c d hc1 hc
          go_wp2
          go_meet
          case rel => exact ⟨p + 1, by go_num, rfl, h1, HO⟩
        · have HO : Aside0 (gN s p = none) := ⟨by unfold gN; rw [if_pos c, hc1, if_neg d]⟩
          rcases no_dg d with d1 | ⟨d1, d2⟩
          · clear c d hc1 hc
            go_wp2
            go_ret2
            exact ⟨vs_no HO.out _ rfl, rfl⟩
          · clear c d hc1 hc
            go_wp2
            go_ret2
            exact ⟨vs_no HO.out _ rfl, rfl⟩
      · have HO : Aside0 (gN s p = none) := ⟨by unfold gN; rw [if_pos c, bt_out s ((p + 1 : Nat) : Int) (by omega), if_neg (fun h => absurd h.1 (by decide))]⟩
        have f1 : ((p : Int) + 1 == (s.size : Int)) = true := beq_iff_eq.mpr (by omega)
        clear c hc
        go_wp2
        go_ret2
        exact ⟨vs_no HO.out _ rfl, rfl⟩
    · have HO : Aside0 (gN s p = gW s p ∧ dg (bt s (p : Int))) := ⟨by unfold gN; rw [if_neg c], hc.resolve_left c⟩
      have f0 : (bt s (p : Int) == 45) = false := beq_eq_false_iff_ne.mpr c
      clear c hc
      go_wp2
      go_meet
      case rel => exact ⟨p, by go_num, rfl, hp, HO⟩
  case rest =>
    clear hx hp' hc
    obtain ⟨q, rfl, rfl, hq, HQ⟩ := hcut
    have hx := HR.out q hq
    have hq' : (q : Int) < (s.size : Int) := by omega
    have f1 : ((q : Int) == (s.size : Int)) = false := beq_eq_false_iff_ne.mpr (by omega)
    go_upto_if 42 with (fail)
    go_cut [1] from 43 to 62 (fun v1 wc => ∃ r : Nat, v1 = .int .i64 (r : Int) ∧ w = wc ∧ r ≤ s.size ∧ Aside0 (gN s p = gF s r))
    case first =>
      by_cases c : bt s (q : Int) = 48
      · have HO : Aside0 (gN s p = gF s (q + 1)) := ⟨by rw [HQ.out.1]; unfold gW; rw [if_pos c]⟩
        have f0 : (bt s (q : Int) == 48) = true := beq_iff_eq.mpr c
        clear c
        go_wp2
        go_meet
        case rel => exact ⟨q + 1, by go_num, rfl, hq, HO⟩
      · have HO : Aside0 (gN s p = gF s (nd s q)) := ⟨by rw [HQ.out.1]; unfold gW; rw [if_neg c]⟩
        have f0 : (bt s (q : Int) == 48) = false := beq_eq_false_iff_ne.mpr c
        clear c
        go_wp2
        clear hx f1 f0 hq'
        go_loopw [1] (fun v wr => ∃ j : Nat, v = .int .i64 (j : Int) ∧ j ≤ s.size ∧ w = wr ∧ Aside0 (nd s j = nd s q)) (fun v _ => s.size - (intOf v).toNat)
        case atStart => exact ⟨q, rfl, Nat.le_of_lt hq, rfl, ⟨rfl⟩⟩
        case round =>
          obtain ⟨j, rfl, hj, rfl, HJ⟩ := hrel
          by_cases hlt : j < s.size
          · have hx := HR.out j hlt
            have hlt' : (j : Int) < (s.size : Int) := by omega
            by_cases d : dg (bt s (j : Int))
            · have HJ' : Aside0 (nd s (j + 1) = nd s q) := ⟨(nd_step d).trans HJ.out⟩
              have d1 : decide (48 ≤ bt s (j : Int)) = true := decide_eq_true d.1
              have d2 : decide (bt s (j : Int) ≤ 57) = true := decide_eq_true d.2
              clear d HJ
              go_wp2
              go_roundw
              case rel => exact ⟨j + 1, by go_num, by omega, trivial, HJ'⟩
              case measure => simp [intOf]; omega
            · have HF : Aside0 (gN s p = gF s j) := ⟨by rw [HO.out, ← HJ.out, nd_here d]⟩
              rcases no_dg d with d1 | ⟨d1, d2⟩
              · have e1 : decide (48 ≤ bt s (j : Int)) = false := decide_eq_false (by omega)
                clear d d1
                go_wp2
                go_meet
                case rel => exact ⟨j, rfl, rfl, hj, HF⟩
              · have e1 : decide (48 ≤ bt s (j : Int)) = true := decide_eq_true (by omega)
                have e2 : decide (bt s (j : Int) ≤ 57) = false := decide_eq_false (by omega)
                clear d d1 d2
                go_wp2
                go_meet
                case rel => exact ⟨j, rfl, rfl, hj, HF⟩
          · obtain rfl : j = s.size := by omega
            have HF : Aside0 (gN s p = gF s s.size) := ⟨by rw [HO.out, ← HJ.out, nd_out (Nat.le_refl _)]⟩
            go_wp2
            go_meet
            case rel => exact ⟨s.size, rfl, rfl, Nat.le_refl _, HF⟩
    case rest =>
      clear hx hq' f1 HQ
      obtain ⟨r, rfl, rfl, hr, HF⟩ := hcut
      by_cases hlt : r < s.size
      · have hx := HR.out r hlt
        have hr' : (r : Int) < (s.size : Int) := by omega
        have f1 : ((r : Int) == (s.size : Int)) = false := beq_eq_false_iff_ne.mpr (by omega)
        go_upto_if 72 with (fail)
        go_cut [1] from 73 to 112 (fun v1 wc => ∃ t : Nat, v1 = .int .i64 (t : Int) ∧ w = wc ∧ t ≤ s.size ∧ Aside0 (gN s p = gX s t))
        case first =>
          by_cases c : bt s (r : Int) = 46
          · have f0 : (bt s (r : Int) == 46) = true := beq_iff_eq.mpr c
            by_cases h1 : r + 1 < s.size
            · have hx1 := HR.out (r + 1) h1
              obtain ⟨c1, hc1⟩ : ∃ c, bt s ((r + 1 : Nat) : Int) = c := ⟨_, rfl⟩
              rw [hc1] at hx1
              have h1' : (r : Int) + 1 < (s.size : Int) := by omega
              have f2 : ((r : Int) + 1 == (s.size : Int)) = false := beq_eq_false_iff_ne.mpr (by omega)
              by_cases d : dg c1
              · have HO : Aside0 (gN s p = gX s (nd s (r + 2))) := ⟨by rw [HF.out]; unfold gF; rw [if_pos c, hc1, if_pos d]⟩
                have d1 : decide (c1 < 48) = false := decide_eq_false (by unfold dg at d; omega)
                have d2 : decide (57 < c1) = false := decide_eq_false (by unfold dg at d; omega)
                clear c d hc1
                go_wp2
                clear hx f1 f2 hr' hx1 h1'
                go_loopw [1] (fun v wr => ∃ j : Nat, v = .int .i64 (j : Int) ∧ j ≤ s.size ∧ w = wr ∧ Aside0 (nd s j = nd s (r + 2))) (fun v _ => s.size - (intOf v).toNat)
                case atStart => exact ⟨r + 2, by go_num, h1, rfl, ⟨rfl⟩⟩
                case round =>
                  clear d1 d2
                  obtain ⟨j, rfl, hj, rfl, HJ⟩ := hrel
                  by_cases hlt : j < s.size
                  · have hx := HR.out j hlt
                    have hlt' : (j : Int) < (s.size : Int) := by omega
                    by_cases d : dg (bt s (j : Int))
                    · have HJ' : Aside0 (nd s (j + 1) = nd s (r + 2)) := ⟨(nd_step d).trans HJ.out⟩
                      have d1 : decide (48 ≤ bt s (j : Int)) = true := decide_eq_true d.1
                      have d2 : decide (bt s (j : Int) ≤ 57) = true := decide_eq_true d.2
                      clear d HJ
                      go_wp2
                      go_roundw
                      case rel => exact ⟨j + 1, by go_num, by omega, trivial, HJ'⟩
                      case measure => simp [intOf]; omega
                    · have HG : Aside0 (gN s p = gX s j) := ⟨by rw [HO.out, ← HJ.out, nd_here d]⟩
                      rcases no_dg d with d1 | ⟨d1, d2⟩
                      · have e1 : decide (48 ≤ bt s (j : Int)) = false := decide_eq_false (by omega)
                        clear d d1
                        go_wp2
                        go_meet
                        case rel => exact ⟨j, rfl, rfl, hj, HG⟩
                      · have e1 : decide (48 ≤ bt s (j : Int)) = true := decide_eq_true (by omega)
                        have e2 : decide (bt s (j : Int) ≤ 57) = false := decide_eq_false (by omega)
                        clear d d1 d2
                        go_wp2
                        go_meet
                        case rel => exact ⟨j, rfl, rfl, hj, HG⟩
                  · obtain rfl : j = s.size := by omega
                    have HG : Aside0 (gN s p = gX s s.size) := ⟨by rw [HO.out, ← HJ.out, nd_out (Nat.le_refl _)]⟩
                    go_wp2
                    go_meet
                    case rel => exact ⟨s.size, rfl, rfl, Nat.le_refl _, HG⟩
              · have HO : Aside0 (gN s p = none) := ⟨by rw [HF.out]; unfold gF; rw [if_pos c, hc1, if_neg d]⟩
                rcases no_dg d with d1 | ⟨d1, d2⟩
                · clear c d hc1
                  go_wp2
                  go_ret2
                  exact ⟨vs_no HO.out _ rfl, rfl⟩
                · clear c d hc1
                  go_wp2
                  go_ret2
                  exact ⟨vs_no HO.out _ rfl, rfl⟩
            · have HO : Aside0 (gN s p = none) := ⟨by rw [HF.out]; unfold gF; rw [if_pos c, bt_out s ((r + 1 : Nat) : Int) (by omega), if_neg (fun h => absurd h.1 (by decide))]⟩
              have f2 : ((r : Int) + 1 == (s.size : Int)) = true := beq_iff_eq.mpr (by omega)
              clear c
              go_wp2
              go_ret2
              exact ⟨vs_no HO.out _ rfl, rfl⟩
          · have HO : Aside0 (gN s p = gX s r) := ⟨by rw [HF.out]; unfold gF; rw [if_neg c]⟩
            have f0 : (bt s (r : Int) == 46) = false := beq_eq_false_iff_ne.mpr c
            clear c
            go_wp2
            go_meet
            case rel => exact ⟨r, rfl, rfl, hr, HO⟩
        case rest =>
          clear hx hr' f1 HF hlt
          obtain ⟨t, rfl, rfl, ht, HX⟩ := hcut
          by_cases hlt : t < s.size
          · have hx := HR.out t hlt
            have ht' : (t : Int) < (s.size : Int) := by omega
            have f1 : ((t : Int) == (s.size : Int)) = false := beq_eq_false_iff_ne.mpr (by omega)
            by_cases c : bt s (t : Int) = 101 ∨ bt s (t : Int) = 69
            · have c' : (bt s (t : Int) == 101) = true ∨ ((bt s (t : Int) == 101) = false ∧ (bt s (t : Int) == 69) = true) := by
                by_cases e : bt s (t : Int) = 101
                · exact .inl (beq_iff_eq.mpr e)
                · exact .inr ⟨beq_eq_false_iff_ne.mpr e, beq_iff_eq.mpr (c.resolve_left e)⟩
              go_upto_region 29 with (fail)
              go_cut [129] from 118 to 129 (fun v wc => v = .bool true ∧ w = wc)
              case first =>
                clear c
                rcases c' with f3 | ⟨f3, f4⟩
                · go_wp2
                  go_meet
                  case rel => exact ⟨rfl, rfl⟩
                · go_wp2
                  go_meet
                  case rel => exact ⟨rfl, rfl⟩
              case rest =>
                clear c' hx f1 ht'
                obtain ⟨rfl, rfl⟩ := hcut
                by_cases h1 : t + 1 < s.size
                · have hx1 := HR.out (t + 1) h1
                  obtain ⟨c1, hc1⟩ : ∃ c, bt s ((t + 1 : Nat) : Int) = c := ⟨_, rfl⟩
                  rw [hc1] at hx1
                  have h1' : (t : Int) + 1 < (s.size : Int) := by omega
                  have f2 : ((t : Int) + 1 == (s.size : Int)) = false := beq_eq_false_iff_ne.mpr (by omega)
                  have HGX : Aside0 (gN s p = if c1 = 43 ∨ c1 = 45 then gX2 s (t + 2) else gX2 s (t + 1)) := ⟨by rw [HX.out]; unfold gX; rw [if_pos c, hc1]⟩
                  clear c hc1
                  go_upto_region 33 with (fail)
                  go_cut [148] from 137 to 148 (fun v wc => ∃ b : Bool, v = .bool b ∧ w = wc ∧ Aside0 (b = sg c1))
                  case first =>
                    by_cases e1 : c1 = 43
                    · have g1 : (c1 == 43) = true := beq_iff_eq.mpr e1
                      have HB := Aside0.mk (sg_yes (.inl e1))
                      clear e1
                      go_wp2
                      go_meet
                      case rel => exact ⟨true, rfl, rfl, HB⟩
                    · have g1 : (c1 == 43) = false := beq_eq_false_iff_ne.mpr e1
                      by_cases e2 : c1 = 45
                      · have g2 : (c1 == 45) = true := beq_iff_eq.mpr e2
                        have HB := Aside0.mk (sg_yes (.inr e2))
                        clear e1 e2
                        go_wp2
                        go_meet
                        case rel => exact ⟨true, rfl, rfl, HB⟩
                      · have g2 : (c1 == 45) = false := beq_eq_false_iff_ne.mpr e2
                        have HB := Aside0.mk (sg_no e1 e2)
                        clear e1 e2
                        go_wp2
                        go_meet
                        case rel => exact ⟨false, rfl, rfl, HB⟩
                  case rest =>
                    clear hx1
                    obtain ⟨b, rfl, rfl, HB⟩ := hcut
                    go_upto_if 148 with (fail)
                    go_cut [1] from 149 to 150 (fun v1 wc => ∃ r : Nat, v1 = .int .i64 (r : Int) ∧ w = wc ∧ r ≤ s.size ∧ Aside0 (gN s p = gX2 s r))
                    case first =>
                      cases b with
                      | true =>
                        have HO : Aside0 (gN s p = gX2 s (t + 2)) := ⟨by rw [HGX.out, if_pos (sg_t HB.out)]⟩
                        go_wp2
                        go_meet
                        case rel => exact ⟨t + 2, by go_num, rfl, h1, HO⟩
                      | false =>
                        have HO : Aside0 (gN s p = gX2 s (t + 1)) := ⟨by rw [HGX.out, if_neg (sg_f HB.out)]⟩
                        go_wp2
                        go_meet
                        case rel => exact ⟨t + 1, by go_num, rfl, Nat.le_of_lt h1, HO⟩
                    case rest =>
                      clear f2 h1'
                      obtain ⟨r, rfl, rfl, hr, HY⟩ := hcut
                      by_cases hlr : r < s.size
                      · have hx := HR.out r hlr
                        have hr' : (r : Int) < (s.size : Int) := by omega
                        have f1 : ((r : Int) == (s.size : Int)) = false := beq_eq_false_iff_ne.mpr (by omega)
                        by_cases d : dg (bt s (r : Int))
                        · have HO : Aside0 (gN s p = some (nd s (r + 1))) := ⟨by rw [HY.out]; unfold gX2; rw [if_pos d]⟩
                          have d1 : decide (bt s (r : Int) < 48) = false := decide_eq_false (by unfold dg at d; omega)
                          have d2 : decide (57 < bt s (r : Int)) = false := decide_eq_false (by unfold dg at d; omega)
                          clear d
                          go_wp2
                          clear hx f1 hr' d1 d2
                          go_loopw [1] (fun v wr => ∃ j : Nat, v = .int .i64 (j : Int) ∧ j ≤ s.size ∧ w = wr ∧ Aside0 (nd s j = nd s (r + 1))) (fun v _ => s.size - (intOf v).toNat)
                          case atStart => exact ⟨r + 1, by go_num, hlr, rfl, ⟨rfl⟩⟩
                          case round =>
                            obtain ⟨j, rfl, hj, rfl, HJ⟩ := hrel
                            by_cases hlt : j < s.size
                            · have hx := HR.out j hlt
                              have hlt' : (j : Int) < (s.size : Int) := by omega
                              by_cases d : dg (bt s (j : Int))
                              · have HJ' : Aside0 (nd s (j + 1) = nd s (r + 1)) := ⟨(nd_step d).trans HJ.out⟩
                                have d1 : decide (48 ≤ bt s (j : Int)) = true := decide_eq_true d.1
                                have d2 : decide (bt s (j : Int) ≤ 57) = true := decide_eq_true d.2
                                clear d HJ
                                go_wp2
                                go_roundw
                                case rel => exact ⟨j + 1, by go_num, by omega, trivial, HJ'⟩
                                case measure => simp [intOf]; omega
                              · have HG : Aside0 (gN s p = some j) := ⟨by rw [HO.out, ← HJ.out, nd_here d]⟩
                                rcases no_dg d with d1 | ⟨d1, d2⟩
                                · have e1 : decide (48 ≤ bt s (j : Int)) = false := decide_eq_false (by omega)
                                  clear d d1
                                  go_wp2
                                  go_ret2
                                  exact ⟨vs_yes HG.out rfl rfl, rfl⟩
                                · have e1 : decide (48 ≤ bt s (j : Int)) = true := decide_eq_true (by omega)
                                  have e2 : decide (bt s (j : Int) ≤ 57) = false := decide_eq_false (by omega)
                                  clear d d1 d2
                                  go_wp2
                                  go_ret2
                                  exact ⟨vs_yes HG.out rfl rfl, rfl⟩
                            · obtain rfl : j = s.size := by omega
                              have HG : Aside0 (gN s p = some s.size) := ⟨by rw [HO.out, ← HJ.out, nd_out (Nat.le_refl _)]⟩
                              go_wp2
                              go_ret2
                              exact ⟨vs_yes HG.out rfl rfl, rfl⟩
                        · have HO : Aside0 (gN s p = none) := ⟨by rw [HY.out]; unfold gX2; rw [if_neg d]⟩
                          rcases no_dg d with d1 | ⟨d1, d2⟩
                          · clear d
                            go_wp2
                            go_ret2
                            exact ⟨vs_no HO.out _ rfl, rfl⟩
                          · clear d
                            go_wp2
                            go_ret2
                            exact ⟨vs_no HO.out _ rfl, rfl⟩
                      · obtain rfl : r = s.size := by omega
                        have HO : Aside0 (gN s p = none) := ⟨by rw [HY.out]; exact gX2_end (Nat.le_refl _)⟩
                        go_wp2
                        go_ret2
                        exact ⟨vs_no HO.out _ rfl, rfl⟩
                · have HO : Aside0 (gN s p = none) := ⟨by
                    rw [HX.out]; unfold gX
                    rw [if_pos c, if_neg (by rw [bt_out s ((t + 1 : Nat) : Int) (by omega)]; decide)]
                    exact gX2_end (by omega)⟩
                  have f2 : ((t : Int) + 1 == (s.size : Int)) = true := beq_iff_eq.mpr (by omega)
                  clear c
                  go_wp2
                  go_ret2
                  exact ⟨vs_no HO.out _ rfl, rfl⟩
            · have HO : Aside0 (gN s p = some t) := ⟨by rw [HX.out]; unfold gX; rw [if_neg c]⟩
              have f2 : (bt s (t : Int) == 101) = false := beq_eq_false_iff_ne.mpr (fun e => c (.inl e))
              have f3 : (bt s (t : Int) == 69) = false := beq_eq_false_iff_ne.mpr (fun e => c (.inr e))
              clear c
              go_wp2
              go_ret2
              exact ⟨vs_yes HO.out rfl rfl, rfl⟩
          · obtain rfl : t = s.size := by omega
            have HO : Aside0 (gN s p = some s.size) := ⟨by rw [HX.out]; exact gX_end (Nat.le_refl _)⟩
            go_wp2
            go_ret2
            exact ⟨vs_yes HO.out rfl rfl, rfl⟩
      · obtain rfl : r = s.size := by omega
        have HO : Aside0 (gN s p = some s.size) := ⟨by rw [HF.out]; exact gF_end (Nat.le_refl _)⟩
        go_wp2
        go_ret2
        exact ⟨vs_yes HO.out rfl rfl, rfl⟩
end Go.Proofs.YtlhaefblchpjhaaGreatDoor.GjV
end
section
namespace Go.Proofs.YtlhaefblchpjhaaGreatDoor.GjV
open Go.RowKit Go.Proofs.YtlhaefblchpjhaaGreatDoorW.PrintWords Go.Proofs.YtlhaefblchpjhaaGreatDoorW.PrintLast Go.Proofs.YtlhaefblchpjhaaGreatDoorW.PrintMore
open Go.Proofs.YtlhaefblchpjhaaGreatDoor.FjW (cut cut_cut cut_size cut_bytes cut_zero cut_bt bt_out D rd_D rd_D0 D_drop D_len D_nil D_cons ws_at)
open Go.Proofs.YtlhaefblchpjhaaGreatDoor.Fp (nx nx_ge nx_nx nx_le)
attribute [local go_sem] max2_int min2_int max_two min_two max_three min_three max_four min_four
set_option linter.unusedVariables false
set_option linter.unusedSimpArgs false
set_option maxHeartbeats 4000000 in
theorem vcomma (s : ByteArray) (hs : s.size ≤ 1000000) (w : World) (g cap p : Nat) (hR : RdB w g s) (hp : p ≤ s.size) (z : Int) (hz : z = 93 ∨ z = 125) :
    Calls Tryz.prog 186 #[.slice (some ⟨g, 0, none⟩) s.size cap, .int .i64 (p : Int), .int .u8 z] w fun e w' => VS (oComma s p z) e ∧ w = w' := by
  have HR := Aside0.mk hR
  clear hR
  go_enter Tryz.func186, Tryz.ntmps186
  go_wp2
  go_loopw [1] (fun v wr => ∃ j : Nat, v = .int .i64 (j : Int) ∧ j ≤ s.size ∧ w = wr ∧ Aside0 (nx s j = nx s p)) (fun v _ => s.size - (intOf v).toNat)
  case atStart => exact ⟨p, rfl, hp, rfl, ⟨rfl⟩⟩
  case round =>
    obtain ⟨j, rfl, hj, rfl, HJ⟩ := hrel
    by_cases hlt : j < s.size
    · have hx := HR.out j hlt
      have hlt' : (j : Int) < (s.size : Int) := by omega
      rcases blank4 (bt s (j : Int)) with ⟨f, hb⟩ | ⟨f, hb⟩ | ⟨f, hb⟩ | ⟨f, hb⟩ | ⟨f1, f2, f3, f4, hb⟩
      rotate_right 1
      · have HQ : Aside0 (nx s p = j) := ⟨by rw [← HJ.out]; exact nx_here (.inr hb)⟩
        by_cases c : bt s (j : Int) = 44
        · have HO : Aside0 (oComma s p z = some j) := ⟨by unfold oComma; rw [HQ.out, if_pos (.inl c)]⟩
          rw [c] at hx
          clear c f1 f2 f3 f4 hb
          go_wp2
          go_ret2
          exact ⟨vs_yes HO.out rfl rfl, rfl⟩
        · have f5 : (bt s (j : Int) == 44) = false := beq_eq_false_iff_ne.mpr c
          by_cases c2 : bt s (j : Int) = z
          · have HO : Aside0 (oComma s p z = some j) := ⟨by unfold oComma; rw [HQ.out, if_pos (.inr c2)]⟩
            have f6 : (bt s (j : Int) == z) = true := beq_iff_eq.mpr c2
            clear c c2 hb
            go_wp2
            go_ret2
            exact ⟨vs_yes HO.out rfl rfl, rfl⟩
          · have HO : Aside0 (oComma s p z = none) := ⟨by unfold oComma; rw [HQ.out, if_neg (fun h => h.elim c c2)]⟩
            have f6 : (bt s (j : Int) == z) = false := beq_eq_false_iff_ne.mpr c2
            clear c c2 hb
            go_wp2
            go_ret2
            exact ⟨vs_no HO.out _ rfl, rfl⟩
      all_goals
        have HJ' : Aside0 (nx s (j + 1) = nx s p) := ⟨(nx_step hlt hb).trans HJ.out⟩
        rw [f] at hx
        clear f hb HJ
        go_wp2
        go_roundw
        case rel => exact ⟨j + 1, by go_num, by omega, trivial, HJ'⟩
        case measure => simp [intOf]; omega
    · obtain rfl : j = s.size := by omega
      have HO : Aside0 (oComma s p z = none) := ⟨by unfold oComma; rw [← HJ.out, nx_here (.inl (Nat.le_refl _)), bt_out s _ (Int.le_refl _), if_neg (by rcases hz with rfl | rfl <;> decide)]⟩
      go_wp2
      go_ret2
      exact ⟨vs_no HO.out _ rfl, rfl⟩
def oTrue (s : ByteArray) (p : Nat) : Option Nat := if bt s (p : Int) = 114 ∧ bt s ((p + 1 : Nat) : Int) = 117 ∧ bt s ((p + 2 : Nat) : Int) = 101 then some (p + 3) else none
set_option maxHeartbeats 4000000 in
theorem vTrue (s : ByteArray) (hs : s.size ≤ 1000000) (w : World) (g cap p : Nat) (hR : RdB w g s) (hp : p ≤ s.size) :
    Calls Tryz.prog 173 #[.slice (some ⟨g, 0, none⟩) s.size cap, .int .i64 (p : Int)] w fun e w' => VS (oTrue s p) e ∧ w = w' := by
  by_cases hn : p + 3 ≤ s.size
  · have f0 : decide ((p : Int) + 3 ≤ (s.size : Int)) = true := decide_eq_true (by omega)
    have hx0 := hR p (by omega)
    have hl0 : (p : Int) + 0 < (s.size : Int) := by omega
    obtain ⟨c0, hc0⟩ : ∃ c, bt s (p : Int) = c := ⟨_, rfl⟩
    rw [hc0] at hx0
    have hx1 := hR (p + 1) (by omega)
    have hl1 : (p : Int) + 1 < (s.size : Int) := by omega
    obtain ⟨c1, hc1⟩ : ∃ c, bt s ((p + 1 : Nat) : Int) = c := ⟨_, rfl⟩
    rw [hc1] at hx1
    have hx2 := hR (p + 2) (by omega)
    have hl2 : (p : Int) + 2 < (s.size : Int) := by omega
    obtain ⟨c2, hc2⟩ : ∃ c, bt s ((p + 2 : Nat) : Int) = c := ⟨_, rfl⟩
    rw [hc2] at hx2
    clear hR
    by_cases d0 : c0 = 114
    rotate_left 1
    · have HO : Aside0 (oTrue s p = none) := ⟨by unfold oTrue; rw [if_neg (fun h => d0 (hc0.symm.trans h.1))]⟩
      have g0 : (c0 == 114) = false := beq_eq_false_iff_ne.mpr d0
      clear d0
      go_enter Tryz.func173, Tryz.ntmps173
      go_wp2
      go_ret2
      exact ⟨vs_no HO.out _ rfl, rfl⟩
    have g0 : (c0 == 114) = true := beq_iff_eq.mpr d0
    by_cases d1 : c1 = 117
    rotate_left 1
    · have HO : Aside0 (oTrue s p = none) := ⟨by unfold oTrue; rw [if_neg (fun h => d1 (hc1.symm.trans h.2.1))]⟩
      have g1 : (c1 == 117) = false := beq_eq_false_iff_ne.mpr d1
      clear d1
      go_enter Tryz.func173, Tryz.ntmps173
      go_wp2
      go_ret2
      exact ⟨vs_no HO.out _ rfl, rfl⟩
    have g1 : (c1 == 117) = true := beq_iff_eq.mpr d1
    by_cases d2 : c2 = 101
    rotate_left 1
    · have HO : Aside0 (oTrue s p = none) := ⟨by unfold oTrue; rw [if_neg (fun h => d2 (hc2.symm.trans h.2.2))]⟩
      have g2 : (c2 == 101) = false := beq_eq_false_iff_ne.mpr d2
      clear d2
      go_enter Tryz.func173, Tryz.ntmps173
      go_wp2
      go_ret2
      exact ⟨vs_no HO.out _ rfl, rfl⟩
    have g2 : (c2 == 101) = true := beq_iff_eq.mpr d2
    have HO : Aside0 (oTrue s p = some (p + 3)) := ⟨by unfold oTrue; rw [if_pos ⟨hc0.trans d0, hc1.trans d1, hc2.trans d2⟩]⟩
    clear d0 hc0 d1 hc1 d2 hc2
    go_enter Tryz.func173, Tryz.ntmps173
    go_wp2
    go_ret2
    exact ⟨vs_yes HO.out (by omega) rfl, rfl⟩
  · have HO : Aside0 (oTrue s p = none) := ⟨by unfold oTrue; rw [if_neg (fun h => by have := h.2.2; rw [bt_out s _ (by omega)] at this; revert this; decide)]⟩
    have f0 : decide ((p : Int) + 3 ≤ (s.size : Int)) = false := decide_eq_false (by omega)
    clear hR
    go_enter Tryz.func173, Tryz.ntmps173
    go_wp2
    go_ret2
    exact ⟨vs_no HO.out _ rfl, rfl⟩
def oFalse (s : ByteArray) (p : Nat) : Option Nat := if bt s (p : Int) = 97 ∧ bt s ((p + 1 : Nat) : Int) = 108 ∧ bt s ((p + 2 : Nat) : Int) = 115 ∧ bt s ((p + 3 : Nat) : Int) = 101 then some (p + 4) else none
set_option maxHeartbeats 4000000 in
theorem vFalse (s : ByteArray) (hs : s.size ≤ 1000000) (w : World) (g cap p : Nat) (hR : RdB w g s) (hp : p ≤ s.size) :
    Calls Tryz.prog 174 #[.slice (some ⟨g, 0, none⟩) s.size cap, .int .i64 (p : Int)] w fun e w' => VS (oFalse s p) e ∧ w = w' := by
  by_cases hn : p + 4 ≤ s.size
  · have f0 : decide ((p : Int) + 4 ≤ (s.size : Int)) = true := decide_eq_true (by omega)
    have hx0 := hR p (by omega)
    have hl0 : (p : Int) + 0 < (s.size : Int) := by omega
    obtain ⟨c0, hc0⟩ : ∃ c, bt s (p : Int) = c := ⟨_, rfl⟩
    rw [hc0] at hx0
    have hx1 := hR (p + 1) (by omega)
    have hl1 : (p : Int) + 1 < (s.size : Int) := by omega
    obtain ⟨c1, hc1⟩ : ∃ c, bt s ((p + 1 : Nat) : Int) = c := ⟨_, rfl⟩
    rw [hc1] at hx1
    have hx2 := hR (p + 2) (by omega)
    have hl2 : (p : Int) + 2 < (s.size : Int) := by omega
    obtain ⟨c2, hc2⟩ : ∃ c, bt s ((p + 2 : Nat) : Int) = c := ⟨_, rfl⟩
    rw [hc2] at hx2
    have hx3 := hR (p + 3) (by omega)
    have hl3 : (p : Int) + 3 < (s.size : Int) := by omega
    obtain ⟨c3, hc3⟩ : ∃ c, bt s ((p + 3 : Nat) : Int) = c := ⟨_, rfl⟩
    rw [hc3] at hx3
    clear hR
    by_cases d0 : c0 = 97
    rotate_left 1
    · have HO : Aside0 (oFalse s p = none) := ⟨by unfold oFalse; rw [if_neg (fun h => d0 (hc0.symm.trans h.1))]⟩
      have g0 : (c0 == 97) = false := beq_eq_false_iff_ne.mpr d0
      clear d0
      go_enter Tryz.func174, Tryz.ntmps174
      go_wp2
      go_ret2
      exact ⟨vs_no HO.out _ rfl, rfl⟩
    have g0 : (c0 == 97) = true := beq_iff_eq.mpr d0
    by_cases d1 : c1 = 108
    rotate_left 1
    · have HO : Aside0 (oFalse s p = none) := ⟨by unfold oFalse; rw [if_neg (fun h => d1 (hc1.symm.trans h.2.1))]⟩
      have g1 : (c1 == 108) = false := beq_eq_false_iff_ne.mpr d1
      clear d1
      go_enter Tryz.func174, Tryz.ntmps174
      go_wp2
      go_ret2
      exact ⟨vs_no HO.out _ rfl, rfl⟩
    have g1 : (c1 == 108) = true := beq_iff_eq.mpr d1
    by_cases d2 : c2 = 115
    rotate_left 1
    · have HO : Aside0 (oFalse s p = none) := ⟨by unfold oFalse; rw [if_neg (fun h => d2 (hc2.symm.trans h.2.2.1))]⟩
      have g2 : (c2 == 115) = false := beq_eq_false_iff_ne.mpr d2
      clear d2
      go_enter Tryz.func174, Tryz.ntmps174
      go_wp2
      go_ret2
      exact ⟨vs_no HO.out _ rfl, rfl⟩
    have g2 : (c2 == 115) = true := beq_iff_eq.mpr d2
    by_cases d3 : c3 = 101
    rotate_left 1
    · have HO : Aside0 (oFalse s p = none) := ⟨by unfold oFalse; rw [if_neg (fun h => d3 (hc3.symm.trans h.2.2.2))]⟩
      have g3 : (c3 == 101) = false := beq_eq_false_iff_ne.mpr d3
      clear d3
      go_enter Tryz.func174, Tryz.ntmps174
      go_wp2
      go_ret2
      exact ⟨vs_no HO.out _ rfl, rfl⟩
    have g3 : (c3 == 101) = true := beq_iff_eq.mpr d3
    have HO : Aside0 (oFalse s p = some (p + 4)) := ⟨by unfold oFalse; rw [if_pos ⟨hc0.trans d0, hc1.trans d1, hc2.trans d2, hc3.trans d3⟩]⟩
    clear d0 hc0 d1 hc1 d2 hc2 d3 hc3
    go_enter Tryz.func174, Tryz.ntmps174
    go_wp2
    go_ret2
    exact ⟨vs_yes HO.out (by omega) rfl, rfl⟩
  · have HO : Aside0 (oFalse s p = none) := ⟨by unfold oFalse; rw [if_neg (fun h => by have := h.2.2.2; rw [bt_out s _ (by omega)] at this; revert this; decide)]⟩
    have f0 : decide ((p : Int) + 4 ≤ (s.size : Int)) = false := decide_eq_false (by omega)
    clear hR
    go_enter Tryz.func174, Tryz.ntmps174
    go_wp2
    go_ret2
    exact ⟨vs_no HO.out _ rfl, rfl⟩
def oNull (s : ByteArray) (p : Nat) : Option Nat := if bt s (p : Int) = 117 ∧ bt s ((p + 1 : Nat) : Int) = 108 ∧ bt s ((p + 2 : Nat) : Int) = 108 then some (p + 3) else none
set_option maxHeartbeats 4000000 in
theorem vNull (s : ByteArray) (hs : s.size ≤ 1000000) (w : World) (g cap p : Nat) (hR : RdB w g s) (hp : p ≤ s.size) :
    Calls Tryz.prog 175 #[.slice (some ⟨g, 0, none⟩) s.size cap, .int .i64 (p : Int)] w fun e w' => VS (oNull s p) e ∧ w = w' := by
  by_cases hn : p + 3 ≤ s.size
  · have f0 : decide ((p : Int) + 3 ≤ (s.size : Int)) = true := decide_eq_true (by omega)
    have hx0 := hR p (by omega)
    have hl0 : (p : Int) + 0 < (s.size : Int) := by omega
    obtain ⟨c0, hc0⟩ : ∃ c, bt s (p : Int) = c := ⟨_, rfl⟩
    rw [hc0] at hx0
    have hx1 := hR (p + 1) (by omega)
    have hl1 : (p : Int) + 1 < (s.size : Int) := by omega
    obtain ⟨c1, hc1⟩ : ∃ c, bt s ((p + 1 : Nat) : Int) = c := ⟨_, rfl⟩
    rw [hc1] at hx1
    have hx2 := hR (p + 2) (by omega)
    have hl2 : (p : Int) + 2 < (s.size : Int) := by omega
    obtain ⟨c2, hc2⟩ : ∃ c, bt s ((p + 2 : Nat) : Int) = c := ⟨_, rfl⟩
    rw [hc2] at hx2
    clear hR
    by_cases d0 : c0 = 117
    rotate_left 1
    · have HO : Aside0 (oNull s p = none) := ⟨by unfold oNull; rw [if_neg (fun h => d0 (hc0.symm.trans h.1))]⟩
      have g0 : (c0 == 117) = false := beq_eq_false_iff_ne.mpr d0
      clear d0
      go_enter Tryz.func175, Tryz.ntmps175
      go_wp2
      go_ret2
      exact ⟨vs_no HO.out _ rfl, rfl⟩
    have g0 : (c0 == 117) = true := beq_iff_eq.mpr d0
    by_cases d1 : c1 = 108
    rotate_left 1
    · have HO : Aside0 (oNull s p = none) := ⟨by unfold oNull; rw [if_neg (fun h => d1 (hc1.symm.trans h.2.1))]⟩
      have g1 : (c1 == 108) = false := beq_eq_false_iff_ne.mpr d1
      clear d1
      go_enter Tryz.func175, Tryz.ntmps175
      go_wp2
      go_ret2
      exact ⟨vs_no HO.out _ rfl, rfl⟩
    have g1 : (c1 == 108) = true := beq_iff_eq.mpr d1
    by_cases d2 : c2 = 108
    rotate_left 1
    · have HO : Aside0 (oNull s p = none) := ⟨by unfold oNull; rw [if_neg (fun h => d2 (hc2.symm.trans h.2.2))]⟩
      have g2 : (c2 == 108) = false := beq_eq_false_iff_ne.mpr d2
      clear d2
      go_enter Tryz.func175, Tryz.ntmps175
      go_wp2
      go_ret2
      exact ⟨vs_no HO.out _ rfl, rfl⟩
    have g2 : (c2 == 108) = true := beq_iff_eq.mpr d2
    have HO : Aside0 (oNull s p = some (p + 3)) := ⟨by unfold oNull; rw [if_pos ⟨hc0.trans d0, hc1.trans d1, hc2.trans d2⟩]⟩
    clear d0 hc0 d1 hc1 d2 hc2
    go_enter Tryz.func175, Tryz.ntmps175
    go_wp2
    go_ret2
    exact ⟨vs_yes HO.out (by omega) rfl, rfl⟩
  · have HO : Aside0 (oNull s p = none) := ⟨by unfold oNull; rw [if_neg (fun h => by have := h.2.2; rw [bt_out s _ (by omega)] at this; revert this; decide)]⟩
    have f0 : decide ((p : Int) + 3 ≤ (s.size : Int)) = false := decide_eq_false (by omega)
    clear hR
    go_enter Tryz.func175, Tryz.ntmps175
    go_wp2
    go_ret2
    exact ⟨vs_no HO.out _ rfl, rfl⟩
end Go.Proofs.YtlhaefblchpjhaaGreatDoor.GjV
end
section
namespace Go.Proofs.YtlhaefblchpjhaaGreatDoor.GjV
open Go.RowKit Go.Proofs.YtlhaefblchpjhaaGreatDoorW.PrintWords Go.Proofs.YtlhaefblchpjhaaGreatDoorW.PrintLast Go.Proofs.YtlhaefblchpjhaaGreatDoorW.PrintMore
open Go.Proofs.YtlhaefblchpjhaaGreatDoor.FjW (cut cut_cut cut_size cut_bytes cut_zero cut_bt bt_out D rd_D rd_D0 D_drop D_len D_nil D_cons ws_at)
open Go.Proofs.YtlhaefblchpjhaaGreatDoor.Fp (nx nx_ge nx_nx nx_le)
attribute [local go_sem] max2_int min2_int max_two min_two max_three min_three max_four min_four
set_option linter.unusedVariables false
set_option linter.unusedSimpArgs false
/-- The elements from p on, by a reader v of values. -/
def gE (v : Nat → Option Nat) (s : ByteArray) : Nat → Nat → Option Nat
  | 0, _ => none
  | n + 1, p => match v p with
    | none => none
    | some m => match oComma s m 93 with
      | none => none
      | some j => if bt s (j : Int) = 93 then some (j + 1) else gE v s n (j + 1)
/-- An array behind its bracket. -/
def gA (v : Nat → Option Nat) (s : ByteArray) (n p : Nat) : Option Nat := if bt s (nx s p : Int) = 93 then some (nx s p + 1) else gE v s n (nx s p)
theorem oComma_some {s : ByteArray} {m j : Nat} {z : Int} (hz : z = 93 ∨ z = 125) (h : oComma s m z = some j) : j = nx s m ∧ j < s.size ∧ (bt s (j : Int) = 44 ∨ bt s (j : Int) = z) ∧ m ≤ j := by
  unfold oComma at h
  split at h
  · rename_i hc
    obtain rfl := Option.some.inj h
    refine ⟨rfl, Nat.lt_of_not_le fun hle => ?_, hc, nx_ge _ _⟩
    rw [bt_out s _ (by omega)] at hc
    rcases hz with rfl | rfl <;> revert hc <;> decide
  · cases h
theorem gE_some {v : Nat → Option Nat} {s : ByteArray} (hB : ∀ q m : Nat, v q = some m → q ≤ m ∧ m ≤ s.size) : ∀ (n p m : Nat), gE v s n p = some m → p ≤ m ∧ m ≤ s.size
  | 0, p, m, h => by cases h
  | n + 1, p, m, h => by
    unfold gE at h
    cases a : v p with
    | none => rw [a] at h; cases h
    | some x =>
      rw [a] at h
      dsimp only at h
      cases b : oComma s x 93 with
      | none => rw [b] at h; cases h
      | some j =>
        rw [b] at h
        dsimp only at h
        have h1 := hB _ _ a
        have h2 := oComma_some (.inl rfl) b
        by_cases c : bt s (j : Int) = 93
        · rw [if_pos c] at h
          obtain rfl := Option.some.inj h
          omega
        · rw [if_neg c] at h
          have := gE_some hB n _ _ h
          omega
def VX (o : Option Nat) (x : Int) (b : Bool) : Prop := match o with
  | some m => x = (m : Int) ∧ b = true
  | none => b = false
theorem vs_x {o : Option Nat} {e : Ending} (h : VS o e) : ∃ x b, e = .returned (.tuple #[.int .i64 x, .bool b]) ∧ VX o x b := by
  cases o with
  | none => obtain ⟨j, rfl⟩ := h; exact ⟨_, _, rfl, rfl⟩
  | some m => exact ⟨_, _, h, rfl, rfl⟩
theorem vx_s {o : Option Nat} {x : Int} {b : Bool} (h : VX o x b) {e : Ending} (he : e = .returned (.tuple #[.int .i64 x, .bool b])) : VS o e := by
  cases o with
  | none => obtain rfl := h; exact ⟨_, he⟩
  | some m => obtain ⟨rfl, rfl⟩ := h; exact he
theorem vs_some {o : Option Nat} {m : Nat} {e : Ending} (h : VS o e) (ho : o = some m) : e = .returned (.tuple #[.int .i64 (m : Int), .bool true]) := by subst ho; exact h
theorem vs_none {o : Option Nat} {e : Ending} (h : VS o e) (ho : o = none) : ∃ x, e = .returned (.tuple #[.int .i64 x, .bool false]) := by subst ho; exact h
set_option maxHeartbeats 8000000 in
set_option maxRecDepth 100000 in
theorem varray (v : Nat → Option Nat) (s : ByteArray) (hs : s.size ≤ 1000000) (w : World) (g cap p N : Nat) (hR : RdB w g s) (hp : p ≤ s.size) (hN : s.size - p < N)
    (hV : ∀ q : Nat, q ≤ s.size → p ≤ q → Calls Tryz.prog 149 #[.slice (some ⟨g, 0, none⟩) s.size cap, .int .i64 (q : Int)] w fun e w' => VS (v q) e ∧ w = w')
    (hB : ∀ q m : Nat, v q = some m → q ≤ m ∧ m ≤ s.size) (h0 : ∀ q : Nat, s.size ≤ q → v q = none) :
    Calls Tryz.prog 170 #[.slice (some ⟨g, 0, none⟩) s.size cap, .int .i64 (p : Int)] w fun e w' => VS (gA v s N p) e ∧ w = w' := by
  have HR := Aside0.mk hR
  have HV := Aside0.mk hV
  have HB := Aside0.mk hB
  have H0 := Aside0.mk h0
  have HN := Aside0.mk hN
  have HP := Aside0.mk hp
  clear hR hV hB h0 hN hp
  obtain ⟨T, hT⟩ : ∃ T, gA v s N p = T := ⟨_, rfl⟩
  rw [hT]
  have HT := Aside0.mk hT
  clear hT
  go_enter Tryz.func170, Tryz.ntmps170
  go_wp2
  go_loopw [1] (fun v1 wr => ∃ j : Nat, v1 = .int .i64 (j : Int) ∧ w = wr ∧ Aside0 ((p ≤ j ∧ j ≤ s.size ∧ nx s j = nx s p) ∨ (j = s.size + 1 ∧ T = none))) (fun v1 _ => s.size + 1 - (intOf v1).toNat)
  case atStart => exact ⟨p, rfl, rfl, ⟨.inl ⟨Nat.le_refl _, HP.out, rfl⟩⟩⟩
  case round =>
    obtain ⟨j, rfl, rfl, HJ⟩ := hrel
    by_cases hlt : j < s.size
    · have hx := HR.out j hlt
      have hlt' : (j : Int) < (s.size : Int) := by omega
      have HJ0 : Aside0 (p ≤ j ∧ nx s j = nx s p) := ⟨HJ.out.elim (fun h => ⟨h.1, h.2.2⟩) (fun h => absurd h.1 (by omega))⟩
      clear HJ
      rcases blank4 (bt s (j : Int)) with ⟨f, hb⟩ | ⟨f, hb⟩ | ⟨f, hb⟩ | ⟨f, hb⟩ | ⟨f1, f2, f3, f4, hb⟩
      rotate_right 1
      · have HQ : Aside0 (nx s p = j) := ⟨by rw [← HJ0.out.2]; exact nx_here (.inr hb)⟩
        by_cases c : bt s (j : Int) = 93
        · have HO : Aside0 (T = some (j + 1)) := ⟨by rw [← HT.out]; unfold gA; rw [HQ.out, if_pos c]⟩
          rw [c] at hx
          clear c f1 f2 f3 f4 hb
          go_wp2
          go_ret2
          exact ⟨vs_yes HO.out (by omega) rfl, rfl⟩
        · have f5 : (bt s (j : Int) == 93) = false := beq_eq_false_iff_ne.mpr c
          have HO : Aside0 (gE v s N j = T) := ⟨by rw [← HT.out]; unfold gA; rw [HQ.out, if_neg c]⟩
          clear c hb
          go_wp2
          clear hx f1 f2 f3 f4 f5
          go_loopw [1] (fun v1 wr => ∃ k : Nat, v1 = .int .i64 (k : Int) ∧ w = wr ∧ p ≤ k ∧ k ≤ s.size ∧ Aside0 (∃ n, s.size - k < n ∧ gE v s n k = T)) (fun v1 _ => s.size - (intOf v1).toNat)
          case atStart => exact ⟨j, rfl, rfl, HJ0.out.1, Nat.le_of_lt hlt, ⟨N, by have := HN.out; have := HJ0.out.1; omega, HO.out⟩⟩
          case round =>
            have HL := Aside0.mk hlt
            clear hlt hlt' HO HJ0 HQ
            obtain ⟨k, rfl, rfl, hpk, hk, HK⟩ := hrel
            by_cases hlt : k < s.size
            · have hlt' : (k : Int) < (s.size : Int) := by omega
              obtain ⟨n, hn⟩ : ∃ n, s.size - k < n + 1 ∧ gE v s (n + 1) k = T := by
                obtain ⟨n, hn, h⟩ := HK.out
                cases n with
                | zero => omega
                | succ n => exact ⟨n, hn, h⟩
              have HN2 := Aside0.mk hn.1
              have HE := Aside0.mk hn.2
              clear hn HK
              cases hv : v k with
              | none =>
                have HO : Aside0 (T = none) := ⟨by rw [← HE.out]; unfold gE; rw [hv]⟩
                have HC := Aside0.mk ((HV.out k hk hpk).mono fun e w' h => (⟨vs_none h.1 hv, h.2⟩ : (∃ x, e = .returned (.tuple #[.int .i64 x, .bool false])) ∧ w = w'))
                clear hv
                go_wp2_with (first | (go_at_call 149; (with_reducible refine HC.out.mono ?_); rintro e w' ⟨⟨x, rfl⟩, rfl⟩))
                go_ret2
                exact ⟨vs_no HO.out _ rfl, rfl⟩
              | some m =>
                have HC := Aside0.mk ((HV.out k hk hpk).mono fun e w' h => (⟨vs_some h.1 hv, h.2⟩ : (e = .returned (.tuple #[.int .i64 (m : Int), .bool true])) ∧ w = w'))
                have hm := HB.out k m hv
                cases hc : oComma s m 93 with
                | none =>
                  have HO : Aside0 (T = none) := ⟨by rw [← HE.out]; unfold gE; rw [hv]; dsimp only; rw [hc]⟩
                  have HD := Aside0.mk ((vcomma s hs w g cap m HR.out hm.2 93 (.inl rfl)).mono fun e w' h => (⟨vs_none h.1 hc, h.2⟩ : (∃ x, e = .returned (.tuple #[.int .i64 x, .bool false])) ∧ w = w'))
                  clear hv hc hm
                  go_wp2_with (first | (go_at_call 149; (with_reducible refine HC.out.mono ?_); rintro e w' ⟨rfl, rfl⟩) | (go_at_call 186; (with_reducible refine HD.out.mono ?_); rintro e w' ⟨⟨x, rfl⟩, rfl⟩))
                  go_ret2
                  exact ⟨vs_no HO.out _ rfl, rfl⟩
                | some q =>
                  have HD := Aside0.mk ((vcomma s hs w g cap m HR.out hm.2 93 (.inl rfl)).mono fun e w' h => (⟨vs_some h.1 hc, h.2⟩ : (e = .returned (.tuple #[.int .i64 (q : Int), .bool true])) ∧ w = w'))
                  have HQ := Aside0.mk (oComma_some (.inl rfl) hc)
                  have hq : q < s.size := HQ.out.2.1
                  have hx := HR.out q hq
                  have hq' : (q : Int) < (s.size : Int) := by omega
                  by_cases c : bt s (q : Int) = 93
                  · have HO : Aside0 (T = some (q + 1)) := ⟨by rw [← HE.out]; unfold gE; rw [hv]; dsimp only; rw [hc]; dsimp only; rw [if_pos c]⟩
                    rw [c] at hx
                    clear hv hc hm c
                    go_wp2_with (first | (go_at_call 149; (with_reducible refine HC.out.mono ?_); rintro e w' ⟨rfl, rfl⟩) | (go_at_call 186; (with_reducible refine HD.out.mono ?_); rintro e w' ⟨rfl, rfl⟩))
                    go_ret2
                    exact ⟨vs_yes HO.out (by omega) rfl, rfl⟩
                  · have HO : Aside0 (gE v s n (q + 1) = T) := ⟨by rw [← HE.out]; conv => { rhs; unfold gE }; rw [hv]; dsimp only; rw [hc]; dsimp only; rw [if_neg c]⟩
                    have hb : bt s (q : Int) = 44 := HQ.out.2.2.1.resolve_right c
                    rw [hb] at hx
                    have HM : Aside0 (k ≤ q) := ⟨by have := HQ.out; omega⟩
                    clear hv hc hm c hb
                    go_wp2_with (first | (go_at_call 149; (with_reducible refine HC.out.mono ?_); rintro e w' ⟨rfl, rfl⟩) | (go_at_call 186; (with_reducible refine HD.out.mono ?_); rintro e w' ⟨rfl, rfl⟩))
                    go_roundw
                    case rel => exact ⟨q + 1, by go_num, trivial, by have := HM.out; omega, by omega, ⟨n, by have := HM.out; have := HN2.out; omega, HO.out⟩⟩
                    case measure => have := HM.out; simp [intOf]; omega
            · obtain rfl : k = s.size := by omega
              have HO : Aside0 (T = none) := ⟨by
                obtain ⟨n, hn, h⟩ := HK.out
                rw [← h]
                cases n with
                | zero => rfl
                | succ n => unfold gE; rw [H0.out _ (Nat.le_refl _)]⟩
              go_wp2
              go_roundw
              case rel => exact ⟨s.size + 1, by go_num, trivial, ⟨.inr ⟨rfl, HO.out⟩⟩⟩
              case measure => have := HL.out; simp [intOf]; omega
      all_goals
        have HJ' : Aside0 (nx s (j + 1) = nx s p) := ⟨(nx_step hlt hb).trans HJ0.out.2⟩
        rw [f] at hx
        clear f hb
        go_wp2
        go_roundw
        case rel => exact ⟨j + 1, by go_num, trivial, ⟨.inl ⟨by have := HJ0.out.1; omega, by omega, HJ'.out⟩⟩⟩
        case measure => simp [intOf]; omega
    · have HO : Aside0 (T = none) := ⟨by
        rcases HJ.out with ⟨h1, h2, h3⟩ | h
        · rw [← HT.out]
          unfold gA
          rw [← h3, nx_here (.inl (by omega)), bt_out s _ (by omega), if_neg (by decide)]
          cases N with
          | zero => rfl
          | succ n => unfold gE; rw [H0.out _ (by omega)]
        · exact h.2⟩
      have hge : ¬ ((j : Int) < (s.size : Int)) := by omega
      have hj : j ≤ s.size + 1 := by rcases HJ.out with h | h <;> omega
      go_wp2
      go_ret2
      exact ⟨vs_no HO.out _ rfl, rfl⟩
end Go.Proofs.YtlhaefblchpjhaaGreatDoor.GjV
end
section
namespace Go.Proofs.YtlhaefblchpjhaaGreatDoor.GjV
open Go.RowKit Go.Proofs.YtlhaefblchpjhaaGreatDoorW.PrintWords Go.Proofs.YtlhaefblchpjhaaGreatDoorW.PrintLast Go.Proofs.YtlhaefblchpjhaaGreatDoorW.PrintMore
open Go.Proofs.YtlhaefblchpjhaaGreatDoor.FjW (cut cut_cut cut_size cut_bytes cut_zero cut_bt bt_out D rd_D rd_D0 D_drop D_len D_nil D_cons ws_at)
open Go.Proofs.YtlhaefblchpjhaaGreatDoor.Fp (nx nx_ge nx_nx nx_le)
attribute [local go_sem] max2_int min2_int max_two min_two max_three min_three max_four min_four
set_option linter.unusedVariables false
set_option linter.unusedSimpArgs false
/-- The members from behind a key's opening quote on. -/
def gM (v : Nat → Option Nat) (s : ByteArray) : Nat → Nat → Option Nat
  | 0, _ => none
  | n + 1, p => match oQ s p with
    | none => none
    | some m => match oColon s m with
      | none => none
      | some c => match v c with
        | none => none
        | some x => match oComma s x 125 with
          | none => none
          | some j => if bt s (j : Int) = 125 then some (j + 1) else if bt s (nx s (j + 1) : Int) = 34 then gM v s n (nx s (j + 1) + 1) else none
/-- An object behind its brace. -/
def gO (v : Nat → Option Nat) (s : ByteArray) (n p : Nat) : Option Nat := if bt s (nx s p : Int) = 125 then some (nx s p + 1) else if bt s (nx s p : Int) = 34 then gM v s n (nx s p + 1) else none
theorem jump_wk {l : Nat} {J J' : Act → World → Prop} {Q : Exit → Act → World → Prop} (hJ : ∀ a w, J a w → J' a w) : ∀ e a w, Exit.jump l J Q e a w → Exit.jump l J' Q e a w := by
  intro e a w h
  cases e with
  | goto l' => exact ⟨h.1, hJ _ _ h.2⟩
  | _ => exact h
theorem wp_scope_back {P : Program} {Q : Exit → Act → World → Prop} {a : Act} {w : World} {r : Code} {l : Nat} (J : Act → World → Prop) (μ : Act → World → Nat) (start : J a w)
    (pass : ∀ a w, J a w → r.wp P (Exit.jump l (fun a' w' => J a' w' ∧ μ a' w' < μ a w) Q) a w) : (Code.scope (.seq (.label l) r)).wp P Q a w :=
  wp_scope_jumps (rest := .seq .skip r) l J μ (by simp [findLabel]) (wp_seq (wp_label (wp_mono (pass a w start) (jump_wk fun _ _ h => h.1)))) (fun a w h => wp_seq (wp_skip (pass a w h)))
/-- The slots at the label: the text, a place, and whatever else. -/
def JQ (g n cap : Nat) (k : Nat) (a' : Act) : Prop := ∃ (u2 u3 u4 u5 u6 u7 u8 u9 u10 u11 u12 u13 u14 u15 u16 u17 u18 u19 u20 u21 u22 u23 u24 u25 u26 u27 u28 u29 u30 u31 u32 u33 u34 u35 u36 u37 u38 u39 u40 u41 u42 u43 u44 u45 u46 u47 u48 u49 u50 u51 u52 u53 u54 u55 u56 u57 u58 u59 u60 u61 u62 u63 u64 u65 u66 u67 u68 u69 u70 u71 u72 u73 u74 u75 u76 u77 u78 u79 u80 u81 u82 u83 u84 u85 u86 u87 u88 u89 u90 u91 u92 u93 : Value), a' = { tmps := #[.slice (some ⟨g, 0, none⟩) n cap, .int .i64 (k : Int), u2, u3, u4, u5, u6, u7, u8, u9, u10, u11, u12, u13, u14, u15, u16, u17, u18, u19, u20, u21, u22, u23, u24, u25, u26, u27, u28, u29, u30, u31, u32, u33, u34, u35, u36, u37, u38, u39, u40, u41, u42, u43, u44, u45, u46, u47, u48, u49, u50, u51, u52, u53, u54, u55, u56, u57, u58, u59, u60, u61, u62, u63, u64, u65, u66, u67, u68, u69, u70, u71, u72, u73, u74, u75, u76, u77, u78, u79, u80, u81, u82, u83, u84, u85, u86, u87, u88, u89, u90, u91, u92, u93], defers := [] }
theorem jq_elim {g n cap k : Nat} {a' : Act} {C : Prop} (h : JQ g n cap k a') (f : ∀ (u2 u3 u4 u5 u6 u7 u8 u9 u10 u11 u12 u13 u14 u15 u16 u17 u18 u19 u20 u21 u22 u23 u24 u25 u26 u27 u28 u29 u30 u31 u32 u33 u34 u35 u36 u37 u38 u39 u40 u41 u42 u43 u44 u45 u46 u47 u48 u49 u50 u51 u52 u53 u54 u55 u56 u57 u58 u59 u60 u61 u62 u63 u64 u65 u66 u67 u68 u69 u70 u71 u72 u73 u74 u75 u76 u77 u78 u79 u80 u81 u82 u83 u84 u85 u86 u87 u88 u89 u90 u91 u92 u93 : Value), a' = { tmps := #[.slice (some ⟨g, 0, none⟩) n cap, .int .i64 (k : Int), u2, u3, u4, u5, u6, u7, u8, u9, u10, u11, u12, u13, u14, u15, u16, u17, u18, u19, u20, u21, u22, u23, u24, u25, u26, u27, u28, u29, u30, u31, u32, u33, u34, u35, u36, u37, u38, u39, u40, u41, u42, u43, u44, u45, u46, u47, u48, u49, u50, u51, u52, u53, u54, u55, u56, u57, u58, u59, u60, u61, u62, u63, u64, u65, u66, u67, u68, u69, u70, u71, u72, u73, u74, u75, u76, u77, u78, u79, u80, u81, u82, u83, u84, u85, u86, u87, u88, u89, u90, u91, u92, u93], defers := [] } → C) : C := by
  obtain ⟨u2, u3, u4, u5, u6, u7, u8, u9, u10, u11, u12, u13, u14, u15, u16, u17, u18, u19, u20, u21, u22, u23, u24, u25, u26, u27, u28, u29, u30, u31, u32, u33, u34, u35, u36, u37, u38, u39, u40, u41, u42, u43, u44, u45, u46, u47, u48, u49, u50, u51, u52, u53, u54, u55, u56, u57, u58, u59, u60, u61, u62, u63, u64, u65, u66, u67, u68, u69, u70, u71, u72, u73, u74, u75, u76, u77, u78, u79, u80, u81, u82, u83, u84, u85, u86, u87, u88, u89, u90, u91, u92, u93, h⟩ := h
  exact f u2 u3 u4 u5 u6 u7 u8 u9 u10 u11 u12 u13 u14 u15 u16 u17 u18 u19 u20 u21 u22 u23 u24 u25 u26 u27 u28 u29 u30 u31 u32 u33 u34 u35 u36 u37 u38 u39 u40 u41 u42 u43 u44 u45 u46 u47 u48 u49 u50 u51 u52 u53 u54 u55 u56 u57 u58 u59 u60 u61 u62 u63 u64 u65 u66 u67 u68 u69 u70 u71 u72 u73 u74 u75 u76 u77 u78 u79 u80 u81 u82 u83 u84 u85 u86 u87 u88 u89 u90 u91 u92 u93 h
theorem jq_mk {g n cap k : Nat} (u2 u3 u4 u5 u6 u7 u8 u9 u10 u11 u12 u13 u14 u15 u16 u17 u18 u19 u20 u21 u22 u23 u24 u25 u26 u27 u28 u29 u30 u31 u32 u33 u34 u35 u36 u37 u38 u39 u40 u41 u42 u43 u44 u45 u46 u47 u48 u49 u50 u51 u52 u53 u54 u55 u56 u57 u58 u59 u60 u61 u62 u63 u64 u65 u66 u67 u68 u69 u70 u71 u72 u73 u74 u75 u76 u77 u78 u79 u80 u81 u82 u83 u84 u85 u86 u87 u88 u89 u90 u91 u92 u93 : Value) : JQ g n cap k { tmps := #[.slice (some ⟨g, 0, none⟩) n cap, .int .i64 (k : Int), u2, u3, u4, u5, u6, u7, u8, u9, u10, u11, u12, u13, u14, u15, u16, u17, u18, u19, u20, u21, u22, u23, u24, u25, u26, u27, u28, u29, u30, u31, u32, u33, u34, u35, u36, u37, u38, u39, u40, u41, u42, u43, u44, u45, u46, u47, u48, u49, u50, u51, u52, u53, u54, u55, u56, u57, u58, u59, u60, u61, u62, u63, u64, u65, u66, u67, u68, u69, u70, u71, u72, u73, u74, u75, u76, u77, u78, u79, u80, u81, u82, u83, u84, u85, u86, u87, u88, u89, u90, u91, u92, u93], defers := [] } := ⟨u2, u3, u4, u5, u6, u7, u8, u9, u10, u11, u12, u13, u14, u15, u16, u17, u18, u19, u20, u21, u22, u23, u24, u25, u26, u27, u28, u29, u30, u31, u32, u33, u34, u35, u36, u37, u38, u39, u40, u41, u42, u43, u44, u45, u46, u47, u48, u49, u50, u51, u52, u53, u54, u55, u56, u57, u58, u59, u60, u61, u62, u63, u64, u65, u66, u67, u68, u69, u70, u71, u72, u73, u74, u75, u76, u77, u78, u79, u80, u81, u82, u83, u84, u85, u86, u87, u88, u89, u90, u91, u92, u93, rfl⟩
theorem oQ_some' {s : ByteArray} : ∀ (N p m : Nat), s.size - p ≤ N → oQ s p = some m → p ≤ m ∧ m ≤ s.size := by
  intro N
  induction N with
  | zero => intro p m hN h; rw [oQ_out (by omega)] at h; cases h
  | succ N ih =>
    intro p m hN h
    by_cases hp : p < s.size
    · rw [oQ_at s p hp] at h
      by_cases a : bt s (p : Int) = 34
      · rw [if_pos a] at h; obtain rfl := Option.some.inj h; omega
      rw [if_neg a] at h
      by_cases b : bt s (p : Int) < 32
      · rw [if_pos b] at h; cases h
      rw [if_neg b] at h
      by_cases c : bt s (p : Int) = 92
      · rw [if_pos c] at h
        by_cases d : Fj.simple8 (bt s ((p + 1 : Nat) : Int)) = true
        · rw [if_pos d] at h; have := ih _ _ (by omega) h; omega
        rw [if_neg d] at h
        by_cases e : bt s ((p + 1 : Nat) : Int) = 117
        · rw [if_pos e] at h
          by_cases f : hex4 s (p + 2) = true
          · rw [if_pos f] at h; have := ih _ _ (by omega) h; omega
          · rw [if_neg f] at h; cases h
        · rw [if_neg e] at h; cases h
      · rw [if_neg c] at h; have := ih _ _ (by omega) h; omega
    · rw [oQ_out (by omega)] at h; cases h
theorem oQ_some {s : ByteArray} {p m : Nat} (h : oQ s p = some m) : p ≤ m ∧ m ≤ s.size := oQ_some' _ p m (Nat.le_refl _) h
theorem oColon_some {s : ByteArray} {p m : Nat} (h : oColon s p = some m) : p ≤ m ∧ m ≤ s.size := by
  unfold oColon at h
  split at h
  · rename_i hc
    obtain rfl := Option.some.inj h
    refine ⟨Nat.le_succ_of_le (nx_ge _ _), Nat.lt_of_not_le fun hle => ?_⟩
    rw [bt_out s _ (by omega)] at hc
    revert hc; decide
  · cases h
set_option maxHeartbeats 8000000 in
set_option maxRecDepth 100000 in
theorem vobject (v : Nat → Option Nat) (s : ByteArray) (hs : s.size ≤ 1000000) (w : World) (g cap p N : Nat) (hR : RdB w g s) (hp : p ≤ s.size) (hN : s.size - p < N)
    (hV : ∀ q : Nat, q ≤ s.size → p ≤ q → Calls Tryz.prog 149 #[.slice (some ⟨g, 0, none⟩) s.size cap, .int .i64 (q : Int)] w fun e w' => VS (v q) e ∧ w = w')
    (hB : ∀ q m : Nat, v q = some m → q ≤ m ∧ m ≤ s.size) :
    Calls Tryz.prog 169 #[.slice (some ⟨g, 0, none⟩) s.size cap, .int .i64 (p : Int)] w fun e w' => VS (gO v s N p) e ∧ w = w' := by
  have HR := Aside0.mk hR
  have HV := Aside0.mk hV
  have HB := Aside0.mk hB
  have HN := Aside0.mk hN
  have HP := Aside0.mk hp
  clear hR hV hB hN hp
  obtain ⟨T, hT⟩ : ∃ T, gO v s N p = T := ⟨_, rfl⟩
  rw [hT]
  have HT := Aside0.mk hT
  clear hT
  go_enter Tryz.func169, Tryz.ntmps169
  go_wp2
  go_loopw [1] (fun v1 wr => ∃ j : Nat, v1 = .int .i64 (j : Int) ∧ w = wr ∧ p ≤ j ∧ j ≤ s.size ∧ Aside0 (nx s j = nx s p)) (fun v1 _ => s.size - (intOf v1).toNat)
  case atStart => exact ⟨p, rfl, rfl, Nat.le_refl _, HP.out, ⟨rfl⟩⟩
  case round =>
    obtain ⟨j, rfl, rfl, hpj, hj, HJ⟩ := hrel
    by_cases hlt : j < s.size
    · have hx := HR.out j hlt
      have hlt' : (j : Int) < (s.size : Int) := by omega
      rcases blank4 (bt s (j : Int)) with ⟨f, hb⟩ | ⟨f, hb⟩ | ⟨f, hb⟩ | ⟨f, hb⟩ | ⟨f1, f2, f3, f4, hb⟩
      rotate_right 1
      · have HQ : Aside0 (nx s p = j) := ⟨by rw [← HJ.out]; exact nx_here (.inr hb)⟩
        by_cases c : bt s (j : Int) = 125
        · have HO : Aside0 (T = some (j + 1)) := ⟨by rw [← HT.out]; unfold gO; rw [HQ.out, if_pos c]⟩
          rw [c] at hx
          clear c f1 f2 f3 f4 hb
          go_wp2
          go_ret2
          exact ⟨vs_yes HO.out (by omega) rfl, rfl⟩
        by_cases d : bt s (j : Int) = 34
        · have HO : Aside0 (gM v s N (j + 1) = T) := ⟨by rw [← HT.out]; unfold gO; rw [HQ.out, if_neg c, if_pos d]⟩
          rw [d] at hx
          clear c d f1 f2 f3 f4 hb
          go_wp2
          refine wp_scope_back (fun a' w' => w = w' ∧ ∃ k : Nat, (p ≤ k ∧ k < s.size ∧ Aside0 (∃ n, s.size - k < n + 1 ∧ gM v s n (k + 1) = T)) ∧ JQ g s.size cap k a') (fun a' _ => s.size - (intOf (a'.tmps.getD 1 undef)).toNat) ?start ?pass
          case start => exact ⟨rfl, j, ⟨hpj, hlt, ⟨N, by have := HN.out; omega, HO.out⟩⟩, jq_mk _ _ _ _ _ _ _ _ _ _ _ _ _ _ _ _ _ _ _ _ _ _ _ _ _ _ _ _ _ _ _ _ _ _ _ _ _ _ _ _ _ _ _ _ _ _ _ _ _ _ _ _ _ _ _ _ _ _ _ _ _ _ _ _ _ _ _ _ _ _ _ _ _ _ _ _ _ _ _ _ _ _ _ _ _ _ _ _ _ _ _ _⟩
          case pass =>
            clear hx hlt' HO HQ HJ
            rintro a' w' ⟨rfl, k, ⟨hpk, hk, HK⟩, hjq⟩
            refine jq_elim hjq ?_
            intro u2 u3 u4 u5 u6 u7 u8 u9 u10 u11 u12 u13 u14 u15 u16 u17 u18 u19 u20 u21 u22 u23 u24 u25 u26 u27 u28 u29 u30 u31 u32 u33 u34 u35 u36 u37 u38 u39 u40 u41 u42 u43 u44 u45 u46 u47 u48 u49 u50 u51 u52 u53 u54 u55 u56 u57 u58 u59 u60 u61 u62 u63 u64 u65 u66 u67 u68 u69 u70 u71 u72 u73 u74 u75 u76 u77 u78 u79 u80 u81 u82 u83 u84 u85 u86 u87 u88 u89 u90 u91 u92 u93 ha
            subst ha
            clear hjq
            have hk' : (k : Int) < (s.size : Int) := by omega
            obtain ⟨n, hn, hn2⟩ : ∃ n, s.size - k < n + 2 ∧ gM v s (n + 1) (k + 1) = T := by
              obtain ⟨n, hn, h⟩ := HK.out
              cases n with
              | zero => omega
              | succ n => exact ⟨n, hn, h⟩
            have HN2 := Aside0.mk hn
            have HE := Aside0.mk hn2
            clear hn hn2 HK
            have hC1 := vstring s hs w g cap (k + 1) HR.out hk
            rw [show ((k + 1 : Nat) : Int) = (k : Int) + 1 by omega] at hC1
            cases h1 : oQ s (k + 1) with
            | none =>
              have HO : Aside0 (T = none) := ⟨by rw [← HE.out]; unfold gM; rw [h1]⟩
              have HC1 := Aside0.mk (hC1.mono fun e w' h => (⟨vs_none h.1 h1, h.2⟩ : (∃ x, e = .returned (.tuple #[.int .i64 x, .bool false])) ∧ w = w'))
              clear h1 hC1
              go_wp2_with (first | (go_at_call 171; (with_reducible refine HC1.out.mono ?_); rintro e w' ⟨⟨x, rfl⟩, rfl⟩))
              simp only [go_sem, Exit.jump]
              change bodyPost _ _ (fun e w' => VS T e ∧ w = w') Exit.ret _ _
              go_ret2
              exact ⟨vs_no HO.out _ rfl, rfl⟩
            | some m =>
            have HC1 := Aside0.mk (hC1.mono fun e w' h => (⟨vs_some h.1 h1, h.2⟩ : (e = .returned (.tuple #[.int .i64 (m : Int), .bool true])) ∧ w = w'))
            have hm := oQ_some h1
            have hC2 := vcolon s hs w g cap m HR.out hm.2
            clear hC1
            cases h2 : oColon s m with
            | none =>
              have HO : Aside0 (T = none) := ⟨by rw [← HE.out]; unfold gM; rw [h1]; dsimp only; rw [h2]⟩
              have HC2 := Aside0.mk (hC2.mono fun e w' h => (⟨vs_none h.1 h2, h.2⟩ : (∃ x, e = .returned (.tuple #[.int .i64 x, .bool false])) ∧ w = w'))
              clear h1 h2 hC2 hm
              go_wp2_with (first | (go_at_call 171; (with_reducible refine HC1.out.mono ?_); rintro e w' ⟨rfl, rfl⟩) | (go_at_call 185; (with_reducible refine HC2.out.mono ?_); rintro e w' ⟨⟨x, rfl⟩, rfl⟩))
              simp only [go_sem, Exit.jump]
              change bodyPost _ _ (fun e w' => VS T e ∧ w = w') Exit.ret _ _
              go_ret2
              exact ⟨vs_no HO.out _ rfl, rfl⟩
            | some c =>
            have HC2 := Aside0.mk (hC2.mono fun e w' h => (⟨vs_some h.1 h2, h.2⟩ : (e = .returned (.tuple #[.int .i64 (c : Int), .bool true])) ∧ w = w'))
            have hc := oColon_some h2
            have hC3 := HV.out c hc.2 (by omega)
            clear hC2
            cases h3 : v c with
            | none =>
              have HO : Aside0 (T = none) := ⟨by rw [← HE.out]; unfold gM; rw [h1]; dsimp only; rw [h2]; dsimp only; rw [h3]⟩
              have HC3 := Aside0.mk (hC3.mono fun e w' h => (⟨vs_none h.1 h3, h.2⟩ : (∃ x, e = .returned (.tuple #[.int .i64 x, .bool false])) ∧ w = w'))
              clear h1 h2 h3 hC3 hm hc
              go_wp2_with (first | (go_at_call 171; (with_reducible refine HC1.out.mono ?_); rintro e w' ⟨rfl, rfl⟩) | (go_at_call 185; (with_reducible refine HC2.out.mono ?_); rintro e w' ⟨rfl, rfl⟩) | (go_at_call 149; (with_reducible refine HC3.out.mono ?_); rintro e w' ⟨⟨x, rfl⟩, rfl⟩))
              simp only [go_sem, Exit.jump]
              change bodyPost _ _ (fun e w' => VS T e ∧ w = w') Exit.ret _ _
              go_ret2
              exact ⟨vs_no HO.out _ rfl, rfl⟩
            | some x3 =>
            have HC3 := Aside0.mk (hC3.mono fun e w' h => (⟨vs_some h.1 h3, h.2⟩ : (e = .returned (.tuple #[.int .i64 (x3 : Int), .bool true])) ∧ w = w'))
            have hx3 := HB.out _ _ h3
            have hC4 := vcomma s hs w g cap x3 HR.out hx3.2 125 (.inr rfl)
            clear hC3
            cases h4 : oComma s x3 125 with
            | none =>
              have HO : Aside0 (T = none) := ⟨by rw [← HE.out]; unfold gM; rw [h1]; dsimp only; rw [h2]; dsimp only; rw [h3]; dsimp only; rw [h4]⟩
              have HC4 := Aside0.mk (hC4.mono fun e w' h => (⟨vs_none h.1 h4, h.2⟩ : (∃ x, e = .returned (.tuple #[.int .i64 x, .bool false])) ∧ w = w'))
              clear h1 h2 h3 h4 hC4 hm hc hx3
              go_wp2_with (first | (go_at_call 171; (with_reducible refine HC1.out.mono ?_); rintro e w' ⟨rfl, rfl⟩) | (go_at_call 185; (with_reducible refine HC2.out.mono ?_); rintro e w' ⟨rfl, rfl⟩) | (go_at_call 149; (with_reducible refine HC3.out.mono ?_); rintro e w' ⟨rfl, rfl⟩) | (go_at_call 186; (with_reducible refine HC4.out.mono ?_); rintro e w' ⟨⟨x, rfl⟩, rfl⟩))
              simp only [go_sem, Exit.jump]
              change bodyPost _ _ (fun e w' => VS T e ∧ w = w') Exit.ret _ _
              go_ret2
              exact ⟨vs_no HO.out _ rfl, rfl⟩
            | some q =>
            have HC4 := Aside0.mk (hC4.mono fun e w' h => (⟨vs_some h.1 h4, h.2⟩ : (e = .returned (.tuple #[.int .i64 (q : Int), .bool true])) ∧ w = w'))
            have HQ := Aside0.mk (oComma_some (.inr rfl) h4)
            have hq : q < s.size := HQ.out.2.1
            have hy := HR.out q hq
            have hq' : (q : Int) < (s.size : Int) := by omega
            have HM : Aside0 (k < q) := ⟨by have := HQ.out; omega⟩
            have HE2 : Aside0 ((if bt s (q : Int) = 125 then some (q + 1) else if bt s (nx s (q + 1) : Int) = 34 then gM v s n (nx s (q + 1) + 1) else none) = T) := ⟨by rw [← HE.out]; conv => { rhs; unfold gM }; rw [h1]; dsimp only; rw [h2]; dsimp only; rw [h3]; dsimp only; rw [h4]⟩
            clear h1 h2 h3 h4 hC4 hm hc hx3
            by_cases c5 : bt s (q : Int) = 125
            · have HO : Aside0 (T = some (q + 1)) := ⟨by rw [← HE2.out, if_pos c5]⟩
              rw [c5] at hy
              clear c5
              go_wp2_with (first | (go_at_call 171; (with_reducible refine HC1.out.mono ?_); rintro e w' ⟨rfl, rfl⟩) | (go_at_call 185; (with_reducible refine HC2.out.mono ?_); rintro e w' ⟨rfl, rfl⟩) | (go_at_call 149; (with_reducible refine HC3.out.mono ?_); rintro e w' ⟨rfl, rfl⟩) | (go_at_call 186; (with_reducible refine HC4.out.mono ?_); rintro e w' ⟨rfl, rfl⟩))
              simp only [go_sem, Exit.jump]
              change bodyPost _ _ (fun e w' => VS T e ∧ w = w') Exit.ret _ _
              go_ret2
              exact ⟨vs_yes HO.out (by omega) rfl, rfl⟩
            have HO : Aside0 (T = if bt s (nx s (q + 1) : Int) = 34 then gM v s n (nx s (q + 1) + 1) else none) := ⟨by rw [← HE2.out, if_neg c5]⟩
            rw [HQ.out.2.2.1.resolve_right c5] at hy
            clear c5 HE2 HE
            go_wp2_with (first | (go_at_call 171; (with_reducible refine HC1.out.mono ?_); rintro e w' ⟨rfl, rfl⟩) | (go_at_call 185; (with_reducible refine HC2.out.mono ?_); rintro e w' ⟨rfl, rfl⟩) | (go_at_call 149; (with_reducible refine HC3.out.mono ?_); rintro e w' ⟨rfl, rfl⟩) | (go_at_call 186; (with_reducible refine HC4.out.mono ?_); rintro e w' ⟨rfl, rfl⟩))
            clear hy
            go_loopw [1] (fun v1 wr => ∃ i : Nat, v1 = .int .i64 (i : Int) ∧ w = wr ∧ q < i ∧ i ≤ s.size ∧ Aside0 (nx s i = nx s (q + 1))) (fun v1 _ => s.size - (intOf v1).toNat)
            case atStart => exact ⟨q + 1, by go_num, rfl, by omega, hq, ⟨rfl⟩⟩
            case round =>
              obtain ⟨i, rfl, rfl, hqi, hi, HI⟩ := hrel
              by_cases hit : i < s.size
              · have hx := HR.out i hit
                have hit' : (i : Int) < (s.size : Int) := by omega
                rcases blank4 (bt s (i : Int)) with ⟨f, hb⟩ | ⟨f, hb⟩ | ⟨f, hb⟩ | ⟨f, hb⟩ | ⟨f1, f2, f3, f4, hb⟩
                rotate_right 1
                · have HZ : Aside0 (nx s (q + 1) = i) := ⟨by rw [← HI.out]; exact nx_here (.inr hb)⟩
                  by_cases d : bt s (i : Int) = 34
                  · have HO2 : Aside0 (gM v s n (i + 1) = T) := ⟨by rw [HO.out, HZ.out, if_pos d]⟩
                    rw [d] at hx
                    clear d f1 f2 f3 f4 hb
                    go_wp2
                    go_step3
                    simp only [go_sem, Exit.jump]
                    refine ⟨rfl, ⟨rfl, i, ⟨by have := HM.out; omega, hit, ⟨n, by have := HN2.out; have := HM.out; omega, HO2.out⟩⟩, jq_mk _ _ _ _ _ _ _ _ _ _ _ _ _ _ _ _ _ _ _ _ _ _ _ _ _ _ _ _ _ _ _ _ _ _ _ _ _ _ _ _ _ _ _ _ _ _ _ _ _ _ _ _ _ _ _ _ _ _ _ _ _ _ _ _ _ _ _ _ _ _ _ _ _ _ _ _ _ _ _ _ _ _ _ _ _ _ _ _ _ _ _ _⟩, ?_⟩
                    have := HM.out
                    simp [intOf]
                    omega
                  · have f5 : (bt s (i : Int) == 34) = false := beq_eq_false_iff_ne.mpr d
                    have HO2 : Aside0 (T = none) := ⟨by rw [HO.out, HZ.out, if_neg d]⟩
                    clear d hb
                    go_wp2
                    simp only [go_sem, Exit.jump]
                    change bodyPost _ _ (fun e w' => VS T e ∧ w = w') Exit.ret _ _
                    go_ret2
                    exact ⟨vs_no HO2.out _ rfl, rfl⟩
                all_goals
                  have HI' : Aside0 (nx s (i + 1) = nx s (q + 1)) := ⟨(nx_step hit hb).trans HI.out⟩
                  rw [f] at hx
                  clear f hb
                  go_wp2
                  go_roundw
                  case rel => exact ⟨i + 1, by go_num, trivial, by omega, by omega, HI'⟩
                  case measure => simp [intOf]; omega
              · obtain rfl : i = s.size := by omega
                have HO2 : Aside0 (T = none) := ⟨by rw [HO.out, ← HI.out, nx_here (.inl (Nat.le_refl _)), bt_out s _ (Int.le_refl _), if_neg (by decide)]⟩
                go_wp2
                simp only [go_sem, Exit.jump]
                change bodyPost _ _ (fun e w' => VS T e ∧ w = w') Exit.ret _ _
                go_ret2
                exact ⟨vs_no HO2.out _ rfl, rfl⟩
        · have f5 : (bt s (j : Int) == 125) = false := beq_eq_false_iff_ne.mpr c
          have f6 : (bt s (j : Int) == 34) = false := beq_eq_false_iff_ne.mpr d
          have HO : Aside0 (T = none) := ⟨by rw [← HT.out]; unfold gO; rw [HQ.out, if_neg c, if_neg d]⟩
          clear c d hb
          go_wp2
          go_ret2
          exact ⟨vs_no HO.out _ rfl, rfl⟩
      all_goals
        have HJ' : Aside0 (nx s (j + 1) = nx s p) := ⟨(nx_step hlt hb).trans HJ.out⟩
        rw [f] at hx
        clear f hb
        go_wp2
        go_roundw
        case rel => exact ⟨j + 1, by go_num, trivial, by omega, by omega, HJ'⟩
        case measure => simp [intOf]; omega
    · obtain rfl : j = s.size := by omega
      have HO : Aside0 (T = none) := ⟨by rw [← HT.out]; unfold gO; rw [← HJ.out, nx_here (.inl (Nat.le_refl _)), bt_out s _ (Int.le_refl _), if_neg (by decide), if_neg (by decide)]⟩
      go_wp2
      go_ret2
      exact ⟨vs_no HO.out _ rfl, rfl⟩
end Go.Proofs.YtlhaefblchpjhaaGreatDoor.GjV
end
section
namespace Go.Proofs.YtlhaefblchpjhaaGreatDoor.GjV
open Go.RowKit Go.Proofs.YtlhaefblchpjhaaGreatDoorW.PrintWords Go.Proofs.YtlhaefblchpjhaaGreatDoorW.PrintLast Go.Proofs.YtlhaefblchpjhaaGreatDoorW.PrintMore
open Go.Proofs.YtlhaefblchpjhaaGreatDoor.FjW (cut cut_cut cut_size cut_bytes cut_zero cut_bt bt_out D rd_D rd_D0 D_drop D_len D_nil D_cons ws_at)
open Go.Proofs.YtlhaefblchpjhaaGreatDoor.Fp (nx nx_ge nx_nx nx_le)
attribute [local go_sem] max2_int min2_int max_two min_two max_three min_three max_four min_four
set_option linter.unusedVariables false
set_option linter.unusedSimpArgs false
def gB (v : Nat → Option Nat) (s : ByteArray) (q : Nat) : Option Nat :=
  if bt s (q : Int) = 123 then gO v s (s.size + 1) (q + 1) else if bt s (q : Int) = 91 then gA v s (s.size + 1) (q + 1) else if bt s (q : Int) = 34 then oQ s (q + 1)
  else if bt s (q : Int) = 45 ∨ dg (bt s (q : Int)) then gN s q else if bt s (q : Int) = 116 then oTrue s (q + 1) else if bt s (q : Int) = 102 then oFalse s (q + 1) else if bt s (q : Int) = 110 then oNull s (q + 1) else none
/-- A value, blanks ahead of it. -/
def gV (s : ByteArray) : Nat → Nat → Option Nat
  | 0, _ => none
  | k + 1, p => gB (gV s k) s (nx s p)
theorem dig11 {c : Int} (h : c = 45 ∨ dg c) : c = 45 ∨ c = 48 ∨ c = 49 ∨ c = 50 ∨ c = 51 ∨ c = 52 ∨ c = 53 ∨ c = 54 ∨ c = 55 ∨ c = 56 ∨ c = 57 := by unfold dg at h; omega
set_option maxHeartbeats 8000000 in
set_option maxRecDepth 100000 in
theorem vany (v : Nat → Option Nat) (s : ByteArray) (hs : s.size ≤ 1000000) (w : World) (g cap p : Nat) (hR : RdB w g s) (hp : p ≤ s.size)
    (hO : ∀ q : Nat, p < q → q ≤ s.size → Calls Tryz.prog 169 #[.slice (some ⟨g, 0, none⟩) s.size cap, .int .i64 (q : Int)] w fun e w' => VS (gO v s (s.size + 1) q) e ∧ w = w')
    (hA : ∀ q : Nat, p < q → q ≤ s.size → Calls Tryz.prog 170 #[.slice (some ⟨g, 0, none⟩) s.size cap, .int .i64 (q : Int)] w fun e w' => VS (gA v s (s.size + 1) q) e ∧ w = w') :
    Calls Tryz.prog 149 #[.slice (some ⟨g, 0, none⟩) s.size cap, .int .i64 (p : Int)] w fun e w' => VS (gB v s (nx s p)) e ∧ w = w' := by
  have HR := Aside0.mk hR
  have HP := Aside0.mk hp
  have HOb := Aside0.mk hO
  have HAr := Aside0.mk hA
  clear hR hp hO hA
  obtain ⟨T, hT⟩ : ∃ T, gB v s (nx s p) = T := ⟨_, rfl⟩
  rw [hT]
  have HT := Aside0.mk hT
  clear hT
  go_enter Tryz.func149, Tryz.ntmps149
  go_wp2
  go_loopw [1] (fun v1 wr => ∃ j : Nat, v1 = .int .i64 (j : Int) ∧ w = wr ∧ p ≤ j ∧ j ≤ s.size ∧ Aside0 (nx s j = nx s p)) (fun v1 _ => s.size - (intOf v1).toNat)
  case atStart => exact ⟨p, rfl, rfl, Nat.le_refl _, HP.out, ⟨rfl⟩⟩
  case round =>
    obtain ⟨j, rfl, rfl, hpj, hj, HJ⟩ := hrel
    by_cases hlt : j < s.size
    · have hx := HR.out j hlt
      have hlt' : (j : Int) < (s.size : Int) := by omega
      rcases blank4 (bt s (j : Int)) with ⟨f, hb⟩ | ⟨f, hb⟩ | ⟨f, hb⟩ | ⟨f, hb⟩ | ⟨f1, f2, f3, f4, hb⟩
      rotate_right 1
      · have hQ : nx s p = j := by rw [← HJ.out]; exact nx_here (.inr hb)
        have hT := HT.out
        rw [hQ] at hT
        unfold gB at hT
        have hq1 : j + 1 ≤ s.size := hlt
        clear HJ hQ HT
        by_cases c123 : bt s (j : Int) = 123
        · rw [if_pos c123] at hT
          rw [c123] at hx
          clear c123 f1 f2 f3 f4 hb
          have hC := HOb.out (j + 1) (by omega) hq1
          rw [show ((j + 1 : Nat) : Int) = (j : Int) + 1 by omega] at hC
          have HC := Aside0.mk (hC.mono fun e w' h => (by obtain ⟨x, b, he, hx⟩ := vs_x h.1; rw [hT] at hx; exact ⟨x, b, he, hx, h.2⟩ : ∃ x b, e = .returned (.tuple #[.int .i64 x, .bool b]) ∧ VX T x b ∧ w = w'))
          clear hC hq1 hT
          go_wp2_with (first | (go_at_call 169; (with_reducible refine HC.out.mono ?_); rintro e w' ⟨x, b, rfl, hvx, rfl⟩))
          go_ret2
          exact ⟨vx_s hvx rfl, rfl⟩
        rw [if_neg c123] at hT
        have g123 : (bt s (j : Int) == 123) = false := beq_eq_false_iff_ne.mpr c123
        by_cases c91 : bt s (j : Int) = 91
        · rw [if_pos c91] at hT
          rw [c91] at hx
          clear c91 f1 f2 f3 f4 hb
          have hC := HAr.out (j + 1) (by omega) hq1
          rw [show ((j + 1 : Nat) : Int) = (j : Int) + 1 by omega] at hC
          have HC := Aside0.mk (hC.mono fun e w' h => (by obtain ⟨x, b, he, hx⟩ := vs_x h.1; rw [hT] at hx; exact ⟨x, b, he, hx, h.2⟩ : ∃ x b, e = .returned (.tuple #[.int .i64 x, .bool b]) ∧ VX T x b ∧ w = w'))
          clear hC hq1 hT
          go_wp2_with (first | (go_at_call 170; (with_reducible refine HC.out.mono ?_); rintro e w' ⟨x, b, rfl, hvx, rfl⟩))
          go_ret2
          exact ⟨vx_s hvx rfl, rfl⟩
        rw [if_neg c91] at hT
        have g91 : (bt s (j : Int) == 91) = false := beq_eq_false_iff_ne.mpr c91
        by_cases c34 : bt s (j : Int) = 34
        · rw [if_pos c34] at hT
          rw [c34] at hx
          clear c34 f1 f2 f3 f4 hb
          have hC := vstring s hs w g cap (j + 1) HR.out hq1
          rw [show ((j + 1 : Nat) : Int) = (j : Int) + 1 by omega] at hC
          have HC := Aside0.mk (hC.mono fun e w' h => (by obtain ⟨x, b, he, hx⟩ := vs_x h.1; rw [hT] at hx; exact ⟨x, b, he, hx, h.2⟩ : ∃ x b, e = .returned (.tuple #[.int .i64 x, .bool b]) ∧ VX T x b ∧ w = w'))
          clear hC hq1 hT
          go_wp2_with (first | (go_at_call 171; (with_reducible refine HC.out.mono ?_); rintro e w' ⟨x, b, rfl, hvx, rfl⟩))
          go_ret2
          exact ⟨vx_s hvx rfl, rfl⟩
        rw [if_neg c34] at hT
        have g34 : (bt s (j : Int) == 34) = false := beq_eq_false_iff_ne.mpr c34
        by_cases cn : bt s (j : Int) = 45 ∨ dg (bt s (j : Int))
        · rw [if_pos cn] at hT
          have hC := vnumber s hs w g cap j HR.out hlt cn
          have HT := Aside0.mk hT
          have HC := Aside0.mk (hC.mono fun e w' h => (by obtain ⟨x, b, he, hx⟩ := vs_x h.1; rw [hT] at hx; exact ⟨x, b, he, hx, h.2⟩ : ∃ x b, e = .returned (.tuple #[.int .i64 x, .bool b]) ∧ VX T x b ∧ w = w'))
          clear hC hT f1 f2 f3 f4 hb c123 c91 c34 g123 g91 g34 hq1
          rcases dig11 cn with c | c | c | c | c | c | c | c | c | c | c
          all_goals
            rw [c] at hx
            clear c cn
            go_wp2_with (first | (go_at_call 172; (with_reducible refine HC.out.mono ?_); rintro e w' ⟨x, b, rfl, hvx, rfl⟩))
            go_ret2
            exact ⟨vx_s hvx rfl, rfl⟩
        rw [if_neg cn] at hT
        have n45 : (bt s (j : Int) == 45) = false := beq_eq_false_iff_ne.mpr (fun h => cn (.inl h))
        have n48 : (bt s (j : Int) == 48) = false := beq_eq_false_iff_ne.mpr (fun h => cn (.inr (by rw [h]; decide)))
        have n49 : (bt s (j : Int) == 49) = false := beq_eq_false_iff_ne.mpr (fun h => cn (.inr (by rw [h]; decide)))
        have n50 : (bt s (j : Int) == 50) = false := beq_eq_false_iff_ne.mpr (fun h => cn (.inr (by rw [h]; decide)))
        have n51 : (bt s (j : Int) == 51) = false := beq_eq_false_iff_ne.mpr (fun h => cn (.inr (by rw [h]; decide)))
        have n52 : (bt s (j : Int) == 52) = false := beq_eq_false_iff_ne.mpr (fun h => cn (.inr (by rw [h]; decide)))
        have n53 : (bt s (j : Int) == 53) = false := beq_eq_false_iff_ne.mpr (fun h => cn (.inr (by rw [h]; decide)))
        have n54 : (bt s (j : Int) == 54) = false := beq_eq_false_iff_ne.mpr (fun h => cn (.inr (by rw [h]; decide)))
        have n55 : (bt s (j : Int) == 55) = false := beq_eq_false_iff_ne.mpr (fun h => cn (.inr (by rw [h]; decide)))
        have n56 : (bt s (j : Int) == 56) = false := beq_eq_false_iff_ne.mpr (fun h => cn (.inr (by rw [h]; decide)))
        have n57 : (bt s (j : Int) == 57) = false := beq_eq_false_iff_ne.mpr (fun h => cn (.inr (by rw [h]; decide)))
        by_cases c116 : bt s (j : Int) = 116
        · rw [if_pos c116] at hT
          rw [c116] at hx
          clear n45 n48 n49 n50 n51 n52 n53 n54 n55 n56 n57 g123 g91 g34 f1 f2 f3 f4 hb
          have hC := vTrue s hs w g cap (j + 1) HR.out hq1
          rw [show ((j + 1 : Nat) : Int) = (j : Int) + 1 by omega] at hC
          have HC := Aside0.mk (hC.mono fun e w' h => (by obtain ⟨x, b, he, hx⟩ := vs_x h.1; rw [hT] at hx; exact ⟨x, b, he, hx, h.2⟩ : ∃ x b, e = .returned (.tuple #[.int .i64 x, .bool b]) ∧ VX T x b ∧ w = w'))
          clear hC hq1 hT
          go_wp2_with (first | (go_at_call 173; (with_reducible refine HC.out.mono ?_); rintro e w' ⟨x, b, rfl, hvx, rfl⟩))
          go_ret2
          exact ⟨vx_s hvx rfl, rfl⟩
        rw [if_neg c116] at hT
        have g116 : (bt s (j : Int) == 116) = false := beq_eq_false_iff_ne.mpr c116
        by_cases c102 : bt s (j : Int) = 102
        · rw [if_pos c102] at hT
          rw [c102] at hx
          clear n45 n48 n49 n50 n51 n52 n53 n54 n55 n56 n57 g123 g91 g34 f1 f2 f3 f4 hb
          have hC := vFalse s hs w g cap (j + 1) HR.out hq1
          rw [show ((j + 1 : Nat) : Int) = (j : Int) + 1 by omega] at hC
          have HC := Aside0.mk (hC.mono fun e w' h => (by obtain ⟨x, b, he, hx⟩ := vs_x h.1; rw [hT] at hx; exact ⟨x, b, he, hx, h.2⟩ : ∃ x b, e = .returned (.tuple #[.int .i64 x, .bool b]) ∧ VX T x b ∧ w = w'))
          clear hC hq1 hT
          go_wp2_with (first | (go_at_call 174; (with_reducible refine HC.out.mono ?_); rintro e w' ⟨x, b, rfl, hvx, rfl⟩))
          go_ret2
          exact ⟨vx_s hvx rfl, rfl⟩
        rw [if_neg c102] at hT
        have g102 : (bt s (j : Int) == 102) = false := beq_eq_false_iff_ne.mpr c102
        by_cases c110 : bt s (j : Int) = 110
        · rw [if_pos c110] at hT
          rw [c110] at hx
          clear n45 n48 n49 n50 n51 n52 n53 n54 n55 n56 n57 g123 g91 g34 f1 f2 f3 f4 hb
          have hC := vNull s hs w g cap (j + 1) HR.out hq1
          rw [show ((j + 1 : Nat) : Int) = (j : Int) + 1 by omega] at hC
          have HC := Aside0.mk (hC.mono fun e w' h => (by obtain ⟨x, b, he, hx⟩ := vs_x h.1; rw [hT] at hx; exact ⟨x, b, he, hx, h.2⟩ : ∃ x b, e = .returned (.tuple #[.int .i64 x, .bool b]) ∧ VX T x b ∧ w = w'))
          clear hC hq1 hT
          go_wp2_with (first | (go_at_call 175; (with_reducible refine HC.out.mono ?_); rintro e w' ⟨x, b, rfl, hvx, rfl⟩))
          go_ret2
          exact ⟨vx_s hvx rfl, rfl⟩
        rw [if_neg c110] at hT
        have g110 : (bt s (j : Int) == 110) = false := beq_eq_false_iff_ne.mpr c110
        have HT := Aside0.mk hT
        clear hT cn c123 c91 c34 c116 c102 c110 hb
        go_wp2
        go_ret2
        exact ⟨vs_no HT.out.symm _ rfl, rfl⟩
      all_goals
        have HJ' : Aside0 (nx s (j + 1) = nx s p) := ⟨(nx_step hlt hb).trans HJ.out⟩
        rw [f] at hx
        clear f hb
        go_wp2
        go_roundw
        case rel => exact ⟨j + 1, by go_num, trivial, by omega, by omega, HJ'⟩
        case measure => simp [intOf]; omega
    · obtain rfl : j = s.size := by omega
      have HO : Aside0 (T = none) := ⟨by rw [← HT.out, ← HJ.out, nx_here (.inl (Nat.le_refl _))]; unfold gB; rw [bt_out s _ (Int.le_refl _)]; rfl⟩
      go_wp2
      go_ret2
      exact ⟨vs_no HO.out _ rfl, rfl⟩
end Go.Proofs.YtlhaefblchpjhaaGreatDoor.GjV
end
