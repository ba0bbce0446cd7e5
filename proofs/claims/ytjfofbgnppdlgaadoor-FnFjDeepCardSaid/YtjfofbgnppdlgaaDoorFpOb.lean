/- fastjson's object while its members are read. -/
import Derived.Test.YtjfofbgnppdlgaaDoorFpKv
import Derived.Test.YtjfofbgnppdlgaaDoorFpKey2
namespace Go.Proofs.YtjfofbgnppdlgaaDoor.Fp
open Go.RowKit Go.Proofs.YtjfofbgnppdlgaaDoorW.PrintWords Go.Proofs.YtjfofbgnppdlgaaDoorW.PrintLast Go.Proofs.YtjfofbgnppdlgaaDoorW.PrintMore
open Go.Proofs.YtjfofbgnppdlgaaDoor.FjW (cut cut_cut cut_size cut_bytes cut_zero cut_bt bt_out D rd_D rd_D0 D_drop D_len D_nil D_cons ws_at skipWS errNew)
set_option linter.unusedVariables false
set_option linter.unusedSimpArgs false

/-- The cells of members. -/
def kvc : List (List Int) → List (Nat × Nat) → List Value
  | k :: ks, p :: ps => .string (strOfNums k) :: ptr p :: kvc ks ps
  | _, _ => []
theorem kvc_len : ∀ (ks : List (List Int)) (ps : List (Nat × Nat)), ks.length = ps.length → (kvc ks ps).length = ps.length * 2
  | [], [], _ => rfl
  | k :: ks, p :: ps, h => by
    have := kvc_len ks ps (by simpa using h)
    simp only [kvc, List.length_cons, this]; omega
  | [], _ :: _, h => by simp at h
  | _ :: _, [], h => by simp at h
theorem kvc_snoc (k : List Int) (p : Nat × Nat) : ∀ (ks : List (List Int)) (ps : List (Nat × Nat)), ks.length = ps.length → kvc (ks ++ [k]) (ps ++ [p]) = kvc ks ps ++ [.string (strOfNums k), ptr p]
  | [], [], _ => rfl
  | k' :: ks, p' :: ps, h => by
    have := kvc_snoc k p ks ps (by simpa using h)
    simp only [List.cons_append, kvc, this]
  | [], _ :: _, h => by simp at h
  | _ :: _, [], h => by simp at h
theorem kvc_at : ∀ (ks : List (List Int)) (ps : List (Nat × Nat)) (i : Nat), ks.length = ps.length → i < ps.length → (kvc ks ps)[i * 2]? = (ks[i]?).map (fun k => .string (strOfNums k)) ∧ (kvc ks ps)[i * 2 + 1]? = (ps[i]?).map ptr
  | [], [], i, _, hi => absurd hi (Nat.not_lt_zero _)
  | k :: ks, p :: ps, 0, _, _ => ⟨rfl, rfl⟩
  | k :: ks, p :: ps, i + 1, h, hi => by
    have := kvc_at ks ps i (by simpa using h) (by simpa using hi)
    rw [show (i + 1) * 2 = i * 2 + 1 + 1 by omega]
    simp only [kvc, List.getElem?_cons_succ]
    exact this
  | [], _ :: _, _, h, _ => by simp at h
  | _ :: _, [], _, h, _ => by simp at h
theorem row_in2k {pb n lo m : Nat} {bv v kv : Value} {xs : List Value} {W : World} (hP : Pb W pb bv v) (hC : Ca W pb n v) (h : W.ownsRow lo TK 2 kv m xs) {k : Nat} (hk : kv.ownBlock = some k) : lo ≤ k ∧ k < W.heap.size ∧ k ≠ pb ∧ some k ≠ v.ownBlock := by
  rcases h.2 with ⟨rfl, _⟩ | ⟨g, cap, cur, rfl, h1, h2, _⟩
  · cases hk
  · simp only [Value.ownBlock, Option.some.injEq] at hk
    subst hk
    refine ⟨h1, heap_lt h2, ?_, ?_⟩
    · rintro rfl
      unfold Pb at hP
      rw [hP] at h2
      simp only [Option.some.injEq, Obj.cells.injEq] at h2
      exact absurd h2.2.1 (by decide)
    · intro e
      obtain ⟨_, _, cur', hc⟩ := hC.lt e.symm
      rw [hc] at h2
      simp only [Option.some.injEq, Obj.cells.injEq] at h2
      exact absurd h2.2.1 (by decide)
theorem Step.grown2 {pb n : Nat} {v : Value} {w w' : World} (h : Step pb n v w w') {kv : Value} {lo m : Nat} {xs : List Value} {bv : Value} (hP : Pb w pb bv v) (hC : Ca w pb n v) (hr : w.ownsRow lo TK 2 kv m xs) : w'.ownsRow lo TK 2 kv m xs := by
  refine ⟨hr.1, ?_⟩
  rcases hr.2 with c | ⟨g, cap, cur, rfl, h1, h2, rest⟩
  · exact .inl c
  · have := row_in2k hP hC hr (k := g) rfl
    exact .inr ⟨g, cap, cur, rfl, h1, (h.blk g this.2.1 this.2.2.1 this.2.2.2).trans h2, rest⟩
/-- An object at b, n·5, while its members are read: its row has m places, told by xs; ps and vs: the members' values that lie there already. -/
structure Ob (pb n : Nat) (bv v : Value) (w : World) (b nn : Nat) (vv : Value) (W : World) (F : Addr → Prop) (kv : Value) (m : Nat) (xs : List Value) (ps : List (Nat × Nat)) (vs : List FV) : Prop where
  fine : Fine pb n bv v w nn vv W
  own : W.ownsRow w.heap.size TK 2 kv m xs
  cel : W.cell? ⟨b, n * 5, none⟩ = some kv ∧ W.cell? ⟨b, n * 5 + 1, none⟩ = some (.bool false) ∧ W.cell? ⟨b, n * 5 + 2, none⟩ = some nilS ∧ W.cell? ⟨b, n * 5 + 3, none⟩ = some emptyS ∧ W.cell? ⟨b, n * 5 + 4, none⟩ = some (.int .i64 1)
  blk : ∃ cur, W.heap[b]? = some (.cells cur TV (0, 0))
  new : ∀ i, i < 5 → New n v w ⟨b, n * 5 + i, none⟩ ∧ In pb nn vv W ⟨b, n * 5 + i, none⟩
  reps : Reps W F ps vs
  foot : ∀ x, F x → New n v w x ∧ In pb nn vv W x ∧ some x.block ≠ kv.ownBlock ∧ ∀ i, i < 5 → (⟨b, n * 5 + i, none⟩ : Addr) ≠ x
theorem Ob.start {pb n b : Nat} {bv v v1 : Value} {w w1 : World} (h : Got pb n bv v w b v1 w1) : Ob pb n bv v w b (n + 1) v1 (((w1.setCell ⟨b, n * 5 + 4, none⟩ (.int .i64 1)).setCell ⟨b, n * 5, none⟩ nilS).setCell ⟨b, n * 5 + 1, none⟩ (.bool false)) (fun _ => False) nilS 0 [] [] [] := by
  have hp := h.place
  have f1 := h.fine.set (hp 4 (by omega)).1 (hp 4 (by omega)).2 (.int .i64 1)
  have f2 := f1.set (hp 0 (by omega)).1 ((hp 0 (by omega)).2.set _) nilS
  have f3 := f2.set (hp 1 (by omega)).1 (((hp 1 (by omega)).2.set _).set _) (.bool false)
  obtain ⟨cur, hcur⟩ := h.blt
  have hz := h.zero
  have ho : ∀ i j, i ≠ j → ∀ (W : World) (u : Value), (W.setCell ⟨b, n * 5 + j, none⟩ u).cell? ⟨b, n * 5 + i, none⟩ = W.cell? ⟨b, n * 5 + i, none⟩ := fun i j hij W u => World.cell?_setCell_other _ _ _ _ (fun e => by injection e with _ e _; omega)
  refine ⟨f3, World.ownsRow_nil _ _ _ _, ⟨?_, ?_, ?_, ?_, ?_⟩, ⟨_, heap_set (heap_set (heap_set hcur _) _) _⟩, fun i hi => ⟨(hp i hi).1, (((hp i hi).2.set _).set _).set _⟩, .nil _, fun x hx => hx.elim⟩
  · exact (ho 0 1 (by omega) _ _).trans (World.cell?_setCell_same _ _ _ ((ho 0 4 (by omega) _ _).trans (hz 0 (by omega))))
  · exact World.cell?_setCell_same _ _ _ (((ho 1 0 (by omega) _ _).trans (ho 1 4 (by omega) _ _)).trans (hz 1 (by omega)))
  · exact (((ho 2 1 (by omega) _ _).trans (ho 2 0 (by omega) _ _)).trans (ho 2 4 (by omega) _ _)).trans (hz 2 (by omega))
  · exact (((ho 3 1 (by omega) _ _).trans (ho 3 0 (by omega) _ _)).trans (ho 3 4 (by omega) _ _)).trans (hz 3 (by omega))
  · exact ((ho 4 1 (by omega) _ _).trans (ho 4 0 (by omega) _ _)).trans (World.cell?_setCell_same _ _ _ (hz 4 (by omega)))
/-- What a child's reading leaves of the object. -/
theorem Ob.child {pb n b nn n2 m : Nat} {bv v vv v2 kv : Value} {w W W2 : World} {F : Addr → Prop} {xs : List Value} {ps : List (Nat × Nat)} {vs : List FV} (hC : Ca w pb n v) (h : Ob pb n bv v w b nn vv W F kv m xs ps vs) (g : Fine pb nn bv vv W n2 v2 W2) : Ob pb n bv v w b n2 v2 W2 F kv m xs ps vs := by
  have hc : ∀ i, i < 5 → W2.cell? ⟨b, n * 5 + i, none⟩ = W.cell? ⟨b, n * 5 + i, none⟩ := fun i hi => (h.new i hi).2.cell h.fine.ca g.step
  refine ⟨h.fine.trans hC g, g.step.grown2 h.fine.pbs h.fine.ca h.own, ⟨(hc 0 (by omega)).trans h.cel.1, (hc 1 (by omega)).trans h.cel.2.1, (hc 2 (by omega)).trans h.cel.2.2.1, (hc 3 (by omega)).trans h.cel.2.2.2.1, (hc 4 (by omega)).trans h.cel.2.2.2.2⟩, ?_, fun i hi => ⟨(h.new i hi).1, (h.new i hi).2.step g.step g.up⟩, h.reps.kept (g.step.keep h.fine.ca fun x hx => (h.foot x hx).2.1) (fun _ hx => hx), fun x hx => ⟨(h.foot x hx).1, (h.foot x hx).2.1.step g.step g.up, (h.foot x hx).2.2⟩⟩
  obtain ⟨cur, hcur⟩ := h.blk
  exact (g.step.keep (F := fun x => x = ⟨b, n * 5 + 0, none⟩) h.fine.ca (fun x hx => by rw [hx]; exact (h.new 0 (by omega)).2) _ rfl).2 cur _ hcur
theorem Ob.below {pb n b nn m : Nat} {bv v vv kv : Value} {w W W2 : World} {F : Addr → Prop} {xs : List Value} {ps : List (Nat × Nat)} {vs : List FV} (hC : Ca w pb n v) (h : Ob pb n bv v w b nn vv W F kv m xs ps vs) (g : Below W.heap.size W W2) : Ob pb n bv v w b nn vv W2 F kv m xs ps vs :=
  h.child hC ((Fine.refl h.fine.pbs h.fine.ca).below g)
theorem Ob.same {pb n b nn m : Nat} {bv v vv kv : Value} {w W W2 : World} {F : Addr → Prop} {xs : List Value} {ps : List (Nat × Nat)} {vs : List FV} (hC : Ca w pb n v) (h : Ob pb n bv v w b nn vv W F kv m xs ps vs) (e1 : W2.heap = W.heap) (e2 : W2.os = W.os ∧ W2.tape = W.tape ∧ W2.output = W.output) : Ob pb n bv v w b nn vv W2 F kv m xs ps vs :=
  h.child hC ((Fine.refl h.fine.pbs h.fine.ca).grown (same_grown e1 e2) fun k e => by cases e)
theorem Ob.apart {pb n b nn m : Nat} {bv v vv kv : Value} {w W : World} {F : Addr → Prop} {xs : List Value} {ps : List (Nat × Nat)} {vs : List FV} (h : Ob pb n bv v w b nn vv W F kv m xs ps vs) : some b ≠ kv.ownBlock := fun e => by
  obtain ⟨cur, hcur⟩ := h.blk
  exact row_ne hcur h.own e
/-- One place more. -/
theorem Ob.grow {pb n b nn m g c : Nat} {bv v vv kv : Value} {w W W' W2 : World} {F : Addr → Prop} {xs xs' : List Value} {ps : List (Nat × Nat)} {vs : List FV} (hC : Ca w pb n v) (h : Ob pb n bv v w b nn vv W F kv m xs ps vs)
    (hown : W'.ownsRow w.heap.size TK 2 (.slice (some ⟨g, 0, none⟩) (m + 1) c) (m + 1) xs') (hgr : W.grownBy W' kv.ownBlock) (hat : some g = kv.ownBlock ∨ W.heap.size ≤ g)
    (e1 : W2.heap = (W'.setCell ⟨b, n * 5, none⟩ (.slice (some ⟨g, 0, none⟩) (m + 1) c)).heap) (e2 : W2.os = W.os ∧ W2.tape = W.tape ∧ W2.output = W.output) : Ob pb n bv v w b nn vv W2 F (.slice (some ⟨g, 0, none⟩) (m + 1) c) (m + 1) xs' ps vs := by
  have f3 : Fine pb n bv v w nn vv W' := h.fine.grown hgr fun k hk => by have := row_in2k h.fine.pbs h.fine.ca h.own hk; exact ⟨this.1, this.2.2⟩
  have hi3 : ∀ i, i < 5 → In pb nn vv W' ⟨b, n * 5 + i, none⟩ := fun i hi => (h.new i hi).2.grown hgr
  obtain ⟨cur, hcur⟩ := h.blk
  have hbr := h.apart
  have hbl := heap_lt hcur
  obtain ⟨S, hS⟩ : ∃ S, S = Value.slice (some ⟨g, 0, none⟩) (m + 1) c := ⟨_, rfl⟩
  rw [← hS] at hown e1 ⊢
  have hSo : S.ownBlock = some g := by rw [hS]; rfl
  have hc3 : ∀ i, i < 5 → W'.cell? ⟨b, n * 5 + i, none⟩ = W.cell? ⟨b, n * 5 + i, none⟩ := fun i hi => World.cell?_of_block (hgr.block b hbl hbr)
  have hcs : ∀ i, i < 5 → i ≠ 0 → (W'.setCell ⟨b, n * 5, none⟩ S).cell? ⟨b, n * 5 + i, none⟩ = W.cell? ⟨b, n * 5 + i, none⟩ := fun i hi hne => (World.cell?_setCell_other _ _ _ _ (fun e => by injection e with _ e _; omega)).trans (hc3 i hi)
  have hb3 : W'.heap[b]? = some (.cells cur TV (0, 0)) := (hgr.block b hbl hbr).trans hcur
  have hk : Keep W (W'.setCell ⟨b, n * 5, none⟩ S) F := (grown_keep hgr fun x hx => ⟨(h.foot x hx).2.1.2.1, (h.foot x hx).2.2.1⟩).trans (set_keep _ rfl fun x hx => (h.foot x hx).2.2.2 0 (by omega))
  have hgb : g ≠ b := by
    rintro rfl
    rcases hat with e | e
    · exact hbr e
    · omega
  have base : Ob pb n bv v w b nn vv (W'.setCell ⟨b, n * 5, none⟩ S) F S (m + 1) xs' ps vs := by
    refine ⟨f3.set (h.new 0 (by omega)).1 (hi3 0 (by omega)) S, ?_, ⟨?_, (hcs 1 (by omega) (by omega)).trans h.cel.2.1, (hcs 2 (by omega) (by omega)).trans h.cel.2.2.1, (hcs 3 (by omega) (by omega)).trans h.cel.2.2.2.1, (hcs 4 (by omega) (by omega)).trans h.cel.2.2.2.2⟩, ⟨_, heap_set hb3 S⟩, fun i hi => ⟨(h.new i hi).1, (hi3 i hi).set _⟩, ?_, fun x hx => ?_⟩
    · exact ownsRow_setCell_other hown (by rw [hSo]; simpa using hgb) S
    · exact World.cell?_setCell_same _ _ _ ((hc3 0 (by omega)).trans h.cel.1)
    · exact h.reps.kept hk fun _ hx => hx
    · refine ⟨(h.foot x hx).1, ((h.foot x hx).2.1.grown hgr).set _, fun e => ?_, (h.foot x hx).2.2.2⟩
      rw [hSo] at e
      rcases hat with e1 | e1
      · exact (h.foot x hx).2.2.1 (e.trans e1)
      · have := (h.foot x hx).2.1.2.1; injection e with e; omega
  exact base.same hC e1 ⟨e2.1.trans hgr.os.symm, e2.2.1.trans hgr.tape.symm, e2.2.2.trans hgr.output.symm⟩
/-- A store into the row. -/
theorem Ob.store {pb n b nn m g c j : Nat} {bv v vv : Value} {w W : World} {F : Addr → Prop} {xs : List Value} {ps : List (Nat × Nat)} {vs : List FV} (h : Ob pb n bv v w b nn vv W F (.slice (some ⟨g, 0, none⟩) m c) m xs ps vs) (u : Value) : Ob pb n bv v w b nn vv (W.setCell ⟨g, j, none⟩ u) F (.slice (some ⟨g, 0, none⟩) m c) m (xs.set j u) ps vs := by
  obtain ⟨o1, hgr⟩ := h.own.stored j u
  have hbr : b ≠ g := fun e => h.apart (by rw [e]; rfl)
  have f3 : Fine pb n bv v w nn vv (W.setCell ⟨g, j, none⟩ u) := h.fine.grown hgr fun k hk => by
    have := row_in2k h.fine.pbs h.fine.ca h.own (k := k) hk; exact ⟨this.1, this.2.2⟩
  have hcs : ∀ i, (W.setCell ⟨g, j, none⟩ u).cell? ⟨b, i, none⟩ = W.cell? ⟨b, i, none⟩ := fun i => World.cell?_setCell_other _ _ _ _ (fun e => by injection e with e _ _; exact hbr e.symm)
  obtain ⟨cur, hcur⟩ := h.blk
  refine ⟨f3, o1, ⟨(hcs _).trans h.cel.1, (hcs _).trans h.cel.2.1, (hcs _).trans h.cel.2.2.1, (hcs _).trans h.cel.2.2.2.1, (hcs _).trans h.cel.2.2.2.2⟩, ⟨cur, (heap_other _ _ _ _ _ hbr).trans hcur⟩, fun i hi => ⟨(h.new i hi).1, (h.new i hi).2.set _⟩, ?_, fun x hx => ⟨(h.foot x hx).1, (h.foot x hx).2.1.set _, (h.foot x hx).2.2⟩⟩
  exact h.reps.kept (grown_keep hgr fun x hx => ⟨(h.foot x hx).2.1.2.1, (h.foot x hx).2.2.1⟩) fun _ hx => hx
/-- A child is laid. -/
theorem Ob.snoc {pb n b nn n2 m g c j : Nat} {bv v vv v2 : Value} {w W W2 : World} {F G : Addr → Prop} {xs : List Value} {ps : List (Nat × Nat)} {vs : List FV} {p : Nat × Nat} {u : FV} (hC : Ca w pb n v) (h0 : Ob pb n bv v w b nn vv W F (.slice (some ⟨g, 0, none⟩) m c) m xs ps vs) (f : Fine pb nn bv vv W n2 v2 W2)
    (hR : Rep W2 G p.1 p.2 u) (hG : ∀ x, G x → New nn vv W x ∧ In pb n2 v2 W2 x) : Ob pb n bv v w b n2 v2 (W2.setCell ⟨g, j, none⟩ (ptr p)) (fun x => F x ∨ G x) (.slice (some ⟨g, 0, none⟩) m c) m (xs.set j (ptr p)) (ps ++ [p]) (vs ++ [u]) := by
  have h := (h0.child hC f).store (j := j) (ptr p)
  have hr := row_in2k h0.fine.pbs h0.fine.ca h0.own (k := g) rfl
  have hgr := ((h0.child hC f).own.stored j (ptr p)).2
  have hGr : ∀ x, G x → x.block < W2.heap.size ∧ some x.block ≠ some g := fun x hx => by
    refine ⟨(hG x hx).2.2.1, fun e => ?_⟩
    injection e with e
    rcases (hG x hx).1 with c' | ⟨c', _⟩
    · omega
    · rw [e] at c'; exact hr.2.2.2 c'
  refine ⟨h.fine, h.own, h.cel, h.blk, h.new, Reps.snoc (hR.kept (grown_keep hgr hGr) fun _ hx => hx) h.reps (fun x a b => (hG x b).1.out (h0.foot x a).2.1), fun x hx => ?_⟩
  rcases hx with hx | hx
  · exact h.foot x hx
  · refine ⟨(hG x hx).1.up h0.fine, (hG x hx).2.set _, (hGr x hx).2, fun i hi e => (hG x hx).1.out (by rw [← e]; exact (h0.new i hi).2)⟩
theorem Ob.rep {pb n b nn m : Nat} {bv v vv kv : Value} {w W : World} {F : Addr → Prop} {xs : List Value} {ps : List (Nat × Nat)} {ms : List (List Int × FV)} (h : Ob pb n bv v w b nn vv W F kv m xs ps (ms.map Prod.snd)) (hm : m = ps.length) (hl : ms.length = ps.length) (hx : xs = kvc (ms.map Prod.fst) ps) (h0 : 0 < ps.length ∨ kv = nilS) : ∃ G, Rep W G b (n * 5) (.obj ms) ∧ ∀ x, G x → New n v w x ∧ In pb nn vv W x := by
  subst hm hx
  have hl' : (ms.map Prod.fst).length = ps.length := by rw [List.length_map]; exact hl
  refine ⟨fun x => F x ∨ (∃ i, i < 5 ∧ x = ⟨b, n * 5 + i, none⟩) ∨ (x.spot = none ∧ some x.block = kv.ownBlock), ?_, fun x hx => ?_⟩
  · refine .obj _ F b (n * 5) kv ps ms ⟨h.cel, ⟨.inr (.inl ⟨0, by omega, rfl⟩), .inr (.inl ⟨1, by omega, rfl⟩), .inr (.inl ⟨2, by omega, rfl⟩), .inr (.inl ⟨3, by omega, rfl⟩), .inr (.inl ⟨4, by omega, rfl⟩)⟩, h.blk⟩ ?_ h.reps (fun x hx => ⟨.inl hx, (h.foot x hx).2.2⟩) (fun x a b => .inr (.inr ⟨a, b⟩))
    rcases h.own.2 with ⟨e1, e2⟩ | ⟨g, cap, cur, e1, h1, h2, h3, h4, h5, h6⟩
    · exact .inl ⟨List.eq_nil_of_length_eq_zero e2, List.eq_nil_of_length_eq_zero (by omega), e1⟩
    · refine .inr ⟨g, cap, cur, e1, ?_, h3, hl', h2, fun i hi => ?_⟩
      · rcases h0 with h0 | h0
        · exact h0
        · rw [h0] at e1; cases e1
      · have h7 : ∀ j, j < ps.length * 2 → W.cell? ⟨g, j, none⟩ = (kvc (ms.map Prod.fst) ps)[j]? := fun j hj => (e1 ▸ h.own).cellAt j hj
        have h8 := kvc_at (ms.map Prod.fst) ps i hl' hi
        exact ⟨(h7 _ (by omega)).trans h8.1, (h7 _ (by omega)).trans h8.2, .inr (.inr ⟨rfl, by rw [e1]; rfl⟩), .inr (.inr ⟨rfl, by rw [e1]; rfl⟩)⟩
  · rcases hx with hx | ⟨i, hi, rfl⟩ | ⟨hs, hx⟩
    · exact ⟨(h.foot x hx).1, (h.foot x hx).2.1⟩
    · exact h.new i hi
    · have := row_in2k h.fine.pbs h.fine.ca h.own hx.symm
      exact ⟨.inl this.1, hs, this.2.1, this.2.2.1, fun e => absurd e this.2.2.2⟩
end Go.Proofs.YtjfofbgnppdlgaaDoor.Fp
