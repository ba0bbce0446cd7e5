/- impl's fjNode of every value that fastjson's Parse gives: it answers, and changes the value's own places alone. -/
import Derived.Test.YtjfofbgnppdlgaaDoorFpFr
import Derived.Deep.RegionLaw
namespace Go.Proofs.YtjfofbgnppdlgaaDoor.Fp
open Go.RowKit Go.Proofs.YtjfofbgnppdlgaaDoorW.PrintWords Go.Proofs.YtjfofbgnppdlgaaDoorW.PrintLast Go.Proofs.YtjfofbgnppdlgaaDoorW.PrintMore
open Go.Proofs.YtjfofbgnppdlgaaDoor.FjW (cut cut_cut cut_size cut_bytes cut_zero cut_bt bt_out D rd_D rd_D0 D_drop D_len D_nil D_cons ws_at skipWS errNew ixOf ixCall ix_or)
set_option linter.unusedVariables false
set_option linter.unusedSimpArgs false

/-- A call of a Go function of one argument, within a region that draws its order. -/
theorem step_go1 {P : Program} {ops : Array Oper} {o : Oper} {a : Act} {w : World} {K : Act → World → Prop} {Q : Exit → Act → World → Prop} {E : Prop}
    (hg : o.guard = none) (f : FuncId) (x : Operand) (T : TypeId) (hop : o.op = Op.call { callee := .value (.func f), args := #[x], argTypes := #[T] }) (vx : Value) (hx : a.eval x = vx)
    (hF : ∀ args W, (callFunc f args).run P W = .ok (.enter f args) W) (hc : Calls P f #[vx] w fun e w' => ∃ v, e = .returned v ∧ K (a.put o.dst v) w') :
    if Region.wanted o (yielded ops a.tmps) = true then Oper.wp P o a w K Q else E := by
  have hw : Region.wanted o (yielded ops a.tmps) = true := by simp [Region.wanted, hg]
  rw [if_pos hw]
  have hr : (execOp a.eval o).run P w = .ok (.enter f #[vx]) w := by
    have hfn : a.eval (.func f) = .func (.func f) #[] #[] := rfl
    simp [execOp, hop, resolve, invoke, hx, hF, hfn, Deferred.ofValue]
  unfold Oper.wp
  rw [hr, Oper.upon_enter]
  refine hc.mono fun e w' h => ?_
  obtain ⟨v, rfl, h⟩ := h
  exact h
theorem call_func (f : FuncId) (F : Func) (h : Tryd.prog.funcs[f]? = some F) (h1 : (F.name = "runtime.NumGoroutine") = False) (h2 : F.body.isNone = false) (args : Array Value) (W : World) : (callFunc f args).run Tryd.prog W = .ok (.enter f args) W := by
  have h3 : (F.body = none) = False := eq_false (fun e => by rw [e] at h2; cases h2)
  simp [callFunc, go_sem, h, h1, h3]
theorem nodeFn (args : Array Value) (W : World) : (callFunc 7 args).run Tryd.prog W = .ok (.enter 7 args) W := call_func _ _ Tryd.func7 (eq_false (by decide)) rfl args W
theorem cbFn (args : Array Value) (W : World) : (callFunc 30 args).run Tryd.prog W = .ok (.enter 30 args) W := call_func _ _ Tryd.func30 (eq_false (by decide)) rfl args W
set_option maxRecDepth 100000 in
theorem s2b (w : World) (s : ByteArray) (hs : s.size ≤ 1000000) :
    Calls Tryd.prog 32 #[.string s] w fun e w' => ∃ c, e = .returned (.slice (some ⟨w.heap.size, 0, none⟩) s.size c) ∧ (convert 30 9 (.slice (some ⟨w.heap.size, 0, none⟩) s.size c)).run Tryd.prog w' = .ok (.string s) w' ∧ Below w.heap.size w w' ∧ w.heap.size < w'.heap.size := by
  have hcv := Lib.run_convert_string_bytes (P := Tryd.prog) w 9 30 5 s (u := .string) Tryd.underlying9 Tryd.underlying30 Tryd.underlying5
  have HBW := Aside0.mk (bytes_below (Below.refl w.heap.size w) (Nat.le_refl _) 5 s)
  have HR : Aside0 (∀ c, (convert 30 9 (.slice (some ⟨w.heap.size, 0, none⟩) s.size c)).run Tryd.prog (Lib.bytesWorld w 5 s) = .ok (.string s) (Lib.bytesWorld w 5 s)) := ⟨fun c => by
    have := string_of_reads (P := Tryd.prog) Tryd.underlying30 Tryd.underlying5 Tryd.underlying9 (c := c) (bytes_reads w 5 s (by omega))
    rwa [XWords.strOfNums_bytesOf] at this⟩
  have HSZ : Aside0 (w.heap.size < (Lib.bytesWorld w 5 s).heap.size) := ⟨by rw [Lib.bytesWorld_size]; omega⟩
  obtain ⟨W1, hW1⟩ : ∃ W1, W1 = Lib.bytesWorld w 5 s := ⟨_, rfl⟩
  rw [← hW1] at hcv HBW HR HSZ
  clear hW1
  go_enter Tryd.func32, Tryd.ntmps32
  go_wp2
  go_ret
  exact ⟨_, rfl, HR.out _, HBW.out, HSZ.out⟩
/-- The five places of a value. -/
def Five (b o : Nat) (x : Addr) : Prop := ∃ i, i < 5 ∧ x = ⟨b, o + i, none⟩
theorem five {b o : Nat} (i : Nat) (hi : i < 5) : Five b o ⟨b, o + i, none⟩ := ⟨i, hi, rfl⟩
set_option maxRecDepth 100000 in
/-- Type of a raw string: it is unescaped in its place. -/
theorem typeR (U : ByteArray → ByteArray) (w : World) (b o : Nat) (x : ByteArray) (hb : ∃ cur, w.heap[b]? = some (.cells cur TV (0, 0))) (h4 : w.cell? ⟨b, o + 4, none⟩ = some (.int .i64 7)) (h3 : w.cell? ⟨b, o + 3, none⟩ = some (.string x)) (hU : UC U x) :
    Calls Tryd.prog 13 #[.pointer (some ⟨b, o, none⟩)] w fun e w' => e = .returned (.int .i64 3) ∧ Fr w w' (Five b o) ∧ w'.cell? ⟨b, o + 3, none⟩ = some (.string (U x)) ∧ w'.cell? ⟨b, o + 4, none⟩ = some (.int .i64 3) := by
  have HUC : Aside0 (∀ W, Calls Tryd.prog 28 #[.string x] W fun e w' => e = .returned (.string (U x)) ∧ Below W.heap.size W w') := ⟨hU.2.2⟩
  have hf := free_of hb
  have HB : Aside0 (b < w.heap.size) := ⟨heap_lt hb.choose_spec⟩
  clear hb hU
  go_enter Tryd.func13, Tryd.ntmps13
  go_wp2_with (first | (go_at_call 28; (with_reducible refine (HUC.out _).mono ?_); rintro e w2 ⟨rfl, hb2⟩; have HB2 := Aside0.mk hb2; have h32 := pw_cell_below hb2 h3; have h42 := pw_cell_below hb2 h4; have h42' : (∀ u, (w2.setCell ⟨b, o + 3, none⟩ u).cell? ⟨b, o + 4, none⟩ = some (.int .i64 7)) := (fun u => (World.cell?_setCell_other _ _ _ _ (fun e => by injection e with _ e _; omega)).trans h42); have hf2 : (∀ j, w2.frozen? ⟨b, j, none⟩ = false) := (fun j => (World.frozen?_of_block (a := ⟨b, j, none⟩) (hb2.block b HB.out)).trans (hf j)); clear hb2))
  go_ret
  refine ⟨rfl, ((Fr.below HB2.out).set (five 3 (by omega)) _).set (five 4 (by omega)) _, ?_, ?_⟩
  · rw [World.cell?_setCell_other _ _ _ _ (fun e => by injection e with _ e _; omega)]
    exact World.cell?_setCell_same _ _ _ h32
  · exact World.cell?_setCell_same _ _ _ (h42' _)
set_option maxRecDepth 100000 in
theorem getStr (w : World) (b o : Nat) (x : ByteArray) (hx : x.size ≤ 1000000) (h4 : w.cell? ⟨b, o + 4, none⟩ = some (.int .i64 3)) (h3 : w.cell? ⟨b, o + 3, none⟩ = some (.string x)) :
    Calls Tryd.prog 18 #[.pointer (some ⟨b, o, none⟩), .slice none 0 0] w fun e w' => ∃ A n c, e = .returned (.slice A n c) ∧ (convert 30 9 (.slice A n c)).run Tryd.prog w' = .ok (.string x) w' ∧ Below w.heap.size w w' := by
  have HX := Aside0.mk hx
  have H4 := Aside0.mk h4
  go_enter Tryd.func18, Tryd.ntmps18
  go_wp2_with (first
    | (go_at_call 31; (with_reducible refine (get0 _ b o).mono ?_); rintro e w' ⟨rfl, rfl⟩)
    | (go_at_call 13; (refine (typeOf _ b o 3 (by decide) H4.out).mono ?_); rintro e w' ⟨rfl, rfl⟩)
    | (go_at_call 32; (with_reducible refine (s2b _ x HX.out).mono ?_); rintro e w2 ⟨c, rfl, hcv, hb, _⟩; have HB := Aside0.mk hb; have HCV := Aside0.mk hcv; clear hb hcv))
  go_ret
  exact ⟨_, _, _, rfl, HCV.out, HB.out⟩
theorem getObj (w : World) (b o : Nat) (h4 : w.cell? ⟨b, o + 4, none⟩ = some (.int .i64 1)) :
    Calls Tryd.prog 15 #[.pointer (some ⟨b, o, none⟩), .slice none 0 0] w fun e w' => e = .returned (.pointer (some ⟨b, o, none⟩)) ∧ w = w' := by
  go_enter Tryd.func15, Tryd.ntmps15
  go_wp2_with (first | (go_at_call 31; (with_reducible refine (get0 _ b o).mono ?_); rintro e w' ⟨rfl, rfl⟩))
  go_ret
  exact ⟨rfl, rfl⟩
/-- Strings all of which unescapeStringBestEffort is known of; lengths. -/
inductive Good (U : ByteArray → ByteArray) : FV → Prop
  | lit (t : Int) : t = 0 ∨ t = 5 ∨ t = 6 → Good U (.lit t)
  | str (s : List Int) : UC U (strOfNums s) → Good U (.str s)
  | num (s : List Int) : (strOfNums s).size ≤ 1000000 → Good U (.num s)
  | arr (vs : List FV) : vs.length ≤ 1000000 → (∀ v, v ∈ vs → Good U v) → Good U (.arr vs)
  | obj (ms : List (List Int × FV)) : ms.length ≤ 999999 → (∀ m, m ∈ ms → UC U (strOfNums m.1)) → (∀ m, m ∈ ms → Good U m.2) → Good U (.obj ms)
/-- What fjNode does of a value. -/
def NodeF (fv : FV) : Prop := ∀ (w : World) (F : Addr → Prop) (b o : Nat), Pl w F → Rep w F b o fv →
    Calls Tryd.prog 7 #[.pointer (some ⟨b, o, none⟩)] w fun e w' => NodeSaid e ∧ Fr w w' F
/-- The same, of the blocks below lo alone. -/
structure FrL (lo : Nat) (w w' : World) (F : Addr → Prop) : Prop where
  out : w'.os = w.os ∧ w'.tape = w.tape ∧ w'.output = w.output
  size : w.heap.size ≤ w'.heap.size
  typ : ∀ k cur T fz, k < lo → w.heap[k]? = some (.cells cur T fz) → ∃ cur', w'.heap[k]? = some (.cells cur' T fz) ∧ cur'.size = cur.size ∧ ∀ j, ¬ F ⟨k, j, none⟩ → cur'[j]? = cur[j]?
  oth : ∀ (k : Nat) (o : Obj), k < lo → w.heap[k]? = some o → (∀ cur T fz, o ≠ Obj.cells cur T fz) → w'.heap[k]? = some o
theorem FrL.refl (lo : Nat) (w : World) (F : Addr → Prop) : FrL lo w w F := ⟨⟨rfl, rfl, rfl⟩, Nat.le_refl _, fun k cur T fz _ h => ⟨cur, h, rfl, fun _ _ => rfl⟩, fun k o _ h _ => h⟩
theorem Fr.toL {w w' : World} {F : Addr → Prop} (h : Fr w w' F) (lo : Nat) : FrL lo w w' F := ⟨h.out, h.size, fun k cur T fz _ e => h.typ k cur T fz e, fun k o _ e hn => h.oth k o e hn⟩
theorem FrL.toFr {lo : Nat} {w w' : World} {F : Addr → Prop} (h : FrL lo w w' F) (hl : w.heap.size ≤ lo) : Fr w w' F := ⟨h.out, h.size, fun k cur T fz e => h.typ k cur T fz (Nat.lt_of_lt_of_le (heap_lt e) hl) e, fun k o e hn => h.oth k o (Nat.lt_of_lt_of_le (heap_lt e) hl) e hn⟩
theorem FrL.trans {lo : Nat} {w w1 w2 : World} {F : Addr → Prop} (h : FrL lo w w1 F) (g : FrL lo w1 w2 F) : FrL lo w w2 F := by
  refine ⟨⟨g.out.1.trans h.out.1, g.out.2.1.trans h.out.2.1, g.out.2.2.trans h.out.2.2⟩, Nat.le_trans h.size g.size, fun k cur T fz hk e => ?_, fun k o hk e hn => g.oth k o hk (h.oth k o hk e hn) hn⟩
  obtain ⟨c1, a1, a2, a3⟩ := h.typ k cur T fz hk e
  obtain ⟨c2, b1, b2, b3⟩ := g.typ k c1 T fz hk a1
  exact ⟨c2, b1, b2.trans a2, fun j hj => (b3 j hj).trans (a3 j hj)⟩
theorem FrL.mono {lo lo' : Nat} {w w' : World} {F G : Addr → Prop} (h : FrL lo w w' F) (hg : ∀ x, F x → G x) (hl : lo' ≤ lo) : FrL lo' w w' G :=
  ⟨h.out, h.size, fun k cur T fz hk e => by obtain ⟨c, a1, a2, a3⟩ := h.typ k cur T fz (by omega) e; exact ⟨c, a1, a2, fun j hj => a3 j fun x => hj (hg _ x)⟩, fun k o hk => h.oth k o (by omega)⟩
theorem FrL.bel {lo : Nat} {w w1 w2 : World} {F : Addr → Prop} (h : FrL lo w w1 F) (g : Below lo w1 w2) : FrL lo w w2 F :=
  ⟨⟨g.os.trans h.out.1, g.tape.trans h.out.2.1, g.output.trans h.out.2.2⟩, Nat.le_trans h.size g.size, fun k cur T fz hk e => by obtain ⟨c, a1, a2, a3⟩ := h.typ k cur T fz hk e; exact ⟨c, (g.block k hk).trans a1, a2, a3⟩, fun k o hk e hn => (g.block k hk).trans (h.oth k o hk e hn)⟩
theorem FrL.keep {lo : Nat} {w w' : World} {F G : Addr → Prop} (h : FrL lo w w' F) (hp : ∀ x, G x → x.spot = none ∧ x.block < w.heap.size ∧ x.block < lo) (hd : ∀ x, G x → F x → False) : Keep w w' G := fun x hx => by
  obtain ⟨xb, xo, xs⟩ := x
  obtain ⟨h1, h2, h3⟩ := hp _ hx
  simp only at h1 h2 h3
  subst h1
  obtain ⟨ob, e⟩ : ∃ ob, w.heap[xb]? = some ob := ⟨w.heap[xb], Array.getElem?_eq_getElem h2⟩
  refine ⟨?_, fun cur T e => by obtain ⟨c, a1, _⟩ := h.typ xb cur T _ h3 e; exact ⟨c, a1⟩⟩
  cases ob with
  | cells cur T fz =>
    obtain ⟨c, a1, _, a3⟩ := h.typ xb cur T fz h3 e
    rw [cell_in a1, cell_in e, a3 xo (hd _ hx)]
  | _ =>
    have := h.oth xb _ h3 e (fun cur T fz hh => by cases hh)
    exact World.cell?_of_block (a := ⟨xb, xo, none⟩) (this.trans e.symm)
/-- A block of which no place is in F. -/
theorem Fr.block {w w' : World} {F : Addr → Prop} (g : Fr w w' F) {k : Nat} (hF : ∀ x, F x → x.block ≠ k) {ob : Obj} (e : w.heap[k]? = some ob) : w'.heap[k]? = some ob := by
  cases ob with
  | cells cur T fz =>
    obtain ⟨c, a1, a2, a3⟩ := g.typ k cur T fz e
    rw [a1]
    congr 2
    exact Array.ext_getElem? fun j => a3 j fun x => hF _ x rfl
  | _ => exact g.oth k _ e (fun cur T fz hh => by cases hh)
theorem infoS : ∃ i0 z, Tryd.prog.info? 9 = some i0 ∧ i0.zero = some z ∧ z.cells.size = 1 ∧ i0.size = 1 ∧ i0.bytes = 16 := by
  have h : (Tryd.prog.info? 9).map (fun i => (i.zero.map (·.cells.size), i.size, i.bytes)) = some (some 1, 1, 16) := by kernel_rfl
  cases hi : Tryd.prog.info? 9 with
  | none => rw [hi] at h; cases h
  | some i0 =>
    rw [hi] at h
    simp only [Option.map_some, Option.some.injEq, Prod.mk.injEq] at h
    cases hz : i0.zero with
    | none => rw [hz] at h; simp at h
    | some z => rw [hz] at h; exact ⟨i0, z, rfl, hz, Option.some.inj h.1, h.2.1, h.2.2⟩
/-- append(keys, one). -/
theorem wp_key {ops : Array Oper} {rest : List Oper} {o : Oper} {a : Act} {Q : Exit → Act → World → Prop} (W : World) (lo m : Nat) (av : Value) (xs : List Value) (t : ByteArray) (hR : W.ownsRow lo 9 1 av m xs) (hlo : lo ≤ W.heap.size) (hm : m ≤ 1000000) (hgd : o.guard = none) (s x : Operand)
    (ho : o.op = .call { callee := .builtin .append, args := #[s, x], argTypes := #[23, 23] }) (hs : a.eval s = av) (hx : a.eval x = .slice (some ⟨W.heap.size, 0, none⟩) 1 1)
    (h : ∀ A c w', w'.ownsRow lo 9 1 (.slice A (m + 1) c) (m + 1) (xs ++ [.string t]) → W.grownBy w' av.ownBlock → wpList Tryd.prog ops Q rest (a.put o.dst (.slice A (m + 1) c)) w') :
    wpList Tryd.prog ops Q (o :: rest) a (W.alloc (.cells #[.string t] 9)) := by
  obtain ⟨i0, z, hi, hz, hzc, hsz, hby⟩ := infoS
  have hlo' : lo ≤ (W.alloc (.cells #[.string t] 9)).heap.size := by rw [alloc_size]; omega
  refine wpList_append_own_at (P := Tryd.prog) _ hgd s x _ ho lo 9 i0 z 1 16 Tryd.underlying23 hi hz hsz hby hzc (by decide) av m xs hs (hR.alloc _) _ 1 1 [.string t] hx rfl (cell_one_new _ _ _) (fun y hy => by simp at hy; rw [hy]; rfl) (by simp only [maxLen]; omega) (by omega) hlo' fun v' w' h1 h2 _ h3 => ?_
  rcases h1.2 with ⟨_, h0⟩ | ⟨g, cap, cur, rfl, _⟩
  · omega
  · refine h _ _ w' h1 ⟨h2.os, h2.tape, h2.output, ?_, fun k hk hr => ?_⟩
    · have := h2.size; rw [alloc_size] at this; omega
    · exact (h2.block k (by rw [alloc_size]; omega) hr).trans (heap_alloc_old W _ hk)
/-- append(nodes, one), within a region that draws its order. -/
theorem step_kid {ops : Array Oper} {o : Oper} {a : Act} {K : Act → World → Prop} {Q : Exit → Act → World → Prop} {E : Prop} (W W0 : World) (lo m g0 : Nat) (av : Value) (xs : List Value) (hR : W.ownsRow lo TN 4 av m xs) (hlo : lo ≤ W.heap.size) (hm : m ≤ 1000000) (hgd : o.guard = none) (s x : Operand)
    (ho : o.op = .call { callee := .builtin .append, args := #[s, x], argTypes := #[24, 24] }) (hs : a.eval s = av) (hx : a.eval x = .slice (some ⟨g0, 0, none⟩) 1 1) (hg0 : W.heap[g0]? = some (.cells n0 TN (0, 0)))
    (h : ∀ g c xs' w', w'.ownsRow lo TN 4 (.slice (some ⟨g, 0, none⟩) (m + 1) c) (m + 1) xs' → W.grownBy w' av.ownBlock → K (a.put o.dst (.slice (some ⟨g, 0, none⟩) (m + 1) c)) w') :
    if Region.wanted o (yielded ops a.tmps) = true then Oper.wp Tryd.prog o a W K Q else E := by
  have hw : Region.wanted o (yielded ops a.tmps) = true := by simp [Region.wanted, hgd]
  rw [if_pos hw]
  obtain ⟨i0, z, hi, hz, hzc, hsz, hby⟩ := infoN
  have hnew : ∀ j v, [Value.int .i64 0, .string ⟨#[]⟩, nilS, nilS][j]? = some v → W.cell? ((⟨g0, 0, none⟩ : Addr).add j) = some v := fun j v hj => by
    rw [add_plain, cell_in hg0]
    simpa using hj
  obtain ⟨v', w', hrun, r1, r2, _⟩ := run_append_own (P := Tryd.prog) W lo 24 o.type TN i0 z 4 72 Tryd.underlying24 hi hz hsz hby hzc (by decide) av m xs hR ⟨g0, 0, none⟩ 1 1 _ rfl hnew (fun y hy => by
    simp only [List.mem_cons, List.not_mem_nil, or_false] at hy
    rcases hy with rfl | rfl | rfl | rfl <;> rfl) (by simp only [maxLen]; omega) (by omega) hlo
  rcases r1.2 with ⟨_, h0⟩ | ⟨g, cap, cur, rfl, _⟩
  · omega
  unfold Oper.wp
  simp [execOp, ho, resolve, invoke, builtin, hs, hx, hrun, Result.andThen]
  exact h g cap _ w' r1 r2
/-- The closure's Node, in the block nb: its rows of names and of elements. -/
structure Bx (W : World) (nb i m : Nat) (kv kk : Value) (xs ys : List Value) : Prop where
  box : W.heap[nb]? = some (.cells #[.int .i64 6, emptyS, kv, kk] TN (0, 0))
  keys : W.ownsRow (nb + 1) 9 1 kv i xs
  kids : W.ownsRow (nb + 1) TN 4 kk m ys
theorem row_blocks {W W2 : World} {lo e size m : Nat} {v : Value} {zs : List Value} (h : W.ownsRow lo e size v m zs) (hb : ∀ k, lo ≤ k → ∀ ob, W.heap[k]? = some ob → W2.heap[k]? = some ob) : W2.ownsRow lo e size v m zs := ⟨h.1, h.2.imp id (by
    rintro ⟨g', cap, cur, rfl, h1, h2, rest⟩
    exact ⟨g', cap, cur, rfl, h1, hb g' h1 _ h2, rest⟩)⟩
theorem Bx.kept {W W2 : World} {nb i m : Nat} {kv kk : Value} {xs ys : List Value} (h : Bx W nb i m kv kk xs ys) (hb : ∀ k, nb ≤ k → ∀ ob, W.heap[k]? = some ob → W2.heap[k]? = some ob) : Bx W2 nb i m kv kk xs ys :=
  ⟨hb nb (Nat.le_refl _) _ h.box, row_blocks h.keys fun k hk => hb k (by omega), row_blocks h.kids fun k hk => hb k (by omega)⟩
theorem Bx.fr {W W2 : World} {F : Addr → Prop} {nb i m : Nat} {kv kk : Value} {xs ys : List Value} (h : Bx W nb i m kv kk xs ys) (g : Fr W W2 F) (hF : ∀ x, F x → x.block < nb) : Bx W2 nb i m kv kk xs ys :=
  h.kept fun k hk ob e => g.block (fun x hx => by have := hF x hx; omega) e
theorem Bx.alloc {W : World} {nb i m : Nat} {kv kk : Value} {xs ys : List Value} (h : Bx W nb i m kv kk xs ys) (o : Obj) : Bx (W.alloc o) nb i m kv kk xs ys :=
  h.kept fun k _ ob e => (heap_alloc_old W o (heap_lt e)).trans e
theorem Bx.lt {W : World} {nb i m : Nat} {kv kk : Value} {xs ys : List Value} (h : Bx W nb i m kv kk xs ys) : nb < W.heap.size := heap_lt h.box
end Go.Proofs.YtjfofbgnppdlgaaDoor.Fp
