/- fastjson's parseArray, walked, where parseValue is known for less fuel. -/
import Derived.Test.YtjfofbgnppdlgaaDoorFpFine
import Derived.Maps.AppendAt
namespace Go.Proofs.YtjfofbgnppdlgaaDoor.Fp
open Go.RowKit Go.Proofs.YtjfofbgnppdlgaaDoorW.PrintWords Go.Proofs.YtjfofbgnppdlgaaDoorW.PrintLast Go.Proofs.YtjfofbgnppdlgaaDoorW.PrintMore
open Go.Proofs.YtjfofbgnppdlgaaDoor.FjW (cut cut_cut cut_size cut_bytes cut_zero cut_bt bt_out D rd_D rd_D0 D_drop D_len D_nil D_cons ws_at skipWS errNew)
set_option linter.unusedVariables false
set_option linter.unusedSimpArgs false

theorem infoP : ∃ i0 z, Tryd.prog.info? TP = some i0 ∧ i0.zero = some z ∧ z.cells.size = 1 ∧ i0.size = 1 ∧ i0.bytes = 8 := by
  have h : (Tryd.prog.info? TP).map (fun i => (i.zero.map (·.cells.size), i.size, i.bytes)) = some (some 1, 1, 8) := by kernel_rfl
  cases hi : Tryd.prog.info? TP with
  | none => rw [hi] at h; cases h
  | some i0 =>
    rw [hi] at h
    simp only [Option.map_some, Option.some.injEq, Prod.mk.injEq] at h
    cases hz : i0.zero with
    | none => rw [hz] at h; simp at h
    | some z => rw [hz] at h; exact ⟨i0, z, rfl, hz, Option.some.inj h.1, h.2.1, h.2.2⟩
/-- append(row, one), of a row that is the function's own. -/
theorem wp_push {ops : Array Oper} {rest : List Oper} {o : Oper} {a : Act} {Q : Exit → Act → World → Prop} (W : World) (lo m : Nat) (av : Value) (xs : List Value) (u : Value) (hu : u.oneCell' = true) (hR : W.ownsRow lo TP 1 av m xs) (hlo : lo ≤ W.heap.size) (hm : m ≤ 1000000) (hgd : o.guard = none) (s x : Operand)
    (ho : o.op = .call { callee := .builtin .append, args := #[s, x], argTypes := #[54, 54] }) (hs : a.eval s = av) (hx : a.eval x = .slice (some ⟨W.heap.size, 0, none⟩) 1 1)
    (h : ∀ v' w', w'.ownsRow lo TP 1 v' (m + 1) (xs ++ [u]) → (W.alloc (.cells #[u] TP)).grownBy w' av.ownBlock → (v'.ownBlock = av.ownBlock ∨ v'.ownBlock = some (W.heap.size + 1)) → wpList Tryd.prog ops Q rest (a.put o.dst v') w') :
    wpList Tryd.prog ops Q (o :: rest) a (W.alloc (.cells #[u] TP)) := by
  obtain ⟨i0, z, hi, hz, hzc, hsz, hby⟩ := infoP
  have hsize : (W.alloc (.cells #[u] TP)).heap.size = W.heap.size + 1 := by show (W.heap.push _).size = _; rw [Array.size_push]
  refine wpList_append_own_at (P := Tryd.prog) _ hgd s x _ ho lo TP i0 z 1 8 Tryd.underlying54 hi hz hsz hby hzc (by decide) av m xs hs (hR.alloc _) _ 1 1 [u] hx rfl (cell_one_new _ _ _) (fun y hy => by simp at hy; rw [hy]; exact hu) (by simp only [maxLen]; omega) (by omega) (by omega) fun v' w' h1 h2 _ h3 => h v' w' h1 h2 ?_
  rw [hsize] at h3
  exact h3
theorem row_shape {W : World} {lo e m : Nat} {v : Value} {xs : List Value} (h : W.ownsRow lo e 1 v (m + 1) xs) : ∃ g cap, v = .slice (some ⟨g, 0, none⟩) (m + 1) cap := by
  rcases h.2 with ⟨_, h0⟩ | ⟨g, cap, cur, rfl, _⟩
  · omega
  · exact ⟨g, cap, rfl⟩
/-- Behind the blanks. -/
def nx (s : ByteArray) (p : Nat) : Nat := p + Fj.ws (D s p)
theorem nx_ge (s : ByteArray) (p : Nat) : p ≤ nx s p := Nat.le_add_right _ _
theorem ws_stop : ∀ l : List Int, Fj.ws (l.drop (Fj.ws l)) = 0
  | [] => rfl
  | c :: r => by
    by_cases b : Fj.blank c = true
    · have e : Fj.ws (c :: r) = Fj.ws r + 1 := by rw [Fj.ws, if_pos b]
      rw [e]; exact ws_stop r
    · have e : Fj.ws (c :: r) = 0 := by rw [Fj.ws, if_neg b]
      rw [e, List.drop_zero, e]
theorem nx_nx (s : ByteArray) (p : Nat) : nx s (nx s p) = nx s p := by
  have h : Fj.ws (D s (nx s p)) = 0 := by
    have := ws_stop (D s p)
    rwa [D_drop] at this
  unfold nx at h ⊢
  rw [h]; rfl
theorem nx_le (s : ByteArray) (p : Nat) (h : p ≤ s.size) : nx s p ≤ s.size := by
  have := Fj.ws_le (D s p)
  rw [D_len] at this
  unfold nx; omega
def vP (a : ByteArray) (k d p : Nat) : Option (FV × Nat) := (pval k d (D a p)).map fun r => (r.1, p + r.2)
def eP (a : ByteArray) (k d p : Nat) : Option (List FV × Nat) := (pels k d (D a p)).map fun r => (r.1, p + r.2)
theorem eP_succ (a : ByteArray) (k d p : Nat) : eP a (k + 1) d p = match vP a k d (nx a p) with
    | none => none
    | some v => if bt a (nx a v.2 : Int) = 44 then (eP a k d (nx a v.2 + 1)).map fun t => (v.1 :: t.1, t.2) else if bt a (nx a v.2 : Int) = 93 then some ([v.1], nx a v.2 + 1) else none := by
  unfold eP vP
  rw [pels, D_drop]
  show Option.map _ (match pval k d (D a (nx a p)) with | none => none | some v => _) = _
  cases hv : pval k d (D a (nx a p)) with
  | none => rfl
  | some v =>
    simp only [Option.map_some]
    have e1 : p + (Fj.ws (D a p) + v.2) = nx a p + v.2 := by unfold nx; omega
    rw [D_drop, e1, rd_D, D_drop]
    obtain ⟨N, hN⟩ : ∃ N, Fj.ws (D a p) + v.2 + Fj.ws (D a (nx a p + v.2)) = N := ⟨_, rfl⟩
    have e2 : p + N = nx a (nx a p + v.2) := by rw [← hN]; unfold nx; omega
    rw [hN, e2, show p + (N + 1) = nx a (nx a p + v.2) + 1 by omega]
    by_cases c : bt a (nx a (nx a p + v.2) : Int) = 44
    · rw [if_pos c, if_pos c]
      cases pels k d (D a (nx a (nx a p + v.2) + 1)) with
      | none => rfl
      | some r => simp only [Option.map_some]; congr 2; omega
    · rw [if_neg c, if_neg c]
      by_cases c2 : bt a (nx a (nx a p + v.2) : Int) = 93
      · rw [if_pos c2, if_pos c2]; simp only [Option.map_some]; congr 2; omega
      · rw [if_neg c2, if_neg c2]; rfl
theorem eP_nx (a : ByteArray) (k d p : Nat) : eP a (k + 1) d (nx a p) = eP a (k + 1) d p := by rw [eP_succ, eP_succ, nx_nx]
/-- An array's rest, behind the bracket that opens it. -/
def arrO (a : ByteArray) (k d : Nat) : Option (FV × Nat) := if bt a (nx a 0 : Int) = 93 then some (.arr [], nx a 0 + 1) else (eP a k d 0).map fun r => (.arr r.1, r.2)
def Out (pb n : Nat) (bv v : Value) (w : World) (a : ByteArray) (x : Nat) (r : Option (FV × Nat)) (e : Ending) (w' : World) : Prop :=
  ∃ n' v', Fine pb n bv v w n' v' w' ∧ match r with
    | none => n' ≤ n + a.size + x ∧ ∃ t T u, e = .returned (.tuple #[.pointer none, .string t, .iface T u])
    | some r => n' ≤ n + r.2 + x ∧ r.2 ≤ a.size ∧ ∃ b o F, e = .returned (.tuple #[.pointer (some ⟨b, o, none⟩), .string (cut a r.2), .nilIface]) ∧ Rep w' F b o r.1 ∧ ∀ y, F y → New n v w y ∧ In pb n' v' w' y
theorem out_none {pb n : Nat} {bv v : Value} {w : World} {a : ByteArray} {x : Nat} {r : Option (FV × Nat)} {e : Ending} {w' : World} (h : r = none) (n' : Nat) (v' : Value) (hf : Fine pb n bv v w n' v' w') (hn : n' ≤ n + a.size + x) (t : ByteArray) (T : TypeId) (u : Value) (he : e = .returned (.tuple #[.pointer none, .string t, .iface T u])) : Out pb n bv v w a x r e w' := by
  subst h; exact ⟨n', v', hf, hn, t, T, u, he⟩
/-- parseValue, with at most k fuel. -/
def VC (P : List Int → Prop) (k : Nat) : Prop := ∀ (pb n : Nat) (bv v : Value) (w : World) (a : ByteArray) (d : Nat), Pb w pb bv v → Ca w pb n v → n + a.size ≤ 1000000 → 2 * a.size + 1 ≤ k → P (bytesOf a) → d ≤ 300 →
    Calls Tryd.prog 10 #[.pointer (some ⟨pb, 1, none⟩), .string a, .int .i64 (d : Int)] w fun e w' => Out pb n bv v w a 0 (pval k d (bytesOf a)) e w'
theorem skipTo (a b c : ByteArray) (p : Nat) (hs : a.size ≤ 1000000) (hb : b = cut a p) (hc : c = cut a (nx a p)) (w : World) :
    Calls Tryd.prog 8 #[.string b] w fun e w' => e = .returned (.string c) ∧ w = w' := by
  refine (skipWS b (by rw [hb, cut_size]; omega) w).mono fun e w' h => ⟨?_, h.2.symm⟩
  rw [h.1, hc, hb, cut_bytes]
  congr 2
  exact cut_cut a p (Fj.ws (D a p))
/-- The first byte of a part. -/
theorem first_bt (a b : ByteArray) (p : Nat) (hb : b = cut a p) : ∀ h : 0 < b.size, ((b[0]'h).toNat : Int) = bt a (p : Int) := fun h => by
  have h1 := bt_at b 0 h
  have h2 := cut_bt a p 0
  rw [← hb] at h2
  exact h1.trans h2
theorem cut_out {a b : ByteArray} {p : Nat} (hb : b = cut a p) (h : b.size = 0) : bt a (p : Int) = 0 := bt_out a p (by
  rw [hb, cut_size] at h; omega)
theorem pval_nil (k d : Nat) : pval k d [] = none := by
  cases k with
  | zero => rfl
  | succ k => rw [pval, if_pos rfl]
theorem vP_out {a b : ByteArray} {p : Nat} (hb : b = cut a p) (h : b.size = 0) (k d : Nat) : vP a k d p = none := by
  unfold vP
  rw [D_nil a p (by rw [hb, cut_size] at h; omega), pval_nil]; rfl
/-- The array as it is when its elements are about to be read. -/
theorem Arr.start {pb n b : Nat} {bv v v1 : Value} {w w1 : World} (h : Got pb n bv v w b v1 w1) : Arr pb n bv v w b (n + 1) v1 ((w1.setCell ⟨b, n * 5 + 4, none⟩ (.int .i64 2)).setCell ⟨b, n * 5 + 2, none⟩ nilS) (fun _ => False) nilS [] [] := by
  have hp := h.place
  have f1 := h.fine.set (hp 4 (by omega)).1 (hp 4 (by omega)).2 (.int .i64 2)
  have f2 := f1.set (hp 2 (by omega)).1 ((hp 2 (by omega)).2.set _) nilS
  obtain ⟨cur, hcur⟩ := h.blt
  have hz := h.zero
  have ho : ∀ i j, i ≠ j → ∀ (W : World) (u : Value), (W.setCell ⟨b, n * 5 + j, none⟩ u).cell? ⟨b, n * 5 + i, none⟩ = W.cell? ⟨b, n * 5 + i, none⟩ := fun i j hij W u => World.cell?_setCell_other _ _ _ _ (fun e => by injection e with _ e _; omega)
  refine ⟨f2, World.ownsRow_nil _ _ _ _, ⟨?_, ?_, ?_, ?_, ?_⟩, ⟨_, heap_set (heap_set hcur _) _⟩, fun i hi => ⟨(hp i hi).1, ((hp i hi).2.set _).set _⟩, .nil _, fun x hx => hx.elim⟩
  · exact ((ho 0 2 (by omega) _ _).trans (ho 0 4 (by omega) _ _)).trans (hz 0 (by omega))
  · exact ((ho 1 2 (by omega) _ _).trans (ho 1 4 (by omega) _ _)).trans (hz 1 (by omega))
  · exact World.cell?_setCell_same _ _ _ ((ho 2 4 (by omega) _ _).trans (hz 2 (by omega)))
  · exact ((ho 3 2 (by omega) _ _).trans (ho 3 4 (by omega) _ _)).trans (hz 3 (by omega))
  · exact (ho 4 2 (by omega) _ _).trans (World.cell?_setCell_same _ _ _ (hz 4 (by omega)))
theorem free_of {w : World} {b : Nat} (h : ∃ cur, w.heap[b]? = some (.cells cur TV (0, 0))) (j : Nat) : w.frozen? ⟨b, j, none⟩ = false := by
  obtain ⟨cur, h⟩ := h
  simp [World.frozen?, h]
theorem same_grown {w w' : World} (e1 : w'.heap = w.heap) (e2 : w'.os = w.os ∧ w'.tape = w.tape ∧ w'.output = w.output) : w.grownBy w' none := ⟨e2.1, e2.2.1, e2.2.2, by rw [e1]; exact Nat.le_refl _, fun k _ _ => by rw [e1]⟩
theorem Out.same {pb n : Nat} {bv v : Value} {w : World} {a : ByteArray} {x : Nat} {r : Option (FV × Nat)} {e : Ending} {w' w2 : World} (h : Out pb n bv v w a x r e w') (e1 : w2.heap = w'.heap) (e2 : w2.os = w'.os ∧ w2.tape = w'.tape ∧ w2.output = w'.output) : Out pb n bv v w a x r e w2 := by
  obtain ⟨n', v', hf, h⟩ := h
  have g := same_grown e1 e2
  refine ⟨n', v', hf.grown g (fun k e => by cases e), ?_⟩
  cases r with
  | none => exact h
  | some r =>
    obtain ⟨h1, h2, b, o, F, h3, h4, h5⟩ := h
    exact ⟨h1, h2, b, o, F, h3, h4.kept (grown_keep g fun y hy => ⟨(h5 y hy).2.2.1, fun e => by cases e⟩) fun _ hy => hy, fun y hy => ⟨(h5 y hy).1, (h5 y hy).2.grown g⟩⟩
theorem out_arr {pb n b nn : Nat} {bv v vv av : Value} {w W : World} {F : Addr → Prop} {ps : List (Nat × Nat)} {vs : List FV} {a t : ByteArray} {r : Option (FV × Nat)} {m : Nat} (h : Arr pb n bv v w b nn vv W F av ps vs) (hr : r = some (.arr vs, m)) (hn : nn ≤ n + m + 1) (hm : m ≤ a.size) (ht : t = cut a m) {e : Ending} (he : e = .returned (.tuple #[.pointer (some ⟨b, n * 5, none⟩), .string t, .nilIface])) : Out pb n bv v w a 1 r e W := by
  subst hr ht
  obtain ⟨G, h1, h2⟩ := h.rep
  exact ⟨nn, vv, h.fine, hn, hm, b, n * 5, G, he, h1, h2⟩
/-- The cell of the row, behind what a child and its laying leave. -/
theorem Arr.at3 {pb n b nn : Nat} {bv v vv av : Value} {w W W3 : World} {F : Addr → Prop} {ps : List (Nat × Nat)} {vs : List FV} (h : Arr pb n bv v w b nn vv W F av ps vs) {o : Obj} (hgr : (W.alloc o).grownBy W3 av.ownBlock) : W3.cell? ⟨b, n * 5 + 2, none⟩ = some av ∧ ∀ j, W3.frozen? ⟨b, j, none⟩ = false := by
  have g3 : W.grownBy W3 av.ownBlock := (World.grownBy_alloc W o _).trans hgr
  obtain ⟨cur, hcur⟩ := h.blk
  have hbr : some b ≠ av.ownBlock := fun e => by
    rcases h.own.2 with ⟨rfl, _⟩ | ⟨g', cap, cur', rfl, h1, h2, _⟩
    · cases e
    · simp only [Value.ownBlock, Option.some.injEq] at e
      subst e
      rw [hcur] at h2
      simp only [Option.some.injEq, Obj.cells.injEq] at h2
      exact absurd h2.2.1 (by decide)
  have e := g3.block b (heap_lt hcur) hbr
  exact ⟨(World.cell?_of_block e).trans h.cel.2.2.1, fun j => free_of ⟨cur, e.trans hcur⟩ j⟩
set_option maxHeartbeats 8000000 in
set_option maxRecDepth 100000 in
theorem arr (P : List Int → Prop) (hPd : ∀ l m, P l → P (l.drop m)) (k : Nat) (hV : ∀ j, j < k → VC P j) (pb n : Nat) (bv v : Value) (w : World) (a : ByteArray) (d : Nat) (hP : Pb w pb bv v) (hC : Ca w pb n v) (hn : n + a.size + 1 ≤ 1000000) (hk : 2 * a.size + 2 ≤ k) (ha : P (bytesOf a)) (hd : d ≤ 300) :
    Calls Tryd.prog 23 #[.pointer (some ⟨pb, 1, none⟩), .string a, .int .i64 (d : Int)] w fun e w' => Out pb n bv v w a 1 (arrO a k d) e w' := by
  obtain ⟨k, rfl⟩ : ∃ j, k = j + 1 := ⟨k - 1, by omega⟩
  have HP := Aside0.mk hP
  have HC := Aside0.mk hC
  have HV := Aside0.mk hV
  have HN := Aside0.mk hn
  have HK := Aside0.mk hk
  have HA := Aside0.mk ha
  have HD := Aside0.mk hd
  have HS : Aside0 (a.size ≤ 1000000) := ⟨by omega⟩
  have HN0 : Aside0 (n ≤ 1000000) := ⟨by omega⟩
  obtain ⟨b0, hb0⟩ : ∃ b, b = cut a (nx a 0) := ⟨_, rfl⟩
  have HB0 := Aside0.mk hb0
  have hx := first_bt a b0 _ hb0
  have HA0 : Aside0 (a = cut a 0) := ⟨(cut_zero a).symm⟩
  clear hP hC hV hn hk ha hd
  by_cases h0 : b0.size = 0
  · have HC1 : Aside0 (arrO a (k + 1) d = none) := ⟨by
      unfold arrO
      rw [if_neg (by rw [cut_out hb0 h0]; decide), eP_succ, vP_out hb0 h0]; rfl⟩
    have e0 : ((b0.size : Int) == 0) = true := beq_iff_eq.mpr (by omega)
    clear h0 hb0 hx
    go_enter Tryd.func23, Tryd.ntmps23
    go_wp2_with (first
      | (go_at_call 8; (with_reducible refine (skipTo a _ b0 0 HS.out HA0.out HB0.out _).mono ?_); rintro e w' ⟨rfl, rfl⟩)
      | (go_at_call 12; (with_reducible refine (errNew _ _).mono ?_); rintro e w' ⟨⟨T, u, rfl⟩, hb⟩))
    go_ret3
    exact out_none HC1.out n v ((Fine.refl HP.out HC.out).below hb) (by omega) _ T u rfl
  · have e0 : ((b0.size : Int) == 0) = false := beq_eq_false_iff_ne.mpr (by omega)
    have hz : 0 < b0.size := by omega
    have HSZ : Aside0 (nx a 0 + 1 ≤ a.size) := ⟨by rw [hb0, cut_size] at hz; omega⟩
    clear h0
    by_cases c : bt a (nx a 0 : Int) = 93
    · have HC1 : Aside0 (arrO a (k + 1) d = some (.arr [], nx a 0 + 1)) := ⟨by unfold arrO; rw [if_pos c]⟩
      have e1 : (bt a (nx a 0 : Int) == 93) = true := beq_iff_eq.mpr c
      have HX : Aside0 (b0.extract 1 b0.size = cut a (nx a 0 + 1)) := ⟨by rw [hb0]; exact cut_cut a _ 1⟩
      clear hb0 c
      go_enter Tryd.func23, Tryd.ntmps23
      go_wp2_with (first
        | (go_at_call 8; (with_reducible refine (skipTo a _ b0 0 HS.out HA0.out HB0.out _).mono ?_); rintro e w' ⟨rfl, rfl⟩)
        | (go_at_call 25; (with_reducible refine (getValue _ pb n bv v HP.out HC.out HN0.out).mono ?_); rintro e w1 ⟨b, v1, rfl, hg⟩; have HG := Aside0.mk hg; have hz4 := hg.zero 4 (by omega); have hz2 : ∀ u, (w1.setCell ⟨b, n * 5 + 4, none⟩ u).cell? ⟨b, n * 5 + 2, none⟩ = some nilS := (fun u => (World.cell?_setCell_other _ _ _ _ (fun e => by injection e with _ e _; omega)).trans (hg.zero 2 (by omega))); have hfr := free_of hg.blt; clear hg))
      go_quiet (fail)
      go_wp2
      go_ret3
      exact (out_arr (Arr.start HG.out) HC1.out (by omega) HSZ.out HX.out rfl).same rfl ⟨rfl, rfl, rfl⟩
    · have e1 : (bt a (nx a 0 : Int) == 93) = false := beq_eq_false_iff_ne.mpr c
      have HE : Aside0 (arrO a (k + 1) d = (eP a (k + 1) d (nx a 0)).map fun r => (.arr ([] ++ r.1), r.2)) := ⟨by unfold arrO; rw [if_neg c, eP_nx]; rfl⟩
      clear hb0 c
      go_enter Tryd.func23, Tryd.ntmps23
      go_wp2_with (first
        | (go_at_call 8; (with_reducible refine (skipTo a _ b0 0 HS.out HA0.out HB0.out _).mono ?_); rintro e w' ⟨rfl, rfl⟩)
        | (go_at_call 25; (with_reducible refine (getValue _ pb n bv v HP.out HC.out HN0.out).mono ?_); rintro e w1 ⟨b, v1, rfl, hg⟩; have HG := Aside0.mk hg; have hz4 := hg.zero 4 (by omega); have hz2 : ∀ u, (w1.setCell ⟨b, n * 5 + 4, none⟩ u).cell? ⟨b, n * 5 + 2, none⟩ = some nilS := (fun u => (World.cell?_setCell_other _ _ _ _ (fun e => by injection e with _ e _; omega)).trans (hg.zero 2 (by omega))); have hfr := free_of hg.blt; clear hg))
      go_loopg [1] (k + 1) (fun kk x1 wr => ∃ (c : ByteArray) (p nn : Nat) (vv : Value) (F : Addr → Prop) (av : Value) (ps : List (Nat × Nat)) (vs : List FV), x1 = .string c ∧ Aside0 (c = cut a p ∧ p ≤ a.size ∧ 2 * (a.size - p) + 2 ≤ kk ∧ kk ≤ k + 1 ∧ nn ≤ n + 1 + p ∧ ps.length ≤ p ∧ arrO a (k + 1) d = (eP a kk d p).map fun r => (.arr (vs ++ r.1), r.2)) ∧ Aside0 (Arr pb n bv v w b nn vv wr F av ps vs))
      case atStart => exact ⟨b0, nx a 0, n + 1, v1, _, _, _, _, rfl, ⟨HB0.out, by have := HSZ.out; omega, by have := HK.out; omega, Nat.le_refl _, by omega, Nat.zero_le _, HE.out⟩, ⟨Arr.start HG.out⟩⟩
      case round =>
        clear HE hx hz e1 e0 hz4 hz2 hfr
        obtain ⟨c, p, nn, vv, F, av, ps, vs, rfl, HR, HAr⟩ := hrel
        obtain ⟨kk, rfl⟩ : ∃ j, gk = j + 1 := ⟨gk - 1, by have := HR.out.2.2.1; omega⟩
        obtain ⟨q, hq⟩ : ∃ q, nx a p = q := ⟨_, rfl⟩
        have hpq : p ≤ q := by rw [← hq]; exact nx_ge a p
        have hqa : q ≤ a.size := by rw [← hq]; exact nx_le a p HR.out.2.1
        obtain ⟨c2, hc⟩ : ∃ c2, c2 = cut a q := ⟨_, rfl⟩
        have HCQ : Aside0 (c2 = cut a (nx a p)) := ⟨by rw [hq]; exact hc⟩
        have hcs : c2.size = a.size - q := by rw [hc]; exact cut_size a q
        have HPL : Aside0 (ps.length ≤ 1000000) := ⟨by have := HR.out.2.2.2.2.2.1; have := HR.out.2.1; have := HS.out; omega⟩
        have HVC : Aside0 (∀ W, Pb W pb bv vv → Ca W pb nn vv → Calls Tryd.prog 10 #[.pointer (some ⟨pb, 1, none⟩), .string c2, .int .i64 (d : Int)] W fun e w' => Out pb nn bv vv W c2 0 (pval kk d (bytesOf c2)) e w') := ⟨fun W h1 h2 => HV.out kk (by have := HR.out.2.2.2.1; omega) pb nn bv vv W c2 d h1 h2 (by have := HR.out.2.2.2.2.1; have := HN.out; omega) (by have := HR.out.2.2.1; omega) (by rw [hc, cut_bytes]; exact hPd _ _ HA.out) HD.out⟩
        have HE : Aside0 (arrO a (k + 1) d = (match (vP a kk d q : Option (FV × Nat)) with
          | none => none
          | some v => if bt a (nx a v.2 : Int) = 44 then (eP a kk d (nx a v.2 + 1)).map fun (t : List FV × Nat) => (v.1 :: t.1, t.2) else if bt a (nx a v.2 : Int) = 93 then some ([v.1], nx a v.2 + 1) else none : Option (List FV × Nat)).map fun r => (FV.arr (vs ++ r.1), r.2)) := ⟨by rw [HR.out.2.2.2.2.2.2, eP_succ, hq]; first | done | rfl⟩
        cases hv : pval kk d (bytesOf c2) with
        | none =>
          have HVV : Aside0 (pval kk d (bytesOf c2) = none) := ⟨hv⟩
          have HC1 : Aside0 (arrO a (k + 1) d = none) := ⟨by
            rw [HE.out]
            have : vP a kk d q = none := by unfold vP; rw [hc, cut_bytes] at hv; rw [hv]; rfl
            rw [this]; rfl⟩
          have HNN : Aside0 (nn + c2.size ≤ n + a.size + 1) := ⟨by have := HR.out.2.2.2.2.1; omega⟩
          clear hv hc hcs hpq hq hqa
          go_wp2_with (first
            | (go_at_call_of 8 c; (with_reducible refine (skipTo a _ c2 p HS.out HR.out.1 HCQ.out _).mono ?_); rintro e w' ⟨rfl, rfl⟩)
            | (go_at_call 10; (with_reducible refine (HVC.out _ HAr.out.fine.pbs HAr.out.fine.ca).mono ?_); rintro e w2 ⟨n2, v2, hf, h⟩; rw [HVV.out] at h; obtain ⟨hn2, t, T, u, rfl⟩ := h; have HF2 := Aside0.mk (HAr.out.child HC.out hf).fine; have HN2 := Aside0.mk hn2; clear hf hn2)
            | (go_at_call 12; (with_reducible refine (errNew _ _).mono ?_); rintro e w' ⟨⟨T, u, rfl⟩, hb⟩))
          go_ret3
          exact out_none HC1.out _ _ (HF2.out.below hb) (by have := HN2.out; have := HNN.out; omega) _ T u rfl
        | some r =>
          obtain ⟨fv, m⟩ := r
          have HVV : Aside0 (pval kk d (bytesOf c2) = some (fv, m)) := ⟨hv⟩
          have hvp : vP a kk d q = some (fv, q + m) := by unfold vP; rw [hc, cut_bytes] at hv; rw [hv]; rfl
          obtain ⟨dd, hd⟩ : ∃ d, d = cut a (q + m) := ⟨_, rfl⟩
          have HDV : Aside0 (cut c2 m = dd) := ⟨by rw [hc, hd]; exact cut_cut a q m⟩
          have HD0 := Aside0.mk hd
          obtain ⟨z, hzz⟩ : ∃ z, nx a (q + m) = z := ⟨_, rfl⟩
          have hrm : q + m ≤ z := by rw [← hzz]; exact nx_ge a _
          obtain ⟨f, hf⟩ : ∃ f, f = cut a z := ⟨_, rfl⟩
          have HFM : Aside0 (f = cut a (nx a (q + m))) := ⟨by rw [hzz]; exact hf⟩
          have HE2 : Aside0 (arrO a (k + 1) d = (if bt a (z : Int) = 44 then (eP a kk d (z + 1)).map fun (t : List FV × Nat) => (fv :: t.1, t.2) else if bt a (z : Int) = 93 then some ([fv], z + 1) else none : Option (List FV × Nat)).map fun r => (FV.arr (vs ++ r.1), r.2)) := ⟨by rw [HE.out, hvp]; simp only []; rw [hzz]⟩
          have hx := first_bt a f _ hf
          have HX : Aside0 (f.extract 1 f.size = cut a (z + 1)) := ⟨by rw [hf]; exact cut_cut a z 1⟩
          have HF0 := Aside0.mk hf
          have hfs : f.size = a.size - z := by rw [hf]; exact cut_size a z
          have HNE : Aside0 (2 * (a.size - (z + 1)) + 2 ≤ kk ∨ a.size ≤ z) := ⟨by have := HR.out.2.2.1; omega⟩
          have HNN : Aside0 (nn + m ≤ n + 1 + z ∧ ps.length ≤ z ∧ kk ≤ k + 1) := ⟨by have := HR.out.2.2.2.2.1; omega, by have := HR.out.2.2.2.2.2.1; omega, by have := HR.out.2.2.2.1; omega⟩
          have HZA0 : Aside0 (nn + c2.size ≤ n + a.size + 1) := ⟨by have := HR.out.2.2.2.2.1; omega⟩
          clear hv hvp hc hcs hpq hq hqa hd hzz hf HE hrm
          by_cases y : f.size = 0
          · have HC1 : Aside0 (arrO a (k + 1) d = none) := ⟨by rw [HE2.out, cut_out HF0.out y]; rfl⟩
            have e0 : ((f.size : Int) == 0) = true := beq_iff_eq.mpr (by omega)
            clear y hx hfs
            go_wp2_with (first
              | (go_at_call_of 8 c; (with_reducible refine (skipTo a _ c2 p HS.out HR.out.1 HCQ.out _).mono ?_); rintro e w' ⟨rfl, rfl⟩)
              | (go_at_call_of 8 dd; (with_reducible refine (skipTo a _ f (q + m) HS.out HD0.out HFM.out _).mono ?_); rintro e w' ⟨rfl, rfl⟩)
              | (go_at_call 10; (with_reducible refine (HVC.out _ HAr.out.fine.pbs HAr.out.fine.ca).mono ?_); rintro e w2 ⟨n2, v2, hf, h⟩; rw [HVV.out] at h; obtain ⟨hn2, hm2, b2, o2, G, rfl, hrep, hG⟩ := h; simp only [] at hrep hG hn2 hm2 ⊢; rw [HDV.out]; have HF2 := Aside0.mk hf; have HN2 := Aside0.mk hn2; have HM2 := Aside0.mk hm2; have HRP := Aside0.mk hrep; have HGG := Aside0.mk hG; have HA2 := Aside0.mk (HAr.out.child HC.out hf); clear hf hn2 hm2 hrep hG; have hc2 := HA2.out.cel.2.2.1)
              | (at_builtin; refine wp_push _ w.heap.size ps.length av (ps.map ptr) (.pointer (some ⟨b2, o2, none⟩)) rfl HA2.out.own HA2.out.fine.step.size HPL.out rfl _ _ rfl rfl rfl ?_; intro av' w3 k1 k2 k3; obtain ⟨ga, ca, rfl⟩ := row_shape k1; have HA3 := Aside0.mk (HAr.out.push (p := (b2, o2)) HC.out HF2.out HRP.out HGG.out _ k1 k2 k3); have hc3 := (HA2.out.at3 k2).1; have hf3 := (HA2.out.at3 k2).2; clear k1 k2 k3 hc2)
              | (go_at_call 12; (with_reducible refine (errNew _ _).mono ?_); rintro e w' ⟨⟨T, u, rfl⟩, hb⟩))
            go_ret3
            exact out_none HC1.out _ _ (HA3.out.fine.below hb) (by have := HN2.out; have := HM2.out; have := HZA0.out; omega) _ T u rfl
          · have e0 : ((f.size : Int) == 0) = false := beq_eq_false_iff_ne.mpr (by omega)
            have hz : 0 < f.size := by omega
            have HZA : Aside0 (z + 1 ≤ a.size) := ⟨by omega⟩
            have HNE2 : Aside0 (2 * (a.size - (z + 1)) + 2 ≤ kk) := ⟨by have := HNE.out; omega⟩
            clear y hfs
            by_cases c1 : bt a (z : Int) = 44
            · have e1 : (bt a (z : Int) == 44) = true := beq_iff_eq.mpr c1
              have HC1 : Aside0 (arrO a (k + 1) d = (eP a kk d (z + 1)).map fun r => (.arr ((vs ++ [fv]) ++ r.1), r.2)) := ⟨by rw [HE2.out, if_pos c1, Option.map_map]; congr 1; funext r; simp⟩
              clear c1
              go_wp2_with (first
                | (go_at_call_of 8 c; (with_reducible refine (skipTo a _ c2 p HS.out HR.out.1 HCQ.out _).mono ?_); rintro e w' ⟨rfl, rfl⟩)
                | (go_at_call_of 8 dd; (with_reducible refine (skipTo a _ f (q + m) HS.out HD0.out HFM.out _).mono ?_); rintro e w' ⟨rfl, rfl⟩)
                | (go_at_call 10; (with_reducible refine (HVC.out _ HAr.out.fine.pbs HAr.out.fine.ca).mono ?_); rintro e w2 ⟨n2, v2, hf, h⟩; rw [HVV.out] at h; obtain ⟨hn2, hm2, b2, o2, G, rfl, hrep, hG⟩ := h; simp only [] at hrep hG hn2 hm2 ⊢; rw [HDV.out]; have HF2 := Aside0.mk hf; have HN2 := Aside0.mk hn2; have HM2 := Aside0.mk hm2; have HRP := Aside0.mk hrep; have HGG := Aside0.mk hG; have HA2 := Aside0.mk (HAr.out.child HC.out hf); clear hf hn2 hm2 hrep hG; have hc2 := HA2.out.cel.2.2.1)
                | (at_builtin; refine wp_push _ w.heap.size ps.length av (ps.map ptr) (.pointer (some ⟨b2, o2, none⟩)) rfl HA2.out.own HA2.out.fine.step.size HPL.out rfl _ _ rfl rfl rfl ?_; intro av' w3 k1 k2 k3; obtain ⟨ga, ca, rfl⟩ := row_shape k1; have HA3 := Aside0.mk (HAr.out.push (p := (b2, o2)) HC.out HF2.out HRP.out HGG.out _ k1 k2 k3); have hc3 := (HA2.out.at3 k2).1; have hf3 := (HA2.out.at3 k2).2; clear k1 k2 k3 hc2))
              go_roundg kk
              case measure => omega
              case rel => exact ⟨_, z + 1, n2, v2, _, _, _, _, rfl, ⟨HX.out, HZA.out, HNE2.out, HNN.out.2.2, by have := HN2.out; have := HNN.out.1; omega, by have := HNN.out.2.1; simp; omega, HC1.out⟩, HA3⟩
            · have e1 : (bt a (z : Int) == 44) = false := beq_eq_false_iff_ne.mpr c1
              by_cases c2 : bt a (z : Int) = 93
              · have e2 : (bt a (z : Int) == 93) = true := beq_iff_eq.mpr c2
                have HC1 : Aside0 (arrO a (k + 1) d = some (.arr (vs ++ [fv]), z + 1)) := ⟨by rw [HE2.out, if_neg c1, if_pos c2]; rfl⟩
                clear c1 c2
                go_wp2_with (first
                  | (go_at_call_of 8 c; (with_reducible refine (skipTo a _ c2 p HS.out HR.out.1 HCQ.out _).mono ?_); rintro e w' ⟨rfl, rfl⟩)
                  | (go_at_call_of 8 dd; (with_reducible refine (skipTo a _ f (q + m) HS.out HD0.out HFM.out _).mono ?_); rintro e w' ⟨rfl, rfl⟩)
                  | (go_at_call 10; (with_reducible refine (HVC.out _ HAr.out.fine.pbs HAr.out.fine.ca).mono ?_); rintro e w2 ⟨n2, v2, hf, h⟩; rw [HVV.out] at h; obtain ⟨hn2, hm2, b2, o2, G, rfl, hrep, hG⟩ := h; simp only [] at hrep hG hn2 hm2 ⊢; rw [HDV.out]; have HF2 := Aside0.mk hf; have HN2 := Aside0.mk hn2; have HM2 := Aside0.mk hm2; have HRP := Aside0.mk hrep; have HGG := Aside0.mk hG; have HA2 := Aside0.mk (HAr.out.child HC.out hf); clear hf hn2 hm2 hrep hG; have hc2 := HA2.out.cel.2.2.1)
                  | (at_builtin; refine wp_push _ w.heap.size ps.length av (ps.map ptr) (.pointer (some ⟨b2, o2, none⟩)) rfl HA2.out.own HA2.out.fine.step.size HPL.out rfl _ _ rfl rfl rfl ?_; intro av' w3 k1 k2 k3; obtain ⟨ga, ca, rfl⟩ := row_shape k1; have HA3 := Aside0.mk (HAr.out.push (p := (b2, o2)) HC.out HF2.out HRP.out HGG.out _ k1 k2 k3); have hc3 := (HA2.out.at3 k2).1; have hf3 := (HA2.out.at3 k2).2; clear k1 k2 k3 hc2))
                go_ret3
                exact out_arr HA3.out HC1.out (by have := HN2.out; have := HNN.out.1; omega) HZA.out HX.out rfl
              · have e2 : (bt a (z : Int) == 93) = false := beq_eq_false_iff_ne.mpr c2
                have HC1 : Aside0 (arrO a (k + 1) d = none) := ⟨by rw [HE2.out, if_neg c1, if_neg c2]; rfl⟩
                clear c1 c2
                go_wp2_with (first
                  | (go_at_call_of 8 c; (with_reducible refine (skipTo a _ c2 p HS.out HR.out.1 HCQ.out _).mono ?_); rintro e w' ⟨rfl, rfl⟩)
                  | (go_at_call_of 8 dd; (with_reducible refine (skipTo a _ f (q + m) HS.out HD0.out HFM.out _).mono ?_); rintro e w' ⟨rfl, rfl⟩)
                  | (go_at_call 10; (with_reducible refine (HVC.out _ HAr.out.fine.pbs HAr.out.fine.ca).mono ?_); rintro e w2 ⟨n2, v2, hf, h⟩; rw [HVV.out] at h; obtain ⟨hn2, hm2, b2, o2, G, rfl, hrep, hG⟩ := h; simp only [] at hrep hG hn2 hm2 ⊢; rw [HDV.out]; have HF2 := Aside0.mk hf; have HN2 := Aside0.mk hn2; have HM2 := Aside0.mk hm2; have HRP := Aside0.mk hrep; have HGG := Aside0.mk hG; have HA2 := Aside0.mk (HAr.out.child HC.out hf); clear hf hn2 hm2 hrep hG; have hc2 := HA2.out.cel.2.2.1)
                  | (at_builtin; refine wp_push _ w.heap.size ps.length av (ps.map ptr) (.pointer (some ⟨b2, o2, none⟩)) rfl HA2.out.own HA2.out.fine.step.size HPL.out rfl _ _ rfl rfl rfl ?_; intro av' w3 k1 k2 k3; obtain ⟨ga, ca, rfl⟩ := row_shape k1; have HA3 := Aside0.mk (HAr.out.push (p := (b2, o2)) HC.out HF2.out HRP.out HGG.out _ k1 k2 k3); have hc3 := (HA2.out.at3 k2).1; have hf3 := (HA2.out.at3 k2).2; clear k1 k2 k3 hc2)
                  | (go_at_call 12; (with_reducible refine (errNew _ _).mono ?_); rintro e w' ⟨⟨T, u, rfl⟩, hb⟩))
                go_ret3
                exact out_none HC1.out _ _ (HA3.out.fine.below hb) (by have := HN2.out; have := HNN.out.1; have := HZA.out; omega) _ T u rfl
end Go.Proofs.YtjfofbgnppdlgaaDoor.Fp
