/- impl's fjObject, fjNodes and fjNode of every value. -/
import Derived.Test.YtjfofbgnppdlgaaDoorFpNodes3
namespace Go.Proofs.YtjfofbgnppdlgaaDoor.Fp
open Go.RowKit Go.Proofs.YtjfofbgnppdlgaaDoorW.PrintWords Go.Proofs.YtjfofbgnppdlgaaDoorW.PrintLast Go.Proofs.YtjfofbgnppdlgaaDoorW.PrintMore
open Go.Proofs.YtjfofbgnppdlgaaDoor.FjW (cut cut_cut cut_size cut_bytes cut_zero cut_bt bt_out D rd_D rd_D0 D_drop D_len D_nil D_cons ws_at skipWS errNew ixOf ixCall ix_or)
set_option linter.unusedVariables false
set_option linter.unusedSimpArgs false

/-- append(nodes, one). -/
theorem wp_node2 {ops : Array Oper} {rest : List Oper} {o : Oper} {a : Act} {Q : Exit → Act → World → Prop} (W : World) (lo m : Nat) (av : Value) (xs : List Value) (k : Int) (t : ByteArray) (A0 : Option Addr) (m0 c0 : Nat) (A : Option Addr) (n c : Nat) (hR : W.ownsRow lo TN 4 av m xs) (hlo : lo ≤ W.heap.size) (hm : m ≤ 1000000) (hgd : o.guard = none) (s x : Operand)
    (ho : o.op = .call { callee := .builtin .append, args := #[s, x], argTypes := #[24, 24] }) (hs : a.eval s = av) (hx : a.eval x = .slice (some ⟨W.heap.size, 0, none⟩) 1 1)
    (h : ∀ A' c' xs' w', w'.ownsRow lo TN 4 (.slice A' (m + 1) c') (m + 1) xs' → Below lo W w' → wpList Tryd.prog ops Q rest (a.put o.dst (.slice A' (m + 1) c')) w') :
    wpList Tryd.prog ops Q (o :: rest) a (W.alloc (.cells #[.int .i64 k, .string t, .slice A0 m0 c0, .slice A n c] TN)) := by
  obtain ⟨i0, z, hi, hz, hzc, hsz, hby⟩ := infoN
  have hnew : ∀ j v, [Value.int .i64 k, .string t, .slice A0 m0 c0, .slice A n c][j]? = some v → (W.alloc (.cells #[.int .i64 k, .string t, .slice A0 m0 c0, .slice A n c] TN)).cell? ((⟨W.heap.size, 0, none⟩ : Addr).add j) = some v := fun j v hj => by
    rw [add_plain, World.cell?_alloc_new]
    simpa using hj
  have hlo' : lo ≤ (W.alloc (.cells #[.int .i64 k, .string t, .slice A0 m0 c0, .slice A n c] TN)).heap.size := by show lo ≤ (W.heap.push _).size; rw [Array.size_push]; omega
  refine wpList_append_own_at (P := Tryd.prog) _ hgd s x _ ho lo TN i0 z 4 72 Tryd.underlying24 hi hz hsz hby hzc (by decide) av m xs hs (hR.alloc _) _ 1 1 _ hx rfl hnew (fun y hy => ?_) (by simp only [maxLen]; omega) (by omega) hlo' fun v' w' h1 h2 _ _ => ?_
  · simp only [List.mem_cons, List.not_mem_nil, or_false] at hy
    rcases hy with rfl | rfl | rfl | rfl <;> rfl
  · rcases h1.2 with ⟨_, h0⟩ | ⟨g, cap, cur, rfl, _⟩
    · omega
    · refine h _ _ _ w' h1 (((Below.refl lo W).alloc hlo _).grown h2 hlo' fun k hk => (hR.lt k hk).1)
abbrev n6 : Array Value := #[.int .i64 6, emptyS, nilS, nilS]
theorem FrL.block {lo : Nat} {w w' : World} {F : Addr → Prop} (g : FrL lo w w' F) {k : Nat} (hk : k < lo) (hF : ∀ x, F x → x.block ≠ k) {ob : Obj} (e : w.heap[k]? = some ob) : w'.heap[k]? = some ob := by
  cases ob with
  | cells cur T fz =>
    obtain ⟨c, a1, a2, a3⟩ := g.typ k cur T fz hk e
    rw [a1]
    congr 2
    exact Array.ext_getElem? fun j => a3 j fun x => hF _ x rfl
  | _ => exact g.oth k _ hk e (fun cur T fz hh => by cases hh)
/-- The world in which Visit is called. -/
theorem start_obj (w : World) : Bx ((w.alloc (.cells n0 TN)).alloc (.cells n6 TN)) (w.heap.size + 1) 0 0 nilS nilS [] [] ∧ Below w.heap.size w ((w.alloc (.cells n0 TN)).alloc (.cells n6 TN)) ∧ ((w.alloc (.cells n0 TN)).alloc (.cells n6 TN)).heap[w.heap.size]? = some (.cells n0 TN (0, 0)) := by
  have h1 := heap_alloc_new (w.alloc (.cells n0 TN)) (.cells n6 TN)
  rw [alloc_size] at h1
  have h2 : ((w.alloc (.cells n0 TN)).alloc (.cells n6 TN)).heap[w.heap.size]? = some (.cells n0 TN (0, 0)) := (heap_alloc_old _ _ (by rw [alloc_size]; omega)).trans (heap_alloc_new w _)
  exact ⟨⟨h1, World.ownsRow_nil _ _ _ _, World.ownsRow_nil _ _ _ _⟩, ((Below.refl _ _).alloc (Nat.le_refl _) _).alloc (by rw [alloc_size]; omega) _, h2⟩
/-- Four cells of the result's block are written behind. -/
theorem fr_result {w w5 : World} {F : Addr → Prop} (h : Fr w w5 F) (a0 a1 a2 a3 : Value) : Fr w ((((w5.setCell ⟨w.heap.size, 0, none⟩ a0).setCell ⟨w.heap.size, 1, none⟩ a1).setCell ⟨w.heap.size, 2, none⟩ a2).setCell ⟨w.heap.size, 3, none⟩ a3) F := by
  refine FrL.toFr (lo := w.heap.size) ((h.toL _).bel ?_) (Nat.le_refl _)
  exact below_set (below_set (below_set (below_set (Below.refl _ _) (Nat.le_refl _) _) (Nat.le_refl _) _) (Nat.le_refl _) _) (Nat.le_refl _) _
set_option maxHeartbeats 8000000 in
set_option maxRecDepth 100000 in
theorem object (U : ByteArray → ByteArray) (ms : List (List Int × FV)) (w : World) (F Fk : Addr → Prop) (b o : Nat) (kv : Value) (ps : List (Nat × Nat)) (hb : ∃ cur, w.heap[b]? = some (.cells cur TV (0, 0))) (h0 : w.cell? ⟨b, o, none⟩ = some kv) (h1 : w.cell? ⟨b, o + 1, none⟩ = some (.bool false)) (hk : KvIs w F kv (ms.map Prod.fst) ps) (hR : Reps w Fk ps (ms.map Prod.snd))
    (ha : ∀ x, Fk x → F x ∧ some x.block ≠ kv.ownBlock ∧ ∀ i, i < 5 → (⟨b, o + i, none⟩ : Addr) ≠ x) (hF : Pl w F) (hown : ∀ x, Own b o kv x → F x) (hU : ∀ m, m ∈ ms → UC U (strOfNums m.1)) (hN : ∀ m, m ∈ ms → NodeF m.2) (hl : ms.length ≤ 999999) :
    Calls Tryd.prog 14 #[.pointer (some ⟨b, o, none⟩)] w fun e w' => NodeSaid e ∧ Fr w w' F := by
  have HVIS : Aside0 (∀ W, Below w.heap.size w W → Bx W (w.heap.size + 1) 0 0 nilS nilS [] [] → Calls Tryd.prog 29 #[.pointer (some ⟨b, o, none⟩), .func (.func 30) #[] #[.pointer (some ⟨w.heap.size + 1, 0, none⟩)]] W fun e w' => e = .returned (.tuple #[]) ∧ (∃ kv' kk xs ys, Bx w' (w.heap.size + 1) ps.length ps.length kv' kk xs ys) ∧ FrL (w.heap.size + 1) W w' F) := ⟨fun W hW hB => by
    have hkp : Keep w W F := below_keep hW hF
    refine visit U ms W (w.heap.size + 1) F Fk b o kv ps ?_ (pw_cell_below hW h0) (pw_cell_below hW h1) (hk.kept hkp fun _ h => h) (hR.kept (hkp.sub fun x hx => (ha x hx).1) fun _ h => h) ha (fun x hx => ⟨(hF x hx).1, Nat.lt_succ_of_lt (hF x hx).2⟩) hown hU hN hB hl
    obtain ⟨cur, e⟩ := hb
    exact ⟨cur, (hW.block b (heap_lt e)).trans e⟩⟩
  have HSO := Aside0.mk (start_obj w)
  have HF := Aside0.mk hF
  clear hb h0 h1 hk hR ha hF hown hU hN hl
  go_enter Tryd.func14, Tryd.ntmps14
  go_wp2_with (first | (go_at_call 29; (with_reducible refine (HVIS.out _ HSO.out.2.1 HSO.out.1).mono ?_); rintro e w5 ⟨rfl, ⟨kv', kk', xs', ys', hbx⟩, hfr⟩; obtain ⟨A0, m0, rfl⟩ := own_slice hbx.keys; obtain ⟨A1, m1, rfl⟩ := own_slice hbx.kids; have HX5 := Aside0.mk hbx; have HS5 := Aside0.mk (hfr.block (Nat.lt_succ_self _) (fun x hx => by have := (HF.out x hx).2; omega) HSO.out.2.2); have HF5 := Aside0.mk (FrL.toFr (lo := w.heap.size) (((FrL.refl _ w F).bel HSO.out.2.1).trans (hfr.mono (fun _ h => h) (Nat.le_succ _))) (Nat.le_refl _)); obtain ⟨g0, g1, g2, g3, gf⟩ := cells4 HS5.out; obtain ⟨q0, q1, q2, q3, qf⟩ := cells4 HX5.out.box; clear hbx hfr))
  (try simp only [Exit.inBlock, Exit.then])
  refine bodyPost_ret (results_single rfl (.cell w.heap.size TN #[.int .i64 6, emptyS, .slice A0 ps.length m0, .slice A1 ps.length m1] (0, 0) _ rfl (set4 HS5.out _ _ _ _) Tryd.underlying26 rfl sizeN .nil)) rfl ?_
  exact ⟨⟨_, _, _, _, _, _, _, _, rfl⟩, fr_result HF5.out _ _ _ _⟩
end Go.Proofs.YtjfofbgnppdlgaaDoor.Fp
