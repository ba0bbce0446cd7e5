/- fastjson's values read out: Type, Get, GetArray, MarshalTo of a number; rows of impl's Nodes. -/
import Derived.Test.YtjfofbgnppdlgaaDoorFpVal
import Derived.Test.YtjfofbgnppdlgaaDoorOwnRow
namespace Go.Proofs.YtjfofbgnppdlgaaDoor.Fp
open Go.RowKit Go.Proofs.YtjfofbgnppdlgaaDoorW.PrintWords Go.Proofs.YtjfofbgnppdlgaaDoorW.PrintLast Go.Proofs.YtjfofbgnppdlgaaDoorW.PrintMore
open Go.Proofs.YtjfofbgnppdlgaaDoor.FjW (cut cut_cut cut_size cut_bytes cut_zero cut_bt bt_out D rd_D rd_D0 D_drop D_len D_nil D_cons ws_at skipWS errNew)
set_option linter.unusedVariables false
set_option linter.unusedSimpArgs false

theorem typeOf (w : World) (b o : Nat) (t : Int) (ht : t ≠ 7) (h : w.cell? ⟨b, o + 4, none⟩ = some (.int .i64 t)) :
    Calls Tryd.prog 13 #[.pointer (some ⟨b, o, none⟩)] w fun e w' => e = .returned (.int .i64 t) ∧ w = w' := by
  have e1 : (t == 7) = false := beq_eq_false_iff_ne.mpr ht
  go_enter Tryd.func13, Tryd.ntmps13
  go_wp2
  go_ret
  exact ⟨rfl, rfl⟩
theorem get0 (w : World) (b o : Nat) :
    Calls Tryd.prog 31 #[.pointer (some ⟨b, o, none⟩), .slice none 0 0] w fun e w' => e = .returned (.pointer (some ⟨b, o, none⟩)) ∧ w = w' := by
  go_enter Tryd.func31, Tryd.ntmps31
  go_wp2
  go_loop [0, 13] (fun v0 v => v0 = .pointer (some ⟨b, o, none⟩) ∧ v = .int .i64 0) (fun _ _ => 0)
  case atStart => exact ⟨rfl, rfl⟩
  case round =>
    obtain ⟨rfl, rfl⟩ := hrel
    go_wp2
    go_ret
    exact ⟨rfl, rfl⟩
theorem getArr (w : World) (b o : Nat) (av : Value) (hs : ∃ A n c, av = .slice A n c) (h4 : w.cell? ⟨b, o + 4, none⟩ = some (.int .i64 2)) (h2 : w.cell? ⟨b, o + 2, none⟩ = some av) :
    Calls Tryd.prog 17 #[.pointer (some ⟨b, o, none⟩), .slice none 0 0] w fun e w' => e = .returned av ∧ w = w' := by
  obtain ⟨A, n, c, rfl⟩ := hs
  go_enter Tryd.func17, Tryd.ntmps17
  go_wp2_with (first | (go_at_call 31; (with_reducible refine (get0 _ b o).mono ?_); rintro e w' ⟨rfl, rfl⟩))
  go_ret
  exact ⟨rfl, rfl⟩
theorem strCells_nums (s : ByteArray) : Lib.strCells s = nums .u8 (bytesOf s) := by
  unfold Lib.strCells nums bytesOf
  rw [List.map_map]; rfl
theorem info8 : ∃ i0, Tryd.prog.info? 5 = some i0 ∧ i0.zero = some (.int .u8 0) ∧ i0.size = 1 ∧ i0.bytes = 1 := by
  have h : (Tryd.prog.info? 5).map (fun i => (i.zero, i.size, i.bytes)) = some (some (.int .u8 0), 1, 1) := by kernel_rfl
  cases hi : Tryd.prog.info? 5 with
  | none => rw [hi] at h; cases h
  | some i0 =>
    rw [hi] at h
    simp only [Option.map_some, Option.some.injEq, Prod.mk.injEq] at h
    exact ⟨i0, rfl, h.1, h.2.1, h.2.2⟩
theorem conv_own {W : World} {lo n : Nat} {v : Value} {s : ByteArray} (h : W.ownsRow lo 5 1 v n (Lib.strCells s)) : ∃ A c, v = .slice A n c ∧ (convert 30 9 (.slice A n c)).run Tryd.prog W = .ok (.string s) W := by
  rw [strCells_nums] at h
  obtain ⟨A, c, rfl, hr⟩ := own_reads h
  refine ⟨A, c, rfl, ?_⟩
  have := string_of_reads (P := Tryd.prog) Tryd.underlying30 Tryd.underlying5 Tryd.underlying9 (c := c) hr
  rw [XWords.strOfNums_bytesOf] at this
  exact this
/-- append(nil, text...). -/
theorem wp_bytes {ops : Array Oper} {rest : List Oper} {o : Oper} {a : Act} {Q : Exit → Act → World → Prop} (W : World) (x : ByteArray) (hx : x.size ≤ 1000000) (hgd : o.guard = none) (sl y : Operand)
    (ho : o.op = .call { callee := .builtin .append, args := #[sl, y], argTypes := #[30, 9] }) (hs : a.eval sl = nilS) (hy : a.eval y = .string x)
    (h : ∀ A c w', w'.ownsRow W.heap.size 5 1 (.slice A x.size c) x.size (Lib.strCells x) → (convert 30 9 (.slice A x.size c)).run Tryd.prog w' = .ok (.string x) w' → Below W.heap.size W w' → wpList Tryd.prog ops Q rest (a.put o.dst (.slice A x.size c)) w') :
    wpList Tryd.prog ops Q (o :: rest) a W := by
  obtain ⟨i0, hi, hz, hsz, hby⟩ := info8
  refine Lib.wpList_append_own_string (P := Tryd.prog) W hgd sl y _ _ ho W.heap.size 5 i0 Tryd.underlying30 Tryd.underlying9 hi hz hsz hby nilS 0 [] hs (World.ownsRow_nil _ _ _ _) x hy (by simp only [maxLen]; omega) (by omega) (Nat.le_refl _) fun v' w' h1 h2 _ => ?_
  rw [Nat.zero_add, List.nil_append] at h1
  obtain ⟨A, c, rfl, hc⟩ := conv_own h1
  exact h A c w' h1 hc ⟨h2.os, h2.tape, h2.output, h2.size, fun k hk => h2.block k hk (by simp [Value.ownBlock])⟩
theorem marshalNum (w : World) (b o : Nat) (x : ByteArray) (hx : x.size ≤ 1000000) (h4 : w.cell? ⟨b, o + 4, none⟩ = some (.int .i64 4)) (h3 : w.cell? ⟨b, o + 3, none⟩ = some (.string x)) :
    Calls Tryd.prog 19 #[.pointer (some ⟨b, o, none⟩), .slice none 0 0] w fun e w' => ∃ A n c, e = .returned (.slice A n c) ∧ (convert 30 9 (.slice A n c)).run Tryd.prog w' = .ok (.string x) w' ∧ Below w.heap.size w w' := by
  have HX := Aside0.mk hx
  go_enter Tryd.func19, Tryd.ntmps19
  go_wp2_with (at_builtin; refine wp_bytes _ x HX.out rfl _ _ rfl rfl rfl ?_; intro A c w1 k1 k2 k3; have K2 := Aside0.mk k2; have K3 := Aside0.mk k3; clear k1 k2 k3)
  go_ret
  exact ⟨_, _, _, rfl, K2.out, K3.out⟩
abbrev TN : TypeId := 26
abbrev n0 : Array Value := #[.int .i64 0, .string ⟨#[]⟩, nilS, nilS]
theorem alloc_cell {w : World} {b o : Nat} {v : Value} (h : w.cell? ⟨b, o, none⟩ = some v) (ob : Obj) : (w.alloc ob).cell? ⟨b, o, none⟩ = some v := by
  refine (World.cell?_alloc_lt w ob _ ?_).trans h
  refine Nat.lt_of_not_le fun hle => ?_
  simp only at hle
  simp [World.cell?, Array.getElem?_eq_none hle] at h
theorem alloc_size (w : World) (o : Obj) : (w.alloc o).heap.size = w.heap.size + 1 := by show (w.heap.push _).size = _; rw [Array.size_push]
theorem keep_new {w w2 : World} {ob : Obj} (h : Below (w.alloc ob).heap.size (w.alloc ob) w2) : w2.heap[w.heap.size]? = some ob :=
  (h.block _ (by show _ < (w.heap.push _).size; rw [Array.size_push]; omega)).trans (heap_alloc_new w ob)
theorem below_new {w w2 : World} {ob : Obj} (h : Below (w.alloc ob).heap.size (w.alloc ob) w2) : Below w.heap.size w w2 := (below_alloc (Below.refl _ _) ob).trans (h.mono (by show _ ≤ (w.heap.push _).size; rw [Array.size_push]; omega))
theorem cells4 {w : World} {g : Nat} {c0 c1 c2 c3 : Value} (h : w.heap[g]? = some (.cells #[c0, c1, c2, c3] TN (0, 0))) : w.cell? ⟨g, 0, none⟩ = some c0 ∧ w.cell? ⟨g, 1, none⟩ = some c1 ∧ w.cell? ⟨g, 2, none⟩ = some c2 ∧ w.cell? ⟨g, 3, none⟩ = some c3 ∧ ∀ j, w.frozen? ⟨g, j, none⟩ = false := by
  refine ⟨?_, ?_, ?_, ?_, fun j => ?_⟩ <;> simp [World.cell?, World.frozen?, h]
theorem infoN : ∃ i0 z, Tryd.prog.info? TN = some i0 ∧ i0.zero = some z ∧ z.cells.size = 4 ∧ i0.size = 4 ∧ i0.bytes = 72 := by
  have h : (Tryd.prog.info? TN).map (fun i => (i.zero.map (·.cells.size), i.size, i.bytes)) = some (some 4, 4, 72) := by kernel_rfl
  cases hi : Tryd.prog.info? TN with
  | none => rw [hi] at h; cases h
  | some i0 =>
    rw [hi] at h
    simp only [Option.map_some, Option.some.injEq, Prod.mk.injEq] at h
    cases hz : i0.zero with
    | none => rw [hz] at h; simp at h
    | some z => rw [hz] at h; exact ⟨i0, z, rfl, hz, Option.some.inj h.1, h.2.1, h.2.2⟩
theorem sizeN : (Tryd.prog.info? TN).map (·.size) = some 4 := by
  obtain ⟨i0, z, h, _, _, h4, _⟩ := infoN
  rw [h]; simp [h4]
theorem set4 {w2 : World} {g : Nat} {c0 c1 c2 c3 : Value} (h : w2.heap[g]? = some (.cells #[c0, c1, c2, c3] TN (0, 0))) (a0 a1 a2 a3 : Value) :
    ((((w2.setCell ⟨g, 0, none⟩ a0).setCell ⟨g, 1, none⟩ a1).setCell ⟨g, 2, none⟩ a2).setCell ⟨g, 3, none⟩ a3).heap[g]? = some (.cells #[a0, a1, a2, a3] TN (0, 0)) := heap_set (heap_set (heap_set (heap_set h a0) a1) a2) a3
theorem below4 {w w2 : World} {g : Nat} (hg : w.heap.size ≤ g) (h : Below w.heap.size w w2) (a0 a1 a2 a3 : Value) :
    Below w.heap.size w ((((w2.setCell ⟨g, 0, none⟩ a0).setCell ⟨g, 1, none⟩ a1).setCell ⟨g, 2, none⟩ a2).setCell ⟨g, 3, none⟩ a3) := (((h.setCell (p := ⟨g, 0, none⟩) hg a0).setCell (p := ⟨g, 1, none⟩) hg a1).setCell (p := ⟨g, 2, none⟩) hg a2).setCell (p := ⟨g, 3, none⟩) hg a3
def NodeSaid (e : Ending) : Prop := ∃ k t A0 m0 c0 A n c, e = .returned (.agg #[.int .i64 k, .string t, .slice A0 m0 c0, .slice A n c])
/-- append(nodes, one). -/
theorem wp_node {ops : Array Oper} {rest : List Oper} {o : Oper} {a : Act} {Q : Exit → Act → World → Prop} (W : World) (lo m : Nat) (av : Value) (xs : List Value) (k : Int) (t : ByteArray) (A : Option Addr) (n c : Nat) (hR : W.ownsRow lo TN 4 av m xs) (hlo : lo ≤ W.heap.size) (hm : m ≤ 1000000) (hgd : o.guard = none) (s x : Operand)
    (ho : o.op = .call { callee := .builtin .append, args := #[s, x], argTypes := #[24, 24] }) (hs : a.eval s = av) (hx : a.eval x = .slice (some ⟨W.heap.size, 0, none⟩) 1 1)
    (h : ∀ A' c' xs' w', w'.ownsRow lo TN 4 (.slice A' (m + 1) c') (m + 1) xs' → Below lo W w' → wpList Tryd.prog ops Q rest (a.put o.dst (.slice A' (m + 1) c')) w') :
    wpList Tryd.prog ops Q (o :: rest) a (W.alloc (.cells #[.int .i64 k, .string t, nilS, .slice A n c] TN)) := by
  obtain ⟨i0, z, hi, hz, hzc, hsz, hby⟩ := infoN
  have hnew : ∀ j v, [Value.int .i64 k, .string t, nilS, .slice A n c][j]? = some v → (W.alloc (.cells #[.int .i64 k, .string t, nilS, .slice A n c] TN)).cell? ((⟨W.heap.size, 0, none⟩ : Addr).add j) = some v := fun j v hj => by
    rw [add_plain, World.cell?_alloc_new]
    simpa using hj
  have hlo' : lo ≤ (W.alloc (.cells #[.int .i64 k, .string t, nilS, .slice A n c] TN)).heap.size := by show lo ≤ (W.heap.push _).size; rw [Array.size_push]; omega
  refine wpList_append_own_at (P := Tryd.prog) _ hgd s x _ ho lo TN i0 z 4 72 Tryd.underlying24 hi hz hsz hby hzc (by decide) av m xs hs (hR.alloc _) _ 1 1 _ hx rfl hnew (fun y hy => ?_) (by simp only [maxLen]; omega) (by omega) hlo' fun v' w' h1 h2 _ _ => ?_
  · simp only [List.mem_cons, List.not_mem_nil, or_false] at hy
    rcases hy with rfl | rfl | rfl | rfl <;> rfl
  · rcases h1.2 with ⟨_, h0⟩ | ⟨g, cap, cur, rfl, _⟩
    · omega
    · refine h _ _ _ w' h1 (((Below.refl lo W).alloc hlo _).grown h2 hlo' fun k hk => (hR.lt k hk).1)
end Go.Proofs.YtjfofbgnppdlgaaDoor.Fp
