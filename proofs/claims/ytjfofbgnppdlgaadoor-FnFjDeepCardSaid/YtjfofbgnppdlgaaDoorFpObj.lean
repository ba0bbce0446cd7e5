/- fastjson's objects, made anew and grown: reset, getKV. -/
import Derived.Test.YtjfofbgnppdlgaaDoorFpBase2
namespace Go.Proofs.YtjfofbgnppdlgaaDoor.Fp
open Go.RowKit Go.Proofs.YtjfofbgnppdlgaaDoorW.PrintWords Go.Proofs.YtjfofbgnppdlgaaDoorW.PrintLast Go.Proofs.YtjfofbgnppdlgaaDoorW.PrintMore
set_option linter.unusedVariables false
set_option linter.unusedSimpArgs false

theorem clearNil (W : World) (t : TypeId) : (Builtin.clear_ #[59] t #[nilS]).run Tryd.prog W = .ok (.tuple #[]) W := by
  simp [Builtin.clear_, run_underlying Tryd.underlying59]
set_option maxRecDepth 100000 in
/-- Object.reset, of an object that is made anew. -/
theorem objReset (w : World) (b o : Nat) (h0 : w.cell? ⟨b, o, none⟩ = some nilS) (h1 : w.cell? ⟨b, o + 1, none⟩ = some (.bool false)) (hf : ∀ j, w.frozen? ⟨b, j, none⟩ = false) :
    Calls Tryd.prog 35 #[.pointer (some ⟨b, o, none⟩)] w fun e w' => e = .returned (.tuple #[]) ∧ w' = (w.setCell ⟨b, o, none⟩ nilS).setCell ⟨b, o + 1, none⟩ (.bool false) := by
  have h2 : ∀ u, (w.setCell ⟨b, o, none⟩ u).cell? ⟨b, o + 1, none⟩ = some (.bool false) := fun u => (World.cell?_setCell_other _ _ _ _ (fun e => by injection e with _ e _; omega)).trans h1
  go_enter Tryd.func35, Tryd.ntmps35
  have hcl := clearNil w 0
  go_wp2
  go_end0
  exact ⟨rfl, rfl⟩
abbrev TK : TypeId := 79
theorem infoK : ∃ i0 z, Tryd.prog.info? TK = some i0 ∧ i0.zero = some z ∧ z.cells.size = 2 ∧ i0.size = 2 ∧ i0.bytes = 24 := by
  have h : (Tryd.prog.info? TK).map (fun i => (i.zero.map (·.cells.size), i.size, i.bytes)) = some (some 2, 2, 24) := by kernel_rfl
  cases hi : Tryd.prog.info? TK with
  | none => rw [hi] at h; cases h
  | some i0 =>
    rw [hi] at h
    simp only [Option.map_some, Option.some.injEq, Prod.mk.injEq] at h
    cases hz : i0.zero with
    | none => rw [hz] at h; simp at h
    | some z => rw [hz] at h; exact ⟨i0, z, rfl, hz, Option.some.inj h.1, h.2.1, h.2.2⟩
/-- append(kvs, kv{}). -/
theorem wp_kv {ops : Array Oper} {rest : List Oper} {o : Oper} {a : Act} {Q : Exit → Act → World → Prop} (W : World) (lo m : Nat) (av : Value) (xs : List Value) (hR : W.ownsRow lo TK 2 av m xs) (hlo : lo ≤ W.heap.size) (hm : m ≤ 1000000) (hgd : o.guard = none) (s x : Operand)
    (ho : o.op = .call { callee := .builtin .append, args := #[s, x], argTypes := #[59, 59] }) (hs : a.eval s = av) (hx : a.eval x = .slice (some ⟨W.heap.size, 0, none⟩) 1 1)
    (h : ∀ g c w', w'.ownsRow lo TK 2 (.slice (some ⟨g, 0, none⟩) (m + 1) c) (m + 1) (xs ++ [emptyS, .pointer none]) → (W.alloc (.cells #[emptyS, .pointer none] TK)).grownBy w' av.ownBlock → (some g = av.ownBlock ∨ g = W.heap.size + 1) → wpList Tryd.prog ops Q rest (a.put o.dst (.slice (some ⟨g, 0, none⟩) (m + 1) c)) w') :
    wpList Tryd.prog ops Q (o :: rest) a (W.alloc (.cells #[emptyS, .pointer none] TK)) := by
  obtain ⟨i0, z, hi, hz, hzc, hsz, hby⟩ := infoK
  have hnew : ∀ j v, [emptyS, Value.pointer none][j]? = some v → (W.alloc (.cells #[emptyS, .pointer none] TK)).cell? ((⟨W.heap.size, 0, none⟩ : Addr).add j) = some v := fun j v hj => by
    rw [add_plain, World.cell?_alloc_new]
    simpa using hj
  have hsize : (W.alloc (.cells #[emptyS, .pointer none] TK)).heap.size = W.heap.size + 1 := by show (W.heap.push _).size = _; rw [Array.size_push]
  refine wpList_append_own_at (P := Tryd.prog) _ hgd s x _ ho lo TK i0 z 2 24 Tryd.underlying59 hi hz hsz hby hzc (by decide) av m xs hs (hR.alloc _) _ 1 1 _ hx rfl hnew (fun y hy => ?_) (by simp only [maxLen]; omega) (by omega) (by omega) fun v' w' h1 h2 _ h3 => ?_
  · simp only [List.mem_cons, List.not_mem_nil, or_false] at hy
    rcases hy with rfl | rfl <;> rfl
  · rcases h1.2 with ⟨_, h0⟩ | ⟨g, cap, cur, rfl, _⟩
    · omega
    · refine h g cap w' h1 h2 ?_
      rw [hsize] at h3
      rcases h3 with e | e
      · exact .inl e
      · simp only [Value.ownBlock, Option.some.injEq] at e; exact .inr e
/-- What getKV leaves: the object's row has one place more. -/
structure Grew (lo m b o : Nat) (kv : Value) (xs : List Value) (w : World) (g c : Nat) (xs' : List Value) (w' : World) : Prop where
  own : w'.ownsRow lo TK 2 (.slice (some ⟨g, 0, none⟩) (m + 1) c) (m + 1) xs'
  old : xs'.take (m * 2) = xs
  cell : w'.cell? ⟨b, o, none⟩ = some (.slice (some ⟨g, 0, none⟩) (m + 1) c)
  out : w'.os = w.os ∧ w'.tape = w.tape ∧ w'.output = w.output
  size : w.heap.size ≤ w'.heap.size
  blk : ∀ k, k < w.heap.size → k ≠ b → some k ≠ kv.ownBlock → w'.heap[k]? = w.heap[k]?
  at_ : some g = kv.ownBlock ∨ w.heap.size ≤ g
  cells : ∃ cur cur', w.heap[b]? = some (.cells cur TV (0, 0)) ∧ w'.heap[b]? = some (.cells cur' TV (0, 0)) ∧ cur'.size = cur.size ∧ ∀ j, j ≠ o → cur'[j]? = cur[j]?
end Go.Proofs.YtjfofbgnppdlgaaDoor.Fp
