/- fastjson's cache gives a value that is made anew: getValue, walked. -/
import Derived.Test.YtjfofbgnppdlgaaDoorFpHeap
import Derived.Test.YtjfofbgnppdlgaaDoorXWords
import Derived.Test.YtjfofbgnppdlgaaDoorOwnRow
import Derived.Lib.AppendZeros
import Derived.Deep.QuietTactic
import Derived.BigQuiet
import Derived.WideLaws
import Derived.Deep.LoopGhost
import Derived.Deep.DeepCutAuto
import Derived.Deep.CutBlock
import Derived.Deep.RegionHeld3
import Derived.Deep.RegionWith
import Derived.OrdersHeld
import Derived.Outline
namespace Go.Proofs.YtjfofbgnppdlgaaDoor.Fp
open Go.RowKit Go.Proofs.YtjfofbgnppdlgaaDoorW.PrintWords Go.Proofs.YtjfofbgnppdlgaaDoorW.PrintLast Go.Proofs.YtjfofbgnppdlgaaDoorW.PrintMore
set_option linter.unusedVariables false
set_option linter.unusedSimpArgs false

theorem infoT : ∃ i0 z, Tryd.prog.info? TV = some i0 ∧ i0.zero = some z ∧ z.cells = vz.toArray ∧ i0.size = 5 ∧ i0.bytes = 80 := by
  have h := infoV
  cases hi : Tryd.prog.info? TV with
  | none => rw [hi] at h; cases h
  | some i0 =>
    rw [hi] at h
    simp only [Option.map_some, Option.some.injEq, Prod.mk.injEq] at h
    cases hz : i0.zero with
    | none => rw [hz] at h; simp at h
    | some z => rw [hz] at h; exact ⟨i0, z, rfl, hz, Option.some.inj h.1, h.2.1, h.2.2⟩
/-- Is there no room in the row? -/
def Full (n : Nat) (v : Value) : Prop := v = nilS ∨ ∃ cb, v = .slice (some ⟨cb, 0, none⟩) n n
/-- append(vs, Value{}), where there is no room. -/
theorem wp_grow {ops : Array Oper} {rest : List Oper} {o : Oper} {a : Act} {Q : Exit → Act → World → Prop} (W : World) (pb n : Nat) (v : Value) (hC : Ca W pb n v) (hF : Full n v) (hn : n ≤ 1000000) (hgd : o.guard = none) (s x : Operand)
    (ho : o.op = .call { callee := .builtin .append, args := #[s, x], argTypes := #[31, 31] }) (hs : a.eval s = v) (hx : a.eval x = .slice (some ⟨W.heap.size, 0, none⟩) 1 1)
    (h : ∀ (cap : Nat) (cur : Array Value) (w' : World), n + 1 ≤ cap → cap ≤ maxLen → cur.size = cap * 5 → (∀ j i, n ≤ j → j < cap → i < 5 → cur[j * 5 + i]? = vz[i]?) → w'.heap.size = W.heap.size + 2 → (∀ k, k < W.heap.size → w'.heap[k]? = W.heap[k]?) →
      w'.heap[W.heap.size + 1]? = some (.cells cur TV (0, 0)) → (w'.os = W.os ∧ w'.tape = W.tape ∧ w'.output = W.output) → wpList Tryd.prog ops Q rest (a.put o.dst (.slice (some ⟨W.heap.size + 1, 0, none⟩) (n + 1) cap)) w') :
    wpList Tryd.prog ops Q (o :: rest) a (W.alloc (.cells vz.toArray TV)) := by
  obtain ⟨i0, z, hi, hz, hzc, hsz, hby⟩ := infoT
  have ht := Tryd.underlying31
  have hsize : (W.alloc (.cells vz.toArray TV)).heap.size = W.heap.size + 1 := by show (W.heap.push _).size = _; rw [Array.size_push]
  have hnew : ∀ j v, vz[j]? = some v → (W.alloc (.cells vz.toArray TV)).cell? ((⟨W.heap.size, 0, none⟩ : Addr).add j) = some v := fun j v hj => by
    rw [add_plain, World.cell?_alloc_new]
    simpa using hj
  have fin : ∀ (olds : List Value) (cap : Nat), olds.length = n * 5 → n + 1 ≤ cap → cap ≤ maxLen → ∀ w', w' = (W.alloc (.cells vz.toArray TV)).drew.alloc (.cells (olds.toArray ++ vz.toArray ++ Builtin.zeroCells z.cells (cap - (n + 1))) TV) →
      wpList Tryd.prog ops Q rest (a.put o.dst (.slice (some ⟨W.heap.size + 1, 0, none⟩) (n + 1) cap)) w' := by
    intro olds cap hol h1 h2 w' hw
    have hd : (W.alloc (.cells vz.toArray TV)).drew.heap.size = W.heap.size + 1 := hsize
    refine h cap (olds.toArray ++ vz.toArray ++ Builtin.zeroCells z.cells (cap - (n + 1))) w' h1 h2 ?_ ?_ ?_ ?_ ?_ ?_
    · have e : vz.toArray.size = 5 := rfl
      rw [Array.size_append, Array.size_append, size_zeroCells, hzc, e]
      simp only [List.size_toArray, hol]
      omega
    · intro j i hj hjc hi5
      rw [hzc]
      have e : vz.toArray.size = 5 := rfl
      by_cases c : j = n
      · subst c
        rw [Array.getElem?_append_left (by rw [Array.size_append, e]; simp only [List.size_toArray, hol]; omega), Array.getElem?_append_right (by simp only [List.size_toArray, hol]; omega)]
        simp only [List.size_toArray, hol, Nat.add_sub_cancel_left]
        simp
      · rw [Array.getElem?_append_right (by rw [Array.size_append, e]; simp only [List.size_toArray, hol]; omega), Array.size_append, e]
        simp only [List.size_toArray, hol]
        rw [show j * 5 + i - (n * 5 + 5) = (j - (n + 1)) * 5 + i by omega]
        exact zc_get _ _ _ (by omega) hi5
    · rw [hw]
      show (Array.push _ _).size = _
      rw [Array.size_push, hd]
    · intro k hk
      rw [hw]
      exact (heap_alloc_old _ _ (by rw [hd]; omega)).trans (heap_alloc_old W _ hk)
    · rw [hw, ← hd]
      exact heap_alloc_new _ _
    · rw [hw]; exact ⟨rfl, rfl, rfl⟩
  rcases hC with ⟨rfl, rfl⟩ | ⟨cb, cap0, cur, rfl, h1, h2, h3, h4, h5, h6⟩
  · have hr := run_append_nil (P := Tryd.prog) (W.alloc (.cells vz.toArray TV)) 31 o.type TV i0 z ht hi hz ⟨W.heap.size, 0, none⟩ 1 1 vz (by rw [hsz]; rfl) hnew (by omega) (by omega) (by rw [hby]; omega)
    refine Lib.wpList_append_run _ hgd s x _ _ ho _ _ hs hx _ _ hr ?_
    rw [hsize]
    exact fin [] _ rfl (grownCap_ge _ _ _ _) (grownCap_le_maxLen _ _ _ _ (by simp [maxLen])) _ rfl
  · rcases hF with hF | ⟨cb', hF⟩
    · cases hF
    injection hF with e1 e2 e3
    have e4 : n = cap0 := e3.symm
    subst e4
    have hol : (cur.toList.take (n * 5)).length = n * 5 := by rw [List.length_take, Array.length_toList, h4]; omega
    have hcl : cb < W.heap.size := by
      refine Nat.lt_of_not_le fun hle => ?_
      rw [Array.getElem?_eq_none hle] at h1
      cases h1
    have hold : ∀ j v, (cur.toList.take (n * 5))[j]? = some v → (W.alloc (.cells vz.toArray TV)).cell? ((⟨cb, 0, none⟩ : Addr).add j) = some v := fun j v hj => by
      rw [add_plain, World.cell?_alloc_lt W _ _ (by exact hcl)]
      rw [List.getElem?_take] at hj
      split at hj
      · simp [World.cell?, h1, ← hj]
      · cases hj
    have hr := run_append_grow (P := Tryd.prog) (W.alloc (.cells vz.toArray TV)) 31 o.type TV i0 z ht hi hz ⟨cb, 0, none⟩ n n (cur.toList.take (n * 5)) (by rw [hsz]; exact hol) hold ⟨W.heap.size, 0, none⟩ 1 1 vz (by rw [hsz]; rfl) hnew (by omega) (by omega) (by rw [hby]; exact growslice_fits (by omega) (by omega))
    refine Lib.wpList_append_run _ hgd s x _ _ ho _ _ hs hx _ _ hr ?_
    rw [hsize]
    exact fin _ _ hol (grownCap_ge _ _ _ _) (grownCap_le_maxLen _ _ _ _ (by simp only [maxLen]; omega)) _ rfl
/-- What getValue leaves. -/
structure Got (pb n : Nat) (bv v : Value) (w : World) (b : Nat) (v' : Value) (w' : World) : Prop where
  own : v'.ownBlock = some b
  pbs : Pb w' pb bv v'
  ca : Ca w' pb (n + 1) v'
  step : Step pb n v w w'
  up : Up n (n + 1) v v' w
  zero : Zer w' b (n * 5)
  blt : ∃ cur, w'.heap[b]? = some (.cells cur TV (0, 0))
theorem Got.drewN {pb n b : Nat} {bv v v' : Value} {w w' : World} (h : Got pb n bv v w b v' w') (m : Nat) : Got pb n bv v w b v' (w'.drewN m) :=
  ⟨h.own, h.pbs, h.ca, ⟨h.step.out, h.step.size, h.step.blk, h.step.cel⟩, h.up, h.zero, h.blt⟩
theorem Got.same {pb n b : Nat} {bv v v' : Value} {w w' w2 : World} (h : Got pb n bv v w b v' w') (e1 : w2.heap = w'.heap) (e2 : w2.os = w'.os ∧ w2.tape = w'.tape ∧ w2.output = w'.output) : Got pb n bv v w b v' w2 := by
  have hc : ∀ x, w2.cell? x = w'.cell? x := fun x => by simp [World.cell?, e1]
  refine ⟨h.own, ?_, ?_, ⟨⟨e2.1.trans h.step.out.1, e2.2.1.trans h.step.out.2.1, e2.2.2.trans h.step.out.2.2⟩, by rw [e1]; exact h.step.size, fun k h1 h2 h3 => by rw [e1]; exact h.step.blk k h1 h2 h3, fun cb h1 cur h2 => by rw [e1]; exact h.step.cel cb h1 cur h2⟩, h.up, fun i hi => (hc _).trans (h.zero i hi), ?_⟩
  · have := h.pbs; unfold Pb at this ⊢; rw [e1]; exact this
  · have := h.ca; unfold Ca at this ⊢; rw [e1]; exact this
  · rw [e1]; exact h.blt
theorem got_new {w w3 : World} {pb n cap : Nat} {bv v : Value} {cur : Array Value} (hP : Pb w pb bv v) (hC : Ca w pb n v) (r1 : n + 1 ≤ cap) (r2 : cap ≤ maxLen) (r3 : cur.size = cap * 5) (r4 : ∀ j i, n ≤ j → j < cap → i < 5 → cur[j * 5 + i]? = vz[i]?)
    (r5 : w3.heap.size = w.heap.size + 2) (r6 : ∀ k, k < w.heap.size → w3.heap[k]? = w.heap[k]?) (r7 : w3.heap[w.heap.size + 1]? = some (.cells cur TV (0, 0))) (r8 : w3.os = w.os ∧ w3.tape = w.tape ∧ w3.output = w.output) :
    Got pb n bv v w (w.heap.size + 1) (.slice (some ⟨w.heap.size + 1, 0, none⟩) (n + 1) cap) (w3.setCell ⟨pb, 1, none⟩ (.slice (some ⟨w.heap.size + 1, 0, none⟩) (n + 1) cap)) := by
  have hl := hP.lt
  have P3 : Pb w3 pb bv v := (r6 pb hl).trans hP
  have h7 : ∀ u, (w3.setCell ⟨pb, 1, none⟩ u).heap[w.heap.size + 1]? = some (.cells cur TV (0, 0)) := fun u => (heap_other _ _ _ _ _ (by omega)).trans r7
  refine ⟨rfl, P3.set _, .inr ⟨_, cap, cur, rfl, h7 _, r1, r2, r3, by omega, fun j i h1 h2 h3 => r4 j i (by omega) h2 h3⟩, ⟨r8, by rw [set_size, r5]; omega, fun k h1 h2 h3 => (heap_other _ _ _ _ _ h2).trans (r6 k h1), fun cb h1 c2 h2 => ?_⟩, ⟨Nat.le_succ _, .inr ⟨_, rfl, Nat.le_succ _⟩⟩, fun i hi => ?_, cur, h7 _⟩
  · have := hC.lt h1
    exact ⟨c2, ((heap_other _ _ _ _ _ this.2.1).trans (r6 cb this.1)).trans h2, rfl, fun _ _ => rfl⟩
  · simp only [World.cell?, h7]
    exact r4 n i (Nat.le_refl _) (by omega) hi
theorem got_room {w : World} {pb n cb cap : Nat} {bv : Value} (hP : Pb w pb bv (.slice (some ⟨cb, 0, none⟩) n cap)) (hC : Ca w pb n (.slice (some ⟨cb, 0, none⟩) n cap)) (hlt : n < cap) :
    Got pb n bv (.slice (some ⟨cb, 0, none⟩) n cap) w cb (.slice (some ⟨cb, 0, none⟩) (n + 1) cap) (w.setCell ⟨pb, 1, none⟩ (.slice (some ⟨cb, 0, none⟩) (n + 1) cap)) := by
  rcases hC with ⟨_, h⟩ | ⟨cb', cap', cur, h0, h1, h2, h3, h4, h5, h6⟩
  · cases h
  injection h0 with a1 a2 a3
  injection a1 with a1
  injection a1 with a1
  subst a1 a3
  have h7 : ∀ u, (w.setCell ⟨pb, 1, none⟩ u).heap[cb]? = some (.cells cur TV (0, 0)) := fun u => (heap_other _ _ _ _ _ h5).trans h1
  refine ⟨rfl, hP.set _, .inr ⟨_, cap, cur, rfl, h7 _, hlt, h3, h4, h5, fun j i g1 g2 g3 => h6 j i (by omega) g2 g3⟩, ⟨⟨rfl, rfl, rfl⟩, by rw [set_size]; exact Nat.le_refl _, fun k g1 g2 g3 => heap_other _ _ _ _ _ g2, fun cb2 g1 c2 g2 => ?_⟩, ⟨Nat.le_succ _, .inl rfl⟩, fun i hi => ?_, cur, h7 _⟩
  · simp only [Value.ownBlock, Option.some.injEq] at g1
    subst g1
    exact ⟨c2, (heap_other _ _ _ _ _ h5).trans g2, rfl, fun _ _ => rfl⟩
  · simp only [World.cell?, h7]
    exact h6 n i (Nat.le_refl _) hlt hi
set_option maxHeartbeats 4000000 in
set_option maxRecDepth 100000 in
theorem getValue (w : World) (pb n : Nat) (bv v : Value) (hP : Pb w pb bv v) (hC : Ca w pb n v) (hn : n ≤ 1000000) :
    Calls Tryd.prog 25 #[.pointer (some ⟨pb, 1, none⟩)] w fun e w' => ∃ b v', e = .returned (.pointer (some ⟨b, n * 5, none⟩)) ∧ Got pb n bv v w b v' w' := by
  have HP := Aside0.mk hP
  have HC := Aside0.mk hC
  have hc0 := HP.out.cell
  have hf0 := HP.out.free 1
  clear hP
  rcases hC with ⟨rfl, rfl⟩ | ⟨cb, cap, cur, rfl, h1, h2, h3, h4, h5, h6⟩
  · go_enter Tryd.func25, Tryd.ntmps25
    go_wp2
    go_quiet (fail)
    go_wp2_with (at_builtin; refine wp_grow _ pb 0 nilS HC.out (.inl rfl) hn rfl _ _ rfl rfl rfl ?_; intro cap1 cur1 w3 r1 r2 r3 r4 r5 r6 r7 r8; have HG := Aside0.mk (got_new HP.out HC.out r1 r2 r3 r4 r5 r6 r7 r8); have P3 : Aside0 (Pb w3 pb bv nilS) := ⟨(r6 pb HP.out.lt).trans HP.out⟩; have hc3 := P3.out.cell; have hf3 := P3.out.free 1; clear r1 r2 r3 r4 r5 r6 r7 r8 hc0 hf0)
    go_quiet (fail)
    go_wp2
    go_ret
    exact ⟨_, _, rfl, HG.out.drewN _⟩
  · have b1 : (n : Int) ≤ 1000000 := by omega
    clear h1 h4 h5 h6
    by_cases hlt : n < cap
    · have q1 : decide ((n : Int) < (cap : Int)) = true := decide_eq_true (by omega)
      have q2 : ((n : Int) + 1 ≤ (cap : Int)) = True := eq_true (by omega)
      have HG := Aside0.mk (got_room HP.out HC.out hlt)
      go_enter Tryd.func25, Tryd.ntmps25
      go_wp2
      go_quiet (fail)
      go_wp2
      go_region
      all_goals
        have hc3 := (got_room HP.out HC.out hlt).pbs.cell
        go_wp2
        go_quiet (fail)
        go_wp2
        go_ret
        exact ⟨_, _, rfl, HG.out.same rfl ⟨rfl, rfl, rfl⟩⟩
    · obtain rfl : cap = n := by omega
      have q1 : decide ((cap : Int) < (cap : Int)) = false := decide_eq_false (by omega)
      go_enter Tryd.func25, Tryd.ntmps25
      go_wp2
      go_quiet (fail)
      go_wp2_with (at_builtin; refine wp_grow _ pb cap (.slice (some ⟨cb, 0, none⟩) cap cap) HC.out (.inr ⟨_, rfl⟩) hn rfl _ _ rfl rfl rfl ?_; intro cap1 cur1 w3 r1 r2 r3 r4 r5 r6 r7 r8; have HG := Aside0.mk (got_new HP.out HC.out r1 r2 r3 r4 r5 r6 r7 r8); have P3 : Aside0 (Pb w3 pb bv (.slice (some ⟨cb, 0, none⟩) cap cap)) := ⟨(r6 pb HP.out.lt).trans HP.out⟩; have hc3 := P3.out.cell; have hf3 := P3.out.free 1; clear r1 r2 r3 r4 r5 r6 r7 r8 hc0 hf0)
      go_quiet (fail)
      go_wp2
      go_ret
      exact ⟨_, _, rfl, HG.out.drewN _⟩
end Go.Proofs.YtjfofbgnppdlgaaDoor.Fp
