-- Written by xprint.py of this session (a program that runs the kit's print and adds to it); Lean checks it.
import Derived.Test.YtdllbnecbbggfaaDoorXFnGjQuoteValidx0
namespace Go.Proofs.YtdllbnecbbggfaaDoor.XFnGjQuoteValid
open Go.RowKit Go.Proofs.YtdllbnecbbggfaaDoorW.PrintWords Go.Proofs.YtdllbnecbbggfaaDoorW.PrintLast Go.Proofs.YtdllbnecbbggfaaDoorW.PrintMore
attribute [local go_sem] max2_int min2_int max_two min_two max_three min_three max_four min_four   -- for this text's walks alone
set_option linter.unusedVariables false
set_option linter.unusedSimpArgs false

--EXT
/-! ### impl_GjQuote: function 24 (by hand) -/
theorem gjson_appendHex16.wraps_u16 (n : Int) (h₀ : 0 ≤ n) (h₁ : n < 2 ^ 16) : IntKind.u16.wrap n = n := by rw [IntKind.wrap_u16]; omega
theorem gjson_appendHex16.reads_new (W : World) (e : TypeId) (ys : List Int) (hy : ys.length ≤ 100) : ReadsInt (W.alloc (.cells (nums .u8 ys).toArray e)) .u8 (some ⟨W.heap.size, 0, none⟩) ys.length ys := by
  refine ⟨rfl, by omega, fun _ => ⟨_, rfl, fun j hj => ?_⟩⟩
  rw [add_plain, World.cell?_alloc_new]
  have hj' : j < ys.length := hj
  simp [nums, hj', List.getD]
theorem gjson_appendHex16.step_row {P : Program} {ops : Array Oper} {o : Oper} {a : Act} {Q : Exit → Act → World → Prop} {K : Act → World → Prop} {E : Prop} {w0 W : World} (base : Nat) (hgd : o.guard = none) (s x : Operand) (t e : TypeId)
    (ho : o.op = .call { callee := .builtin .append, args := #[s, x], argTypes := #[t, t] })
    (ht : P.underlying t = some (.slice e)) (hinfo : (P.info? e).map (fun i => (i.zero, i.size, i.bytes)) = some (some (.int .u8 0), 1, 1))
    (v : Value) (xs ys : List Int) (ad : Addr) (m c : Nat) (hs : a.eval s = v) (hx : a.eval x = .slice (some ad) m c)
    (HO : W.ownsRow base e 1 v xs.length (nums .u8 xs)) (HR : ReadsInt W .u8 (some ad) m ys) (HB : Below base w0 W) (hbase : base ≤ W.heap.size) (hl : xs.length + m ≤ 140737488355328)
    (h : ∀ v1 w1, w1.ownsRow base e 1 v1 (xs ++ ys).length (nums .u8 (xs ++ ys)) → Below base w0 w1 → K (a.put o.dst v1) w1) :
    if Region.wanted o (yielded ops a.tmps) = true then Oper.wp P o a W K Q else E := by
  have hw : Region.wanted o (yielded ops a.tmps) = true := by simp [Region.wanted, hgd]
  obtain ⟨i0, hi, hzz⟩ := Option.map_eq_some_iff.1 hinfo
  simp only [Prod.mk.injEq] at hzz
  obtain ⟨hz0, hz1, hz2⟩ := hzz
  have hm : ys.length = m := HR.1
  have hcells : ∀ j u, (nums .u8 ys)[j]? = some u → W.cell? (ad.add j) = some u := by
    intro j u hu
    have hj : j < ys.length := by
      refine Nat.lt_of_not_le fun hc => ?_
      rw [List.getElem?_eq_none (by simpa [nums] using hc)] at hu
      cases hu
    obtain ⟨ad', e', hc⟩ := HR.2.2 (by omega)
    obtain rfl : ad = ad' := by injection e'
    rw [hc j (by omega), ← hu]
    simp [nums, List.getElem?_eq_getElem hj, List.getD_eq_getElem?_getD]
  rw [if_pos hw]
  obtain ⟨v1, w1, hr, hown, hg, _, hat⟩ := run_append_own_at (P := P) W base t o.type e i0 (.int .u8 0) 1 1 ht hi hz0 hz1 hz2 rfl (by omega) v xs.length (nums .u8 xs) HO ad m c (nums .u8 ys) (by rw [nums_length, hm]; omega)
    hcells (by intro u hu; obtain ⟨y, _, rfl⟩ := List.mem_map.1 hu; rfl) (by simp only [maxLen]; omega) (by omega) hbase
  unfold Oper.wp execOp
  simp only [ho, resolve, invoke, builtin, Sem.run_bind, Sem.run_pure, Result.andThen_ok, List.map_toArray, List.map_cons, List.map_nil, hs, hx, hr]
  exact h v1 w1 (by rw [List.length_append, hm]; simpa [nums] using hown) (HB.grown hg hbase (own_base HO))
set_option maxHeartbeats 4000000 in
set_option maxRecDepth 100000 in
theorem gjson_appendHex16.calls (base : Nat) (v : Value) (xs : List Int) (c : Int) (w0 w : World) (hO : w.ownsRow base 5 1 v xs.length (nums .u8 xs)) (hB : Below base w0 w) (hl : xs.length ≤ 1000000) (hb : base ≤ w.heap.size) (hc0 : 0 ≤ c) (hc1 : c < 256) (hG : Glob w) :
    Calls Tryd.prog 60 #[v, .int .u16 c] w fun e w' => ∃ v1, e = .returned v1 ∧ w'.ownsRow base 5 1 v1 (xs ++ [48, 48, hexc (c / 16).toNat, hexc (c % 16).toNat]).length (nums .u8 (xs ++ [48, 48, hexc (c / 16).toNat, hexc (c % 16).toNat])) ∧ Below base w0 w' := by
  have HO := Aside0.mk hO
  have HB := Aside0.mk hB
  have HG := Aside0.mk hG
  clear hO hB hG
  have e12 : c / 4096 = 0 := by omega
  have e8 : c / 256 = 0 := by omega
  have e1 : c / 1 = c := by omega
  have m0 : Go.bits .and .u16 0 15 = 0 := by decide +kernel
  have m4 : Go.bits .and .u16 (c / 16) 15 = c / 16 := (bits_mask .u16 16 (by decide) gjson_appendHex16.wraps_u16 4 (by omega) (c / 16) (by omega) (by omega)).trans (by omega)
  have m5 : Go.bits .and .u16 c 15 = c % 16 := bits_mask .u16 16 (by decide) gjson_appendHex16.wraps_u16 4 (by omega) c (by omega) (by omega)
  have q4 : 0 ≤ c / 16 ∧ c / 16 < 16 := by omega
  have q5 : 0 ≤ c % 16 ∧ c % 16 < 16 := by omega
  generalize hd1 : c / 16 = d1 at *
  generalize hd0 : c % 16 = d0 at *
  have g0 := HG.out.hex 0 (by omega)
  have g4 := HG.out.hex d1.toNat (by omega)
  have g5 := HG.out.hex d0.toNat (by omega)
  have p4 : (0 ≤ d1) = True := eq_true (by omega)
  have p5 : (0 ≤ d0) = True := eq_true (by omega)
  have r4 : (d1 < 16) = True := eq_true (by omega)
  have r5 : (d0 < 16) = True := eq_true (by omega)
  have s4 : (d1.toNat < 16) = True := eq_true (by omega)
  have s5 : (d0.toNat < 16) = True := eq_true (by omega)
  clear q4 q5
  go_enter Tryd.func60, Tryd.ntmps60
  go_wp2
  go_region_law (refine gjson_appendHex16.step_row (w0 := w0) base rfl (.tmp 5) (.tmp 26) 42 5 rfl Tryd.underlying42 info5 _ xs [hexc 0, hexc 0, hexc d1.toNat, hexc d0.toNat] _ 4 4 rfl rfl (HO.out.alloc _) (gjson_appendHex16.reads_new w 5 [hexc 0, hexc 0, hexc d1.toNat, hexc d0.toNat] (by simp)) (pw_below_drewN (HB.out.alloc hb _) 1) (by simp [World.drew]; omega) (by omega) ?_; intro v1 w1 ho hbl)
  all_goals (go_wp2; go_ret; exact ⟨v1, rfl, ho, hbl⟩)
/-- What AppendJSONString writes for the character of s at i, and how many bytes it has. -/
def gjson_AppendJSONString.high (s : ByteArray) (i : Int) : List Int × Int :=
  let d := dgo (s.extract i.toNat s.size)
  if d.1 = 65533 ∧ d.2 = 1 then ([239, 191, 189], 1) else
  if d.1 = 8232 ∨ d.1 = 8233 then ([92, 117, 50, 48, 50, hexc (d.1 % 16).toNat], d.2) else (bytesOf (s.extract i.toNat (i + d.2).toNat), d.2)
def gjson_AppendJSONString.hex (c : Int) : List Int := [92, 117, 48, 48, hexc (c / 16).toNat, hexc (c % 16).toNat]
def gjson_AppendJSONString.piece (s : ByteArray) (i : Int) : List Int × Int :=
  if bt s i < 32 then
    if bt s i = 8 then ([92, 98], 1) else if bt s i = 12 then ([92, 102], 1) else if bt s i = 10 then ([92, 110], 1) else if bt s i = 13 then ([92, 114], 1) else if bt s i = 9 then ([92, 116], 1) else (gjson_AppendJSONString.hex (bt s i), 1)
  else if bt s i = 62 then (gjson_AppendJSONString.hex (bt s i), 1) else if bt s i = 60 then (gjson_AppendJSONString.hex (bt s i), 1) else if bt s i = 38 then (gjson_AppendJSONString.hex (bt s i), 1)
  else if bt s i = 92 then ([92, 92], 1) else if bt s i = 34 then ([92, 34], 1)
  else if 127 < bt s i then gjson_AppendJSONString.high s i
  else ([bt s i], 1)
def gjson_AppendJSONString.g : Nat → ByteArray → List Int → Int → Option (List Int)
  | 0, _, _, _ => none
  | k + 1, s, acc, i => if i < s.size then gjson_AppendJSONString.g k s (acc ++ (gjson_AppendJSONString.piece s i).1) (i + (gjson_AppendJSONString.piece s i).2) else some (acc ++ [34])
def gjson_AppendJSONString.f (k : Nat) (a0 : ByteArray) : Option ByteArray := if a0.size ≤ 65536 then (gjson_AppendJSONString.g k a0 [34] 0).map strOfNums else none
theorem gjson_AppendJSONString.g_mono : ∀ k s acc i, LeO (gjson_AppendJSONString.g k s acc i) (gjson_AppendJSONString.g (k + 1) s acc i)
  | 0, _, _, _ => fun _ h => by cases h
  | k + 1, s, acc, i => by
    rw [gjson_AppendJSONString.g, gjson_AppendJSONString.g]
    exact LeO.ite (gjson_AppendJSONString.g_mono k _ _ _) (LeO.refl _)
theorem gjson_AppendJSONString.mono : ∀ a0 k, LeO (gjson_AppendJSONString.f k a0) (gjson_AppendJSONString.f (k + 1) a0) := by
  intro a0 k
  unfold gjson_AppendJSONString.f
  refine LeO.ite (fun r h => ?_) (LeO.refl _)
  obtain ⟨x, hx, rfl⟩ := Option.map_eq_some_iff.mp h
  exact Option.map_eq_some_iff.mpr ⟨x, gjson_AppendJSONString.g_mono k _ _ _ _ hx, rfl⟩
theorem gjson_AppendJSONString.zeros_run (s : ByteArray) (hs : s.size ≤ 65536) (ty : TypeId) (W : World) : ∃ (cap : Nat) (cur : Array Value), s.size + 2 ≤ cap ∧ cap ≤ maxLen ∧ cur.size = cap ∧
    (Builtin.append_ #[42, 3] ty #[.slice none 0 0, .int .i64 ((s.size : Int) + 2)]).run Tryd.prog W = .ok (.slice (some ⟨W.heap.size, 0, none⟩) (s.size + 2) cap) (W.drew.alloc (.cells cur 5)) := by
  obtain ⟨i0, hi, hzz⟩ := Option.map_eq_some_iff.1 info5
  simp only [Prod.mk.injEq] at hzz
  obtain ⟨hz0, hz1, hz2⟩ := hzz
  have hge := grownCap_ge W (s.size + 2) 0 5
  have hcm := grownCap_le_maxLen W (s.size + 2) 0 5 (by simp only [maxLen]; omega)
  have h := Lib.run_append_nil_zeros (P := Tryd.prog) W 42 3 ty 5 i0 (.int .u8 0) .i64 .i64 Tryd.underlying42 Tryd.underlying3 hi hz0 (s.size + 2) (by omega) (by omega) (by omega) (by rw [hz2]; omega)
  refine ⟨_, _, hge, hcm, ?_, h⟩
  simp only [Array.size_append, size_zeroCells, show (Value.int IntKind.u8 0).cells.size = 1 from rfl, Nat.mul_one]
  omega
theorem gjson_AppendJSONString.own0 (W : World) (base g cap : Nat) (e : TypeId) (cur : Array Value) (hb : base ≤ W.heap.size) (hc : cap ≤ maxLen) (hs : cur.size = cap) : (W.alloc (.cells cur e)).ownsRow base e 1 (.slice (some ⟨W.heap.size, 0, none⟩) 0 cap) 0 (nums .u8 []) :=
  ⟨rfl, .inr ⟨W.heap.size, cap, cur, rfl, hb, heap_alloc_new W _, Nat.zero_le _, hc, by omega, by simp [nums]⟩⟩
/-- several bytes at once -/
theorem gjson_AppendJSONString.append_lits {P : Program} {ops : Array Oper} {rest : List Oper} {o : Oper} {a : Act} {Q : Exit → Act → World → Prop} {w0 W : World} (base : Nat) (hgd : o.guard = none) (s x : Operand) (t e : TypeId)
    (ho : o.op = .call { callee := .builtin .append, args := #[s, x], argTypes := #[t, t] })
    (ht : P.underlying t = some (.slice e)) (hinfo : (P.info? e).map (fun i => (i.zero, i.size, i.bytes)) = some (some (.int .u8 0), 1, 1))
    (v : Value) (xs ys : List Int) (hy : ys.length ≤ 100) (hs : a.eval s = v) (hx : a.eval x = .slice (some ⟨W.heap.size, 0, none⟩) ys.length ys.length)
    (HO : W.ownsRow base e 1 v xs.length (nums .u8 xs)) (HB : Below base w0 W) (hbase : base ≤ W.heap.size) (hl : xs.length ≤ 1000000)
    (h : ∀ v1 w1, w1.ownsRow base e 1 v1 (xs ++ ys).length (nums .u8 (xs ++ ys)) → Below base w0 w1 → wpList P ops Q rest (a.put o.dst v1) w1) :
    wpList P ops Q (o :: rest) a (W.alloc (.cells (nums .u8 ys).toArray e)) :=
  print_append_row (w0 := w0) base hgd s x t e .u8 1 ho ht hinfo (by omega) v xs ys _ ys.length ys.length hs hx (own_alloc HO _) (gjson_appendHex16.reads_new W e ys hy) (XWords.below_alloc0 hbase HB _)
    (by show base ≤ (W.heap.push _).size; rw [Array.size_push]; omega) (by omega) fun v1 w1 h1 h2 _ _ => h v1 w1 h1 h2
theorem gjson_AppendJSONString.html (w : World) : Calls Tryd.prog 61 #[] w fun e w' => e = .returned (.bool true) ∧ w' = w := by
  go_enter Tryd.func61, Tryd.ntmps61
  go_wp2
  go_ret
  exact ⟨rfl, rfl⟩
set_option maxHeartbeats 8000000 in
set_option maxRecDepth 100000 in
theorem gjson_AppendJSONString.calls (k : Nat) (a0 : ByteArray) (res : List Int) (w : World) (hG : Glob w) (hs : a0.size ≤ 65536) (hg0 : gjson_AppendJSONString.g k a0 [34] 0 = some res) :
    Calls Tryd.prog 41 #[.slice none 0 0, .string a0] w fun e w' => ∃ v1, e = .returned v1 ∧ w'.ownsRow w.heap.size 5 1 v1 res.length (nums .u8 res) ∧ Below w.heap.size w w' := by
  have HG := Aside0.mk hG
  have HRES := Aside0.mk hg0
  clear hG hg0
  obtain ⟨cap, cur, hcap, hcm, hcs, hrun⟩ := gjson_AppendJSONString.zeros_run a0 hs 42 w
  have HRUN := Aside0.mk hrun
  have ho0 : Aside0 ((w.drew.alloc (.cells cur 5)).ownsRow w.heap.size 5 1 (.slice (some ⟨w.heap.size, 0, none⟩) 0 cap) 0 (nums .u8 [])) := Aside0.mk (gjson_AppendJSONString.own0 w.drew w.heap.size w.heap.size cap 5 cur (Nat.le_refl _) hcm hcs)
  have hb0 := Aside0.mk (XWords.below_alloc0 (B := w.heap.size) (w := w) (W := w.drew) (Nat.le_refl _) (pw_below_drewN (Below.refl w.heap.size w) 1) (.cells cur 5))
  clear hrun hcm hcs
  have c0 : (0 ≤ cap) = True := eq_true (by omega)
  have e0 : (a0.size : Int) + 2 - (a0.size : Int) - 2 = 0 := by omega
  go_enter Tryd.func41, Tryd.ntmps41
  go_wp2_with (first | (at_builtin; refine Lib.wpList_append_run _ rfl _ _ _ _ rfl _ _ rfl rfl _ _ HRUN.out ?_; clear HRUN; generalize w.drew.alloc (.cells cur 5) = w1 at ho0 hb0 ⊢) | (at_builtin; refine print_append_num (w0 := w) w.heap.size rfl (.tmp 20) (.tmp 21) 42 5 .u8 1 rfl Tryd.underlying42 info5 (by omega) _ [] 34 rfl rfl ?aO ?aB ?aS ?aL ?_; (case aO => exact ho0.out); (case aB => exact hb0.out); (case aS => exact hb0.out.size); (case aL => simp); intro v1 w3 ho hb hg _; have n0_ := Aside0.mk ho; have n1_ := Aside0.mk hb; clear ho hb hg))
  have hz : (a0.size : Int) ≤ 65536 := by omega
  go_loopw [5, 0] (fun i v wr => ∃ (kk : Nat) (x : Int) (acc : List Int), 0 ≤ x ∧ x ≤ a0.size ∧ i = .int .i64 x ∧ Aside0 ((acc.length : Int) ≤ 6 * x + 1) ∧ Aside0 (gjson_AppendJSONString.g kk a0 acc x = some res) ∧ Aside0 (wr.ownsRow w.heap.size 5 1 v acc.length (nums .u8 acc)) ∧ Aside0 (Below w.heap.size w wr)) (fun i _ _ => a0.size - (intOf i).toNat)
  case atStart => exact ⟨k, 0, [34], by omega, by omega, rfl, ⟨by simp⟩, HRES, n0_, n1_⟩
  case round =>
    obtain ⟨kk, x, acc, hx0, hk, rfl, hal, hg, hown, hbel⟩ := hrel
    clear n0_ n1_ ho0 hb0 HRES c0 e0
    cases kk with
    | zero => have := hg.out; rw [gjson_AppendJSONString.g] at this; cases this
    | succ kk =>
    have hg1 := hg.out
    rw [gjson_AppendJSONString.g] at hg1
    clear hg
    by_cases hlt : x < a0.size
    · rw [if_pos hlt] at hg1
      have hx := bt_at a0 x
      have p1 : (0 ≤ x) = True := eq_true (by omega)
      have q1 : (x < (a0.size : Int)) = True := eq_true (by omega)
      have hb0 := (bt_range a0 x).1
      have hb1 := (bt_range a0 x).2
      rw [gjson_AppendJSONString.piece] at hg1
      by_cases h32 : bt a0 x < 32
      · rw [if_pos h32] at hg1
        by_cases e8 : bt a0 x = 8
        · rw [if_pos e8] at hg1
          have HG1 := Aside0.mk hg1
          clear hg1
          rw [e8] at hx
          clear hb0 hb1 h32
          go_wp2_with (first | (at_builtin; refine gjson_AppendJSONString.append_lits (w0 := w) w.heap.size rfl _ _ 42 5 rfl Tryd.underlying42 info5 _ (acc) [92] (by simp) rfl rfl ?aO1 ?aB1 ?aS1 ?aL1 ?_; (case aO1 => exact hown.out); (case aB1 => exact hbel.out); (case aS1 => exact (hbel.out).size); (case aL1 => have := hal.out; omega); intro v1 w1 ho hb; have o1_ := Aside0.mk ho; have b1_ := Aside0.mk hb; clear ho hb) | (at_builtin; refine gjson_AppendJSONString.append_lits (w0 := w) w.heap.size rfl _ _ 42 5 rfl Tryd.underlying42 info5 _ (acc ++ [92]) [98] (by simp) rfl rfl ?aO2 ?aB2 ?aS2 ?aL2 ?_; (case aO2 => exact o1_.out); (case aB2 => exact b1_.out); (case aS2 => exact (b1_.out).size); (case aL2 => have := hal.out; simp only [List.length_append, List.length_cons, List.length_nil]; omega); intro v2 w2 ho hb; have o2_ := Aside0.mk ho; have b2_ := Aside0.mk hb; clear ho hb))
          go_roundw
          case rel => exact ⟨kk, x + 1, acc ++ [92, 98], by omega, by omega, rfl, ⟨by have := hal.out; simp only [List.length_append, List.length_cons, List.length_nil]; omega⟩, HG1, ⟨by simpa using o2_.out⟩, b2_⟩
          case measure => simp [intOf]; omega
        · rw [if_neg e8] at hg1
          by_cases e12 : bt a0 x = 12
          · rw [if_pos e12] at hg1
            have HG1 := Aside0.mk hg1
            clear hg1
            rw [e12] at hx
            clear hb0 hb1 h32
            go_wp2_with (first | (at_builtin; refine gjson_AppendJSONString.append_lits (w0 := w) w.heap.size rfl _ _ 42 5 rfl Tryd.underlying42 info5 _ (acc) [92] (by simp) rfl rfl ?aO1 ?aB1 ?aS1 ?aL1 ?_; (case aO1 => exact hown.out); (case aB1 => exact hbel.out); (case aS1 => exact (hbel.out).size); (case aL1 => have := hal.out; omega); intro v1 w1 ho hb; have o1_ := Aside0.mk ho; have b1_ := Aside0.mk hb; clear ho hb) | (at_builtin; refine gjson_AppendJSONString.append_lits (w0 := w) w.heap.size rfl _ _ 42 5 rfl Tryd.underlying42 info5 _ (acc ++ [92]) [102] (by simp) rfl rfl ?aO2 ?aB2 ?aS2 ?aL2 ?_; (case aO2 => exact o1_.out); (case aB2 => exact b1_.out); (case aS2 => exact (b1_.out).size); (case aL2 => have := hal.out; simp only [List.length_append, List.length_cons, List.length_nil]; omega); intro v2 w2 ho hb; have o2_ := Aside0.mk ho; have b2_ := Aside0.mk hb; clear ho hb))
            go_roundw
            case rel => exact ⟨kk, x + 1, acc ++ [92, 102], by omega, by omega, rfl, ⟨by have := hal.out; simp only [List.length_append, List.length_cons, List.length_nil]; omega⟩, HG1, ⟨by simpa using o2_.out⟩, b2_⟩
            case measure => simp [intOf]; omega
          · rw [if_neg e12] at hg1
            by_cases e10 : bt a0 x = 10
            · rw [if_pos e10] at hg1
              have HG1 := Aside0.mk hg1
              clear hg1
              rw [e10] at hx
              clear hb0 hb1 h32
              go_wp2_with (first | (at_builtin; refine gjson_AppendJSONString.append_lits (w0 := w) w.heap.size rfl _ _ 42 5 rfl Tryd.underlying42 info5 _ (acc) [92] (by simp) rfl rfl ?aO1 ?aB1 ?aS1 ?aL1 ?_; (case aO1 => exact hown.out); (case aB1 => exact hbel.out); (case aS1 => exact (hbel.out).size); (case aL1 => have := hal.out; omega); intro v1 w1 ho hb; have o1_ := Aside0.mk ho; have b1_ := Aside0.mk hb; clear ho hb) | (at_builtin; refine gjson_AppendJSONString.append_lits (w0 := w) w.heap.size rfl _ _ 42 5 rfl Tryd.underlying42 info5 _ (acc ++ [92]) [110] (by simp) rfl rfl ?aO2 ?aB2 ?aS2 ?aL2 ?_; (case aO2 => exact o1_.out); (case aB2 => exact b1_.out); (case aS2 => exact (b1_.out).size); (case aL2 => have := hal.out; simp only [List.length_append, List.length_cons, List.length_nil]; omega); intro v2 w2 ho hb; have o2_ := Aside0.mk ho; have b2_ := Aside0.mk hb; clear ho hb))
              go_roundw
              case rel => exact ⟨kk, x + 1, acc ++ [92, 110], by omega, by omega, rfl, ⟨by have := hal.out; simp only [List.length_append, List.length_cons, List.length_nil]; omega⟩, HG1, ⟨by simpa using o2_.out⟩, b2_⟩
              case measure => simp [intOf]; omega
            · rw [if_neg e10] at hg1
              by_cases e13 : bt a0 x = 13
              · rw [if_pos e13] at hg1
                have HG1 := Aside0.mk hg1
                clear hg1
                rw [e13] at hx
                clear hb0 hb1 h32
                go_wp2_with (first | (at_builtin; refine gjson_AppendJSONString.append_lits (w0 := w) w.heap.size rfl _ _ 42 5 rfl Tryd.underlying42 info5 _ (acc) [92] (by simp) rfl rfl ?aO1 ?aB1 ?aS1 ?aL1 ?_; (case aO1 => exact hown.out); (case aB1 => exact hbel.out); (case aS1 => exact (hbel.out).size); (case aL1 => have := hal.out; omega); intro v1 w1 ho hb; have o1_ := Aside0.mk ho; have b1_ := Aside0.mk hb; clear ho hb) | (at_builtin; refine gjson_AppendJSONString.append_lits (w0 := w) w.heap.size rfl _ _ 42 5 rfl Tryd.underlying42 info5 _ (acc ++ [92]) [114] (by simp) rfl rfl ?aO2 ?aB2 ?aS2 ?aL2 ?_; (case aO2 => exact o1_.out); (case aB2 => exact b1_.out); (case aS2 => exact (b1_.out).size); (case aL2 => have := hal.out; simp only [List.length_append, List.length_cons, List.length_nil]; omega); intro v2 w2 ho hb; have o2_ := Aside0.mk ho; have b2_ := Aside0.mk hb; clear ho hb))
                go_roundw
                case rel => exact ⟨kk, x + 1, acc ++ [92, 114], by omega, by omega, rfl, ⟨by have := hal.out; simp only [List.length_append, List.length_cons, List.length_nil]; omega⟩, HG1, ⟨by simpa using o2_.out⟩, b2_⟩
                case measure => simp [intOf]; omega
              · rw [if_neg e13] at hg1
                by_cases e9 : bt a0 x = 9
                · rw [if_pos e9] at hg1
                  have HG1 := Aside0.mk hg1
                  clear hg1
                  rw [e9] at hx
                  clear hb0 hb1 h32
                  go_wp2_with (first | (at_builtin; refine gjson_AppendJSONString.append_lits (w0 := w) w.heap.size rfl _ _ 42 5 rfl Tryd.underlying42 info5 _ (acc) [92] (by simp) rfl rfl ?aO1 ?aB1 ?aS1 ?aL1 ?_; (case aO1 => exact hown.out); (case aB1 => exact hbel.out); (case aS1 => exact (hbel.out).size); (case aL1 => have := hal.out; omega); intro v1 w1 ho hb; have o1_ := Aside0.mk ho; have b1_ := Aside0.mk hb; clear ho hb) | (at_builtin; refine gjson_AppendJSONString.append_lits (w0 := w) w.heap.size rfl _ _ 42 5 rfl Tryd.underlying42 info5 _ (acc ++ [92]) [116] (by simp) rfl rfl ?aO2 ?aB2 ?aS2 ?aL2 ?_; (case aO2 => exact o1_.out); (case aB2 => exact b1_.out); (case aS2 => exact (b1_.out).size); (case aL2 => have := hal.out; simp only [List.length_append, List.length_cons, List.length_nil]; omega); intro v2 w2 ho hb; have o2_ := Aside0.mk ho; have b2_ := Aside0.mk hb; clear ho hb))
                  go_roundw
                  case rel => exact ⟨kk, x + 1, acc ++ [92, 116], by omega, by omega, rfl, ⟨by have := hal.out; simp only [List.length_append, List.length_cons, List.length_nil]; omega⟩, HG1, ⟨by simpa using o2_.out⟩, b2_⟩
                  case measure => simp [intOf]; omega
                · rw [if_neg e9] at hg1
                  have HG1 := Aside0.mk hg1
                  have HB0 := Aside0.mk hb0
                  have HB1 : Aside0 (bt a0 x < 256) := ⟨by omega⟩
                  have hw16 : IntKind.u16.wrap (bt a0 x) = bt a0 x := gjson_appendHex16.wraps_u16 _ hb0 (by omega)
                  clear hg1
                  have t8 : (bt a0 x == 8) = false := beq_eq_false_iff_ne.mpr (by omega)
                  have t12 : (bt a0 x == 12) = false := beq_eq_false_iff_ne.mpr (by omega)
                  have t10 : (bt a0 x == 10) = false := beq_eq_false_iff_ne.mpr (by omega)
                  have t13 : (bt a0 x == 13) = false := beq_eq_false_iff_ne.mpr (by omega)
                  have t9 : (bt a0 x == 9) = false := beq_eq_false_iff_ne.mpr (by omega)
                  have b1 : decide (bt a0 x < 32) = true := decide_eq_true h32
                  clear e8 e12 e10 e13 e9 h32 hb0 hb1
                  go_wp2_with (first | (at_builtin; refine gjson_AppendJSONString.append_lits (w0 := w) w.heap.size rfl _ _ 42 5 rfl Tryd.underlying42 info5 _ (acc) [92] (by simp) rfl rfl ?aO1 ?aB1 ?aS1 ?aL1 ?_; (case aO1 => exact hown.out); (case aB1 => exact hbel.out); (case aS1 => exact (hbel.out).size); (case aL1 => have := hal.out; omega); intro v1 w1 ho hb; have o1_ := Aside0.mk ho; have b1_ := Aside0.mk hb; clear ho hb) | (at_builtin; refine gjson_AppendJSONString.append_lits (w0 := w) w.heap.size rfl _ _ 42 5 rfl Tryd.underlying42 info5 _ (acc ++ [92]) [117] (by simp) rfl rfl ?aO2 ?aB2 ?aS2 ?aL2 ?_; (case aO2 => exact o1_.out); (case aB2 => exact b1_.out); (case aS2 => exact (b1_.out).size); (case aL2 => have := hal.out; simp only [List.length_append, List.length_cons, List.length_nil]; omega); intro v2 w2 ho hb; have o2_ := Aside0.mk ho; have b2_ := Aside0.mk hb; clear ho hb) | (go_at_call 60; refine (gjson_appendHex16.calls w.heap.size _ (acc ++ [92] ++ [117]) (bt a0 x) w _ ?hO ?hB ?hL ?hS ?h0 ?h1 ?hGl).mono ?_; (case hO => exact o2_.out); (case hB => exact b2_.out); (case hL => have := hal.out; simp only [List.length_append, List.length_cons, List.length_nil]; omega); (case hS => exact (b2_.out).size); (case h0 => exact HB0.out); (case h1 => exact HB1.out); (case hGl => exact Glob.below HG.out (b2_.out)); rintro e w' ⟨v9, rfl, ho, hb⟩; have o9_ := Aside0.mk ho; have b9_ := Aside0.mk hb; clear ho hb))
                  go_roundw
                  case rel => exact ⟨kk, x + 1, acc ++ gjson_AppendJSONString.hex (bt a0 x), by omega, by omega, rfl, ⟨by have := hal.out; have : (gjson_AppendJSONString.hex (bt a0 x)).length = 6 := rfl; simp only [List.length_append, List.length_cons, List.length_nil]; omega⟩, HG1, ⟨by simpa [gjson_AppendJSONString.hex] using o9_.out⟩, b9_⟩
                  case measure => simp [intOf]; omega
      · rw [if_neg h32] at hg1
        have b1 : decide (bt a0 x < 32) = false := decide_eq_false h32
        by_cases e62 : bt a0 x = 62
        · rw [if_pos e62] at hg1
          have HG1 := Aside0.mk hg1
          have HB0 := Aside0.mk hb0
          have HB1 : Aside0 (bt a0 x < 256) := ⟨by omega⟩
          have hw16 : IntKind.u16.wrap (bt a0 x) = bt a0 x := gjson_appendHex16.wraps_u16 _ hb0 (by omega)
          clear hg1
          have t62 : (bt a0 x == 62) = true := beq_iff_eq.mpr e62
          clear hb0 hb1 h32 e62
          go_wp2_with (first | (go_at_call 61; refine (gjson_AppendJSONString.html _).mono ?_; rintro e w' ⟨rfl, rfl⟩) | (at_builtin; refine gjson_AppendJSONString.append_lits (w0 := w) w.heap.size rfl _ _ 42 5 rfl Tryd.underlying42 info5 _ (acc) [92, 117] (by simp) rfl rfl ?aO1 ?aB1 ?aS1 ?aL1 ?_; (case aO1 => exact hown.out); (case aB1 => exact hbel.out); (case aS1 => exact (hbel.out).size); (case aL1 => have := hal.out; omega); intro v1 w1 ho hb; have o1_ := Aside0.mk ho; have b1_ := Aside0.mk hb; clear ho hb) | (go_at_call 60; refine (gjson_appendHex16.calls w.heap.size _ (acc ++ [92, 117]) (bt a0 x) w _ ?hO ?hB ?hL ?hS ?h0 ?h1 ?hGl).mono ?_; (case hO => exact o1_.out); (case hB => exact b1_.out); (case hL => have := hal.out; simp only [List.length_append, List.length_cons, List.length_nil]; omega); (case hS => exact (b1_.out).size); (case h0 => exact HB0.out); (case h1 => exact HB1.out); (case hGl => exact Glob.below HG.out (b1_.out)); rintro e w' ⟨v9, rfl, ho, hb⟩; have o9_ := Aside0.mk ho; have b9_ := Aside0.mk hb; clear ho hb))
          go_roundw
          case rel => exact ⟨kk, x + 1, acc ++ gjson_AppendJSONString.hex (bt a0 x), by omega, by omega, rfl, ⟨by have := hal.out; have : (gjson_AppendJSONString.hex (bt a0 x)).length = 6 := rfl; simp only [List.length_append, List.length_cons, List.length_nil]; omega⟩, HG1, ⟨by simpa [gjson_AppendJSONString.hex] using o9_.out⟩, b9_⟩
          case measure => simp [intOf]; omega
        · rw [if_neg e62] at hg1
          by_cases e60 : bt a0 x = 60
          · rw [if_pos e60] at hg1
            have HG1 := Aside0.mk hg1
            have HB0 := Aside0.mk hb0
            have HB1 : Aside0 (bt a0 x < 256) := ⟨by omega⟩
            have hw16 : IntKind.u16.wrap (bt a0 x) = bt a0 x := gjson_appendHex16.wraps_u16 _ hb0 (by omega)
            clear hg1
            have t62 : (bt a0 x == 62) = false := beq_eq_false_iff_ne.mpr (by omega)
            have t60 : (bt a0 x == 60) = true := beq_iff_eq.mpr e60
            clear hb0 hb1 h32 e60
            go_wp2_with (first | (go_at_call 61; refine (gjson_AppendJSONString.html _).mono ?_; rintro e w' ⟨rfl, rfl⟩) | (at_builtin; refine gjson_AppendJSONString.append_lits (w0 := w) w.heap.size rfl _ _ 42 5 rfl Tryd.underlying42 info5 _ (acc) [92, 117] (by simp) rfl rfl ?aO1 ?aB1 ?aS1 ?aL1 ?_; (case aO1 => exact hown.out); (case aB1 => exact hbel.out); (case aS1 => exact (hbel.out).size); (case aL1 => have := hal.out; omega); intro v1 w1 ho hb; have o1_ := Aside0.mk ho; have b1_ := Aside0.mk hb; clear ho hb) | (go_at_call 60; refine (gjson_appendHex16.calls w.heap.size _ (acc ++ [92, 117]) (bt a0 x) w _ ?hO ?hB ?hL ?hS ?h0 ?h1 ?hGl).mono ?_; (case hO => exact o1_.out); (case hB => exact b1_.out); (case hL => have := hal.out; simp only [List.length_append, List.length_cons, List.length_nil]; omega); (case hS => exact (b1_.out).size); (case h0 => exact HB0.out); (case h1 => exact HB1.out); (case hGl => exact Glob.below HG.out (b1_.out)); rintro e w' ⟨v9, rfl, ho, hb⟩; have o9_ := Aside0.mk ho; have b9_ := Aside0.mk hb; clear ho hb))
            go_roundw
            case rel => exact ⟨kk, x + 1, acc ++ gjson_AppendJSONString.hex (bt a0 x), by omega, by omega, rfl, ⟨by have := hal.out; have : (gjson_AppendJSONString.hex (bt a0 x)).length = 6 := rfl; simp only [List.length_append, List.length_cons, List.length_nil]; omega⟩, HG1, ⟨by simpa [gjson_AppendJSONString.hex] using o9_.out⟩, b9_⟩
            case measure => simp [intOf]; omega
          · rw [if_neg e60] at hg1
            by_cases e38 : bt a0 x = 38
            · rw [if_pos e38] at hg1
              have HG1 := Aside0.mk hg1
              have HB0 := Aside0.mk hb0
              have HB1 : Aside0 (bt a0 x < 256) := ⟨by omega⟩
              have hw16 : IntKind.u16.wrap (bt a0 x) = bt a0 x := gjson_appendHex16.wraps_u16 _ hb0 (by omega)
              clear hg1
              have t62 : (bt a0 x == 62) = false := beq_eq_false_iff_ne.mpr (by omega)
              have t60 : (bt a0 x == 60) = false := beq_eq_false_iff_ne.mpr (by omega)
              have t38 : (bt a0 x == 38) = true := beq_iff_eq.mpr e38
              clear hb0 hb1 h32 e38
              go_wp2_with (first | (go_at_call 61; refine (gjson_AppendJSONString.html _).mono ?_; rintro e w' ⟨rfl, rfl⟩) | (at_builtin; refine gjson_AppendJSONString.append_lits (w0 := w) w.heap.size rfl _ _ 42 5 rfl Tryd.underlying42 info5 _ (acc) [92, 117] (by simp) rfl rfl ?aO1 ?aB1 ?aS1 ?aL1 ?_; (case aO1 => exact hown.out); (case aB1 => exact hbel.out); (case aS1 => exact (hbel.out).size); (case aL1 => have := hal.out; omega); intro v1 w1 ho hb; have o1_ := Aside0.mk ho; have b1_ := Aside0.mk hb; clear ho hb) | (go_at_call 60; refine (gjson_appendHex16.calls w.heap.size _ (acc ++ [92, 117]) (bt a0 x) w _ ?hO ?hB ?hL ?hS ?h0 ?h1 ?hGl).mono ?_; (case hO => exact o1_.out); (case hB => exact b1_.out); (case hL => have := hal.out; simp only [List.length_append, List.length_cons, List.length_nil]; omega); (case hS => exact (b1_.out).size); (case h0 => exact HB0.out); (case h1 => exact HB1.out); (case hGl => exact Glob.below HG.out (b1_.out)); rintro e w' ⟨v9, rfl, ho, hb⟩; have o9_ := Aside0.mk ho; have b9_ := Aside0.mk hb; clear ho hb))
              go_roundw
              case rel => exact ⟨kk, x + 1, acc ++ gjson_AppendJSONString.hex (bt a0 x), by omega, by omega, rfl, ⟨by have := hal.out; have : (gjson_AppendJSONString.hex (bt a0 x)).length = 6 := rfl; simp only [List.length_append, List.length_cons, List.length_nil]; omega⟩, HG1, ⟨by simpa [gjson_AppendJSONString.hex] using o9_.out⟩, b9_⟩
              case measure => simp [intOf]; omega
            · rw [if_neg e38] at hg1
              have t62 : (bt a0 x == 62) = false := beq_eq_false_iff_ne.mpr (by omega)
              have t60 : (bt a0 x == 60) = false := beq_eq_false_iff_ne.mpr (by omega)
              have t38 : (bt a0 x == 38) = false := beq_eq_false_iff_ne.mpr (by omega)
              by_cases e92 : bt a0 x = 92
              · rw [if_pos e92] at hg1
                have HG1 := Aside0.mk hg1
                clear hg1
                have t92 : (bt a0 x == 92) = true := beq_iff_eq.mpr e92
                clear hb0 hb1 h32 e62 e60 e38 e92
                go_wp2_with (at_builtin; refine gjson_AppendJSONString.append_lits (w0 := w) w.heap.size rfl _ _ 42 5 rfl Tryd.underlying42 info5 _ (acc) [92, 92] (by simp) rfl rfl ?aO1 ?aB1 ?aS1 ?aL1 ?_; (case aO1 => exact hown.out); (case aB1 => exact hbel.out); (case aS1 => exact (hbel.out).size); (case aL1 => have := hal.out; omega); intro v1 w1 ho hb; have o1_ := Aside0.mk ho; have b1_ := Aside0.mk hb; clear ho hb)
                go_roundw
                case rel => exact ⟨kk, x + 1, acc ++ [92, 92], by omega, by omega, rfl, ⟨by have := hal.out; simp only [List.length_append, List.length_cons, List.length_nil]; omega⟩, HG1, o1_, b1_⟩
                case measure => simp [intOf]; omega
              · rw [if_neg e92] at hg1
                by_cases e34 : bt a0 x = 34
                · rw [if_pos e34] at hg1
                  have HG1 := Aside0.mk hg1
                  clear hg1
                  have t92 : (bt a0 x == 92) = false := beq_eq_false_iff_ne.mpr (by omega)
                  have t34 : (bt a0 x == 34) = true := beq_iff_eq.mpr e34
                  clear hb0 hb1 h32 e62 e60 e38 e34
                  go_wp2_with (at_builtin; refine gjson_AppendJSONString.append_lits (w0 := w) w.heap.size rfl _ _ 42 5 rfl Tryd.underlying42 info5 _ (acc) [92, 34] (by simp) rfl rfl ?aO1 ?aB1 ?aS1 ?aL1 ?_; (case aO1 => exact hown.out); (case aB1 => exact hbel.out); (case aS1 => exact (hbel.out).size); (case aL1 => have := hal.out; omega); intro v1 w1 ho hb; have o1_ := Aside0.mk ho; have b1_ := Aside0.mk hb; clear ho hb)
                  go_roundw
                  case rel => exact ⟨kk, x + 1, acc ++ [92, 34], by omega, by omega, rfl, ⟨by have := hal.out; simp only [List.length_append, List.length_cons, List.length_nil]; omega⟩, HG1, o1_, b1_⟩
                  case measure => simp [intOf]; omega
                · rw [if_neg e34] at hg1
                  have t92 : (bt a0 x == 92) = false := beq_eq_false_iff_ne.mpr (by omega)
                  have t34 : (bt a0 x == 34) = false := beq_eq_false_iff_ne.mpr (by omega)
                  clear e62 e60 e38 e92 e34 h32
                  by_cases h127 : 127 < bt a0 x
                  · rw [if_pos h127] at hg1
                    have b2 : decide (127 < bt a0 x) = true := decide_eq_true h127
                    have b3 : decide (bt a0 x > 127) = true := decide_eq_true h127
                    obtain ⟨hd0, hd1, hd2, hd3, hd4, hd5⟩ := dgo_bounds (a0.extract x.toNat a0.size)
                    have hes : (a0.extract x.toNat a0.size).size = a0.size - x.toNat := by rw [ByteArray.size_extract]; omega
                    rw [hes] at hd2 hd5
                    have hdc := Aside0.mk (fun W hG => dgo_calls (a0.extract x.toNat a0.size) W hG)
                    unfold gjson_AppendJSONString.high at hg1
                    simp only [] at hg1
                    generalize dgo (a0.extract x.toNat a0.size) = d at *
                    obtain ⟨r, n⟩ := d
                    simp only [] at hg1 hd0 hd1 hd2 hd3 hd4 hd5 hdc
                    have hn1 : 1 ≤ n := by omega
                    have hn2 : x + n ≤ a0.size := by omega
                    have n0 : (n == 0) = false := beq_eq_false_iff_ne.mpr (by omega)
                    clear hd5 hd2 hes hb0 hb1 h127
                    by_cases hr : r = 65533
                    · subst hr
                      by_cases hn : n = 1
                      · subst hn
                        rw [if_pos ⟨rfl, rfl⟩] at hg1
                        have HG1 := Aside0.mk hg1
                        clear hg1
                        go_wp2_with (first | (go_at_call 62; refine (hdc.out _ (Glob.below HG.out hbel.out)).mono ?_; rintro e w' ⟨rfl, hb⟩; have hown1 := Aside0.mk (OwnRow.own_below hown.out hb); have hbel1 := Aside0.mk (below_step hbel.out hb); clear hb) | (at_builtin; refine print_append_str (w0 := w) w.heap.size rfl _ _ 42 9 5 rfl Tryd.underlying42 Tryd.underlying9 info5 _ (acc) (⟨#[239, 191, 189]⟩) rfl ?aX1 ?aO1 ?aB1 ?aS1 ?aL1 ?_; (case aX1 => rfl); (case aO1 => exact hown1.out); (case aB1 => exact hbel1.out); (case aS1 => exact (hbel1.out).size); (case aL1 => have := hal.out; show acc.length + 3 ≤ _; omega); intro v1 w1 ho hb _; have o1_ := Aside0.mk ho; have b1_ := Aside0.mk hb; clear ho hb))
                        go_roundw
                        case rel => exact ⟨kk, x + 1, acc ++ [239, 191, 189], by omega, by omega, (by congr 1 <;> omega), ⟨by have := hal.out; simp only [List.length_append, List.length_cons, List.length_nil]; omega⟩, HG1, ⟨by have e : bytesOf ⟨#[239, 191, 189]⟩ = [239, 191, 189] := (by decide +kernel); rw [← e]; exact o1_.out⟩, b1_⟩
                        case measure => simp [intOf]; omega
                      · rw [if_neg (by omega), if_neg (by omega)] at hg1
                        have n1 : (n == 1) = false := beq_eq_false_iff_ne.mpr hn
                        have HG1 := Aside0.mk hg1
                        clear hg1
                        have hes : (a0.extract x.toNat (x + n).toNat).size = n.toNat := by rw [ByteArray.size_extract]; omega
                        have HES := Aside0.mk hes
                        have q3 : (x ≤ x + n) = True := eq_true (by omega)
                        have q4 : (0 ≤ x + n) = True := eq_true (by omega)
                        have q5 : (x + n ≤ (a0.size : Int)) = True := eq_true (by omega)
                        clear hes
                        go_wp2_with (first | (go_at_call 62; refine (hdc.out _ (Glob.below HG.out hbel.out)).mono ?_; rintro e w' ⟨rfl, hb⟩; have hown1 := Aside0.mk (OwnRow.own_below hown.out hb); have hbel1 := Aside0.mk (below_step hbel.out hb); clear hb) | (at_builtin; refine print_append_str (w0 := w) w.heap.size rfl _ _ 42 9 5 rfl Tryd.underlying42 Tryd.underlying9 info5 _ (acc) (a0.extract x.toNat (x + n).toNat) rfl ?aX1 ?aO1 ?aB1 ?aS1 ?aL1 ?_; (case aX1 => rfl); (case aO1 => exact hown1.out); (case aB1 => exact hbel1.out); (case aS1 => exact (hbel1.out).size); (case aL1 => have := hal.out; have := HES.out; omega); intro v1 w1 ho hb _; have o1_ := Aside0.mk ho; have b1_ := Aside0.mk hb; clear ho hb))
                        go_roundw
                        case rel => exact ⟨kk, x + n, acc ++ bytesOf (a0.extract x.toNat (x + n).toNat), by omega, by omega, (by congr 1 <;> omega), ⟨by have := hal.out; have := HES.out; rw [List.length_append, bytesOf_length]; omega⟩, HG1, o1_, b1_⟩
                        case measure => simp [intOf]; omega
                    · rw [if_neg (by omega)] at hg1
                      have r1 : (r == 65533) = false := beq_eq_false_iff_ne.mpr hr
                      by_cases hr8232 : r = 8232
                      · subst hr8232
                        rw [if_pos (by omega)] at hg1
                        have HG1 := Aside0.mk hg1
                        have m8 : Go.bits .and .i32 8232 15 = 8 := by decide +kernel
                        clear hg1
                        go_wp2_with (first | (go_at_call 62; refine (hdc.out _ (Glob.below HG.out hbel.out)).mono ?_; rintro e w' ⟨rfl, hb⟩; have hown1 := Aside0.mk (OwnRow.own_below hown.out hb); have hbel1 := Aside0.mk (below_step hbel.out hb); clear hb) | (at_builtin; refine print_append_str (w0 := w) w.heap.size rfl _ _ 42 9 5 rfl Tryd.underlying42 Tryd.underlying9 info5 _ (acc) (⟨#[92, 117, 50, 48, 50]⟩) rfl ?aX1 ?aO1 ?aB1 ?aS1 ?aL1 ?_; (case aX1 => rfl); (case aO1 => exact hown1.out); (case aB1 => exact hbel1.out); (case aS1 => exact (hbel1.out).size); (case aL1 => have := hal.out; show acc.length + 5 ≤ _; omega); intro v1 w1 ho hb _; have o1_ := Aside0.mk ho; have b1_ := Aside0.mk hb; have g8 := (Glob.below HG.out hb).hex 8 (by omega); clear ho hb) | (at_builtin; refine gjson_AppendJSONString.append_lits (w0 := w) w.heap.size rfl _ _ 42 5 rfl Tryd.underlying42 info5 _ (acc ++ bytesOf ⟨#[92, 117, 50, 48, 50]⟩) [hexc 8] (by simp) rfl rfl ?aO2 ?aB2 ?aS2 ?aL2 ?_; (case aO2 => exact o1_.out); (case aB2 => exact b1_.out); (case aS2 => exact (b1_.out).size); (case aL2 => have := hal.out; rw [List.length_append]; show acc.length + 5 ≤ _; omega); intro v2 w2 ho hb; have o2_ := Aside0.mk ho; have b2_ := Aside0.mk hb; clear ho hb))
                        go_roundw
                        case rel => exact ⟨kk, x + n, acc ++ [92, 117, 50, 48, 50, hexc 8], by omega, by omega, (by congr 1 <;> omega), ⟨by have := hal.out; simp only [List.length_append, List.length_cons, List.length_nil]; omega⟩, HG1, ⟨by have e : bytesOf ⟨#[92, 117, 50, 48, 50]⟩ = [92, 117, 50, 48, 50] := (by decide +kernel); have h_ := o2_.out; rw [e] at h_; simpa using h_⟩, b2_⟩
                        case measure => simp [intOf]; omega
                      · have r8 : (r == 8232) = false := beq_eq_false_iff_ne.mpr hr8232
                        by_cases hr8233 : r = 8233
                        · subst hr8233
                          rw [if_pos (by omega)] at hg1
                          have HG1 := Aside0.mk hg1
                          have m8 : Go.bits .and .i32 8233 15 = 9 := by decide +kernel
                          clear hg1
                          go_wp2_with (first | (go_at_call 62; refine (hdc.out _ (Glob.below HG.out hbel.out)).mono ?_; rintro e w' ⟨rfl, hb⟩; have hown1 := Aside0.mk (OwnRow.own_below hown.out hb); have hbel1 := Aside0.mk (below_step hbel.out hb); clear hb) | (at_builtin; refine print_append_str (w0 := w) w.heap.size rfl _ _ 42 9 5 rfl Tryd.underlying42 Tryd.underlying9 info5 _ (acc) (⟨#[92, 117, 50, 48, 50]⟩) rfl ?aX1 ?aO1 ?aB1 ?aS1 ?aL1 ?_; (case aX1 => rfl); (case aO1 => exact hown1.out); (case aB1 => exact hbel1.out); (case aS1 => exact (hbel1.out).size); (case aL1 => have := hal.out; show acc.length + 5 ≤ _; omega); intro v1 w1 ho hb _; have o1_ := Aside0.mk ho; have b1_ := Aside0.mk hb; have g8 := (Glob.below HG.out hb).hex 9 (by omega); clear ho hb) | (at_builtin; refine gjson_AppendJSONString.append_lits (w0 := w) w.heap.size rfl _ _ 42 5 rfl Tryd.underlying42 info5 _ (acc ++ bytesOf ⟨#[92, 117, 50, 48, 50]⟩) [hexc 9] (by simp) rfl rfl ?aO2 ?aB2 ?aS2 ?aL2 ?_; (case aO2 => exact o1_.out); (case aB2 => exact b1_.out); (case aS2 => exact (b1_.out).size); (case aL2 => have := hal.out; rw [List.length_append]; show acc.length + 5 ≤ _; omega); intro v2 w2 ho hb; have o2_ := Aside0.mk ho; have b2_ := Aside0.mk hb; clear ho hb))
                          go_roundw
                          case rel => exact ⟨kk, x + n, acc ++ [92, 117, 50, 48, 50, hexc 9], by omega, by omega, (by congr 1 <;> omega), ⟨by have := hal.out; simp only [List.length_append, List.length_cons, List.length_nil]; omega⟩, HG1, ⟨by have e : bytesOf ⟨#[92, 117, 50, 48, 50]⟩ = [92, 117, 50, 48, 50] := (by decide +kernel); have h_ := o2_.out; rw [e] at h_; simpa using h_⟩, b2_⟩
                          case measure => simp [intOf]; omega
                        · have r9 : (r == 8233) = false := beq_eq_false_iff_ne.mpr hr8233
                          rw [if_neg (by omega)] at hg1
                          have HG1 := Aside0.mk hg1
                          clear hg1
                          have hes : (a0.extract x.toNat (x + n).toNat).size = n.toNat := by rw [ByteArray.size_extract]; omega
                          have HES := Aside0.mk hes
                          have q3 : (x ≤ x + n) = True := eq_true (by omega)
                          have q4 : (0 ≤ x + n) = True := eq_true (by omega)
                          have q5 : (x + n ≤ (a0.size : Int)) = True := eq_true (by omega)
                          clear hes
                          go_wp2_with (first | (go_at_call 62; refine (hdc.out _ (Glob.below HG.out hbel.out)).mono ?_; rintro e w' ⟨rfl, hb⟩; have hown1 := Aside0.mk (OwnRow.own_below hown.out hb); have hbel1 := Aside0.mk (below_step hbel.out hb); clear hb) | (at_builtin; refine print_append_str (w0 := w) w.heap.size rfl _ _ 42 9 5 rfl Tryd.underlying42 Tryd.underlying9 info5 _ (acc) (a0.extract x.toNat (x + n).toNat) rfl ?aX1 ?aO1 ?aB1 ?aS1 ?aL1 ?_; (case aX1 => rfl); (case aO1 => exact hown1.out); (case aB1 => exact hbel1.out); (case aS1 => exact (hbel1.out).size); (case aL1 => have := hal.out; have := HES.out; omega); intro v1 w1 ho hb _; have o1_ := Aside0.mk ho; have b1_ := Aside0.mk hb; clear ho hb))
                          go_roundw
                          case rel => exact ⟨kk, x + n, acc ++ bytesOf (a0.extract x.toNat (x + n).toNat), by omega, by omega, (by congr 1 <;> omega), ⟨by have := hal.out; have := HES.out; rw [List.length_append, bytesOf_length]; omega⟩, HG1, o1_, b1_⟩
                          case measure => simp [intOf]; omega
                  · rw [if_neg h127] at hg1
                    have HG1 := Aside0.mk hg1
                    have b2 : decide (127 < bt a0 x) = false := decide_eq_false h127
                    have b3 : decide (bt a0 x > 127) = false := decide_eq_false h127
                    clear hg1 hb0 hb1 h127
                    go_wp2_with (at_builtin; refine gjson_AppendJSONString.append_lits (w0 := w) w.heap.size rfl _ _ 42 5 rfl Tryd.underlying42 info5 _ (acc) [bt a0 x] (by simp) rfl rfl ?aO1 ?aB1 ?aS1 ?aL1 ?_; (case aO1 => exact hown.out); (case aB1 => exact hbel.out); (case aS1 => exact (hbel.out).size); (case aL1 => have := hal.out; omega); intro v1 w1 ho hb; have o1_ := Aside0.mk ho; have b1_ := Aside0.mk hb; clear ho hb)
                    go_roundw
                    case rel => exact ⟨kk, x + 1, acc ++ [bt a0 x], by omega, by omega, rfl, ⟨by have := hal.out; simp only [List.length_append, List.length_cons, List.length_nil]; omega⟩, HG1, o1_, b1_⟩
                    case measure => simp [intOf]; omega
    · rw [if_neg hlt] at hg1
      have HE := Aside0.mk (Option.some.inj hg1)
      clear hg1
      go_wp2_with (at_builtin; refine gjson_AppendJSONString.append_lits (w0 := w) w.heap.size rfl _ _ 42 5 rfl Tryd.underlying42 info5 _ (acc) [34] (by simp) rfl rfl ?aO1 ?aB1 ?aS1 ?aL1 ?_; (case aO1 => exact hown.out); (case aB1 => exact hbel.out); (case aS1 => exact (hbel.out).size); (case aL1 => have := hal.out; omega); intro v1 w1 ho hb; have o1_ := Aside0.mk ho; have b1_ := Aside0.mk hb; clear ho hb)
      go_ret
      exact ⟨_, rfl, by rw [← HE.out]; exact o1_.out, b1_.out⟩
def impl_GjQuote.f (k : Nat) (a0 : ByteArray) : Option ByteArray := gjson_AppendJSONString.f k a0
theorem impl_GjQuote.mono : ∀ a0 k, LeO (impl_GjQuote.f k a0) (impl_GjQuote.f (k + 1) a0) := gjson_AppendJSONString.mono
set_option maxHeartbeats 800000 in
theorem impl_GjQuote.calls (k : Nat) (a0 : ByteArray) (r : ByteArray) (w : World) (hG : Glob w) (h : impl_GjQuote.f k a0 = some r) :
    Calls Tryd.prog 24 #[.string a0] w fun e w' => e = .returned (.string r) ∧ Below w.heap.size w w' := by
  unfold impl_GjQuote.f gjson_AppendJSONString.f at h
  by_cases hs : a0.size ≤ 65536
  · rw [if_pos hs] at h
    obtain ⟨res, hres, rfl⟩ := Option.map_eq_some_iff.mp h
    have HC := Aside0.mk (gjson_AppendJSONString.calls k a0 res w hG hs hres)
    clear h hres hG
    go_enter Tryd.func24, Tryd.ntmps24
    go_wp2_with (go_at_call 41; refine HC.out.mono ?_; rintro e w' ⟨v1, rfl, ho, hb⟩; have hcv := own_string (P := Tryd.prog) Tryd.underlying42 Tryd.underlying5 Tryd.underlying9 ho; have HB := Aside0.mk hb; clear ho hb)
    go_ret
    exact ⟨rfl, HB.out⟩
  · rw [if_neg hs] at h
    cases h


end Go.Proofs.YtdllbnecbbggfaaDoor.XFnGjQuoteValid
