/- unescapeConfig of jsonparser under a configuration with single quotes, where the only escapes are quotes behind backslashes. -/
import Derived.Test.YtlpcjgjphkdnbaaDoorXFnJpConfigQuotex0
import Derived.Test.YtlpcjgjphkdnbaaDoorXWords
import Derived.Test.YtlpcjgjphkdnbaaDoorOwnRow
import Derived.Test.YtlpcjgjphkdnbaaDoorIdxByte
import Derived.Outline
namespace Go.Proofs.YtlpcjgjphkdnbaaDoor.XFnJpConfigQuote
open Go.RowKit Go.Proofs.YtlpcjgjphkdnbaaDoorW.PrintWords Go.Proofs.YtlpcjgjphkdnbaaDoorW.PrintLast Go.Proofs.YtlpcjgjphkdnbaaDoorW.PrintMore
attribute [local go_sem] max2_int min2_int max_two min_two max_three min_three max_four min_four
set_option linter.unusedVariables false
set_option linter.unusedSimpArgs false
theorem info5 : (Tryd.prog.info? 5).map (fun i => (i.zero, i.size, i.bytes)) = some (some (.int .u8 0), 1, 1) := by kernel_rfl
/-- The escape of a quote, under a configuration with single quotes. -/
def unescQ.esc (k : Nat) (l : List Int) : Option (Int × List Int) :=
  if (l.length : Int) < 2 then none else if rd l 0 = 92 ∧ rd l 1 = 39 then some (2, [39]) else none
theorem unescQ.heap_alloc_lt (w : World) (x : Obj) {g : Nat} (h : g < w.heap.size) : (w.alloc x).heap[g]? = w.heap[g]? := by
  show (w.heap.push x)[g]? = _
  rw [Array.getElem?_push, if_neg (by omega)]
theorem unescQ.setCell_else {w : World} {g o : Nat} (v : Value) (b : Nat) (h : b ≠ g) : (w.setCell ⟨g, o, none⟩ v).heap[b]? = w.heap[b]? := by
  simp [World.setCell, Array.getElem?_modify, Ne.symm h]
theorem unescQ.setCells_else {g : Nat} (b : Nat) : ∀ (vs : List Value) (w : World) (o : Nat), b ≠ g → (w.setCells g o vs).heap[b]? = w.heap[b]?
  | [], _, _, _ => rfl
  | v :: r, w, o, h => (unescQ.setCells_else b r (w.setCell ⟨g, o, none⟩ v) (o + 1) h).trans (unescQ.setCell_else v b h)
theorem unescQ.splice_one (cur : List Value) (o : Nat) (v : Value) (h : o < cur.length) : Go.splice cur o [v] = cur.set o v := by
  unfold Go.splice
  rw [List.set_eq_take_append_cons_drop, if_pos h]
  simp
set_option maxHeartbeats 4000000 in
set_option maxRecDepth 100000 in
theorem unescQ.config_calls (eb : Bool) (k : Nat) (ad : Addr) (c0 : Nat) (l0 : List Int) (g o m C B : Nat) (cur : List Value) (ty : TypeId) (n : Int) (xs : List Int) (w : World) (hr0 : Kd.C (Kd.int .u8) w (some ad) l0.length l0) (hc0 : l0.length ≤ c0)
    (hg : w.heap[g]? = some (.cells cur.toArray ty (0, 0))) (hBg : B ≤ g) (hBw : B ≤ w.heap.size) (hroom : xs.length ≤ m) (hm : o + m ≤ cur.length) (hG : True) (h : unescQ.esc k l0 = some (n, xs)) :
    Calls Tryd.prog 14 #[.agg #[.bool true, .bool eb, .int .i64 0], .slice (some ad) l0.length c0, .slice (some ⟨g, o, none⟩) m C] w fun e w' => e = .returned (.tuple #[.int .i64 n, .int .i64 (xs.length : Int)]) ∧ Below B w w' ∧ w'.heap[g]? = some (.cells (Go.splice cur o (nums .u8 xs)).toArray ty (0, 0)) ∧ ∀ b, b < w.heap.size → b ≠ g → w'.heap[b]? = w.heap[b]? := by
  unfold unescQ.esc at h
  have HR := Aside0.mk hr0
  have HBG := Aside0.mk hBg
  have HBW := Aside0.mk hBw
  have HGG := Aside0.mk hg
  have HRM := Aside0.mk hroom
  have HMM := Aside0.mk hm
  have hgw : g < w.heap.size := by
    refine Nat.lt_of_not_le fun hle => ?_
    rw [Array.getElem?_eq_none hle] at hg
    cases hg
  have HGW := Aside0.mk hgw
  clear hr0 hG hBg hBw hg hroom hm hgw
  by_cases c1 : (l0.length : Int) < 2
  · rw [if_pos c1] at h
    cases h
  · rw [if_neg c1] at h
    have HL := Aside0.mk c1
    have hlb : decide ((l0.length : Int) < 2) = false := decide_eq_false c1
    have hln : decide (l0.length < 2) = false := decide_eq_false (by omega)
    obtain ⟨ad1, e1, hx0⟩ := Kd.at_int HR.out 0 (by omega) (by omega)
    obtain ⟨ad2, e2, hx1⟩ := Kd.at_int HR.out 1 (by omega) (by omega)
    obtain rfl : ad = ad1 := (by injection e1)
    obtain rfl : ad = ad2 := (by injection e2)
    clear e1 e2
    have p0 : ((0 : Int) < (l0.length : Int)) = True := eq_true (by omega)
    have p1 : ((1 : Int) < (l0.length : Int)) = True := eq_true (by omega)
    have p0n : (0 < l0.length) = True := eq_true (by omega)
    have p1n : (1 < l0.length) = True := eq_true (by omega)
    by_cases c2 : rd l0 0 = 92 ∧ rd l0 1 = 39
    · rw [if_pos c2] at h
      simp only [Option.some.injEq, Prod.mk.injEq] at h
      obtain ⟨rfl, rfl⟩ := h
      rw [c2.1] at hx0
      rw [c2.2] at hx1
      clear c2
      have Q0 : (w.alloc (.cells #[.bool true, .bool eb, .int .i64 0] 31)).cell? ad = some (.int .u8 92) := pw_cell_below (XWords.below_alloc0 (Nat.le_refl _) (Below.refl _ _) _) hx0
      have Q1 : (w.alloc (.cells #[.bool true, .bool eb, .int .i64 0] 31)).cell? ⟨ad.block, ad.off + 1, none⟩ = some (.int .u8 39) := pw_cell_below (XWords.below_alloc0 (Nat.le_refl _) (Below.refl _ _) _) hx1
      have QC0 : (w.alloc (.cells #[.bool true, .bool eb, .int .i64 0] 31)).cell? ⟨w.heap.size, 0, none⟩ = some (.bool true) := World.cell?_alloc_new w _ _ 0
      have HG1 : Aside0 ((w.alloc (.cells #[.bool true, .bool eb, .int .i64 0] 31)).heap[g]? = some (.cells cur.toArray ty (0, 0))) := ⟨(unescQ.heap_alloc_lt w _ HGW.out).trans HGG.out⟩
      have hm1 : 0 < m := by have := HRM.out; simp only [List.length_cons, List.length_nil] at this; omega
      have hoc : o < cur.length := by have := HMM.out; omega
      obtain ⟨v0, S0⟩ : ∃ v0, (w.alloc (.cells #[.bool true, .bool eb, .int .i64 0] 31)).cell? ⟨g, o, none⟩ = some v0 := ⟨cur[o]'hoc, by
        unfold World.cell?
        rw [HG1.out]
        simp [hoc]⟩
      have F0 : (w.alloc (.cells #[.bool true, .bool eb, .int .i64 0] 31)).frozen? ⟨g, o, none⟩ = false := by
        unfold World.frozen?
        rw [HG1.out]
        simp
      have hmi : ((0 : Int) < (m : Int)) = True := eq_true (by omega)
      have hmn : (0 < m) = True := eq_true hm1
      have HOC := Aside0.mk hoc
      clear hoc
      go_enter Tryd.func14, Tryd.ntmps14
      go_wp2
      go_ret2
      exact ⟨rfl, (XWords.below_alloc0 HBW.out (Below.refl _ _) _).setCell HBG.out _, by rw [OwnRow.heap_setCell HG1.out, show nums .u8 [(39 : Int)] = [.int .u8 39] from rfl, unescQ.splice_one _ _ _ HOC.out]; simp, fun b h1 h2 => by rw [unescQ.setCell_else _ _ h2, unescQ.heap_alloc_lt _ _ h1]⟩
    · rw [if_neg c2] at h
      cases h
/-! ### unescapeConfig -/
def unescQ.bsl : List Int → Int
  | [] => -1
  | x :: r => if x = 92 then 0 else if unescQ.bsl r = -1 then -1 else unescQ.bsl r + 1
theorem unescQ.bsl_range : ∀ l : List Int, -1 ≤ unescQ.bsl l ∧ unescQ.bsl l < l.length
  | [] => by simp [unescQ.bsl]
  | x :: r => by
    have := unescQ.bsl_range r
    rw [unescQ.bsl]
    simp only [List.length_cons]
    split
    · omega
    · split <;> omega
theorem unescQ.bsl_eq : ∀ l : List Int, (∀ x ∈ l, 0 ≤ x ∧ x ≤ 255) → Lib.indexByte (Lib.bytesOf l) (92 : Int).toNat.toUInt8 = unescQ.bsl l
  | [], _ => rfl
  | x :: r, h => by
    have ih := unescQ.bsl_eq r (fun y hy => h y (by simp [hy]))
    have hx := h x (by simp)
    unfold Lib.bytesOf at ih ⊢
    rw [List.map_cons, Lib.indexByte, unescQ.bsl, ih]
    have e : (UInt8.ofNat x.toNat == (92 : Int).toNat.toUInt8) = decide (x = 92) := by
      rw [Bool.eq_iff_iff, beq_iff_eq, decide_eq_true_eq]
      constructor
      · intro h
        have := congrArg UInt8.toNat h
        rw [UInt8.toNat_ofNat'] at this
        have e2 : ((92 : Int).toNat.toUInt8).toNat = 92 := rfl
        omega
      · rintro rfl; rfl
    rw [e]
    by_cases c : x = 92
    · simp [c]
    · simp [c]
/-- Unescaping, from a backslash on. -/
def unescQ.un : Nat → List Int → Option (List Int)
  | 0, _ => none
  | k + 1, l => (unescQ.esc (k + 1) l).bind fun t => if 0 ≤ t.1 ∧ t.1 ≤ l.length ∧ (t.2.length : Int) ≤ t.1 then
      (if unescQ.bsl (l.drop t.1.toNat) = -1 then some (t.2 ++ l.drop t.1.toNat) else (unescQ.un k ((l.drop t.1.toNat).drop (unescQ.bsl (l.drop t.1.toNat)).toNat)).bind fun q => some (t.2 ++ ((l.drop t.1.toNat).take (unescQ.bsl (l.drop t.1.toNat)).toNat ++ q)))
    else none
def unescQ.full (k : Nat) (l : List Int) : Option (List Int) := if unescQ.bsl l = -1 then some l else (unescQ.un k (l.drop (unescQ.bsl l).toNat)).bind fun q => some (l.take (unescQ.bsl l).toNat ++ q)
/-- The cells from ad on hold the bytes of l. -/
def unescQ.Cel (w : World) (ad : Addr) (l : List Int) : Prop := ∀ j, j < l.length → w.cell? (ad.add j) = some (.int .u8 (l.getD j 0))
theorem unescQ.Cel.below {w w' : World} {ad : Addr} {l : List Int} (h : unescQ.Cel w ad l) (hb : Below w.heap.size w w') : unescQ.Cel w' ad l := fun j hj => pw_cell_below hb (h j hj)
theorem unescQ.Cel.kd {w : World} {ad : Addr} {l : List Int} (h : unescQ.Cel w ad l) (hl : l.length ≤ 9223372036854775807) : Kd.C (Kd.int .u8) w (some ad) l.length l :=
  Kd.C_of_reads (d := (0 : Int)) (h1 := fun _ => rfl) ⟨rfl, hl, fun _ => ⟨ad, rfl, h⟩⟩
theorem unescQ.Cel.drop {w : World} {ad : Addr} {l : List Int} (h : unescQ.Cel w ad l) (n : Nat) : unescQ.Cel w (ad.add n) (l.drop n) := by
  intro j hj
  rw [List.length_drop] at hj
  have := h (n + j) (by omega)
  have ha : (ad.add n).add j = ad.add (n + j) := by
    unfold Addr.add
    by_cases h1 : n = 0 <;> by_cases h2 : j = 0 <;> simp [h1, h2, Nat.add_assoc]
  rw [ha, this]
  simp [List.getD_eq_getElem?_getD, List.getElem?_drop]
/-- What unescapeConfig hands back. -/
def unescQ.Post (B : Nat) (w : World) (out : List Int) (e : Ending) (w' : World) : Prop :=
  ∃ b o n c', e = .returned (.tuple #[.slice (some ⟨b, o, none⟩) n c', .nilIface]) ∧ n = out.length ∧ (∀ j, j < n → w'.cell? ⟨b, o + j, none⟩ = some (.int .u8 (out.getD j 0))) ∧ Below B w w'
theorem unescQ.add_block (ad : Addr) (n : Nat) : (ad.add n).block = ad.block := by
  unfold Addr.add
  split <;> rfl
theorem unescQ.Cel.belowB {B : Nat} {w w' : World} {ad : Addr} {l : List Int} (h : unescQ.Cel w ad l) (hb : Below B w w') (hab : ad.block < B) : unescQ.Cel w' ad l :=
  fun j hj => (hb.cell (p := ad.add j) (by rw [unescQ.add_block]; exact hab)).trans (h j hj)
/-- 'xs[m:]', and where it begins. -/
theorem unescQ.cut_from {P : Program} (t e : TypeId) {i : TypeInfo} (ht : P.underlying t = some (.slice e)) (hi : P.info? e = some i) (hsz : i.size = 1) (ad : Addr) (n c m : Nat) (hm : m ≤ n) :
    ∃ A' : Addr, (∀ W : World, (Instr.slice t (.slice (some ad) n c) (some (.int .i64 (m : Int))) none none).run P W = .ok (.slice (some A') (n - m) (c - m)) W) ∧ (m < c → A' = ad.add m) ∧ A'.block = ad.block := by
  refine ⟨if c = m then ad else ad.add m, fun W => ?_, fun h => if_neg (by omega), by split; rfl; exact unescQ.add_block _ _⟩
  have hel : P.elem t = e := by simp [Program.elem, ht]
  have hu : P.underlying t = some (.slice (P.elem t)) := by rw [hel]; exact ht
  rw [run_slice_l W t (some ad) n c hu .i64 (m : Int) (Int.natCast_nonneg _) (by omega), hel]
  by_cases hcm : c = m <;> simp [sizeOf, typeInfo, hi, hsz, sliced, Result.andThen, hcm]
theorem unescQ.copy_keep {P : Program} {w : World} {ops : Array Oper} {rest : List Oper} {o : Oper} {a : Act} {Q : Exit → Act → World → Prop} (hgd : o.guard = none) (d s : Operand) (dT sT : TypeId)
    (ho : o.op = .call { callee := .builtin .copy, args := #[d, s], argTypes := #[dT, sT] }) (elem : TypeId) (hu : P.underlying dT = some (.slice elem)) (hsz : (P.info? elem).map (·.size) = some 1)
    (da sa : Addr) (dLen dCap sLen sCap : Nat) (hd : a.eval d = .slice (some da) dLen dCap) (hs : a.eval s = .slice (some sa) sLen sCap)
    (g off : Nat) (cur : List Value) (t : TypeId) (hg : w.heap[g]? = some (.cells cur.toArray t (0, 0))) (xs : List Int) (hn : xs.length = sLen) (hle : sLen ≤ dLen)
    (hda : 0 < xs.length → da = ⟨g, off, none⟩) (hsrc : unescQ.Cel w sa xs) (hfit : off + xs.length ≤ cur.length)
    (h : ∀ w' : World, w'.heap[g]? = some (.cells (Go.splice cur off (nums .u8 xs)).toArray t (0, 0)) → (∀ b, b ≠ g → w'.heap[b]? = w.heap[b]?) → (∀ B w0, Below B w0 w → B ≤ g → Below B w0 w') → wpList P ops Q rest (a.put o.dst (goInt xs.length)) w') :
    wpList P ops Q (o :: rest) a w := by
  have hnl : (nums .u8 xs).length = xs.length := nums_length _ _
  by_cases h0 : xs.length = 0
  · obtain rfl : xs = [] := List.eq_nil_of_length_eq_zero h0
    refine wpList_copy_nothing hgd d s dT sT ho elem hu hsz _ _ dLen dCap sLen sCap hd hs (by rw [← hn]; exact Nat.zero_min _) ?_
    refine h w ?_ (fun b _ => rfl) (fun B w0 hb _ => hb)
    rw [hg]
    simp [Go.splice, nums]
  · obtain rfl := hda (by omega)
    have := wpList_copy_own (rest := rest) (Q := Q) (ops := ops) hgd d s dT sT ho elem hu hsz g off dLen dCap sa sLen sCap hd hs cur.toArray t hg (nums .u8 xs) (by rw [hnl, hn]; exact (Nat.min_eq_left hle).symm)
      (fun j v hv => by
        have hj : j < xs.length := by rw [← hnl]; exact (List.getElem?_eq_some_iff.mp hv).1
        rw [hsrc j hj]
        simp only [nums, List.getElem?_map, List.getElem?_eq_getElem hj, Option.map_some, Option.some.injEq] at hv
        rw [← hv, List.getD_eq_getElem?_getD, List.getElem?_eq_getElem hj]
        rfl) (by rw [hnl]; simpa using hfit) (by
        intro v hv
        obtain ⟨x, _, rfl⟩ := List.mem_map.1 hv
        rfl)
    refine this ?_
    rw [hnl]
    exact h _ (by rw [setRow_heap w g _ _ t _ hg]; simp [Go.splice, hnl]) (fun b hb => setRow_other w g b _ hb) (fun B w0 hb hBg => below_setRow hb hBg _)
/-- What holds of the world in unescapeConfig: the row g bears 'acc' at its begin; the configuration lies in bx. -/
structure unescQ.Inv (eb : Bool) (B : Nat) (w wr : World) (g N bx : Nat) (ty : TypeId) (acc : List Int) : Prop where
  below : Below B w wr
  row : ∃ cur : List Value, wr.heap[g]? = some (.cells cur.toArray ty (0, 0)) ∧ N ≤ cur.length ∧ cur.take acc.length = nums .u8 acc
  box : wr.heap[bx]? = some (.cells #[.bool true, .bool eb, .int .i64 0] 31 (0, 0))
  ne : bx ≠ g
theorem unescQ.splice_take (cur : List Value) (acc xs : List Int) (h : cur.take acc.length = nums .u8 acc) (hf : acc.length + xs.length ≤ cur.length) : (Go.splice cur acc.length (nums .u8 xs)).take (acc ++ xs).length = nums .u8 (acc ++ xs) := by
  have h1 : (nums .u8 acc).length = acc.length := nums_length _ _
  have h2 : (nums .u8 xs).length = xs.length := nums_length _ _
  unfold Go.splice
  rw [h, List.length_append, ← List.append_assoc, List.take_append_of_le_length (by rw [List.length_append]; omega), List.take_of_length_le (by rw [List.length_append]; omega)]
  simp [nums]
theorem unescQ.Inv.box0 {eb : Bool} {B : Nat} {w wr : World} {g N bx : Nat} {ty : TypeId} {acc : List Int} (h : unescQ.Inv eb B w wr g N bx ty acc) : wr.cell? ⟨bx, 0, none⟩ = some (.bool true) ∧ wr.cell? ⟨bx, 1, none⟩ = some (.bool eb) ∧ wr.cell? ⟨bx, 2, none⟩ = some (.int .i64 0) := by
  refine ⟨?_, ?_, ?_⟩ <;> (unfold World.cell?; rw [h.box]; rfl)
theorem unescQ.Cel.take {w : World} {ad : Addr} {l : List Int} (h : unescQ.Cel w ad l) (n : Nat) : unescQ.Cel w ad (l.take n) := by
  intro j hj
  rw [List.length_take] at hj
  rw [h j (by omega)]
  simp only [List.getD_eq_getElem?_getD]
  rw [List.getElem?_take_of_lt (by omega)]
theorem unescQ.esc_len {k : Nat} {l : List Int} {n : Int} {xs : List Int} (h : unescQ.esc k l = some (n, xs)) : 2 ≤ l.length := by
  unfold unescQ.esc at h
  split at h
  · cases h
  · omega
theorem unescQ.row_cell {w : World} {g : Nat} {ty : TypeId} {cur : List Value} {acc : List Int} (h1 : w.heap[g]? = some (.cells cur.toArray ty (0, 0))) (h3 : cur.take acc.length = nums .u8 acc) (j : Nat) (hj : j < acc.length) : w.cell? ⟨g, 0 + j, none⟩ = some (.int .u8 (acc.getD j 0)) := by
  rw [Nat.zero_add]
  have hg : (nums .u8 acc)[j]? = some (.int .u8 (acc.getD j 0)) := by simp [nums, List.getElem?_eq_getElem hj, List.getD_eq_getElem?_getD]
  rw [← h3, List.getElem?_take_of_lt hj] at hg
  unfold World.cell?
  rw [h1]
  simp [hg]
set_option maxHeartbeats 8000000 in
set_option maxRecDepth 100000 in
theorem unescQ.uc_calls (eb : Bool) (k : Nat) (ad : Addr) (had : ad.spot = none) (c : Nat) (l out : List Int) (g0 B : Nat) (cur0 : List Value) (ty : TypeId) (w : World) (hl : l.length ≤ 1000000) (hc : l.length ≤ c) (hcel : unescQ.Cel w ad l) (hab : ad.block < B) (hB : B ≤ g0) (hBw : B ≤ w.heap.size)
    (hg : w.heap[g0]? = some (.cells cur0.toArray ty (0, 0))) (h64 : cur0.length = 64) (hGB : ∀ w', Below B w w' → True) (hby : ∀ x ∈ l, 0 ≤ x ∧ x ≤ 255) (h : unescQ.full k l = some out) :
    Calls Tryd.prog 11 #[.agg #[.bool true, .bool eb, .int .i64 0], .slice (some ad) l.length c, .slice (some ⟨g0, 0, none⟩) 64 64] w (unescQ.Post B w out) := by
  unfold unescQ.full at h
  have hr := unescQ.bsl_range l
  have HGB := Aside0.mk hGB
  have HC := Aside0.mk hcel
  have HBB := Aside0.mk hB
  have HBW := Aside0.mk hBw
  have HGG := Aside0.mk hg
  have HBY := Aside0.mk hby
  have H64 := Aside0.mk h64
  have HAB := Aside0.mk hab
  have HB1 := Aside0.mk (XWords.below_alloc0 (Nat.le_refl _) (Below.refl w.heap.size w) (.cells #[.bool true, .bool eb, .int .i64 0] 31))
  have HC1 := Aside0.mk (HC.out.below HB1.out)
  have HE := Aside0.mk (unescQ.bsl_eq l hby)
  have HR := Aside0.mk hr
  clear hGB hcel hB hBw hg hby h64 hr hab
  by_cases c1 : unescQ.bsl l = -1
  · rw [if_pos c1] at h
    obtain rfl := Option.some.inj h
    have e1 : (unescQ.bsl l == -1) = true := beq_iff_eq.mpr c1
    clear c1 h
    go_enter Tryd.func11, Tryd.ntmps11
    go_wp2_with fail
    refine (Tryd.bytes_IndexByte_at ad l.length c l 92 _ rfl HC1.out).mono ?_
    rintro e w' ⟨rfl, rfl⟩
    rw [HE.out]
    go_wp2
    go_ret2
    refine ⟨ad.block, ad.off, l.length, c, ?_, rfl, ?_, (XWords.below_alloc0 HBW.out (Below.refl _ _) _)⟩
    · have e0 : ad = ⟨ad.block, ad.off, none⟩ := by cases ad; simp only [] at had; rw [had]
      exact congrArg (fun x => Ending.returned (.tuple #[.slice (some x) l.length c, .nilIface])) e0
    · intro j hj
      have h0 := HC1.out j hj
      have e0 : ad = ⟨ad.block, ad.off, none⟩ := by cases ad; simp only [] at had; rw [had]
      have ea : ad.add j = ⟨ad.block, ad.off + j, none⟩ := by
        rw [e0]
        unfold Addr.add
        split
        · rename_i hz; simp [hz]
        · rfl
      rw [ea] at h0
      exact h0
  · rw [if_neg c1] at h
    obtain ⟨q, hq, h⟩ := Option.bind_eq_some_iff.mp h
    obtain rfl := Option.some.inj h
    have e1 : (unescQ.bsl l == -1) = false := beq_eq_false_iff_ne.mpr c1
    obtain ⟨i, hi⟩ : ∃ i : Nat, unescQ.bsl l = (i : Int) := ⟨(unescQ.bsl l).toNat, by have := HR.out; omega⟩
    have hil : i < l.length := by have := HR.out; omega
    rw [hi] at e1 hq
    rw [Int.toNat_natCast] at hq
    have HI := Aside0.mk hi
    have HIL := Aside0.mk hil
    have HQ := Aside0.mk hq
    have HL := Aside0.mk hl
    have HCC := Aside0.mk hc
    have HEI : Aside0 (Lib.indexByte (Lib.bytesOf l) (92 : Int).toNat.toUInt8 = (i : Int)) := ⟨HE.out.trans hi⟩
    clear c1 h hq hi
    rw [HI.out, Int.toNat_natCast]
    obtain ⟨ti, htI, hts⟩ : ∃ ti, Tryd.prog.info? 5 = some ti ∧ ti.size = 1 := by
      have h0 : (Tryd.prog.info? 5).map (·.size) = some 1 := by kernel_rfl
      obtain ⟨a, b, c⟩ := Option.map_eq_some_iff.mp h0
      exact ⟨a, b, c⟩
    obtain ⟨adI, hcI, haI, hbI⟩ := unescQ.cut_from (P := Tryd.prog) 34 5 Tryd.underlying34 htI hts ad l.length c i (by omega)
    have HCI := Aside0.mk hcI
    have HAI := Aside0.mk haI
    have HBI := Aside0.mk hbI
    have HTI := Aside0.mk htI
    have HTS := Aside0.mk hts
    clear hcI haI hbI htI hts
    go_enter Tryd.func11, Tryd.ntmps11
    go_wp2_with fail
    refine (Tryd.bytes_IndexByte_at ad l.length c l 92 _ rfl HC1.out).mono ?_
    rintro e w' ⟨rfl, rfl⟩
    rw [HEI.out]
    go_upto_if 22 with (fail)
    go_cut [2] (fun v2 wc => ∃ (g C : Nat) (ty' : TypeId), v2 = .slice (some ⟨g, 0, none⟩) l.length C ∧ Aside0 (l.length ≤ C) ∧ Aside0 (B ≤ g) ∧ Aside0 (unescQ.Inv eb B w wc g l.length w.heap.size ty' []))
    case first =>
      have hgl : g0 < w.heap.size := by
        refine Nat.lt_of_not_le fun hle => ?_
        have := HGG.out
        rw [Array.getElem?_eq_none hle] at this
        cases this
      have HGL := Aside0.mk hgl
      clear hgl
      by_cases c2 : (64 : Int) < (l.length : Int)
      · have e2 : decide ((64 : Int) < (l.length : Int)) = true := decide_eq_true c2
        have e3 : decide (64 < l.length) = true := decide_eq_true (by omega)
        (first | rw [e2] | rw [e3] | skip)
        have hmk := fun W => print_make (P := Tryd.prog) 34 5 .u8 1 Tryd.underlying34 info5 (by omega) l.length (by omega) W
        go_wp2
        go_meet
        case rel => exact ⟨_, l.length, 5, rfl, ⟨Nat.le_refl _⟩, ⟨by have := HBW.out; omega⟩, ⟨⟨XWords.below_alloc0 (by rw [World.size_alloc]; have := HBW.out; omega) (XWords.below_alloc0 HBW.out (Below.refl _ _) _) _, ⟨(madeCells #[.int .u8 0] l.length).toList, (by have h0 := heap_alloc_new (w.alloc (.cells #[.bool true, .bool eb, .int .i64 0] 31)) (.cells (madeCells #[.int .u8 0] l.length) 5); rw [World.size_alloc] at h0; rw [h0]), by simp [madeCells], rfl⟩, by rw [unescQ.heap_alloc_lt _ _ (by rw [World.size_alloc]; omega)]; exact heap_alloc_new _ _, by omega⟩⟩⟩
      · have e2 : decide ((64 : Int) < (l.length : Int)) = false := decide_eq_false c2
        have e3 : decide (64 < l.length) = false := decide_eq_false (by omega)
        (first | rw [e2] | rw [e3] | skip)
        go_wp2
        go_meet
        case rel => exact ⟨g0, 64, ty, rfl, ⟨by omega⟩, HBB, ⟨⟨XWords.below_alloc0 HBW.out (Below.refl _ _) _, ⟨cur0, (unescQ.heap_alloc_lt _ _ HGL.out).trans HGG.out, by have := H64.out; omega, rfl⟩, heap_alloc_new _ _, by have := HGL.out; omega⟩⟩⟩
    case rest =>
      obtain ⟨g, C, ty', rfl, HC2, HBg, HV⟩ := hcut
      obtain ⟨cur, hcu, hcl, _⟩ := HV.out.row
      have HCU := Aside0.mk hcu
      have HCLN := Aside0.mk hcl
      clear hcu hcl
      have HSZ : Aside0 ((Tryd.prog.info? 5).map (·.size) = some 1) := ⟨by kernel_rfl⟩
      have hic : (i : Int) ≤ (c : Int) := by have := HCC.out; omega
      have hile : i ≤ l.length := by omega
      have HILE := Aside0.mk hile
      have HTK : Aside0 ((l.take i).length = i) := ⟨by rw [List.length_take]; omega⟩
      have HCELT : Aside0 (unescQ.Cel wc ad (l.take i)) := ⟨(HC.out.belowB HV.out.below HAB.out).take i⟩
      have HFIT : Aside0 (0 + (l.take i).length ≤ cur.length) := ⟨by rw [HTK.out]; have := HCLN.out; omega⟩
      obtain ⟨adO, hcO, haO, _⟩ := unescQ.cut_from (P := Tryd.prog) 34 5 Tryd.underlying34 HTI.out HTS.out ⟨g, 0, none⟩ l.length C i hile
      have hcI := HCI.out
      have HAO := Aside0.mk haO
      clear haO
      go_wp2_with ((with_reducible refine unescQ.copy_keep rfl (.tmp 30) (.tmp 33) 34 34 rfl 5 Tryd.underlying34 HSZ.out ⟨g, 0, none⟩ ad l.length C i c rfl rfl g 0 cur ty' HCU.out (l.take i) HTK.out HILE.out (fun _ => rfl) HCELT.out HFIT.out ?_); intro w3 hw3 hoth hbel; have HW3 := Aside0.mk hw3; have HOTH := Aside0.mk hoth; have HBEL := Aside0.mk hbel; clear hw3 hoth hbel)
      clear hcI hcO
      have HV3 : Aside0 (unescQ.Inv eb B w w3 g l.length w.heap.size ty' (l.take i)) := ⟨⟨HBEL.out B w HV.out.below HBg.out, ⟨_, HW3.out, by
          rw [length_splice _ _ _ (by rw [show (nums .u8 (l.take i)).length = (l.take i).length from nums_length _ _]; exact HFIT.out)]
          exact HCLN.out, by
          have := unescQ.splice_take cur [] (l.take i) rfl (by rw [List.length_nil]; exact HFIT.out)
          simpa using this⟩, (HOTH.out _ HV.out.ne).trans HV.out.box, HV.out.ne⟩⟩
      clear HV HCU HCLN HFIT HW3 HOTH HBEL HCELT
      go_loopg [1, 9] k (fun kq v1 v9 w' => ∃ (ad1 ad9 : Addr) (n1 c1 n9 c9 : Nat) (l1 acc rest : List Int), v1 = .slice (some ad1) n1 c1 ∧ v9 = .slice (some ad9) n9 c9 ∧ Aside0 (unescQ.un kq l1 = some rest) ∧ Aside0 (n1 = l1.length) ∧ Aside0 (n1 ≤ c1) ∧ Aside0 (n9 + acc.length = l.length ∧ c9 + acc.length = C ∧ acc.length + n1 ≤ l.length) ∧ Aside0 (unescQ.Cel w' ad1 l1 ∧ ad1.block < B) ∧ Aside0 (∀ x ∈ l1, 0 ≤ x ∧ x ≤ 255) ∧ Aside0 (acc ++ rest = l.take i ++ q) ∧ Aside0 (0 < c9 → ad9 = ⟨g, acc.length, none⟩) ∧ Aside0 (unescQ.Inv eb B w w' g l.length w.heap.size ty' acc) ∧ Aside0 (kq ≤ k))
      case atStart => exact ⟨adI, adO, l.length - i, c - i, l.length - i, C - i, l.drop i, l.take i, q, rfl, rfl, HQ, ⟨by rw [List.length_drop]⟩, ⟨by have := HCC.out; omega⟩, ⟨by rw [HTK.out]; have := HC2.out; omega⟩, ⟨by
          have hic2 : i < c := by have := HCC.out; have := HIL.out; omega
          rw [HAI.out hic2]
          exact ((HC.out.belowB HV3.out.below HAB.out).drop i), by rw [HBI.out]; exact HAB.out⟩, ⟨fun x hx => HBY.out x (List.mem_of_mem_drop hx)⟩, ⟨rfl⟩, ⟨fun h0 => by rw [HAO.out (by omega), add_plain, HTK.out]⟩, HV3, ⟨Nat.le_refl _⟩⟩
      case round =>
        clear HV3 HQ HAI HBI HAO HCI HIL HILE HTK HI HEI
        obtain ⟨ad1, ad9, n1, c1, n9, c9, l1, acc, rest, rfl, rfl, HU, HN1, HC1', HNN, HCE, HBY1, HACC, HA9, HV, HK⟩ := hrel
        cases gk with
        | zero => exact absurd HU.out (by simp [unescQ.un])
        | succ k1 =>
          have h := HU.out
          clear HU
          rw [unescQ.un] at h
          obtain ⟨⟨n, xs⟩, hesc, h⟩ := Option.bind_eq_some_iff.mp h
          simp only [] at h
          by_cases cc : 0 ≤ n ∧ n ≤ l1.length ∧ (xs.length : Int) ≤ n
          · rw [if_pos cc] at h
            obtain ⟨m1, m2, m3⟩ := cc
            obtain ⟨nn, rfl⟩ : ∃ nn : Nat, n = (nn : Int) := ⟨n.toNat, by omega⟩
            rw [Int.toNat_natCast] at h
            obtain rfl : n1 = l1.length := HN1.out
            have hl2 : 2 ≤ l1.length := unescQ.esc_len hesc
            obtain rfl : ad9 = ⟨g, acc.length, none⟩ := HA9.out (by have := HNN.out; have := HC2.out; omega)
            obtain ⟨cur9, hcu9, hcl9, htk9⟩ := HV.out.row
            have hx9 : xs.length ≤ n9 := by have := HNN.out; omega
            have hfit9 : acc.length + n9 ≤ cur9.length := by have := HNN.out; omega
            have hwr : B ≤ wr.heap.size := by
              have h1 := HV.out.below.size
              have := HBW.out
              omega
            have hcfg := unescQ.config_calls eb (k1 + 1) ad1 c1 l1 g acc.length n9 c9 B cur9 ty' nn xs wr (HCE.out.1.kd (by have := HNN.out; have := HL.out; omega)) HC1'.out hcu9 HBg.out hwr hx9 hfit9 (HGB.out wr HV.out.below) hesc
            have HCONF := Aside0.mk hcfg
            have HTK9 := Aside0.mk htk9
            have HCL9 := Aside0.mk hcl9
            have HX9 := Aside0.mk hx9
            have HMM1 := Aside0.mk m1
            have HMM2 := Aside0.mk m2
            have HMM3 := Aside0.mk m3
            have HF9 := Aside0.mk hfit9
            have HLL : Aside0 (l1.length ≤ 1000000) := ⟨by have := HNN.out; have := HL.out; omega⟩
            obtain ⟨hb0, hb1, hb2⟩ := HV.out.box0
            have hbx : w.heap.size < wr.heap.size := by
              refine Nat.lt_of_not_le fun hle => ?_
              have h0 := HV.out.box
              rw [Array.getElem?_eq_none hle] at h0
              cases h0
            have HBX := Aside0.mk hbx
            have hnl : nn ≤ l1.length := by omega
            have hxn : xs.length ≤ nn := by omega
            have HNL := Aside0.mk hnl
            have HXN := Aside0.mk hxn
            have enn : ((nn : Int) == -1) = false := beq_eq_false_iff_ne.mpr (by omega)
            obtain ⟨ad2, hc2', ha2, hb2'⟩ := unescQ.cut_from (P := Tryd.prog) 34 5 Tryd.underlying34 HTI.out HTS.out ad1 l1.length c1 nn hnl
            obtain ⟨ad3, hc3', ha3, _⟩ := unescQ.cut_from (P := Tryd.prog) 34 5 Tryd.underlying34 HTI.out HTS.out ⟨g, acc.length, none⟩ n9 c9 xs.length hx9
            have HA2 := Aside0.mk ha2
            have HA3 := Aside0.mk ha3
            have HB2 := Aside0.mk hb2'
            have H' := Aside0.mk h
            clear h ha2 ha3 hb2' hcu9 hcl9 htk9 hx9 hfit9 hwr hcfg m1 m2 m3 hesc hnl hxn hbx HA9
            go_upto_if 49 with (go_at_call 14; (with_reducible refine HCONF.out.mono ?_); rintro e w4 ⟨rfl, hw4a, hw4b, hw4c⟩; have HW4A := Aside0.mk hw4a; have HW4B := Aside0.mk hw4b; have HW4C := Aside0.mk hw4c; clear hw4a hw4b hw4c)
            clear hb0 hb1 hb2
            have HV4 : Aside0 (unescQ.Inv eb B w w4 g l.length w.heap.size ty' (acc ++ xs)) := ⟨⟨HV.out.below.trans HW4A.out, ⟨_, HW4B.out, by
                rw [length_splice _ _ _ (by rw [show (nums .u8 xs).length = xs.length from nums_length _ _]; have := HX9.out; have := HF9.out; omega)]
                exact HCL9.out, unescQ.splice_take cur9 acc xs HTK9.out (by have := HX9.out; have := HF9.out; omega)⟩, (HW4C.out _ HBX.out HV.out.ne).trans HV.out.box, HV.out.ne⟩⟩
            have HCE4 : Aside0 (unescQ.Cel w4 ad2 (l1.drop nn)) := ⟨by
              by_cases hz : nn < c1
              · rw [HA2.out hz]
                exact (HCE.out.1.belowB HW4A.out HCE.out.2).drop nn
              · intro j hj
                rw [List.length_drop] at hj
                have := HC1'.out
                omega⟩
            have HAB2 : Aside0 (ad2.block < B) := ⟨by rw [HB2.out]; exact HCE.out.2⟩
            have HBY2 : Aside0 (∀ x ∈ l1.drop nn, 0 ≤ x ∧ x ≤ 255) := ⟨fun x hx => HBY1.out x (List.mem_of_mem_drop hx)⟩
            have HDL : Aside0 ((l1.drop nn).length = l1.length - nn) := ⟨List.length_drop⟩
            have HE2 := Aside0.mk (unescQ.bsl_eq (l1.drop nn) HBY2.out)
            have HR2 := Aside0.mk (unescQ.bsl_range (l1.drop nn))
            have h := H'.out
            clear H' HV HW4A HW4B HW4C HCONF HTK9 HCL9
            by_cases q1 : unescQ.bsl (l1.drop nn) = -1
            · rw [if_pos q1] at h
              obtain rfl := Option.some.inj h
              have HQ1 : Aside0 (Lib.indexByte (Lib.bytesOf (l1.drop nn)) (92 : Int).toNat.toUInt8 = -1) := ⟨HE2.out.trans q1⟩
              clear h q1
              have hle1 : l1.length - nn ≤ n9 - xs.length := by have := HNN.out; have := HXN.out; have := HNL.out; omega
              obtain ⟨ad4, hc4', _, _⟩ := unescQ.cut_from (P := Tryd.prog) 34 5 Tryd.underlying34 HTI.out HTS.out ad3 (n9 - xs.length) (c9 - xs.length) (l1.length - nn) hle1
              obtain ⟨cur5, hcu5, hcl5, htk5⟩ := HV4.out.row
              have HCU5 := Aside0.mk hcu5
              have HLE1 := Aside0.mk hle1
              have HTK5 := Aside0.mk htk5
              have HCL5 := Aside0.mk hcl5
              have HDA : Aside0 (0 < (l1.drop nn).length → ad3 = ⟨g, (acc ++ xs).length, none⟩) := ⟨fun h0 => by
                rw [HDL.out] at h0
                rw [HA3.out (by have := HNN.out; have := HC2.out; have := HXN.out; omega), List.length_append]
                unfold Addr.add
                split
                · rename_i hz; rw [hz, Nat.add_zero]
                · rfl⟩
              have HFT : Aside0 ((acc ++ xs).length + (l1.drop nn).length ≤ cur5.length) := ⟨by
                rw [HDL.out, List.length_append]
                have := HNN.out; have := HCL5.out; have := HXN.out; have := HNL.out
                omega⟩
              obtain ⟨p, hp⟩ : ∃ p : Nat, p = acc.length + xs.length + (l1.length - nn) := ⟨_, rfl⟩
              have hwl : wrap64 ((l.length : Int) - ((n9 - xs.length - (l1.length - nn) : Nat) : Int)) = (p : Int) := by
                have := HNN.out; have := HXN.out; have := HNL.out; have := HL.out; have := HX9.out
                unfold wrap64
                omega
              have hpC : p ≤ C := by have := HNN.out; have := HXN.out; have := HNL.out; have := HC2.out; omega
              have HP := Aside0.mk hp
              clear hcu5 hcl5 htk5 hle1 hp
              go_wp2_with fail
              refine (Tryd.bytes_IndexByte_at ad2 (l1.length - nn) (c1 - nn) (l1.drop nn) 92 _ HDL.out (by have h0 := HCE4.out; unfold unescQ.Cel at h0; rw [HDL.out] at h0; exact h0)).mono ?_
              rintro e w5 ⟨rfl, rfl⟩
              rw [HQ1.out]
              go_wp2_with ((with_reducible refine unescQ.copy_keep rfl (.tmp 61) (.tmp 62) 34 34 rfl 5 Tryd.underlying34 HSZ.out ad3 ad2 (n9 - xs.length) (c9 - xs.length) (l1.length - nn) (c1 - nn) rfl rfl g (acc ++ xs).length cur5 ty' HCU5.out (l1.drop nn) HDL.out HLE1.out HDA.out HCE4.out HFT.out ?_); intro w6 hw6 hoth6 hbel6; have HW6 := Aside0.mk hw6; have HBEL6 := Aside0.mk hbel6; clear hw6 hoth6 hbel6)
              go_ret2
              have hpl : p = (acc ++ (xs ++ l1.drop nn)).length := by rw [HP.out, List.length_append, List.length_append, HDL.out]; omega
              refine ⟨g, 0, p, C, rfl, by rw [← HACC.out]; exact hpl, ?_, HBEL6.out B w HV4.out.below HBg.out⟩
              intro j hj
              have h0 := unescQ.splice_take cur5 (acc ++ xs) (l1.drop nn) HTK5.out HFT.out
              rw [List.append_assoc] at h0
              rw [← HACC.out]
              exact unescQ.row_cell HW6.out h0 j (by rw [← hpl]; exact hj)
            · rw [if_neg q1] at h
              obtain ⟨q2, hq2, h⟩ := Option.bind_eq_some_iff.mp h
              obtain rfl := Option.some.inj h
              obtain ⟨jj, hjj⟩ : ∃ jj : Nat, unescQ.bsl (l1.drop nn) = (jj : Int) := ⟨(unescQ.bsl (l1.drop nn)).toNat, by have := HR2.out; omega⟩
              have hjl : jj < l1.length - nn := by have := HR2.out; have := HDL.out; omega
              have HQ1 : Aside0 (Lib.indexByte (Lib.bytesOf (l1.drop nn)) (92 : Int).toNat.toUInt8 = (jj : Int)) := ⟨HE2.out.trans hjj⟩
              have ejj : ((jj : Int) == -1) = false := beq_eq_false_iff_ne.mpr (by omega)
              rw [hjj, Int.toNat_natCast] at hq2
              have HACC2 : Aside0 (acc ++ (xs ++ ((l1.drop nn).take jj ++ q2)) = l.take i ++ q) := ⟨by
                have := HACC.out
                rw [hjj, Int.toNat_natCast] at this
                exact this⟩
              have HQ2 := Aside0.mk hq2
              have hle1 : jj ≤ n9 - xs.length := by have := HNN.out; have := HXN.out; have := HNL.out; omega
              have hle2 : jj ≤ l1.length - nn := by omega
              obtain ⟨ad4, hc4', ha4, _⟩ := unescQ.cut_from (P := Tryd.prog) 34 5 Tryd.underlying34 HTI.out HTS.out ad3 (n9 - xs.length) (c9 - xs.length) jj hle1
              obtain ⟨ad5, hc5', ha5, hb5'⟩ := unescQ.cut_from (P := Tryd.prog) 34 5 Tryd.underlying34 HTI.out HTS.out ad2 (l1.length - nn) (c1 - nn) jj hle2
              obtain ⟨cur5, hcu5, hcl5, htk5⟩ := HV4.out.row
              have HCU5 := Aside0.mk hcu5
              have HLE1 := Aside0.mk hle1
              have HTK5 := Aside0.mk htk5
              have HCL5 := Aside0.mk hcl5
              have HA4 := Aside0.mk ha4
              have HA5 := Aside0.mk ha5
              have HB5 := Aside0.mk hb5'
              have HJL := Aside0.mk hjl
              have hjc : (jj : Int) ≤ ((c1 - nn : Nat) : Int) := by have := HC1'.out; omega
              have HTJ : Aside0 (((l1.drop nn).take jj).length = jj) := ⟨by rw [List.length_take, HDL.out]; omega⟩
              have HCEJ : Aside0 (unescQ.Cel w4 ad2 ((l1.drop nn).take jj)) := ⟨HCE4.out.take jj⟩
              have HDA : Aside0 (0 < ((l1.drop nn).take jj).length → ad3 = ⟨g, (acc ++ xs).length, none⟩) := ⟨fun h0 => by
                rw [HA3.out (by have := HNN.out; have := HC2.out; have := HXN.out; have := HJL.out; omega), List.length_append]
                unfold Addr.add
                split
                · rename_i hz; rw [hz, Nat.add_zero]
                · rfl⟩
              have HFT : Aside0 ((acc ++ xs).length + ((l1.drop nn).take jj).length ≤ cur5.length) := ⟨by
                rw [HTJ.out, List.length_append]
                have := HNN.out; have := HCL5.out; have := HXN.out; have := HNL.out; have := HJL.out
                omega⟩
              clear hcu5 hcl5 htk5 hle1 hle2 ha4 ha5 hb5' hjl hq2 h hjj q1
              go_wp2_with fail
              refine (Tryd.bytes_IndexByte_at ad2 (l1.length - nn) (c1 - nn) (l1.drop nn) 92 _ HDL.out (by have h0 := HCE4.out; unfold unescQ.Cel at h0; rw [HDL.out] at h0; exact h0)).mono ?_
              rintro e w5 ⟨rfl, rfl⟩
              rw [HQ1.out]
              go_wp2_with ((with_reducible refine unescQ.copy_keep rfl (.tmp 68) (.tmp 71) 34 34 rfl 5 Tryd.underlying34 HSZ.out ad3 ad2 (n9 - xs.length) (c9 - xs.length) jj (c1 - nn) rfl rfl g (acc ++ xs).length cur5 ty' HCU5.out ((l1.drop nn).take jj) HTJ.out HLE1.out HDA.out HCEJ.out HFT.out ?_); intro w6 hw6 hoth6 hbel6; have HW6 := Aside0.mk hw6; have HOTH6 := Aside0.mk hoth6; have HBEL6 := Aside0.mk hbel6; clear hw6 hoth6 hbel6)
              go_roundg k1
              case measure => omega
              case rel => exact ⟨ad5, ad4, l1.length - nn - jj, c1 - nn - jj, n9 - xs.length - jj, c9 - xs.length - jj, (l1.drop nn).drop jj, acc ++ (xs ++ (l1.drop nn).take jj), q2, rfl, rfl, HQ2, ⟨by rw [List.length_drop, HDL.out]⟩, ⟨by have := HC1'.out; omega⟩, ⟨by
                rw [List.length_append, List.length_append, HTJ.out]
                have := HNN.out; have := HXN.out; have := HNL.out; have := HJL.out; have := HC2.out; have := HX9.out
                omega⟩, ⟨by
                have hz : jj < c1 - nn := by have := HC1'.out; have := HJL.out; omega
                rw [HA5.out hz]
                exact ((HCE4.out.belowB (HBEL6.out B _ (Below.refl _ _) HBg.out) HAB2.out).drop jj), by rw [HB5.out]; exact HAB2.out⟩, ⟨fun x hx => HBY2.out x (List.mem_of_mem_drop hx)⟩, ⟨by rw [← HACC2.out, List.append_assoc, List.append_assoc]⟩, ⟨fun h0 => by
                rw [HA4.out (by omega), HA3.out (by omega), List.length_append, List.length_append, HTJ.out]
                unfold Addr.add
                by_cases z1 : xs.length = 0 <;> by_cases z2 : jj = 0 <;> simp [z1, z2, Nat.add_assoc]⟩, ⟨⟨HBEL6.out B w HV4.out.below HBg.out, ⟨_, HW6.out, by
                  rw [length_splice _ _ _ (by rw [show (nums .u8 ((l1.drop nn).take jj)).length = ((l1.drop nn).take jj).length from nums_length _ _]; exact HFT.out)]
                  exact HCL5.out, by
                  have h0 := unescQ.splice_take cur5 (acc ++ xs) ((l1.drop nn).take jj) HTK5.out HFT.out
                  rw [List.append_assoc] at h0
                  exact h0⟩, (HOTH6.out _ HV4.out.ne).trans HV4.out.box, HV4.out.ne⟩⟩, ⟨by have := HK.out; omega⟩⟩
          · rw [if_neg cc] at h
            cases h

end Go.Proofs.YtlpcjgjphkdnbaaDoor.XFnJpConfigQuote
