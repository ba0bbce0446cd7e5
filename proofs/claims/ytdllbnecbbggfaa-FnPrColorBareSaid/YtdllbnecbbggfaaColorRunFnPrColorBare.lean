/- Proved: pretty.Color with a style without marks gives back what it reads, whatever the text. -/
import Derived.Test.YtdllbnecbbggfaaXFnPrColorBarex1
import Derived.Lib.AppendZeros
import Derived.Deep.LoopGhost
import Derived.Deep.RegionLaw
import Derived.Deep.Cut
import Derived.Outline
namespace Go.Proofs.Ytdllbnecbbggfaa.XFnPrColorBare
open Go.RowKit Go.Proofs.YtdllbnecbbggfaaW.PrintWords Go.Proofs.YtdllbnecbbggfaaW.PrintLast Go.Proofs.YtdllbnecbbggfaaW.PrintMore
attribute [local go_sem] max2_int min2_int max_two min_two max_three min_three max_four min_four
set_option linter.unusedVariables false
set_option linter.unusedSimpArgs false
theorem pretty_Color.info8 : (Try.prog.info? 5).map (fun i => (i.zero, i.size, i.bytes)) = some (some (.int .u8 0), 1, 1) := by kernel_rfl
/-- append(dst, ""...): nothing turns. -/
theorem pretty_Color.append_none {P : Program} {ops : Array Oper} {rest : List Oper} {o : Oper} {a : Act} {Q : Exit → Act → World → Prop} {W : World} {base n : Nat} {xs : List Value} (hgd : o.guard = none) (s x : Operand) (t u e : TypeId)
    (ho : o.op = .call { callee := .builtin .append, args := #[s, x], argTypes := #[t, u] })
    (ht : P.underlying t = some (.slice e)) (hu : P.underlying u = some .string) (hinfo : (P.info? e).map (fun i => (i.zero, i.size, i.bytes)) = some (some (.int .u8 0), 1, 1))
    (v : Value) (hs : a.eval s = v) (hx : a.eval x = .string ⟨#[]⟩) (HO : W.ownsRow base e 1 v n xs)
    (h : wpList P ops Q rest (a.put o.dst v) W) : wpList P ops Q (o :: rest) a W := by
  obtain ⟨i0, hi, hzz⟩ := Option.map_eq_some_iff.1 hinfo
  simp only [Prod.mk.injEq] at hzz
  obtain ⟨hz0, hz1, hz2⟩ := hzz
  have z : (⟨#[]⟩ : ByteArray).size = 0 := rfl
  refine Lib.wpList_append_run _ hgd s x t u ho v (.string ⟨#[]⟩) hs hx v W ?_ h
  rcases HO.2 with ⟨rfl, hn⟩ | ⟨g, cap, cur, rfl, _, hg, hnc, hc, hsz, _⟩
  · simp [Builtin.append_, run_underlying ht, run_underlying hu, sizeOf, typeInfo, hi, Builtin.lenOf, Builtin.firstCells, z]
  · have hnc' : n ≤ cap := hnc
    simp [Builtin.append_, run_underlying ht, run_underlying hu, sizeOf, typeInfo, hi, Builtin.lenOf, Builtin.firstCells, z, hnc', storeCells]
/-- One step of a region that draws: append of one struct of two cells to the stack. -/
theorem pretty_Color.step_push {P : Program} {ops : Array Oper} {o : Oper} {a : Act} {Q : Exit → Act → World → Prop} {K : Act → World → Prop} {E : Prop} {w0 W : World} (base : Nat) (hgd : o.guard = none) (s x : Operand) (t e : TypeId) (z : Value)
    (ho : o.op = .call { callee := .builtin .append, args := #[s, x], argTypes := #[t, t] })
    (ht : P.underlying t = some (.slice e)) (hinfo : (P.info? e).map (fun i => (i.zero, i.size, i.bytes)) = some (some z, 2, 2)) (hz : z.cells.size = 2)
    (v : Value) (n : Nat) (xs : List Value) (y1 y2 : Value) (ad : Addr) (c : Nat) (hs : a.eval s = v) (hx : a.eval x = .slice (some ad) 1 c) (h1 : y1.oneCell' = true) (h2 : y2.oneCell' = true)
    (HO : W.ownsRow base e 2 v n xs) (hc1 : W.cell? (ad.add 0) = some y1) (hc2 : W.cell? (ad.add 1) = some y2) (HB : Below base w0 W) (hbase : base ≤ W.heap.size) (hl : n ≤ 4294967296)
    (h : ∀ v1 w1, w1.ownsRow base e 2 v1 (n + 1) (xs ++ [y1, y2]) → Below base w0 w1 → W.grownBy w1 v.ownBlock → (v1.ownBlock = v.ownBlock ∨ v1.ownBlock = some W.heap.size) → K (a.put o.dst v1) w1) :
    if Region.wanted o (yielded ops a.tmps) = true then Oper.wp P o a W K Q else E := by
  have hw : Region.wanted o (yielded ops a.tmps) = true := by simp [Region.wanted, hgd]
  obtain ⟨i0, hi, hzz⟩ := Option.map_eq_some_iff.1 hinfo
  simp only [Prod.mk.injEq] at hzz
  obtain ⟨hz0, hz1, hz2⟩ := hzz
  have hcells : ∀ j u, [y1, y2][j]? = some u → W.cell? (ad.add j) = some u := by
    intro j u hu
    match j, hu with
    | 0, hu => rw [hc1, ← hu]; rfl
    | 1, hu => rw [hc2, ← hu]; rfl
    | j + 2, hu => cases hu
  rw [if_pos hw]
  obtain ⟨v1, w1, hr, hown, hg, _, hat⟩ := run_append_own_at (P := P) W base t o.type e i0 z 2 2 ht hi hz0 hz1 hz2 hz (by omega) v n xs HO ad 1 c [y1, y2] rfl
    hcells (by intro u hu; simp only [List.mem_cons, List.mem_nil_iff, or_false] at hu; rcases hu with rfl | rfl; exact h1; exact h2) (by simp only [maxLen]; omega) (by omega) hbase
  unfold Oper.wp execOp
  simp only [ho, resolve, invoke, builtin, Sem.run_bind, Sem.run_pure, Result.andThen_ok, List.map_toArray, List.map_cons, List.map_nil, hs, hx, hr]
  exact h v1 w1 hown (HB.grown hg hbase (own_base HO)) hg hat
set_option maxHeartbeats 1000000 in
theorem pretty_Color.put_one (base : Nat) (v : Value) (xs : List Int) (c : Int) (w0 w : World) (hO : w.ownsRow base 5 1 v xs.length (nums .u8 xs)) (hB : Below base w0 w) (hl : xs.length ≤ 4294967296) (hb : base ≤ w.heap.size) :
    Calls Try.prog 30 #[v, .int .u8 c] w fun e w' => ∃ v1, e = .returned v1 ∧ w'.ownsRow base 5 1 v1 (xs ++ [c]).length (nums .u8 (xs ++ [c])) ∧ Below base w0 w' ∧ w.grownBy w' v.ownBlock ∧ (v1.ownBlock = v.ownBlock ∨ ∃ b, v1.ownBlock = some b ∧ w.heap.size ≤ b) := by
  have HO := Aside0.mk hO
  have HB := Aside0.mk hB
  clear hO hB
  go_enter Try.func30, Try.ntmps30
  go_wp2_with (at_builtin; refine print_append_num (w0 := w0) base rfl _ _ 37 5 .u8 1 rfl Try.underlying37 pretty_Color.info8 (by omega) _ xs c rfl rfl ?aO ?aB ?aS ?aL ?_; (case aO => exact HO.out); (case aB => exact HB.out); (case aS => exact hb); (case aL => omega); intro v1 w1 ho hb2 hg hat; have o1_ := Aside0.mk ho; have b1_ := Aside0.mk hb2; have g1_ := Aside0.mk hg; have a1_ := Aside0.mk hat; clear ho hb2 hg hat)
  go_ret
  exact ⟨_, rfl, o1_.out, b1_.out, g1_.out, a1_.out⟩
/-- A style without marks, behind the pointer. -/
structure pretty_Color.Bare (g : Nat) (w : World) : Prop where
  str : ∀ j, j < 16 → w.cell? ⟨g, j, none⟩ = some (.string ⟨#[]⟩)
  fn : w.cell? ⟨g, 16, none⟩ = some .nilFunc
theorem pretty_Color.Bare.below {g : Nat} {w w' : World} (h : pretty_Color.Bare g w) (hb : Below w.heap.size w w') : pretty_Color.Bare g w' := ⟨fun j hj => pw_cell_below hb (h.str j hj), pw_cell_below hb h.fn⟩
/-- The stack's cells. -/
def pretty_Color.cells (st : List (Int × Bool)) : List Value := st.flatMap fun p => [.int .u8 p.1, .bool p.2]
/-- What holds at the head of every round: dst has what was read, the stack is a row of its own in another block. -/
structure pretty_Color.Inv (w wr : World) (vd vs : Value) (acc : List Int) (st : List (Int × Bool)) : Prop where
  dst : wr.ownsRow w.heap.size 5 1 vd acc.length (nums .u8 acc)
  stk : wr.ownsRow w.heap.size 60 2 vs st.length (pretty_Color.cells st)
  apart : vs.ownBlock = none ∨ vd.ownBlock ≠ vs.ownBlock
  below : Below w.heap.size w wr
set_option maxRecDepth 100000 in
/-- A frame of 512 slots, written out. -/
theorem pretty_Color.frame_lit (a : Act) (hs : a.tmps.size = 512) (hd : a.defers = []) : ∃ f : Nat → Value, (∀ n, f n = a.tmps.getD n undef) ∧ a = ⟨#[f 0, f 1, f 2, f 3, f 4, f 5, f 6, f 7, f 8, f 9, f 10, f 11, f 12, f 13, f 14, f 15, f 16, f 17, f 18, f 19, f 20, f 21, f 22, f 23, f 24, f 25, f 26, f 27, f 28, f 29, f 30, f 31, f 32, f 33, f 34, f 35, f 36, f 37, f 38, f 39, f 40, f 41, f 42, f 43, f 44, f 45, f 46, f 47, f 48, f 49, f 50, f 51, f 52, f 53, f 54, f 55, f 56, f 57, f 58, f 59, f 60, f 61, f 62, f 63, f 64, f 65, f 66, f 67, f 68, f 69, f 70, f 71, f 72, f 73, f 74, f 75, f 76, f 77, f 78, f 79, f 80, f 81, f 82, f 83, f 84, f 85, f 86, f 87, f 88, f 89, f 90, f 91, f 92, f 93, f 94, f 95, f 96, f 97, f 98, f 99, f 100, f 101, f 102, f 103, f 104, f 105, f 106, f 107, f 108, f 109, f 110, f 111, f 112, f 113, f 114, f 115, f 116, f 117, f 118, f 119, f 120, f 121, f 122, f 123, f 124, f 125, f 126, f 127, f 128, f 129, f 130, f 131, f 132, f 133, f 134, f 135, f 136, f 137, f 138, f 139, f 140, f 141, f 142, f 143, f 144, f 145, f 146, f 147, f 148, f 149, f 150, f 151, f 152, f 153, f 154, f 155, f 156, f 157, f 158, f 159, f 160, f 161, f 162, f 163, f 164, f 165, f 166, f 167, f 168, f 169, f 170, f 171, f 172, f 173, f 174, f 175, f 176, f 177, f 178, f 179, f 180, f 181, f 182, f 183, f 184, f 185, f 186, f 187, f 188, f 189, f 190, f 191, f 192, f 193, f 194, f 195, f 196, f 197, f 198, f 199, f 200, f 201, f 202, f 203, f 204, f 205, f 206, f 207, f 208, f 209, f 210, f 211, f 212, f 213, f 214, f 215, f 216, f 217, f 218, f 219, f 220, f 221, f 222, f 223, f 224, f 225, f 226, f 227, f 228, f 229, f 230, f 231, f 232, f 233, f 234, f 235, f 236, f 237, f 238, f 239, f 240, f 241, f 242, f 243, f 244, f 245, f 246, f 247, f 248, f 249, f 250, f 251, f 252, f 253, f 254, f 255, f 256, f 257, f 258, f 259, f 260, f 261, f 262, f 263, f 264, f 265, f 266, f 267, f 268, f 269, f 270, f 271, f 272, f 273, f 274, f 275, f 276, f 277, f 278, f 279, f 280, f 281, f 282, f 283, f 284, f 285, f 286, f 287, f 288, f 289, f 290, f 291, f 292, f 293, f 294, f 295, f 296, f 297, f 298, f 299, f 300, f 301, f 302, f 303, f 304, f 305, f 306, f 307, f 308, f 309, f 310, f 311, f 312, f 313, f 314, f 315, f 316, f 317, f 318, f 319, f 320, f 321, f 322, f 323, f 324, f 325, f 326, f 327, f 328, f 329, f 330, f 331, f 332, f 333, f 334, f 335, f 336, f 337, f 338, f 339, f 340, f 341, f 342, f 343, f 344, f 345, f 346, f 347, f 348, f 349, f 350, f 351, f 352, f 353, f 354, f 355, f 356, f 357, f 358, f 359, f 360, f 361, f 362, f 363, f 364, f 365, f 366, f 367, f 368, f 369, f 370, f 371, f 372, f 373, f 374, f 375, f 376, f 377, f 378, f 379, f 380, f 381, f 382, f 383, f 384, f 385, f 386, f 387, f 388, f 389, f 390, f 391, f 392, f 393, f 394, f 395, f 396, f 397, f 398, f 399, f 400, f 401, f 402, f 403, f 404, f 405, f 406, f 407, f 408, f 409, f 410, f 411, f 412, f 413, f 414, f 415, f 416, f 417, f 418, f 419, f 420, f 421, f 422, f 423, f 424, f 425, f 426, f 427, f 428, f 429, f 430, f 431, f 432, f 433, f 434, f 435, f 436, f 437, f 438, f 439, f 440, f 441, f 442, f 443, f 444, f 445, f 446, f 447, f 448, f 449, f 450, f 451, f 452, f 453, f 454, f 455, f 456, f 457, f 458, f 459, f 460, f 461, f 462, f 463, f 464, f 465, f 466, f 467, f 468, f 469, f 470, f 471, f 472, f 473, f 474, f 475, f 476, f 477, f 478, f 479, f 480, f 481, f 482, f 483, f 484, f 485, f 486, f 487, f 488, f 489, f 490, f 491, f 492, f 493, f 494, f 495, f 496, f 497, f 498, f 499, f 500, f 501, f 502, f 503, f 504, f 505, f 506, f 507, f 508, f 509, f 510, f 511], []⟩ := by
  obtain ⟨t, d⟩ := a
  simp only [] at hs hd
  subst hd
  refine ⟨fun n => t.getD n undef, fun _ => rfl, ?_⟩
  have h : t = ((List.range 512).map fun n => t.getD n undef).toArray := by
    apply Array.ext
    · simp [hs]
    · intro i h1 h2
      simp [Array.getD, h1]
  exact congrArg (fun x => Act.mk x []) h
/-- What is kept of the frame at the heads of the loops. -/
structure pretty_Color.Fr (a : Act) (s0 s1 s5 : Value) : Prop where
  size : a.tmps.size = 512
  defers : a.defers = []
  e0 : a.tmps.getD 0 undef = s0
  e1 : a.tmps.getD 1 undef = s1
  e5 : a.tmps.getD 5 undef = s5
/-- The frame at a place of a round: the output, the stack, the index. -/
structure pretty_Color.At (s0 s1 s5 vd vs : Value) (y : Int) (a : Act) : Prop where
  fr : pretty_Color.Fr a s0 s1 s5
  d : a.tmps.getD 6 undef = vd
  s : a.tmps.getD 7 undef = vs
  i : a.tmps.getD 8 undef = .int .i64 y
theorem pretty_Color.wp_cut_block {P : Program} {s : Code} {K : Act → World → Prop} {Q' : Exit → Act → World → Prop} {a : Act} {w : World} {id : Nat} (R : Act → World → Prop)
    (rest : ∀ a' w', R a' w' → K a' w')
    (first : ∀ (J K' : Act → World → Prop), (∀ a' w', R a' w' → J a' w') → (∀ a' w', Met J a' w' → K' a' w') → s.wp P (Exit.inBlock id (Exit.then K' Q')) a w) : s.wp P (Exit.inBlock id (Exit.then K Q')) a w := by
  refine wp_mono (first R R (fun _ _ q => q) (fun _ _ q => q)) ?_
  intro e a' w' hq
  cases e with
  | normal => exact rest _ _ hq
  | exit id' =>
    simp only [Exit.inBlock] at hq ⊢
    split at hq
    · rename_i h; rw [if_pos h]; exact rest _ _ hq
    · rename_i h; rw [if_neg h]; exact hq
  | goto l => exact hq
  | ret => exact hq
  | panic ch => exact hq
  | outgrown => exact hq
theorem pretty_Color.take_rd (l : List Int) (x : Nat) (h : x < l.length) : l.take x ++ [rd l (x : Int)] = l.take (x + 1) := by
  rw [List.take_add_one, List.getElem?_eq_getElem h]
  simp [rd, List.getD, h]
theorem pretty_Color.take_end (l : List Int) (n : Nat) (h : l.length ≤ n) : l.take n = l := List.take_of_length_le h
theorem pretty_Color.Inv.put {w wr w1 : World} {vd vs v1 : Value} {acc : List Int} {st : List (Int × Bool)} {c : Int} (h : pretty_Color.Inv w wr vd vs acc st) (ho : w1.ownsRow w.heap.size 5 1 v1 (acc ++ [c]).length (nums .u8 (acc ++ [c]))) (hb : Below w.heap.size w w1) (hg : wr.grownBy w1 vd.ownBlock) (hat : v1.ownBlock = vd.ownBlock ∨ ∃ b, v1.ownBlock = some b ∧ wr.heap.size ≤ b) : pretty_Color.Inv w w1 v1 vs (acc ++ [c]) st := by
  refine ⟨ho, h.stk.kept hg (h.apart.imp id Ne.symm), ?_, hb⟩
  rcases h.apart with ha | ha
  · exact .inl ha
  · rcases hat with e | ⟨b, e, hlt⟩
    · exact .inr (by rw [e]; exact ha)
    · right
      intro e2
      have := (h.stk.lt b (by rw [← e2, e])).2
      omega
theorem pretty_Color.Inv.alloc {w W : World} {vd vs : Value} {acc : List Int} {st : List (Int × Bool)} (h : pretty_Color.Inv w W vd vs acc st) (o : Obj) : pretty_Color.Inv w (W.alloc o) vd vs acc st := by
  refine ⟨h.dst.alloc o, h.stk.alloc o, h.apart, ?_⟩
  have hb := h.below
  have hg := World.grownBy_alloc W o none
  exact ⟨hg.os.trans hb.os, hg.tape.trans hb.tape, hg.output.trans hb.output, Nat.le_trans hb.size hg.size, fun k hk => (hg.block k (by have := hb.size; omega) (by simp)).trans (hb.block k hk)⟩
theorem pretty_Color.Inv.drew {w W : World} {vd vs : Value} {acc : List Int} {st : List (Int × Bool)} (h : pretty_Color.Inv w W vd vs acc st) : pretty_Color.Inv w W.drew vd vs acc st := ⟨h.dst.drew, h.stk.drew, h.apart, ⟨h.below.os, h.below.tape, h.below.output, h.below.size, h.below.block⟩⟩
theorem pretty_Color.cells_snoc (st : List (Int × Bool)) (p : Int × Bool) : pretty_Color.cells (st ++ [p]) = pretty_Color.cells st ++ [.int .u8 p.1, .bool p.2] := by simp [pretty_Color.cells]
theorem pretty_Color.cells_len (st : List (Int × Bool)) : (pretty_Color.cells st).length = st.length * 2 := by
  induction st with
  | nil => rfl
  | cons p st ih => simp only [pretty_Color.cells, List.flatMap_cons, List.length_append, List.length_cons, List.length_nil] at ih ⊢; omega
theorem pretty_Color.Inv.push {w W w1 : World} {vd vs v1 : Value} {acc : List Int} {st : List (Int × Bool)} {p : Int × Bool} (h : pretty_Color.Inv w W vd vs acc st) (ho : w1.ownsRow w.heap.size 60 2 v1 (st.length + 1) (pretty_Color.cells st ++ [.int .u8 p.1, .bool p.2])) (hb : Below w.heap.size w w1) (hg : W.grownBy w1 vs.ownBlock) (hat : v1.ownBlock = vs.ownBlock ∨ v1.ownBlock = some W.heap.size) : pretty_Color.Inv w w1 vd v1 acc (st ++ [p]) := by
  refine ⟨h.dst.kept hg ?_, by rw [pretty_Color.cells_snoc]; simpa using ho, ?_, hb⟩
  · rcases h.apart with ha | ha
    · rw [ha]; by_cases hn : vd.ownBlock = none
      · exact .inl hn
      · exact .inr hn
    · exact .inr ha
  · rcases hat with e | e
    · rw [e]; exact h.apart
    · right
      intro e2
      have := (h.dst.lt W.heap.size (by rw [e2, e])).2
      omega
theorem pretty_Color.Inv.nil_form {w W : World} {vd vs : Value} {acc : List Int} (h : pretty_Color.Inv w W vd vs acc []) : ∃ A c, vs = .slice A 0 c := by
  rcases h.stk.2 with ⟨e, _⟩ | ⟨g, cap, cur, e, _⟩
  · exact ⟨_, _, e⟩
  · exact ⟨_, _, e⟩
theorem pretty_Color.Inv.snoc_form {w W : World} {vd vs : Value} {acc : List Int} {st : List (Int × Bool)} {p : Int × Bool} (h : pretty_Color.Inv w W vd vs acc (st ++ [p])) : ∃ g c, vs = .slice (some ⟨g, 0, none⟩) (st.length + 1) c ∧ st.length + 1 ≤ c ∧ c ≤ maxLen ∧ wrap64 (st.length : Int) = (st.length : Int) ∧ W.cell? ⟨g, st.length * 2, none⟩ = some (.int .u8 p.1) ∧ W.cell? ⟨g, st.length * 2 + 1, none⟩ = some (.bool p.2) ∧ W.frozen? ⟨g, st.length * 2 + 1, none⟩ = false := by
  have hk := h.stk
  rw [pretty_Color.cells_snoc] at hk
  rcases hk.2 with ⟨e, e2⟩ | ⟨g, cap, cur, e, hb, hg, hn, hm, hs, ht⟩
  · simp at e2
  · subst e
    have e0 := hk.cellAt (st.length * 2) (by simp only [List.length_append, List.length_cons, List.length_nil]; omega)
    have e1 := hk.cellAt (st.length * 2 + 1) (by simp only [List.length_append, List.length_cons, List.length_nil]; omega)
    refine ⟨g, cap, by simp, by simpa using hn, hm, by unfold wrap64; simp only [maxLen, List.length_append, List.length_cons, List.length_nil] at hm hn; omega, ?_, ?_, hk.frozenAt _⟩
    · rw [e0, List.getElem?_append_right (by rw [pretty_Color.cells_len]; omega), pretty_Color.cells_len]; simp
    · rw [e1, List.getElem?_append_right (by rw [pretty_Color.cells_len]; omega), pretty_Color.cells_len]; simp
theorem pretty_Color.Inv.pop {w W : World} {vd : Value} {acc : List Int} {st : List (Int × Bool)} {p : Int × Bool} {g c : Nat} (h : pretty_Color.Inv w W vd (.slice (some ⟨g, 0, none⟩) (st.length + 1) c) acc (st ++ [p])) : pretty_Color.Inv w W vd (.slice (some ⟨g, 0, none⟩) st.length c) acc st := by
  refine ⟨h.dst, ⟨pretty_Color.cells_len st, ?_⟩, .inr ?_, h.below⟩
  · have hk := h.stk
    rw [pretty_Color.cells_snoc] at hk
    rcases hk.2 with ⟨e, _⟩ | ⟨g', cap, cur, e, hb, hg, hn, hm, hs, ht⟩
    · cases e
    · simp only [Value.slice.injEq, Option.some.injEq, Addr.mk.injEq, and_true, true_and] at e
      obtain ⟨rfl, e2, rfl⟩ := e
      refine .inr ⟨g, c, cur, rfl, hb, hg, by omega, hm, hs, ?_⟩
      have h2 := congrArg (List.take (st.length * 2)) ht
      rw [List.take_take, List.take_append_of_le_length (by rw [pretty_Color.cells_len]; omega), List.take_of_length_le (l := pretty_Color.cells st) (by rw [pretty_Color.cells_len]; omega), Nat.min_eq_left (by simp; omega)] at h2
      exact h2
  · rcases h.apart with ha | ha
    · simp [Value.ownBlock] at ha
    · exact ha
theorem pretty_Color.Inv.toggle {w W : World} {vd : Value} {acc : List Int} {st : List (Int × Bool)} {p : Int × Bool} {g c : Nat} (b : Bool) (h : pretty_Color.Inv w W vd (.slice (some ⟨g, 0, none⟩) (st.length + 1) c) acc (st ++ [p])) : pretty_Color.Inv w (W.setCell ⟨g, st.length * 2 + 1, none⟩ (.bool b)) vd (.slice (some ⟨g, 0, none⟩) (st.length + 1) c) acc (st ++ [(p.1, b)]) := by
  have hk := h.stk
  rw [pretty_Color.cells_snoc] at hk
  simp only [List.length_append, List.length_cons, List.length_nil] at hk
  obtain ⟨h1, h2⟩ := hk.stored (st.length * 2 + 1) (.bool b)
  have hlt := hk.lt g rfl
  have ha : vd.ownBlock ≠ some g := by
    rcases h.apart with ha | ha
    · simp [Value.ownBlock] at ha
    · exact ha
  refine ⟨h.dst.kept h2 (.inr ha), ?_, .inr ha, h.below.grown h2 (by have := h.below.size; omega) (fun k hk => by cases hk; exact hlt.1)⟩
  rw [pretty_Color.cells_snoc]
  simp only [List.length_append, List.length_cons, List.length_nil]
  rw [List.set_append_right _ _ (by rw [pretty_Color.cells_len]; omega), pretty_Color.cells_len] at h1
  simpa using h1
theorem pretty_Color.info60 : (Try.prog.info? 60).map (fun i => (i.zero, i.size, i.bytes)) = some (some (.agg #[.int .u8 0, .bool false]), 2, 2) := by kernel_rfl
/-- isNaNOrInf -/
def pretty_Color.nan (l : List Int) (x : Nat) : Bool := rd l x == 105 || (rd l x == 73 || (rd l x == 43 || (rd l x == 78 || (rd l x == 110 && (decide (x + 1 < l.length) && rd l (x + 1 : Nat) != 117)))))
theorem pretty_Color.nan_tok (l : List Int) (x : Nat) (h : pretty_Color.nan l x = true) : 32 < rd l (x : Int) ∧ rd l (x : Int) ≠ 44 ∧ rd l (x : Int) ≠ 58 ∧ rd l (x : Int) ≠ 93 ∧ rd l (x : Int) ≠ 125 := by
  simp only [pretty_Color.nan, Bool.or_eq_true, Bool.and_eq_true, beq_iff_eq] at h
  omega
set_option maxHeartbeats 8000000 in
set_option maxRecDepth 100000 in
theorem pretty_Color.nan_calls (ad : Addr) (c0 : Nat) (l : List Int) (w : World) (x : Nat) (hr : Kd.C (Kd.int .u8) w (some ad) l.length l) (hx : x < l.length) (hc : l.length ≤ c0) (hl : l.length ≤ 2147483647) :
    Calls Try.prog 31 #[.slice (some (ad.add x)) (l.length - x) (c0 - x)] w fun e w' => e = .returned (.bool (pretty_Color.nan l x)) ∧ w' = w := by
  obtain ⟨ad', ea, h0⟩ := Kd.at_int hr (x : Int) (by omega) (by omega)
  obtain rfl := Option.some.inj ea
  rw [Int.toNat_natCast] at h0
  obtain ⟨n, hn⟩ : ∃ n, n = l.length - x := ⟨_, rfl⟩
  have q0 : (0 < n) = True := eq_true (by omega)
  have hnd : decide (x + 1 < l.length) = decide (1 < n) := by congr 1; exact propext (by omega)
  rw [← hn]
  unfold pretty_Color.nan
  rw [hnd]
  by_cases hn1 : 1 < n
  · obtain ⟨ad', ea, h1⟩ := Kd.at_int hr ((x + 1 : Nat) : Int) (by omega) (by omega)
    obtain rfl := Option.some.inj ea
    rw [Int.toNat_natCast] at h1
    have h1' : w.cell? ((ad.add x).add 1) = some (.int .u8 (rd l ((x + 1 : Nat) : Int))) := by
      rw [← h1]; congr 1
      by_cases hx0 : x = 0
      · subst hx0; rfl
      · simp [Addr.add, hx0, Nat.add_assoc]
    have h1'' : w.cell? ⟨(ad.add x).block, (ad.add x).off + 1, none⟩ = some (.int .u8 (rd l ((x + 1 : Nat) : Int))) := by have h := h1'; rwa [Addr.add, if_neg (by omega)] at h
    have q1 : ((1 : Int) < (n : Int)) = True := eq_true (by omega)
    have q1n : (1 < n) = True := eq_true hn1
    generalize rd l (x : Int) = c at *
    generalize rd l ((x + 1 : Nat) : Int) = d at *
    generalize ad.add x = A at *
    clear hr h1 hn hnd hx hc hl
    by_cases c1 : c = 105
    · go_enter Try.func31, Try.ntmps31
      go_wp2
      go_ret
      simp [c1]
    · have b1 : (c == 105) = false := beq_eq_false_iff_ne.mpr c1
      by_cases c2 : c = 73
      · go_enter Try.func31, Try.ntmps31
        go_wp2
        go_ret
        simp [c2]
      · have b2 : (c == 73) = false := beq_eq_false_iff_ne.mpr c2
        by_cases c3 : c = 43
        · go_enter Try.func31, Try.ntmps31
          go_wp2
          go_ret
          simp [c3]
        · have b3 : (c == 43) = false := beq_eq_false_iff_ne.mpr c3
          by_cases c4 : c = 78
          · go_enter Try.func31, Try.ntmps31
            go_wp2
            go_ret
            simp [c4]
          · have b4 : (c == 78) = false := beq_eq_false_iff_ne.mpr c4
            by_cases c5 : c = 110
            · go_enter Try.func31, Try.ntmps31
              go_wp2
              go_ret
              simp [c5, hn1]
            · have b5 : (c == 110) = false := beq_eq_false_iff_ne.mpr c5
              go_enter Try.func31, Try.ntmps31
              go_wp2
              go_ret
              simp [c1, c2, c3, c4, c5]
  · have q1 : ((1 : Int) < (n : Int)) = False := eq_false (by omega)
    have q1n : (1 < n) = False := eq_false hn1
    generalize rd l (x : Int) = c at *
    generalize rd l ((x + 1 : Nat) : Int) = d at *
    generalize ad.add x = A at *
    clear hr hn hnd hx hc hl
    by_cases c1 : c = 105
    · go_enter Try.func31, Try.ntmps31
      go_wp2
      go_ret
      simp [c1]
    · have b1 : (c == 105) = false := beq_eq_false_iff_ne.mpr c1
      by_cases c2 : c = 73
      · go_enter Try.func31, Try.ntmps31
        go_wp2
        go_ret
        simp [c2]
      · have b2 : (c == 73) = false := beq_eq_false_iff_ne.mpr c2
        by_cases c3 : c = 43
        · go_enter Try.func31, Try.ntmps31
          go_wp2
          go_ret
          simp [c3]
        · have b3 : (c == 43) = false := beq_eq_false_iff_ne.mpr c3
          by_cases c4 : c = 78
          · go_enter Try.func31, Try.ntmps31
            go_wp2
            go_ret
            simp [c4]
          · have b4 : (c == 78) = false := beq_eq_false_iff_ne.mpr c4
            by_cases c5 : c = 110
            · go_enter Try.func31, Try.ntmps31
              go_wp2
              go_ret
              simp [c5, hn1]
            · have b5 : (c == 110) = false := beq_eq_false_iff_ne.mpr c5
              go_enter Try.func31, Try.ntmps31
              go_wp2
              go_ret
              simp [c1, c2, c3, c4, c5]
set_option maxHeartbeats 16000000 in
set_option maxRecDepth 100000 in
theorem pretty_Color.calls (A0 : Option Addr) (c0 g : Nat) (l : List Int) (w : World) (hr0 : Kd.C (Kd.int .u8) w A0 l.length l) (hc0 : l.length ≤ c0) (hl : l.length ≤ 2147483647) (hst : pretty_Color.Bare g w) : Calls Try.prog 22 #[.slice A0 l.length c0, .pointer (some ⟨g, 0, none⟩)] w fun e w' => ∃ v1, e = .returned v1 ∧ w'.ownsRow w.heap.size 5 1 v1 l.length (nums .u8 l) ∧ Below w.heap.size w w' := by
  have hmf : ∀ (fn : Fn) (first cap : Array Value) (w : World), (Instr.makeFunc fn first cap).run Try.prog w = .ok (.func fn first cap) w := fun _ _ _ _ => rfl
  have hnf : ∀ W : World, (binOp .eql 49 .nilFunc .nilFunc).run Try.prog W = .ok (.bool true) W := fun W => by rfl
  have HS := Aside0.mk hst
  have HR := Aside0.mk hr0
  have hf := hst.fn
  clear hst hr0
  go_enter Try.func22, Try.ntmps22
  go_wp2
  clear hnf hmf hf
  refine wp_loop_ghost_k (fun kq a' w' => ∃ (x : Nat) (st : List (Int × Bool)), x + kq = l.length + 1 ∧ st.length ≤ x ∧ a'.tmps.getD 8 undef = .int .i64 (x : Int) ∧ Aside0 (pretty_Color.Inv w w' (a'.tmps.getD 6 undef) (a'.tmps.getD 7 undef) (l.take x) st) ∧ pretty_Color.Fr a' (.slice A0 l.length c0) (.pointer (some ⟨g, 0, none⟩)) (.func (.func 30) #[] #[])) (l.length + 1) ?_ ?_
  · exact ⟨0, [], by omega, by simp, rfl, ⟨World.ownsRow_nil w w.heap.size 5 1, World.ownsRow_nil w w.heap.size 60 2, .inl rfl, Below.refl _ _⟩, ⟨rfl, rfl, rfl, rfl, rfl⟩⟩
  · rintro n a' wr ⟨x, st, hk, hsl0, h8, hinv, hfr⟩ J K hJ hK
    have hsl := Aside0.mk hsl0
    clear hsl0
    have hat : pretty_Color.At (.slice A0 l.length c0) (.pointer (some ⟨g, 0, none⟩)) (.func (.func 30) #[] #[]) (a'.tmps.getD 6 undef) (a'.tmps.getD 7 undef) (x : Int) a' := ⟨hfr, rfl, rfl, h8⟩
    clear hfr h8
    generalize hvd : a'.tmps.getD 6 undef = vd at *
    generalize hvs : a'.tmps.getD 7 undef = vs at *
    clear hvd hvs
    obtain ⟨f1, hf, ha⟩ := pretty_Color.frame_lit a' hat.fr.size hat.fr.defers
    have e0_ := (hf 0).trans hat.fr.e0
    have e1_ := (hf 1).trans hat.fr.e1
    have e5_ := (hf 5).trans hat.fr.e5
    have e6_ := (hf 6).trans hat.d
    have e7_ := (hf 7).trans hat.s
    have e8_ := (hf 8).trans hat.i
    rw [e0_, e1_, e5_, e6_, e7_, e8_] at ha
    subst ha
    clear hf e0_ e1_ e5_ e6_ e7_ e8_
    clear hat
    by_cases hlt : (x : Int) < (l.length : Int)
    · obtain ⟨ad, ea, hx0⟩ := Kd.at_int HR.out (x : Int) (by omega) hlt
      subst ea
      have hx := pw_cell_below hinv.out.below hx0
      have q1 : ((x : Int) < (l.length : Int)) = True := eq_true hlt
      have q1n : (x < l.length) = True := eq_true (by omega)
      rw [Int.toNat_natCast] at hx hx0
      go_upto_if 30 with fail
      by_cases c34 : rd l (x : Int) = 34
      · have b34 : (rd l (x : Int) == 34) = true := beq_iff_eq.mpr c34
        go_upto_region 10 with fail
        refine wp_cut (fun a' w' => ∃ kb : Bool, pretty_Color.At (.slice (some ad) l.length c0) (.pointer (some ⟨g, 0, none⟩)) (.func (.func 30) #[] #[]) vd vs (x : Int) a' ∧ a'.tmps.getD 9 undef = .bool kb ∧ w' = wr) ?_ ?_
        rotate_left
        · intro J1 K1 hJ1 hK1
          rcases List.eq_nil_or_concat st with rfl | ⟨st, p, rfl⟩
          · obtain ⟨A1, c1, rfl⟩ := hinv.out.nil_form
            go_wp2
            exact Met.intro (hJ1 _ _ ⟨_, ⟨⟨rfl, rfl, rfl, rfl, rfl⟩, rfl, rfl, rfl⟩, rfl, rfl⟩)
          · rw [List.concat_eq_append] at hinv
            obtain ⟨gs, c1, rfl, hc1, hcm, hwl, hp1, hp2, hpf⟩ := hinv.out.snoc_form
            go_wp2
            exact Met.intro (hJ1 _ _ ⟨_, ⟨⟨rfl, rfl, rfl, rfl, rfl⟩, rfl, rfl, rfl⟩, rfl, rfl⟩)
        rintro a2 w2 ⟨kb, hat, h9, rfl⟩
        obtain ⟨f2, hf, ha⟩ := pretty_Color.frame_lit a2 hat.fr.size hat.fr.defers
        have e0_ := (hf 0).trans hat.fr.e0
        have e1_ := (hf 1).trans hat.fr.e1
        have e5_ := (hf 5).trans hat.fr.e5
        have e6_ := (hf 6).trans hat.d
        have e7_ := (hf 7).trans hat.s
        have e8_ := (hf 8).trans hat.i
        have e9_ := (hf 9).trans h9
        rw [e0_, e1_, e5_, e6_, e7_, e8_, e9_] at ha
        subst ha
        clear hf e0_ e1_ e5_ e6_ e7_ e8_ e9_
        clear hat h9
        go_upto_if 43 with fail
        have hsr_0 := (HS.out.below hinv.out.below).str 0 (by omega)
        have hsr_2 := (HS.out.below hinv.out.below).str 2 (by omega)
        refine wp_cut (fun a' w' => pretty_Color.At (.slice (some ad) l.length c0) (.pointer (some ⟨g, 0, none⟩)) (.func (.func 30) #[] #[]) vd vs (x : Int) a' ∧ a'.tmps.getD 9 undef = .bool kb ∧ w' = w2) ?_ ?_
        rotate_left
        · intro J1 K1 hJ1 hK1
          cases kb
          · go_wp2_with (at_builtin; refine pretty_Color.append_none rfl _ _ 37 9 5 rfl Try.underlying37 Try.underlying9 pretty_Color.info8 _ rfl rfl hinv.out.dst ?_)
            exact Met.intro (hJ1 _ _ ⟨⟨⟨rfl, rfl, rfl, rfl, rfl⟩, rfl, rfl, rfl⟩, rfl, rfl⟩)
          · go_wp2_with (at_builtin; refine pretty_Color.append_none rfl _ _ 37 9 5 rfl Try.underlying37 Try.underlying9 pretty_Color.info8 _ rfl rfl hinv.out.dst ?_)
            exact Met.intro (hJ1 _ _ ⟨⟨⟨rfl, rfl, rfl, rfl, rfl⟩, rfl, rfl, rfl⟩, rfl, rfl⟩)
        rintro a3 w3 ⟨hat, h9, rfl⟩
        obtain ⟨f3, hf, ha⟩ := pretty_Color.frame_lit a3 hat.fr.size hat.fr.defers
        have e0_ := (hf 0).trans hat.fr.e0
        have e1_ := (hf 1).trans hat.fr.e1
        have e5_ := (hf 5).trans hat.fr.e5
        have e6_ := (hf 6).trans hat.d
        have e7_ := (hf 7).trans hat.s
        have e8_ := (hf 8).trans hat.i
        have e9_ := (hf 9).trans h9
        rw [e0_, e1_, e5_, e6_, e7_, e8_, e9_] at ha
        subst ha
        clear hf e0_ e1_ e5_ e6_ e7_ e8_ e9_
        clear hat h9
        have tk := pretty_Color.take_rd l x (by omega)
        rw [c34] at tk
        have TK := Aside0.mk tk; clear tk
        go_wp2_with (first | (go_at_call 30; refine (pretty_Color.put_one w.heap.size vd (l.take x) 34 w w3 hinv.out.dst hinv.out.below (by rw [List.length_take]; omega) hinv.out.below.size).mono ?_; rintro e w4 ⟨v4, rfl, ho, hb, hg, hat⟩; have iv4 := Aside0.mk (hinv.out.put ho hb hg hat); rw [TK.out] at iv4; have hxw4 := pw_cell_below hb hx0; clear ho hb hg hat))
        refine pretty_Color.wp_cut_block (fun a' w' => ∃ (y : Nat) (v : Value) (e : Bool), x ≤ y ∧ y ≤ l.length ∧ pretty_Color.At (.slice (some ad) l.length c0) (.pointer (some ⟨g, 0, none⟩)) (.func (.func 30) #[] #[]) v vs (y : Int) a' ∧ a'.tmps.getD 9 undef = .bool kb ∧ a'.tmps.getD 10 undef = .bool e ∧ Aside0 (pretty_Color.Inv w w' v vs (l.take (y + 1)) st)) ?_ ?_
        · rintro a5 w5 ⟨y, v5, e, hxy, hyl, hat, h9, h10, iv5⟩
          obtain ⟨f4, hf, ha⟩ := pretty_Color.frame_lit a5 hat.fr.size hat.fr.defers
          have e0_ := (hf 0).trans hat.fr.e0
          have e1_ := (hf 1).trans hat.fr.e1
          have e5_ := (hf 5).trans hat.fr.e5
          have e6_ := (hf 6).trans hat.d
          have e7_ := (hf 7).trans hat.s
          have e8_ := (hf 8).trans hat.i
          have e9_ := (hf 9).trans h9
          have e10_ := (hf 10).trans h10
          rw [e0_, e1_, e5_, e6_, e7_, e8_, e9_, e10_] at ha
          subst ha
          clear hf e0_ e1_ e5_ e6_ e7_ e8_ e9_ e10_
          clear hat h9 h10 iv4 hxw4
          have hss_13 := (HS.out.below iv5.out.below).str 13 (by omega)
          have hss_1 := (HS.out.below iv5.out.below).str 1 (by omega)
          have hss_3 := (HS.out.below iv5.out.below).str 3 (by omega)
          cases e <;> cases kb
          · go_wp2_with (at_builtin; refine pretty_Color.append_none rfl _ _ 37 9 5 rfl Try.underlying37 Try.underlying9 pretty_Color.info8 _ rfl rfl iv5.out.dst ?_)
            have hsl := Aside0.mk (Nat.le_trans hsl.out hxy)
            all_goals refine Handed.intro (l.length + 1 - (y + 1)) (by omega) (hJ _ _ _ ?_)
            all_goals exact ⟨y + 1, st, by omega, by have := hsl.out; (try simp only [List.length_append, List.length_cons, List.length_nil] at *); omega, by first | rfl | (simp; done) | (push_cast; rfl), iv5, ⟨rfl, rfl, rfl, rfl, rfl⟩⟩
          · go_wp2_with (at_builtin; refine pretty_Color.append_none rfl _ _ 37 9 5 rfl Try.underlying37 Try.underlying9 pretty_Color.info8 _ rfl rfl iv5.out.dst ?_)
            have hsl := Aside0.mk (Nat.le_trans hsl.out hxy)
            all_goals refine Handed.intro (l.length + 1 - (y + 1)) (by omega) (hJ _ _ _ ?_)
            all_goals exact ⟨y + 1, st, by omega, by have := hsl.out; (try simp only [List.length_append, List.length_cons, List.length_nil] at *); omega, by first | rfl | (simp; done) | (push_cast; rfl), iv5, ⟨rfl, rfl, rfl, rfl, rfl⟩⟩
          · go_wp2_with (at_builtin; refine pretty_Color.append_none rfl _ _ 37 9 5 rfl Try.underlying37 Try.underlying9 pretty_Color.info8 _ rfl rfl iv5.out.dst ?_)
            have hsl := Aside0.mk (Nat.le_trans hsl.out hxy)
            all_goals refine Handed.intro (l.length + 1 - (y + 1)) (by omega) (hJ _ _ _ ?_)
            all_goals exact ⟨y + 1, st, by omega, by have := hsl.out; (try simp only [List.length_append, List.length_cons, List.length_nil] at *); omega, by first | rfl | (simp; done) | (push_cast; rfl), iv5, ⟨rfl, rfl, rfl, rfl, rfl⟩⟩
          · go_wp2_with (at_builtin; refine pretty_Color.append_none rfl _ _ 37 9 5 rfl Try.underlying37 Try.underlying9 pretty_Color.info8 _ rfl rfl iv5.out.dst ?_)
            have hsl := Aside0.mk (Nat.le_trans hsl.out hxy)
            all_goals refine Handed.intro (l.length + 1 - (y + 1)) (by omega) (hJ _ _ _ ?_)
            all_goals exact ⟨y + 1, st, by omega, by have := hsl.out; (try simp only [List.length_append, List.length_cons, List.length_nil] at *); omega, by first | rfl | (simp; done) | (push_cast; rfl), iv5, ⟨rfl, rfl, rfl, rfl, rfl⟩⟩
        · intro J5 K5 hJ5 hK5
          refine wp_loop_ghost_k (fun kq a' w' => ∃ (y : Nat) (v : Value) (e : Bool) (u : Int), x < y ∧ y + kq = l.length ∧ pretty_Color.At (.slice (some ad) l.length c0) (.pointer (some ⟨g, 0, none⟩)) (.func (.func 30) #[] #[]) v vs (y : Int) a' ∧ a'.tmps.getD 9 undef = .bool kb ∧ a'.tmps.getD 10 undef = .bool e ∧ a'.tmps.getD 11 undef = .int .i64 u ∧ Aside0 (pretty_Color.Inv w w' v vs (l.take y) st)) (l.length - (x + 1)) ?_ ?_
          · exact ⟨x + 1, v4, false, 0, by omega, by omega, ⟨⟨rfl, rfl, rfl, rfl, rfl⟩, rfl, rfl, by first | rfl | (simp; done)⟩, rfl, rfl, rfl, iv4⟩
          rintro n6 a6 w6 ⟨y, v6, e, u, hxy, hk6, hat, h9, h10, h11, iv6⟩ J6 K6 hJ6 hK6
          clear iv4 hxw4
          obtain ⟨f5, hf, ha⟩ := pretty_Color.frame_lit a6 hat.fr.size hat.fr.defers
          have e0_ := (hf 0).trans hat.fr.e0
          have e1_ := (hf 1).trans hat.fr.e1
          have e5_ := (hf 5).trans hat.fr.e5
          have e6_ := (hf 6).trans hat.d
          have e7_ := (hf 7).trans hat.s
          have e8_ := (hf 8).trans hat.i
          have e9_ := (hf 9).trans h9
          have e10_ := (hf 10).trans h10
          have e11_ := (hf 11).trans h11
          rw [e0_, e1_, e5_, e6_, e7_, e8_, e9_, e10_, e11_] at ha
          subst ha
          clear hf e0_ e1_ e5_ e6_ e7_ e8_ e9_ e10_ e11_
          clear hat h9 h10 h11
          by_cases hyl : y < l.length
          · obtain ⟨ad2, ea2, hy0⟩ := Kd.at_int HR.out (y : Int) (by omega) (by omega)
            obtain rfl := Option.some.inj ea2
            rw [Int.toNat_natCast] at hy0
            have hy := pw_cell_below iv6.out.below hy0
            have q2 : ((y : Int) < (l.length : Int)) = True := eq_true (by omega)
            have q2n : (y < l.length) = True := eq_true hyl
            have tk := pretty_Color.take_rd l y hyl
            have TK6 := Aside0.mk tk; clear tk
            go_upto_if 73 with fail
            refine wp_cut (fun a' w' => ∃ (v : Value) (e : Bool) (u : Int), pretty_Color.At (.slice (some ad) l.length c0) (.pointer (some ⟨g, 0, none⟩)) (.func (.func 30) #[] #[]) v vs (y : Int) a' ∧ a'.tmps.getD 9 undef = .bool kb ∧ a'.tmps.getD 10 undef = .bool e ∧ a'.tmps.getD 11 undef = .int .i64 u ∧ Aside0 (pretty_Color.Inv w w' v vs (l.take (y + 1)) st)) ?_ ?_
            rotate_left
            · intro J7 K7 hJ7 hK7
              have hst_1 := (HS.out.below iv6.out.below).str 1 (by omega)
              have hst_3 := (HS.out.below iv6.out.below).str 3 (by omega)
              have hst_12 := (HS.out.below iv6.out.below).str 12 (by omega)
              by_cases c92 : rd l (y : Int) = 92
              · have TK92 : Aside0 (l.take y ++ [92] = l.take (y + 1)) := Aside0.mk (by rw [← c92]; exact TK6.out)
                have b92 : (rd l (y : Int) == 92) = true := beq_iff_eq.mpr c92
                rw [c92] at hy; clear TK6
                by_cases hy1 : y + 1 < l.length
                · clear c92
                  obtain ⟨ad2, ea2, hz0⟩ := Kd.at_int HR.out ((y + 1 : Nat) : Int) (by omega) (by omega)
                  obtain rfl := Option.some.inj ea2
                  rw [Int.toNat_natCast] at hz0
                  have hzz0 : w.cell? ⟨ad.block, ad.off + (y + 1), none⟩ = some (.int .u8 (rd l ((y + 1 : Nat) : Int))) := by have h := hz0; rwa [Addr.add, if_neg (by omega)] at h
                  have q3 : ((y : Int) + 1 < (l.length : Int)) = True := eq_true (by omega)
                  have q3n : (y + 1 < l.length) = True := eq_true hy1
                  have p3 : (0 ≤ (y : Int) + 1) = True := eq_true (by omega)
                  have t3 : ((y : Int) + 1).toNat = y + 1 := by omega
                  cases kb
                  · go_wp2_with (first | (at_builtin; refine pretty_Color.append_none rfl _ _ 37 9 5 rfl Try.underlying37 Try.underlying9 pretty_Color.info8 _ rfl rfl iv6.out.dst ?_) | (go_at_call 30; refine (pretty_Color.put_one w.heap.size v6 (l.take y) 92 w w6 iv6.out.dst iv6.out.below (by rw [List.length_take]; omega) iv6.out.below.size).mono ?_; rintro e w7 ⟨v7, rfl, ho, hb, hg, hat⟩; have iv7 := Aside0.mk (iv6.out.put ho hb hg hat); rw [TK92.out] at iv7; have hxw7 := pw_cell_below hb hzz0; clear ho hb hg hat) | fail)
                    all_goals exact Met.intro (hJ7 _ _ ⟨_, _, _, ⟨⟨rfl, rfl, rfl, rfl, rfl⟩, rfl, rfl, rfl⟩, rfl, rfl, rfl, iv7⟩)
                  · go_wp2_with (first | (at_builtin; refine pretty_Color.append_none rfl _ _ 37 9 5 rfl Try.underlying37 Try.underlying9 pretty_Color.info8 _ rfl rfl iv6.out.dst ?_) | (go_at_call 30; refine (pretty_Color.put_one w.heap.size v6 (l.take y) 92 w w6 iv6.out.dst iv6.out.below (by rw [List.length_take]; omega) iv6.out.below.size).mono ?_; rintro e w7 ⟨v7, rfl, ho, hb, hg, hat⟩; have iv7 := Aside0.mk (iv6.out.put ho hb hg hat); rw [TK92.out] at iv7; have hxw7 := pw_cell_below hb hzz0; clear ho hb hg hat) | fail)
                    all_goals exact Met.intro (hJ7 _ _ ⟨_, _, _, ⟨⟨rfl, rfl, rfl, rfl, rfl⟩, rfl, rfl, rfl⟩, rfl, rfl, rfl, iv7⟩)
                · clear c92
                  have q3 : ((y : Int) + 1 < (l.length : Int)) = False := eq_false (by omega)
                  cases kb
                  · go_wp2_with (first | (at_builtin; refine pretty_Color.append_none rfl _ _ 37 9 5 rfl Try.underlying37 Try.underlying9 pretty_Color.info8 _ rfl rfl iv6.out.dst ?_) | (go_at_call 30; refine (pretty_Color.put_one w.heap.size v6 (l.take y) 92 w w6 iv6.out.dst iv6.out.below (by rw [List.length_take]; omega) iv6.out.below.size).mono ?_; rintro e w7 ⟨v7, rfl, ho, hb, hg, hat⟩; have iv7 := Aside0.mk (iv6.out.put ho hb hg hat); rw [TK92.out] at iv7; clear ho hb hg hat))
                    all_goals exact Met.intro (hJ7 _ _ ⟨_, _, _, ⟨⟨rfl, rfl, rfl, rfl, rfl⟩, rfl, rfl, rfl⟩, rfl, rfl, rfl, iv7⟩)
                  · go_wp2_with (first | (at_builtin; refine pretty_Color.append_none rfl _ _ 37 9 5 rfl Try.underlying37 Try.underlying9 pretty_Color.info8 _ rfl rfl iv6.out.dst ?_) | (go_at_call 30; refine (pretty_Color.put_one w.heap.size v6 (l.take y) 92 w w6 iv6.out.dst iv6.out.below (by rw [List.length_take]; omega) iv6.out.below.size).mono ?_; rintro e w7 ⟨v7, rfl, ho, hb, hg, hat⟩; have iv7 := Aside0.mk (iv6.out.put ho hb hg hat); rw [TK92.out] at iv7; clear ho hb hg hat))
                    all_goals exact Met.intro (hJ7 _ _ ⟨_, _, _, ⟨⟨rfl, rfl, rfl, rfl, rfl⟩, rfl, rfl, rfl⟩, rfl, rfl, rfl, iv7⟩)
              · have b92 : (rd l (y : Int) == 92) = false := beq_eq_false_iff_ne.mpr c92
                cases e
                · go_wp2_with (first | (go_at_call 30; refine (pretty_Color.put_one w.heap.size v6 (l.take y) (rd l (y : Int)) w w6 iv6.out.dst iv6.out.below (by rw [List.length_take]; omega) iv6.out.below.size).mono ?_; rintro e w7 ⟨v7, rfl, ho, hb, hg, hat⟩; have iv7 := Aside0.mk (iv6.out.put ho hb hg hat); rw [TK6.out] at iv7; have hxw7 := pw_cell_below hb hy0; clear ho hb hg hat))
                  all_goals exact Met.intro (hJ7 _ _ ⟨_, _, _, ⟨⟨rfl, rfl, rfl, rfl, rfl⟩, rfl, rfl, rfl⟩, rfl, rfl, rfl, iv7⟩)
                · by_cases hu : u = 1
                  · subst hu
                    cases kb
                    · go_wp2_with (first | (go_at_call 30; refine (pretty_Color.put_one w.heap.size v6 (l.take y) (rd l (y : Int)) w w6 iv6.out.dst iv6.out.below (by rw [List.length_take]; omega) iv6.out.below.size).mono ?_; rintro e w7 ⟨v7, rfl, ho, hb, hg, hat⟩; have iv7 := Aside0.mk (iv6.out.put ho hb hg hat); rw [TK6.out] at iv7; have hsw7_0 := (HS.out.below hb).str 0 (by omega); have hsw7_2 := (HS.out.below hb).str 2 (by omega); have hsw7_13 := (HS.out.below hb).str 13 (by omega); have hxw7 := pw_cell_below hb hy0; clear ho hb hg hat) | (at_builtin; refine pretty_Color.append_none rfl _ _ 37 9 5 rfl Try.underlying37 Try.underlying9 pretty_Color.info8 _ rfl rfl iv7.out.dst ?_))
                      all_goals exact Met.intro (hJ7 _ _ ⟨_, _, _, ⟨⟨rfl, rfl, rfl, rfl, rfl⟩, rfl, rfl, rfl⟩, rfl, rfl, rfl, iv7⟩)
                    · go_wp2_with (first | (go_at_call 30; refine (pretty_Color.put_one w.heap.size v6 (l.take y) (rd l (y : Int)) w w6 iv6.out.dst iv6.out.below (by rw [List.length_take]; omega) iv6.out.below.size).mono ?_; rintro e w7 ⟨v7, rfl, ho, hb, hg, hat⟩; have iv7 := Aside0.mk (iv6.out.put ho hb hg hat); rw [TK6.out] at iv7; have hsw7_0 := (HS.out.below hb).str 0 (by omega); have hsw7_2 := (HS.out.below hb).str 2 (by omega); have hsw7_13 := (HS.out.below hb).str 13 (by omega); have hxw7 := pw_cell_below hb hy0; clear ho hb hg hat) | (at_builtin; refine pretty_Color.append_none rfl _ _ 37 9 5 rfl Try.underlying37 Try.underlying9 pretty_Color.info8 _ rfl rfl iv7.out.dst ?_))
                      all_goals exact Met.intro (hJ7 _ _ ⟨_, _, _, ⟨⟨rfl, rfl, rfl, rfl, rfl⟩, rfl, rfl, rfl⟩, rfl, rfl, rfl, iv7⟩)
                  · have bu : (u == 1) = false := beq_eq_false_iff_ne.mpr hu
                    go_wp2_with (first | (go_at_call 30; refine (pretty_Color.put_one w.heap.size v6 (l.take y) (rd l (y : Int)) w w6 iv6.out.dst iv6.out.below (by rw [List.length_take]; omega) iv6.out.below.size).mono ?_; rintro e w7 ⟨v7, rfl, ho, hb, hg, hat⟩; have iv7 := Aside0.mk (iv6.out.put ho hb hg hat); rw [TK6.out] at iv7; have hxw7 := pw_cell_below hb hy0; clear ho hb hg hat))
                    all_goals exact Met.intro (hJ7 _ _ ⟨_, _, _, ⟨⟨rfl, rfl, rfl, rfl, rfl⟩, rfl, rfl, rfl⟩, rfl, rfl, rfl, iv7⟩)
            rintro a8 w8 ⟨v8, e8, u8, hat, h9, h10, h11, iv8⟩
            obtain ⟨f6, hf, ha⟩ := pretty_Color.frame_lit a8 hat.fr.size hat.fr.defers
            have e0_ := (hf 0).trans hat.fr.e0
            have e1_ := (hf 1).trans hat.fr.e1
            have e5_ := (hf 5).trans hat.fr.e5
            have e6_ := (hf 6).trans hat.d
            have e7_ := (hf 7).trans hat.s
            have e8_ := (hf 8).trans hat.i
            have e9_ := (hf 9).trans h9
            have e10_ := (hf 10).trans h10
            have e11_ := (hf 11).trans h11
            rw [e0_, e1_, e5_, e6_, e7_, e8_, e9_, e10_, e11_] at ha
            subst ha
            clear hf e0_ e1_ e5_ e6_ e7_ e8_ e9_ e10_ e11_
            clear hat h9 h10 h11 iv6 TK6 hy
            have hy := pw_cell_below iv8.out.below hy0
            by_cases d34 : rd l (y : Int) = 34
            · have bd34 : (rd l (y : Int) == 34) = true := beq_iff_eq.mpr d34
              go_wp2
              refine pretty_Color.wp_cut_block (fun a' w' => ∃ jj : Int, pretty_Color.At (.slice (some ad) l.length c0) (.pointer (some ⟨g, 0, none⟩)) (.func (.func 30) #[] #[]) v8 vs (y : Int) a' ∧ a'.tmps.getD 9 undef = .bool kb ∧ a'.tmps.getD 10 undef = .bool e8 ∧ a'.tmps.getD 11 undef = .int .i64 u8 ∧ a'.tmps.getD 12 undef = .int .i64 jj ∧ (x : Int) ≤ jj ∧ jj < y ∧ w' = w8) ?_ ?_
              · rintro a9 w9 ⟨jj, hat, h9, h10, h11, h12, hj1, hj2, rfl⟩
                obtain ⟨f7, hf, ha⟩ := pretty_Color.frame_lit a9 hat.fr.size hat.fr.defers
                have e0_ := (hf 0).trans hat.fr.e0
                have e1_ := (hf 1).trans hat.fr.e1
                have e5_ := (hf 5).trans hat.fr.e5
                have e6_ := (hf 6).trans hat.d
                have e7_ := (hf 7).trans hat.s
                have e8_ := (hf 8).trans hat.i
                have e9_ := (hf 9).trans h9
                have e10_ := (hf 10).trans h10
                have e11_ := (hf 11).trans h11
                have e12_ := (hf 12).trans h12
                rw [e0_, e1_, e5_, e6_, e7_, e8_, e9_, e10_, e11_, e12_] at ha
                subst ha
                clear hf e0_ e1_ e5_ e6_ e7_ e8_ e9_ e10_ e11_ e12_
                clear hat h9 h10 h11 h12
                go_upto_if 175 with fail
                refine wp_cond_split rfl ?_ ?_
                · intro _; go_wp2
                  exact Met.intro (hJ5 _ _ ⟨y, v8, e8, by omega, by omega, ⟨⟨rfl, rfl, rfl, rfl, rfl⟩, rfl, rfl, rfl⟩, rfl, rfl, iv8⟩)
                · intro _; go_wp2
                  refine Handed.intro (l.length - (y + 1)) (by omega) (hJ6 _ _ _ ?_)
                  exact ⟨y + 1, v8, e8, u8, by omega, by omega, ⟨⟨rfl, rfl, rfl, rfl, rfl⟩, rfl, rfl, by first | rfl | (simp; done)⟩, rfl, rfl, rfl, iv8⟩
              · intro J9 K9 hJ9 hK9
                refine wp_loop_ghost_k (fun kq a' w' => ∃ jj : Int, pretty_Color.At (.slice (some ad) l.length c0) (.pointer (some ⟨g, 0, none⟩)) (.func (.func 30) #[] #[]) v8 vs (y : Int) a' ∧ a'.tmps.getD 9 undef = .bool kb ∧ a'.tmps.getD 10 undef = .bool e8 ∧ a'.tmps.getD 11 undef = .int .i64 u8 ∧ a'.tmps.getD 12 undef = .int .i64 jj ∧ (x : Int) + kq = jj ∧ jj < y ∧ w' = w8) (y - 1 - x) ?_ ?_
                · exact ⟨(y : Int) - 1, ⟨⟨rfl, rfl, rfl, rfl, rfl⟩, rfl, rfl, rfl⟩, rfl, rfl, rfl, rfl, by omega, by omega, rfl⟩
                rintro nj a9 w9 ⟨jj, hat, h9, h10, h11, h12, hj1, hj2, rfl⟩ Jj Kj hJj hKj
                obtain ⟨f8, hf, ha⟩ := pretty_Color.frame_lit a9 hat.fr.size hat.fr.defers
                have e0_ := (hf 0).trans hat.fr.e0
                have e1_ := (hf 1).trans hat.fr.e1
                have e5_ := (hf 5).trans hat.fr.e5
                have e6_ := (hf 6).trans hat.d
                have e7_ := (hf 7).trans hat.s
                have e8_ := (hf 8).trans hat.i
                have e9_ := (hf 9).trans h9
                have e10_ := (hf 10).trans h10
                have e11_ := (hf 11).trans h11
                have e12_ := (hf 12).trans h12
                rw [e0_, e1_, e5_, e6_, e7_, e8_, e9_, e10_, e11_, e12_] at ha
                subst ha
                clear hf e0_ e1_ e5_ e6_ e7_ e8_ e9_ e10_ e11_ e12_
                clear hat h9 h10 h11 h12 hy
                obtain ⟨ad2, ea2, hy1⟩ := Kd.at_int HR.out jj (by omega) (by omega)
                obtain rfl := Option.some.inj ea2
                have hy := pw_cell_below iv8.out.below hy1
                have q4 : (jj < (l.length : Int)) = True := eq_true (by omega)
                have p4 : (0 ≤ jj) = True := eq_true (by omega)
                by_cases g92 : rd l jj = 92
                · have bg92 : (rd l jj == 92) = true := beq_iff_eq.mpr g92
                  have hne : (x : Int) ≠ jj := by rintro rfl; rw [c34] at g92; cases g92
                  have hJX := Aside0.mk hj1; clear hj1
                  have hwj : wrap64 (jj - 1) = jj - 1 := by unfold wrap64; have := hJX.out; omega
                  go_wp2
                  refine Handed.intro (nj - 1) (by have := hJX.out; omega) (hJj _ _ _ ?_)
                  exact ⟨jj - 1, ⟨⟨rfl, rfl, rfl, rfl, rfl⟩, rfl, rfl, rfl⟩, rfl, rfl, rfl, rfl, by have := hJX.out; omega, by omega, rfl⟩
                · have bg92 : (rd l jj == 92) = false := beq_eq_false_iff_ne.mpr g92
                  go_wp2
                  exact Met.intro (hJ9 _ _ ⟨jj, ⟨⟨rfl, rfl, rfl, rfl, rfl⟩, rfl, rfl, rfl⟩, rfl, rfl, rfl, rfl, by omega, by omega, rfl⟩)
            · have bd34 : (rd l (y : Int) == 34) = false := beq_eq_false_iff_ne.mpr d34
              go_wp2
              refine Handed.intro (l.length - (y + 1)) (by omega) (hJ6 _ _ _ ?_)
              exact ⟨y + 1, v8, e8, u8, by omega, by omega, ⟨⟨rfl, rfl, rfl, rfl, rfl⟩, rfl, rfl, by first | rfl | (simp; done)⟩, rfl, rfl, rfl, iv8⟩
          · obtain rfl : y = l.length := by omega
            go_wp2
            rw [pretty_Color.take_end l l.length (Nat.le_refl _), ← pretty_Color.take_end l (l.length + 1) (by omega)] at iv6
            exact Met.intro (hJ5 _ _ ⟨l.length, v6, e, by omega, by omega, ⟨⟨rfl, rfl, rfl, rfl, rfl⟩, rfl, rfl, rfl⟩, rfl, rfl, iv6⟩)
      · have b34 : (rd l (x : Int) == 34) = false := beq_eq_false_iff_ne.mpr c34
        go_upto_region 50 with fail
        refine wp_cut (fun a' w' => ∃ bb : Bool, pretty_Color.At (.slice (some ad) l.length c0) (.pointer (some ⟨g, 0, none⟩)) (.func (.func 30) #[] #[]) vd vs (x : Int) a' ∧ a'.tmps.getD 210 undef = .bool bb ∧ (bb = true ↔ (rd l (x : Int) = 123 ∨ rd l (x : Int) = 91)) ∧ w' = wr) ?_ ?_
        rotate_left
        · intro J1 K1 hJ1 hK1
          by_cases c1 : rd l (x : Int) = 123
          · have b1 : (rd l (x : Int) == 123) = true := beq_iff_eq.mpr c1
            go_wp2
            exact Met.intro (hJ1 _ _ ⟨_, ⟨⟨rfl, rfl, rfl, rfl, rfl⟩, rfl, rfl, rfl⟩, rfl, by simp [c1], rfl⟩)
          · have b1 : (rd l (x : Int) == 123) = false := beq_eq_false_iff_ne.mpr c1
            go_wp2
            exact Met.intro (hJ1 _ _ ⟨_, ⟨⟨rfl, rfl, rfl, rfl, rfl⟩, rfl, rfl, rfl⟩, rfl, by simp [c1], rfl⟩)
        rintro a2 w2 ⟨bb, hat, h210, hbb, rfl⟩
        obtain ⟨f9, hf, ha⟩ := pretty_Color.frame_lit a2 hat.fr.size hat.fr.defers
        have e0_ := (hf 0).trans hat.fr.e0
        have e1_ := (hf 1).trans hat.fr.e1
        have e5_ := (hf 5).trans hat.fr.e5
        have e6_ := (hf 6).trans hat.d
        have e7_ := (hf 7).trans hat.s
        have e8_ := (hf 8).trans hat.i
        have e210_ := (hf 210).trans h210
        rw [e0_, e1_, e5_, e6_, e7_, e8_, e210_] at ha
        subst ha
        clear hf e0_ e1_ e5_ e6_ e7_ e8_ e210_
        clear hat h210
        have HBB := Aside0.mk hbb; clear hbb
        have TK := Aside0.mk (pretty_Color.take_rd l x (by omega))
        cases bb
        rotate_left
        ·
          go_wp2
          have hW := Aside0.mk (hinv.out.drew.alloc (.cells #[.int .u8 (rd l (x : Int)), .bool (rd l (x : Int) == 123)] 60))
          go_region_law (refine pretty_Color.step_push (w0 := w) w.heap.size rfl _ _ 58 60 (.agg #[.int .u8 0, .bool false]) rfl Try.underlying58 pretty_Color.info60 rfl _ st.length (pretty_Color.cells st) (.int .u8 (rd l (x : Int))) (.bool (rd l (x : Int) == 123)) _ _ rfl rfl rfl rfl (hinv.out.stk.drew.alloc _) (World.cell?_alloc_new w2.drew _ _ 0) (World.cell?_alloc_new w2.drew _ _ 1) hW.out.below hW.out.below.size (by have := hsl.out; omega) ?_; intro v1 w1 ho hb hg hat; have ivp := Aside0.mk (pretty_Color.Inv.push (p := (rd l (x : Int), rd l (x : Int) == 123)) hW.out ho hb hg hat); have hs14 := (HS.out.below hb).str 14 (by omega); have hx1 := pw_cell_below hb hx0; clear ho hb hg hat)
          all_goals clear hx hinv
          all_goals go_wp2_with (first | (at_builtin; refine pretty_Color.append_none rfl _ _ 37 9 5 rfl Try.underlying37 Try.underlying9 pretty_Color.info8 _ rfl rfl ivp.out.dst ?_) | (go_at_call 30; refine (pretty_Color.put_one w.heap.size vd (l.take x) (rd l (x : Int)) w w1 ivp.out.dst ivp.out.below (by rw [List.length_take]; omega) ivp.out.below.size).mono ?_; rintro e w9 ⟨v9, rfl, ho, hb, hg, hat⟩; have iv9 := Aside0.mk (ivp.out.put ho hb hg hat); rw [TK.out] at iv9; have hsw9_15 := (HS.out.below hb).str 15 (by omega); clear ho hb hg hat) | (at_builtin; refine pretty_Color.append_none rfl _ _ 37 9 5 rfl Try.underlying37 Try.underlying9 pretty_Color.info8 _ rfl rfl iv9.out.dst ?_))
          all_goals refine Handed.intro (l.length + 1 - (x + 1)) (by omega) (hJ _ _ _ ?_)
          all_goals exact ⟨x + 1, st ++ [(rd l (x : Int), rd l (x : Int) == 123)], by omega, by have := hsl.out; (try simp only [List.length_append, List.length_cons, List.length_nil] at *); omega, by first | rfl | (simp; done) | (push_cast; rfl), iv9, ⟨rfl, rfl, rfl, rfl, rfl⟩⟩
        ·
          go_upto_region 55 with fail
          refine wp_cut (fun a' w' => ∃ bp : Bool, pretty_Color.At (.slice (some ad) l.length c0) (.pointer (some ⟨g, 0, none⟩)) (.func (.func 30) #[] #[]) vd vs (x : Int) a' ∧ a'.tmps.getD 261 undef = .bool bp ∧ Aside0 (bp = true → st ≠ []) ∧ w' = w2) ?_ ?_
          rotate_left
          · intro J1 K1 hJ1 hK1
            rcases List.eq_nil_or_concat st with rfl | ⟨st, p, rfl⟩
            · obtain ⟨A1, c1, rfl⟩ := hinv.out.nil_form
              by_cases c125 : rd l (x : Int) = 125
              · go_wp2
                exact Met.intro (hJ1 _ _ ⟨_, ⟨⟨rfl, rfl, rfl, rfl, rfl⟩, rfl, rfl, rfl⟩, rfl, ⟨by simp⟩, rfl⟩)
              ·
                have b125 : (rd l (x : Int) == 125) = false := beq_eq_false_iff_ne.mpr c125
                by_cases c93 : rd l (x : Int) = 93
                · go_wp2
                  exact Met.intro (hJ1 _ _ ⟨_, ⟨⟨rfl, rfl, rfl, rfl, rfl⟩, rfl, rfl, rfl⟩, rfl, ⟨by simp⟩, rfl⟩)
                ·
                  have b93 : (rd l (x : Int) == 93) = false := beq_eq_false_iff_ne.mpr c93
                  go_wp2
                  exact Met.intro (hJ1 _ _ ⟨_, ⟨⟨rfl, rfl, rfl, rfl, rfl⟩, rfl, rfl, rfl⟩, rfl, ⟨by simp⟩, rfl⟩)
            · rw [List.concat_eq_append] at hinv
              obtain ⟨gs, c1, rfl, hc1, hcm, hwl, hp1, hp2, hpf⟩ := hinv.out.snoc_form
              by_cases c125 : rd l (x : Int) = 125
              · go_wp2
                exact Met.intro (hJ1 _ _ ⟨_, ⟨⟨rfl, rfl, rfl, rfl, rfl⟩, rfl, rfl, rfl⟩, rfl, ⟨by simp⟩, rfl⟩)
              ·
                have b125 : (rd l (x : Int) == 125) = false := beq_eq_false_iff_ne.mpr c125
                by_cases c93 : rd l (x : Int) = 93
                · go_wp2
                  exact Met.intro (hJ1 _ _ ⟨_, ⟨⟨rfl, rfl, rfl, rfl, rfl⟩, rfl, rfl, rfl⟩, rfl, ⟨by simp⟩, rfl⟩)
                ·
                  have b93 : (rd l (x : Int) == 93) = false := beq_eq_false_iff_ne.mpr c93
                  go_wp2
                  exact Met.intro (hJ1 _ _ ⟨_, ⟨⟨rfl, rfl, rfl, rfl, rfl⟩, rfl, rfl, rfl⟩, rfl, ⟨by simp⟩, rfl⟩)
          rintro a3 w3 ⟨bp, hat, h261, hbp, rfl⟩
          obtain ⟨f10, hf, ha⟩ := pretty_Color.frame_lit a3 hat.fr.size hat.fr.defers
          have e0_ := (hf 0).trans hat.fr.e0
          have e1_ := (hf 1).trans hat.fr.e1
          have e5_ := (hf 5).trans hat.fr.e5
          have e6_ := (hf 6).trans hat.d
          have e7_ := (hf 7).trans hat.s
          have e8_ := (hf 8).trans hat.i
          have e261_ := (hf 261).trans h261
          rw [e0_, e1_, e5_, e6_, e7_, e8_, e261_] at ha
          subst ha
          clear hf e0_ e1_ e5_ e6_ e7_ e8_ e261_
          clear hat h261 HBB
          cases bp
          rotate_left
          ·
            obtain ⟨st, p, rfl⟩ : ∃ st' p, st = st' ++ [p] := by
              rcases List.eq_nil_or_concat st with h | ⟨st', p, h⟩
              · exact absurd h (hbp.out rfl)
              · exact ⟨st', p, by rw [h, List.concat_eq_append]⟩
            obtain ⟨gs, c1, rfl, hc1, hcm, hwl, hp1, hp2, hpf⟩ := hinv.out.snoc_form
            have hsl2 : st.length + 1 ≤ x := by have := hsl.out; simpa using this
            have HSL := Aside0.mk hsl2; clear hsl2
            have ivp := Aside0.mk hinv.out.pop
            have hsp_14 := (HS.out.below ivp.out.below).str 14 (by omega)
            have i1 : ((st.length : Int) ≤ (c1 : Int)) = True := eq_true (by omega)
            have i2 : (st.length ≤ c1) = True := eq_true (by omega)
            clear hinv hp1 hp2 hpf hbp hc1 hcm
            go_wp2_with (first | (at_builtin; refine pretty_Color.append_none rfl _ _ 37 9 5 rfl Try.underlying37 Try.underlying9 pretty_Color.info8 _ rfl rfl ivp.out.dst ?_) | (go_at_call 30; refine (pretty_Color.put_one w.heap.size vd (l.take x) (rd l (x : Int)) w _ ivp.out.dst ivp.out.below (by rw [List.length_take]; omega) ivp.out.below.size).mono ?_; rintro e w9 ⟨v9, rfl, ho, hb, hg, hat⟩; have iv9 := Aside0.mk (ivp.out.put ho hb hg hat); rw [TK.out] at iv9; have hsw9_15 := (HS.out.below hb).str 15 (by omega); clear ho hb hg hat) | (at_builtin; refine pretty_Color.append_none rfl _ _ 37 9 5 rfl Try.underlying37 Try.underlying9 pretty_Color.info8 _ rfl rfl iv9.out.dst ?_))
            all_goals clear hsl; have hsl := Aside0.mk (Nat.le_of_succ_le HSL.out)
            all_goals refine Handed.intro (l.length + 1 - (x + 1)) (by omega) (hJ _ _ _ ?_)
            all_goals exact ⟨x + 1, st, by omega, by have := hsl.out; (try simp only [List.length_append, List.length_cons, List.length_nil] at *); omega, by first | rfl | (simp; done) | (push_cast; rfl), iv9, ⟨rfl, rfl, rfl, rfl, rfl⟩⟩
          ·
            clear hbp
            go_upto_region 60 with fail
            refine wp_cut (fun a' w' => ∃ bt : Bool, pretty_Color.At (.slice (some ad) l.length c0) (.pointer (some ⟨g, 0, none⟩)) (.func (.func 30) #[] #[]) vd vs (x : Int) a' ∧ a'.tmps.getD 314 undef = .bool bt ∧ Aside0 (bt = true → st ≠ []) ∧ w' = w3) ?_ ?_
            rotate_left
            · intro J1 K1 hJ1 hK1
              rcases List.eq_nil_or_concat st with rfl | ⟨st, p, rfl⟩
              · obtain ⟨A1, c1, rfl⟩ := hinv.out.nil_form
                by_cases c58 : rd l (x : Int) = 58
                · go_wp2
                  exact Met.intro (hJ1 _ _ ⟨_, ⟨⟨rfl, rfl, rfl, rfl, rfl⟩, rfl, rfl, rfl⟩, rfl, ⟨by simp⟩, rfl⟩)
                ·
                  have b58 : (rd l (x : Int) == 58) = false := beq_eq_false_iff_ne.mpr c58
                  by_cases c44 : rd l (x : Int) = 44
                  · go_wp2
                    exact Met.intro (hJ1 _ _ ⟨_, ⟨⟨rfl, rfl, rfl, rfl, rfl⟩, rfl, rfl, rfl⟩, rfl, ⟨by simp⟩, rfl⟩)
                  ·
                    have b44 : (rd l (x : Int) == 44) = false := beq_eq_false_iff_ne.mpr c44
                    go_wp2
                    exact Met.intro (hJ1 _ _ ⟨_, ⟨⟨rfl, rfl, rfl, rfl, rfl⟩, rfl, rfl, rfl⟩, rfl, ⟨by simp⟩, rfl⟩)
              · rw [List.concat_eq_append] at hinv
                obtain ⟨gs, c1, rfl, hc1, hcm, hwl, hp1, hp2, hpf⟩ := hinv.out.snoc_form
                by_cases c58 : rd l (x : Int) = 58
                · go_wp2
                  exact Met.intro (hJ1 _ _ ⟨_, ⟨⟨rfl, rfl, rfl, rfl, rfl⟩, rfl, rfl, rfl⟩, rfl, ⟨by simp⟩, rfl⟩)
                ·
                  have b58 : (rd l (x : Int) == 58) = false := beq_eq_false_iff_ne.mpr c58
                  by_cases c44 : rd l (x : Int) = 44
                  · go_wp2
                    exact Met.intro (hJ1 _ _ ⟨_, ⟨⟨rfl, rfl, rfl, rfl, rfl⟩, rfl, rfl, rfl⟩, rfl, ⟨by simp⟩, rfl⟩)
                  ·
                    have b44 : (rd l (x : Int) == 44) = false := beq_eq_false_iff_ne.mpr c44
                    go_wp2
                    exact Met.intro (hJ1 _ _ ⟨_, ⟨⟨rfl, rfl, rfl, rfl, rfl⟩, rfl, rfl, rfl⟩, rfl, ⟨by simp⟩, rfl⟩)
            rintro a4 w4 ⟨bt, hat, h314, hbt, rfl⟩
            obtain ⟨f11, hf, ha⟩ := pretty_Color.frame_lit a4 hat.fr.size hat.fr.defers
            have e0_ := (hf 0).trans hat.fr.e0
            have e1_ := (hf 1).trans hat.fr.e1
            have e5_ := (hf 5).trans hat.fr.e5
            have e6_ := (hf 6).trans hat.d
            have e7_ := (hf 7).trans hat.s
            have e8_ := (hf 8).trans hat.i
            have e314_ := (hf 314).trans h314
            rw [e0_, e1_, e5_, e6_, e7_, e8_, e314_] at ha
            subst ha
            clear hf e0_ e1_ e5_ e6_ e7_ e8_ e314_
            clear hat h314
            cases bt
            rotate_left
            ·
              obtain ⟨st, p, rfl⟩ : ∃ st' p, st = st' ++ [p] := by
                rcases List.eq_nil_or_concat st with h | ⟨st', p, h⟩
                · exact absurd h (hbt.out rfl)
                · exact ⟨st', p, by rw [h, List.concat_eq_append]⟩
              obtain ⟨gs, c1, rfl, hc1, hcm, hwl, hp1, hp2, hpf⟩ := hinv.out.snoc_form
              have hsl2 : st.length + 1 ≤ x := by have := hsl.out; simpa using this
              have HSL := Aside0.mk hsl2; clear hsl2
              clear hbt hc1 hcm hp1
              go_upto_region 62 with fail
              have ivp := Aside0.mk (hinv.out.toggle (!p.2))
              have hsp_14 := (HS.out.below ivp.out.below).str 14 (by omega)
              have hx1 := pw_cell_below ivp.out.below hx0
              clear hinv hp2 hpf hx
              go_wp2_with (first | (at_builtin; refine pretty_Color.append_none rfl _ _ 37 9 5 rfl Try.underlying37 Try.underlying9 pretty_Color.info8 _ rfl rfl ivp.out.dst ?_) | (go_at_call 30; refine (pretty_Color.put_one w.heap.size vd (l.take x) (rd l (x : Int)) w _ ivp.out.dst ivp.out.below (by rw [List.length_take]; omega) ivp.out.below.size).mono ?_; rintro e w9 ⟨v9, rfl, ho, hb, hg, hat⟩; have iv9 := Aside0.mk (ivp.out.put ho hb hg hat); rw [TK.out] at iv9; have hsw9_15 := (HS.out.below hb).str 15 (by omega); clear ho hb hg hat) | (at_builtin; refine pretty_Color.append_none rfl _ _ 37 9 5 rfl Try.underlying37 Try.underlying9 pretty_Color.info8 _ rfl rfl iv9.out.dst ?_))
              all_goals clear hsl; have hsl := Aside0.mk (show (st ++ [(p.1, !p.2)]).length ≤ x by simpa using HSL.out)
              all_goals refine Handed.intro (l.length + 1 - (x + 1)) (by omega) (hJ _ _ _ ?_)
              all_goals exact ⟨x + 1, st ++ [(p.1, !p.2)], by omega, by have := hsl.out; (try simp only [List.length_append, List.length_cons, List.length_nil] at *); omega, by first | rfl | (simp; done) | (push_cast; rfl), iv9, ⟨rfl, rfl, rfl, rfl, rfl⟩⟩
            ·
              clear hbt
              go_upto_region 66 with fail
              refine wp_cut (fun a' w' => ∃ bn : Bool, pretty_Color.At (.slice (some ad) l.length c0) (.pointer (some ⟨g, 0, none⟩)) (.func (.func 30) #[] #[]) vd vs (x : Int) a' ∧ a'.tmps.getD 374 undef = .bool bn ∧ a'.tmps.getD 13 undef = .int .u8 0 ∧ Aside0 (bn = true → (32 < rd l (x : Int) ∧ rd l (x : Int) ≠ 44 ∧ rd l (x : Int) ≠ 58 ∧ rd l (x : Int) ≠ 93 ∧ rd l (x : Int) ≠ 125)) ∧ w' = w4) ?_ ?_
              rotate_left
              · intro J1 K1 hJ1 hK1
                by_cases c1 : 48 ≤ rd l (x : Int)
                · by_cases c2 : rd l (x : Int) ≤ 57
                  · go_wp2
                    exact Met.intro (hJ1 _ _ ⟨_, ⟨⟨rfl, rfl, rfl, rfl, rfl⟩, rfl, rfl, rfl⟩, rfl, rfl, ⟨by intro _; omega⟩, rfl⟩)
                  · have b45 : (rd l (x : Int) == 45) = false := beq_eq_false_iff_ne.mpr (by omega)
                    have a2 : (rd l (x : Int) ≤ 57) = False := eq_false c2
                    have a1 : (48 ≤ rd l (x : Int)) = True := eq_true c1
                    clear c1 c2
                    go_wp2_with (go_at_call 31; refine (pretty_Color.nan_calls ad c0 l _ x (Kd.C_below HR.out hinv.out.below) (by omega) hc0 hl).mono ?_; rintro e w5 ⟨rfl, rfl⟩)
                    exact Met.intro (hJ1 _ _ ⟨_, ⟨⟨rfl, rfl, rfl, rfl, rfl⟩, rfl, rfl, rfl⟩, rfl, rfl, ⟨by exact fun h => pretty_Color.nan_tok l x h⟩, rfl⟩)
                · have a1 : (48 ≤ rd l (x : Int)) = False := eq_false c1
                  by_cases c2 : rd l (x : Int) = 45
                  · go_wp2
                    exact Met.intro (hJ1 _ _ ⟨_, ⟨⟨rfl, rfl, rfl, rfl, rfl⟩, rfl, rfl, rfl⟩, rfl, rfl, ⟨by intro _; omega⟩, rfl⟩)
                  · have b45 : (rd l (x : Int) == 45) = false := beq_eq_false_iff_ne.mpr c2
                    clear c1 c2
                    go_wp2_with (go_at_call 31; refine (pretty_Color.nan_calls ad c0 l _ x (Kd.C_below HR.out hinv.out.below) (by omega) hc0 hl).mono ?_; rintro e w5 ⟨rfl, rfl⟩)
                    exact Met.intro (hJ1 _ _ ⟨_, ⟨⟨rfl, rfl, rfl, rfl, rfl⟩, rfl, rfl, rfl⟩, rfl, rfl, ⟨by exact fun h => pretty_Color.nan_tok l x h⟩, rfl⟩)
              rintro a5 w5 ⟨bn, hat, h374, h13, hbn, rfl⟩
              obtain ⟨f12, hf, ha⟩ := pretty_Color.frame_lit a5 hat.fr.size hat.fr.defers
              have e0_ := (hf 0).trans hat.fr.e0
              have e1_ := (hf 1).trans hat.fr.e1
              have e5_ := (hf 5).trans hat.fr.e5
              have e6_ := (hf 6).trans hat.d
              have e7_ := (hf 7).trans hat.s
              have e8_ := (hf 8).trans hat.i
              have e374_ := (hf 374).trans h374
              have e13_ := (hf 13).trans h13
              rw [e0_, e1_, e5_, e6_, e7_, e8_, e374_, e13_] at ha
              subst ha
              clear hf e0_ e1_ e5_ e6_ e7_ e8_ e374_ e13_
              clear hat h374 h13
              go_upto_if 374 with fail
              refine wp_cut (fun a' w' => ∃ (kd : Int) (v : Value), pretty_Color.At (.slice (some ad) l.length c0) (.pointer (some ⟨g, 0, none⟩)) (.func (.func 30) #[] #[]) v vs (x : Int) a' ∧ a'.tmps.getD 13 undef = .int .u8 kd ∧ Aside0 ((((kd = 48 ∨ kd = 116 ∨ kd = 102 ∨ kd = 110) ∧ (32 < rd l (x : Int) ∧ rd l (x : Int) ≠ 44 ∧ rd l (x : Int) ≠ 58 ∧ rd l (x : Int) ≠ 93 ∧ rd l (x : Int) ≠ 125)) ∧ pretty_Color.Inv w w' v vs (l.take x) st) ∨ (kd = 0 ∧ pretty_Color.Inv w w' v vs (l.take (x + 1)) st))) ?_ ?_
              rotate_left
              · intro J1 K1 hJ1 hK1
                have hsq_4 := (HS.out.below hinv.out.below).str 4 (by omega)
                have hsq_6 := (HS.out.below hinv.out.below).str 6 (by omega)
                have hsq_8 := (HS.out.below hinv.out.below).str 8 (by omega)
                have hsq_10 := (HS.out.below hinv.out.below).str 10 (by omega)
                cases bn
                rotate_left
                · go_wp2_with (at_builtin; refine pretty_Color.append_none rfl _ _ 37 9 5 rfl Try.underlying37 Try.underlying9 pretty_Color.info8 _ rfl rfl hinv.out.dst ?_)
                  exact Met.intro (hJ1 _ _ ⟨_, _, ⟨⟨rfl, rfl, rfl, rfl, rfl⟩, rfl, rfl, rfl⟩, rfl, ⟨.inl ⟨⟨by simp, hbn.out (by first | trivial | rfl)⟩, hinv.out⟩⟩⟩)
                · by_cases d116 : rd l (x : Int) = 116
                  · have b116 : (rd l (x : Int) == 116) = true := beq_iff_eq.mpr d116
                    have HT := Aside0.mk d116; clear d116
                    go_wp2_with (at_builtin; refine pretty_Color.append_none rfl _ _ 37 9 5 rfl Try.underlying37 Try.underlying9 pretty_Color.info8 _ rfl rfl hinv.out.dst ?_)
                    exact Met.intro (hJ1 _ _ ⟨_, _, ⟨⟨rfl, rfl, rfl, rfl, rfl⟩, rfl, rfl, rfl⟩, rfl, ⟨.inl ⟨⟨by simp, by have := HT.out; omega⟩, hinv.out⟩⟩⟩)
                  · have b116 : (rd l (x : Int) == 116) = false := beq_eq_false_iff_ne.mpr d116
                    by_cases d102 : rd l (x : Int) = 102
                    · have b102 : (rd l (x : Int) == 102) = true := beq_iff_eq.mpr d102
                      have HT := Aside0.mk d102; clear d102
                      go_wp2_with (at_builtin; refine pretty_Color.append_none rfl _ _ 37 9 5 rfl Try.underlying37 Try.underlying9 pretty_Color.info8 _ rfl rfl hinv.out.dst ?_)
                      exact Met.intro (hJ1 _ _ ⟨_, _, ⟨⟨rfl, rfl, rfl, rfl, rfl⟩, rfl, rfl, rfl⟩, rfl, ⟨.inl ⟨⟨by simp, by have := HT.out; omega⟩, hinv.out⟩⟩⟩)
                    · have b102 : (rd l (x : Int) == 102) = false := beq_eq_false_iff_ne.mpr d102
                      by_cases d110 : rd l (x : Int) = 110
                      · have b110 : (rd l (x : Int) == 110) = true := beq_iff_eq.mpr d110
                        have HT := Aside0.mk d110; clear d110
                        go_wp2_with (at_builtin; refine pretty_Color.append_none rfl _ _ 37 9 5 rfl Try.underlying37 Try.underlying9 pretty_Color.info8 _ rfl rfl hinv.out.dst ?_)
                        exact Met.intro (hJ1 _ _ ⟨_, _, ⟨⟨rfl, rfl, rfl, rfl, rfl⟩, rfl, rfl, rfl⟩, rfl, ⟨.inl ⟨⟨by simp, by have := HT.out; omega⟩, hinv.out⟩⟩⟩)
                      · have b110 : (rd l (x : Int) == 110) = false := beq_eq_false_iff_ne.mpr d110
                        go_wp2_with (go_at_call 30; refine (pretty_Color.put_one w.heap.size vd (l.take x) (rd l (x : Int)) w _ hinv.out.dst hinv.out.below (by rw [List.length_take]; omega) hinv.out.below.size).mono ?_; rintro e w9 ⟨v9, rfl, ho, hb, hg, hat⟩; have iv9 := Aside0.mk (hinv.out.put ho hb hg hat); rw [TK.out] at iv9; clear ho hb hg hat)
                        exact Met.intro (hJ1 _ _ ⟨_, _, ⟨⟨rfl, rfl, rfl, rfl, rfl⟩, rfl, rfl, rfl⟩, rfl, ⟨.inr ⟨rfl, iv9.out⟩⟩⟩)
              rintro a6 w6 ⟨kd, v6, hat, h13, hkd⟩
              obtain ⟨f13, hf, ha⟩ := pretty_Color.frame_lit a6 hat.fr.size hat.fr.defers
              have e0_ := (hf 0).trans hat.fr.e0
              have e1_ := (hf 1).trans hat.fr.e1
              have e5_ := (hf 5).trans hat.fr.e5
              have e6_ := (hf 6).trans hat.d
              have e7_ := (hf 7).trans hat.s
              have e8_ := (hf 8).trans hat.i
              have e13_ := (hf 13).trans h13
              rw [e0_, e1_, e5_, e6_, e7_, e8_, e13_] at ha
              subst ha
              clear hf e0_ e1_ e5_ e6_ e7_ e8_ e13_
              clear hat h13 hinv hx hbn
              rcases hkd.out with ⟨⟨hk4, htok⟩, iv6⟩ | ⟨rfl, iv6⟩
              rotate_left
              · have iv6 := Aside0.mk iv6
                clear hkd
                go_wp2
                all_goals refine Handed.intro (l.length + 1 - (x + 1)) (by omega) (hJ _ _ _ ?_)
                all_goals exact ⟨x + 1, st, by omega, by have := hsl.out; (try simp only [List.length_append, List.length_cons, List.length_nil] at *); omega, by first | rfl | (simp; done) | (push_cast; rfl), iv6, ⟨rfl, rfl, rfl, rfl, rfl⟩⟩
              · have iv6 := Aside0.mk iv6
                have HK4 := Aside0.mk hk4
                have HTOK := Aside0.mk htok
                have bk : (kd == 0) = false := beq_eq_false_iff_ne.mpr (by omega)
                have bk2 : (kd != 0) = true := by rw [bne, bk]; rfl
                clear hkd htok hk4
                go_wp2
                refine pretty_Color.wp_cut_block (fun a' w' => ∃ (y : Nat) (v : Value), x ≤ y ∧ y ≤ l.length ∧ pretty_Color.At (.slice (some ad) l.length c0) (.pointer (some ⟨g, 0, none⟩)) (.func (.func 30) #[] #[]) v vs (y : Int) a' ∧ a'.tmps.getD 13 undef = .int .u8 kd ∧ Aside0 (pretty_Color.Inv w w' v vs (l.take (y + 1)) st)) ?_ ?_
                · rintro a7 w7 ⟨y, v7, hxy, hyl, hat, h13, iv7⟩
                  obtain ⟨f14, hf, ha⟩ := pretty_Color.frame_lit a7 hat.fr.size hat.fr.defers
                  have e0_ := (hf 0).trans hat.fr.e0
                  have e1_ := (hf 1).trans hat.fr.e1
                  have e5_ := (hf 5).trans hat.fr.e5
                  have e6_ := (hf 6).trans hat.d
                  have e7_ := (hf 7).trans hat.s
                  have e8_ := (hf 8).trans hat.i
                  have e13_ := (hf 13).trans h13
                  rw [e0_, e1_, e5_, e6_, e7_, e8_, e13_] at ha
                  subst ha
                  clear hf e0_ e1_ e5_ e6_ e7_ e8_ e13_
                  clear hat h13 iv6 bk bk2
                  have hsu_5 := (HS.out.below iv7.out.below).str 5 (by omega)
                  have hsu_7 := (HS.out.below iv7.out.below).str 7 (by omega)
                  have hsu_9 := (HS.out.below iv7.out.below).str 9 (by omega)
                  have hsu_11 := (HS.out.below iv7.out.below).str 11 (by omega)
                  rcases HK4.out with rfl | rfl | rfl | rfl
                  · go_wp2_with (at_builtin; refine pretty_Color.append_none rfl _ _ 37 9 5 rfl Try.underlying37 Try.underlying9 pretty_Color.info8 _ rfl rfl iv7.out.dst ?_)
                    have hsl := Aside0.mk (Nat.le_trans hsl.out hxy)
                    all_goals refine Handed.intro (l.length + 1 - (y + 1)) (by omega) (hJ _ _ _ ?_)
                    all_goals exact ⟨y + 1, st, by omega, by have := hsl.out; (try simp only [List.length_append, List.length_cons, List.length_nil] at *); omega, by first | rfl | (simp; done) | (push_cast; rfl), iv7, ⟨rfl, rfl, rfl, rfl, rfl⟩⟩
                  · go_wp2_with (at_builtin; refine pretty_Color.append_none rfl _ _ 37 9 5 rfl Try.underlying37 Try.underlying9 pretty_Color.info8 _ rfl rfl iv7.out.dst ?_)
                    have hsl := Aside0.mk (Nat.le_trans hsl.out hxy)
                    all_goals refine Handed.intro (l.length + 1 - (y + 1)) (by omega) (hJ _ _ _ ?_)
                    all_goals exact ⟨y + 1, st, by omega, by have := hsl.out; (try simp only [List.length_append, List.length_cons, List.length_nil] at *); omega, by first | rfl | (simp; done) | (push_cast; rfl), iv7, ⟨rfl, rfl, rfl, rfl, rfl⟩⟩
                  · go_wp2_with (at_builtin; refine pretty_Color.append_none rfl _ _ 37 9 5 rfl Try.underlying37 Try.underlying9 pretty_Color.info8 _ rfl rfl iv7.out.dst ?_)
                    have hsl := Aside0.mk (Nat.le_trans hsl.out hxy)
                    all_goals refine Handed.intro (l.length + 1 - (y + 1)) (by omega) (hJ _ _ _ ?_)
                    all_goals exact ⟨y + 1, st, by omega, by have := hsl.out; (try simp only [List.length_append, List.length_cons, List.length_nil] at *); omega, by first | rfl | (simp; done) | (push_cast; rfl), iv7, ⟨rfl, rfl, rfl, rfl, rfl⟩⟩
                  · go_wp2_with (at_builtin; refine pretty_Color.append_none rfl _ _ 37 9 5 rfl Try.underlying37 Try.underlying9 pretty_Color.info8 _ rfl rfl iv7.out.dst ?_)
                    have hsl := Aside0.mk (Nat.le_trans hsl.out hxy)
                    all_goals refine Handed.intro (l.length + 1 - (y + 1)) (by omega) (hJ _ _ _ ?_)
                    all_goals exact ⟨y + 1, st, by omega, by have := hsl.out; (try simp only [List.length_append, List.length_cons, List.length_nil] at *); omega, by first | rfl | (simp; done) | (push_cast; rfl), iv7, ⟨rfl, rfl, rfl, rfl, rfl⟩⟩
                · intro J7 K7 hJ7 hK7
                  refine wp_loop_ghost_k (fun kq a' w' => ∃ (y : Nat) (v : Value), x ≤ y ∧ y + kq = l.length ∧ pretty_Color.At (.slice (some ad) l.length c0) (.pointer (some ⟨g, 0, none⟩)) (.func (.func 30) #[] #[]) v vs (y : Int) a' ∧ a'.tmps.getD 13 undef = .int .u8 kd ∧ Aside0 (pretty_Color.Inv w w' v vs (l.take y) st)) (l.length - x) ?_ ?_
                  · exact ⟨x, v6, by omega, by omega, ⟨⟨rfl, rfl, rfl, rfl, rfl⟩, rfl, rfl, rfl⟩, rfl, iv6⟩
                  rintro n8 a8 w8 ⟨y, v8, hxy, hk8, hat, h13, iv8⟩ J8 K8 hJ8 hK8
                  clear iv6
                  obtain ⟨f15, hf, ha⟩ := pretty_Color.frame_lit a8 hat.fr.size hat.fr.defers
                  have e0_ := (hf 0).trans hat.fr.e0
                  have e1_ := (hf 1).trans hat.fr.e1
                  have e5_ := (hf 5).trans hat.fr.e5
                  have e6_ := (hf 6).trans hat.d
                  have e7_ := (hf 7).trans hat.s
                  have e8_ := (hf 8).trans hat.i
                  have e13_ := (hf 13).trans h13
                  rw [e0_, e1_, e5_, e6_, e7_, e8_, e13_] at ha
                  subst ha
                  clear hf e0_ e1_ e5_ e6_ e7_ e8_ e13_
                  clear hat h13
                  by_cases hyl : y < l.length
                  · obtain ⟨ad2, ea2, hy0⟩ := Kd.at_int HR.out (y : Int) (by omega) (by omega)
                    obtain rfl := Option.some.inj ea2
                    rw [Int.toNat_natCast] at hy0
                    have hy := pw_cell_below iv8.out.below hy0
                    have q2 : ((y : Int) < (l.length : Int)) = True := eq_true (by omega)
                    have q2n : (y < l.length) = True := eq_true hyl
                    by_cases dl : rd l (y : Int) ≤ 32 ∨ rd l (y : Int) = 44 ∨ rd l (y : Int) = 58 ∨ rd l (y : Int) = 93 ∨ rd l (y : Int) = 125
                    · have hyx : y ≠ x := by rintro rfl; have := HTOK.out; omega
                      obtain ⟨z, hz⟩ : ∃ z, y = z + 1 := ⟨y - 1, by omega⟩
                      have hwz : wrap64 ((y : Int) - 1) = (z : Int) := by unfold wrap64; omega
                      have hxz : x ≤ z := by omega
                      have hzl : z ≤ l.length := by omega
                      have iv8z : Aside0 (pretty_Color.Inv w w8 v8 vs (l.take (z + 1)) st) := by rw [← hz]; exact iv8
                      have HYZ : Aside0 ((y : Int) - 1 = (z : Int)) := ⟨by omega⟩
                      clear hz hk8
                      by_cases d32 : rd l (y : Int) ≤ 32
                      · go_wp2
                        exact Met.intro (hJ7 _ _ ⟨z, v8, hxz, hzl, ⟨⟨rfl, rfl, rfl, rfl, rfl⟩, rfl, rfl, congrArg (Value.int .i64) HYZ.out⟩, rfl, iv8z⟩)
                      ·
                        by_cases d44 : rd l (y : Int) = 44
                        · go_wp2
                          exact Met.intro (hJ7 _ _ ⟨z, v8, hxz, hzl, ⟨⟨rfl, rfl, rfl, rfl, rfl⟩, rfl, rfl, congrArg (Value.int .i64) HYZ.out⟩, rfl, iv8z⟩)
                        · have b44 : (rd l (y : Int) == 44) = false := beq_eq_false_iff_ne.mpr d44
                          by_cases d58 : rd l (y : Int) = 58
                          · go_wp2
                            exact Met.intro (hJ7 _ _ ⟨z, v8, hxz, hzl, ⟨⟨rfl, rfl, rfl, rfl, rfl⟩, rfl, rfl, congrArg (Value.int .i64) HYZ.out⟩, rfl, iv8z⟩)
                          · have b58 : (rd l (y : Int) == 58) = false := beq_eq_false_iff_ne.mpr d58
                            by_cases d93 : rd l (y : Int) = 93
                            · go_wp2
                              exact Met.intro (hJ7 _ _ ⟨z, v8, hxz, hzl, ⟨⟨rfl, rfl, rfl, rfl, rfl⟩, rfl, rfl, congrArg (Value.int .i64) HYZ.out⟩, rfl, iv8z⟩)
                            · have b93 : (rd l (y : Int) == 93) = false := beq_eq_false_iff_ne.mpr d93
                              have d125 : rd l (y : Int) = 125 := by omega
                              go_wp2
                              exact Met.intro (hJ7 _ _ ⟨z, v8, hxz, hzl, ⟨⟨rfl, rfl, rfl, rfl, rfl⟩, rfl, rfl, congrArg (Value.int .i64) HYZ.out⟩, rfl, iv8z⟩)
                    · have tk := pretty_Color.take_rd l y hyl
                      have TK8 := Aside0.mk tk; clear tk
                      have d32 : (rd l (y : Int) ≤ 32) = False := eq_false (by omega)
                      have b44 : (rd l (y : Int) == 44) = false := beq_eq_false_iff_ne.mpr (by omega)
                      have b58 : (rd l (y : Int) == 58) = false := beq_eq_false_iff_ne.mpr (by omega)
                      have b93 : (rd l (y : Int) == 93) = false := beq_eq_false_iff_ne.mpr (by omega)
                      have b125 : (rd l (y : Int) == 125) = false := beq_eq_false_iff_ne.mpr (by omega)
                      clear dl
                      go_wp2_with (go_at_call 30; refine (pretty_Color.put_one w.heap.size v8 (l.take y) (rd l (y : Int)) w _ iv8.out.dst iv8.out.below (by rw [List.length_take]; omega) iv8.out.below.size).mono ?_; rintro e w9 ⟨v9, rfl, ho, hb, hg, hat⟩; have iv9 := Aside0.mk (iv8.out.put ho hb hg hat); rw [TK8.out] at iv9; clear ho hb hg hat)
                      refine Handed.intro (l.length - (y + 1)) (by omega) (hJ8 _ _ _ ?_)
                      exact ⟨y + 1, v9, by omega, by omega, ⟨⟨rfl, rfl, rfl, rfl, rfl⟩, rfl, rfl, by first | rfl | (simp; done)⟩, rfl, iv9⟩
                  · obtain rfl : y = l.length := by omega
                    go_wp2
                    rw [pretty_Color.take_end l l.length (Nat.le_refl _), ← pretty_Color.take_end l (l.length + 1) (by omega)] at iv8
                    exact Met.intro (hJ7 _ _ ⟨l.length, v8, by omega, by omega, ⟨⟨rfl, rfl, rfl, rfl, rfl⟩, rfl, rfl, rfl⟩, rfl, iv8⟩)
    · have hxe : l.length ≤ x := by omega
      have qf : ((x : Int) < (l.length : Int)) = False := eq_false hlt
      have hd := Aside0.mk hinv.out.dst
      have hB := Aside0.mk hinv.out.below
      rw [pretty_Color.take_end l x hxe] at hd
      go_wp2
      go_ret
      exact ⟨_, rfl, hd.out, hB.out⟩

end Go.Proofs.Ytdllbnecbbggfaa.XFnPrColorBare
