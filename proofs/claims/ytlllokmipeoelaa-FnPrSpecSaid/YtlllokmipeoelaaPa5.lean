/- Proved here: parts of the law FnPrSpec (the texts XFnPrSpecx7 XFnPrSpecx1 XFnPrSpecx8 XFnPrSpecx9), no conditions of their own beyond what each theorem says. -/
import Derived.Test.YtlllokmipeoelaaPa1
import Derived.Test.YtlllokmipeoelaaPa4
section
-- Written by xprint.py of this session (a program that runs the kit's print and adds to it); Lean checks it.
namespace Go.Proofs.Ytlllokmipeoelaa.XFnPrSpec
open Go.RowKit Go.Proofs.YtlllokmipeoelaaW.PrintWords Go.Proofs.YtlllokmipeoelaaW.PrintLast Go.Proofs.YtlllokmipeoelaaW.PrintMore
attribute [local go_sem] max2_int min2_int max_two min_two max_three min_three max_four min_four   -- for this text's walks alone
set_option linter.unusedVariables false
set_option linter.unusedSimpArgs false
--EXT
/-! ### spec_Uncommented: function 4 (by hand) -/
/-- The bytes from a place on, n of them, but line feeds: blanks. -/
def spec_Uncommented.bl (out : List Int) (a : Nat) : Nat → List Int
  | 0 => out
  | n + 1 => if rd (spec_Uncommented.bl out a n) ((a + n : Nat) : Int) = 10 then spec_Uncommented.bl out a n else (spec_Uncommented.bl out a n).set (a + n) 32
theorem spec_Uncommented.bl_len (out : List Int) (a : Nat) : ∀ n, (spec_Uncommented.bl out a n).length = out.length
  | 0 => rfl
  | n + 1 => by rw [spec_Uncommented.bl]; split <;> simp [spec_Uncommented.bl_len out a n]
def spec_Uncommented.l0 : Nat → ByteArray → Int → Int → List Int → Option (ByteArray × Bool)
  | 0, _, _, _, _ => none
  | k + 1, s, x, y, out =>
    if x < s.size then (spec_comment.f k s x).bind fun r =>
      if r.2 = true then
        if r.1 > x then (if r.1 ≤ s.size then spec_Uncommented.l0 k s r.1 y (spec_Uncommented.bl out x.toNat (r.1 - x).toNat) else none)
        else if bt s x = 34 then (spec_reader_quoted.f k s x).bind fun q => if q.1 = true then (if x < q.2.2 ∧ q.2.2 ≤ s.size then spec_Uncommented.l0 k s q.2.2 x out else none) else some (⟨#[]⟩, false)
        else (spec_Blank.f (bt s x)).bind fun b => spec_Uncommented.l0 k s (x + 1) (if b = true then y else x) (if (bt s x = 125 ∨ bt s x = 93) ∧ 0 ≤ y ∧ bt s y = 44 then out.set y.toNat 32 else out)
      else some (⟨#[]⟩, false)
    else (spec_Places.f k (strOfNums out)).bind fun p => some (strOfNums out, p.2.2.2.2.2)
def spec_Uncommented.f (k : Nat) (a0 : ByteArray) : Option (ByteArray × Bool) := if a0.size ≤ 1000000 then spec_Uncommented.l0 k a0 0 (-1) (bytesOf a0) else none
/-- The row that the text was copied to, in the first new block. -/
structure spec_Uncommented.OW (w W : World) (o : List Int) : Prop where
  blk : ∃ (cur : Array Value) (lo hi : Nat), W.heap[w.heap.size]? = some (.cells cur 5 (lo, hi)) ∧ (∀ j, j < o.length → cur[j]? = some (.int .u8 (rd o (j : Int)))) ∧ o.length ≤ lo
  bel : Below w.heap.size w W
theorem spec_Uncommented.OW.cell {w W : World} {o : List Int} (h : spec_Uncommented.OW w W o) (j : Nat) (hj : j < o.length) : W.cell? ⟨w.heap.size, j, none⟩ = some (.int .u8 (rd o (j : Int))) := by
  obtain ⟨cur, lo, hi, h1, h2, h3⟩ := h.blk
  simp [World.cell?, h1, h2 j hj]
theorem spec_Uncommented.OW.free {w W : World} {o : List Int} (h : spec_Uncommented.OW w W o) (j : Nat) (hj : j < o.length) : W.frozen? ⟨w.heap.size, j, none⟩ = false := by
  obtain ⟨cur, lo, hi, h1, h2, h3⟩ := h.blk
  simp [World.frozen?, h1]
  omega
theorem spec_Uncommented.OW.lt {w W : World} {o : List Int} (h : spec_Uncommented.OW w W o) : w.heap.size < W.heap.size := by
  obtain ⟨cur, lo, hi, h1, h2, h3⟩ := h.blk
  refine Nat.lt_of_not_le fun hle => ?_
  rw [Array.getElem?_eq_none hle] at h1
  cases h1
theorem spec_Uncommented.OW.below {w W W' : World} {o : List Int} (h : spec_Uncommented.OW w W o) (hb : Below W.heap.size W W') : spec_Uncommented.OW w W' o := by
  have hl := h.lt
  obtain ⟨cur, lo, hi, h1, h2, h3⟩ := h.blk
  exact ⟨⟨cur, lo, hi, (hb.block _ hl).trans h1, h2, h3⟩, h.bel.trans (hb.mono (by omega))⟩
theorem spec_Uncommented.OW.drewN {w W : World} {o : List Int} (h : spec_Uncommented.OW w W o) (n : Nat) : spec_Uncommented.OW w (W.drewN n) o := ⟨h.blk, pw_below_drewN h.bel n⟩
theorem spec_Uncommented.OW.set {w W : World} {o : List Int} (h : spec_Uncommented.OW w W o) (j : Nat) (hj : j < o.length) (x : Int) : spec_Uncommented.OW w (W.setCell ⟨w.heap.size, j, none⟩ (.int .u8 x)) (o.set j x) := by
  obtain ⟨cur, lo, hi, h1, h2, h3⟩ := h.blk
  refine ⟨⟨cur.setIfInBounds j (.int .u8 x), lo, hi, OwnRow.heap_setCell h1 _, fun i hi' => ?_, by rw [List.length_set]; exact h3⟩, h.bel.setCell (Nat.le_refl _) _⟩
  rw [List.length_set] at hi'
  have hc := h2 i hi'
  rw [Array.getElem?_setIfInBounds]
  unfold rd
  simp only [Int.toNat_natCast, List.getD_eq_getElem?_getD]
  by_cases e : j = i
  · subst e
    have : j < cur.size := by
      refine Nat.lt_of_not_le fun hle => ?_
      rw [Array.getElem?_eq_none hle] at hc
      cases hc
    simp [this, hj]
  · rw [if_neg e, List.getElem?_set_ne e, hc]
    rfl
theorem spec_Uncommented.OW.start (w : World) (s : ByteArray) : spec_Uncommented.OW w (Lib.bytesWorld w 5 s) (bytesOf s) := by
  have hsz : s.size ≤ (Lib.bytesCells w 5 s).size := by
    unfold Lib.bytesCells
    rw [Array.size_append, Array.size_map]
    exact Nat.le_add_right _ _
  refine ⟨⟨_, _, _, Lib.bytesWorld_at_new w _ s, fun j hj => ?_, by rw [bytesOf_length]; exact hsz⟩, bytes_below (Below.refl w.heap.size w) (Nat.le_refl _) _ s⟩
  rw [bytesOf_length] at hj
  have h := Lib.bytesWorld_cell w 5 s j hj
  simp only [World.cell?, Lib.bytesWorld_at_new] at h
  have h2 : (Lib.bytesCells w 5 s)[j]? = some (.int .u8 ((s.data.toList.getD j 0).toNat : Int)) := by simpa using h
  rw [h2]
  congr 2
  unfold rd bytesOf
  have h' : j < s.data.toList.length := by rw [data_length]; exact hj
  simp [List.getD_eq_getElem?_getD, List.getElem?_eq_getElem h']
theorem spec_Uncommented.OW.reads {w W : World} {o : List Int} (h : spec_Uncommented.OW w W o) (hl : o.length ≤ 1000000) : Kd.C (Kd.int .u8) W (some ⟨w.heap.size, 0, none⟩) o.length o := by
  refine Kd.C_of_reads (d := (0 : Int)) (h1 := fun _ => rfl) ⟨rfl, by omega, fun _ => ⟨⟨w.heap.size, 0, none⟩, rfl, fun j hj => ?_⟩⟩
  rw [add_plain, h.cell j hj]
  rfl
/-- What the reading of a string leaves. -/
theorem spec_Uncommented.OW.keep {w W W' : World} {o : List Int} {g : Nat} (h : spec_Uncommented.OW w W o) (hk : KeepBut W W' g none) (hg : w.heap.size < g) (hb : Below w.heap.size w W') : spec_Uncommented.OW w W' o := by
  have hl := h.lt
  obtain ⟨cur, lo, hi, h1, h2, h3⟩ := h.blk
  exact ⟨⟨cur, lo, hi, (hk.2 _ hl (by omega) (by simp)).trans h1, h2, h3⟩, hb⟩
theorem spec_Uncommented.OW.far {w W : World} {o : List Int} (h : spec_Uncommented.OW w W o) {g : Nat} (hg : w.heap.size < g) (j : Nat) (u : Value) : spec_Uncommented.OW w (W.setCell ⟨g, j, none⟩ u) o := by
  obtain ⟨cur, lo, hi, h1, h2, h3⟩ := h.blk
  exact ⟨⟨cur, lo, hi, (Below.heap_setCell W ⟨g, j, none⟩ u _ (by show w.heap.size ≠ g; omega)).trans h1, h2, h3⟩, h.bel.setCell (by show w.heap.size ≤ g; omega) _⟩
set_option maxHeartbeats 16000000 in
set_option maxRecDepth 100000 in
theorem spec_Uncommented.calls (k : Nat) (a0 : ByteArray) (r : ByteArray) (b : Bool) (w : World) (h : spec_Uncommented.f k a0 = some (r, b)) :
    Calls Try.prog 4 #[.string a0] w fun e w' => e = .returned (.tuple #[.string r, .bool b]) ∧ Below w.heap.size w w' := by
  have hs : a0.size ≤ 1000000 := by
    unfold spec_Uncommented.f at h
    split at h
    · assumption
    · cases h
  have H0 : Aside0 (spec_Uncommented.l0 k a0 0 (-1) (bytesOf a0) = some (r, b)) := ⟨by unfold spec_Uncommented.f at h; rwa [if_pos hs] at h⟩
  have HOW := Aside0.mk (spec_Uncommented.OW.start w a0)
  have kb := fun W => print_bytes (P := Try.prog) 9 27 5 Try.underlying9 Try.underlying27 Try.underlying5 a0 W
  have hge := grownCap_ge w a0.size 0 5
  generalize hcap : grownCap w a0.size 0 5 = cap at hge
  have HCAP := Aside0.mk hcap
  clear h
  go_enter Try.func4, Try.ntmps4
  go_wp2
  try rw [hcap]
  clear kb hcap
  generalize Lib.bytesWorld w 5 a0 = w1 at HOW ⊢
  try simp only [Act.put, List.setIfInBounds_toArray, List.set_cons_succ, List.set_cons_zero]
  go_loopg [5, 6] k (fun kq vy vx w' => ∃ (x y : Int) (out : List Int), vy = .int .i64 y ∧ vx = .int .i64 x ∧ 0 ≤ x ∧ x ≤ (a0.size : Int) ∧ -1 ≤ y ∧ y < x ∧ Aside0 (out.length = a0.size) ∧ Aside0 (spec_Uncommented.l0 kq a0 x y out = some (r, b)) ∧ Aside0 (spec_Uncommented.OW w w' out))
  case atStart => exact ⟨0, -1, bytesOf a0, rfl, rfl, by omega, by omega, by omega, by omega, ⟨bytesOf_length a0⟩, H0, HOW⟩
  case round =>
    clear H0 HOW
    obtain ⟨x, y, out, rfl, rfl, hx0, hx1, hy0, hy1, HLO, HA, HOW⟩ := hrel
    cases gk with
    | zero => exact absurd HA.out (by simp [spec_Uncommented.l0])
    | succ k1 =>
    have H := HA.out
    clear HA
    rw [spec_Uncommented.l0] at H
    by_cases c : x < (a0.size : Int)
    · rw [if_pos c] at H
      obtain ⟨⟨e, ok⟩, A10, H⟩ := Option.bind_eq_some_iff.mp H
      have A1 := Aside0.mk A10
      clear A10
      simp only [] at H
      have q1 : (x < (a0.size : Int)) = True := eq_true c
      have q0 : (0 ≤ x) = True := eq_true hx0
      have hbt := bt_at a0 x
      cases ok with
      | false =>
        rw [if_neg (by decide)] at H
        simp only [Option.some.injEq, Prod.mk.injEq] at H
        obtain ⟨rfl, rfl⟩ := H
        go_wp2_with (go_at_call 7; (with_reducible refine (spec_comment.calls k1 a0 x e false _ A1.out).mono ?_); rintro e1 w' ⟨rfl, ⟨nd, rfl⟩⟩)
        go_ret2
        exact ⟨rfl, pw_below_drewN HOW.out.bel nd⟩
      | true =>
        rw [if_pos rfl] at H
        by_cases c2 : e > x
        · rw [if_pos c2] at H
          by_cases c3 : e ≤ (a0.size : Int)
          · rw [if_pos c3] at H
            have HC := Aside0.mk H
            clear H
            have d2 : decide (x < e) = true := decide_eq_true c2
            go_wp2_with (go_at_call 7; (with_reducible refine (spec_comment.calls k1 a0 x e true _ A1.out).mono ?_); rintro e1 w' ⟨rfl, ⟨nd, rfl⟩⟩)
            have HOW1 := Aside0.mk (HOW.out.drewN nd)
            clear HOW
            try simp only [Act.put, List.setIfInBounds_toArray, List.set_cons_succ, List.set_cons_zero]
            go_loopg [6] (e - x).toNat (fun n vx w' => ∃ m : Nat, m + n = (e - x).toNat ∧ vx = .int .i64 (x + (m : Int)) ∧ Aside0 (spec_Uncommented.OW w w' (spec_Uncommented.bl out x.toNat m)))
            case atStart => exact ⟨0, by omega, by simp, HOW1⟩
            case round =>
              clear HOW1
              obtain ⟨m, hm, rfl, HO2⟩ := hrel
              have HM := Aside0.mk hm
              cases gk with
              | zero =>
                have e1 : x + (m : Int) = e := by omega
                rw [e1]
                clear e1 hm
                go_wp2
                go_roundg k1
                case measure => exact Nat.lt_succ_self _
                case rel =>
                  have hme : m = (e - x).toNat := by have := HM.out; omega
                  exact ⟨e, y, spec_Uncommented.bl out x.toNat (e - x).toNat, rfl, rfl, by omega, c3, hy0, by omega, ⟨by rw [spec_Uncommented.bl_len]; exact HLO.out⟩, HC, ⟨by rw [← hme]; exact HO2.out⟩⟩
              | succ n1 =>
                have hj : x.toNat + m < (spec_Uncommented.bl out x.toNat m).length := by rw [spec_Uncommented.bl_len, HLO.out]; omega
                have ej : (x + (m : Int)).toNat = x.toNat + m := by omega
                have hcl := HO2.out.cell _ hj
                have hfr := HO2.out.free _ hj
                obtain ⟨v, hv⟩ : ∃ v, rd (spec_Uncommented.bl out x.toNat m) ((x.toNat + m : Nat) : Int) = v := ⟨_, rfl⟩
                rw [hv] at hcl
                have HV := Aside0.mk hv
                have HJ := Aside0.mk hj
                have q2 : (x + (m : Int) < e) = True := eq_true (by omega)
                have q3 : (0 ≤ x + (m : Int)) = True := eq_true (by omega)
                have q4 : (x + (m : Int) < (a0.size : Int)) = True := eq_true (by omega)
                have b1 : x + (m : Int) ≤ 1000000 := by omega
                have b0 : 0 ≤ x + (m : Int) := by omega
                clear hv hj hm
                by_cases c10 : v = 10
                · have e10 : (v != 10) = false := by rw [c10]; rfl
                  have HV10 := Aside0.mk c10
                  clear c10
                  go_wp2
                  go_roundg n1
                  case measure => exact Nat.lt_succ_self _
                  case rel => exact ⟨m + 1, by have := HM.out; omega, by congr 1; push_cast; omega, ⟨by rw [spec_Uncommented.bl, if_pos (by rw [HV.out]; exact HV10.out)]; exact HO2.out⟩⟩
                · have e10 : (v != 10) = true := bne_iff_ne.mpr c10
                  have HV10 := Aside0.mk c10
                  clear c10
                  go_wp2
                  go_roundg n1
                  case measure => exact Nat.lt_succ_self _
                  case rel => exact ⟨m + 1, by have := HM.out; omega, by congr 1; push_cast; omega, ⟨by rw [spec_Uncommented.bl, if_neg (by rw [HV.out]; exact HV10.out)]; exact HO2.out.set _ HJ.out 32⟩⟩
          · rw [if_neg c3] at H; cases H
        · rw [if_neg c2] at H
          have d2 : decide (x < e) = false := decide_eq_false c2
          by_cases c34 : bt a0 x = 34
          · rw [if_pos c34] at H
            obtain ⟨⟨qb, qs, qe⟩, A20, H⟩ := Option.bind_eq_some_iff.mp H
            have A2 := Aside0.mk A20
            clear A20
            simp only [] at H
            rw [c34] at hbt
            cases qb with
            | false =>
              rw [if_neg (by decide)] at H
              simp only [Option.some.injEq, Prod.mk.injEq] at H
              obtain ⟨rfl, rfl⟩ := H
              go_wp2_with (first | (go_at_call 7; (with_reducible refine (spec_comment.calls k1 a0 x e true _ A1.out).mono ?_); rintro e1 w' ⟨rfl, ⟨nd, rfl⟩⟩; have HOW1 := Aside0.mk (HOW.out.drewN nd)) | ((with_reducible refine gate_dst (N := 10) rfl ?_); refine box_event ?hg (N := 10) ?hd (cs := #[.string (⟨#[]⟩ : ByteArray), .int .i64 0]) (t := 31) ?hr ?_; (case hd => rfl); (case hg => rfl); (case hr => first | (go_simp; done) | (go_simp; rfl)); intro gb hgb w8 hbox hb; have HO8 := Aside0.mk (HOW1.out.below hb); have HGB : Aside0 (w.heap.size < gb) := ⟨by rw [hgb]; exact HOW1.out.lt⟩; have HI8 := Aside0.mk (show IsS31 w w8 gb (⟨#[]⟩ : ByteArray) 0 from ⟨hbox, Nat.le_of_lt HGB.out⟩); have hcz0 := cellS31_0 hbox; have hcz1 := cellS31_1 hbox; have hfz0 := blk_frozen hbox 0; have hfz1 := blk_frozen hbox 1; clear hgb hbox hb) | ((with_reducible refine gate_callee (f := 8) rfl ?_); refine goesL_ (some 54) rfl rfl Try.func8 (by kernel_rfl) rfl #[.pointer (some ⟨gb, 0, none⟩)] rfl (by (try simp only [List.map_toArray, List.map_cons, List.map_nil]); first | done | rfl) ?_; (with_reducible refine (spec_reader_quoted.calls k1 gb a0 x false qs qe w _ ?side1 ?side2 A2.out).mono ?_); (case side1 => exact (HI8.out.set_0 a0).set_1 x); (case side2 => exact ((HO8.out.far HGB.out 0 _).far HGB.out 1 _).bel); rintro e2 w3 ⟨rfl, hi, hb, hk⟩; refine ⟨_, rfl, ?_⟩; have HO3 := Aside0.mk (((HO8.out.far HGB.out 0 _).far HGB.out 1 _).keep hk HGB.out hb); have hcy0 := cellS31_0 hi.1; have hcy1 := cellS31_1 hi.1; clear hi hb hk))
              go_ret2
              exact ⟨rfl, HO3.out.bel⟩
            | true =>
              rw [if_pos rfl] at H
              by_cases c4 : x < qe ∧ qe ≤ (a0.size : Int)
              · rw [if_pos c4] at H
                have HC := Aside0.mk H
                clear H
                go_wp2_with (first | (go_at_call 7; (with_reducible refine (spec_comment.calls k1 a0 x e true _ A1.out).mono ?_); rintro e1 w' ⟨rfl, ⟨nd, rfl⟩⟩; have HOW1 := Aside0.mk (HOW.out.drewN nd)) | ((with_reducible refine gate_dst (N := 10) rfl ?_); refine box_event ?hg (N := 10) ?hd (cs := #[.string (⟨#[]⟩ : ByteArray), .int .i64 0]) (t := 31) ?hr ?_; (case hd => rfl); (case hg => rfl); (case hr => first | (go_simp; done) | (go_simp; rfl)); intro gb hgb w8 hbox hb; have HO8 := Aside0.mk (HOW1.out.below hb); have HGB : Aside0 (w.heap.size < gb) := ⟨by rw [hgb]; exact HOW1.out.lt⟩; have HI8 := Aside0.mk (show IsS31 w w8 gb (⟨#[]⟩ : ByteArray) 0 from ⟨hbox, Nat.le_of_lt HGB.out⟩); have hcz0 := cellS31_0 hbox; have hcz1 := cellS31_1 hbox; have hfz0 := blk_frozen hbox 0; have hfz1 := blk_frozen hbox 1; clear hgb hbox hb) | ((with_reducible refine gate_callee (f := 8) rfl ?_); refine goesL_ (some 54) rfl rfl Try.func8 (by kernel_rfl) rfl #[.pointer (some ⟨gb, 0, none⟩)] rfl (by (try simp only [List.map_toArray, List.map_cons, List.map_nil]); first | done | rfl) ?_; (with_reducible refine (spec_reader_quoted.calls k1 gb a0 x true qs qe w _ ?side1 ?side2 A2.out).mono ?_); (case side1 => exact (HI8.out.set_0 a0).set_1 x); (case side2 => exact ((HO8.out.far HGB.out 0 _).far HGB.out 1 _).bel); rintro e2 w3 ⟨rfl, hi, hb, hk⟩; refine ⟨_, rfl, ?_⟩; have HO3 := Aside0.mk (((HO8.out.far HGB.out 0 _).far HGB.out 1 _).keep hk HGB.out hb); have hcy0 := cellS31_0 hi.1; have hcy1 := cellS31_1 hi.1; clear hi hb hk))
                go_quiet (fail)
                go_wp2
                go_roundg k1
                case measure => exact Nat.lt_succ_self _
                case rel => exact ⟨qe, x, out, rfl, rfl, by omega, c4.2, by omega, c4.1, HLO, HC, ⟨HO3.out.drewN _⟩⟩
              · rw [if_neg c4] at H; cases H
          · rw [if_neg c34] at H
            obtain ⟨bb, A20, H⟩ := Option.bind_eq_some_iff.mp H
            have A2 := Aside0.mk A20
            have HC := Aside0.mk H
            clear A20 H
            obtain ⟨ch, hch⟩ : ∃ ch, bt a0 x = ch := ⟨_, rfl⟩
            rw [hch] at c34 HC hbt A2
            have HCH := Aside0.mk hch
            have e34 : (ch == 34) = false := beq_eq_false_iff_ne.mpr c34
            have b1 : x ≤ 1000000 := by omega
            clear c34 hch
            have fin : ∀ (y1 : Int) (o1 : List Int) (W : World), y1 = (if bb = true then y else x) → o1 = (if (ch = 125 ∨ ch = 93) ∧ 0 ≤ y ∧ bt a0 y = 44 then out.set y.toNat 32 else out) → spec_Uncommented.OW w W o1 →
                ∃ (x' y' : Int) (out' : List Int), Value.int .i64 y1 = .int .i64 y' ∧ Value.int .i64 (x + 1) = .int .i64 x' ∧ 0 ≤ x' ∧ x' ≤ (a0.size : Int) ∧ -1 ≤ y' ∧ y' < x' ∧ Aside0 (out'.length = a0.size) ∧ Aside0 (spec_Uncommented.l0 k1 a0 x' y' out' = some (r, b)) ∧ Aside0 (spec_Uncommented.OW w W out') := by
              intro y1 o1 W h1 h2 h3
              refine ⟨x + 1, y1, o1, rfl, rfl, by omega, by omega, ?_, ?_, ⟨?_⟩, ⟨by rw [h1, h2]; exact HC.out⟩, ⟨h3⟩⟩
              · rw [h1]; split <;> omega
              · rw [h1]; split <;> omega
              · rw [h2]; split
                · rw [List.length_set]; exact HLO.out
                · exact HLO.out
            have FIN := Aside0.mk fin
            clear fin
            by_cases cb : (ch = 125 ∨ ch = 93) ∧ 0 ≤ y ∧ bt a0 y = 44
            · have q2 : (0 ≤ y) = True := eq_true cb.2.1
              have q3 : (y < (a0.size : Int)) = True := eq_true (by omega)
              have q5 : decide (0 ≤ y) = true := decide_eq_true cb.2.1
              have hby := bt_at a0 y
              rw [cb.2.2] at hby
              have hj : y.toNat < out.length := by rw [HLO.out]; omega
              have hcl := HOW.out.cell _ hj
              have hfr := HOW.out.free _ hj
              have HJ := Aside0.mk hj
              have HCB := Aside0.mk cb
              clear hj
              rcases (show ch = 125 ∨ ch ≠ 125 ∧ ch = 93 by omega) with rfl | ⟨h125, rfl⟩
              all_goals
                clear cb
                cases bb
                · go_wp2_with (first | (go_at_call 7; (with_reducible refine (spec_comment.calls k1 a0 x e true _ A1.out).mono ?_); rintro e1 w' ⟨rfl, ⟨nd, rfl⟩⟩; have HOW1 := Aside0.mk (HOW.out.drewN nd)) | (go_at_call 9; (with_reducible refine (spec_Blank.calls _ false _ A2.out).mono ?_); rintro e1 w' ⟨rfl, ⟨nd2, rfl⟩⟩))
                  go_roundg k1
                  case measure => exact Nat.lt_succ_self _
                  case rel => exact FIN.out _ _ _ rfl (by rw [if_pos HCB.out]) (spec_Uncommented.OW.drewN (spec_Uncommented.OW.set HOW1.out _ HJ.out 32) nd2)
                · go_wp2_with (first | (go_at_call 7; (with_reducible refine (spec_comment.calls k1 a0 x e true _ A1.out).mono ?_); rintro e1 w' ⟨rfl, ⟨nd, rfl⟩⟩; have HOW1 := Aside0.mk (HOW.out.drewN nd)) | (go_at_call 9; (with_reducible refine (spec_Blank.calls _ true _ A2.out).mono ?_); rintro e1 w' ⟨rfl, ⟨nd2, rfl⟩⟩))
                  go_roundg k1
                  case measure => exact Nat.lt_succ_self _
                  case rel => exact FIN.out _ _ _ rfl (by rw [if_pos HCB.out]) (spec_Uncommented.OW.drewN (spec_Uncommented.OW.set HOW1.out _ HJ.out 32) nd2)
            · have HCB := Aside0.mk cb
              by_cases h1 : ch = 125 ∨ ch = 93
              · by_cases h2 : 0 ≤ y
                · have h3 : bt a0 y ≠ 44 := fun h => cb ⟨h1, h2, h⟩
                  have q2 : (0 ≤ y) = True := eq_true h2
                  have q3 : (y < (a0.size : Int)) = True := eq_true (by omega)
                  have q5 : decide (0 ≤ y) = true := decide_eq_true h2
                  have hby := bt_at a0 y
                  have e44 : (bt a0 y == 44) = false := beq_eq_false_iff_ne.mpr h3
                  rcases h1 with rfl | rfl
                  all_goals
                    clear cb h3
                    cases bb
                    · go_wp2_with (first | (go_at_call 7; (with_reducible refine (spec_comment.calls k1 a0 x e true _ A1.out).mono ?_); rintro e1 w' ⟨rfl, ⟨nd, rfl⟩⟩; have HOW1 := Aside0.mk (HOW.out.drewN nd)) | (go_at_call 9; (with_reducible refine (spec_Blank.calls _ false _ A2.out).mono ?_); rintro e1 w' ⟨rfl, ⟨nd2, rfl⟩⟩))
                      go_roundg k1
                      case measure => exact Nat.lt_succ_self _
                      case rel => exact FIN.out _ _ _ rfl (by rw [if_neg HCB.out]) (spec_Uncommented.OW.drewN HOW.out (nd + nd2))
                    · go_wp2_with (first | (go_at_call 7; (with_reducible refine (spec_comment.calls k1 a0 x e true _ A1.out).mono ?_); rintro e1 w' ⟨rfl, ⟨nd, rfl⟩⟩; have HOW1 := Aside0.mk (HOW.out.drewN nd)) | (go_at_call 9; (with_reducible refine (spec_Blank.calls _ true _ A2.out).mono ?_); rintro e1 w' ⟨rfl, ⟨nd2, rfl⟩⟩))
                      go_roundg k1
                      case measure => exact Nat.lt_succ_self _
                      case rel => exact FIN.out _ _ _ rfl (by rw [if_neg HCB.out]) (spec_Uncommented.OW.drewN HOW.out (nd + nd2))
                · have q5 : decide (0 ≤ y) = false := decide_eq_false h2
                  rcases h1 with rfl | rfl
                  all_goals
                    clear cb h2
                    cases bb
                    · go_wp2_with (first | (go_at_call 7; (with_reducible refine (spec_comment.calls k1 a0 x e true _ A1.out).mono ?_); rintro e1 w' ⟨rfl, ⟨nd, rfl⟩⟩; have HOW1 := Aside0.mk (HOW.out.drewN nd)) | (go_at_call 9; (with_reducible refine (spec_Blank.calls _ false _ A2.out).mono ?_); rintro e1 w' ⟨rfl, ⟨nd2, rfl⟩⟩))
                      go_roundg k1
                      case measure => exact Nat.lt_succ_self _
                      case rel => exact FIN.out _ _ _ rfl (by rw [if_neg HCB.out]) (spec_Uncommented.OW.drewN HOW.out (nd + nd2))
                    · go_wp2_with (first | (go_at_call 7; (with_reducible refine (spec_comment.calls k1 a0 x e true _ A1.out).mono ?_); rintro e1 w' ⟨rfl, ⟨nd, rfl⟩⟩; have HOW1 := Aside0.mk (HOW.out.drewN nd)) | (go_at_call 9; (with_reducible refine (spec_Blank.calls _ true _ A2.out).mono ?_); rintro e1 w' ⟨rfl, ⟨nd2, rfl⟩⟩))
                      go_roundg k1
                      case measure => exact Nat.lt_succ_self _
                      case rel => exact FIN.out _ _ _ rfl (by rw [if_neg HCB.out]) (spec_Uncommented.OW.drewN HOW.out (nd + nd2))
              · have e125 : (ch == 125) = false := beq_eq_false_iff_ne.mpr fun h => h1 (.inl h)
                have e93 : (ch == 93) = false := beq_eq_false_iff_ne.mpr fun h => h1 (.inr h)
                clear cb h1
                cases bb
                · go_wp2_with (first | (go_at_call 7; (with_reducible refine (spec_comment.calls k1 a0 x e true _ A1.out).mono ?_); rintro e1 w' ⟨rfl, ⟨nd, rfl⟩⟩; have HOW1 := Aside0.mk (HOW.out.drewN nd)) | (go_at_call 9; (with_reducible refine (spec_Blank.calls _ false _ A2.out).mono ?_); rintro e1 w' ⟨rfl, ⟨nd2, rfl⟩⟩))
                  go_roundg k1
                  case measure => exact Nat.lt_succ_self _
                  case rel => exact FIN.out _ _ _ rfl (by rw [if_neg HCB.out]) (spec_Uncommented.OW.drewN HOW.out (nd + nd2))
                · go_wp2_with (first | (go_at_call 7; (with_reducible refine (spec_comment.calls k1 a0 x e true _ A1.out).mono ?_); rintro e1 w' ⟨rfl, ⟨nd, rfl⟩⟩; have HOW1 := Aside0.mk (HOW.out.drewN nd)) | (go_at_call 9; (with_reducible refine (spec_Blank.calls _ true _ A2.out).mono ?_); rintro e1 w' ⟨rfl, ⟨nd2, rfl⟩⟩))
                  go_roundg k1
                  case measure => exact Nat.lt_succ_self _
                  case rel => exact FIN.out _ _ _ rfl (by rw [if_neg HCB.out]) (spec_Uncommented.OW.drewN HOW.out (nd + nd2))
    · rw [if_neg c] at H
      obtain ⟨p, A20, H⟩ := Option.bind_eq_some_iff.mp H
      have A2 := Aside0.mk A20
      clear A20
      simp only [Option.some.injEq, Prod.mk.injEq] at H
      obtain ⟨rfl, rfl⟩ := H
      have q1 : (x < (a0.size : Int)) = False := eq_false c
      have hcv := Kd.C_string (P := Try.prog) (c := cap) Try.underlying27 Try.underlying5 Try.underlying9 (HOW.out.reads (by rw [HLO.out]; omega))
      rw [HLO.out] at hcv
      obtain ⟨p1, p2, p3, p4, p5, p6⟩ := p
      go_wp2_with (first | (go_at_call 10; (with_reducible refine (spec_Places.calls k1 (strOfNums out) p1 p2 p3 p4 p5 p6 _ A2.out).mono ?_); rintro e1 w2 ⟨v3, v4, rfl, ho3, ho4, hb⟩; obtain ⟨A3, c3, rfl⟩ := Kd.R_slice ho3; obtain ⟨A4, c4, rfl⟩ := Kd.R_slice ho4; clear ho3 ho4; have HO2 := Aside0.mk (HOW.out.below hb); clear hb) | ((with_reducible refine gate_dst (N := 11) rfl ?_); refine box_event ?hg (N := 11) ?hd (cs := #[.int .i64 0, .int .i64 0, .int .i64 0, .slice none 0 0, .slice none 0 0]) (t := 37) ?hr ?_; (case hd => rfl); (case hg => rfl); (case hr => first | (go_simp; done) | (go_simp; rfl)); intro gb hgb w8 hbox hb; have HO8 := Aside0.mk (HO2.out.below hb); have HGB : Aside0 (w.heap.size < gb) := ⟨by rw [hgb]; exact HO2.out.lt⟩; have HO9 := Aside0.mk (((((HO8.out.far HGB.out 0 (.int .i64 p1)).far HGB.out 1 (.int .i64 p2)).far HGB.out 2 (.int .i64 p3)).far HGB.out 3 (.slice A3 p4.length c3)).far HGB.out 4 (.slice A4 p5.length c4)); have hcv9 := Kd.C_string (P := Try.prog) (c := cap) Try.underlying27 Try.underlying5 Try.underlying9 (HO9.out.reads (by rw [HLO.out]; omega)); rw [HLO.out] at hcv9; have hcz0 := (blk_cell hbox 0).trans rfl; have hcz1 := (blk_cell hbox 1).trans rfl; have hcz2 := (blk_cell hbox 2).trans rfl; have hcz3 := (blk_cell hbox 3).trans rfl; have hcz4 := (blk_cell hbox 4).trans rfl; have hfz0 := blk_frozen hbox 0; have hfz1 := blk_frozen hbox 1; have hfz2 := blk_frozen hbox 2; have hfz3 := blk_frozen hbox 3; have hfz4 := blk_frozen hbox 4; clear hgb hbox hb))
      go_ret2
      exact ⟨rfl, HO9.out.bel⟩
end Go.Proofs.Ytlllokmipeoelaa.XFnPrSpec
end
section
-- Written by xprint.py of this session (a program that runs the kit's print and adds to it); Lean checks it.
namespace Go.Proofs.Ytlllokmipeoelaa.XFnPrSpec
open Go.RowKit Go.Proofs.YtlllokmipeoelaaW.PrintWords Go.Proofs.YtlllokmipeoelaaW.PrintLast Go.Proofs.YtlllokmipeoelaaW.PrintMore
attribute [local go_sem] max2_int min2_int max_two min_two max_three min_three max_four min_four   -- for this text's walks alone
set_option linter.unusedVariables false
set_option linter.unusedSimpArgs false
theorem eqA46 (d : Nat) (w : World) (x0 y0 : Int) (x1 y1 : Int) :
    (Op.equalIn (d + 2) 46 (.agg #[.int .i64 x0, .int .i64 x1]) (.agg #[.int .i64 y0, .int .i64 y1])).run Try.prog w = .ok (x0 == y0 && (x1 == y1)) w := by
  refine eqA_of Try.underlying46 (by kernel_rfl) ?_
  refine eqf_cons (by rfl) (by go_simp; rfl) (by go_simp; rfl) (by go_simp) ?_
  exact eqf_last (by rfl) (by go_simp; rfl) (by go_simp; rfl) (by go_simp)
end Go.Proofs.Ytlllokmipeoelaa.XFnPrSpec
end
section
-- Written by xprint.py of this session (a program that runs the kit's print and adds to it); Lean checks it.
namespace Go.Proofs.Ytlllokmipeoelaa.XFnPrSpec
open Go.RowKit Go.Proofs.YtlllokmipeoelaaW.PrintWords Go.Proofs.YtlllokmipeoelaaW.PrintLast Go.Proofs.YtlllokmipeoelaaW.PrintMore
attribute [local go_sem] max2_int min2_int max_two min_two max_three min_three max_four min_four   -- for this text's walks alone
set_option linter.unusedVariables false
set_option linter.unusedSimpArgs false
attribute [local go_sem high] eqA46
/-! ### laws_prPlaced: function 11 -/
mutual
def laws_prPlaced.j0 : Nat → Bool → Int → Int → Int → List (S46) → List (S37) → Int → Int → Int → List (S46) → List (S37) → Option (Bool)
  | 0, _, _, _, _, _, _, _, _, _, _, _ => none
  | k + 1, x43, x285000, x285001, x285002, x285003, x285004, x286000, x286001, x286002, x286003, x286004 => if x43 = true then (some false) else (laws_prPlaced.l0 k (x285003.length : Int) 0 x285000 x285001 x285002 x285003 x285004 x286000 x286001 x286002 x286003 x286004)
def laws_prPlaced.l0 : Nat → Int → Int → Int → Int → Int → List (S46) → List (S37) → Int → Int → Int → List (S46) → List (S37) → Option (Bool)
  | 0, _, _, _, _, _, _, _, _, _, _, _, _ => none
  | k + 1, x46, x47, x285000, x285001, x285002, x285003, x285004, x286000, x286001, x286002, x286003, x286004 => if x47 < x46 then (if 0 ≤ x47 then (if x47 < (x285003.length : Int) then (if x47 < (x286003.length : Int) then (if (!(((rd_T46 x285003 x47).f0) == ((rd_T46 x286003 x47).f0)) || (!(((rd_T46 x285003 x47).f1) == ((rd_T46 x286003 x47).f1)))) = true then (some false) else (laws_prPlaced.l0 k x46 (wrap64 (x47 + 1)) x285000 x285001 x285002 x285003 x285004 x286000 x286001 x286002 x286003 x286004)) else (none)) else (none)) else (none)) else (laws_prPlaced.l1 k (x285004.length : Int) 0 x285000 x285001 x285002 x285003 x285004 x286000 x286001 x286002 x286003 x286004)
def laws_prPlaced.l1 : Nat → Int → Int → Int → Int → Int → List (S46) → List (S37) → Int → Int → Int → List (S46) → List (S37) → Option (Bool)
  | 0, _, _, _, _, _, _, _, _, _, _, _, _ => none
  | k + 1, x64, x65, x285000, x285001, x285002, x285003, x285004, x286000, x286001, x286002, x286003, x286004 => if x65 < x64 then (if 0 ≤ x65 then (if x65 < (x285004.length : Int) then (if x65 < (x286004.length : Int) then ((laws_prPlaced.f k ((rd_T37 x285004 x65).f0) ((rd_T37 x285004 x65).f1) ((rd_T37 x285004 x65).f2) ((rd_T37 x285004 x65).f3) ((rd_T37 x285004 x65).f4) ((rd_T37 x286004 x65).f0) ((rd_T37 x286004 x65).f1) ((rd_T37 x286004 x65).f2) ((rd_T37 x286004 x65).f3) ((rd_T37 x286004 x65).f4)).bind fun t290 => (if t290 = true then (laws_prPlaced.l1 k x64 (wrap64 (x65 + 1)) x285000 x285001 x285002 x285003 x285004 x286000 x286001 x286002 x286003 x286004) else (some false))) else (none)) else (none)) else (none)) else (some true)
def laws_prPlaced.f : Nat → Int → Int → Int → List (S46) → List (S37) → Int → Int → Int → List (S46) → List (S37) → Option (Bool)
  | 0, _, _, _, _, _, _, _, _, _, _ => none
  | k + 1, a0_0, a0_1, a0_2, l0_3, l0_4, a1_0, a1_1, a1_2, l1_3, l1_4 => if a0_0 = a1_0 then (if a0_1 = a1_1 then (if a0_2 = a1_2 then (if (l0_3.length : Int) = (l1_3.length : Int) then (laws_prPlaced.j0 k ((l0_4.length : Int) != (l1_4.length : Int)) a0_0 a0_1 a0_2 l0_3 l0_4 a1_0 a1_1 a1_2 l1_3 l1_4) else (laws_prPlaced.j0 k true a0_0 a0_1 a0_2 l0_3 l0_4 a1_0 a1_1 a1_2 l1_3 l1_4)) else (laws_prPlaced.j0 k true a0_0 a0_1 a0_2 l0_3 l0_4 a1_0 a1_1 a1_2 l1_3 l1_4)) else (laws_prPlaced.j0 k true a0_0 a0_1 a0_2 l0_3 l0_4 a1_0 a1_1 a1_2 l1_3 l1_4)) else (laws_prPlaced.j0 k true a0_0 a0_1 a0_2 l0_3 l0_4 a1_0 a1_1 a1_2 l1_3 l1_4)
end
def laws_prPlaced.T6 : Bool × List (List Nat × List Nat) := (true, [([], []), ([0], [0]), ([], []), ([1, 2], [1, 2]), ([3], [3]), ([], []), ([5], [5]), ([], []), ([6, 7], [6, 7]), ([8], [8]), ([4, 9], [4, 9])])
def laws_prPlaced.B6 : List Nat := [0, 1, 0, 7, 15, 0, 32, 0, 224, 480, 1023]
theorem laws_prPlaced.tab6 : rtab .any (opsOf Try.f11 6) = laws_prPlaced.T6 := by kernel_rfl
theorem laws_prPlaced.bits6 : waitsOk laws_prPlaced.T6.2 laws_prPlaced.B6 = true := by kernel_rfl
def laws_prPlaced.T12 : Bool × List (List Nat × List Nat) := (true, [([], []), ([0], [0]), ([], []), ([1, 2], [1, 2]), ([3], [3]), ([], []), ([5], [5]), ([], []), ([6, 7], [6, 7]), ([8], [8]), ([4, 9], [4, 9]), ([10], [10])])
def laws_prPlaced.B12 : List Nat := [0, 1, 0, 7, 15, 0, 32, 0, 224, 480, 1023, 2047]
theorem laws_prPlaced.tab12 : rtab .any (opsOf Try.f11 12) = laws_prPlaced.T12 := by kernel_rfl
theorem laws_prPlaced.bits12 : waitsOk laws_prPlaced.T12.2 laws_prPlaced.B12 = true := by kernel_rfl
set_option maxHeartbeats 8000000 in
set_option maxRecDepth 100000 in
theorem laws_prPlaced.calls (k : Nat) : ∀ (a0_0 : Int) (a0_1 : Int) (a0_2 : Int) (A0_3 : Option Addr) (c0_3 : Nat) (l0_3 : List (S46)) (A0_4 : Option Addr) (c0_4 : Nat) (l0_4 : List (S37)) (a1_0 : Int) (a1_1 : Int) (a1_2 : Int) (A1_3 : Option Addr) (c1_3 : Nat) (l1_3 : List (S46)) (A1_4 : Option Addr) (c1_4 : Nat) (l1_4 : List (S37)) (r : Bool) (w : World) (hr0_3 : Kd.C k46 w A0_3 l0_3.length l0_3) (hc0_3 : l0_3.length ≤ c0_3) (hr0_4 : Kd.C k37 w A0_4 l0_4.length l0_4) (hc0_4 : l0_4.length ≤ c0_4) (hr1_3 : Kd.C k46 w A1_3 l1_3.length l1_3) (hc1_3 : l1_3.length ≤ c1_3) (hr1_4 : Kd.C k37 w A1_4 l1_4.length l1_4) (hc1_4 : l1_4.length ≤ c1_4) (h : laws_prPlaced.f k a0_0 a0_1 a0_2 l0_3 l0_4 a1_0 a1_1 a1_2 l1_3 l1_4 = some r),
    Calls Try.prog 11 #[.agg #[.int .i64 a0_0, .int .i64 a0_1, .int .i64 a0_2, .slice A0_3 l0_3.length c0_3, .slice A0_4 l0_4.length c0_4], .agg #[.int .i64 a1_0, .int .i64 a1_1, .int .i64 a1_2, .slice A1_3 l1_3.length c1_3, .slice A1_4 l1_4.length c1_4]] w fun e w' => e = .returned (.bool r) ∧ Below w.heap.size w w' := by
  induction k using Nat.strongRecOn with
  | _ k ih =>
  intro a0_0 a0_1 a0_2 A0_3 c0_3 l0_3 A0_4 c0_4 l0_4 a1_0 a1_1 a1_2 A1_3 c1_3 l1_3 A1_4 c1_4 l1_4 r w hr0_3 hc0_3 hr0_4 hc0_4 hr1_3 hc1_3 hr1_4 hc1_4 h
  cases k with
  | zero => exact absurd h (by simp [laws_prPlaced.f])
  | succ k =>
  simp only [laws_prPlaced.f] at h
  have hu37 := Try.underlying37
  have hu46 := Try.underlying46
  have HR0_3 := Aside0.mk hr0_3
  have HC0_3 := Aside0.mk hc0_3
  clear hr0_3 hc0_3
  have HR0_4 := Aside0.mk hr0_4
  have HC0_4 := Aside0.mk hc0_4
  clear hr0_4 hc0_4
  have HR1_3 := Aside0.mk hr1_3
  have HC1_3 := Aside0.mk hc1_3
  clear hr1_3 hc1_3
  have HR1_4 := Aside0.mk hr1_4
  have HC1_4 := Aside0.mk hc1_4
  clear hr1_4 hc1_4
  have HB := Aside0.mk (Below.refl w.heap.size w)
  have H : (if a0_0 = a1_0 then (if a0_1 = a1_1 then (if a0_2 = a1_2 then (if (l0_3.length : Int) = (l1_3.length : Int) then (laws_prPlaced.j0 k ((l0_4.length : Int) != (l1_4.length : Int)) a0_0 a0_1 a0_2 l0_3 l0_4 a1_0 a1_1 a1_2 l1_3 l1_4) else (laws_prPlaced.j0 k true a0_0 a0_1 a0_2 l0_3 l0_4 a1_0 a1_1 a1_2 l1_3 l1_4)) else (laws_prPlaced.j0 k true a0_0 a0_1 a0_2 l0_3 l0_4 a1_0 a1_1 a1_2 l1_3 l1_4)) else (laws_prPlaced.j0 k true a0_0 a0_1 a0_2 l0_3 l0_4 a1_0 a1_1 a1_2 l1_3 l1_4)) else (laws_prPlaced.j0 k true a0_0 a0_1 a0_2 l0_3 l0_4 a1_0 a1_1 a1_2 l1_3 l1_4)) = some r := h
  clear h
  have HC3 := Aside0.mk H
  clear H
  go_enter Try.func11, Try.ntmps11
  go_upto_region 1 with (first | ((with_reducible refine gate_dst (N := 2) rfl ?_); (try (refine gate_guard (by rfl) ?_; dsimp only)); refine box_event ?hg (N := 2) ?hd (cs := #[.int .i64 a0_0, .int .i64 a0_1, .int .i64 a0_2, .slice A0_3 l0_3.length c0_3, .slice A0_4 l0_4.length c0_4]) (t := 37) ?hr ?_; (case hd => rfl); (case hg => rfl); (case hr => first | (go_simp; done) | (go_simp; rfl)); intro gb284 hg w4 hbox hb; have n0_ := Aside0.mk (below_step (by repeat (first | (with_reducible first | exact HB.out | apply below_alloc | apply pw_below_drewN | apply below_drew1) | exact HB.out)) hb); have n1_ := Aside0.mk (hbox); have n2_ := Aside0.mk ((by rw [hg]; exact (below_size (by repeat (first | (with_reducible first | exact HB.out | apply below_alloc | apply pw_below_drewN | apply below_drew1) | exact HB.out))) : w.heap.size ≤ gb284)); have n3_ := Aside0.mk ((by rw [hg]; exact (below_size (by repeat (first | (with_reducible first | exact HB.out | apply below_alloc | apply pw_below_drewN | apply below_drew1) | exact HB.out))) : w.heap.size ≤ gb284)); clear HB; have HB := n0_; have BK284 := n1_; have GW284 := n2_; have GE284 := n3_; clear n0_ n1_ n2_ n3_; clear hb hbox hg) | ((with_reducible refine gate_dst (N := 3) rfl ?_); (try (refine gate_guard (by rfl) ?_; dsimp only)); refine box_event ?hg (N := 3) ?hd (cs := #[.int .i64 a1_0, .int .i64 a1_1, .int .i64 a1_2, .slice A1_3 l1_3.length c1_3, .slice A1_4 l1_4.length c1_4]) (t := 37) ?hr ?_; (case hd => rfl); (case hg => rfl); (case hr => first | (go_simp; done) | (go_simp; rfl)); intro gb285 hg w5 hbox hb; have n0_ := Aside0.mk (blk_below (g := gb284) (o := .cells #[.int .i64 a0_0, .int .i64 a0_1, .int .i64 a0_2, .slice A0_3 l0_3.length c0_3, .slice A0_4 l0_4.length c0_4] 37 (0, 0)) (by (with_reducible repeat (first | refine blk_drewN ?_ _ | refine blk_drew ?_ | refine blk_alloc ?_ _)); exact BK284.out) hb); have n1_ := Aside0.mk (below_step (by repeat (first | (with_reducible first | exact HB.out | apply below_alloc | apply pw_below_drewN | apply below_drew1 | refine below_set ?_ GE284.out) | exact HB.out)) hb); have n2_ := Aside0.mk (hbox); have n3_ := Aside0.mk ((by rw [hg]; exact (below_size (by repeat (first | (with_reducible first | exact HB.out | apply below_alloc | apply pw_below_drewN | apply below_drew1 | refine below_set ?_ GE284.out) | exact HB.out))) : w.heap.size ≤ gb285)); have n4_ := Aside0.mk ((by rw [hg]; exact (below_size (by repeat (first | (with_reducible first | exact HB.out | apply below_alloc | apply pw_below_drewN | apply below_drew1 | refine below_set ?_ GE284.out) | exact HB.out))) : w.heap.size ≤ gb285)); have n5_ := Aside0.mk ((by rw [hg]; exact Nat.ne_of_lt (blk_lt (g := gb284) (o := .cells #[.int .i64 a0_0, .int .i64 a0_1, .int .i64 a0_2, .slice A0_3 l0_3.length c0_3, .slice A0_4 l0_4.length c0_4] 37 (0, 0)) (by (with_reducible repeat (first | refine blk_drewN ?_ _ | refine blk_drew ?_ | refine blk_alloc ?_ _)); exact BK284.out)) : gb284 ≠ gb285)); have n6_ := Aside0.mk ((by rw [hg]; exact Nat.ne_of_gt (blk_lt (g := gb284) (o := .cells #[.int .i64 a0_0, .int .i64 a0_1, .int .i64 a0_2, .slice A0_3 l0_3.length c0_3, .slice A0_4 l0_4.length c0_4] 37 (0, 0)) (by (with_reducible repeat (first | refine blk_drewN ?_ _ | refine blk_drew ?_ | refine blk_alloc ?_ _)); exact BK284.out)) : gb285 ≠ gb284)); clear BK284; clear HB; have BK284 := n0_; have HB := n1_; have BK285 := n2_; have GW285 := n3_; have GE285 := n4_; have NB284_285 := n5_; have NB285_284 := n6_; clear n0_ n1_ n2_ n3_ n4_ n5_ n6_; clear hb hbox hg))
  (try simp only [Act.put, List.setIfInBounds_toArray, List.set_cons_zero, List.set_cons_succ])
  go_cut [43] (fun v43 wc => ∃ (kq : Nat) (x43_2 : Bool), v43 = .bool x43_2 ∧ Aside0 (laws_prPlaced.j0 kq x43_2 a0_0 a0_1 a0_2 l0_3 l0_4 a1_0 a1_1 a1_2 l1_3 l1_4 = some r) ∧ Aside0 (kq ≤ k) ∧ Aside0 (wc.heap[gb284]? = some (.cells #[.int .i64 a0_0, .int .i64 a0_1, .int .i64 a0_2, (.slice A0_3 l0_3.length c0_3), (.slice A0_4 l0_4.length c0_4)] 37 (0, 0))) ∧ Aside0 (wc.heap[gb285]? = some (.cells #[.int .i64 a1_0, .int .i64 a1_1, .int .i64 a1_2, (.slice A1_3 l1_3.length c1_3), (.slice A1_4 l1_4.length c1_4)] 37 (0, 0))) ∧ Aside0 (Below w.heap.size w wc))
  case first =>
    have H := HC3.out
    clear HC3
    by_cases c6 : a0_0 = a1_0
    · rw [if_pos c6] at H
      have c6b0 : (a0_0 == a1_0) = true := beq_iff_eq.mpr c6
      have c6b1 : (a0_0 != a1_0) = false := bne_eq_false_iff_eq.mpr c6
      clear c6
      (first | rw [c6b0] | (simp only [i64_w, i32_w]; rw [c6b0]) | skip)
      by_cases c7 : a0_1 = a1_1
      · rw [if_pos c7] at H
        have c7b0 : (a0_1 == a1_1) = true := beq_iff_eq.mpr c7
        have c7b1 : (a0_1 != a1_1) = false := bne_eq_false_iff_eq.mpr c7
        clear c7
        by_cases c8 : a0_2 = a1_2
        · rw [if_pos c8] at H
          have c8b0 : (a0_2 == a1_2) = true := beq_iff_eq.mpr c8
          have c8b1 : (a0_2 != a1_2) = false := bne_eq_false_iff_eq.mpr c8
          clear c8
          by_cases c9 : (l0_3.length : Int) = (l1_3.length : Int)
          · rw [if_pos c9] at H
            have c9b0 : ((l0_3.length : Int) == (l1_3.length : Int)) = true := beq_iff_eq.mpr c9
            have c9b1 : ((l0_3.length : Int) != (l1_3.length : Int)) = false := bne_eq_false_iff_eq.mpr c9
            have c9b2 : (l0_3.length == l1_3.length) = true := by first | simpa using c9 | (simp at c9 ⊢; omega)
            clear c9
            have H' := Aside0.mk H
            clear H
            have hnb10 := NB284_285.out
            have hnc10 := NB285_284.out
            have hcz11_0 : w5.cell? ⟨gb284, 0, none⟩ = some (.int .i64 a0_0) := (blk_cell BK284.out 0).trans rfl
            have hcz11_1 : w5.cell? ⟨gb284, 1, none⟩ = some (.int .i64 a0_1) := (blk_cell BK284.out 1).trans rfl
            have hcz11_2 : w5.cell? ⟨gb284, 2, none⟩ = some (.int .i64 a0_2) := (blk_cell BK284.out 2).trans rfl
            have hcz11_3 : w5.cell? ⟨gb284, 3, none⟩ = some (.slice A0_3 l0_3.length c0_3) := (blk_cell BK284.out 3).trans rfl
            have hcz11_4 : w5.cell? ⟨gb284, 4, none⟩ = some (.slice A0_4 l0_4.length c0_4) := (blk_cell BK284.out 4).trans rfl
            have hfz11_0 := blk_frozen BK284.out 0
            have hfz11_1 := blk_frozen BK284.out 1
            have hfz11_2 := blk_frozen BK284.out 2
            have hfz11_3 := blk_frozen BK284.out 3
            have hfz11_4 := blk_frozen BK284.out 4
            have hcz12_0 : w5.cell? ⟨gb285, 0, none⟩ = some (.int .i64 a1_0) := (blk_cell BK285.out 0).trans rfl
            have hcz12_1 : w5.cell? ⟨gb285, 1, none⟩ = some (.int .i64 a1_1) := (blk_cell BK285.out 1).trans rfl
            have hcz12_2 : w5.cell? ⟨gb285, 2, none⟩ = some (.int .i64 a1_2) := (blk_cell BK285.out 2).trans rfl
            have hcz12_3 : w5.cell? ⟨gb285, 3, none⟩ = some (.slice A1_3 l1_3.length c1_3) := (blk_cell BK285.out 3).trans rfl
            have hcz12_4 : w5.cell? ⟨gb285, 4, none⟩ = some (.slice A1_4 l1_4.length c1_4) := (blk_cell BK285.out 4).trans rfl
            have hfz12_0 := blk_frozen BK285.out 0
            have hfz12_1 := blk_frozen BK285.out 1
            have hfz12_2 := blk_frozen BK285.out 2
            have hfz12_3 := blk_frozen BK285.out 3
            have hfz12_4 := blk_frozen BK285.out 4
            go_wp2
            go_meet
            case rel => exact ⟨_, (((l0_4.length : Int) != (l1_4.length : Int))), (by first | rfl | (simp; done) | (simp [*]; done)), H', ⟨by first | omega | exact Nat.le_refl _⟩, ⟨by (with_reducible repeat (first | refine blk_drewN ?_ _ | refine blk_drew ?_ | refine blk_alloc ?_ _)); exact BK284.out⟩, ⟨by (with_reducible repeat (first | refine blk_drewN ?_ _ | refine blk_drew ?_ | refine blk_alloc ?_ _)); exact BK285.out⟩, ⟨by repeat (first | (with_reducible first | exact HB.out | apply below_alloc | apply pw_below_drewN | apply below_drew1 | refine below_set ?_ GE284.out | refine below_set ?_ GE285.out) | exact HB.out)⟩⟩
          · rw [if_neg c9] at H
            have c9b0 : ((l0_3.length : Int) == (l1_3.length : Int)) = false := beq_eq_false_iff_ne.mpr c9
            have c9b1 : ((l0_3.length : Int) != (l1_3.length : Int)) = true := bne_iff_ne.mpr c9
            have c9b2 : (l0_3.length == l1_3.length) = false := by first | simpa using c9 | (simp at c9 ⊢; omega)
            have H' := Aside0.mk H
            clear H
            have hnb13 := NB284_285.out
            have hnc13 := NB285_284.out
            have hcz14_0 : w5.cell? ⟨gb284, 0, none⟩ = some (.int .i64 a0_0) := (blk_cell BK284.out 0).trans rfl
            have hcz14_1 : w5.cell? ⟨gb284, 1, none⟩ = some (.int .i64 a0_1) := (blk_cell BK284.out 1).trans rfl
            have hcz14_2 : w5.cell? ⟨gb284, 2, none⟩ = some (.int .i64 a0_2) := (blk_cell BK284.out 2).trans rfl
            have hcz14_3 : w5.cell? ⟨gb284, 3, none⟩ = some (.slice A0_3 l0_3.length c0_3) := (blk_cell BK284.out 3).trans rfl
            have hcz14_4 : w5.cell? ⟨gb284, 4, none⟩ = some (.slice A0_4 l0_4.length c0_4) := (blk_cell BK284.out 4).trans rfl
            have hfz14_0 := blk_frozen BK284.out 0
            have hfz14_1 := blk_frozen BK284.out 1
            have hfz14_2 := blk_frozen BK284.out 2
            have hfz14_3 := blk_frozen BK284.out 3
            have hfz14_4 := blk_frozen BK284.out 4
            have hcz15_0 : w5.cell? ⟨gb285, 0, none⟩ = some (.int .i64 a1_0) := (blk_cell BK285.out 0).trans rfl
            have hcz15_1 : w5.cell? ⟨gb285, 1, none⟩ = some (.int .i64 a1_1) := (blk_cell BK285.out 1).trans rfl
            have hcz15_2 : w5.cell? ⟨gb285, 2, none⟩ = some (.int .i64 a1_2) := (blk_cell BK285.out 2).trans rfl
            have hcz15_3 : w5.cell? ⟨gb285, 3, none⟩ = some (.slice A1_3 l1_3.length c1_3) := (blk_cell BK285.out 3).trans rfl
            have hcz15_4 : w5.cell? ⟨gb285, 4, none⟩ = some (.slice A1_4 l1_4.length c1_4) := (blk_cell BK285.out 4).trans rfl
            have hfz15_0 := blk_frozen BK285.out 0
            have hfz15_1 := blk_frozen BK285.out 1
            have hfz15_2 := blk_frozen BK285.out 2
            have hfz15_3 := blk_frozen BK285.out 3
            have hfz15_4 := blk_frozen BK285.out 4
            go_wp2
            go_meet
            case rel => exact ⟨_, (true), (by first | rfl | (simp; done) | (simp [*]; done)), H', ⟨by first | omega | exact Nat.le_refl _⟩, ⟨by (with_reducible repeat (first | refine blk_drewN ?_ _ | refine blk_drew ?_ | refine blk_alloc ?_ _)); exact BK284.out⟩, ⟨by (with_reducible repeat (first | refine blk_drewN ?_ _ | refine blk_drew ?_ | refine blk_alloc ?_ _)); exact BK285.out⟩, ⟨by repeat (first | (with_reducible first | exact HB.out | apply below_alloc | apply pw_below_drewN | apply below_drew1 | refine below_set ?_ GE284.out | refine below_set ?_ GE285.out) | exact HB.out)⟩⟩
        · rw [if_neg c8] at H
          have c8b0 : (a0_2 == a1_2) = false := beq_eq_false_iff_ne.mpr c8
          have c8b1 : (a0_2 != a1_2) = true := bne_iff_ne.mpr c8
          have H' := Aside0.mk H
          clear H
          have hnb16 := NB284_285.out
          have hnc16 := NB285_284.out
          have hcz17_0 : w5.cell? ⟨gb284, 0, none⟩ = some (.int .i64 a0_0) := (blk_cell BK284.out 0).trans rfl
          have hcz17_1 : w5.cell? ⟨gb284, 1, none⟩ = some (.int .i64 a0_1) := (blk_cell BK284.out 1).trans rfl
          have hcz17_2 : w5.cell? ⟨gb284, 2, none⟩ = some (.int .i64 a0_2) := (blk_cell BK284.out 2).trans rfl
          have hcz17_3 : w5.cell? ⟨gb284, 3, none⟩ = some (.slice A0_3 l0_3.length c0_3) := (blk_cell BK284.out 3).trans rfl
          have hcz17_4 : w5.cell? ⟨gb284, 4, none⟩ = some (.slice A0_4 l0_4.length c0_4) := (blk_cell BK284.out 4).trans rfl
          have hfz17_0 := blk_frozen BK284.out 0
          have hfz17_1 := blk_frozen BK284.out 1
          have hfz17_2 := blk_frozen BK284.out 2
          have hfz17_3 := blk_frozen BK284.out 3
          have hfz17_4 := blk_frozen BK284.out 4
          have hcz18_0 : w5.cell? ⟨gb285, 0, none⟩ = some (.int .i64 a1_0) := (blk_cell BK285.out 0).trans rfl
          have hcz18_1 : w5.cell? ⟨gb285, 1, none⟩ = some (.int .i64 a1_1) := (blk_cell BK285.out 1).trans rfl
          have hcz18_2 : w5.cell? ⟨gb285, 2, none⟩ = some (.int .i64 a1_2) := (blk_cell BK285.out 2).trans rfl
          have hcz18_3 : w5.cell? ⟨gb285, 3, none⟩ = some (.slice A1_3 l1_3.length c1_3) := (blk_cell BK285.out 3).trans rfl
          have hcz18_4 : w5.cell? ⟨gb285, 4, none⟩ = some (.slice A1_4 l1_4.length c1_4) := (blk_cell BK285.out 4).trans rfl
          have hfz18_0 := blk_frozen BK285.out 0
          have hfz18_1 := blk_frozen BK285.out 1
          have hfz18_2 := blk_frozen BK285.out 2
          have hfz18_3 := blk_frozen BK285.out 3
          have hfz18_4 := blk_frozen BK285.out 4
          go_wp2
          go_meet
          case rel => exact ⟨_, (true), (by first | rfl | (simp; done) | (simp [*]; done)), H', ⟨by first | omega | exact Nat.le_refl _⟩, ⟨by (with_reducible repeat (first | refine blk_drewN ?_ _ | refine blk_drew ?_ | refine blk_alloc ?_ _)); exact BK284.out⟩, ⟨by (with_reducible repeat (first | refine blk_drewN ?_ _ | refine blk_drew ?_ | refine blk_alloc ?_ _)); exact BK285.out⟩, ⟨by repeat (first | (with_reducible first | exact HB.out | apply below_alloc | apply pw_below_drewN | apply below_drew1 | refine below_set ?_ GE284.out | refine below_set ?_ GE285.out) | exact HB.out)⟩⟩
      · rw [if_neg c7] at H
        have c7b0 : (a0_1 == a1_1) = false := beq_eq_false_iff_ne.mpr c7
        have c7b1 : (a0_1 != a1_1) = true := bne_iff_ne.mpr c7
        have H' := Aside0.mk H
        clear H
        have hnb19 := NB284_285.out
        have hnc19 := NB285_284.out
        have hcz20_0 : w5.cell? ⟨gb284, 0, none⟩ = some (.int .i64 a0_0) := (blk_cell BK284.out 0).trans rfl
        have hcz20_1 : w5.cell? ⟨gb284, 1, none⟩ = some (.int .i64 a0_1) := (blk_cell BK284.out 1).trans rfl
        have hcz20_2 : w5.cell? ⟨gb284, 2, none⟩ = some (.int .i64 a0_2) := (blk_cell BK284.out 2).trans rfl
        have hcz20_3 : w5.cell? ⟨gb284, 3, none⟩ = some (.slice A0_3 l0_3.length c0_3) := (blk_cell BK284.out 3).trans rfl
        have hcz20_4 : w5.cell? ⟨gb284, 4, none⟩ = some (.slice A0_4 l0_4.length c0_4) := (blk_cell BK284.out 4).trans rfl
        have hfz20_0 := blk_frozen BK284.out 0
        have hfz20_1 := blk_frozen BK284.out 1
        have hfz20_2 := blk_frozen BK284.out 2
        have hfz20_3 := blk_frozen BK284.out 3
        have hfz20_4 := blk_frozen BK284.out 4
        have hcz21_0 : w5.cell? ⟨gb285, 0, none⟩ = some (.int .i64 a1_0) := (blk_cell BK285.out 0).trans rfl
        have hcz21_1 : w5.cell? ⟨gb285, 1, none⟩ = some (.int .i64 a1_1) := (blk_cell BK285.out 1).trans rfl
        have hcz21_2 : w5.cell? ⟨gb285, 2, none⟩ = some (.int .i64 a1_2) := (blk_cell BK285.out 2).trans rfl
        have hcz21_3 : w5.cell? ⟨gb285, 3, none⟩ = some (.slice A1_3 l1_3.length c1_3) := (blk_cell BK285.out 3).trans rfl
        have hcz21_4 : w5.cell? ⟨gb285, 4, none⟩ = some (.slice A1_4 l1_4.length c1_4) := (blk_cell BK285.out 4).trans rfl
        have hfz21_0 := blk_frozen BK285.out 0
        have hfz21_1 := blk_frozen BK285.out 1
        have hfz21_2 := blk_frozen BK285.out 2
        have hfz21_3 := blk_frozen BK285.out 3
        have hfz21_4 := blk_frozen BK285.out 4
        go_wp2
        go_meet
        case rel => exact ⟨_, (true), (by first | rfl | (simp; done) | (simp [*]; done)), H', ⟨by first | omega | exact Nat.le_refl _⟩, ⟨by (with_reducible repeat (first | refine blk_drewN ?_ _ | refine blk_drew ?_ | refine blk_alloc ?_ _)); exact BK284.out⟩, ⟨by (with_reducible repeat (first | refine blk_drewN ?_ _ | refine blk_drew ?_ | refine blk_alloc ?_ _)); exact BK285.out⟩, ⟨by repeat (first | (with_reducible first | exact HB.out | apply below_alloc | apply pw_below_drewN | apply below_drew1 | refine below_set ?_ GE284.out | refine below_set ?_ GE285.out) | exact HB.out)⟩⟩
    · rw [if_neg c6] at H
      have c6b0 : (a0_0 == a1_0) = false := beq_eq_false_iff_ne.mpr c6
      have c6b1 : (a0_0 != a1_0) = true := bne_iff_ne.mpr c6
      (first | rw [c6b0] | (simp only [i64_w, i32_w]; rw [c6b0]) | skip)
      have H' := Aside0.mk H
      clear H
      have hnb22 := NB284_285.out
      have hnc22 := NB285_284.out
      have hcz23_0 : w5.cell? ⟨gb284, 0, none⟩ = some (.int .i64 a0_0) := (blk_cell BK284.out 0).trans rfl
      have hcz23_1 : w5.cell? ⟨gb284, 1, none⟩ = some (.int .i64 a0_1) := (blk_cell BK284.out 1).trans rfl
      have hcz23_2 : w5.cell? ⟨gb284, 2, none⟩ = some (.int .i64 a0_2) := (blk_cell BK284.out 2).trans rfl
      have hcz23_3 : w5.cell? ⟨gb284, 3, none⟩ = some (.slice A0_3 l0_3.length c0_3) := (blk_cell BK284.out 3).trans rfl
      have hcz23_4 : w5.cell? ⟨gb284, 4, none⟩ = some (.slice A0_4 l0_4.length c0_4) := (blk_cell BK284.out 4).trans rfl
      have hfz23_0 := blk_frozen BK284.out 0
      have hfz23_1 := blk_frozen BK284.out 1
      have hfz23_2 := blk_frozen BK284.out 2
      have hfz23_3 := blk_frozen BK284.out 3
      have hfz23_4 := blk_frozen BK284.out 4
      have hcz24_0 : w5.cell? ⟨gb285, 0, none⟩ = some (.int .i64 a1_0) := (blk_cell BK285.out 0).trans rfl
      have hcz24_1 : w5.cell? ⟨gb285, 1, none⟩ = some (.int .i64 a1_1) := (blk_cell BK285.out 1).trans rfl
      have hcz24_2 : w5.cell? ⟨gb285, 2, none⟩ = some (.int .i64 a1_2) := (blk_cell BK285.out 2).trans rfl
      have hcz24_3 : w5.cell? ⟨gb285, 3, none⟩ = some (.slice A1_3 l1_3.length c1_3) := (blk_cell BK285.out 3).trans rfl
      have hcz24_4 : w5.cell? ⟨gb285, 4, none⟩ = some (.slice A1_4 l1_4.length c1_4) := (blk_cell BK285.out 4).trans rfl
      have hfz24_0 := blk_frozen BK285.out 0
      have hfz24_1 := blk_frozen BK285.out 1
      have hfz24_2 := blk_frozen BK285.out 2
      have hfz24_3 := blk_frozen BK285.out 3
      have hfz24_4 := blk_frozen BK285.out 4
      go_wp2
      go_meet
      case rel => exact ⟨_, (true), (by first | rfl | (simp; done) | (simp [*]; done)), H', ⟨by first | omega | exact Nat.le_refl _⟩, ⟨by (with_reducible repeat (first | refine blk_drewN ?_ _ | refine blk_drew ?_ | refine blk_alloc ?_ _)); exact BK284.out⟩, ⟨by (with_reducible repeat (first | refine blk_drewN ?_ _ | refine blk_drew ?_ | refine blk_alloc ?_ _)); exact BK285.out⟩, ⟨by repeat (first | (with_reducible first | exact HB.out | apply below_alloc | apply pw_below_drewN | apply below_drew1 | refine below_set ?_ GE284.out | refine below_set ?_ GE285.out) | exact HB.out)⟩⟩
  case rest =>
    clear HC3
    try clear c1
    try clear c2
    try clear p2
    try clear c6
    try clear c6b0
    try clear c6b1
    try clear c7
    try clear c7b0
    try clear c7b1
    try clear c8
    try clear c8b0
    try clear c8b1
    try clear c9
    try clear c9b0
    try clear c9b1
    try clear c9b2
    try clear c10
    try clear c11
    try clear c13
    try clear c16
    try clear c19
    try clear c22
    try clear hcz11_0
    try clear hcz11_1
    try clear hcz11_2
    try clear hcz11_3
    try clear hcz11_4
    try clear hcz12_0
    try clear hcz12_1
    try clear hcz12_2
    try clear hcz12_3
    try clear hcz12_4
    try clear hcz14_0
    try clear hcz14_1
    try clear hcz14_2
    try clear hcz14_3
    try clear hcz14_4
    try clear hcz15_0
    try clear hcz15_1
    try clear hcz15_2
    try clear hcz15_3
    try clear hcz15_4
    try clear hcz17_0
    try clear hcz17_1
    try clear hcz17_2
    try clear hcz17_3
    try clear hcz17_4
    try clear hcz18_0
    try clear hcz18_1
    try clear hcz18_2
    try clear hcz18_3
    try clear hcz18_4
    try clear hcz20_0
    try clear hcz20_1
    try clear hcz20_2
    try clear hcz20_3
    try clear hcz20_4
    try clear hcz21_0
    try clear hcz21_1
    try clear hcz21_2
    try clear hcz21_3
    try clear hcz21_4
    try clear hcz23_0
    try clear hcz23_1
    try clear hcz23_2
    try clear hcz23_3
    try clear hcz23_4
    try clear hcz24_0
    try clear hcz24_1
    try clear hcz24_2
    try clear hcz24_3
    try clear hcz24_4
    try clear hfz11_0
    try clear hfz11_1
    try clear hfz11_2
    try clear hfz11_3
    try clear hfz11_4
    try clear hfz12_0
    try clear hfz12_1
    try clear hfz12_2
    try clear hfz12_3
    try clear hfz12_4
    try clear hfz14_0
    try clear hfz14_1
    try clear hfz14_2
    try clear hfz14_3
    try clear hfz14_4
    try clear hfz15_0
    try clear hfz15_1
    try clear hfz15_2
    try clear hfz15_3
    try clear hfz15_4
    try clear hfz17_0
    try clear hfz17_1
    try clear hfz17_2
    try clear hfz17_3
    try clear hfz17_4
    try clear hfz18_0
    try clear hfz18_1
    try clear hfz18_2
    try clear hfz18_3
    try clear hfz18_4
    try clear hfz20_0
    try clear hfz20_1
    try clear hfz20_2
    try clear hfz20_3
    try clear hfz20_4
    try clear hfz21_0
    try clear hfz21_1
    try clear hfz21_2
    try clear hfz21_3
    try clear hfz21_4
    try clear hfz23_0
    try clear hfz23_1
    try clear hfz23_2
    try clear hfz23_3
    try clear hfz23_4
    try clear hfz24_0
    try clear hfz24_1
    try clear hfz24_2
    try clear hfz24_3
    try clear hfz24_4
    obtain ⟨kq, x43_2, rfl, HA, HJ2, BK284, BK285, HB⟩ := hcut
    cases kq with
    | zero => exact absurd HA.out (by simp [laws_prPlaced.j0])
    | succ kj2 =>
      have H := HA.out
      clear HA
      simp only [laws_prPlaced.j0] at H
      by_cases c25 : x43_2 = true
      · subst c25
        have H1 : (some false) = some r := by rw [if_pos rfl] at H; exact H
        clear H
        have H := H1
        clear H1
        obtain rfl := Option.some.inj H
        go_wp2
        go_ret
        exact ⟨by first | rfl | (simp [errW_none, errW_some] <;> rfl) | (simp [*, errW_none, errW_some] <;> rfl), by repeat (first | (with_reducible first | exact HB.out | apply below_alloc | apply pw_below_drewN | apply below_drew1 | refine below_set ?_ GE284.out | refine below_set ?_ GE285.out) | exact HB.out)⟩
      · replace c25 := Bool.eq_false_iff.mpr c25
        subst c25
        have H1 : (laws_prPlaced.l0 kj2 (l0_3.length : Int) 0 a0_0 a0_1 a0_2 l0_3 l0_4 a1_0 a1_1 a1_2 l1_3 l1_4) = some r := by rw [if_neg (show ¬ (false = true) by decide)] at H; exact H
        clear H
        have H := H1
        clear H1
        have H' := Aside0.mk H
        clear H
        have hnb26 := NB284_285.out
        have hnc26 := NB285_284.out
        have hcz27_0 : wc.cell? ⟨gb284, 0, none⟩ = some (.int .i64 a0_0) := (blk_cell BK284.out 0).trans rfl
        have hcz27_1 : wc.cell? ⟨gb284, 1, none⟩ = some (.int .i64 a0_1) := (blk_cell BK284.out 1).trans rfl
        have hcz27_2 : wc.cell? ⟨gb284, 2, none⟩ = some (.int .i64 a0_2) := (blk_cell BK284.out 2).trans rfl
        have hcz27_3 : wc.cell? ⟨gb284, 3, none⟩ = some (.slice A0_3 l0_3.length c0_3) := (blk_cell BK284.out 3).trans rfl
        have hcz27_4 : wc.cell? ⟨gb284, 4, none⟩ = some (.slice A0_4 l0_4.length c0_4) := (blk_cell BK284.out 4).trans rfl
        have hfz27_0 := blk_frozen BK284.out 0
        have hfz27_1 := blk_frozen BK284.out 1
        have hfz27_2 := blk_frozen BK284.out 2
        have hfz27_3 := blk_frozen BK284.out 3
        have hfz27_4 := blk_frozen BK284.out 4
        go_wp2
        try simp only [Act.put, List.setIfInBounds_toArray, List.set_cons_succ, List.set_cons_zero]
        go_loopg [47] kj2 (fun kq v47 w' => ∃ (x47_2 : Int), v47 = .int .i64 x47_2 ∧ Aside0 (laws_prPlaced.l0 kq (l0_3.length : Int) x47_2 a0_0 a0_1 a0_2 l0_3 l0_4 a1_0 a1_1 a1_2 l1_3 l1_4 = some r) ∧ Aside0 (kq ≤ kj2) ∧ Aside0 (w'.heap[gb284]? = some (.cells #[.int .i64 a0_0, .int .i64 a0_1, .int .i64 a0_2, (.slice A0_3 l0_3.length c0_3), (.slice A0_4 l0_4.length c0_4)] 37 (0, 0))) ∧ Aside0 (w'.heap[gb285]? = some (.cells #[.int .i64 a1_0, .int .i64 a1_1, .int .i64 a1_2, (.slice A1_3 l1_3.length c1_3), (.slice A1_4 l1_4.length c1_4)] 37 (0, 0))) ∧ Aside0 (Below w.heap.size w w'))
        case atStart => exact ⟨(0), (by first | rfl | (simp; done) | (simp [*]; done)), H', ⟨Nat.le_refl _⟩, ⟨by (with_reducible repeat (first | refine blk_drewN ?_ _ | refine blk_drew ?_ | refine blk_alloc ?_ _)); exact BK284.out⟩, ⟨by (with_reducible repeat (first | refine blk_drewN ?_ _ | refine blk_drew ?_ | refine blk_alloc ?_ _)); exact BK285.out⟩, ⟨by repeat (first | (with_reducible first | exact HB.out | apply below_alloc | apply pw_below_drewN | apply below_drew1 | refine below_set ?_ GE284.out | refine below_set ?_ GE285.out) | exact HB.out)⟩⟩
        case round =>
          clear H'
          try clear c1
          try clear c2
          try clear p2
          try clear c6
          try clear c6b0
          try clear c6b1
          try clear c7
          try clear c7b0
          try clear c7b1
          try clear c8
          try clear c8b0
          try clear c8b1
          try clear c9
          try clear c9b0
          try clear c9b1
          try clear c9b2
          try clear c10
          try clear c11
          try clear c13
          try clear c16
          try clear c19
          try clear c22
          try clear c25
          try clear c26
          try clear hcz11_0
          try clear hcz11_1
          try clear hcz11_2
          try clear hcz11_3
          try clear hcz11_4
          try clear hcz12_0
          try clear hcz12_1
          try clear hcz12_2
          try clear hcz12_3
          try clear hcz12_4
          try clear hcz14_0
          try clear hcz14_1
          try clear hcz14_2
          try clear hcz14_3
          try clear hcz14_4
          try clear hcz15_0
          try clear hcz15_1
          try clear hcz15_2
          try clear hcz15_3
          try clear hcz15_4
          try clear hcz17_0
          try clear hcz17_1
          try clear hcz17_2
          try clear hcz17_3
          try clear hcz17_4
          try clear hcz18_0
          try clear hcz18_1
          try clear hcz18_2
          try clear hcz18_3
          try clear hcz18_4
          try clear hcz20_0
          try clear hcz20_1
          try clear hcz20_2
          try clear hcz20_3
          try clear hcz20_4
          try clear hcz21_0
          try clear hcz21_1
          try clear hcz21_2
          try clear hcz21_3
          try clear hcz21_4
          try clear hcz23_0
          try clear hcz23_1
          try clear hcz23_2
          try clear hcz23_3
          try clear hcz23_4
          try clear hcz24_0
          try clear hcz24_1
          try clear hcz24_2
          try clear hcz24_3
          try clear hcz24_4
          try clear hcz27_0
          try clear hcz27_1
          try clear hcz27_2
          try clear hcz27_3
          try clear hcz27_4
          try clear hfz11_0
          try clear hfz11_1
          try clear hfz11_2
          try clear hfz11_3
          try clear hfz11_4
          try clear hfz12_0
          try clear hfz12_1
          try clear hfz12_2
          try clear hfz12_3
          try clear hfz12_4
          try clear hfz14_0
          try clear hfz14_1
          try clear hfz14_2
          try clear hfz14_3
          try clear hfz14_4
          try clear hfz15_0
          try clear hfz15_1
          try clear hfz15_2
          try clear hfz15_3
          try clear hfz15_4
          try clear hfz17_0
          try clear hfz17_1
          try clear hfz17_2
          try clear hfz17_3
          try clear hfz17_4
          try clear hfz18_0
          try clear hfz18_1
          try clear hfz18_2
          try clear hfz18_3
          try clear hfz18_4
          try clear hfz20_0
          try clear hfz20_1
          try clear hfz20_2
          try clear hfz20_3
          try clear hfz20_4
          try clear hfz21_0
          try clear hfz21_1
          try clear hfz21_2
          try clear hfz21_3
          try clear hfz21_4
          try clear hfz23_0
          try clear hfz23_1
          try clear hfz23_2
          try clear hfz23_3
          try clear hfz23_4
          try clear hfz24_0
          try clear hfz24_1
          try clear hfz24_2
          try clear hfz24_3
          try clear hfz24_4
          try clear hfz27_0
          try clear hfz27_1
          try clear hfz27_2
          try clear hfz27_3
          try clear hfz27_4
          try clear p2
          obtain ⟨x47_2, rfl, HA, HK2, BK284, BK285, HB⟩ := hrel
          cases gk with
          | zero => exact absurd HA.out (by simp [laws_prPlaced.l0])
          | succ k2 =>
            have H := HA.out
            clear HA
            simp only [laws_prPlaced.l0] at H
            by_cases c28 : x47_2 < (l0_3.length : Int)
            · rw [if_pos c28] at H
              have c28b0 : decide (x47_2 < (l0_3.length : Int)) = true := decide_eq_true c28
              clear c28
              by_cases c29 : 0 ≤ x47_2
              · rw [if_pos c29] at H
                have c29b0 : decide (0 ≤ x47_2) = true := decide_eq_true c29
                clear c29
                by_cases c30 : x47_2 < (l0_3.length : Int)
                · rw [if_pos c30] at H
                  have c30b0 : decide (x47_2 < (l0_3.length : Int)) = true := decide_eq_true c30
                  clear c30
                  by_cases c31 : x47_2 < (l1_3.length : Int)
                  · rw [if_pos c31] at H
                    have c31b0 : decide (x47_2 < (l1_3.length : Int)) = true := decide_eq_true c31
                    clear c31
                    by_cases c32 : (!(((rd_T46 l0_3 x47_2).f0) == ((rd_T46 l1_3 x47_2).f0)) || (!(((rd_T46 l0_3 x47_2).f1) == ((rd_T46 l1_3 x47_2).f1)))) = true
                    · rw [if_pos c32] at H
                      have c32b0 : (!(((rd_T46 l0_3 x47_2).f0) == ((rd_T46 l1_3 x47_2).f0)) || (!(((rd_T46 l0_3 x47_2).f1) == ((rd_T46 l1_3 x47_2).f1)))) = true := c32
                      clear c32
                      obtain rfl := Option.some.inj H
                      try go_wp2
                      have n0_ := Aside0.mk (blk_drew BK284.out)
                      have n1_ := Aside0.mk (blk_drew BK285.out)
                      have n2_ := Aside0.mk (below_drew1 HB.out)
                      clear BK284
                      clear BK285
                      clear HB
                      have BK284 := n0_
                      have BK285 := n1_
                      have HB := n2_
                      clear n0_ n1_ n2_
                      have p286 : 0 ≤ (x47_2 : Int) := of_decide_eq_true (by first | (with_reducible assumption) | assumption)
                      have q286 : x47_2 < (l0_3.length : Int) := of_decide_eq_true (by first | (with_reducible assumption) | assumption)
                      obtain ⟨ad286, e286, hx286_0, hx286_1⟩ := at_T46 HR0_3.out x47_2 p286 q286
                      have hw286_1 := hx286_1
                      have hw286_0 := hx286_0
                      cases e286
                      replace hx286_0 := (HB.out.cell (World.block_lt_of_cell? w _ hx286_0)).trans hx286_0
                      replace hx286_1 := (HB.out.cell (World.block_lt_of_cell? w _ hx286_1)).trans hx286_1
                      replace p286 := eq_true p286
                      replace q286 := eq_true q286
                      have p287 : 0 ≤ (x47_2 : Int) := of_decide_eq_true (by first | (with_reducible assumption) | assumption)
                      have q287 : x47_2 < (l1_3.length : Int) := of_decide_eq_true (by first | (with_reducible assumption) | assumption)
                      obtain ⟨ad287, e287, hx287_0, hx287_1⟩ := at_T46 HR1_3.out x47_2 p287 q287
                      have hw287_1 := hx287_1
                      have hw287_0 := hx287_0
                      cases e287
                      replace hx287_0 := (HB.out.cell (World.block_lt_of_cell? w _ hx287_0)).trans hx287_0
                      replace hx287_1 := (HB.out.cell (World.block_lt_of_cell? w _ hx287_1)).trans hx287_1
                      replace p287 := eq_true p287
                      replace q287 := eq_true q287
                      refine start_ (n := 11) (S := fun w' => w'.cell? ⟨gb284, 0, none⟩ = some (.int .i64 a0_0) ∧ w'.cell? ⟨gb284, 1, none⟩ = some (.int .i64 a0_1) ∧ w'.cell? ⟨gb284, 2, none⟩ = some (.int .i64 a0_2) ∧ w'.cell? ⟨gb284, 3, none⟩ = some (.slice (some ad286) l0_3.length c0_3) ∧ w'.cell? ⟨gb284, 4, none⟩ = some (.slice A0_4 l0_4.length c0_4) ∧ w'.cell? ⟨gb285, 0, none⟩ = some (.int .i64 a1_0) ∧ w'.cell? ⟨gb285, 1, none⟩ = some (.int .i64 a1_1) ∧ w'.cell? ⟨gb285, 2, none⟩ = some (.int .i64 a1_2) ∧ w'.cell? ⟨gb285, 3, none⟩ = some (.slice (some ad287) l1_3.length c1_3) ∧ w'.cell? ⟨gb285, 4, none⟩ = some (.slice A1_4 l1_4.length c1_4) ∧ w'.cell? (ad286.add ((x47_2).toNat * 2)) = some (.int .i64 ((rd_T46 l0_3 x47_2).f0)) ∧ w'.cell? ⟨(ad286.add ((x47_2).toNat * 2)).block, (ad286.add ((x47_2).toNat * 2)).off + 1, none⟩ = some (.int .i64 ((rd_T46 l0_3 x47_2).f1)) ∧ w'.cell? (ad287.add ((x47_2).toNat * 2)) = some (.int .i64 ((rd_T46 l1_3 x47_2).f0)) ∧ w'.cell? ⟨(ad287.add ((x47_2).toNat * 2)).block, (ad287.add ((x47_2).toNat * 2)).off + 1, none⟩ = some (.int .i64 ((rd_T46 l1_3 x47_2).f1))) (ds := []) #[false, false, false, false, false, false, false, false, false, false, false] (by kernel_rfl) rfl rfl ⟨(blk_cell BK284.out 0).trans rfl, (blk_cell BK284.out 1).trans rfl, (blk_cell BK284.out 2).trans rfl, (blk_cell BK284.out 3).trans rfl, (blk_cell BK284.out 4).trans rfl, (blk_cell BK285.out 0).trans rfl, (blk_cell BK285.out 1).trans rfl, (blk_cell BK285.out 2).trans rfl, (blk_cell BK285.out 3).trans rfl, (blk_cell BK285.out 4).trans rfl, ((HB.out.cell (World.block_lt_of_cell? w _ hw286_0)).trans hw286_0), ((HB.out.cell (World.block_lt_of_cell? w _ hw286_1)).trans hw286_1), ((HB.out.cell (World.block_lt_of_cell? w _ hw287_0)).trans hw287_0), ((HB.out.cell (World.block_lt_of_cell? w _ hw287_1)).trans hw287_1)⟩ (fun hHeld => ?_); refine with_tabW laws_prPlaced.tab6 laws_prPlaced.bits6 (fun HT_ HW_ => ?_)
                      generalize wr.drew = w33 at BK284 BK285 HB hx286_0 hx286_1 hx287_0 hx287_1 hHeld ⊢
                      refine pure_ (i := 0) (N := some 50) (v := ?_) (a' := ?_) #[true, false, false, false, false, false, false, false, false, false, false] rfl rfl (any_of HT_.out (by kernel_rfl)) (fun _ _ _ h => h) (Or.inl ⟨by rfl, ?_⟩) ?_ ?_
                      rotate_left
                      · intro w'
                        go_simp
                        with_reducible rfl
                      rotate_left
                      · simp only [Act.put, List.setIfInBounds_toArray, List.set_cons_zero, List.set_cons_succ, i64_w, i32_w]
                        rfl
                      refine pure_ (i := 2) (N := some 52) (v := ?_) (a' := ?_) #[true, false, true, false, false, false, false, false, false, false, false] rfl rfl (any_of HT_.out (by kernel_rfl)) (fun _ _ _ h => h) (Or.inl ⟨by rfl, ?_⟩) ?_ ?_
                      rotate_left
                      · intro w'
                        go_simp
                        with_reducible rfl
                      rotate_left
                      · simp only [Act.put, List.setIfInBounds_toArray, List.set_cons_zero, List.set_cons_succ, i64_w, i32_w]
                        rfl
                      refine pure_ (i := 5) (N := some 55) (v := ?_) (a' := ?_) #[true, false, true, false, false, true, false, false, false, false, false] rfl rfl (any_of HT_.out (by kernel_rfl)) (fun _ _ _ h => h) (Or.inl ⟨by rfl, ?_⟩) ?_ ?_
                      rotate_left
                      · intro w'
                        go_simp
                        with_reducible rfl
                      rotate_left
                      · simp only [Act.put, List.setIfInBounds_toArray, List.set_cons_zero, List.set_cons_succ, i64_w, i32_w]
                        rfl
                      refine pure_ (i := 7) (N := some 57) (v := ?_) (a' := ?_) #[true, false, true, false, false, true, false, true, false, false, false] rfl rfl (any_of HT_.out (by kernel_rfl)) (fun _ _ _ h => h) (Or.inl ⟨by rfl, ?_⟩) ?_ ?_
                      rotate_left
                      · intro w'
                        go_simp
                        with_reducible rfl
                      rotate_left
                      · simp only [Act.put, List.setIfInBounds_toArray, List.set_cons_zero, List.set_cons_succ, i64_w, i32_w]
                        rfl
                      refine take_ (i := 1) (N := some 51) (v := ?_) (a' := ?_) #[true, true, true, false, false, true, false, true, false, false, false] rfl rfl (take_ofW HT_.out HW_.out (by kernel_rfl)) (fun _ _ _ h => h) (Or.inl ⟨by rfl, ?_⟩) hHeld ?_ ?_
                      rotate_left
                      · rintro w' ⟨s0, s1, s2, s3, s4, s5, s6, s7, s8, s9, s10, s11, s12, s13⟩
                        go_simp
                        with_reducible rfl
                      rotate_left
                      · simp only [Act.put, List.setIfInBounds_toArray, List.set_cons_zero, List.set_cons_succ, i64_w, i32_w]
                        rfl
                      refine pure_ (i := 3) (N := some 53) (v := ?_) (a' := ?_) #[true, true, true, true, false, true, false, true, false, false, false] rfl rfl (any_of HT_.out (by kernel_rfl)) (fun _ _ _ h => h) (Or.inl ⟨by rfl, ?_⟩) ?_ ?_
                      rotate_left
                      · intro w'
                        go_simp
                        with_reducible rfl
                      rotate_left
                      · simp only [Act.put, List.setIfInBounds_toArray, List.set_cons_zero, List.set_cons_succ, i64_w, i32_w]
                        rfl
                      refine take_ (i := 4) (N := some 54) (v := ?_) (a' := ?_) #[true, true, true, true, true, true, false, true, false, false, false] rfl rfl (take_ofW HT_.out HW_.out (by kernel_rfl)) (fun _ _ _ h => h) (Or.inl ⟨by rfl, ?_⟩) hHeld ?_ ?_
                      rotate_left
                      · rintro w' ⟨s0, s1, s2, s3, s4, s5, s6, s7, s8, s9, s10, s11, s12, s13⟩
                        go_simp
                        with_reducible rfl
                      rotate_left
                      · simp only [Act.put, List.setIfInBounds_toArray, List.set_cons_zero, List.set_cons_succ, i64_w, i32_w]
                        rfl
                      refine take_ (i := 6) (N := some 56) (v := ?_) (a' := ?_) #[true, true, true, true, true, true, true, true, false, false, false] rfl rfl (take_ofW HT_.out HW_.out (by kernel_rfl)) (fun _ _ _ h => h) (Or.inl ⟨by rfl, ?_⟩) hHeld ?_ ?_
                      rotate_left
                      · rintro w' ⟨s0, s1, s2, s3, s4, s5, s6, s7, s8, s9, s10, s11, s12, s13⟩
                        go_simp
                        with_reducible rfl
                      rotate_left
                      · simp only [Act.put, List.setIfInBounds_toArray, List.set_cons_zero, List.set_cons_succ, i64_w, i32_w]
                        rfl
                      refine pure_ (i := 8) (N := some 58) (v := ?_) (a' := ?_) #[true, true, true, true, true, true, true, true, true, false, false] rfl rfl (any_of HT_.out (by kernel_rfl)) (fun _ _ _ h => h) (Or.inl ⟨by rfl, ?_⟩) ?_ ?_
                      rotate_left
                      · intro w'
                        go_simp
                        with_reducible rfl
                      rotate_left
                      · simp only [Act.put, List.setIfInBounds_toArray, List.set_cons_zero, List.set_cons_succ, i64_w, i32_w]
                        rfl
                      refine take_ (i := 9) (N := some 59) (v := ?_) (a' := ?_) #[true, true, true, true, true, true, true, true, true, true, false] rfl rfl (take_ofW HT_.out HW_.out (by kernel_rfl)) (fun _ _ _ h => h) (Or.inl ⟨by rfl, ?_⟩) hHeld ?_ ?_
                      rotate_left
                      · rintro w' ⟨s0, s1, s2, s3, s4, s5, s6, s7, s8, s9, s10, s11, s12, s13⟩
                        go_simp
                        with_reducible rfl
                      rotate_left
                      · simp only [Act.put, List.setIfInBounds_toArray, List.set_cons_zero, List.set_cons_succ, i64_w, i32_w]
                        rfl
                      refine pure_ (i := 10) (N := some 60) (v := ?_) (a' := ?_) #[true, true, true, true, true, true, true, true, true, true, true] rfl rfl (any_of HT_.out (by kernel_rfl)) (fun _ _ _ h => h) (Or.inl ⟨by rfl, ?_⟩) ?_ ?_
                      rotate_left
                      · intro w'
                        go_simp
                        with_reducible rfl
                      rotate_left
                      · simp only [Act.put, List.setIfInBounds_toArray, List.set_cons_zero, List.set_cons_succ, i64_w, i32_w]
                        rfl
                      refine done_ (done_of HT_.out (by kernel_rfl)) ?_
                      try go_wp2
                      go_ret
                      exact ⟨by first | rfl | (simp [errW_none, errW_some] <;> rfl) | (simp [*, errW_none, errW_some] <;> rfl), by repeat (first | (with_reducible first | exact HB.out | apply below_alloc | apply pw_below_drewN | apply below_drew1 | refine below_set ?_ GE284.out | refine below_set ?_ GE285.out) | exact HB.out)⟩
                    · rw [if_neg c32] at H
                      have c32b0 : (!(((rd_T46 l0_3 x47_2).f0) == ((rd_T46 l1_3 x47_2).f0)) || (!(((rd_T46 l0_3 x47_2).f1) == ((rd_T46 l1_3 x47_2).f1)))) = false := by simpa using c32
                      clear c32
                      have H' := Aside0.mk H
                      clear H
                      try go_wp2
                      have n0_ := Aside0.mk (blk_drew BK284.out)
                      have n1_ := Aside0.mk (blk_drew BK285.out)
                      have n2_ := Aside0.mk (below_drew1 HB.out)
                      clear BK284
                      clear BK285
                      clear HB
                      have BK284 := n0_
                      have BK285 := n1_
                      have HB := n2_
                      clear n0_ n1_ n2_
                      have p286 : 0 ≤ (x47_2 : Int) := of_decide_eq_true (by first | (with_reducible assumption) | assumption)
                      have q286 : x47_2 < (l0_3.length : Int) := of_decide_eq_true (by first | (with_reducible assumption) | assumption)
                      obtain ⟨ad286, e286, hx286_0, hx286_1⟩ := at_T46 HR0_3.out x47_2 p286 q286
                      have hw286_1 := hx286_1
                      have hw286_0 := hx286_0
                      cases e286
                      replace hx286_0 := (HB.out.cell (World.block_lt_of_cell? w _ hx286_0)).trans hx286_0
                      replace hx286_1 := (HB.out.cell (World.block_lt_of_cell? w _ hx286_1)).trans hx286_1
                      replace p286 := eq_true p286
                      replace q286 := eq_true q286
                      have p287 : 0 ≤ (x47_2 : Int) := of_decide_eq_true (by first | (with_reducible assumption) | assumption)
                      have q287 : x47_2 < (l1_3.length : Int) := of_decide_eq_true (by first | (with_reducible assumption) | assumption)
                      obtain ⟨ad287, e287, hx287_0, hx287_1⟩ := at_T46 HR1_3.out x47_2 p287 q287
                      have hw287_1 := hx287_1
                      have hw287_0 := hx287_0
                      cases e287
                      replace hx287_0 := (HB.out.cell (World.block_lt_of_cell? w _ hx287_0)).trans hx287_0
                      replace hx287_1 := (HB.out.cell (World.block_lt_of_cell? w _ hx287_1)).trans hx287_1
                      replace p287 := eq_true p287
                      replace q287 := eq_true q287
                      refine start_ (n := 11) (S := fun w' => w'.cell? ⟨gb284, 0, none⟩ = some (.int .i64 a0_0) ∧ w'.cell? ⟨gb284, 1, none⟩ = some (.int .i64 a0_1) ∧ w'.cell? ⟨gb284, 2, none⟩ = some (.int .i64 a0_2) ∧ w'.cell? ⟨gb284, 3, none⟩ = some (.slice (some ad286) l0_3.length c0_3) ∧ w'.cell? ⟨gb284, 4, none⟩ = some (.slice A0_4 l0_4.length c0_4) ∧ w'.cell? ⟨gb285, 0, none⟩ = some (.int .i64 a1_0) ∧ w'.cell? ⟨gb285, 1, none⟩ = some (.int .i64 a1_1) ∧ w'.cell? ⟨gb285, 2, none⟩ = some (.int .i64 a1_2) ∧ w'.cell? ⟨gb285, 3, none⟩ = some (.slice (some ad287) l1_3.length c1_3) ∧ w'.cell? ⟨gb285, 4, none⟩ = some (.slice A1_4 l1_4.length c1_4) ∧ w'.cell? (ad286.add ((x47_2).toNat * 2)) = some (.int .i64 ((rd_T46 l0_3 x47_2).f0)) ∧ w'.cell? ⟨(ad286.add ((x47_2).toNat * 2)).block, (ad286.add ((x47_2).toNat * 2)).off + 1, none⟩ = some (.int .i64 ((rd_T46 l0_3 x47_2).f1)) ∧ w'.cell? (ad287.add ((x47_2).toNat * 2)) = some (.int .i64 ((rd_T46 l1_3 x47_2).f0)) ∧ w'.cell? ⟨(ad287.add ((x47_2).toNat * 2)).block, (ad287.add ((x47_2).toNat * 2)).off + 1, none⟩ = some (.int .i64 ((rd_T46 l1_3 x47_2).f1))) (ds := []) #[false, false, false, false, false, false, false, false, false, false, false] (by kernel_rfl) rfl rfl ⟨(blk_cell BK284.out 0).trans rfl, (blk_cell BK284.out 1).trans rfl, (blk_cell BK284.out 2).trans rfl, (blk_cell BK284.out 3).trans rfl, (blk_cell BK284.out 4).trans rfl, (blk_cell BK285.out 0).trans rfl, (blk_cell BK285.out 1).trans rfl, (blk_cell BK285.out 2).trans rfl, (blk_cell BK285.out 3).trans rfl, (blk_cell BK285.out 4).trans rfl, ((HB.out.cell (World.block_lt_of_cell? w _ hw286_0)).trans hw286_0), ((HB.out.cell (World.block_lt_of_cell? w _ hw286_1)).trans hw286_1), ((HB.out.cell (World.block_lt_of_cell? w _ hw287_0)).trans hw287_0), ((HB.out.cell (World.block_lt_of_cell? w _ hw287_1)).trans hw287_1)⟩ (fun hHeld => ?_); refine with_tabW laws_prPlaced.tab6 laws_prPlaced.bits6 (fun HT_ HW_ => ?_)
                      generalize wr.drew = w34 at BK284 BK285 HB hx286_0 hx286_1 hx287_0 hx287_1 hHeld ⊢
                      refine pure_ (i := 0) (N := some 50) (v := ?_) (a' := ?_) #[true, false, false, false, false, false, false, false, false, false, false] rfl rfl (any_of HT_.out (by kernel_rfl)) (fun _ _ _ h => h) (Or.inl ⟨by rfl, ?_⟩) ?_ ?_
                      rotate_left
                      · intro w'
                        go_simp
                        with_reducible rfl
                      rotate_left
                      · simp only [Act.put, List.setIfInBounds_toArray, List.set_cons_zero, List.set_cons_succ, i64_w, i32_w]
                        rfl
                      refine pure_ (i := 2) (N := some 52) (v := ?_) (a' := ?_) #[true, false, true, false, false, false, false, false, false, false, false] rfl rfl (any_of HT_.out (by kernel_rfl)) (fun _ _ _ h => h) (Or.inl ⟨by rfl, ?_⟩) ?_ ?_
                      rotate_left
                      · intro w'
                        go_simp
                        with_reducible rfl
                      rotate_left
                      · simp only [Act.put, List.setIfInBounds_toArray, List.set_cons_zero, List.set_cons_succ, i64_w, i32_w]
                        rfl
                      refine pure_ (i := 5) (N := some 55) (v := ?_) (a' := ?_) #[true, false, true, false, false, true, false, false, false, false, false] rfl rfl (any_of HT_.out (by kernel_rfl)) (fun _ _ _ h => h) (Or.inl ⟨by rfl, ?_⟩) ?_ ?_
                      rotate_left
                      · intro w'
                        go_simp
                        with_reducible rfl
                      rotate_left
                      · simp only [Act.put, List.setIfInBounds_toArray, List.set_cons_zero, List.set_cons_succ, i64_w, i32_w]
                        rfl
                      refine pure_ (i := 7) (N := some 57) (v := ?_) (a' := ?_) #[true, false, true, false, false, true, false, true, false, false, false] rfl rfl (any_of HT_.out (by kernel_rfl)) (fun _ _ _ h => h) (Or.inl ⟨by rfl, ?_⟩) ?_ ?_
                      rotate_left
                      · intro w'
                        go_simp
                        with_reducible rfl
                      rotate_left
                      · simp only [Act.put, List.setIfInBounds_toArray, List.set_cons_zero, List.set_cons_succ, i64_w, i32_w]
                        rfl
                      refine take_ (i := 1) (N := some 51) (v := ?_) (a' := ?_) #[true, true, true, false, false, true, false, true, false, false, false] rfl rfl (take_ofW HT_.out HW_.out (by kernel_rfl)) (fun _ _ _ h => h) (Or.inl ⟨by rfl, ?_⟩) hHeld ?_ ?_
                      rotate_left
                      · rintro w' ⟨s0, s1, s2, s3, s4, s5, s6, s7, s8, s9, s10, s11, s12, s13⟩
                        go_simp
                        with_reducible rfl
                      rotate_left
                      · simp only [Act.put, List.setIfInBounds_toArray, List.set_cons_zero, List.set_cons_succ, i64_w, i32_w]
                        rfl
                      refine pure_ (i := 3) (N := some 53) (v := ?_) (a' := ?_) #[true, true, true, true, false, true, false, true, false, false, false] rfl rfl (any_of HT_.out (by kernel_rfl)) (fun _ _ _ h => h) (Or.inl ⟨by rfl, ?_⟩) ?_ ?_
                      rotate_left
                      · intro w'
                        go_simp
                        with_reducible rfl
                      rotate_left
                      · simp only [Act.put, List.setIfInBounds_toArray, List.set_cons_zero, List.set_cons_succ, i64_w, i32_w]
                        rfl
                      refine take_ (i := 4) (N := some 54) (v := ?_) (a' := ?_) #[true, true, true, true, true, true, false, true, false, false, false] rfl rfl (take_ofW HT_.out HW_.out (by kernel_rfl)) (fun _ _ _ h => h) (Or.inl ⟨by rfl, ?_⟩) hHeld ?_ ?_
                      rotate_left
                      · rintro w' ⟨s0, s1, s2, s3, s4, s5, s6, s7, s8, s9, s10, s11, s12, s13⟩
                        go_simp
                        with_reducible rfl
                      rotate_left
                      · simp only [Act.put, List.setIfInBounds_toArray, List.set_cons_zero, List.set_cons_succ, i64_w, i32_w]
                        rfl
                      refine take_ (i := 6) (N := some 56) (v := ?_) (a' := ?_) #[true, true, true, true, true, true, true, true, false, false, false] rfl rfl (take_ofW HT_.out HW_.out (by kernel_rfl)) (fun _ _ _ h => h) (Or.inl ⟨by rfl, ?_⟩) hHeld ?_ ?_
                      rotate_left
                      · rintro w' ⟨s0, s1, s2, s3, s4, s5, s6, s7, s8, s9, s10, s11, s12, s13⟩
                        go_simp
                        with_reducible rfl
                      rotate_left
                      · simp only [Act.put, List.setIfInBounds_toArray, List.set_cons_zero, List.set_cons_succ, i64_w, i32_w]
                        rfl
                      refine pure_ (i := 8) (N := some 58) (v := ?_) (a' := ?_) #[true, true, true, true, true, true, true, true, true, false, false] rfl rfl (any_of HT_.out (by kernel_rfl)) (fun _ _ _ h => h) (Or.inl ⟨by rfl, ?_⟩) ?_ ?_
                      rotate_left
                      · intro w'
                        go_simp
                        with_reducible rfl
                      rotate_left
                      · simp only [Act.put, List.setIfInBounds_toArray, List.set_cons_zero, List.set_cons_succ, i64_w, i32_w]
                        rfl
                      refine take_ (i := 9) (N := some 59) (v := ?_) (a' := ?_) #[true, true, true, true, true, true, true, true, true, true, false] rfl rfl (take_ofW HT_.out HW_.out (by kernel_rfl)) (fun _ _ _ h => h) (Or.inl ⟨by rfl, ?_⟩) hHeld ?_ ?_
                      rotate_left
                      · rintro w' ⟨s0, s1, s2, s3, s4, s5, s6, s7, s8, s9, s10, s11, s12, s13⟩
                        go_simp
                        with_reducible rfl
                      rotate_left
                      · simp only [Act.put, List.setIfInBounds_toArray, List.set_cons_zero, List.set_cons_succ, i64_w, i32_w]
                        rfl
                      refine pure_ (i := 10) (N := some 60) (v := ?_) (a' := ?_) #[true, true, true, true, true, true, true, true, true, true, true] rfl rfl (any_of HT_.out (by kernel_rfl)) (fun _ _ _ h => h) (Or.inl ⟨by rfl, ?_⟩) ?_ ?_
                      rotate_left
                      · intro w'
                        go_simp
                        with_reducible rfl
                      rotate_left
                      · simp only [Act.put, List.setIfInBounds_toArray, List.set_cons_zero, List.set_cons_succ, i64_w, i32_w]
                        rfl
                      refine done_ (done_of HT_.out (by kernel_rfl)) ?_
                      try go_wp2
                      go_roundg k2
                      case measure => have := HJ2.out; have := HK2.out; omega
                      case rel => exact ⟨(wrap64 (x47_2 + 1)), (by first | rfl | (simp; done) | (simp [*]; done)), H', ⟨by have := HJ2.out; have := HK2.out; omega⟩, ⟨by (with_reducible repeat (first | refine blk_drewN ?_ _ | refine blk_drew ?_ | refine blk_alloc ?_ _)); exact BK284.out⟩, ⟨by (with_reducible repeat (first | refine blk_drewN ?_ _ | refine blk_drew ?_ | refine blk_alloc ?_ _)); exact BK285.out⟩, ⟨by repeat (first | (with_reducible first | exact HB.out | apply below_alloc | apply pw_below_drewN | apply below_drew1 | refine below_set ?_ GE284.out | refine below_set ?_ GE285.out) | exact HB.out)⟩⟩
                  · rw [if_neg c31] at H
                    exact absurd H (by simp)
                · rw [if_neg c30] at H
                  exact absurd H (by simp)
              · rw [if_neg c29] at H
                exact absurd H (by simp)
            · rw [if_neg c28] at H
              have c28b0 : decide (x47_2 < (l0_3.length : Int)) = false := decide_eq_false c28
              clear c28
              have H' := Aside0.mk H
              clear H
              have hnb35 := NB284_285.out
              have hnc35 := NB285_284.out
              have hcz36_0 : wr.cell? ⟨gb284, 0, none⟩ = some (.int .i64 a0_0) := (blk_cell BK284.out 0).trans rfl
              have hcz36_1 : wr.cell? ⟨gb284, 1, none⟩ = some (.int .i64 a0_1) := (blk_cell BK284.out 1).trans rfl
              have hcz36_2 : wr.cell? ⟨gb284, 2, none⟩ = some (.int .i64 a0_2) := (blk_cell BK284.out 2).trans rfl
              have hcz36_3 : wr.cell? ⟨gb284, 3, none⟩ = some (.slice A0_3 l0_3.length c0_3) := (blk_cell BK284.out 3).trans rfl
              have hcz36_4 : wr.cell? ⟨gb284, 4, none⟩ = some (.slice A0_4 l0_4.length c0_4) := (blk_cell BK284.out 4).trans rfl
              have hfz36_0 := blk_frozen BK284.out 0
              have hfz36_1 := blk_frozen BK284.out 1
              have hfz36_2 := blk_frozen BK284.out 2
              have hfz36_3 := blk_frozen BK284.out 3
              have hfz36_4 := blk_frozen BK284.out 4
              go_wp2
              try simp only [Act.put, List.setIfInBounds_toArray, List.set_cons_succ, List.set_cons_zero]
              go_loopg [65] k2 (fun kq v65 w' => ∃ (x65_3 : Int), v65 = .int .i64 x65_3 ∧ Aside0 (laws_prPlaced.l1 kq (l0_4.length : Int) x65_3 a0_0 a0_1 a0_2 l0_3 l0_4 a1_0 a1_1 a1_2 l1_3 l1_4 = some r) ∧ Aside0 (kq ≤ k2) ∧ Aside0 (w'.heap[gb284]? = some (.cells #[.int .i64 a0_0, .int .i64 a0_1, .int .i64 a0_2, (.slice A0_3 l0_3.length c0_3), (.slice A0_4 l0_4.length c0_4)] 37 (0, 0))) ∧ Aside0 (w'.heap[gb285]? = some (.cells #[.int .i64 a1_0, .int .i64 a1_1, .int .i64 a1_2, (.slice A1_3 l1_3.length c1_3), (.slice A1_4 l1_4.length c1_4)] 37 (0, 0))) ∧ Aside0 (Below w.heap.size w w'))
              case atStart => exact ⟨(0), (by first | rfl | (simp; done) | (simp [*]; done)), H', ⟨Nat.le_refl _⟩, ⟨by (with_reducible repeat (first | refine blk_drewN ?_ _ | refine blk_drew ?_ | refine blk_alloc ?_ _)); exact BK284.out⟩, ⟨by (with_reducible repeat (first | refine blk_drewN ?_ _ | refine blk_drew ?_ | refine blk_alloc ?_ _)); exact BK285.out⟩, ⟨by repeat (first | (with_reducible first | exact HB.out | apply below_alloc | apply pw_below_drewN | apply below_drew1 | refine below_set ?_ GE284.out | refine below_set ?_ GE285.out) | exact HB.out)⟩⟩
              case round =>
                clear H'
                try clear c1
                try clear c2
                try clear p2
                try clear q2
                try clear hx2
                try clear c3
                try clear c6
                try clear c6b0
                try clear c6b1
                try clear p6
                try clear c7
                try clear c7b0
                try clear c7b1
                try clear c8
                try clear c8b0
                try clear c8b1
                try clear c9
                try clear c9b0
                try clear c9b1
                try clear c9b2
                try clear c10
                try clear c11
                try clear c13
                try clear c16
                try clear c19
                try clear c22
                try clear c25
                try clear c26
                try clear c28
                try clear c28b0
                try clear p28
                try clear q28
                try clear hx28
                try clear c29
                try clear c29b0
                try clear c30
                try clear c30b0
                try clear c31
                try clear c31b0
                try clear c32
                try clear c32b0
                try clear c35
                try clear hcz11_0
                try clear hcz11_1
                try clear hcz11_2
                try clear hcz11_3
                try clear hcz11_4
                try clear hcz12_0
                try clear hcz12_1
                try clear hcz12_2
                try clear hcz12_3
                try clear hcz12_4
                try clear hcz14_0
                try clear hcz14_1
                try clear hcz14_2
                try clear hcz14_3
                try clear hcz14_4
                try clear hcz15_0
                try clear hcz15_1
                try clear hcz15_2
                try clear hcz15_3
                try clear hcz15_4
                try clear hcz17_0
                try clear hcz17_1
                try clear hcz17_2
                try clear hcz17_3
                try clear hcz17_4
                try clear hcz18_0
                try clear hcz18_1
                try clear hcz18_2
                try clear hcz18_3
                try clear hcz18_4
                try clear hcz20_0
                try clear hcz20_1
                try clear hcz20_2
                try clear hcz20_3
                try clear hcz20_4
                try clear hcz21_0
                try clear hcz21_1
                try clear hcz21_2
                try clear hcz21_3
                try clear hcz21_4
                try clear hcz23_0
                try clear hcz23_1
                try clear hcz23_2
                try clear hcz23_3
                try clear hcz23_4
                try clear hcz24_0
                try clear hcz24_1
                try clear hcz24_2
                try clear hcz24_3
                try clear hcz24_4
                try clear hcz27_0
                try clear hcz27_1
                try clear hcz27_2
                try clear hcz27_3
                try clear hcz27_4
                try clear hcz36_0
                try clear hcz36_1
                try clear hcz36_2
                try clear hcz36_3
                try clear hcz36_4
                try clear hfz11_0
                try clear hfz11_1
                try clear hfz11_2
                try clear hfz11_3
                try clear hfz11_4
                try clear hfz12_0
                try clear hfz12_1
                try clear hfz12_2
                try clear hfz12_3
                try clear hfz12_4
                try clear hfz14_0
                try clear hfz14_1
                try clear hfz14_2
                try clear hfz14_3
                try clear hfz14_4
                try clear hfz15_0
                try clear hfz15_1
                try clear hfz15_2
                try clear hfz15_3
                try clear hfz15_4
                try clear hfz17_0
                try clear hfz17_1
                try clear hfz17_2
                try clear hfz17_3
                try clear hfz17_4
                try clear hfz18_0
                try clear hfz18_1
                try clear hfz18_2
                try clear hfz18_3
                try clear hfz18_4
                try clear hfz20_0
                try clear hfz20_1
                try clear hfz20_2
                try clear hfz20_3
                try clear hfz20_4
                try clear hfz21_0
                try clear hfz21_1
                try clear hfz21_2
                try clear hfz21_3
                try clear hfz21_4
                try clear hfz23_0
                try clear hfz23_1
                try clear hfz23_2
                try clear hfz23_3
                try clear hfz23_4
                try clear hfz24_0
                try clear hfz24_1
                try clear hfz24_2
                try clear hfz24_3
                try clear hfz24_4
                try clear hfz27_0
                try clear hfz27_1
                try clear hfz27_2
                try clear hfz27_3
                try clear hfz27_4
                try clear hfz36_0
                try clear hfz36_1
                try clear hfz36_2
                try clear hfz36_3
                try clear hfz36_4
                try clear hx286_0
                try clear hx286_1
                try clear hx287_0
                try clear hx287_1
                try clear p2
                try clear p286
                try clear p287
                try clear q286
                try clear q287
                obtain ⟨x65_3, rfl, HA, HK3, BK284, BK285, HB⟩ := hrel
                cases gk with
                | zero => exact absurd HA.out (by simp [laws_prPlaced.l1])
                | succ k3 =>
                  have H := HA.out
                  clear HA
                  simp only [laws_prPlaced.l1] at H
                  by_cases c37 : x65_3 < (l0_4.length : Int)
                  · rw [if_pos c37] at H
                    have c37b0 : decide (x65_3 < (l0_4.length : Int)) = true := decide_eq_true c37
                    clear c37
                    by_cases c38 : 0 ≤ x65_3
                    · rw [if_pos c38] at H
                      have c38b0 : decide (0 ≤ x65_3) = true := decide_eq_true c38
                      clear c38
                      by_cases c39 : x65_3 < (l0_4.length : Int)
                      · rw [if_pos c39] at H
                        have c39b0 : decide (x65_3 < (l0_4.length : Int)) = true := decide_eq_true c39
                        clear c39
                        by_cases c40 : x65_3 < (l1_4.length : Int)
                        · rw [if_pos c40] at H
                          have c40b0 : decide (x65_3 < (l1_4.length : Int)) = true := decide_eq_true c40
                          clear c40
                          replace H := Option.bind_eq_some_iff.mp H
                          obtain ⟨t290, A410, H⟩ := H
                          replace H : (if t290 = true then (laws_prPlaced.l1 k3 (l0_4.length : Int) (wrap64 (x65_3 + 1)) a0_0 a0_1 a0_2 l0_3 l0_4 a1_0 a1_1 a1_2 l1_3 l1_4) else (some false)) = some r := H
                          have A41 := Aside0.mk A410
                          clear A410
                          by_cases c42 : t290 = true
                          · subst c42
                            have H1 : (laws_prPlaced.l1 k3 (l0_4.length : Int) (wrap64 (x65_3 + 1)) a0_0 a0_1 a0_2 l0_3 l0_4 a1_0 a1_1 a1_2 l1_3 l1_4) = some r := by rw [if_pos rfl] at H; exact H
                            clear H
                            have H := H1
                            clear H1
                            have H' := Aside0.mk H
                            clear H
                            try go_wp2
                            have n0_ := Aside0.mk (blk_drew BK284.out)
                            have n1_ := Aside0.mk (blk_drew BK285.out)
                            have n2_ := Aside0.mk (below_drew1 HB.out)
                            clear BK284
                            clear BK285
                            clear HB
                            have BK284 := n0_
                            have BK285 := n1_
                            have HB := n2_
                            clear n0_ n1_ n2_
                            have p288 : 0 ≤ (x65_3 : Int) := of_decide_eq_true (by first | (with_reducible assumption) | assumption)
                            have q288 : x65_3 < (l0_4.length : Int) := of_decide_eq_true (by first | (with_reducible assumption) | assumption)
                            obtain ⟨ad288, A288_3, c288_3, A288_4, c288_4, e288, hx288_0, hx288_1, hx288_2, hx288_3, hx288_4, hl288_3, hi288_3, hl288_4, hi288_4⟩ := at_T37 HR0_4.out x65_3 p288 q288
                            have hw288_4 := hx288_4
                            have hw288_3 := hx288_3
                            have hw288_2 := hx288_2
                            have hw288_1 := hx288_1
                            have hw288_0 := hx288_0
                            cases e288
                            replace hx288_0 := (HB.out.cell (World.block_lt_of_cell? w _ hx288_0)).trans hx288_0
                            replace hx288_1 := (HB.out.cell (World.block_lt_of_cell? w _ hx288_1)).trans hx288_1
                            replace hx288_2 := (HB.out.cell (World.block_lt_of_cell? w _ hx288_2)).trans hx288_2
                            replace hx288_3 := (HB.out.cell (World.block_lt_of_cell? w _ hx288_3)).trans hx288_3
                            replace hx288_4 := (HB.out.cell (World.block_lt_of_cell? w _ hx288_4)).trans hx288_4
                            have HR288_3 := Aside0.mk hi288_3
                            have HC288_3 := Aside0.mk hl288_3
                            clear hi288_3 hl288_3
                            have HR288_4 := Aside0.mk hi288_4
                            have HC288_4 := Aside0.mk hl288_4
                            clear hi288_4 hl288_4
                            replace p288 := eq_true p288
                            replace q288 := eq_true q288
                            have p289 : 0 ≤ (x65_3 : Int) := of_decide_eq_true (by first | (with_reducible assumption) | assumption)
                            have q289 : x65_3 < (l1_4.length : Int) := of_decide_eq_true (by first | (with_reducible assumption) | assumption)
                            obtain ⟨ad289, A289_3, c289_3, A289_4, c289_4, e289, hx289_0, hx289_1, hx289_2, hx289_3, hx289_4, hl289_3, hi289_3, hl289_4, hi289_4⟩ := at_T37 HR1_4.out x65_3 p289 q289
                            have hw289_4 := hx289_4
                            have hw289_3 := hx289_3
                            have hw289_2 := hx289_2
                            have hw289_1 := hx289_1
                            have hw289_0 := hx289_0
                            cases e289
                            replace hx289_0 := (HB.out.cell (World.block_lt_of_cell? w _ hx289_0)).trans hx289_0
                            replace hx289_1 := (HB.out.cell (World.block_lt_of_cell? w _ hx289_1)).trans hx289_1
                            replace hx289_2 := (HB.out.cell (World.block_lt_of_cell? w _ hx289_2)).trans hx289_2
                            replace hx289_3 := (HB.out.cell (World.block_lt_of_cell? w _ hx289_3)).trans hx289_3
                            replace hx289_4 := (HB.out.cell (World.block_lt_of_cell? w _ hx289_4)).trans hx289_4
                            have HR289_3 := Aside0.mk hi289_3
                            have HC289_3 := Aside0.mk hl289_3
                            clear hi289_3 hl289_3
                            have HR289_4 := Aside0.mk hi289_4
                            have HC289_4 := Aside0.mk hl289_4
                            clear hi289_4 hl289_4
                            replace p289 := eq_true p289
                            replace q289 := eq_true q289
                            refine start_ (n := 12) (S := fun w' => w'.cell? ⟨gb284, 0, none⟩ = some (.int .i64 a0_0) ∧ w'.cell? ⟨gb284, 1, none⟩ = some (.int .i64 a0_1) ∧ w'.cell? ⟨gb284, 2, none⟩ = some (.int .i64 a0_2) ∧ w'.cell? ⟨gb284, 3, none⟩ = some (.slice A0_3 l0_3.length c0_3) ∧ w'.cell? ⟨gb284, 4, none⟩ = some (.slice (some ad288) l0_4.length c0_4) ∧ w'.cell? ⟨gb285, 0, none⟩ = some (.int .i64 a1_0) ∧ w'.cell? ⟨gb285, 1, none⟩ = some (.int .i64 a1_1) ∧ w'.cell? ⟨gb285, 2, none⟩ = some (.int .i64 a1_2) ∧ w'.cell? ⟨gb285, 3, none⟩ = some (.slice A1_3 l1_3.length c1_3) ∧ w'.cell? ⟨gb285, 4, none⟩ = some (.slice (some ad289) l1_4.length c1_4) ∧ w'.cell? (ad288.add ((x65_3).toNat * 5)) = some (.int .i64 ((rd_T37 l0_4 x65_3).f0)) ∧ w'.cell? ⟨(ad288.add ((x65_3).toNat * 5)).block, (ad288.add ((x65_3).toNat * 5)).off + 1, none⟩ = some (.int .i64 ((rd_T37 l0_4 x65_3).f1)) ∧ w'.cell? ⟨(ad288.add ((x65_3).toNat * 5)).block, (ad288.add ((x65_3).toNat * 5)).off + 2, none⟩ = some (.int .i64 ((rd_T37 l0_4 x65_3).f2)) ∧ w'.cell? ⟨(ad288.add ((x65_3).toNat * 5)).block, (ad288.add ((x65_3).toNat * 5)).off + 3, none⟩ = some (.slice A288_3 ((rd_T37 l0_4 x65_3).f3).length c288_3) ∧ w'.cell? ⟨(ad288.add ((x65_3).toNat * 5)).block, (ad288.add ((x65_3).toNat * 5)).off + 4, none⟩ = some (.slice A288_4 ((rd_T37 l0_4 x65_3).f4).length c288_4) ∧ w'.cell? (ad289.add ((x65_3).toNat * 5)) = some (.int .i64 ((rd_T37 l1_4 x65_3).f0)) ∧ w'.cell? ⟨(ad289.add ((x65_3).toNat * 5)).block, (ad289.add ((x65_3).toNat * 5)).off + 1, none⟩ = some (.int .i64 ((rd_T37 l1_4 x65_3).f1)) ∧ w'.cell? ⟨(ad289.add ((x65_3).toNat * 5)).block, (ad289.add ((x65_3).toNat * 5)).off + 2, none⟩ = some (.int .i64 ((rd_T37 l1_4 x65_3).f2)) ∧ w'.cell? ⟨(ad289.add ((x65_3).toNat * 5)).block, (ad289.add ((x65_3).toNat * 5)).off + 3, none⟩ = some (.slice A289_3 ((rd_T37 l1_4 x65_3).f3).length c289_3) ∧ w'.cell? ⟨(ad289.add ((x65_3).toNat * 5)).block, (ad289.add ((x65_3).toNat * 5)).off + 4, none⟩ = some (.slice A289_4 ((rd_T37 l1_4 x65_3).f4).length c289_4)) (ds := []) #[false, false, false, false, false, false, false, false, false, false, false, false] (by kernel_rfl) rfl rfl ⟨(blk_cell BK284.out 0).trans rfl, (blk_cell BK284.out 1).trans rfl, (blk_cell BK284.out 2).trans rfl, (blk_cell BK284.out 3).trans rfl, (blk_cell BK284.out 4).trans rfl, (blk_cell BK285.out 0).trans rfl, (blk_cell BK285.out 1).trans rfl, (blk_cell BK285.out 2).trans rfl, (blk_cell BK285.out 3).trans rfl, (blk_cell BK285.out 4).trans rfl, ((HB.out.cell (World.block_lt_of_cell? w _ hw288_0)).trans hw288_0), ((HB.out.cell (World.block_lt_of_cell? w _ hw288_1)).trans hw288_1), ((HB.out.cell (World.block_lt_of_cell? w _ hw288_2)).trans hw288_2), ((HB.out.cell (World.block_lt_of_cell? w _ hw288_3)).trans hw288_3), ((HB.out.cell (World.block_lt_of_cell? w _ hw288_4)).trans hw288_4), ((HB.out.cell (World.block_lt_of_cell? w _ hw289_0)).trans hw289_0), ((HB.out.cell (World.block_lt_of_cell? w _ hw289_1)).trans hw289_1), ((HB.out.cell (World.block_lt_of_cell? w _ hw289_2)).trans hw289_2), ((HB.out.cell (World.block_lt_of_cell? w _ hw289_3)).trans hw289_3), ((HB.out.cell (World.block_lt_of_cell? w _ hw289_4)).trans hw289_4)⟩ (fun hHeld => ?_); refine with_tabW laws_prPlaced.tab12 laws_prPlaced.bits12 (fun HT_ HW_ => ?_)
                            generalize wr.drew = w43 at BK284 BK285 HB HR288_3 HR288_4 HR289_3 HR289_4 hx288_0 hx288_1 hx288_2 hx288_3 hx288_4 hx289_0 hx289_1 hx289_2 hx289_3 hx289_4 hHeld ⊢
                            refine pure_ (i := 0) (N := some 68) (v := ?_) (a' := ?_) #[true, false, false, false, false, false, false, false, false, false, false, false] rfl rfl (any_of HT_.out (by kernel_rfl)) (fun _ _ _ h => h) (Or.inl ⟨by rfl, ?_⟩) ?_ ?_
                            rotate_left
                            · intro w'
                              go_simp
                              with_reducible rfl
                            rotate_left
                            · simp only [Act.put, List.setIfInBounds_toArray, List.set_cons_zero, List.set_cons_succ, i64_w, i32_w]
                              rfl
                            refine pure_ (i := 2) (N := some 70) (v := ?_) (a' := ?_) #[true, false, true, false, false, false, false, false, false, false, false, false] rfl rfl (any_of HT_.out (by kernel_rfl)) (fun _ _ _ h => h) (Or.inl ⟨by rfl, ?_⟩) ?_ ?_
                            rotate_left
                            · intro w'
                              go_simp
                              with_reducible rfl
                            rotate_left
                            · simp only [Act.put, List.setIfInBounds_toArray, List.set_cons_zero, List.set_cons_succ, i64_w, i32_w]
                              rfl
                            refine pure_ (i := 5) (N := some 73) (v := ?_) (a' := ?_) #[true, false, true, false, false, true, false, false, false, false, false, false] rfl rfl (any_of HT_.out (by kernel_rfl)) (fun _ _ _ h => h) (Or.inl ⟨by rfl, ?_⟩) ?_ ?_
                            rotate_left
                            · intro w'
                              go_simp
                              with_reducible rfl
                            rotate_left
                            · simp only [Act.put, List.setIfInBounds_toArray, List.set_cons_zero, List.set_cons_succ, i64_w, i32_w]
                              rfl
                            refine pure_ (i := 7) (N := some 75) (v := ?_) (a' := ?_) #[true, false, true, false, false, true, false, true, false, false, false, false] rfl rfl (any_of HT_.out (by kernel_rfl)) (fun _ _ _ h => h) (Or.inl ⟨by rfl, ?_⟩) ?_ ?_
                            rotate_left
                            · intro w'
                              go_simp
                              with_reducible rfl
                            rotate_left
                            · simp only [Act.put, List.setIfInBounds_toArray, List.set_cons_zero, List.set_cons_succ, i64_w, i32_w]
                              rfl
                            refine take_ (i := 1) (N := some 69) (v := ?_) (a' := ?_) #[true, true, true, false, false, true, false, true, false, false, false, false] rfl rfl (take_ofW HT_.out HW_.out (by kernel_rfl)) (fun _ _ _ h => h) (Or.inl ⟨by rfl, ?_⟩) hHeld ?_ ?_
                            rotate_left
                            · rintro w' ⟨s0, s1, s2, s3, s4, s5, s6, s7, s8, s9, s10, s11, s12, s13, s14, s15, s16, s17, s18, s19⟩
                              go_simp
                              with_reducible rfl
                            rotate_left
                            · simp only [Act.put, List.setIfInBounds_toArray, List.set_cons_zero, List.set_cons_succ, i64_w, i32_w]
                              rfl
                            refine pure_ (i := 3) (N := some 71) (v := ?_) (a' := ?_) #[true, true, true, true, false, true, false, true, false, false, false, false] rfl rfl (any_of HT_.out (by kernel_rfl)) (fun _ _ _ h => h) (Or.inl ⟨by rfl, ?_⟩) ?_ ?_
                            rotate_left
                            · intro w'
                              go_simp
                              with_reducible rfl
                            rotate_left
                            · simp only [Act.put, List.setIfInBounds_toArray, List.set_cons_zero, List.set_cons_succ, i64_w, i32_w]
                              rfl
                            refine take_ (i := 4) (N := some 72) (v := ?_) (a' := ?_) #[true, true, true, true, true, true, false, true, false, false, false, false] rfl rfl (take_ofW HT_.out HW_.out (by kernel_rfl)) (fun _ _ _ h => h) (Or.inl ⟨by rfl, ?_⟩) hHeld ?_ ?_
                            rotate_left
                            · rintro w' ⟨s0, s1, s2, s3, s4, s5, s6, s7, s8, s9, s10, s11, s12, s13, s14, s15, s16, s17, s18, s19⟩
                              go_simp
                              with_reducible rfl
                            rotate_left
                            · simp only [Act.put, List.setIfInBounds_toArray, List.set_cons_zero, List.set_cons_succ, i64_w, i32_w]
                              rfl
                            refine take_ (i := 6) (N := some 74) (v := ?_) (a' := ?_) #[true, true, true, true, true, true, true, true, false, false, false, false] rfl rfl (take_ofW HT_.out HW_.out (by kernel_rfl)) (fun _ _ _ h => h) (Or.inl ⟨by rfl, ?_⟩) hHeld ?_ ?_
                            rotate_left
                            · rintro w' ⟨s0, s1, s2, s3, s4, s5, s6, s7, s8, s9, s10, s11, s12, s13, s14, s15, s16, s17, s18, s19⟩
                              go_simp
                              with_reducible rfl
                            rotate_left
                            · simp only [Act.put, List.setIfInBounds_toArray, List.set_cons_zero, List.set_cons_succ, i64_w, i32_w]
                              rfl
                            refine pure_ (i := 8) (N := some 76) (v := ?_) (a' := ?_) #[true, true, true, true, true, true, true, true, true, false, false, false] rfl rfl (any_of HT_.out (by kernel_rfl)) (fun _ _ _ h => h) (Or.inl ⟨by rfl, ?_⟩) ?_ ?_
                            rotate_left
                            · intro w'
                              go_simp
                              with_reducible rfl
                            rotate_left
                            · simp only [Act.put, List.setIfInBounds_toArray, List.set_cons_zero, List.set_cons_succ, i64_w, i32_w]
                              rfl
                            refine take_ (i := 9) (N := some 77) (v := ?_) (a' := ?_) #[true, true, true, true, true, true, true, true, true, true, false, false] rfl rfl (take_ofW HT_.out HW_.out (by kernel_rfl)) (fun _ _ _ h => h) (Or.inl ⟨by rfl, ?_⟩) hHeld ?_ ?_
                            rotate_left
                            · rintro w' ⟨s0, s1, s2, s3, s4, s5, s6, s7, s8, s9, s10, s11, s12, s13, s14, s15, s16, s17, s18, s19⟩
                              go_simp
                              with_reducible rfl
                            rotate_left
                            · simp only [Act.put, List.setIfInBounds_toArray, List.set_cons_zero, List.set_cons_succ, i64_w, i32_w]
                              rfl
                            refine one_ (i := 10) (N := some 78) #[true, true, true, true, true, true, true, true, true, true, true, false] rfl rfl (one_of HT_.out (by kernel_rfl)) (by decide) (fun K hK => ?_)
                            refine goes_ Try.func11 (by kernel_rfl) rfl #[.agg #[.int .i64 ((rd_T37 l0_4 x65_3).f0), .int .i64 ((rd_T37 l0_4 x65_3).f1), .int .i64 ((rd_T37 l0_4 x65_3).f2), .slice A288_3 ((rd_T37 l0_4 x65_3).f3).length c288_3, .slice A288_4 ((rd_T37 l0_4 x65_3).f4).length c288_4], .agg #[.int .i64 ((rd_T37 l1_4 x65_3).f0), .int .i64 ((rd_T37 l1_4 x65_3).f1), .int .i64 ((rd_T37 l1_4 x65_3).f2), .slice A289_3 ((rd_T37 l1_4 x65_3).f3).length c289_3, .slice A289_4 ((rd_T37 l1_4 x65_3).f4).length c289_4]] (by rfl) rfl rfl (by (try simp only [List.map_toArray, List.map_cons, List.map_nil]); first | done | rfl | (simp only [List.length_drop, List.length_take]; rfl)) ?_
                            with_reducible refine (ih k3 (by have := HJ2.out; have := HK2.out; have := HK3.out; omega) ((rd_T37 l0_4 x65_3).f0) ((rd_T37 l0_4 x65_3).f1) ((rd_T37 l0_4 x65_3).f2) _ _ ((rd_T37 l0_4 x65_3).f3) _ _ ((rd_T37 l0_4 x65_3).f4) ((rd_T37 l1_4 x65_3).f0) ((rd_T37 l1_4 x65_3).f1) ((rd_T37 l1_4 x65_3).f2) _ _ ((rd_T37 l1_4 x65_3).f3) _ _ ((rd_T37 l1_4 x65_3).f4) true _ ?side1 ?side2 ?side3 ?side4 ?side5 ?side6 ?side7 ?side8 A41.out).mono ?_
                            (case side1 => repeat (first | exact (Kd.C_below HR288_3.out HB.out) | (with_reducible refine Kd.C_alloc ?_ _) | (with_reducible refine Kd.C_drewN ?_ _) | (with_reducible refine Kd.C_drew ?_)))
                            (case side2 => exact HC288_3.out)
                            (case side3 => repeat (first | exact (Kd.C_below HR288_4.out HB.out) | (with_reducible refine Kd.C_alloc ?_ _) | (with_reducible refine Kd.C_drewN ?_ _) | (with_reducible refine Kd.C_drew ?_)))
                            (case side4 => exact HC288_4.out)
                            (case side5 => repeat (first | exact (Kd.C_below HR289_3.out HB.out) | (with_reducible refine Kd.C_alloc ?_ _) | (with_reducible refine Kd.C_drewN ?_ _) | (with_reducible refine Kd.C_drew ?_)))
                            (case side6 => exact HC289_3.out)
                            (case side7 => repeat (first | exact (Kd.C_below HR289_4.out HB.out) | (with_reducible refine Kd.C_alloc ?_ _) | (with_reducible refine Kd.C_drewN ?_ _) | (with_reducible refine Kd.C_drew ?_)))
                            (case side8 => exact HC289_4.out)
                            rintro e w44 ⟨rfl, hb⟩
                            refine ⟨_, rfl, ?_⟩
                            have n0_ := Aside0.mk (blk_below (g := gb284) (o := .cells #[.int .i64 a0_0, .int .i64 a0_1, .int .i64 a0_2, .slice A0_3 l0_3.length c0_3, .slice (some ad288) l0_4.length c0_4] 37 (0, 0)) (by (with_reducible repeat (first | refine blk_drewN ?_ _ | refine blk_drew ?_ | refine blk_alloc ?_ _)); exact BK284.out) hb)
                            have n1_ := Aside0.mk (blk_below (g := gb285) (o := .cells #[.int .i64 a1_0, .int .i64 a1_1, .int .i64 a1_2, .slice A1_3 l1_3.length c1_3, .slice (some ad289) l1_4.length c1_4] 37 (0, 0)) (by (with_reducible repeat (first | refine blk_drewN ?_ _ | refine blk_drew ?_ | refine blk_alloc ?_ _)); exact BK285.out) hb)
                            have n2_ := Aside0.mk (below_step (by repeat (first | (with_reducible first | exact HB.out | apply below_alloc | apply pw_below_drewN | apply below_drew1 | refine below_set ?_ GE284.out | refine below_set ?_ GE285.out) | exact HB.out)) hb)
                            clear BK284
                            clear BK285
                            clear HB
                            have BK284 := n0_
                            have BK285 := n1_
                            have HB := n2_
                            clear n0_ n1_ n2_
                            (try clear hb)
                            (try clear hb2)
                            (try clear hk)
                            (try clear hi)
                            refine hK.out _ _ ⟨(blk_cell BK284.out 0).trans rfl, (blk_cell BK284.out 1).trans rfl, (blk_cell BK284.out 2).trans rfl, (blk_cell BK284.out 3).trans rfl, (blk_cell BK284.out 4).trans rfl, (blk_cell BK285.out 0).trans rfl, (blk_cell BK285.out 1).trans rfl, (blk_cell BK285.out 2).trans rfl, (blk_cell BK285.out 3).trans rfl, (blk_cell BK285.out 4).trans rfl, ((HB.out.cell (World.block_lt_of_cell? w _ hw288_0)).trans hw288_0), ((HB.out.cell (World.block_lt_of_cell? w _ hw288_1)).trans hw288_1), ((HB.out.cell (World.block_lt_of_cell? w _ hw288_2)).trans hw288_2), ((HB.out.cell (World.block_lt_of_cell? w _ hw288_3)).trans hw288_3), ((HB.out.cell (World.block_lt_of_cell? w _ hw288_4)).trans hw288_4), ((HB.out.cell (World.block_lt_of_cell? w _ hw289_0)).trans hw289_0), ((HB.out.cell (World.block_lt_of_cell? w _ hw289_1)).trans hw289_1), ((HB.out.cell (World.block_lt_of_cell? w _ hw289_2)).trans hw289_2), ((HB.out.cell (World.block_lt_of_cell? w _ hw289_3)).trans hw289_3), ((HB.out.cell (World.block_lt_of_cell? w _ hw289_4)).trans hw289_4)⟩ (fun hHeld => ?_)
                            clear hK K
                            refine norm_ (a' := ?_) ?_ ?_
                            rotate_left
                            · show Act.put _ (some 78) _ = _
                              simp only [Act.put, List.setIfInBounds_toArray, List.set_cons_zero, List.set_cons_succ, i64_w, i32_w]
                              rfl
                            refine pure_ (i := 11) (N := some 79) (v := ?_) (a' := ?_) #[true, true, true, true, true, true, true, true, true, true, true, true] rfl rfl (any_of HT_.out (by kernel_rfl)) (fun _ _ _ h => h) (Or.inl ⟨by rfl, ?_⟩) ?_ ?_
                            rotate_left
                            · intro w'
                              go_simp
                              with_reducible rfl
                            rotate_left
                            · simp only [Act.put, List.setIfInBounds_toArray, List.set_cons_zero, List.set_cons_succ, i64_w, i32_w]
                              rfl
                            refine done_ (done_of HT_.out (by kernel_rfl)) ?_
                            try go_wp2
                            go_roundg k3
                            case measure => have := HJ2.out; have := HK2.out; have := HK3.out; omega
                            case rel => exact ⟨(wrap64 (x65_3 + 1)), (by first | rfl | (simp; done) | (simp [*]; done)), H', ⟨by have := HJ2.out; have := HK2.out; have := HK3.out; omega⟩, ⟨by (with_reducible repeat (first | refine blk_drewN ?_ _ | refine blk_drew ?_ | refine blk_alloc ?_ _)); exact BK284.out⟩, ⟨by (with_reducible repeat (first | refine blk_drewN ?_ _ | refine blk_drew ?_ | refine blk_alloc ?_ _)); exact BK285.out⟩, ⟨by repeat (first | (with_reducible first | exact HB.out | apply below_alloc | apply pw_below_drewN | apply below_drew1 | refine below_set ?_ GE284.out | refine below_set ?_ GE285.out) | exact HB.out)⟩⟩
                          · replace c42 := Bool.eq_false_iff.mpr c42
                            subst c42
                            have H1 : (some false) = some r := by rw [if_neg (show ¬ (false = true) by decide)] at H; exact H
                            clear H
                            have H := H1
                            clear H1
                            obtain rfl := Option.some.inj H
                            try go_wp2
                            have n0_ := Aside0.mk (blk_drew BK284.out)
                            have n1_ := Aside0.mk (blk_drew BK285.out)
                            have n2_ := Aside0.mk (below_drew1 HB.out)
                            clear BK284
                            clear BK285
                            clear HB
                            have BK284 := n0_
                            have BK285 := n1_
                            have HB := n2_
                            clear n0_ n1_ n2_
                            have p288 : 0 ≤ (x65_3 : Int) := of_decide_eq_true (by first | (with_reducible assumption) | assumption)
                            have q288 : x65_3 < (l0_4.length : Int) := of_decide_eq_true (by first | (with_reducible assumption) | assumption)
                            obtain ⟨ad288, A288_3, c288_3, A288_4, c288_4, e288, hx288_0, hx288_1, hx288_2, hx288_3, hx288_4, hl288_3, hi288_3, hl288_4, hi288_4⟩ := at_T37 HR0_4.out x65_3 p288 q288
                            have hw288_4 := hx288_4
                            have hw288_3 := hx288_3
                            have hw288_2 := hx288_2
                            have hw288_1 := hx288_1
                            have hw288_0 := hx288_0
                            cases e288
                            replace hx288_0 := (HB.out.cell (World.block_lt_of_cell? w _ hx288_0)).trans hx288_0
                            replace hx288_1 := (HB.out.cell (World.block_lt_of_cell? w _ hx288_1)).trans hx288_1
                            replace hx288_2 := (HB.out.cell (World.block_lt_of_cell? w _ hx288_2)).trans hx288_2
                            replace hx288_3 := (HB.out.cell (World.block_lt_of_cell? w _ hx288_3)).trans hx288_3
                            replace hx288_4 := (HB.out.cell (World.block_lt_of_cell? w _ hx288_4)).trans hx288_4
                            have HR288_3 := Aside0.mk hi288_3
                            have HC288_3 := Aside0.mk hl288_3
                            clear hi288_3 hl288_3
                            have HR288_4 := Aside0.mk hi288_4
                            have HC288_4 := Aside0.mk hl288_4
                            clear hi288_4 hl288_4
                            replace p288 := eq_true p288
                            replace q288 := eq_true q288
                            have p289 : 0 ≤ (x65_3 : Int) := of_decide_eq_true (by first | (with_reducible assumption) | assumption)
                            have q289 : x65_3 < (l1_4.length : Int) := of_decide_eq_true (by first | (with_reducible assumption) | assumption)
                            obtain ⟨ad289, A289_3, c289_3, A289_4, c289_4, e289, hx289_0, hx289_1, hx289_2, hx289_3, hx289_4, hl289_3, hi289_3, hl289_4, hi289_4⟩ := at_T37 HR1_4.out x65_3 p289 q289
                            have hw289_4 := hx289_4
                            have hw289_3 := hx289_3
                            have hw289_2 := hx289_2
                            have hw289_1 := hx289_1
                            have hw289_0 := hx289_0
                            cases e289
                            replace hx289_0 := (HB.out.cell (World.block_lt_of_cell? w _ hx289_0)).trans hx289_0
                            replace hx289_1 := (HB.out.cell (World.block_lt_of_cell? w _ hx289_1)).trans hx289_1
                            replace hx289_2 := (HB.out.cell (World.block_lt_of_cell? w _ hx289_2)).trans hx289_2
                            replace hx289_3 := (HB.out.cell (World.block_lt_of_cell? w _ hx289_3)).trans hx289_3
                            replace hx289_4 := (HB.out.cell (World.block_lt_of_cell? w _ hx289_4)).trans hx289_4
                            have HR289_3 := Aside0.mk hi289_3
                            have HC289_3 := Aside0.mk hl289_3
                            clear hi289_3 hl289_3
                            have HR289_4 := Aside0.mk hi289_4
                            have HC289_4 := Aside0.mk hl289_4
                            clear hi289_4 hl289_4
                            replace p289 := eq_true p289
                            replace q289 := eq_true q289
                            refine start_ (n := 12) (S := fun w' => w'.cell? ⟨gb284, 0, none⟩ = some (.int .i64 a0_0) ∧ w'.cell? ⟨gb284, 1, none⟩ = some (.int .i64 a0_1) ∧ w'.cell? ⟨gb284, 2, none⟩ = some (.int .i64 a0_2) ∧ w'.cell? ⟨gb284, 3, none⟩ = some (.slice A0_3 l0_3.length c0_3) ∧ w'.cell? ⟨gb284, 4, none⟩ = some (.slice (some ad288) l0_4.length c0_4) ∧ w'.cell? ⟨gb285, 0, none⟩ = some (.int .i64 a1_0) ∧ w'.cell? ⟨gb285, 1, none⟩ = some (.int .i64 a1_1) ∧ w'.cell? ⟨gb285, 2, none⟩ = some (.int .i64 a1_2) ∧ w'.cell? ⟨gb285, 3, none⟩ = some (.slice A1_3 l1_3.length c1_3) ∧ w'.cell? ⟨gb285, 4, none⟩ = some (.slice (some ad289) l1_4.length c1_4) ∧ w'.cell? (ad288.add ((x65_3).toNat * 5)) = some (.int .i64 ((rd_T37 l0_4 x65_3).f0)) ∧ w'.cell? ⟨(ad288.add ((x65_3).toNat * 5)).block, (ad288.add ((x65_3).toNat * 5)).off + 1, none⟩ = some (.int .i64 ((rd_T37 l0_4 x65_3).f1)) ∧ w'.cell? ⟨(ad288.add ((x65_3).toNat * 5)).block, (ad288.add ((x65_3).toNat * 5)).off + 2, none⟩ = some (.int .i64 ((rd_T37 l0_4 x65_3).f2)) ∧ w'.cell? ⟨(ad288.add ((x65_3).toNat * 5)).block, (ad288.add ((x65_3).toNat * 5)).off + 3, none⟩ = some (.slice A288_3 ((rd_T37 l0_4 x65_3).f3).length c288_3) ∧ w'.cell? ⟨(ad288.add ((x65_3).toNat * 5)).block, (ad288.add ((x65_3).toNat * 5)).off + 4, none⟩ = some (.slice A288_4 ((rd_T37 l0_4 x65_3).f4).length c288_4) ∧ w'.cell? (ad289.add ((x65_3).toNat * 5)) = some (.int .i64 ((rd_T37 l1_4 x65_3).f0)) ∧ w'.cell? ⟨(ad289.add ((x65_3).toNat * 5)).block, (ad289.add ((x65_3).toNat * 5)).off + 1, none⟩ = some (.int .i64 ((rd_T37 l1_4 x65_3).f1)) ∧ w'.cell? ⟨(ad289.add ((x65_3).toNat * 5)).block, (ad289.add ((x65_3).toNat * 5)).off + 2, none⟩ = some (.int .i64 ((rd_T37 l1_4 x65_3).f2)) ∧ w'.cell? ⟨(ad289.add ((x65_3).toNat * 5)).block, (ad289.add ((x65_3).toNat * 5)).off + 3, none⟩ = some (.slice A289_3 ((rd_T37 l1_4 x65_3).f3).length c289_3) ∧ w'.cell? ⟨(ad289.add ((x65_3).toNat * 5)).block, (ad289.add ((x65_3).toNat * 5)).off + 4, none⟩ = some (.slice A289_4 ((rd_T37 l1_4 x65_3).f4).length c289_4)) (ds := []) #[false, false, false, false, false, false, false, false, false, false, false, false] (by kernel_rfl) rfl rfl ⟨(blk_cell BK284.out 0).trans rfl, (blk_cell BK284.out 1).trans rfl, (blk_cell BK284.out 2).trans rfl, (blk_cell BK284.out 3).trans rfl, (blk_cell BK284.out 4).trans rfl, (blk_cell BK285.out 0).trans rfl, (blk_cell BK285.out 1).trans rfl, (blk_cell BK285.out 2).trans rfl, (blk_cell BK285.out 3).trans rfl, (blk_cell BK285.out 4).trans rfl, ((HB.out.cell (World.block_lt_of_cell? w _ hw288_0)).trans hw288_0), ((HB.out.cell (World.block_lt_of_cell? w _ hw288_1)).trans hw288_1), ((HB.out.cell (World.block_lt_of_cell? w _ hw288_2)).trans hw288_2), ((HB.out.cell (World.block_lt_of_cell? w _ hw288_3)).trans hw288_3), ((HB.out.cell (World.block_lt_of_cell? w _ hw288_4)).trans hw288_4), ((HB.out.cell (World.block_lt_of_cell? w _ hw289_0)).trans hw289_0), ((HB.out.cell (World.block_lt_of_cell? w _ hw289_1)).trans hw289_1), ((HB.out.cell (World.block_lt_of_cell? w _ hw289_2)).trans hw289_2), ((HB.out.cell (World.block_lt_of_cell? w _ hw289_3)).trans hw289_3), ((HB.out.cell (World.block_lt_of_cell? w _ hw289_4)).trans hw289_4)⟩ (fun hHeld => ?_); refine with_tabW laws_prPlaced.tab12 laws_prPlaced.bits12 (fun HT_ HW_ => ?_)
                            generalize wr.drew = w45 at BK284 BK285 HB HR288_3 HR288_4 HR289_3 HR289_4 hx288_0 hx288_1 hx288_2 hx288_3 hx288_4 hx289_0 hx289_1 hx289_2 hx289_3 hx289_4 hHeld ⊢
                            refine pure_ (i := 0) (N := some 68) (v := ?_) (a' := ?_) #[true, false, false, false, false, false, false, false, false, false, false, false] rfl rfl (any_of HT_.out (by kernel_rfl)) (fun _ _ _ h => h) (Or.inl ⟨by rfl, ?_⟩) ?_ ?_
                            rotate_left
                            · intro w'
                              go_simp
                              with_reducible rfl
                            rotate_left
                            · simp only [Act.put, List.setIfInBounds_toArray, List.set_cons_zero, List.set_cons_succ, i64_w, i32_w]
                              rfl
                            refine pure_ (i := 2) (N := some 70) (v := ?_) (a' := ?_) #[true, false, true, false, false, false, false, false, false, false, false, false] rfl rfl (any_of HT_.out (by kernel_rfl)) (fun _ _ _ h => h) (Or.inl ⟨by rfl, ?_⟩) ?_ ?_
                            rotate_left
                            · intro w'
                              go_simp
                              with_reducible rfl
                            rotate_left
                            · simp only [Act.put, List.setIfInBounds_toArray, List.set_cons_zero, List.set_cons_succ, i64_w, i32_w]
                              rfl
                            refine pure_ (i := 5) (N := some 73) (v := ?_) (a' := ?_) #[true, false, true, false, false, true, false, false, false, false, false, false] rfl rfl (any_of HT_.out (by kernel_rfl)) (fun _ _ _ h => h) (Or.inl ⟨by rfl, ?_⟩) ?_ ?_
                            rotate_left
                            · intro w'
                              go_simp
                              with_reducible rfl
                            rotate_left
                            · simp only [Act.put, List.setIfInBounds_toArray, List.set_cons_zero, List.set_cons_succ, i64_w, i32_w]
                              rfl
                            refine pure_ (i := 7) (N := some 75) (v := ?_) (a' := ?_) #[true, false, true, false, false, true, false, true, false, false, false, false] rfl rfl (any_of HT_.out (by kernel_rfl)) (fun _ _ _ h => h) (Or.inl ⟨by rfl, ?_⟩) ?_ ?_
                            rotate_left
                            · intro w'
                              go_simp
                              with_reducible rfl
                            rotate_left
                            · simp only [Act.put, List.setIfInBounds_toArray, List.set_cons_zero, List.set_cons_succ, i64_w, i32_w]
                              rfl
                            refine take_ (i := 1) (N := some 69) (v := ?_) (a' := ?_) #[true, true, true, false, false, true, false, true, false, false, false, false] rfl rfl (take_ofW HT_.out HW_.out (by kernel_rfl)) (fun _ _ _ h => h) (Or.inl ⟨by rfl, ?_⟩) hHeld ?_ ?_
                            rotate_left
                            · rintro w' ⟨s0, s1, s2, s3, s4, s5, s6, s7, s8, s9, s10, s11, s12, s13, s14, s15, s16, s17, s18, s19⟩
                              go_simp
                              with_reducible rfl
                            rotate_left
                            · simp only [Act.put, List.setIfInBounds_toArray, List.set_cons_zero, List.set_cons_succ, i64_w, i32_w]
                              rfl
                            refine pure_ (i := 3) (N := some 71) (v := ?_) (a' := ?_) #[true, true, true, true, false, true, false, true, false, false, false, false] rfl rfl (any_of HT_.out (by kernel_rfl)) (fun _ _ _ h => h) (Or.inl ⟨by rfl, ?_⟩) ?_ ?_
                            rotate_left
                            · intro w'
                              go_simp
                              with_reducible rfl
                            rotate_left
                            · simp only [Act.put, List.setIfInBounds_toArray, List.set_cons_zero, List.set_cons_succ, i64_w, i32_w]
                              rfl
                            refine take_ (i := 4) (N := some 72) (v := ?_) (a' := ?_) #[true, true, true, true, true, true, false, true, false, false, false, false] rfl rfl (take_ofW HT_.out HW_.out (by kernel_rfl)) (fun _ _ _ h => h) (Or.inl ⟨by rfl, ?_⟩) hHeld ?_ ?_
                            rotate_left
                            · rintro w' ⟨s0, s1, s2, s3, s4, s5, s6, s7, s8, s9, s10, s11, s12, s13, s14, s15, s16, s17, s18, s19⟩
                              go_simp
                              with_reducible rfl
                            rotate_left
                            · simp only [Act.put, List.setIfInBounds_toArray, List.set_cons_zero, List.set_cons_succ, i64_w, i32_w]
                              rfl
                            refine take_ (i := 6) (N := some 74) (v := ?_) (a' := ?_) #[true, true, true, true, true, true, true, true, false, false, false, false] rfl rfl (take_ofW HT_.out HW_.out (by kernel_rfl)) (fun _ _ _ h => h) (Or.inl ⟨by rfl, ?_⟩) hHeld ?_ ?_
                            rotate_left
                            · rintro w' ⟨s0, s1, s2, s3, s4, s5, s6, s7, s8, s9, s10, s11, s12, s13, s14, s15, s16, s17, s18, s19⟩
                              go_simp
                              with_reducible rfl
                            rotate_left
                            · simp only [Act.put, List.setIfInBounds_toArray, List.set_cons_zero, List.set_cons_succ, i64_w, i32_w]
                              rfl
                            refine pure_ (i := 8) (N := some 76) (v := ?_) (a' := ?_) #[true, true, true, true, true, true, true, true, true, false, false, false] rfl rfl (any_of HT_.out (by kernel_rfl)) (fun _ _ _ h => h) (Or.inl ⟨by rfl, ?_⟩) ?_ ?_
                            rotate_left
                            · intro w'
                              go_simp
                              with_reducible rfl
                            rotate_left
                            · simp only [Act.put, List.setIfInBounds_toArray, List.set_cons_zero, List.set_cons_succ, i64_w, i32_w]
                              rfl
                            refine take_ (i := 9) (N := some 77) (v := ?_) (a' := ?_) #[true, true, true, true, true, true, true, true, true, true, false, false] rfl rfl (take_ofW HT_.out HW_.out (by kernel_rfl)) (fun _ _ _ h => h) (Or.inl ⟨by rfl, ?_⟩) hHeld ?_ ?_
                            rotate_left
                            · rintro w' ⟨s0, s1, s2, s3, s4, s5, s6, s7, s8, s9, s10, s11, s12, s13, s14, s15, s16, s17, s18, s19⟩
                              go_simp
                              with_reducible rfl
                            rotate_left
                            · simp only [Act.put, List.setIfInBounds_toArray, List.set_cons_zero, List.set_cons_succ, i64_w, i32_w]
                              rfl
                            refine one_ (i := 10) (N := some 78) #[true, true, true, true, true, true, true, true, true, true, true, false] rfl rfl (one_of HT_.out (by kernel_rfl)) (by decide) (fun K hK => ?_)
                            refine goes_ Try.func11 (by kernel_rfl) rfl #[.agg #[.int .i64 ((rd_T37 l0_4 x65_3).f0), .int .i64 ((rd_T37 l0_4 x65_3).f1), .int .i64 ((rd_T37 l0_4 x65_3).f2), .slice A288_3 ((rd_T37 l0_4 x65_3).f3).length c288_3, .slice A288_4 ((rd_T37 l0_4 x65_3).f4).length c288_4], .agg #[.int .i64 ((rd_T37 l1_4 x65_3).f0), .int .i64 ((rd_T37 l1_4 x65_3).f1), .int .i64 ((rd_T37 l1_4 x65_3).f2), .slice A289_3 ((rd_T37 l1_4 x65_3).f3).length c289_3, .slice A289_4 ((rd_T37 l1_4 x65_3).f4).length c289_4]] (by rfl) rfl rfl (by (try simp only [List.map_toArray, List.map_cons, List.map_nil]); first | done | rfl | (simp only [List.length_drop, List.length_take]; rfl)) ?_
                            with_reducible refine (ih k3 (by have := HJ2.out; have := HK2.out; have := HK3.out; omega) ((rd_T37 l0_4 x65_3).f0) ((rd_T37 l0_4 x65_3).f1) ((rd_T37 l0_4 x65_3).f2) _ _ ((rd_T37 l0_4 x65_3).f3) _ _ ((rd_T37 l0_4 x65_3).f4) ((rd_T37 l1_4 x65_3).f0) ((rd_T37 l1_4 x65_3).f1) ((rd_T37 l1_4 x65_3).f2) _ _ ((rd_T37 l1_4 x65_3).f3) _ _ ((rd_T37 l1_4 x65_3).f4) false _ ?side1 ?side2 ?side3 ?side4 ?side5 ?side6 ?side7 ?side8 A41.out).mono ?_
                            (case side1 => repeat (first | exact (Kd.C_below HR288_3.out HB.out) | (with_reducible refine Kd.C_alloc ?_ _) | (with_reducible refine Kd.C_drewN ?_ _) | (with_reducible refine Kd.C_drew ?_)))
                            (case side2 => exact HC288_3.out)
                            (case side3 => repeat (first | exact (Kd.C_below HR288_4.out HB.out) | (with_reducible refine Kd.C_alloc ?_ _) | (with_reducible refine Kd.C_drewN ?_ _) | (with_reducible refine Kd.C_drew ?_)))
                            (case side4 => exact HC288_4.out)
                            (case side5 => repeat (first | exact (Kd.C_below HR289_3.out HB.out) | (with_reducible refine Kd.C_alloc ?_ _) | (with_reducible refine Kd.C_drewN ?_ _) | (with_reducible refine Kd.C_drew ?_)))
                            (case side6 => exact HC289_3.out)
                            (case side7 => repeat (first | exact (Kd.C_below HR289_4.out HB.out) | (with_reducible refine Kd.C_alloc ?_ _) | (with_reducible refine Kd.C_drewN ?_ _) | (with_reducible refine Kd.C_drew ?_)))
                            (case side8 => exact HC289_4.out)
                            rintro e w46 ⟨rfl, hb⟩
                            refine ⟨_, rfl, ?_⟩
                            have n0_ := Aside0.mk (blk_below (g := gb284) (o := .cells #[.int .i64 a0_0, .int .i64 a0_1, .int .i64 a0_2, .slice A0_3 l0_3.length c0_3, .slice (some ad288) l0_4.length c0_4] 37 (0, 0)) (by (with_reducible repeat (first | refine blk_drewN ?_ _ | refine blk_drew ?_ | refine blk_alloc ?_ _)); exact BK284.out) hb)
                            have n1_ := Aside0.mk (blk_below (g := gb285) (o := .cells #[.int .i64 a1_0, .int .i64 a1_1, .int .i64 a1_2, .slice A1_3 l1_3.length c1_3, .slice (some ad289) l1_4.length c1_4] 37 (0, 0)) (by (with_reducible repeat (first | refine blk_drewN ?_ _ | refine blk_drew ?_ | refine blk_alloc ?_ _)); exact BK285.out) hb)
                            have n2_ := Aside0.mk (below_step (by repeat (first | (with_reducible first | exact HB.out | apply below_alloc | apply pw_below_drewN | apply below_drew1 | refine below_set ?_ GE284.out | refine below_set ?_ GE285.out) | exact HB.out)) hb)
                            clear BK284
                            clear BK285
                            clear HB
                            have BK284 := n0_
                            have BK285 := n1_
                            have HB := n2_
                            clear n0_ n1_ n2_
                            (try clear hb)
                            (try clear hb2)
                            (try clear hk)
                            (try clear hi)
                            refine hK.out _ _ ⟨(blk_cell BK284.out 0).trans rfl, (blk_cell BK284.out 1).trans rfl, (blk_cell BK284.out 2).trans rfl, (blk_cell BK284.out 3).trans rfl, (blk_cell BK284.out 4).trans rfl, (blk_cell BK285.out 0).trans rfl, (blk_cell BK285.out 1).trans rfl, (blk_cell BK285.out 2).trans rfl, (blk_cell BK285.out 3).trans rfl, (blk_cell BK285.out 4).trans rfl, ((HB.out.cell (World.block_lt_of_cell? w _ hw288_0)).trans hw288_0), ((HB.out.cell (World.block_lt_of_cell? w _ hw288_1)).trans hw288_1), ((HB.out.cell (World.block_lt_of_cell? w _ hw288_2)).trans hw288_2), ((HB.out.cell (World.block_lt_of_cell? w _ hw288_3)).trans hw288_3), ((HB.out.cell (World.block_lt_of_cell? w _ hw288_4)).trans hw288_4), ((HB.out.cell (World.block_lt_of_cell? w _ hw289_0)).trans hw289_0), ((HB.out.cell (World.block_lt_of_cell? w _ hw289_1)).trans hw289_1), ((HB.out.cell (World.block_lt_of_cell? w _ hw289_2)).trans hw289_2), ((HB.out.cell (World.block_lt_of_cell? w _ hw289_3)).trans hw289_3), ((HB.out.cell (World.block_lt_of_cell? w _ hw289_4)).trans hw289_4)⟩ (fun hHeld => ?_)
                            clear hK K
                            refine norm_ (a' := ?_) ?_ ?_
                            rotate_left
                            · show Act.put _ (some 78) _ = _
                              simp only [Act.put, List.setIfInBounds_toArray, List.set_cons_zero, List.set_cons_succ, i64_w, i32_w]
                              rfl
                            refine pure_ (i := 11) (N := some 79) (v := ?_) (a' := ?_) #[true, true, true, true, true, true, true, true, true, true, true, true] rfl rfl (any_of HT_.out (by kernel_rfl)) (fun _ _ _ h => h) (Or.inl ⟨by rfl, ?_⟩) ?_ ?_
                            rotate_left
                            · intro w'
                              go_simp
                              with_reducible rfl
                            rotate_left
                            · simp only [Act.put, List.setIfInBounds_toArray, List.set_cons_zero, List.set_cons_succ, i64_w, i32_w]
                              rfl
                            refine done_ (done_of HT_.out (by kernel_rfl)) ?_
                            try go_wp2
                            go_ret
                            exact ⟨by first | rfl | (simp [errW_none, errW_some] <;> rfl) | (simp [*, errW_none, errW_some] <;> rfl), by repeat (first | (with_reducible first | exact HB.out | apply below_alloc | apply pw_below_drewN | apply below_drew1 | refine below_set ?_ GE284.out | refine below_set ?_ GE285.out) | exact HB.out)⟩
                        · rw [if_neg c40] at H
                          exact absurd H (by simp)
                      · rw [if_neg c39] at H
                        exact absurd H (by simp)
                    · rw [if_neg c38] at H
                      exact absurd H (by simp)
                  · rw [if_neg c37] at H
                    have c37b0 : decide (x65_3 < (l0_4.length : Int)) = false := decide_eq_false c37
                    clear c37
                    obtain rfl := Option.some.inj H
                    go_wp2
                    go_ret
                    exact ⟨by first | rfl | (simp [errW_none, errW_some] <;> rfl) | (simp [*, errW_none, errW_some] <;> rfl), by repeat (first | (with_reducible first | exact HB.out | apply below_alloc | apply pw_below_drewN | apply below_drew1 | refine below_set ?_ GE284.out | refine below_set ?_ GE285.out) | exact HB.out)⟩
end Go.Proofs.Ytlllokmipeoelaa.XFnPrSpec
end
section
-- Written by xprint.py of this session (a program that runs the kit's print and adds to it); Lean checks it.
namespace Go.Proofs.Ytlllokmipeoelaa.XFnPrSpec
open Go.RowKit Go.Proofs.YtlllokmipeoelaaW.PrintWords Go.Proofs.YtlllokmipeoelaaW.PrintLast Go.Proofs.YtlllokmipeoelaaW.PrintMore
attribute [local go_sem] max2_int min2_int max_two min_two max_three min_three max_four min_four   -- for this text's walks alone
set_option linter.unusedVariables false
set_option linter.unusedSimpArgs false
--EXT
/-! ### spec_Bare: function 12 (by hand) -/
mutual
def spec_Bare.to : Nat → List Int → ByteArray → S37 → Option (List Int)
  | 0, _, _, _ => none
  | k + 1, out, s, p => if out.length ≤ 1000000000 ∧ p.f4.length ≤ 1000000 then
      (if p.f0 ≠ 5 ∧ p.f0 ≠ 6 then (if 0 ≤ p.f1 ∧ p.f1 ≤ p.f2 ∧ p.f2 ≤ s.size then some (out ++ bytesOf (s.extract p.f1.toNat p.f2.toNat)) else none)
      else (spec_Bare.lp k (out ++ [if p.f0 = 6 then 123 else 91]) s p 0).bind fun o => if o.length ≤ 1000000000 then some (o ++ [if p.f0 = 6 then 125 else 93]) else none) else none
def spec_Bare.lp : Nat → List Int → ByteArray → S37 → Int → Option (List Int)
  | 0, _, _, _, _ => none
  | k + 1, out, s, p, i => if i < (p.f4.length : Int) then (if out.length ≤ 1000000000 then
      (if p.f0 = 6 then (if i < (p.f3.length : Int) then (if 0 ≤ (rd_T46 p.f3 i).f0 ∧ (rd_T46 p.f3 i).f0 ≤ (rd_T46 p.f3 i).f1 ∧ (rd_T46 p.f3 i).f1 ≤ s.size then
          (spec_Bare.to k ((if i > 0 then out ++ [44] else out) ++ bytesOf (s.extract (rd_T46 p.f3 i).f0.toNat (rd_T46 p.f3 i).f1.toNat) ++ [58]) s (rd_T37 p.f4 i)).bind fun o => spec_Bare.lp k o s p (i + 1) else none) else none)
      else (spec_Bare.to k (if i > 0 then out ++ [44] else out) s (rd_T37 p.f4 i)).bind fun o => spec_Bare.lp k o s p (i + 1)) else none) else some out
end
def spec_Bare.f (k : Nat) (a0 : ByteArray) (b0 b1 b2 : Int) (l3 : List S46) (l4 : List S37) : Option ByteArray :=
  if a0.size ≤ 1000000 ∧ l4.length ≤ 1000000 then (spec_Bare.to k [] a0 ⟨b0, b1, b2, l3, l4⟩).map strOfNums else none
/-- What is written so far lies in a row of the call's own. -/
structure spec_Bare.Mk (w wr : World) (vd : Value) (acc : List Int) : Prop where
  own : wr.ownsRow w.heap.size 5 1 vd acc.length (nums .u8 acc)
  bel : Below w.heap.size w wr
/-- Blocks of another type stay. -/
def spec_Bare.Ty (w w' : World) : Prop := ∀ (k : Nat) (cs : Array Value) (t : TypeId) (fz : Nat × Nat), t ≠ 5 → w.heap[k]? = some (.cells cs t fz) → w'.heap[k]? = some (.cells cs t fz)
theorem spec_Bare.Ty.trans {w w1 w2 : World} (h : spec_Bare.Ty w w1) (g : spec_Bare.Ty w1 w2) : spec_Bare.Ty w w2 := fun k cs t fz ht hk => g k cs t fz ht (h k cs t fz ht hk)
theorem spec_Bare.Ty.below {w w1 : World} (h : Below w.heap.size w w1) : spec_Bare.Ty w w1 := fun k cs t fz _ hk => by
  have hl : k < w.heap.size := by
    refine Nat.lt_of_not_le fun hle => ?_
    rw [Array.getElem?_eq_none hle] at hk
    cases hk
  exact (h.block k hl).trans hk
theorem spec_Bare.Ty.grown {w w1 : World} {base n : Nat} {v : Value} {xs : List Value} (ho : w.ownsRow base 5 1 v n xs) (hg : w.grownBy w1 v.ownBlock) : spec_Bare.Ty w w1 := fun k cs t fz ht hk => by
  have hl : k < w.heap.size := by
    refine Nat.lt_of_not_le fun hle => ?_
    rw [Array.getElem?_eq_none hle] at hk
    cases hk
  refine (hg.block k hl fun e => ?_).trans hk
  rcases ho.2 with ⟨rfl, _⟩ | ⟨g, cap, cur, rfl, _, hh, _⟩
  · simp [Value.ownBlock] at e
  · simp only [Value.ownBlock, Option.some.injEq] at e
    subst e
    rw [hk] at hh
    injection hh with hh
    injection hh with _ h2 _
    exact ht h2
variable {P : Program} {ops : Array Oper} {o : Oper} {a : Act} {Q : Exit → Act → World → Prop} {K : Act → World → Prop} in
theorem spec_Bare.step_str {E : Prop} {w0 W : World} (base : Nat) (hgd : o.guard = none) (s x : Operand) (t u e : TypeId)
    (ho : o.op = .call { callee := .builtin .append, args := #[s, x], argTypes := #[t, u] })
    (ht : P.underlying t = some (.slice e)) (hu : P.underlying u = some .string) (hinfo : (P.info? e).map (fun i => (i.zero, i.size, i.bytes)) = some (some (.int .u8 0), 1, 1))
    (v : Value) (xs : List Int) (y : ByteArray) (hs : a.eval s = v) (hx : a.eval x = .string y)
    (HO : W.ownsRow base e 1 v xs.length (nums .u8 xs)) (HB : Below base w0 W) (hbase : base ≤ W.heap.size) (hl : xs.length + y.size ≤ 140737488355328)
    (h : ∀ v1 w1, w1.ownsRow base e 1 v1 (xs ++ bytesOf y).length (nums .u8 (xs ++ bytesOf y)) → Below base w0 w1 → W.grownBy w1 v.ownBlock → K (a.put o.dst v1) w1) :
    if Region.wanted o (yielded ops a.tmps) = true then Oper.wp P o a W K Q else E := by
  have hw : Region.wanted o (yielded ops a.tmps) = true := by simp [Region.wanted, hgd]
  obtain ⟨i0, hi, hzz⟩ := Option.map_eq_some_iff.1 hinfo
  simp only [Prod.mk.injEq] at hzz
  obtain ⟨hz0, hz1, hz2⟩ := hzz
  obtain ⟨v1, w1, hr, hown, hg, _⟩ := Lib.run_append_own_string (P := P) W base t u o.type e i0 ht hu hi hz0 hz1 hz2 v xs.length (nums .u8 xs) HO y (by simp only [maxLen]; omega) hl hbase
  rw [if_pos hw]
  have hl2 : (xs ++ bytesOf y).length = xs.length + y.size := by rw [List.length_append, bytesOf_length]
  have hc : nums .u8 (xs ++ bytesOf y) = nums .u8 xs ++ Lib.strCells y := by
    rw [nums_append]
    congr 1
    simp [nums, bytesOf, Lib.strCells]
  unfold Oper.wp execOp
  simp only [ho, resolve, invoke, builtin, Sem.run_bind, Sem.run_pure, Result.andThen_ok, List.map_toArray, List.map_cons, List.map_nil, hs, hx, hr]
  exact h v1 w1 (by rw [hl2, hc]; exact hown) (HB.grown hg hbase (own_base HO)) hg
theorem spec_Bare.info8 : (Try.prog.info? 5).map (fun i => (i.zero, i.size, i.bytes)) = some (some (.int .u8 0), 1, 1) := by kernel_rfl
set_option maxHeartbeats 16000000 in
set_option maxRecDepth 100000 in
theorem spec_Bare.to_calls (s : ByteArray) (hs : s.size ≤ 1000000) (w0 : World) (k : Nat) : ∀ (out : List Int) (p : S37) (v : Value) (A3 : Option Addr) (c3 : Nat) (A4 : Option Addr) (c4 : Nat) (r : List Int) (w : World) (hm : spec_Bare.Mk w0 w v out)
    (h3 : Kd.C k46 w0 A3 p.f3.length p.f3) (hc3 : p.f3.length ≤ c3) (h4 : Kd.C k37 w0 A4 p.f4.length p.f4) (hc4 : p.f4.length ≤ c4) (h : spec_Bare.to k out s p = some r),
    Calls Try.prog 17 #[v, .string s, .agg #[.int .i64 p.f0, .int .i64 p.f1, .int .i64 p.f2, .slice A3 p.f3.length c3, .slice A4 p.f4.length c4]] w fun e w' => ∃ v', e = .returned v' ∧ spec_Bare.Mk w0 w' v' r ∧ spec_Bare.Ty w w' := by
  induction k using Nat.strongRecOn with
  | _ k ih =>
  intro out p v A3 c3 A4 c4 r w hm h3 hc3 h4 hc4 h
  cases k with
  | zero => simp [spec_Bare.to] at h
  | succ k =>
  rw [spec_Bare.to] at h
  have hol : out.length ≤ 1000000000 ∧ p.f4.length ≤ 1000000 := by
    by_cases c : out.length ≤ 1000000000 ∧ p.f4.length ≤ 1000000
    · exact c
    · rw [if_neg c] at h; cases h
  rw [if_pos hol] at h
  have HM := Aside0.mk hm
  have HR3 := Aside0.mk h3
  have HC3 := Aside0.mk hc3
  have HR4 := Aside0.mk h4
  have HC4 := Aside0.mk hc4
  have HOL := Aside0.mk hol
  have hu37 := Try.underlying37
  clear hm h3 hc3 h4 hc4 hol
  by_cases ck : p.f0 ≠ 5 ∧ p.f0 ≠ 6
  · rw [if_pos ck] at h
    by_cases cr : 0 ≤ p.f1 ∧ p.f1 ≤ p.f2 ∧ p.f2 ≤ (s.size : Int)
    · rw [if_pos cr] at h
      obtain rfl := Option.some.inj h
      clear h ih
      have e5 : (p.f0 != 5) = true := bne_iff_ne.mpr ck.1
      have e6 : (p.f0 != 6) = true := bne_iff_ne.mpr ck.2
      have q1 : (0 ≤ p.f1) = True := eq_true cr.1
      have q2 : (p.f1 ≤ p.f2) = True := eq_true cr.2.1
      have q3 : (p.f2 ≤ (s.size : Int)) = True := eq_true cr.2.2
      have CR := Aside0.mk cr
      clear cr ck
      go_enter Try.func17, Try.ntmps17
      go_wp2_with (first | ((with_reducible refine gate_dst (N := 5) rfl ?_); refine box_event ?hg (N := 5) ?hd (cs := #[.int .i64 p.f0, .int .i64 p.f1, .int .i64 p.f2, .slice A3 p.f3.length c3, .slice A4 p.f4.length c4]) (t := 37) ?hr ?_; (case hd => rfl); (case hg => rfl); (case hr => first | (go_simp; done) | (go_simp; rfl)); intro gb hgb w1 hbox hb; have HBX := Aside0.mk hbox; have HM1 := Aside0.mk (spec_Bare.Mk.mk (OwnRow.own_below HM.out.own hb) (HM.out.bel.trans (hb.mono HM.out.bel.size))); have HT1 := Aside0.mk (spec_Bare.Ty.below hb); have hc0 := (blk_cell hbox 0).trans rfl; have hc1 := (blk_cell hbox 1).trans rfl; have hc2 := (blk_cell hbox 2).trans rfl; have hc3_ := (blk_cell hbox 3).trans rfl; have hc4_ := (blk_cell hbox 4).trans rfl; clear hgb hbox hb) | (at_builtin; refine print_append_str (w0 := w0) w0.heap.size rfl (.tmp 18) _ 27 9 5 rfl Try.underlying27 Try.underlying9 spec_Bare.info8 v out (s.extract p.f1.toNat p.f2.toNat) rfl rfl ?aO ?aB ?aS ?aL ?_; (case aO => exact HM1.out.own); (case aB => exact HM1.out.bel); (case aS => exact HM1.out.bel.size); (case aL => have h1 := HOL.out.1; have h2 : (s.extract p.f1.toNat p.f2.toNat).size ≤ s.size := (by rw [ByteArray.size_extract]; omega); omega); intro v2 w2 ho hb hg; have HM2 := Aside0.mk (spec_Bare.Mk.mk ho hb); have HT2 := Aside0.mk (HT1.out.trans (spec_Bare.Ty.grown HM1.out.own hg)); clear ho hb hg))
      go_ret
      exact ⟨_, rfl, HM2.out, HT2.out⟩
    · rw [if_neg cr] at h; cases h
  · rw [if_neg ck] at h
    obtain ⟨o1, hlp, h⟩ := Option.bind_eq_some_iff.mp h
    have hol1 : o1.length ≤ 1000000000 := by
      by_cases c : o1.length ≤ 1000000000
      · exact c
      · rw [if_neg c] at h; cases h
    rw [if_pos hol1] at h
    obtain rfl := Option.some.inj h
    have HOL1 := Aside0.mk hol1
    have HLP := Aside0.mk hlp
    clear h hol1 hlp
    rcases (show p.f0 = 5 ∨ p.f0 = 6 by omega) with hk | hk
    · have e5 : (p.f0 != 5) = false := by rw [hk]; rfl
      have e6 : (p.f0 != 6) = true := by rw [hk]; rfl
      have e6b : (p.f0 == 6) = false := by rw [hk]; rfl
      have HLP1 : Aside0 (spec_Bare.lp k (out ++ [91]) s p 0 = some o1) := ⟨by have := HLP.out; rwa [if_neg (by omega)] at this⟩
      rw [show (if p.f0 = 6 then (125 : Int) else 93) = 93 from if_neg (by omega)]
      have HKK := Aside0.mk hk
      clear ck hk HLP
      go_enter Try.func17, Try.ntmps17
      go_wp2_with (first | ((with_reducible refine gate_dst (N := 5) rfl ?_); refine box_event ?hg (N := 5) ?hd (cs := #[.int .i64 p.f0, .int .i64 p.f1, .int .i64 p.f2, .slice A3 p.f3.length c3, .slice A4 p.f4.length c4]) (t := 37) ?hr ?_; (case hd => rfl); (case hg => rfl); (case hr => first | (go_simp; done) | (go_simp; rfl)); intro gb hgb w1 hbox hb; have HBX := Aside0.mk hbox; have HM1 := Aside0.mk (spec_Bare.Mk.mk (OwnRow.own_below HM.out.own hb) (HM.out.bel.trans (hb.mono HM.out.bel.size))); have HT1 := Aside0.mk (spec_Bare.Ty.below hb); have hc0 := (blk_cell hbox 0).trans rfl; have hc1 := (blk_cell hbox 1).trans rfl; have hc2 := (blk_cell hbox 2).trans rfl; have hc3_ := (blk_cell hbox 3).trans rfl; have hc4_ := (blk_cell hbox 4).trans rfl; clear hgb hbox hb) | (at_builtin; refine print_append_num (w0 := w0) w0.heap.size rfl (.tmp 29) (.tmp 31) 27 5 .u8 1 rfl Try.underlying27 spec_Bare.info8 (by omega) _ out 91 rfl rfl ?aO2 ?aB2 ?aS2 ?aL2 ?_; (case aO2 => exact HM1.out.own); (case aB2 => exact HM1.out.bel); (case aS2 => exact HM1.out.bel.size); (case aL2 => have := HOL.out.1; omega); intro v2 w2 ho hb hg hat; have ty_ := spec_Bare.Ty.grown HM1.out.own hg; have M2 := Aside0.mk (spec_Bare.Mk.mk ho hb); have T2 := Aside0.mk (HT1.out.trans ty_); have B2 := Aside0.mk (ty_ _ _ _ _ (by decide) HBX.out); have hc0 := (blk_cell B2.out 0).trans rfl; have hc1 := (blk_cell B2.out 1).trans rfl; have hc2 := (blk_cell B2.out 2).trans rfl; have hc3_ := (blk_cell B2.out 3).trans rfl; have hc4_ := (blk_cell B2.out 4).trans rfl; clear ho hb hg hat ty_))
      clear hc0 hc1 hc2 hc3_ hc4_ HBX HM1 HT1
      try simp only [Act.put, List.setIfInBounds_toArray, List.set_cons_succ, List.set_cons_zero]
      go_loopg [0, 36] k (fun kq v0 vi w' => ∃ (i : Int) (acc : List Int) (vd : Value), v0 = vd ∧ vi = .int .i64 i ∧ 0 ≤ i ∧ i ≤ (p.f4.length : Int) ∧ Aside0 (kq ≤ k) ∧ Aside0 (spec_Bare.lp kq acc s p i = some o1) ∧ Aside0 (spec_Bare.Mk w0 w' vd acc) ∧ Aside0 (spec_Bare.Ty w w') ∧ Aside0 (w'.heap[gb]? = some (.cells #[.int .i64 p.f0, .int .i64 p.f1, .int .i64 p.f2, .slice A3 p.f3.length c3, .slice A4 p.f4.length c4] 37 (0, 0))))
      case atStart => exact ⟨0, out ++ [91], _, rfl, rfl, by omega, by omega, ⟨Nat.le_refl _⟩, HLP1, M2, T2, B2⟩
      case round =>
        clear HLP1 M2 T2 B2
        obtain ⟨i, acc, vd, rfl, rfl, hi0, hi1, HKQ, HA, HM3, HT3, HB3⟩ := hrel
        cases gk with
        | zero => exact absurd HA.out (by simp [spec_Bare.lp])
        | succ k1 =>
        have H := HA.out
        clear HA
        rw [spec_Bare.lp] at H
        have hbx3 := HB3.out
        have hc0 := (blk_cell hbx3 0).trans rfl
        have hc1 := (blk_cell hbx3 1).trans rfl
        have hc2 := (blk_cell hbx3 2).trans rfl
        have hc3_ := (blk_cell hbx3 3).trans rfl
        have hc4_ := (blk_cell hbx3 4).trans rfl
        clear hbx3
        by_cases ci : i < (p.f4.length : Int)
        · rw [if_pos ci] at H
          have hal : acc.length ≤ 1000000000 := by
            by_cases c : acc.length ≤ 1000000000
            · exact c
            · rw [if_neg c] at H; cases H
          rw [if_pos hal, if_neg (by have := HKK.out; omega)] at H
          have HAL := Aside0.mk hal
          clear hal
          obtain ⟨o2, hto, H⟩ := Option.bind_eq_some_iff.mp H
          have HTO := Aside0.mk hto
          have HL := Aside0.mk H
          clear hto H
          obtain ⟨ad, A3', c3', A4', c4', e4, x0, x1, x2, x3, x4, hl3, hi3, hl4, hi4⟩ := at_T37 HR4.out i hi0 ci
          cases e4
          have q1 : (0 ≤ i) = True := eq_true hi0
          have q2 : (i < (p.f4.length : Int)) = True := eq_true ci
          have HI3 := Aside0.mk hi3
          have HI4 := Aside0.mk hi4
          clear hi3 hi4
          have X0 := Aside0.mk x0
          have X1 := Aside0.mk x1
          have X2 := Aside0.mk x2
          have X3 := Aside0.mk x3
          have X4 := Aside0.mk x4
          clear x0 x1 x2 x3 x4
          by_cases cz : 0 < i
          · have z1 : decide (0 < i) = true := decide_eq_true cz
            have HTO1 : Aside0 (spec_Bare.to k1 (acc ++ [44]) s (rd_T37 p.f4 i) = some o2) := ⟨by have := HTO.out; rwa [if_pos cz] at this⟩
            go_wp2_with (first | (at_builtin; refine print_append_num (w0 := w0) w0.heap.size rfl (.tmp 41) (.tmp 42) 27 5 .u8 1 rfl Try.underlying27 spec_Bare.info8 (by omega) _ acc 44 rfl rfl ?aO4 ?aB4 ?aS4 ?aL4 ?_; (case aO4 => exact HM3.out.own); (case aB4 => exact HM3.out.bel); (case aS4 => exact HM3.out.bel.size); (case aL4 => have := HAL.out; omega); intro v4 w4 ho hb hg hat; have ty_ := spec_Bare.Ty.grown HM3.out.own hg; have M4 := Aside0.mk (spec_Bare.Mk.mk ho hb); have T4 := Aside0.mk (HT3.out.trans ty_); have B4 := Aside0.mk (ty_ _ _ _ _ (by decide) HB3.out); have hc0 := (blk_cell B4.out 0).trans rfl; have hc1 := (blk_cell B4.out 1).trans rfl; have hc2 := (blk_cell B4.out 2).trans rfl; have hc3_ := (blk_cell B4.out 3).trans rfl; have hc4_ := (blk_cell B4.out 4).trans rfl; clear ho hb hg hat ty_; have HBL := B4; have y0 := (M4.out.bel.cell (World.block_lt_of_cell? _ _ X0.out)).trans X0.out; have y1 := (M4.out.bel.cell (World.block_lt_of_cell? _ _ X1.out)).trans X1.out; have y2 := (M4.out.bel.cell (World.block_lt_of_cell? _ _ X2.out)).trans X2.out; have y3 := (M4.out.bel.cell (World.block_lt_of_cell? _ _ X3.out)).trans X3.out; have y4 := (M4.out.bel.cell (World.block_lt_of_cell? _ _ X4.out)).trans X4.out) | (go_at_call 17; refine (ih k1 (by have := HKQ.out; omega) (acc ++ [44]) (rd_T37 p.f4 i) _ A3' c3' A4' c4' o2 _ M4.out HI3.out hl3 HI4.out hl4 HTO1.out).mono ?_; rintro e5_ w5 ⟨v5, rfl, hm5, ht5⟩; have M5 := Aside0.mk hm5; have T5 := Aside0.mk (T4.out.trans ht5); have B5 := Aside0.mk (ht5 _ _ _ _ (by decide) HBL.out); clear hm5 ht5))
            go_roundg k1
            case measure => exact Nat.lt_succ_self _
            case rel => exact ⟨i + 1, o2, _, rfl, by first | rfl | (congr 1; have := HOL.out.2; unfold wrap64; omega), by omega, by omega, ⟨by have := HKQ.out; omega⟩, HL, M5, T5, B5⟩
          · have z1 : decide (0 < i) = false := decide_eq_false cz
            have HTO1 : Aside0 (spec_Bare.to k1 acc s (rd_T37 p.f4 i) = some o2) := ⟨by have := HTO.out; rwa [if_neg cz] at this⟩
            have HBL := HB3
            have y0 := (HM3.out.bel.cell (World.block_lt_of_cell? _ _ X0.out)).trans X0.out
            have y1 := (HM3.out.bel.cell (World.block_lt_of_cell? _ _ X1.out)).trans X1.out
            have y2 := (HM3.out.bel.cell (World.block_lt_of_cell? _ _ X2.out)).trans X2.out
            have y3 := (HM3.out.bel.cell (World.block_lt_of_cell? _ _ X3.out)).trans X3.out
            have y4 := (HM3.out.bel.cell (World.block_lt_of_cell? _ _ X4.out)).trans X4.out
            go_wp2_with (go_at_call 17; refine (ih k1 (by have := HKQ.out; omega) acc (rd_T37 p.f4 i) _ A3' c3' A4' c4' o2 _ HM3.out HI3.out hl3 HI4.out hl4 HTO1.out).mono ?_; rintro e5_ w5 ⟨v5, rfl, hm5, ht5⟩; have M5 := Aside0.mk hm5; have T5 := Aside0.mk (HT3.out.trans ht5); have B5 := Aside0.mk (ht5 _ _ _ _ (by decide) HBL.out); clear hm5 ht5)
            go_roundg k1
            case measure => exact Nat.lt_succ_self _
            case rel => exact ⟨i + 1, o2, _, rfl, by first | rfl | (congr 1; have := HOL.out.2; unfold wrap64; omega), by omega, by omega, ⟨by have := HKQ.out; omega⟩, HL, M5, T5, B5⟩
        · rw [if_neg ci] at H
          obtain rfl := Option.some.inj H
          have q2 : (i < (p.f4.length : Int)) = False := eq_false ci
          clear H ci
          go_wp2_with (at_builtin; refine print_append_num (w0 := w0) w0.heap.size rfl (.tmp 75) (.tmp 77) 27 5 .u8 1 rfl Try.underlying27 spec_Bare.info8 (by omega) _ acc 93 rfl rfl ?aO4 ?aB4 ?aS4 ?aL4 ?_; (case aO4 => exact HM3.out.own); (case aB4 => exact HM3.out.bel); (case aS4 => exact HM3.out.bel.size); (case aL4 => have := HOL1.out; omega); intro v4 w4 ho hb hg hat; have ty_ := spec_Bare.Ty.grown HM3.out.own hg; have M4 := Aside0.mk (spec_Bare.Mk.mk ho hb); have T4 := Aside0.mk (HT3.out.trans ty_); have B4 := Aside0.mk (ty_ _ _ _ _ (by decide) HB3.out); have hc0 := (blk_cell B4.out 0).trans rfl; have hc1 := (blk_cell B4.out 1).trans rfl; have hc2 := (blk_cell B4.out 2).trans rfl; have hc3_ := (blk_cell B4.out 3).trans rfl; have hc4_ := (blk_cell B4.out 4).trans rfl; clear ho hb hg hat ty_)
          go_ret
          exact ⟨_, rfl, M4.out, T4.out⟩
    · have e5 : (p.f0 != 5) = true := by rw [hk]; rfl
      have e6 : (p.f0 != 6) = false := by rw [hk]; rfl
      have e6b : (p.f0 == 6) = true := by rw [hk]; rfl
      have HLP1 : Aside0 (spec_Bare.lp k (out ++ [123]) s p 0 = some o1) := ⟨by have := HLP.out; rwa [if_pos hk] at this⟩
      rw [show (if p.f0 = 6 then (125 : Int) else 93) = 125 from if_pos hk]
      have HKK := Aside0.mk hk
      clear ck hk HLP
      go_enter Try.func17, Try.ntmps17
      go_wp2_with (first | ((with_reducible refine gate_dst (N := 5) rfl ?_); refine box_event ?hg (N := 5) ?hd (cs := #[.int .i64 p.f0, .int .i64 p.f1, .int .i64 p.f2, .slice A3 p.f3.length c3, .slice A4 p.f4.length c4]) (t := 37) ?hr ?_; (case hd => rfl); (case hg => rfl); (case hr => first | (go_simp; done) | (go_simp; rfl)); intro gb hgb w1 hbox hb; have HBX := Aside0.mk hbox; have HM1 := Aside0.mk (spec_Bare.Mk.mk (OwnRow.own_below HM.out.own hb) (HM.out.bel.trans (hb.mono HM.out.bel.size))); have HT1 := Aside0.mk (spec_Bare.Ty.below hb); have hc0 := (blk_cell hbox 0).trans rfl; have hc1 := (blk_cell hbox 1).trans rfl; have hc2 := (blk_cell hbox 2).trans rfl; have hc3_ := (blk_cell hbox 3).trans rfl; have hc4_ := (blk_cell hbox 4).trans rfl; clear hgb hbox hb) | (at_builtin; refine print_append_num (w0 := w0) w0.heap.size rfl (.tmp 29) (.tmp 31) 27 5 .u8 1 rfl Try.underlying27 spec_Bare.info8 (by omega) _ out 123 rfl rfl ?aO2 ?aB2 ?aS2 ?aL2 ?_; (case aO2 => exact HM1.out.own); (case aB2 => exact HM1.out.bel); (case aS2 => exact HM1.out.bel.size); (case aL2 => have := HOL.out.1; omega); intro v2 w2 ho hb hg hat; have ty_ := spec_Bare.Ty.grown HM1.out.own hg; have M2 := Aside0.mk (spec_Bare.Mk.mk ho hb); have T2 := Aside0.mk (HT1.out.trans ty_); have B2 := Aside0.mk (ty_ _ _ _ _ (by decide) HBX.out); have hc0 := (blk_cell B2.out 0).trans rfl; have hc1 := (blk_cell B2.out 1).trans rfl; have hc2 := (blk_cell B2.out 2).trans rfl; have hc3_ := (blk_cell B2.out 3).trans rfl; have hc4_ := (blk_cell B2.out 4).trans rfl; clear ho hb hg hat ty_))
      clear hc0 hc1 hc2 hc3_ hc4_ HBX HM1 HT1
      try simp only [Act.put, List.setIfInBounds_toArray, List.set_cons_succ, List.set_cons_zero]
      go_loopg [0, 36] k (fun kq v0 vi w' => ∃ (i : Int) (acc : List Int) (vd : Value), v0 = vd ∧ vi = .int .i64 i ∧ 0 ≤ i ∧ i ≤ (p.f4.length : Int) ∧ Aside0 (kq ≤ k) ∧ Aside0 (spec_Bare.lp kq acc s p i = some o1) ∧ Aside0 (spec_Bare.Mk w0 w' vd acc) ∧ Aside0 (spec_Bare.Ty w w') ∧ Aside0 (w'.heap[gb]? = some (.cells #[.int .i64 p.f0, .int .i64 p.f1, .int .i64 p.f2, .slice A3 p.f3.length c3, .slice A4 p.f4.length c4] 37 (0, 0))))
      case atStart => exact ⟨0, out ++ [123], _, rfl, rfl, by omega, by omega, ⟨Nat.le_refl _⟩, HLP1, M2, T2, B2⟩
      case round =>
        clear HLP1 M2 T2 B2
        obtain ⟨i, acc, vd, rfl, rfl, hi0, hi1, HKQ, HA, HM3, HT3, HB3⟩ := hrel
        cases gk with
        | zero => exact absurd HA.out (by simp [spec_Bare.lp])
        | succ k1 =>
        have H := HA.out
        clear HA
        rw [spec_Bare.lp] at H
        have hbx3 := HB3.out
        have hc0 := (blk_cell hbx3 0).trans rfl
        have hc1 := (blk_cell hbx3 1).trans rfl
        have hc2 := (blk_cell hbx3 2).trans rfl
        have hc3_ := (blk_cell hbx3 3).trans rfl
        have hc4_ := (blk_cell hbx3 4).trans rfl
        clear hbx3
        by_cases ci : i < (p.f4.length : Int)
        · rw [if_pos ci] at H
          have hal : acc.length ≤ 1000000000 := by
            by_cases c : acc.length ≤ 1000000000
            · exact c
            · rw [if_neg c] at H; cases H
          rw [if_pos hal, if_pos HKK.out] at H
          have HAL := Aside0.mk hal
          clear hal
          have cn : i < (p.f3.length : Int) := by
            by_cases c : i < (p.f3.length : Int)
            · exact c
            · rw [if_neg c] at H; cases H
          rw [if_pos cn] at H
          have cx : 0 ≤ (rd_T46 p.f3 i).f0 ∧ (rd_T46 p.f3 i).f0 ≤ (rd_T46 p.f3 i).f1 ∧ (rd_T46 p.f3 i).f1 ≤ (s.size : Int) := by
            by_cases c : 0 ≤ (rd_T46 p.f3 i).f0 ∧ (rd_T46 p.f3 i).f0 ≤ (rd_T46 p.f3 i).f1 ∧ (rd_T46 p.f3 i).f1 ≤ (s.size : Int)
            · exact c
            · rw [if_neg c] at H; cases H
          rw [if_pos cx] at H
          obtain ⟨adn, en, n0, n1⟩ := at_T46 HR3.out i hi0 cn
          cases en
          generalize hna : (rd_T46 p.f3 i).f0 = na at *
          generalize hnb : (rd_T46 p.f3 i).f1 = nb at *
          have u1 : (0 ≤ na) = True := eq_true cx.1
          have u2 : (na ≤ nb) = True := eq_true cx.2.1
          have u3 : (nb ≤ (s.size : Int)) = True := eq_true cx.2.2
          have u4 : (i < (p.f3.length : Int)) = True := eq_true cn
          have HSZ : Aside0 ((s.extract na.toNat nb.toNat).size ≤ 1000000) := ⟨by rw [ByteArray.size_extract]; omega⟩
          have HNN := Aside0.mk n0
          have HNM := Aside0.mk n1
          clear cx cn hna hnb
          obtain ⟨o2, hto, H⟩ := Option.bind_eq_some_iff.mp H
          have HTO := Aside0.mk hto
          have HL := Aside0.mk H
          clear hto H
          obtain ⟨ad, A3', c3', A4', c4', e4, x0, x1, x2, x3, x4, hl3, hi3, hl4, hi4⟩ := at_T37 HR4.out i hi0 ci
          cases e4
          have q1 : (0 ≤ i) = True := eq_true hi0
          have q2 : (i < (p.f4.length : Int)) = True := eq_true ci
          have HI3 := Aside0.mk hi3
          have HI4 := Aside0.mk hi4
          clear hi3 hi4
          have X0 := Aside0.mk x0
          have X1 := Aside0.mk x1
          have X2 := Aside0.mk x2
          have X3 := Aside0.mk x3
          have X4 := Aside0.mk x4
          clear x0 x1 x2 x3 x4
          by_cases cz : 0 < i
          · have z1 : decide (0 < i) = true := decide_eq_true cz
            have HTO1 : Aside0 (spec_Bare.to k1 (((acc ++ [44]) ++ bytesOf (s.extract na.toNat nb.toNat)) ++ [58]) s (rd_T37 p.f4 i) = some o2) := ⟨by have := HTO.out; rwa [if_pos cz] at this⟩
            go_upto_region 13 with (at_builtin; refine print_append_num (w0 := w0) w0.heap.size rfl (.tmp 41) (.tmp 42) 27 5 .u8 1 rfl Try.underlying27 spec_Bare.info8 (by omega) _ acc 44 rfl rfl ?aO4 ?aB4 ?aS4 ?aL4 ?_; (case aO4 => exact HM3.out.own); (case aB4 => exact HM3.out.bel); (case aS4 => exact HM3.out.bel.size); (case aL4 => have := HAL.out; omega); intro v4 w4 ho hb hg hat; have ty_ := spec_Bare.Ty.grown HM3.out.own hg; have M4 := Aside0.mk (spec_Bare.Mk.mk ho hb); have T4 := Aside0.mk (HT3.out.trans ty_); have B4 := Aside0.mk (ty_ _ _ _ _ (by decide) HB3.out); have hc0 := (blk_cell B4.out 0).trans rfl; have hc1 := (blk_cell B4.out 1).trans rfl; have hc2 := (blk_cell B4.out 2).trans rfl; have hc3_ := (blk_cell B4.out 3).trans rfl; have hc4_ := (blk_cell B4.out 4).trans rfl; clear ho hb hg hat ty_; have m0 := (M4.out.bel.cell (World.block_lt_of_cell? _ _ HNN.out)).trans HNN.out; have m1 := (M4.out.bel.cell (World.block_lt_of_cell? _ _ HNM.out)).trans HNM.out)
            go_region_law (refine spec_Bare.step_str (w0 := w0) w0.heap.size rfl (.tmp 47) (.tmp 61) 27 9 5 rfl Try.underlying27 Try.underlying9 spec_Bare.info8 _ (acc ++ [44]) (s.extract na.toNat nb.toNat) rfl rfl (pw_own_drewN M4.out.own 1) (pw_below_drewN M4.out.bel 1) (pw_below_drewN M4.out.bel 1).size (by have := HAL.out; have := HSZ.out; simp; omega) ?_; intro v7 w7 ho hb hg; have ty7 := spec_Bare.Ty.grown (pw_own_drewN M4.out.own 1) hg; have M7 := Aside0.mk (spec_Bare.Mk.mk ho hb); have T7 := Aside0.mk (T4.out.trans ty7); have B7 := Aside0.mk (ty7 _ _ _ _ (by decide) B4.out); have hc0 := (blk_cell B7.out 0).trans rfl; have hc1 := (blk_cell B7.out 1).trans rfl; have hc2 := (blk_cell B7.out 2).trans rfl; have hc3_ := (blk_cell B7.out 3).trans rfl; have hc4_ := (blk_cell B7.out 4).trans rfl; clear ho hb hg ty7)
            all_goals go_wp2_with (first | (at_builtin; refine print_append_num (w0 := w0) w0.heap.size rfl (.tmp 63) (.tmp 64) 27 5 .u8 1 rfl Try.underlying27 spec_Bare.info8 (by omega) _ ((acc ++ [44]) ++ bytesOf (s.extract na.toNat nb.toNat)) 58 rfl rfl ?aO8 ?aB8 ?aS8 ?aL8 ?_; (case aO8 => exact M7.out.own); (case aB8 => exact M7.out.bel); (case aS8 => exact M7.out.bel.size); (case aL8 => have := HAL.out; have := HSZ.out; simp [bytesOf_length]; omega); intro v8 w8 ho hb hg hat; have ty_ := spec_Bare.Ty.grown M7.out.own hg; have M8 := Aside0.mk (spec_Bare.Mk.mk ho hb); have T8 := Aside0.mk (T7.out.trans ty_); have B8 := Aside0.mk (ty_ _ _ _ _ (by decide) B7.out); have hc0 := (blk_cell B8.out 0).trans rfl; have hc1 := (blk_cell B8.out 1).trans rfl; have hc2 := (blk_cell B8.out 2).trans rfl; have hc3_ := (blk_cell B8.out 3).trans rfl; have hc4_ := (blk_cell B8.out 4).trans rfl; clear ho hb hg hat ty_; have HBL := B8; have y0 := (M8.out.bel.cell (World.block_lt_of_cell? _ _ X0.out)).trans X0.out; have y1 := (M8.out.bel.cell (World.block_lt_of_cell? _ _ X1.out)).trans X1.out; have y2 := (M8.out.bel.cell (World.block_lt_of_cell? _ _ X2.out)).trans X2.out; have y3 := (M8.out.bel.cell (World.block_lt_of_cell? _ _ X3.out)).trans X3.out; have y4 := (M8.out.bel.cell (World.block_lt_of_cell? _ _ X4.out)).trans X4.out) | (go_at_call 17; refine (ih k1 (by have := HKQ.out; omega) (((acc ++ [44]) ++ bytesOf (s.extract na.toNat nb.toNat)) ++ [58]) (rd_T37 p.f4 i) _ A3' c3' A4' c4' o2 _ M8.out HI3.out hl3 HI4.out hl4 HTO1.out).mono ?_; rintro e5_ w5 ⟨v5, rfl, hm5, ht5⟩; have M5 := Aside0.mk hm5; have T5 := Aside0.mk (T8.out.trans ht5); have B5 := Aside0.mk (ht5 _ _ _ _ (by decide) HBL.out); clear hm5 ht5))
            all_goals go_roundg k1
            all_goals first | exact Nat.lt_succ_self _ | exact ⟨i + 1, o2, _, rfl, by first | rfl | (congr 1; have := HOL.out.2; unfold wrap64; omega), by omega, by omega, ⟨by have := HKQ.out; omega⟩, HL, M5, T5, B5⟩
          · have z1 : decide (0 < i) = false := decide_eq_false cz
            have HTO1 : Aside0 (spec_Bare.to k1 ((acc ++ bytesOf (s.extract na.toNat nb.toNat)) ++ [58]) s (rd_T37 p.f4 i) = some o2) := ⟨by have := HTO.out; rwa [if_neg cz] at this⟩
            have M4 := HM3; have T4 := HT3; have B4 := HB3
            have m0 := (M4.out.bel.cell (World.block_lt_of_cell? _ _ HNN.out)).trans HNN.out
            have m1 := (M4.out.bel.cell (World.block_lt_of_cell? _ _ HNM.out)).trans HNM.out
            go_upto_region 13 with fail
            go_region_law (refine spec_Bare.step_str (w0 := w0) w0.heap.size rfl (.tmp 47) (.tmp 61) 27 9 5 rfl Try.underlying27 Try.underlying9 spec_Bare.info8 _ acc (s.extract na.toNat nb.toNat) rfl rfl (pw_own_drewN M4.out.own 1) (pw_below_drewN M4.out.bel 1) (pw_below_drewN M4.out.bel 1).size (by have := HAL.out; have := HSZ.out; simp; omega) ?_; intro v7 w7 ho hb hg; have ty7 := spec_Bare.Ty.grown (pw_own_drewN M4.out.own 1) hg; have M7 := Aside0.mk (spec_Bare.Mk.mk ho hb); have T7 := Aside0.mk (T4.out.trans ty7); have B7 := Aside0.mk (ty7 _ _ _ _ (by decide) B4.out); have hc0 := (blk_cell B7.out 0).trans rfl; have hc1 := (blk_cell B7.out 1).trans rfl; have hc2 := (blk_cell B7.out 2).trans rfl; have hc3_ := (blk_cell B7.out 3).trans rfl; have hc4_ := (blk_cell B7.out 4).trans rfl; clear ho hb hg ty7)
            all_goals go_wp2_with (first | (at_builtin; refine print_append_num (w0 := w0) w0.heap.size rfl (.tmp 63) (.tmp 64) 27 5 .u8 1 rfl Try.underlying27 spec_Bare.info8 (by omega) _ (acc ++ bytesOf (s.extract na.toNat nb.toNat)) 58 rfl rfl ?aO8 ?aB8 ?aS8 ?aL8 ?_; (case aO8 => exact M7.out.own); (case aB8 => exact M7.out.bel); (case aS8 => exact M7.out.bel.size); (case aL8 => have := HAL.out; have := HSZ.out; simp [bytesOf_length]; omega); intro v8 w8 ho hb hg hat; have ty_ := spec_Bare.Ty.grown M7.out.own hg; have M8 := Aside0.mk (spec_Bare.Mk.mk ho hb); have T8 := Aside0.mk (T7.out.trans ty_); have B8 := Aside0.mk (ty_ _ _ _ _ (by decide) B7.out); have hc0 := (blk_cell B8.out 0).trans rfl; have hc1 := (blk_cell B8.out 1).trans rfl; have hc2 := (blk_cell B8.out 2).trans rfl; have hc3_ := (blk_cell B8.out 3).trans rfl; have hc4_ := (blk_cell B8.out 4).trans rfl; clear ho hb hg hat ty_; have HBL := B8; have y0 := (M8.out.bel.cell (World.block_lt_of_cell? _ _ X0.out)).trans X0.out; have y1 := (M8.out.bel.cell (World.block_lt_of_cell? _ _ X1.out)).trans X1.out; have y2 := (M8.out.bel.cell (World.block_lt_of_cell? _ _ X2.out)).trans X2.out; have y3 := (M8.out.bel.cell (World.block_lt_of_cell? _ _ X3.out)).trans X3.out; have y4 := (M8.out.bel.cell (World.block_lt_of_cell? _ _ X4.out)).trans X4.out) | (go_at_call 17; refine (ih k1 (by have := HKQ.out; omega) ((acc ++ bytesOf (s.extract na.toNat nb.toNat)) ++ [58]) (rd_T37 p.f4 i) _ A3' c3' A4' c4' o2 _ M8.out HI3.out hl3 HI4.out hl4 HTO1.out).mono ?_; rintro e5_ w5 ⟨v5, rfl, hm5, ht5⟩; have M5 := Aside0.mk hm5; have T5 := Aside0.mk (T8.out.trans ht5); have B5 := Aside0.mk (ht5 _ _ _ _ (by decide) HBL.out); clear hm5 ht5))
            all_goals go_roundg k1
            all_goals first | exact Nat.lt_succ_self _ | exact ⟨i + 1, o2, _, rfl, by first | rfl | (congr 1; have := HOL.out.2; unfold wrap64; omega), by omega, by omega, ⟨by have := HKQ.out; omega⟩, HL, M5, T5, B5⟩
        · rw [if_neg ci] at H
          obtain rfl := Option.some.inj H
          have q2 : (i < (p.f4.length : Int)) = False := eq_false ci
          clear H ci
          go_wp2_with (at_builtin; refine print_append_num (w0 := w0) w0.heap.size rfl (.tmp 75) (.tmp 77) 27 5 .u8 1 rfl Try.underlying27 spec_Bare.info8 (by omega) _ acc 125 rfl rfl ?aO4 ?aB4 ?aS4 ?aL4 ?_; (case aO4 => exact HM3.out.own); (case aB4 => exact HM3.out.bel); (case aS4 => exact HM3.out.bel.size); (case aL4 => have := HOL1.out; omega); intro v4 w4 ho hb hg hat; have ty_ := spec_Bare.Ty.grown HM3.out.own hg; have M4 := Aside0.mk (spec_Bare.Mk.mk ho hb); have T4 := Aside0.mk (HT3.out.trans ty_); have B4 := Aside0.mk (ty_ _ _ _ _ (by decide) HB3.out); have hc0 := (blk_cell B4.out 0).trans rfl; have hc1 := (blk_cell B4.out 1).trans rfl; have hc2 := (blk_cell B4.out 2).trans rfl; have hc3_ := (blk_cell B4.out 3).trans rfl; have hc4_ := (blk_cell B4.out 4).trans rfl; clear ho hb hg hat ty_)
          go_ret
          exact ⟨_, rfl, M4.out, T4.out⟩
set_option maxHeartbeats 4000000 in
set_option maxRecDepth 100000 in
theorem spec_Bare.calls (k : Nat) (a0 : ByteArray) (a1_0 : Int) (a1_1 : Int) (a1_2 : Int) (A1_3 : Option Addr) (c1_3 : Nat) (l1_3 : List S46) (A1_4 : Option Addr) (c1_4 : Nat) (l1_4 : List S37) (r : ByteArray) (w : World) (hr1_3 : Kd.C k46 w A1_3 l1_3.length l1_3) (hc1_3 : l1_3.length ≤ c1_3) (hr1_4 : Kd.C k37 w A1_4 l1_4.length l1_4) (hc1_4 : l1_4.length ≤ c1_4) (h : spec_Bare.f k a0 a1_0 a1_1 a1_2 l1_3 l1_4 = some r) :
    Calls Try.prog 12 #[.string a0, .agg #[.int .i64 a1_0, .int .i64 a1_1, .int .i64 a1_2, .slice A1_3 l1_3.length c1_3, .slice A1_4 l1_4.length c1_4]] w fun e w' => e = .returned (.string r) ∧ Below w.heap.size w w' := by
  have hu37 := Try.underlying37
  unfold spec_Bare.f at h
  have hs : a0.size ≤ 1000000 ∧ l1_4.length ≤ 1000000 := by
    by_cases c : a0.size ≤ 1000000 ∧ l1_4.length ≤ 1000000
    · exact c
    · rw [if_neg c] at h; cases h
  rw [if_pos hs] at h
  obtain ⟨x, hx, rfl⟩ := Option.map_eq_some_iff.mp h
  have HX := Aside0.mk hx
  have HR3 := Aside0.mk hr1_3
  have HR4 := Aside0.mk hr1_4
  clear h hx hr1_3 hr1_4
  go_enter Try.func12, Try.ntmps12
  go_wp2_with (first | ((with_reducible refine gate_dst (N := 3) rfl ?_); refine box_event ?hg (N := 3) ?hd (cs := #[.int .i64 a1_0, .int .i64 a1_1, .int .i64 a1_2, .slice A1_3 l1_3.length c1_3, .slice A1_4 l1_4.length c1_4]) (t := 37) ?hr ?_; (case hd => rfl); (case hg => rfl); (case hr => first | (go_simp; done) | (go_simp; rfl)); intro gb hgb w1 hbox hb; have HB1 := Aside0.mk hb; have hc0 := (blk_cell hbox 0).trans rfl; have hc1 := (blk_cell hbox 1).trans rfl; have hc2 := (blk_cell hbox 2).trans rfl; have hc3_ := (blk_cell hbox 3).trans rfl; have hc4_ := (blk_cell hbox 4).trans rfl; clear hgb hbox hb) | (go_at_call 17; refine (spec_Bare.to_calls a0 hs.1 w k [] ⟨a1_0, a1_1, a1_2, l1_3, l1_4⟩ _ A1_3 c1_3 A1_4 c1_4 x _ ⟨World.ownsRow_nil _ _ _ _, HB1.out⟩ HR3.out hc1_3 HR4.out hc1_4 HX.out).mono ?_; rintro e2 w2 ⟨v2, rfl, hm, ht⟩; have HM2 := Aside0.mk hm; have hcv := own_string (P := Try.prog) Try.underlying27 Try.underlying5 Try.underlying9 hm.own; clear hm ht))
  go_ret
  exact ⟨rfl, HM2.out.bel⟩
end Go.Proofs.Ytlllokmipeoelaa.XFnPrSpec
end
