-- Written by xprint.py of this session (a program that runs the kit's print and adds to it); Lean checks it.
import Derived.Test.YtdllbnecbbggfaaXFnGjEscapeAnyx0
import Derived.Test.YtdllbnecbbggfaaXFnGjEscapeAnyx1
namespace Go.Proofs.Ytdllbnecbbggfaa.XFnGjEscapeAny
open Go.RowKit Go.Proofs.YtdllbnecbbggfaaW.PrintWords Go.Proofs.YtdllbnecbbggfaaW.PrintLast Go.Proofs.YtdllbnecbbggfaaW.PrintMore
attribute [local go_sem] max2_int min2_int max_two min_two max_three min_three max_four min_four   -- for this text's walks alone
set_option linter.unusedVariables false
set_option linter.unusedSimpArgs false

--EXT
/-! ### gjson_Escape: function 14 (by hand) -/
def gjson_Escape.safe (c : Int) : Bool := (gjson_isSafePathKeyChar.f c).getD false
theorem gjson_Escape.safe_some (c : Int) : gjson_isSafePathKeyChar.f c = some (gjson_Escape.safe c) := by
  unfold gjson_Escape.safe gjson_isSafePathKeyChar.f
  repeat' split
  all_goals rfl
def gjson_Escape.one (c : Int) : List Int := if gjson_Escape.safe c = true then [c] else [92, c]
def gjson_Escape.esc : List Int → List Int
  | [] => []
  | c :: r => gjson_Escape.one c ++ gjson_Escape.esc r
theorem gjson_Escape.esc_append (a b : List Int) : gjson_Escape.esc (a ++ b) = gjson_Escape.esc a ++ gjson_Escape.esc b := by
  induction a with
  | nil => rfl
  | cons c r ih => simp only [List.cons_append, gjson_Escape.esc, ih, List.append_assoc]
theorem gjson_Escape.esc_le (a : List Int) : (gjson_Escape.esc a).length ≤ 2 * a.length := by
  induction a with
  | nil => simp [gjson_Escape.esc]
  | cons c r ih =>
    simp only [gjson_Escape.esc, gjson_Escape.one, List.length_append, List.length_cons]
    split <;> simp <;> omega
theorem gjson_Escape.esc_safe (a : List Int) (h : ∀ c ∈ a, gjson_Escape.safe c = true) : gjson_Escape.esc a = a := by
  induction a with
  | nil => rfl
  | cons c r ih =>
    simp only [gjson_Escape.esc, gjson_Escape.one]
    rw [if_pos (h c (by simp)), ih (fun x hx => h x (by simp [hx]))]
    rfl
def gjson_Escape.f (a0 : ByteArray) : Option ByteArray := if a0.size ≤ 35184372088831 then (some (strOfNums (gjson_Escape.esc (bytesOf a0)))) else (none)
theorem gjson_Escape.take_snoc (a0 : ByteArray) (x : Int) (h0 : 0 ≤ x) (h : x < a0.size) : (bytesOf a0).take (x + 1).toNat = (bytesOf a0).take x.toNat ++ [bt a0 x] := by
  have hl : x.toNat < (bytesOf a0).length := by rw [bytesOf_length]; omega
  rw [show (x + 1).toNat = x.toNat + 1 from by omega, List.take_succ_eq_append_getElem hl, ← rd_bytesOf]
  unfold rd
  rw [List.getD_eq_getElem?_getD, List.getElem?_eq_getElem hl]
  rfl
theorem gjson_Escape.safe_take (a0 : ByteArray) (x : Int) (h0 : 0 ≤ x) (hk : x ≤ a0.size) (h : ∀ j : Int, 0 ≤ j → j < x → gjson_Escape.safe (bt a0 j) = true) : gjson_Escape.esc ((bytesOf a0).take x.toNat) = (bytesOf a0).take x.toNat := by
  refine gjson_Escape.esc_safe _ fun c hc => ?_
  obtain ⟨j, hj, rfl⟩ := List.getElem_of_mem hc
  have hj2 : j < x.toNat := by rw [List.length_take] at hj; omega
  have := h j (by omega) (by omega)
  rw [← rd_bytesOf] at this
  unfold rd at this
  rw [Int.toNat_natCast, List.getD_eq_getElem?_getD, List.getElem?_eq_getElem (by rw [bytesOf_length]; omega)] at this
  rw [List.getElem_take]
  exact this
theorem gjson_Escape.all_safe (a0 : ByteArray) (x : Int) (h0 : 0 ≤ x) (hx : x = a0.size) (h : ∀ j : Int, 0 ≤ j → j < x → gjson_Escape.safe (bt a0 j) = true) : strOfNums (gjson_Escape.esc (bytesOf a0)) = a0 := by
  have := gjson_Escape.safe_take a0 x h0 (by omega) h
  rw [List.take_of_length_le (by rw [bytesOf_length]; omega)] at this
  rw [this, XWords.strOfNums_bytesOf]
theorem gjson_Escape.next {a0 : ByteArray} {x : Int} (h : ∀ j : Int, 0 ≤ j → j < x → gjson_Escape.safe (bt a0 j) = true) (hx : gjson_Escape.safe (bt a0 x) = true) : ∀ j : Int, 0 ≤ j → j < x + 1 → gjson_Escape.safe (bt a0 j) = true := by
  intro j h0 hj
  rcases Int.lt_or_le j x with h1 | h1
  · exact h j h0 h1
  · obtain rfl : j = x := by omega
    exact hx
set_option maxHeartbeats 4000000 in
set_option maxRecDepth 100000 in
theorem gjson_Escape.calls (a0 : ByteArray) (r : ByteArray) (w : World) (h : gjson_Escape.f a0 = some r) :
    Calls Try.prog 14 #[.string a0] w fun e w' => e = .returned (.string r) ∧ Below w.heap.size w w' := by
  unfold gjson_Escape.f at h
  by_cases hs : a0.size ≤ 35184372088831
  · rw [if_pos hs] at h
    obtain rfl := Option.some.inj h
    clear h
    go_enter Try.func14, Try.ntmps14
    go_wp2
    go_loopw [3] (fun i wr => ∃ x : Int, 0 ≤ x ∧ x ≤ a0.size ∧ i = .int .i64 x ∧ Aside0 (∀ j : Int, 0 ≤ j → j < x → gjson_Escape.safe (bt a0 j) = true) ∧ Aside0 (Drawn0 w wr)) (fun i _ => a0.size - (intOf i).toNat)
    case atStart => exact ⟨0, by omega, by omega, rfl, ⟨fun j h0 hj => by omega⟩, ⟨Drawn0.refl _⟩⟩
    case round =>
      obtain ⟨x, hx0, hk, rfl, hall, hd⟩ := hrel
      by_cases hlt : x < a0.size
      · have hx := bt_at a0 x
        have p1 : (0 ≤ x) = True := eq_true (by omega)
        have q1 : (x < (a0.size : Int)) = True := eq_true (by omega)
        go_wp2_with fail
        refine (gjson_isSafePathKeyChar.calls (bt a0 x) _ _ (gjson_Escape.safe_some _)).mono ?_
        rintro e w' ⟨rfl, hd'⟩
        have HD := Aside0.mk hd'
        clear hd'
        by_cases hsafe : gjson_Escape.safe (bt a0 x) = true
        · have HS := Aside0.mk hsafe
          have hsb : (!gjson_Escape.safe (bt a0 x)) = false := by rw [hsafe]; rfl
          clear hsafe
          go_wp2
          go_roundw
          case rel => exact ⟨x + 1, by omega, by omega, rfl, ⟨gjson_Escape.next hall.out HS.out⟩, ⟨XWords.drawn_trans hd.out HD.out⟩⟩
          case measure => simp [intOf]; omega
        · have HS := Aside0.mk hsafe
          have hsb : (!gjson_Escape.safe (bt a0 x)) = true := by simp [hsafe]
          clear hsafe
          have HB := Aside0.mk (below_step hd.out.below HD.out.below)
          have hmk := fun W => XWords.make_succ (P := Try.prog) 37 5 Try.underlying37 info5 a0.size hs W
          have hsz : (Try.prog.info? 5).map (·.size) = some 1 := by kernel_rfl
          have hxs : (a0.extract 0 x.toNat).size ≤ a0.size + 1 := by simp [ByteArray.size_extract]; omega
          have hxs2 : (a0.extract 0 x.toNat).size ≤ (madeCells #[Value.int .u8 0] (a0.size + 1)).size := by rw [size_madeCells]; exact hxs
          have HXS := Aside0.mk hxs
          have HXS2 := Aside0.mk hxs2
          have HSZ := Aside0.mk hsz
          clear hxs hxs2 hsz
          go_wp2_with ((with_reducible refine XWords.wpList_copy_str rfl (.tmp 20) (.tmp 23) 37 9 rfl 5 Try.underlying37 HSZ.out w'.heap.size (a0.size + 1) (a0.size + 1) (a0.extract 0 x.toNat) rfl rfl (madeCells #[.int .u8 0] (a0.size + 1)) 5 (heap_alloc_new _ _) HXS.out HXS2.out ?_); rw [World.setRow_alloc_new])
          have hbw := Aside0.mk HB.out.size
          have HO0 := XWords.own_copied w' w.heap.size 5 (a0.size + 1) x.toNat a0 hbw.out (by omega) (by omega) (by omega)
          have HST := Aside0.mk (gjson_Escape.safe_take a0 x hx0 hk hall.out)
          have HB1 := Aside0.mk (below_alloc HB.out (.cells (nums IntKind.u8 (bytesOf (a0.extract 0 x.toNat)) ++ List.drop x.toNat (madeCells #[Value.int IntKind.u8 0] (a0.size + 1)).toList).toArray 5))
          have HO := Aside0.mk HO0
          have HL0 : Aside0 (((bytesOf a0).take x.toNat).length = x.toNat) := ⟨by rw [List.length_take, bytesOf_length]; omega⟩
          have HESC := Aside0.mk (gjson_Escape.esc_le (bytesOf a0))
          clear HO0 hmk hsb HS hx p1 q1 hlt
          go_loopw [3, 4] (fun i v wr2 => ∃ y : Int, x ≤ y ∧ y ≤ a0.size ∧ i = .int .i64 y ∧ Aside0 (wr2.ownsRow w.heap.size 5 1 v (gjson_Escape.esc ((bytesOf a0).take y.toNat)).length (nums .u8 (gjson_Escape.esc ((bytesOf a0).take y.toNat)))) ∧ Aside0 (Below w.heap.size w wr2)) (fun i _ _ => a0.size - (intOf i).toNat)
          case atStart => exact ⟨x, by omega, by omega, rfl, ⟨by rw [HST.out, HL0.out]; exact HO.out⟩, HB1⟩
          case round =>
            obtain ⟨y, hy0, hy1, rfl, hown, hbel⟩ := hrel
            by_cases hlt2 : y < a0.size
            · have hx := bt_at a0 y
              have p1 : (0 ≤ y) = True := eq_true (by omega)
              have q1 : (y < (a0.size : Int)) = True := eq_true (by omega)
              have HSN := Aside0.mk (show gjson_Escape.esc ((bytesOf a0).take (y + 1).toNat) = gjson_Escape.esc ((bytesOf a0).take y.toNat) ++ gjson_Escape.one (bt a0 y) by rw [gjson_Escape.take_snoc a0 y (by omega) hlt2, gjson_Escape.esc_append]; simp [gjson_Escape.esc])
              have HLE := Aside0.mk (gjson_Escape.esc_le ((bytesOf a0).take y.toNat))
              have HLT : Aside0 (((bytesOf a0).take y.toNat).length ≤ a0.size) := ⟨by rw [List.length_take, bytesOf_length]; omega⟩
              go_wp2_with fail
              refine (gjson_isSafePathKeyChar.calls (bt a0 y) _ _ (gjson_Escape.safe_some _)).mono ?_
              rintro e w2 ⟨rfl, ⟨nd, rfl⟩⟩
              by_cases hsafe : gjson_Escape.safe (bt a0 y) = true
              · have HS := Aside0.mk hsafe
                have hsb : (!gjson_Escape.safe (bt a0 y)) = false := by rw [hsafe]; rfl
                clear hsafe
                go_wp2_with (first | (at_builtin; refine print_append_num (w0 := w) w.heap.size rfl (.tmp 42) (.tmp 46) 37 5 .u8 1 rfl Try.underlying37 info5 (by omega) _ (gjson_Escape.esc ((bytesOf a0).take y.toNat)) (bt a0 y) rfl rfl ?aO ?aB ?aS ?aL ?_; (case aO => exact pw_own_drewN hown.out _); (case aB => exact pw_below_drewN hbel.out _); (case aS => exact hbel.out.size); (case aL => have := HLE.out; have := HLT.out; omega); intro v1 w3 ho hb hg _; have n0_ := Aside0.mk ho; have n1_ := Aside0.mk hb; clear ho hb hg))
                go_roundw
                case rel => exact ⟨y + 1, by omega, by omega, rfl, ⟨by rw [HSN.out, gjson_Escape.one, if_pos HS.out]; exact n0_.out⟩, n1_⟩
                case measure => simp [intOf]; omega
              · have HS := Aside0.mk hsafe
                have hsb : (!gjson_Escape.safe (bt a0 y)) = true := by simp [hsafe]
                clear hsafe
                go_wp2_with (first | (at_builtin; refine print_append_num (w0 := w) w.heap.size rfl (.tmp 39) (.tmp 40) 37 5 .u8 1 rfl Try.underlying37 info5 (by omega) _ (gjson_Escape.esc ((bytesOf a0).take y.toNat)) 92 rfl rfl ?aO ?aB ?aS ?aL ?_; (case aO => exact pw_own_drewN hown.out _); (case aB => exact pw_below_drewN hbel.out _); (case aS => exact hbel.out.size); (case aL => have := HLE.out; have := HLT.out; omega); intro v1 w3 ho hb hg _; have n0_ := Aside0.mk ho; have n1_ := Aside0.mk hb; clear ho hb hg) | (at_builtin; refine print_append_num (w0 := w) w.heap.size rfl (.tmp 42) (.tmp 46) 37 5 .u8 1 rfl Try.underlying37 info5 (by omega) _ (gjson_Escape.esc ((bytesOf a0).take y.toNat) ++ [92]) (bt a0 y) rfl rfl ?bO ?bB ?bS ?bL ?_; (case bO => exact n0_.out); (case bB => exact n1_.out); (case bS => exact n1_.out.size); (case bL => have := HLE.out; have := HLT.out; simp; omega); intro v2 w4 ho hb hg _; have n2_ := Aside0.mk ho; have n3_ := Aside0.mk hb; clear ho hb hg))
                go_roundw
                case rel => exact ⟨y + 1, by omega, by omega, rfl, ⟨by rw [HSN.out, gjson_Escape.one, if_neg HS.out, show ([92, bt a0 y] : List Int) = [92] ++ [bt a0 y] from rfl, ← List.append_assoc]; exact n2_.out⟩, n3_⟩
                case measure => simp [intOf]; omega
            · have HY := Aside0.mk (show y = a0.size by omega)
              have hcv := own_string (P := Try.prog) Try.underlying37 Try.underlying5 Try.underlying9 hown.out
              go_wp2
              go_ret
              exact ⟨by rw [HY.out, Int.toNat_natCast, List.take_of_length_le (by rw [bytesOf_length]; omega)]; rfl, hbel.out⟩
      · have HX := Aside0.mk (show x = a0.size by omega)
        go_wp2
        go_ret
        exact ⟨by rw [gjson_Escape.all_safe a0 x hx0 HX.out hall.out]; rfl, (hd.out).below⟩
  · rw [if_neg hs] at h
    exact absurd h (by simp)


end Go.Proofs.Ytdllbnecbbggfaa.XFnGjEscapeAny
