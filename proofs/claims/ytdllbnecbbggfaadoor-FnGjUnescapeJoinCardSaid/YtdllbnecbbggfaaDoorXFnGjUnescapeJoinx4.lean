-- Written by xprint.py of this session (a program that runs the kit's print and adds to it); Lean checks it.
import Derived.Test.YtdllbnecbbggfaaDoorXFnGjUnescapeJoinx0
namespace Go.Proofs.YtdllbnecbbggfaaDoor.XFnGjUnescapeJoin
open Go.RowKit Go.Proofs.YtdllbnecbbggfaaDoorW.PrintWords Go.Proofs.YtdllbnecbbggfaaDoorW.PrintLast Go.Proofs.YtdllbnecbbggfaaDoorW.PrintMore
attribute [local go_sem] max2_int min2_int max_two min_two max_three min_three max_four min_four   -- for this text's walks alone
set_option linter.unusedVariables false
set_option linter.unusedSimpArgs false

--EXT
/-! ### gjson_runeit: function 80 (by hand) -/
theorem gjson_runeit.wu64 {i : Int} (h0 : 0 ≤ i) (h : i < 18446744073709551616) : IntKind.u64.wrap i = i := by
  rw [IntKind.wrap_u64]
  omega
theorem gjson_runeit.lo_small {c : Int} (h0 : 97 ≤ c) (h1 : c ≤ 102) : Go.bits .or .u8 c 32 = c := by
  have : c = 97 ∨ c = 98 ∨ c = 99 ∨ c = 100 ∨ c = 101 ∨ c = 102 := by omega
  rcases this with rfl | rfl | rfl | rfl | rfl | rfl <;> decide +kernel
theorem gjson_runeit.lo_great {c : Int} (h0 : 65 ≤ c) (h1 : c ≤ 70) : Go.bits .or .u8 c 32 = c + 32 := by
  have : c = 65 ∨ c = 66 ∨ c = 67 ∨ c = 68 ∨ c = 69 ∨ c = 70 := by omega
  rcases this with rfl | rfl | rfl | rfl | rfl | rfl <;> decide +kernel
def gjson_runeit.hx (c : Int) : Option Int := if 48 ≤ c ∧ c ≤ 57 then some (c - 48) else if 97 ≤ c ∧ c ≤ 102 then some (c - 87) else if 65 ≤ c ∧ c ≤ 70 then some (c - 55) else none
def gjson_runeit.pre (s : ByteArray) : Nat → Int
  | 0 => 0
  | n + 1 => gjson_runeit.pre s n * 16 + (gjson_runeit.hx (bt s n)).getD 0
theorem gjson_runeit.pre_le (s : ByteArray) (h : ∀ j : Nat, j < 4 → (gjson_runeit.hx (bt s j)).isSome = true) : ∀ n, n ≤ 4 → 0 ≤ gjson_runeit.pre s n ∧ gjson_runeit.pre s n < 16 ^ n := by
  intro n hn
  induction n with
  | zero => simp [gjson_runeit.pre]
  | succ m ih =>
    have := ih (by omega)
    have hd : 0 ≤ (gjson_runeit.hx (bt s m)).getD 0 ∧ (gjson_runeit.hx (bt s m)).getD 0 ≤ 15 := by
      unfold gjson_runeit.hx; repeat' split
      all_goals simp <;> omega
    simp only [gjson_runeit.pre, Int.pow_succ]
    omega
theorem gjson_runeit.pre_succ (s : ByteArray) (x : Int) (h : 0 ≤ x) : gjson_runeit.pre s (x + 1).toNat = gjson_runeit.pre s x.toNat * 16 + (gjson_runeit.hx (bt s x)).getD 0 := by
  rw [show (x + 1).toNat = x.toNat + 1 by omega, gjson_runeit.pre, Int.toNat_of_nonneg h]
set_option maxHeartbeats 4000000 in
set_option maxRecDepth 100000 in
theorem gjson_runeit.parse_calls (s : ByteArray) (hs : s.size = 4) (h : ∀ j : Nat, j < 4 → (gjson_runeit.hx (bt s j)).isSome = true) (w : World) :
    Calls Tryd.prog 107 #[.string s, .int .i64 16, .int .i64 64] w fun e w' => e = .returned (.tuple #[.int .u64 (gjson_runeit.pre s 4), .nilIface]) ∧ Below w.heap.size w w' := by
  have HH := Aside0.mk h
  clear h
  have kb := fun W => print_bytes (P := Tryd.prog) 9 42 5 Tryd.underlying9 Tryd.underlying42 Tryd.underlying5 s W
  rw [hs] at kb
  have hne : s.toList.isEmpty = false := by
    rw [ByteArray.toList_eq]
    have hl : s.data.toList.length = 4 := by rw [data_length]; exact hs
    cases hd : s.data.toList with
    | nil => rw [hd] at hl; cases hl
    | cons a r => rfl
  have hB := Aside0.mk (bytes_below (Below.refl w.heap.size w) (Nat.le_refl _) 5 s)
  have hR := Aside0.mk (bytes_reads w 5 s (by omega))
  go_enter Tryd.func107, Tryd.ntmps107
  go_wp2
  have hmax : IntKind.u64.wrap (IntKind.u64.wrap 18446744073709551616 - 1) = 18446744073709551615 := by decide
  go_loopw [101, 13, 12] (fun i n us wr => ∃ x : Int, 0 ≤ x ∧ x ≤ 4 ∧ i = .int .i64 x ∧ n = .int .u64 (gjson_runeit.pre s x.toNat) ∧ us = .bool false ∧ wr = Lib.bytesWorld w 5 s) (fun i _ _ _ => 4 - (intOf i).toNat)
  case atStart => exact ⟨0, by omega, by omega, rfl, rfl, rfl, rfl⟩
  case round =>
    obtain ⟨x, hx0, hx4, rfl, rfl, rfl, rfl⟩ := hrel
    by_cases hlt : x < 4
    · have HC := Kd.C_of_reads (d := (0 : Int)) (h1 := fun _ => rfl) hR.out
      obtain ⟨ad, e1, hxc⟩ := Kd.at_int HC x hx0 (by omega)
      obtain rfl := Option.some.inj e1
      rw [add_plain, rd_bytesOf] at hxc
      have p1 : (0 ≤ x) = True := eq_true hx0
      have q1 : (x < (4 : Int)) = True := eq_true hlt
      have hp := gjson_runeit.pre_le s HH.out x.toNat (by omega)
      have hp4 : gjson_runeit.pre s x.toNat < 65536 := Int.lt_of_lt_of_le hp.2 (by
        have : x.toNat = 0 ∨ x.toNat = 1 ∨ x.toNat = 2 ∨ x.toNat = 3 := by omega
        rcases this with e | e | e | e <;> rw [e] <;> decide)
      have hp0 := hp.1
      have hsome := HH.out x.toNat (by omega)
      rw [Int.toNat_of_nonneg hx0] at hsome
      have hcl : (48 ≤ bt s x ∧ bt s x ≤ 57) ∨ (97 ≤ bt s x ∧ bt s x ≤ 102) ∨ (65 ≤ bt s x ∧ bt s x ≤ 70) := by
        unfold gjson_runeit.hx at hsome
        repeat' split at hsome
        all_goals first
          | omega
          | (cases hsome; done)
      clear hp hsome
      rcases hcl with ⟨d0, d1⟩ | ⟨d0, d1⟩ | ⟨d0, d1⟩
      · skip
        have HD := Aside0.mk (show gjson_runeit.hx (bt s x) = some (bt s x - 48) by unfold gjson_runeit.hx; rw [if_pos ⟨d0, d1⟩])
        have hnn := gjson_runeit.pre_succ s x hx0
        generalize hc : bt s x = c at *
        generalize hn : gjson_runeit.pre s x.toNat = n at *
        have hnx := Aside0.mk hnn
        clear hc hn hnn
        have g0 : (48 ≤ c) = True := eq_true d0
        have g1 : (c ≤ 57) = True := eq_true d1
        have g2 : (c == 95) = false := beq_eq_false_iff_ne.mpr (by omega)
        have f1 : IntKind.u64.wrap (n * 16) = n * 16 := gjson_runeit.wu64 (by omega) (by omega)
        have f2 : IntKind.u64.wrap (n * 16 + (c - 48)) = n * 16 + (c - 48) := gjson_runeit.wu64 (by omega) (by omega)
        have f3 : (1152921504606846976 ≤ n) = False := eq_false (by omega)
        have f4 : (n * 16 + (c - 48) < n * 16) = False := eq_false (by omega)
        have f5 : (18446744073709551615 < n * 16 + (c - 48)) = False := eq_false (by omega)
        have f6 : (16 ≤ c - 48) = False := eq_false (by omega)
        go_wp2
        exact ⟨⟨x + 1, by omega, by omega, rfl, by rw [hnx.out, HD.out]; simp only [Option.getD_some] <;> (first | rfl | (congr 1; omega)), rfl, trivial⟩, by simp only [intOf]; omega⟩
      · have hlow := gjson_runeit.lo_small d0 d1
        have HD := Aside0.mk (show gjson_runeit.hx (bt s x) = some (bt s x - 87) by unfold gjson_runeit.hx; rw [if_neg (by omega), if_pos ⟨d0, d1⟩])
        have hnn := gjson_runeit.pre_succ s x hx0
        generalize hc : bt s x = c at *
        generalize hn : gjson_runeit.pre s x.toNat = n at *
        have hnx := Aside0.mk hnn
        clear hc hn hnn
        have g0 : (48 ≤ c) = True := eq_true (by omega)
        have g1 : (c ≤ 57) = False := eq_false (by omega)
        have g2 : (c == 95) = false := beq_eq_false_iff_ne.mpr (by omega)
        have g3 : (97 ≤ c) = True := eq_true d0
        have g4 : (c ≤ 122) = True := eq_true (by omega)
        have f1 : IntKind.u64.wrap (n * 16) = n * 16 := gjson_runeit.wu64 (by omega) (by omega)
        have f2 : IntKind.u64.wrap (n * 16 + (c - 97 + 10)) = n * 16 + (c - 97 + 10) := gjson_runeit.wu64 (by omega) (by omega)
        have f3 : (1152921504606846976 ≤ n) = False := eq_false (by omega)
        have f4 : (n * 16 + (c - 97 + 10) < n * 16) = False := eq_false (by omega)
        have f5 : (18446744073709551615 < n * 16 + (c - 97 + 10)) = False := eq_false (by omega)
        have f6 : (16 ≤ c - 97 + 10) = False := eq_false (by omega)
        go_wp2
        exact ⟨⟨x + 1, by omega, by omega, rfl, by rw [hnx.out, HD.out]; simp only [Option.getD_some] <;> (first | rfl | (congr 1; omega)), rfl, trivial⟩, by simp only [intOf]; omega⟩
      · have hlow := gjson_runeit.lo_great d0 d1
        have HD := Aside0.mk (show gjson_runeit.hx (bt s x) = some (bt s x - 55) by unfold gjson_runeit.hx; rw [if_neg (by omega), if_neg (by omega), if_pos ⟨d0, d1⟩])
        have hnn := gjson_runeit.pre_succ s x hx0
        generalize hc : bt s x = c at *
        generalize hn : gjson_runeit.pre s x.toNat = n at *
        have hnx := Aside0.mk hnn
        clear hc hn hnn
        have g0 : (48 ≤ c) = True := eq_true (by omega)
        have g1 : (c ≤ 57) = False := eq_false (by omega)
        have g2 : (c == 95) = false := beq_eq_false_iff_ne.mpr (by omega)
        have g3 : (97 ≤ c + 32) = True := eq_true (by omega)
        have g4 : (c + 32 ≤ 122) = True := eq_true (by omega)
        have f1 : IntKind.u64.wrap (n * 16) = n * 16 := gjson_runeit.wu64 (by omega) (by omega)
        have f2 : IntKind.u64.wrap (n * 16 + (c + 32 - 97 + 10)) = n * 16 + (c + 32 - 97 + 10) := gjson_runeit.wu64 (by omega) (by omega)
        have f3 : (1152921504606846976 ≤ n) = False := eq_false (by omega)
        have f4 : (n * 16 + (c + 32 - 97 + 10) < n * 16) = False := eq_false (by omega)
        have f5 : (18446744073709551615 < n * 16 + (c + 32 - 97 + 10)) = False := eq_false (by omega)
        have f6 : (16 ≤ c + 32 - 97 + 10) = False := eq_false (by omega)
        go_wp2
        exact ⟨⟨x + 1, by omega, by omega, rfl, by rw [hnx.out, HD.out]; simp only [Option.getD_some] <;> (first | rfl | (congr 1; omega)), rfl, trivial⟩, by simp only [intOf]; omega⟩
    · obtain rfl : x = 4 := by omega
      go_wp2
      go_ret2
      exact ⟨rfl, hB.out⟩
theorem gjson_runeit.bt_cut4 (s : ByteArray) (hs : 4 ≤ s.size) (i : Int) (h0 : 0 ≤ i) (h1 : i < 4) : bt (s.extract 0 4) i = bt s i := by
  unfold bt
  rw [dif_pos (by rw [ByteArray.size_extract]; omega), dif_pos (by omega)]
  simp only [ByteArray.getElem_extract, Nat.zero_add]
def gjson_runeit.val (s : ByteArray) : Option Int := (gjson_runeit.hx (bt s 0)).bind fun a => (gjson_runeit.hx (bt s 1)).bind fun b => (gjson_runeit.hx (bt s 2)).bind fun c => (gjson_runeit.hx (bt s 3)).bind fun d => some (a * 4096 + b * 256 + c * 16 + d)
theorem gjson_runeit.val_pre (s : ByteArray) (hs : 4 ≤ s.size) (v : Int) (h : gjson_runeit.val s = some v) : (∀ j : Nat, j < 4 → (gjson_runeit.hx (bt (s.extract 0 4) j)).isSome = true) ∧ gjson_runeit.pre (s.extract 0 4) 4 = v := by
  unfold gjson_runeit.val at h
  obtain ⟨a, ha, h⟩ := Option.bind_eq_some_iff.mp h
  obtain ⟨b, hb, h⟩ := Option.bind_eq_some_iff.mp h
  obtain ⟨c, hc, h⟩ := Option.bind_eq_some_iff.mp h
  obtain ⟨d, hd, h⟩ := Option.bind_eq_some_iff.mp h
  obtain rfl := Option.some.inj h
  have b0 := gjson_runeit.bt_cut4 s hs 0 (by omega) (by omega)
  have b1 := gjson_runeit.bt_cut4 s hs 1 (by omega) (by omega)
  have b2 := gjson_runeit.bt_cut4 s hs 2 (by omega) (by omega)
  have b3 := gjson_runeit.bt_cut4 s hs 3 (by omega) (by omega)
  refine ⟨fun j hj => ?_, ?_⟩
  · have : j = 0 ∨ j = 1 ∨ j = 2 ∨ j = 3 := by omega
    rcases this with rfl | rfl | rfl | rfl
    · rw [show ((0 : Nat) : Int) = 0 from rfl, b0, ha]; rfl
    · rw [show ((1 : Nat) : Int) = 1 from rfl, b1, hb]; rfl
    · rw [show ((2 : Nat) : Int) = 2 from rfl, b2, hc]; rfl
    · rw [show ((3 : Nat) : Int) = 3 from rfl, b3, hd]; rfl
  · simp only [gjson_runeit.pre]
    rw [show ((0 : Nat) : Int) = 0 from rfl, show ((1 : Nat) : Int) = 1 from rfl, show ((2 : Nat) : Int) = 2 from rfl, show ((3 : Nat) : Int) = 3 from rfl, b0, b1, b2, b3, ha, hb, hc, hd]
    simp only [Option.getD_some]
    omega
theorem gjson_runeit.val_range (s : ByteArray) (v : Int) (h : gjson_runeit.val s = some v) : 0 ≤ v ∧ v ≤ 65535 := by
  have hd : ∀ c d : Int, gjson_runeit.hx c = some d → 0 ≤ d ∧ d ≤ 15 := fun c d h => by
    unfold gjson_runeit.hx at h
    repeat' split at h
    all_goals first
      | (cases h; done)
      | (obtain rfl := Option.some.inj h; omega)
  unfold gjson_runeit.val at h
  obtain ⟨a, ha, h⟩ := Option.bind_eq_some_iff.mp h
  obtain ⟨b, hb, h⟩ := Option.bind_eq_some_iff.mp h
  obtain ⟨c, hc, h⟩ := Option.bind_eq_some_iff.mp h
  obtain ⟨d, hd', h⟩ := Option.bind_eq_some_iff.mp h
  obtain rfl := Option.some.inj h
  have := hd _ _ ha; have := hd _ _ hb; have := hd _ _ hc; have := hd _ _ hd'
  omega
def gjson_runeit.f (a0 : ByteArray) : Option Int := if 4 ≤ a0.size ∧ a0.size ≤ 140737488351232 then gjson_runeit.val a0 else none
set_option maxHeartbeats 4000000 in
set_option maxRecDepth 100000 in
theorem gjson_runeit.calls (a0 : ByteArray) (r : Int) (w : World) (h : gjson_runeit.f a0 = some r) :
    Calls Tryd.prog 80 #[.string a0] w fun e w' => e = .returned (.int .i32 r) ∧ Below w.heap.size w w' := by
  unfold gjson_runeit.f at h
  by_cases hs : 4 ≤ a0.size ∧ a0.size ≤ 140737488351232
  · rw [if_pos hs] at h
    have hv := gjson_runeit.val_pre a0 hs.1 r h
    have hr := gjson_runeit.val_range a0 r h
    have hc := Aside0.mk (gjson_runeit.parse_calls (a0.extract 0 4) (by rw [ByteArray.size_extract]; omega) hv.1 w)
    have hw : IntKind.i32.wrap r = r := by simp only [IntKind.wrap_i32]; omega
    have hp := hv.2
    rw [hp] at hc
    have q1 : ((4 : Int) ≤ (a0.size : Int)) = True := eq_true (by omega)
    have q2 : (4 ≤ a0.size) = True := eq_true (by omega)
    clear hv hp h
    go_enter Tryd.func80, Tryd.ntmps80
    go_wp2_with (first | (go_at_call 107; refine hc.out.mono ?_; rintro e w' ⟨rfl, hb⟩) | go_in)
    go_ret
    exact ⟨rfl, hb⟩
  · rw [if_neg hs] at h
    cases h


end Go.Proofs.YtdllbnecbbggfaaDoor.XFnGjUnescapeJoin
