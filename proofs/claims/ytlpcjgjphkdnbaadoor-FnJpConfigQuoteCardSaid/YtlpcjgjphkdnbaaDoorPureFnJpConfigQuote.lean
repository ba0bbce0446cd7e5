/- Proved: in a string between single quotes a configuration with the flag for them reads a quote behind a backslash as a quote, and quotation marks as they are (impl.JqConfigString, and the law's walk). -/
import Derived.Test.YtlpcjgjphkdnbaaDoorCfgPureFnJpConfigQuote
namespace Go.Proofs.YtlpcjgjphkdnbaaDoor.XFnJpConfigQuote
open Go.RowKit Go.Proofs.YtlpcjgjphkdnbaaDoor.Base Go.Proofs.YtlpcjgjphkdnbaaDoorW.PrintWords Go.Proofs.YtlpcjgjphkdnbaaDoorW.PrintLast Go.Proofs.YtlpcjgjphkdnbaaDoorW.PrintMore
attribute [local go_sem] max2_int min2_int max_two min_two max_three min_three max_four min_four
set_option linter.unusedVariables false
set_option linter.unusedSimpArgs false

theorem row_of_kd {w : World} {g o : Nat} {l : List Int} (h : Kd.C (Kd.int .u8) w (some ⟨g, o, none⟩) l.length l) : Row w g o l := by
  intro j hj
  obtain ⟨ad, ea, hx⟩ := Kd.at_int h (j : Int) (by omega) (by omega)
  obtain rfl := Option.some.inj ea
  rw [Int.toNat_natCast, add_lit0] at hx
  exact hx
set_option maxHeartbeats 4000000 in
set_option maxRecDepth 100000 in
theorem conf_calls (eb : Bool) (a0 : ByteArray) (gk ck p : Nat) (B out : List Int) (s : ByteArray) (w : World) (hL : Hd (bytesOf a0)) (hk : w.cell? ⟨gk, 0, none⟩ = some (.string ⟨#[97]⟩))
    (he : StrEnd.Ends ((bytesOf a0).drop 7) 39 p) (hB : ((bytesOf a0).drop 7).take p = B) (hf : unescQ.full 1 B = some out) (ho : out.length ≤ 1000000) (hs : strOfNums out = s) :
    Calls Tryd.prog 5 #[.string a0, .slice (some ⟨gk, 0, none⟩) 1 ck, .bool true, .bool eb] w fun e w' => e = .returned (.tuple #[.string s, .bool true]) ∧ Below w.heap.size w w' := by
  have hsz : a0.size ≤ 1000000 := by rw [← bytesOf_length]; exact hL.most
  have kb := fun W => print_bytes (P := Tryd.prog) 9 34 5 Tryd.underlying9 Tryd.underlying34 Tryd.underlying5 a0 W
  have HC := Aside0.mk (impl_config.calls true eb true eb 0 w rfl)
  have HS : Aside0 (∀ w1 : World, Below w.heap.size w w1 → Calls Tryd.prog 7 #[.agg #[.bool true, .bool eb, .int .i64 0], .slice (some ⟨w1.heap.size, 0, none⟩) a0.size (grownCap w1 a0.size 0 5), .slice (some ⟨gk, 0, none⟩) 1 ck] (Lib.bytesWorld w1 5 a0) fun e w' => e = .returned (.tuple #[.string s, .nilIface]) ∧ Below (Lib.bytesWorld w1 5 a0).heap.size (Lib.bytesWorld w1 5 a0) w') := ⟨fun w1 hb1 => by
    have hr := Kd.C_of_reads (d := (0 : Int)) (h1 := fun _ => rfl) (bytes_reads w1 5 a0 (by omega))
    rw [← bytesOf_length a0] at hr
    have h := string_calls eb 1 w1.heap.size (grownCap w1 a0.size 0 5) gk ck p (bytesOf a0) B out (Lib.bytesWorld w1 5 a0) (row_of_kd hr) hL (by rw [bytesOf_length]; exact grownCap_ge _ _ _ _) (pw_cell_below (bytes_below hb1 (Nat.le_trans (Nat.le_refl _) hb1.size) 5 a0) hk) he (by rw [Lib.bytesWorld_size]; omega) hB hf ho
    rw [bytesOf_length, hs] at h
    exact h⟩
  clear hL hk he hB hf ho hs hsz
  go_enter Tryd.func5, Tryd.ntmps5
  go_wp2_with (first | (go_at_call 6; refine HC.out.mono ?_; rintro e w1 ⟨rfl, hb1⟩; have HB1 := Aside0.mk hb1; clear hb1) | (go_at_call 7; refine (HS.out w1 HB1.out).mono ?_; rintro e w2 ⟨rfl, hb2⟩; have HB2 := Aside0.mk (below_step (bytes_below HB1.out HB1.out.size 5 a0) hb2); clear hb2))
  go_ret2
  exact ⟨rfl, HB2.out⟩

/-- The two texts. -/
def text1 (a b : ByteArray) : ByteArray := ((⟨#[123, 39, 97, 39, 58, 32, 39]⟩ ++ a) ++ ⟨#[92, 39]⟩ ++ b) ++ ⟨#[39, 125]⟩
def text2 (a b : ByteArray) : ByteArray := ((⟨#[123, 39, 97, 39, 58, 32, 39]⟩ ++ a) ++ ⟨#[34]⟩ ++ b) ++ ⟨#[39, 125]⟩
theorem bytes1 (a b : ByteArray) : bytesOf (text1 a b) = pre ++ ((bytesOf a ++ 92 :: 39 :: bytesOf b) ++ 39 :: [125]) := by
  unfold text1
  simp only [bytesOf_append]
  rw [show bytesOf ⟨#[123, 39, 97, 39, 58, 32, 39]⟩ = pre from rfl, show bytesOf ⟨#[92, 39]⟩ = [92, 39] from rfl, show bytesOf ⟨#[39, 125]⟩ = [39, 125] from rfl]
  simp [List.append_assoc]
theorem bytes2 (a b : ByteArray) : bytesOf (text2 a b) = pre ++ ((bytesOf a ++ 34 :: bytesOf b) ++ 39 :: [125]) := by
  unfold text2
  simp only [bytesOf_append]
  rw [show bytesOf ⟨#[123, 39, 97, 39, 58, 32, 39]⟩ = pre from rfl, show bytesOf ⟨#[34]⟩ = [34] from rfl, show bytesOf ⟨#[39, 125]⟩ = [39, 125] from rfl]
  simp [List.append_assoc]
theorem str_back (s : ByteArray) : strOfNums (bytesOf s) = s := XWords.strOfNums_bytesOf s
theorem one_calls (eb : Bool) (a b : ByteArray) (ha : Clear (bytesOf a)) (hb : Clear (bytesOf b)) (la : a.size ≤ 100) (lb : b.size ≤ 100) (gk ck : Nat) (w : World) (hk : w.cell? ⟨gk, 0, none⟩ = some (.string ⟨#[97]⟩)) :
    Calls Tryd.prog 5 #[.string (text1 a b), .slice (some ⟨gk, 0, none⟩) 1 ck, .bool true, .bool eb] w fun e w' => e = .returned (.tuple #[.string (a ++ ⟨#[39]⟩ ++ b), .bool true]) ∧ Below w.heap.size w w' := by
  have la' := bytesOf_length a
  have lb' := bytesOf_length b
  have hby : ∀ x ∈ (bytesOf a ++ 92 :: 39 :: bytesOf b) ++ 39 :: [125], 0 ≤ x ∧ x ≤ 255 := by
    intro x hx
    simp only [List.mem_append, List.mem_cons, List.mem_nil_iff, or_false] at hx
    rcases hx with (h | rfl | rfl | h) | rfl | rfl
    · exact (ha x h).2.2.2
    · omega
    · omega
    · exact (hb x h).2.2.2
    · omega
    · omega
  refine conf_calls eb (text1 a b) gk ck (bytesOf a ++ 92 :: 39 :: bytesOf b).length _ _ _ w ?_ hk ?_ ?_ (full_one (bytesOf a) (bytesOf b) ha hb) ?_ ?_
  · rw [bytes1]; exact hd_of _ (by simp only [List.length_append, List.length_cons, List.length_nil]; omega) (by simp only [List.length_append, List.length_cons, List.length_nil]; omega) hby
  · rw [bytes1, drop_pre]; exact ends_one _ _ _ ha hb
  · rw [bytes1, drop_pre, List.take_left]
  · simp only [List.length_append, List.length_cons]; omega
  · rw [show bytesOf a ++ 39 :: bytesOf b = bytesOf (a ++ ⟨#[39]⟩ ++ b) by rw [bytesOf_append, bytesOf_append, show bytesOf ⟨#[39]⟩ = [39] from rfl]; simp]
    exact str_back _
theorem two_calls (eb : Bool) (a b : ByteArray) (ha : Clear (bytesOf a)) (hb : Clear (bytesOf b)) (la : a.size ≤ 100) (lb : b.size ≤ 100) (gk ck : Nat) (w : World) (hk : w.cell? ⟨gk, 0, none⟩ = some (.string ⟨#[97]⟩)) :
    Calls Tryd.prog 5 #[.string (text2 a b), .slice (some ⟨gk, 0, none⟩) 1 ck, .bool true, .bool eb] w fun e w' => e = .returned (.tuple #[.string (a ++ ⟨#[34]⟩ ++ b), .bool true]) ∧ Below w.heap.size w w' := by
  have la' := bytesOf_length a
  have lb' := bytesOf_length b
  have hc : ∀ x ∈ bytesOf a ++ 34 :: bytesOf b, x ≠ 39 ∧ x ≠ 92 ∧ 0 ≤ x ∧ x ≤ 255 := by
    intro x hx
    simp only [List.mem_append, List.mem_cons] at hx
    rcases hx with h | rfl | h
    · have := ha x h; exact ⟨this.2.1, this.2.2.1, this.2.2.2⟩
    · decide
    · have := hb x h; exact ⟨this.2.1, this.2.2.1, this.2.2.2⟩
  have hby : ∀ x ∈ (bytesOf a ++ 34 :: bytesOf b) ++ 39 :: [125], 0 ≤ x ∧ x ≤ 255 := by
    intro x hx
    rcases List.mem_append.mp hx with h | h
    · exact (hc x h).2.2
    · simp only [List.mem_cons, List.mem_nil_iff, or_false] at h
      rcases h with rfl | rfl <;> omega
  refine conf_calls eb (text2 a b) gk ck (bytesOf a ++ 34 :: bytesOf b).length _ _ _ w ?_ hk ?_ ?_ (full_none (bytesOf a ++ 34 :: bytesOf b) fun x hx => (hc x hx).2.1) ?_ ?_
  · rw [bytes2]; exact hd_of _ (by simp only [List.length_append, List.length_cons, List.length_nil]; omega) (by simp only [List.length_append, List.length_cons, List.length_nil]; omega) hby
  · rw [bytes2, drop_pre]; exact ends_clear _ _ fun x hx => ⟨(hc x hx).1, (hc x hx).2.1⟩
  · rw [bytes2, drop_pre, List.take_left]
  · simp only [List.length_append, List.length_cons]; omega
  · rw [show bytesOf a ++ 34 :: bytesOf b = bytesOf (a ++ ⟨#[34]⟩ ++ b) by rw [bytesOf_append, bytesOf_append, show bytesOf ⟨#[34]⟩ = [34] from rfl]; simp]
    exact str_back _
set_option maxHeartbeats 8000000 in
set_option maxRecDepth 100000 in
theorem laws_FnJpConfigQuote.walk (a0 a1 : ByteArray) (eb : Bool) (w : World) :
    Calls Tryd.prog 3 #[.string a0, .string a1, .bool eb] w fun e w' => e = .returned (.bool true) ∧ Below w.heap.size w w' := by
  by_cases h0 : a0.size ≤ 2147483647
  · by_cases h1 : a1.size ≤ 2147483647
    · obtain ⟨k0, r0, e0, p0⟩ := simple_tot a0 h0
      obtain ⟨k1, r1, e1, p1⟩ := simple_tot a1 h1
      have H0 := Aside0.mk fun W => laws_jpSimple.calls k0 a0 r0 W e0
      have H1 := Aside0.mk fun W => laws_jpSimple.calls k1 a1 r1 W e1
      have q0 : (2147483647 < (a0.size : Int)) = False := eq_false (by omega)
      have q0n : (2147483647 < a0.size) = False := eq_false (by omega)
      have q1 : (2147483647 < (a1.size : Int)) = False := eq_false (by omega)
      have q1n : (2147483647 < a1.size) = False := eq_false (by omega)
      have P0 := Aside0.mk p0
      have P1 := Aside0.mk p1
      clear e0 e1 h0 h1 p0 p1
      cases r0
      · go_enter Tryd.func3, Tryd.ntmps3
        go_wp2_with (first | (go_at_call 4; refine (H0.out _).mono ?_; rintro e w1 ⟨rfl, hd1⟩; have HD1 := Aside0.mk hd1; clear hd1))
        go_ret
        exact ⟨rfl, HD1.out.below⟩
      · cases r1
        · go_enter Tryd.func3, Tryd.ntmps3
          go_wp2_with (first | (go_at_call_of 4 a0; refine (H0.out _).mono ?_; rintro e w1 ⟨rfl, hd1⟩; have HD1 := Aside0.mk hd1; clear hd1) | (go_at_call_of 4 a1; refine (H1.out _).mono ?_; rintro e w2 ⟨rfl, hd2⟩; have HD2 := Aside0.mk (XWords.drawn_trans HD1.out hd2); clear hd2))
          go_ret
          exact ⟨rfl, HD2.out.below⟩
        · obtain ⟨s0, c0⟩ := P0.out rfl
          obtain ⟨s1, c1⟩ := P1.out rfl
          have ha := fun W => one_calls eb a0 a1 c0 c1 s0 s1 W.heap.size 1 (W.alloc (.cells #[.string ⟨#[97]⟩] 9)) (World.cell?_alloc_new W _ _ 0)
          have ht := fun W => two_calls eb a0 a1 c0 c1 s0 s1 W.heap.size 1 (W.alloc (.cells #[.string ⟨#[97]⟩] 9)) (World.cell?_alloc_new W _ _ 0)
          have n0 : (9223372036854775807 < 7 + a0.size) = False := eq_false (by omega)
          have n1 : (9223372036854775807 < 7 + a0.size + 2) = False := eq_false (by omega)
          have n2 : (9223372036854775807 < 7 + a0.size + 2 + a1.size) = False := eq_false (by omega)
          have n3 : (9223372036854775807 < 7 + a0.size + 2 + a1.size + 2) = False := eq_false (by omega)
          have n4 : (9223372036854775807 < 7 + a0.size + 1) = False := eq_false (by omega)
          have n5 : (9223372036854775807 < 7 + a0.size + 1 + a1.size) = False := eq_false (by omega)
          have n6 : (9223372036854775807 < 7 + a0.size + 1 + a1.size + 2) = False := eq_false (by omega)
          have n7 : (9223372036854775807 < a0.size + 1) = False := eq_false (by omega)
          have n8 : (9223372036854775807 < a0.size + 1 + a1.size) = False := eq_false (by omega)
          unfold text1 at ha
          unfold text2 at ht
          have HA := Aside0.mk ha
          have HT := Aside0.mk ht
          clear s0 c0 s1 c1 ha ht
          go_enter Tryd.func3, Tryd.ntmps3
          go_upto_region 5 with (first | (go_at_call_of 4 a0; refine (H0.out _).mono ?_; rintro e w1 ⟨rfl, hd1⟩; have HD1 := Aside0.mk hd1; clear hd1) | (go_at_call_of 4 a1; refine (H1.out _).mono ?_; rintro e w2 ⟨rfl, hd2⟩; have HD2 := Aside0.mk (XWords.drawn_trans HD1.out hd2); clear hd2))
          go_upto_region 6 with (go_at_call 5; refine (HA.out w2).mono ?_; rintro e w3 ⟨rfl, hb3⟩; have HB3 := Aside0.mk (below_step (below_alloc HD2.out.below _) hb3); clear hb3)
          go_wp2_with (go_at_call 5; refine (HT.out w3).mono ?_; rintro e w4 ⟨rfl, hb4⟩; have HB4 := Aside0.mk (below_step (below_alloc HB3.out _) hb4); clear hb4)
          go_ret
          exact ⟨by simp, HB4.out⟩
    · have q0 : (2147483647 < (a0.size : Int)) = False := eq_false (by omega)
      have q0n : (2147483647 < a0.size) = False := eq_false (by omega)
      have q1 : (2147483647 < (a1.size : Int)) = True := eq_true (by omega)
      have q1n : (2147483647 < a1.size) = True := eq_true (by omega)
      go_enter Tryd.func3, Tryd.ntmps3
      go_wp2
      go_ret
      exact ⟨rfl, Below.refl _ _⟩
  · have q0 : (2147483647 < (a0.size : Int)) = True := eq_true (by omega)
    have q0n : (2147483647 < a0.size) = True := eq_true (by omega)
    go_enter Tryd.func3, Tryd.ntmps3
    go_wp2
    go_ret
    exact ⟨rfl, Below.refl _ _⟩

end Go.Proofs.YtlpcjgjphkdnbaaDoor.XFnJpConfigQuote
