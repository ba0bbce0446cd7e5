/- Proved: Color with a style without marks leaves every text as it is (impl.PrColor, and the law's walk). -/
import Derived.Test.YtdllbnecbbggfaaColorRunFnPrColorBare
import Derived.Test.YtdllbnecbbggfaaXFnPrColorBarex5
import Derived.Test.YtdllbnecbbggfaaPlacesTotalFnPrColorBare
import Derived.Outline
namespace Go.Proofs.Ytdllbnecbbggfaa.XFnPrColorBare
open Go.RowKit Go.Proofs.YtdllbnecbbggfaaW.PrintWords Go.Proofs.YtdllbnecbbggfaaW.PrintLast Go.Proofs.YtdllbnecbbggfaaW.PrintMore
attribute [local go_sem] max2_int min2_int max_two min_two max_three min_three max_four min_four
set_option linter.unusedVariables false
set_option linter.unusedSimpArgs false
/-- A style without marks. -/
def impl_PrColor.bare : Value := .agg #[.string ⟨#[]⟩, .string ⟨#[]⟩, .string ⟨#[]⟩, .string ⟨#[]⟩, .string ⟨#[]⟩, .string ⟨#[]⟩, .string ⟨#[]⟩, .string ⟨#[]⟩, .string ⟨#[]⟩, .string ⟨#[]⟩, .string ⟨#[]⟩, .string ⟨#[]⟩, .string ⟨#[]⟩, .string ⟨#[]⟩, .string ⟨#[]⟩, .string ⟨#[]⟩]
/-- The world behind the copies of the arguments. -/
def impl_PrColor.W2 (a0 : ByteArray) (w : World) : World := Lib.bytesWorld (w.alloc (.cells #[.string ⟨#[]⟩, .string ⟨#[]⟩, .string ⟨#[]⟩, .string ⟨#[]⟩, .string ⟨#[]⟩, .string ⟨#[]⟩, .string ⟨#[]⟩, .string ⟨#[]⟩, .string ⟨#[]⟩, .string ⟨#[]⟩, .string ⟨#[]⟩, .string ⟨#[]⟩, .string ⟨#[]⟩, .string ⟨#[]⟩, .string ⟨#[]⟩, .string ⟨#[]⟩] 36)) 5 a0
theorem impl_PrColor.W2_size (a0 : ByteArray) (w : World) : (impl_PrColor.W2 a0 w).heap.size = w.heap.size + 2 := by
  unfold impl_PrColor.W2
  rw [Lib.bytesWorld_size]
  show (w.heap.push _).size + 1 = _
  rw [Array.size_push]
theorem impl_PrColor.W2_cell (a0 : ByteArray) (w : World) (j : Nat) (hj : j < 16) : (impl_PrColor.W2 a0 w).cell? ⟨w.heap.size, j, none⟩ = some (.string ⟨#[]⟩) := by
  have hb : Below (w.alloc (.cells #[.string ⟨#[]⟩, .string ⟨#[]⟩, .string ⟨#[]⟩, .string ⟨#[]⟩, .string ⟨#[]⟩, .string ⟨#[]⟩, .string ⟨#[]⟩, .string ⟨#[]⟩, .string ⟨#[]⟩, .string ⟨#[]⟩, .string ⟨#[]⟩, .string ⟨#[]⟩, .string ⟨#[]⟩, .string ⟨#[]⟩, .string ⟨#[]⟩, .string ⟨#[]⟩] 36)).heap.size (w.alloc (.cells #[.string ⟨#[]⟩, .string ⟨#[]⟩, .string ⟨#[]⟩, .string ⟨#[]⟩, .string ⟨#[]⟩, .string ⟨#[]⟩, .string ⟨#[]⟩, .string ⟨#[]⟩, .string ⟨#[]⟩, .string ⟨#[]⟩, .string ⟨#[]⟩, .string ⟨#[]⟩, .string ⟨#[]⟩, .string ⟨#[]⟩, .string ⟨#[]⟩, .string ⟨#[]⟩] 36)) (impl_PrColor.W2 a0 w) := bytes_below (Below.refl _ _) (Nat.le_refl _) 5 a0
  refine pw_cell_below hb ?_
  rw [World.cell?_alloc_new w _ _ j]
  match j, hj with
  | 0, _ => rfl
  | 1, _ => rfl
  | 2, _ => rfl
  | 3, _ => rfl
  | 4, _ => rfl
  | 5, _ => rfl
  | 6, _ => rfl
  | 7, _ => rfl
  | 8, _ => rfl
  | 9, _ => rfl
  | 10, _ => rfl
  | 11, _ => rfl
  | 12, _ => rfl
  | 13, _ => rfl
  | 14, _ => rfl
  | 15, _ => rfl
  | n + 16, h => exact absurd h (by omega)
theorem impl_PrColor.W2_below (a0 : ByteArray) (w : World) : Below w.heap.size w (impl_PrColor.W2 a0 w) := bytes_below (below_alloc (Below.refl _ _) _) (by show w.heap.size ≤ (w.heap.push _).size; rw [Array.size_push]; omega) 5 a0
theorem impl_PrColor.bare_new (W : World) (g : Nat) (hg : g = W.heap.size) : pretty_Color.Bare g (W.alloc (.cells #[.string ⟨#[]⟩, .string ⟨#[]⟩, .string ⟨#[]⟩, .string ⟨#[]⟩, .string ⟨#[]⟩, .string ⟨#[]⟩, .string ⟨#[]⟩, .string ⟨#[]⟩, .string ⟨#[]⟩, .string ⟨#[]⟩, .string ⟨#[]⟩, .string ⟨#[]⟩, .string ⟨#[]⟩, .string ⟨#[]⟩, .string ⟨#[]⟩, .string ⟨#[]⟩, .nilFunc] 51)) := by
  subst hg
  refine ⟨fun j hj => ?_, World.cell?_alloc_new W _ _ 16⟩
  rw [World.cell?_alloc_new W _ _ j]
  match j, hj with
  | 0, _ => rfl
  | 1, _ => rfl
  | 2, _ => rfl
  | 3, _ => rfl
  | 4, _ => rfl
  | 5, _ => rfl
  | 6, _ => rfl
  | 7, _ => rfl
  | 8, _ => rfl
  | 9, _ => rfl
  | 10, _ => rfl
  | 11, _ => rfl
  | 12, _ => rfl
  | 13, _ => rfl
  | 14, _ => rfl
  | 15, _ => rfl
  | n + 16, h => exact absurd h (by omega)
theorem impl_PrColor.str_back (s : ByteArray) : strOfNums (bytesOf s) = s := by
  unfold strOfNums bytesOf
  simp only [List.map_map]
  have h : (fun x : Int => UInt8.ofNat x.toNat) ∘ (fun b : UInt8 => (b.toNat : Int)) = id := by
    funext b
    simp
  first
    | (rw [h]; simp; done)
    | (simp [h]; done)
set_option maxHeartbeats 8000000 in
set_option maxRecDepth 100000 in
theorem impl_PrColor.calls (a0 : ByteArray) (w : World) (hs : a0.size ≤ 2147483647) : Calls Try.prog 12 #[.string a0, impl_PrColor.bare] w fun e w' => e = .returned (.string a0) ∧ Below w.heap.size w w' := by
  unfold impl_PrColor.bare
  have kb : (convert 9 37 (.string a0)).run Try.prog (w.alloc (.cells #[.string ⟨#[]⟩, .string ⟨#[]⟩, .string ⟨#[]⟩, .string ⟨#[]⟩, .string ⟨#[]⟩, .string ⟨#[]⟩, .string ⟨#[]⟩, .string ⟨#[]⟩, .string ⟨#[]⟩, .string ⟨#[]⟩, .string ⟨#[]⟩, .string ⟨#[]⟩, .string ⟨#[]⟩, .string ⟨#[]⟩, .string ⟨#[]⟩, .string ⟨#[]⟩] 36)) = .ok (.slice (some ⟨w.heap.size + 1, 0, none⟩) a0.size (grownCap (w.alloc (.cells #[.string ⟨#[]⟩, .string ⟨#[]⟩, .string ⟨#[]⟩, .string ⟨#[]⟩, .string ⟨#[]⟩, .string ⟨#[]⟩, .string ⟨#[]⟩, .string ⟨#[]⟩, .string ⟨#[]⟩, .string ⟨#[]⟩, .string ⟨#[]⟩, .string ⟨#[]⟩, .string ⟨#[]⟩, .string ⟨#[]⟩, .string ⟨#[]⟩, .string ⟨#[]⟩] 36)) a0.size 0 5)) (impl_PrColor.W2 a0 w) := by
    have h := print_bytes (P := Try.prog) 9 37 5 Try.underlying9 Try.underlying37 Try.underlying5 a0 (w.alloc (.cells #[.string ⟨#[]⟩, .string ⟨#[]⟩, .string ⟨#[]⟩, .string ⟨#[]⟩, .string ⟨#[]⟩, .string ⟨#[]⟩, .string ⟨#[]⟩, .string ⟨#[]⟩, .string ⟨#[]⟩, .string ⟨#[]⟩, .string ⟨#[]⟩, .string ⟨#[]⟩, .string ⟨#[]⟩, .string ⟨#[]⟩, .string ⟨#[]⟩, .string ⟨#[]⟩] 36))
    rw [h]
    have e : (w.alloc (.cells #[.string ⟨#[]⟩, .string ⟨#[]⟩, .string ⟨#[]⟩, .string ⟨#[]⟩, .string ⟨#[]⟩, .string ⟨#[]⟩, .string ⟨#[]⟩, .string ⟨#[]⟩, .string ⟨#[]⟩, .string ⟨#[]⟩, .string ⟨#[]⟩, .string ⟨#[]⟩, .string ⟨#[]⟩, .string ⟨#[]⟩, .string ⟨#[]⟩, .string ⟨#[]⟩] 36)).heap.size = w.heap.size + 1 := by show (w.heap.push _).size = _; rw [Array.size_push]
    rw [e]; rfl
  have hr : Kd.C (Kd.int .u8) (impl_PrColor.W2 a0 w) (some ⟨w.heap.size + 1, 0, none⟩) (bytesOf a0).length (bytesOf a0) := by
    have e : (w.alloc (.cells #[.string ⟨#[]⟩, .string ⟨#[]⟩, .string ⟨#[]⟩, .string ⟨#[]⟩, .string ⟨#[]⟩, .string ⟨#[]⟩, .string ⟨#[]⟩, .string ⟨#[]⟩, .string ⟨#[]⟩, .string ⟨#[]⟩, .string ⟨#[]⟩, .string ⟨#[]⟩, .string ⟨#[]⟩, .string ⟨#[]⟩, .string ⟨#[]⟩, .string ⟨#[]⟩] 36)).heap.size = w.heap.size + 1 := by show (w.heap.push _).size = _; rw [Array.size_push]
    have h := Kd.C_of_reads (d := (0 : Int)) (h1 := fun _ => rfl) (bytes_reads (w.alloc (.cells #[.string ⟨#[]⟩, .string ⟨#[]⟩, .string ⟨#[]⟩, .string ⟨#[]⟩, .string ⟨#[]⟩, .string ⟨#[]⟩, .string ⟨#[]⟩, .string ⟨#[]⟩, .string ⟨#[]⟩, .string ⟨#[]⟩, .string ⟨#[]⟩, .string ⟨#[]⟩, .string ⟨#[]⟩, .string ⟨#[]⟩, .string ⟨#[]⟩, .string ⟨#[]⟩] 36)) 5 a0 (by omega))
    rw [e, ← bytesOf_length a0] at h
    exact h
  have hcap : a0.size ≤ grownCap (w.alloc (.cells #[.string ⟨#[]⟩, .string ⟨#[]⟩, .string ⟨#[]⟩, .string ⟨#[]⟩, .string ⟨#[]⟩, .string ⟨#[]⟩, .string ⟨#[]⟩, .string ⟨#[]⟩, .string ⟨#[]⟩, .string ⟨#[]⟩, .string ⟨#[]⟩, .string ⟨#[]⟩, .string ⟨#[]⟩, .string ⟨#[]⟩, .string ⟨#[]⟩, .string ⟨#[]⟩] 36)) a0.size 0 5 := grownCap_ge _ _ _ _
  have HR := Aside0.mk hr
  generalize grownCap (w.alloc (.cells #[.string ⟨#[]⟩, .string ⟨#[]⟩, .string ⟨#[]⟩, .string ⟨#[]⟩, .string ⟨#[]⟩, .string ⟨#[]⟩, .string ⟨#[]⟩, .string ⟨#[]⟩, .string ⟨#[]⟩, .string ⟨#[]⟩, .string ⟨#[]⟩, .string ⟨#[]⟩, .string ⟨#[]⟩, .string ⟨#[]⟩, .string ⟨#[]⟩, .string ⟨#[]⟩] 36)) a0.size 0 5 = cap at *
  have hlen := bytesOf_length a0
  have hsz := impl_PrColor.W2_size a0 w
  have hW := Aside0.mk (impl_PrColor.W2_below a0 w)
  have hc0 := impl_PrColor.W2_cell a0 w 0 (by omega)
  have hc1 := impl_PrColor.W2_cell a0 w 1 (by omega)
  have hc2 := impl_PrColor.W2_cell a0 w 2 (by omega)
  have hc3 := impl_PrColor.W2_cell a0 w 3 (by omega)
  have hc4 := impl_PrColor.W2_cell a0 w 4 (by omega)
  have hc5 := impl_PrColor.W2_cell a0 w 5 (by omega)
  have hc6 := impl_PrColor.W2_cell a0 w 6 (by omega)
  have hc7 := impl_PrColor.W2_cell a0 w 7 (by omega)
  have hc8 := impl_PrColor.W2_cell a0 w 8 (by omega)
  have hc9 := impl_PrColor.W2_cell a0 w 9 (by omega)
  have hc10 := impl_PrColor.W2_cell a0 w 10 (by omega)
  have hc11 := impl_PrColor.W2_cell a0 w 11 (by omega)
  have hc12 := impl_PrColor.W2_cell a0 w 12 (by omega)
  have hc13 := impl_PrColor.W2_cell a0 w 13 (by omega)
  have hc14 := impl_PrColor.W2_cell a0 w 14 (by omega)
  have hc15 := impl_PrColor.W2_cell a0 w 15 (by omega)
  generalize impl_PrColor.W2 a0 w = W2 at *
  rw [← hlen] at hcap kb
  have hl : (bytesOf a0).length ≤ 2147483647 := by omega
  have HL := Aside0.mk hlen
  have HCAP := Aside0.mk hcap
  have HLL := Aside0.mk hl
  clear hr hcap hlen hl hs
  have HC := pretty_Color.calls (some ⟨w.heap.size + 1, 0, none⟩) cap (w.heap.size + 2) (bytesOf a0) (W2.alloc (.cells #[.string ⟨#[]⟩, .string ⟨#[]⟩, .string ⟨#[]⟩, .string ⟨#[]⟩, .string ⟨#[]⟩, .string ⟨#[]⟩, .string ⟨#[]⟩, .string ⟨#[]⟩, .string ⟨#[]⟩, .string ⟨#[]⟩, .string ⟨#[]⟩, .string ⟨#[]⟩, .string ⟨#[]⟩, .string ⟨#[]⟩, .string ⟨#[]⟩, .string ⟨#[]⟩, .nilFunc] 51)) (Kd.C_alloc HR.out _) HCAP.out HLL.out (impl_PrColor.bare_new W2 _ hsz.symm)
  have HC' := Aside0.mk HC
  clear HC
  go_enter Try.func12, Try.ntmps12
  go_wp2_with (go_at_call 22; refine HC'.out.mono ?_; rintro e w' ⟨v1, rfl, ho, hb⟩; have hcv := own_string (P := Try.prog) Try.underlying37 Try.underlying5 Try.underlying9 ho; rw [impl_PrColor.str_back] at hcv; have HB := Aside0.mk hb; clear ho hb)
  go_ret
  exact ⟨rfl, below_step (below_alloc hW.out _) HB.out⟩
/-- prPlaces answers for every text. -/
theorem places_any (a0 : ByteArray) : ∃ k r1 r2 r3 r4 r5 r6, laws_prPlaces.f k a0 = some (r1, r2, r3, r4, r5, r6) := by
  unfold laws_prPlaces.f
  by_cases c : (a0.size : Int) > 4096
  · exact ⟨0, _, _, _, _, _, _, by rw [if_pos c]⟩
  · obtain ⟨r, hr, _⟩ := ReadXFnPrColorBare.places_tot a0 (by omega)
    obtain ⟨k, hk⟩ := hr.ex
    obtain ⟨r1, r2, r3, r4, r5, r6⟩ := r
    replace hk : spec_Places.f k a0 = some (r1, r2, r3, r4, r5, r6) := hk
    exact ⟨k, r1, r2, r3, r4, r5, r6, by rw [if_neg c, hk]; rfl⟩
set_option maxHeartbeats 8000000 in
set_option maxRecDepth 100000 in
theorem laws_FnPrColorBare.walk (a0 : ByteArray) (w : World) (w0 : a0.size ≤ 140737488351232) :
    Calls Try.prog 5 #[.string a0] w fun e w' => e = .returned (.bool true) ∧ Below w.heap.size w w' := by
  by_cases hs : a0.size ≤ 2147483647
  · obtain ⟨k, r1, r2, r3, r4, r5, r6, hk⟩ := places_any a0
    have HP := Aside0.mk fun W => laws_prPlaces.calls k a0 r1 r2 r3 r4 r5 r6 W hk
    have HS := Aside0.mk hs
    have q1 : (2147483647 < (a0.size : Int)) = False := eq_false (by omega)
    have q2 : (2147483647 < a0.size) = False := eq_false (by omega)
    clear hk hs
    cases r6
    · go_enter Try.func5, Try.ntmps5
      go_wp2_with (go_at_call 11; refine (HP.out _).mono ?_; rintro e w1 ⟨v3, v4, rfl, hr3, hr4, hb⟩; obtain ⟨A3, c3, rfl⟩ := Kd.R_slice hr3; obtain ⟨A4, c4, rfl⟩ := Kd.R_slice hr4; have HB := Aside0.mk hb; clear hr3 hr4 hb)
      go_ret
      exact ⟨rfl, below_alloc HB.out _⟩
    · go_enter Try.func5, Try.ntmps5
      go_wp2_with (first | (go_at_call 11; refine (HP.out _).mono ?_; rintro e w1 ⟨v3, v4, rfl, hr3, hr4, hb⟩; obtain ⟨A3, c3, rfl⟩ := Kd.R_slice hr3; obtain ⟨A4, c4, rfl⟩ := Kd.R_slice hr4; have HB := Aside0.mk hb; clear hr3 hr4 hb) | (go_at_call 12; refine (impl_PrColor.calls a0 _ HS.out).mono ?_; rintro e w2 ⟨rfl, hb⟩; have HB2 := Aside0.mk hb; clear hb))
      go_ret
      exact ⟨rfl, below_step (below_alloc HB.out _) HB2.out⟩
  · have q1 : (2147483647 < (a0.size : Int)) = True := eq_true (by omega)
    have q2 : (2147483647 < a0.size) = True := eq_true (by omega)
    go_enter Try.func5, Try.ntmps5
    go_wp2
    go_ret
    exact ⟨rfl, Below.refl _ _⟩

end Go.Proofs.Ytdllbnecbbggfaa.XFnPrColorBare
