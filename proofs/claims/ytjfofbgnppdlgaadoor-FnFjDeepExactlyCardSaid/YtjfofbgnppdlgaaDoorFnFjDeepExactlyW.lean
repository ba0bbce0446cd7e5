/- laws.FnFjDeepExactly, walked. -/
import Derived.Test.YtjfofbgnppdlgaaDoorFpNest
namespace Go.Proofs.YtjfofbgnppdlgaaDoor.Fp
open Go.RowKit Go.Proofs.YtjfofbgnppdlgaaDoorW.PrintWords Go.Proofs.YtjfofbgnppdlgaaDoorW.PrintLast Go.Proofs.YtjfofbgnppdlgaaDoorW.PrintMore
set_option linter.unusedVariables false
set_option linter.unusedSimpArgs false

theorem L_eq (num : Bool) : ∀ n j, L num n j = List.replicate n 91 ++ (one num ++ List.replicate (n + j) 93)
  | 0, j => by rw [L]; simp
  | n + 1, j => by rw [L, L_eq num n (j + 1), List.replicate_succ, show n + (j + 1) = n + 1 + j by omega]; rfl
theorem app_bytes (a b : ByteArray) : bytesOf (a ++ b) = bytesOf a ++ bytesOf b := by
  unfold bytesOf
  rw [ByteArray.data_append, Array.toList_append, List.map_append]
theorem app_one (a : ByteArray) (c : UInt8) : bytesOf (a ++ ⟨#[c]⟩) = bytesOf a ++ [(c.toNat : Int)] := app_bytes a _
theorem app_size (a : ByteArray) (c : UInt8) : (a ++ (⟨#[c]⟩ : ByteArray)).size = a.size + 1 := by rw [ByteArray.size_append]; rfl
theorem rep_snoc (n : Nat) (c : Int) : List.replicate n c ++ [c] = List.replicate (n + 1) c := by rw [List.replicate_succ']
theorem sz_of {a : ByteArray} {l : List Int} (h : bytesOf a = l) : a.size = l.length := by rw [← bytesOf_length, h]
set_option maxHeartbeats 8000000 in
set_option maxRecDepth 100000 in
theorem law (u : Int) (h0 : 0 ≤ u) (h1 : u ≤ 65535) (num : Bool) (w : World) :
    Calls Tryd.prog 4 #[.int .u16 u, .bool num] w fun e w' => e = .returned (.bool true) ∧ Below w.heap.size w w' := by
  obtain ⟨n, hn⟩ : ∃ n : Nat, u % 1500 + 1 = (n : Int) := ⟨(u % 1500 + 1).toNat, by omega⟩
  have hn0 : 0 < n := by omega
  have hn1 : n ≤ 1500 := by omega
  have HONE : Aside0 (∀ W, Calls Tryd.prog 5 #[.string ⟨#[91, 93]⟩] W fun e w' => (∃ k t A m c, e = .returned (.tuple #[.agg #[.int .i64 k, .string t, nilS, .slice A m c], .bool true])) ∧ Below W.heap.size W w') := ⟨fun W => readNest false 1 (by omega) (by omega) ⟨#[91, 93]⟩ rfl W⟩
  obtain ⟨ok, hok⟩ : ∃ x : Bool, decide (n + c1 num ≤ 300) = x := ⟨_, rfl⟩
  have HRD : Aside0 (∀ (a : ByteArray), bytesOf a = L num n 0 → ∀ W, Calls Tryd.prog 5 #[.string a] W fun e w' => (∃ k t A m c, e = .returned (.tuple #[.agg #[.int .i64 k, .string t, nilS, .slice A m c], .bool ok])) ∧ Below W.heap.size W w') := ⟨fun a h W => by rw [← hok]; exact readNest num n hn0 hn1 a h W⟩
  cases num with
  | true =>
    have hdk : decide ((n : Int) + 1 ≤ 300) = ok := by rw [← hok]; exact decide_eq_decide.mpr (by simp [c1]; omega)
    clear hok
    go_enter Tryd.func4, Tryd.ntmps4
    go_wp2
    clear h0 h1
    go_loop [6, 7] (fun v6 v7 => ∃ (i : Nat) (s : ByteArray), v6 = .string s ∧ v7 = .int .i64 (i : Int) ∧ i ≤ n ∧ s.size = i ∧ Aside0 (bytesOf s = List.replicate i 91)) (fun _ v7 => n - (intOf v7).toNat)
    case atStart => exact ⟨0, ⟨#[]⟩, rfl, rfl, Nat.zero_le _, rfl, ⟨rfl⟩⟩
    case round =>
      obtain ⟨i, s, rfl, rfl, hi, hs, HB⟩ := hrel
      by_cases hlt : i < n
      · have q1 : decide ((i : Int) < (n : Int)) = true := decide_eq_true (by omega)
        have HB' : Aside0 (bytesOf (s ++ ⟨#[91]⟩) = List.replicate (i + 1) 91) := ⟨by rw [app_one, HB.out]; exact rep_snoc i 91⟩
        have HS' : Aside0 ((s ++ (⟨#[91]⟩ : ByteArray)).size = i + 1) := ⟨by rw [app_size, hs]⟩
        go_wp2
        go_round
        case rel => exact ⟨i + 1, _, rfl, by go_num, by omega, HS'.out, HB'⟩
        case measure => simp [intOf]; omega
      · obtain rfl : i = n := by omega
        have q1 : decide ((i : Int) < (i : Int)) = false := decide_eq_false (by omega)
        have HS1 : Aside0 ((s ++ (⟨#[49]⟩ : ByteArray)).size = i + 1) := ⟨by rw [app_size, hs]⟩
        have HB1 : Aside0 (bytesOf (s ++ ⟨#[49]⟩) = List.replicate i 91 ++ [49]) := ⟨by rw [app_one, HB.out]; rfl⟩
        go_wp2
        clear hlt
        go_loop [6, 8] (fun v6 v8 => ∃ (j : Nat) (t : ByteArray), v6 = .string t ∧ v8 = .int .i64 (j : Int) ∧ j ≤ i ∧ t.size = i + 1 + j ∧ Aside0 (bytesOf t = List.replicate i 91 ++ ([49] ++ List.replicate j 93))) (fun _ v8 => i - (intOf v8).toNat)
        case atStart => exact ⟨0, _, rfl, rfl, Nat.zero_le _, HS1.out, ⟨by rw [HB1.out]; simp⟩⟩
        case round =>
          obtain ⟨j, t, rfl, rfl, hj, ht, HT⟩ := hrel
          by_cases hlt : j < i
          · have q2 : decide ((j : Int) < (i : Int)) = true := decide_eq_true (by omega)
            have HT' : Aside0 (bytesOf (t ++ ⟨#[93]⟩) = List.replicate i 91 ++ ([49] ++ List.replicate (j + 1) 93)) := ⟨by rw [app_one, HT.out, ← rep_snoc]; simp⟩
            have HS' : Aside0 ((t ++ (⟨#[93]⟩ : ByteArray)).size = i + 1 + (j + 1)) := ⟨by rw [app_size, ht]; omega⟩
            go_wp2
            go_round
            case rel => exact ⟨j + 1, _, rfl, by go_num, by omega, HS'.out, HT'⟩
            case measure => simp [intOf]; omega
          · obtain rfl : j = i := by omega
            have q2 : decide ((j : Int) < (j : Int)) = false := decide_eq_false (by omega)
            have HTL : Aside0 (bytesOf t = L true j 0) := ⟨by rw [HT.out, L_eq]; rfl⟩
            clear HT HB HB1 HS1
            go_wp2_with (first
              | (go_at_call_of 5 t; (refine (HRD.out t HTL.out _).mono ?_); rintro e w1 ⟨⟨k1, t1, A1, m1, cc1, rfl⟩, hb⟩; have HB1 := Aside0.mk hb; clear hb)
              | (go_at_call 5; (refine (HONE.out _).mono ?_); rintro e w2 ⟨⟨k2, t2, A2, m2, cc2, rfl⟩, hb⟩; have HB2 := Aside0.mk hb; clear hb))
            go_ret
            have HB3 := HB1.out.trans ((below_new HB2.out).mono HB1.out.size)
            exact ⟨rfl, HB3.alloc HB3.size _⟩
  | false =>
    have hdk : decide ((n : Int) ≤ 300) = ok := by rw [← hok]; exact decide_eq_decide.mpr (by simp [c1]; omega)
    clear hok
    go_enter Tryd.func4, Tryd.ntmps4
    go_wp2
    clear h0 h1
    go_loop [6, 7] (fun v6 v7 => ∃ (i : Nat) (s : ByteArray), v6 = .string s ∧ v7 = .int .i64 (i : Int) ∧ i ≤ n ∧ s.size = i ∧ Aside0 (bytesOf s = List.replicate i 91)) (fun _ v7 => n - (intOf v7).toNat)
    case atStart => exact ⟨0, ⟨#[]⟩, rfl, rfl, Nat.zero_le _, rfl, ⟨rfl⟩⟩
    case round =>
      obtain ⟨i, s, rfl, rfl, hi, hs, HB⟩ := hrel
      by_cases hlt : i < n
      · have q1 : decide ((i : Int) < (n : Int)) = true := decide_eq_true (by omega)
        have HB' : Aside0 (bytesOf (s ++ ⟨#[91]⟩) = List.replicate (i + 1) 91) := ⟨by rw [app_one, HB.out]; exact rep_snoc i 91⟩
        have HS' : Aside0 ((s ++ (⟨#[91]⟩ : ByteArray)).size = i + 1) := ⟨by rw [app_size, hs]⟩
        go_wp2
        go_round
        case rel => exact ⟨i + 1, _, rfl, by go_num, by omega, HS'.out, HB'⟩
        case measure => simp [intOf]; omega
      · obtain rfl : i = n := by omega
        have q1 : decide ((i : Int) < (i : Int)) = false := decide_eq_false (by omega)
        have HS1 : Aside0 (s.size = i) := ⟨hs⟩
        have HB1 : Aside0 (bytesOf s = List.replicate i 91 ++ []) := ⟨by rw [HB.out, List.append_nil]⟩
        go_wp2
        clear hlt
        go_loop [6, 8] (fun v6 v8 => ∃ (j : Nat) (t : ByteArray), v6 = .string t ∧ v8 = .int .i64 (j : Int) ∧ j ≤ i ∧ t.size = i + j ∧ Aside0 (bytesOf t = List.replicate i 91 ++ ([] ++ List.replicate j 93))) (fun _ v8 => i - (intOf v8).toNat)
        case atStart => exact ⟨0, _, rfl, rfl, Nat.zero_le _, HS1.out, ⟨by rw [HB1.out]; simp⟩⟩
        case round =>
          obtain ⟨j, t, rfl, rfl, hj, ht, HT⟩ := hrel
          by_cases hlt : j < i
          · have q2 : decide ((j : Int) < (i : Int)) = true := decide_eq_true (by omega)
            have HT' : Aside0 (bytesOf (t ++ ⟨#[93]⟩) = List.replicate i 91 ++ ([] ++ List.replicate (j + 1) 93)) := ⟨by rw [app_one, HT.out, ← rep_snoc]; simp⟩
            have HS' : Aside0 ((t ++ (⟨#[93]⟩ : ByteArray)).size = i + (j + 1)) := ⟨by rw [app_size, ht]; omega⟩
            go_wp2
            go_round
            case rel => exact ⟨j + 1, _, rfl, by go_num, by omega, HS'.out, HT'⟩
            case measure => simp [intOf]; omega
          · obtain rfl : j = i := by omega
            have q2 : decide ((j : Int) < (j : Int)) = false := decide_eq_false (by omega)
            have HTL : Aside0 (bytesOf t = L false j 0) := ⟨by rw [HT.out, L_eq]; rfl⟩
            clear HT HB HB1 HS1
            go_wp2_with (first
              | (go_at_call_of 5 t; (refine (HRD.out t HTL.out _).mono ?_); rintro e w1 ⟨⟨k1, t1, A1, m1, cc1, rfl⟩, hb⟩; have HB1 := Aside0.mk hb; clear hb)
              | (go_at_call 5; (refine (HONE.out _).mono ?_); rintro e w2 ⟨⟨k2, t2, A2, m2, cc2, rfl⟩, hb⟩; have HB2 := Aside0.mk hb; clear hb))
            go_ret
            have HB3 := HB1.out.trans ((below_new HB2.out).mono HB1.out.size)
            exact ⟨rfl, HB3.alloc HB3.size _⟩
end Go.Proofs.YtjfofbgnppdlgaaDoor.Fp
