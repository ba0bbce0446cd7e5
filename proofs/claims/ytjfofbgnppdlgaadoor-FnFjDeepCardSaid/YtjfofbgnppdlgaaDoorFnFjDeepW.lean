/- laws.FnFjDeep, walked. -/
import Derived.Test.YtjfofbgnppdlgaaDoorFpNest
namespace Go.Proofs.YtjfofbgnppdlgaaDoor.Fp
open Go.RowKit Go.Proofs.YtjfofbgnppdlgaaDoorW.PrintWords Go.Proofs.YtjfofbgnppdlgaaDoorW.PrintLast Go.Proofs.YtjfofbgnppdlgaaDoorW.PrintMore
set_option linter.unusedVariables false
set_option linter.unusedSimpArgs false

theorem L_eq (num : Bool) : ∀ n j, L num n j = List.replicate n 91 ++ (one num ++ List.replicate (n + j) 93)
  | 0, j => by rw [L]; simp
  | n + 1, j => by rw [L, L_eq num n (j + 1), List.replicate_succ, show n + (j + 1) = n + 1 + j by omega]; rfl
/-- The opening texts of n objects. -/
def OP : Nat → List Int
  | 0 => []
  | n + 1 => OP n ++ [123, 34, 97, 34, 58]
theorem OP_cons : ∀ n, OP (n + 1) = [123, 34, 97, 34, 58] ++ OP n
  | 0 => rfl
  | n + 1 => by
    have h := OP_cons n
    show OP (n + 1) ++ _ = _ ++ (OP n ++ _)
    rw [h, List.append_assoc]
theorem LO_eq : ∀ n j, LO n j = OP n ++ ([123, 125] ++ List.replicate (n + j) 125)
  | 0, j => by simp [LO, OP]
  | n + 1, j => by rw [LO, LO_eq n (j + 1), OP_cons, show n + (j + 1) = n + 1 + j by omega]; rfl
theorem OP_len : ∀ n, (OP n).length = 5 * n
  | 0 => rfl
  | n + 1 => by rw [OP, List.length_append, OP_len n]; simp; omega
theorem app_bytes (a b : ByteArray) : bytesOf (a ++ b) = bytesOf a ++ bytesOf b := by
  unfold bytesOf
  rw [ByteArray.data_append, Array.toList_append, List.map_append]
theorem app_one (a : ByteArray) (c : UInt8) : bytesOf (a ++ ⟨#[c]⟩) = bytesOf a ++ [(c.toNat : Int)] := app_bytes a _
theorem app_size (a : ByteArray) (c : UInt8) : (a ++ (⟨#[c]⟩ : ByteArray)).size = a.size + 1 := by rw [ByteArray.size_append]; rfl
theorem rep_snoc (n : Nat) (c : Int) : List.replicate n c ++ [c] = List.replicate (n + 1) c := by rw [List.replicate_succ']
set_option maxHeartbeats 8000000 in
set_option maxRecDepth 100000 in
theorem law (u : Int) (h0 : 0 ≤ u) (h1 : u ≤ 65535) (obj : Bool) (w : World) :
    Calls Tryd.prog 3 #[.int .u16 u, .bool obj] w fun e w' => e = .returned (.bool true) ∧ Below w.heap.size w w' := by
  obtain ⟨m, hm⟩ : ∃ m : Nat, u % 1501 = (m : Int) := ⟨(u % 1501).toNat, by omega⟩
  have hm1 : m ≤ 1500 := by omega
  by_cases z0 : m = 0
  · subst z0
    go_enter Tryd.func3, Tryd.ntmps3
    go_wp2
    go_ret
    exact ⟨rfl, Below.refl _ _⟩
  by_cases z1 : m = 300
  · subst z1
    go_enter Tryd.func3, Tryd.ntmps3
    go_wp2
    go_ret
    exact ⟨rfl, Below.refl _ _⟩
  obtain ⟨n, rfl⟩ : ∃ n, m = n + 1 := ⟨m - 1, by omega⟩
  replace hm : u % 1501 = (n : Int) + 1 := by omega
  have hn1 : n ≤ 1499 := by omega
  have q0 : ((n : Int) + 1 == 0) = false := beq_eq_false_iff_ne.mpr (by omega)
  have q3 : ((n : Int) + 1 == 300) = false := beq_eq_false_iff_ne.mpr (by omega)
  have HONE : Aside0 (∀ W, Calls Tryd.prog 5 #[.string ⟨#[91, 91, 49, 93, 93]⟩] W fun e w' => (∃ k t A0 m0 c0 A n c, e = .returned (.tuple #[.agg #[.int .i64 k, .string t, .slice A0 m0 c0, .slice A n c], .bool true])) ∧ Below W.heap.size W w') := ⟨fun W => readNest true 2 (by omega) (by omega) ⟨#[91, 91, 49, 93, 93]⟩ rfl W⟩
  obtain ⟨ok, hok⟩ : ∃ x : Bool, decide (n + 1 ≤ 300) = x := ⟨_, rfl⟩
  have hdk : decide ((n : Int) + 1 < 300) = ok := by rw [← hok]; exact decide_eq_decide.mpr (by omega)
  cases obj with
  | false =>
    have HRD : Aside0 (∀ (a : ByteArray), bytesOf a = L false (n + 1) 0 → ∀ W, Calls Tryd.prog 5 #[.string a] W fun e w' => (∃ k t A0 m0 c0 A n c, e = .returned (.tuple #[.agg #[.int .i64 k, .string t, .slice A0 m0 c0, .slice A n c], .bool ok])) ∧ Below W.heap.size W w') := ⟨fun a h W => by rw [← hok]; exact readNest false (n + 1) (by omega) (by omega) a h W⟩
    clear hok
    go_enter Tryd.func3, Tryd.ntmps3
    go_wp2
    go_loop [9, 10] (fun v9 v10 => ∃ (i : Nat) (s : ByteArray), v9 = .string s ∧ v10 = .int .i64 (i : Int) ∧ i ≤ n + 1 ∧ s.size = i ∧ Aside0 (bytesOf s = List.replicate i 91)) (fun _ v10 => n + 1 - (intOf v10).toNat)
    case atStart => exact ⟨0, ⟨#[]⟩, rfl, rfl, Nat.zero_le _, rfl, ⟨rfl⟩⟩
    case round =>
      obtain ⟨i, s, rfl, rfl, hi, hs, HB⟩ := hrel
      by_cases hlt : i < n + 1
      · have q1 : decide ((i : Int) < (n : Int) + 1) = true := decide_eq_true (by omega)
        have HB' : Aside0 (bytesOf (s ++ ⟨#[91]⟩) = List.replicate (i + 1) 91) := ⟨by rw [app_one, HB.out]; exact rep_snoc i 91⟩
        have HS' : Aside0 ((s ++ (⟨#[91]⟩ : ByteArray)).size = i + 1) := ⟨by rw [app_size, hs]⟩
        go_wp2
        go_round
        case rel => exact ⟨i + 1, _, rfl, by go_num, by omega, HS'.out, HB'⟩
        case measure => simp [intOf]; omega
      · have q1 : decide ((i : Int) < (n : Int) + 1) = false := decide_eq_false (by omega)
        obtain rfl : i = n + 1 := by omega
        have HS1 : Aside0 ((s ++ (⟨#[]⟩ : ByteArray)).size = n + 1) := ⟨by rw [ByteArray.size_append, hs]; rfl⟩
        have HB1 : Aside0 (bytesOf (s ++ (⟨#[]⟩ : ByteArray)) = List.replicate (n + 1) 91 ++ []) := ⟨by rw [app_bytes, HB.out]; rfl⟩
        go_wp2
        clear hlt
        go_loop [9, 11] (fun v9 v11 => ∃ (j : Nat) (t : ByteArray), v9 = .string t ∧ v11 = .int .i64 (j : Int) ∧ j ≤ n + 1 ∧ t.size = n + 1 + j ∧ Aside0 (bytesOf t = List.replicate (n + 1) 91 ++ ([] ++ List.replicate j 93))) (fun _ v11 => n + 1 - (intOf v11).toNat)
        case atStart => exact ⟨0, _, rfl, rfl, Nat.zero_le _, HS1.out, ⟨by rw [HB1.out]; rfl⟩⟩
        case round =>
          obtain ⟨j, t, rfl, rfl, hj, ht, HT⟩ := hrel
          by_cases hlt : j < n + 1
          · have q2 : decide ((j : Int) < (n : Int) + 1) = true := decide_eq_true (by omega)
            have HT' : Aside0 (bytesOf (t ++ ⟨#[93]⟩) = List.replicate (n + 1) 91 ++ ([] ++ List.replicate (j + 1) 93)) := ⟨by rw [app_one, HT.out, ← rep_snoc j, List.append_assoc, List.append_assoc]; rfl⟩
            have HS' : Aside0 ((t ++ (⟨#[93]⟩ : ByteArray)).size = n + 1 + (j + 1)) := ⟨by rw [app_size, ht]; omega⟩
            go_wp2
            go_round
            case rel => exact ⟨j + 1, _, rfl, by go_num, by omega, HS'.out, HT'⟩
            case measure => simp [intOf]; omega
          · have q2 : decide ((j : Int) < (n : Int) + 1) = false := decide_eq_false (by omega)
            have HTL : Aside0 (bytesOf t = L false (n + 1) 0) := ⟨by rw [HT.out, L_eq, show j = n + 1 by omega]; rfl⟩
            clear HT HB HB1 HS1 hlt
            go_wp2_with (first
              | (go_at_call_of 5 t; (refine (HRD.out t HTL.out _).mono ?_); rintro e w1 ⟨⟨k1, t1, A01, m01, c01, A1, m1, cc1, rfl⟩, hb⟩; have HB1 := Aside0.mk hb; clear hb)
              | (go_at_call 5; (refine (HONE.out _).mono ?_); rintro e w2 ⟨⟨k2, t2, A02, m02, c02, A2, m2, cc2, rfl⟩, hb⟩; have HB2 := Aside0.mk hb; clear hb))
            go_ret
            have HB3 := HB1.out.trans ((below_new HB2.out).mono HB1.out.size)
            exact ⟨rfl, HB3.alloc HB3.size _⟩
  | true =>
    have HRD : Aside0 (∀ (a : ByteArray), bytesOf a = LO n 0 → ∀ W, Calls Tryd.prog 5 #[.string a] W fun e w' => (∃ k t A0 m0 c0 A n c, e = .returned (.tuple #[.agg #[.int .i64 k, .string t, .slice A0 m0 c0, .slice A n c], .bool ok])) ∧ Below W.heap.size W w') := ⟨fun a h W => by rw [← hok]; exact readNestO n (by omega) a h W⟩
    clear hok
    go_enter Tryd.func3, Tryd.ntmps3
    go_wp2
    go_loop [9, 10] (fun v9 v10 => ∃ (i : Nat) (s : ByteArray), v9 = .string s ∧ v10 = .int .i64 (i : Int) ∧ i ≤ n ∧ s.size = 5 * i ∧ Aside0 (bytesOf s = OP i)) (fun _ v10 => n - (intOf v10).toNat)
    case atStart => exact ⟨0, ⟨#[]⟩, rfl, rfl, Nat.zero_le _, rfl, ⟨rfl⟩⟩
    case round =>
      obtain ⟨i, s, rfl, rfl, hi, hs, HB⟩ := hrel
      by_cases hlt : i < n
      · have q1 : decide ((i : Int) < (n : Int)) = true := decide_eq_true (by omega)
        have HB' : Aside0 (bytesOf (s ++ ⟨#[123, 34, 97, 34, 58]⟩) = OP (i + 1)) := ⟨by rw [app_bytes, HB.out]; rfl⟩
        have HS' : Aside0 ((s ++ (⟨#[123, 34, 97, 34, 58]⟩ : ByteArray)).size = 5 * (i + 1)) := ⟨by rw [ByteArray.size_append, hs]; show 5 * i + 5 = _; omega⟩
        go_wp2
        go_round
        case rel => exact ⟨i + 1, _, rfl, by go_num, by omega, HS'.out, HB'⟩
        case measure => simp [intOf]; omega
      · obtain rfl : i = n := by omega
        have q1 : decide ((i : Int) < (i : Int)) = false := decide_eq_false (by omega)
        have HS1 : Aside0 ((s ++ (⟨#[123, 125]⟩ : ByteArray)).size = 5 * i + 2) := ⟨by rw [ByteArray.size_append, hs]; rfl⟩
        have HB1 : Aside0 (bytesOf (s ++ ⟨#[123, 125]⟩) = OP i ++ [123, 125]) := ⟨by rw [app_bytes, HB.out]; rfl⟩
        go_wp2
        clear hlt
        go_loop [9, 11] (fun v9 v11 => ∃ (j : Nat) (t : ByteArray), v9 = .string t ∧ v11 = .int .i64 (j : Int) ∧ j ≤ i ∧ t.size = 5 * i + 2 + j ∧ Aside0 (bytesOf t = OP i ++ ([123, 125] ++ List.replicate j 125))) (fun _ v11 => i - (intOf v11).toNat)
        case atStart => exact ⟨0, _, rfl, rfl, Nat.zero_le _, HS1.out, ⟨by rw [HB1.out]; simp⟩⟩
        case round =>
          obtain ⟨j, t, rfl, rfl, hj, ht, HT⟩ := hrel
          by_cases hlt : j < i
          · have q2 : decide ((j : Int) < (i : Int)) = true := decide_eq_true (by omega)
            have HT' : Aside0 (bytesOf (t ++ ⟨#[125]⟩) = OP i ++ ([123, 125] ++ List.replicate (j + 1) 125)) := ⟨by rw [app_one, HT.out, ← rep_snoc j, List.append_assoc, List.append_assoc]; rfl⟩
            have HS' : Aside0 ((t ++ (⟨#[125]⟩ : ByteArray)).size = 5 * i + 2 + (j + 1)) := ⟨by rw [app_size, ht]; omega⟩
            go_wp2
            go_round
            case rel => exact ⟨j + 1, _, rfl, by go_num, by omega, HS'.out, HT'⟩
            case measure => simp [intOf]; omega
          · obtain rfl : j = i := by omega
            have q2 : decide ((j : Int) < (j : Int)) = false := decide_eq_false (by omega)
            have HTL : Aside0 (bytesOf t = LO j 0) := ⟨by rw [HT.out, LO_eq]; rfl⟩
            clear HT HB HB1 HS1 hlt
            go_wp2_with (first
              | (go_at_call_of 5 t; (refine (HRD.out t HTL.out _).mono ?_); rintro e w1 ⟨⟨k1, t1, A01, m01, c01, A1, m1, cc1, rfl⟩, hb⟩; have HB1 := Aside0.mk hb; clear hb)
              | (go_at_call 5; (refine (HONE.out _).mono ?_); rintro e w2 ⟨⟨k2, t2, A02, m02, c02, A2, m2, cc2, rfl⟩, hb⟩; have HB2 := Aside0.mk hb; clear hb))
            go_ret
            have HB3 := HB1.out.trans ((below_new HB2.out).mono HB1.out.size)
            exact ⟨rfl, HB3.alloc HB3.size _⟩
end Go.Proofs.YtjfofbgnppdlgaaDoor.Fp
