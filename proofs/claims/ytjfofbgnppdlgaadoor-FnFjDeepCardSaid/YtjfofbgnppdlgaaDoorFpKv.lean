/- fastjson's getKV, walked, the place of one member more. -/
import Derived.Test.YtjfofbgnppdlgaaDoorFpObj
namespace Go.Proofs.YtjfofbgnppdlgaaDoor.Fp
open Go.RowKit Go.Proofs.YtjfofbgnppdlgaaDoorW.PrintWords Go.Proofs.YtjfofbgnppdlgaaDoorW.PrintLast Go.Proofs.YtjfofbgnppdlgaaDoorW.PrintMore
set_option linter.unusedVariables false
set_option linter.unusedSimpArgs false

theorem kv_keep {w W w1 : World} {b : Nat} {ob : Obj} {cur : Array Value} (h : w.heap[b]? = some (.cells cur TV (0, 0))) (hw : W.heap = w.heap) {row : Option Nat} (hr : some b ≠ row) (g : (W.alloc ob).grownBy w1 row) : w1.heap[b]? = some (.cells cur TV (0, 0)) := by
  have hb := heap_lt h
  rw [← hw] at hb h
  exact (g.block b (by rw [alloc_size]; omega) hr).trans ((heap_alloc_old W ob hb).trans h)
theorem kv_cell {w w1 : World} {b o : Nat} {cur : Array Value} {v : Value} (h : w.heap[b]? = some (.cells cur TV (0, 0))) (h1 : w1.heap[b]? = some (.cells cur TV (0, 0))) (hc : w.cell? ⟨b, o, none⟩ = some v) : w1.cell? ⟨b, o, none⟩ = some v := by
  rw [← hc]
  exact World.cell?_of_block (a := ⟨b, o, none⟩) (h1.trans h.symm)
/-- What getKV leaves. -/
def KvSaid (lo m b o : Nat) (kv : Value) (xs : List Value) (w : World) (e : Ending) (w' : World) : Prop :=
  ∃ g c xs' W, e = .returned (.pointer (some ⟨g, m * 2, none⟩)) ∧ W.ownsRow lo TK 2 (.slice (some ⟨g, 0, none⟩) (m + 1) c) (m + 1) xs' ∧ xs'.take (m * 2) = xs ∧ w.grownBy W kv.ownBlock ∧ (some g = kv.ownBlock ∨ w.heap.size ≤ g) ∧
    w'.heap = (W.setCell ⟨b, o, none⟩ (.slice (some ⟨g, 0, none⟩) (m + 1) c)).heap ∧ (w'.os = w.os ∧ w'.tape = w.tape ∧ w'.output = w.output)
theorem row_ne {w : World} {lo m b : Nat} {kv : Value} {xs : List Value} {cur : Array Value} (h : w.heap[b]? = some (.cells cur TV (0, 0))) (hR : w.ownsRow lo TK 2 kv m xs) : some b ≠ kv.ownBlock := fun e => by
  rcases hR.2 with ⟨rfl, _⟩ | ⟨g, cap, cur', rfl, _, h2, _⟩
  · cases e
  · simp only [Value.ownBlock, Option.some.injEq] at e
    subst e
    rw [h] at h2
    simp only [Option.some.injEq, Obj.cells.injEq] at h2
    exact absurd h2.2.1 (by decide)
set_option maxHeartbeats 8000000 in
set_option maxRecDepth 100000 in
theorem getKV (w : World) (lo m b o : Nat) (kv : Value) (xs : List Value) (hlo : lo ≤ w.heap.size) (hm : m ≤ 1000000) (hb : ∃ cur, w.heap[b]? = some (.cells cur TV (0, 0))) (h0 : w.cell? ⟨b, o, none⟩ = some kv) (hR : w.ownsRow lo TK 2 kv m xs) :
    Calls Tryd.prog 36 #[.pointer (some ⟨b, o, none⟩)] w fun e w' => KvSaid lo m b o kv xs w e w' := by
  have HL := Aside0.mk hlo
  have HM := Aside0.mk hm
  have H0 := Aside0.mk h0
  have HR := Aside0.mk hR
  obtain ⟨cur, hcur⟩ := hb
  have HCU := Aside0.mk hcur
  have HNE := Aside0.mk (row_ne hcur hR)
  have hf0 := free_of ⟨_, hcur⟩
  clear hlo hcur
  rcases hR.2 with ⟨rfl, rfl⟩ | ⟨g0, cap, cur0, rfl, r1, r2, r3, r4, r5, r6⟩
  · clear hR hf0
    go_enter Tryd.func36, Tryd.ntmps36
    go_wp2
    go_quiet (fail)
    go_wp2_with (at_builtin; refine wp_kv _ lo 0 nilS xs HR.out HL.out (by omega) rfl _ _ rfl rfl rfl ?_; intro g c w1 k1 k2 k3; have e1 := kv_keep HCU.out (by exact rfl) HNE.out k2; have hc1 := kv_cell HCU.out e1 H0.out; have hf1 := free_of ⟨_, e1⟩; have K1 := Aside0.mk k1; have K2 := Aside0.mk k2; have K3 := Aside0.mk k3; clear k1 k2 k3 e1 h0)
    go_quiet (fail)
    go_wp2
    go_ret
    refine ⟨g, c, _, w1, rfl, K1.out, by simp [show xs = [] from List.eq_nil_of_length_eq_zero (by simpa using HR.out.1)], ⟨K2.out.os, K2.out.tape, K2.out.output, ?_, ?_⟩, ?_, rfl, ⟨K2.out.os, K2.out.tape, K2.out.output⟩⟩
    · have h := K2.out.size; rw [alloc_size] at h; exact Nat.le_trans (Nat.le_succ _) h
    · intro k h1 h2
      exact (K2.out.block k (by rw [alloc_size]; exact Nat.lt_succ_of_lt h1) h2).trans (heap_alloc_old _ _ h1)
    · rcases K3.out with e | e
      · exact .inl e
      · exact .inr (by rw [e]; exact Nat.le_succ _)
  · have b1 : (m : Int) ≤ 1000000 := by omega
    by_cases hlt : m < cap
    · have q1 : decide ((m : Int) < (cap : Int)) = true := decide_eq_true (by omega)
      have q2 : ((m : Int) + 1 ≤ (cap : Int)) = True := eq_true (by omega)
      have HG : Aside0 (w.ownsRow lo TK 2 (.slice (some ⟨g0, 0, none⟩) (m + 1) cap) (m + 1) (cur0.toList.take ((m + 1) * 2))) := ⟨by rw [List.length_take, Array.length_toList, r5]; omega, .inr ⟨g0, cap, cur0, rfl, r1, r2, hlt, r4, r5, rfl⟩⟩
      have HT : Aside0 ((cur0.toList.take ((m + 1) * 2)).take (m * 2) = xs) := ⟨by rw [List.take_take, ← r6]; congr 1; omega⟩
      have HS : Aside0 (∀ u, (w.setCell ⟨b, o, none⟩ u).cell? ⟨b, o, none⟩ = some u) := ⟨fun u => World.cell?_setCell_same _ _ _ h0⟩
      clear hR r1 r2 r3 r4 r5 r6
      go_enter Tryd.func36, Tryd.ntmps36
      go_wp2
      go_quiet (fail)
      go_wp2
      go_region
      all_goals
        go_wp2
        go_quiet (fail)
        go_wp2
        go_ret
        exact ⟨g0, cap, _, w, rfl, HG.out, HT.out, ⟨rfl, rfl, rfl, Nat.le_refl _, fun _ _ _ => rfl⟩, .inl rfl, rfl, ⟨rfl, rfl, rfl⟩⟩
    · obtain rfl : cap = m := by omega
      have q1 : decide ((cap : Int) < (cap : Int)) = false := decide_eq_false (by omega)
      have HX : Aside0 (xs.length = cap * 2) := ⟨hR.1⟩
      clear hR r1 r2 r3 r4 r5 r6
      go_enter Tryd.func36, Tryd.ntmps36
      go_wp2
      go_quiet (fail)
      go_wp2_with (at_builtin; refine wp_kv _ lo cap (.slice (some ⟨g0, 0, none⟩) cap cap) xs HR.out HL.out HM.out rfl _ _ rfl rfl rfl ?_; intro g c w1 k1 k2 k3; have e1 := kv_keep HCU.out (by exact rfl) HNE.out k2; have hc1 := kv_cell HCU.out e1 H0.out; have hf1 := free_of ⟨_, e1⟩; have K1 := Aside0.mk k1; have K2 := Aside0.mk k2; have K3 := Aside0.mk k3; clear k1 k2 k3 e1 h0)
      go_quiet (fail)
      go_wp2
      go_ret
      refine ⟨g, c, _, w1, rfl, K1.out, by rw [List.take_left' HX.out], ⟨K2.out.os, K2.out.tape, K2.out.output, ?_, ?_⟩, ?_, rfl, ⟨K2.out.os, K2.out.tape, K2.out.output⟩⟩
      · have h := K2.out.size; rw [alloc_size] at h; exact Nat.le_trans (Nat.le_succ _) h
      · intro k h1 h2
        exact (K2.out.block k (by rw [alloc_size]; exact Nat.lt_succ_of_lt h1) h2).trans (heap_alloc_old _ _ h1)
      · rcases K3.out with e | e
        · exact .inl e
        · exact .inr (by rw [e]; exact Nat.le_succ _)
end Go.Proofs.YtjfofbgnppdlgaaDoor.Fp
