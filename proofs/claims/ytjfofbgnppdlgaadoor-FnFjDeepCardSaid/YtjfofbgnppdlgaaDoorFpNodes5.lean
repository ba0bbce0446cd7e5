/- impl's fjNodes and fjNode of every value. -/
import Derived.Test.YtjfofbgnppdlgaaDoorFpNodes4
namespace Go.Proofs.YtjfofbgnppdlgaaDoor.Fp
open Go.RowKit Go.Proofs.YtjfofbgnppdlgaaDoorW.PrintWords Go.Proofs.YtjfofbgnppdlgaaDoorW.PrintLast Go.Proofs.YtjfofbgnppdlgaaDoorW.PrintMore
open Go.Proofs.YtjfofbgnppdlgaaDoor.FjW (cut cut_cut cut_size cut_bytes cut_zero cut_bt bt_out D rd_D rd_D0 D_drop D_len D_nil D_cons ws_at skipWS errNew ixOf ixCall ix_or)
set_option linter.unusedVariables false
set_option linter.unusedSimpArgs false

theorem RowIs.row {w : World} {F : Addr → Prop} {av : Value} {ps : List (Nat × Nat)} (h : RowIs w F av ps) : RowIs w (Rw av) av ps := by
  rcases h with h | ⟨ab, cap, rfl, h1, h2⟩
  · exact .inl h
  · exact .inr ⟨ab, cap, rfl, h1, fun i hi => ⟨(h2 i hi).1, ⟨rfl, rfl⟩⟩⟩
/-- What fjNodes keeps while it goes. -/
structure Nds (w wr : World) (i : Nat) (Fk : Addr → Prop) (av : Value) (ps : List (Nat × Nat)) (vs : List FV) (A : Option Addr) (c : Nat) : Prop where
  own : ∃ xs, wr.ownsRow w.heap.size TN 4 (.slice A i c) i xs
  fr : FrL w.heap.size w wr Fk
  rest : Rest wr Fk ps vs i
  row : RowIs wr (Rw av) av ps
theorem Nds.step {w wr w2 w3 : World} {i : Nat} {Fk F1 F2 : Addr → Prop} {av : Value} {ps : List (Nat × Nat)} {vs : List FV} {A A3 : Option Addr} {c c3 : Nat} {xs3 : List Value} (h : Nds w wr i Fk av ps vs A c) (h2 : Fr wr w2 F1) (hb : Below w.heap.size w2 w3) (h3 : w3.ownsRow w.heap.size TN 4 (.slice A3 (i + 1) c3) (i + 1) xs3)
    (hs1 : ∀ x, F1 x → Fk x) (hs2 : ∀ x, F2 x → Fk x) (hd : ∀ x, F1 x → F2 x → False) (hR : Reps wr F2 (ps.drop (i + 1)) (vs.drop (i + 1))) (hp : ∀ x, Fk x → x.spot = none ∧ x.block < w.heap.size) (ha : ∀ x, Fk x → some x.block ≠ av.ownBlock) (hk : ∀ k, av.ownBlock = some k → k < w.heap.size) : Nds w w3 (i + 1) Fk av ps vs A3 c3 := by
  have hs := h.fr.size
  have hs3 := h2.size
  have hrw : ∀ x, Rw av x → x.spot = none ∧ x.block < w.heap.size := fun x hx => ⟨hx.1, hk _ hx.2.symm⟩
  have hkb : ∀ {G : Addr → Prop}, (∀ x, G x → x.spot = none ∧ x.block < w.heap.size) → Keep w2 w3 G := fun hG x hx => by
    have e := hb.block x.block (hG x hx).2
    exact ⟨World.cell?_of_block e, fun cur T hc => ⟨cur, e.trans hc⟩⟩
  refine ⟨⟨_, h3⟩, (h.fr.trans ((h2.mono hs1).toL _)).bel hb, ⟨F2, ?_, hs2⟩, ?_⟩
  · exact (hR.kept (h2.keep (fun x hx => ⟨(hp x (hs2 x hx)).1, Nat.lt_of_lt_of_le (hp x (hs2 x hx)).2 hs⟩) fun x a b => hd x b a) fun _ hx => hx).kept (hkb fun x hx => hp x (hs2 x hx)) fun _ hx => hx
  · exact (h.row.kept (h2.keep (fun x hx => ⟨(hrw x hx).1, Nat.lt_of_lt_of_le (hrw x hx).2 hs⟩) fun x a b => ha x (hs1 x b) a.2) fun _ hx => hx).kept (hkb hrw) fun _ hx => hx
set_option maxHeartbeats 4000000 in
set_option maxRecDepth 100000 in
theorem nodesF (vs : List FV) (hl : vs.length ≤ 1000000) (hS : ∀ v, v ∈ vs → NodeF v) (w : World) (F Fk : Addr → Prop) (hF : Pl w Fk) (av : Value) (ps : List (Nat × Nat)) (hR : RowIs w F av ps) (hk : ∀ k, av.ownBlock = some k → k < w.heap.size) (ha : ∀ x, Fk x → some x.block ≠ av.ownBlock) (hK : Reps w Fk ps vs) :
    Calls Tryd.prog 16 #[av] w fun e w' => (∃ A n c, e = .returned (.slice A n c)) ∧ Fr w w' Fk := by
  have hlen := hK.len
  have HN0 : Aside0 (Nds w w 0 Fk av ps vs none 0) := ⟨⟨⟨[], World.ownsRow_nil _ _ _ _⟩, FrL.refl _ _ _, ⟨Fk, hK, fun _ h => h⟩, hR.row⟩⟩
  rcases hR with ⟨rfl, rfl⟩ | ⟨ab, cap, rfl, h1, h2⟩
  · go_enter Tryd.func16, Tryd.ntmps16
    go_wp2
    go_loop [8, 3] (fun v8 v3 => v8 = .int .i64 0 ∧ v3 = nilS) (fun _ _ => 0)
    case atStart => exact ⟨rfl, rfl⟩
    case round =>
      obtain ⟨rfl, rfl⟩ := hrel
      go_wp2
      go_ret
      exact ⟨⟨_, _, _, rfl⟩, Fr.refl _ _⟩
  · obtain ⟨M, hM⟩ : ∃ M, ps.length = M := ⟨_, rfl⟩
    have hM1 : M ≤ 1000000 := by omega
    have HSS := Aside0.mk hS
    have HFF := Aside0.mk hF
    have HAA := Aside0.mk ha
    have HKK := Aside0.mk hk
    have HM := Aside0.mk hM
    have HN1 : Aside0 (Nds w w 0 Fk (.slice (some ⟨ab, 0, none⟩) M cap) ps vs none 0) := ⟨by rw [← hM]; exact HN0.out⟩
    rw [hM]
    rw [hM] at hk ha
    have HAA := Aside0.mk ha
    have HKK := Aside0.mk hk
    clear h2 hS hF hK hlen h1 hk ha hM HN0
    go_enter Tryd.func16, Tryd.ntmps16
    go_wp2
    go_loopg [8, 3] (M + 1) (fun kk v8 v3 wr => ∃ (i : Nat) (A : Option Addr) (c : Nat), v8 = .int .i64 (i : Int) ∧ v3 = .slice A i c ∧ i ≤ M ∧ kk + i = M + 1 ∧ Aside0 (Nds w wr i Fk (.slice (some ⟨ab, 0, none⟩) M cap) ps vs A c))
    case atStart => exact ⟨0, none, 0, rfl, rfl, Nat.zero_le _, by omega, HN1⟩
    case round =>
      obtain ⟨i, A, c, rfl, rfl, hi, hk, HI⟩ := hrel
      by_cases hlt : i < M
      · obtain ⟨kk, rfl⟩ : ∃ j, gk = j + 1 := ⟨gk - 1, by omega⟩
        have hip : i < ps.length := by rw [HM.out]; exact hlt
        obtain ⟨p, v, F1, F2, hp, hv, hvm, hR1, hR2, hs1, hs2, hd⟩ := HI.out.rest.next hip
        obtain ⟨xs, hxs⟩ := HI.out.own
        have HXS := Aside0.mk hxs
        have hc : wr.cell? ⟨ab, i, none⟩ = some (.pointer (some ⟨p.1, p.2, none⟩)) := by
          rcases HI.out.row with ⟨_, e⟩ | ⟨ab', cap', e, h1, h2⟩
          · cases e
          · injection e with e _ _
            injection e with e
            injection e with e
            subst e
            rw [(h2 i hip).1, hp]; rfl
        have hws := HI.out.fr.size
        have HWS := Aside0.mk hws
        have HC : Aside0 (Calls Tryd.prog 7 #[.pointer (some ⟨p.1, p.2, none⟩)] wr fun e w' => NodeSaid e ∧ Fr wr w' F1) := ⟨HSS.out v hvm wr F1 p.1 p.2 (fun x hx => ⟨(HFF.out x (hs1 x hx)).1, Nat.lt_of_lt_of_le (HFF.out x (hs1 x hx)).2 hws⟩) hR1⟩
        have HM1 : Aside0 (i ≤ 1000000) := ⟨by omega⟩
        have HST : Aside0 (∀ w2 w3 A3 c3 xs3, Fr wr w2 F1 → Below w.heap.size w2 w3 → w3.ownsRow w.heap.size TN 4 (.slice A3 (i + 1) c3) (i + 1) xs3 → Nds w w3 (i + 1) Fk (.slice (some ⟨ab, 0, none⟩) M cap) ps vs A3 c3) := ⟨fun w2 w3 A3 c3 xs3 a1 a2 a3 => HI.out.step a1 a2 a3 hs1 hs2 hd hR2 HFF.out HAA.out HKK.out⟩
        have HOW : Aside0 (∀ w2, Fr wr w2 F1 → w2.ownsRow w.heap.size TN 4 (.slice A i c) i xs) := ⟨fun w2 g => row_blocks hxs fun k hk ob e => g.block (fun x hx => by have := (HFF.out x (hs1 x hx)).2; omega) e⟩
        clear hp hv hvm hR1 hR2 hs1 hs2 hd hxs hip hws
        go_wp2_with (first
          | (go_at_call 7; (with_reducible refine HC.out.mono ?_); rintro e w2 ⟨⟨k, t, A0, m0, c0, A2, n2, c2, rfl⟩, hf⟩; have HF2 := Aside0.mk hf; clear hf)
          | (at_builtin; refine wp_node2 _ w.heap.size i _ xs k t A0 m0 c0 A2 n2 c2 (HOW.out _ HF2.out) (Nat.le_trans HWS.out HF2.out.size) HM1.out rfl _ _ rfl rfl rfl ?_; intro A3 c3 xs3 w3 k1 k2; have HI3 := Aside0.mk (HST.out _ _ _ _ _ HF2.out k2 k1); clear k1 k2))
        go_roundg kk
        case measure => omega
        case rel => exact ⟨i + 1, A3, c3, by go_num, rfl, by omega, by omega, HI3⟩
      · obtain rfl : i = M := by omega
        go_wp2
        go_ret
        exact ⟨⟨_, _, _, rfl⟩, HI.out.fr.toFr (Nat.le_refl _)⟩
end Go.Proofs.YtjfofbgnppdlgaaDoor.Fp
