/- fastjson's Visit with impl's closure, impl's fjObject, walked. -/
import Derived.Test.YtjfofbgnppdlgaaDoorFpNodes2
import Derived.Test.YtjfofbgnppdlgaaDoorFpParse
namespace Go.Proofs.YtjfofbgnppdlgaaDoor.Fp
open Go.RowKit Go.Proofs.YtjfofbgnppdlgaaDoorW.PrintWords Go.Proofs.YtjfofbgnppdlgaaDoorW.PrintLast Go.Proofs.YtjfofbgnppdlgaaDoorW.PrintMore
open Go.Proofs.YtjfofbgnppdlgaaDoor.FjW (cut cut_cut cut_size cut_bytes cut_zero cut_bt bt_out D rd_D rd_D0 D_drop D_len D_nil D_cons ws_at skipWS errNew ixOf ixCall ix_or)
set_option linter.unusedVariables false
set_option linter.unusedSimpArgs false

/-- The places of the row. -/
def Rw (kv : Value) (x : Addr) : Prop := x.spot = none ∧ some x.block = kv.ownBlock
theorem KvIs.row {w : World} {F : Addr → Prop} {kv : Value} {ks : List (List Int)} {ps : List (Nat × Nat)} (h : KvIs w F kv ks ps) : KvIs w (Rw kv) kv ks ps := by
  rcases h with h | ⟨kb, cap, cur, rfl, h0, h1, h2, h3, h4⟩
  · exact .inl h
  · exact .inr ⟨kb, cap, cur, rfl, h0, h1, h2, h3, fun i hi => ⟨(h4 i hi).1, (h4 i hi).2.1, ⟨rfl, rfl⟩, ⟨rfl, rfl⟩⟩⟩
theorem KvIs.len {w : World} {F : Addr → Prop} {kv : Value} {ks : List (List Int)} {ps : List (Nat × Nat)} (h : KvIs w F kv ks ps) : ks.length = ps.length ∧ ∃ A c, kv = .slice A ps.length c := by
  rcases h with ⟨rfl, rfl, rfl⟩ | ⟨kb, cap, cur, rfl, h0, h1, h2, h3, h4⟩
  · exact ⟨rfl, _, _, rfl⟩
  · exact ⟨h2, _, _, rfl⟩
/-- The elements from the i-th on, in places of their own. -/
def Rest (w : World) (Fk : Addr → Prop) (ps : List (Nat × Nat)) (vs : List FV) (i : Nat) : Prop := ∃ F2, Reps w F2 (ps.drop i) (vs.drop i) ∧ ∀ x, F2 x → Fk x
theorem Reps.len {w : World} {F : Addr → Prop} : ∀ {ps : List (Nat × Nat)} {vs : List FV}, Reps w F ps vs → ps.length = vs.length
  | _, _, .nil _ => rfl
  | _, _, .cons _ _ _ _ _ _ _ _ h _ _ _ => by simp [h.len]
theorem Rest.next {w : World} {Fk : Addr → Prop} {ps : List (Nat × Nat)} {vs : List FV} {i : Nat} (h : Rest w Fk ps vs i) (hi : i < ps.length) : ∃ p v F1 F2, ps[i]? = some p ∧ vs[i]? = some v ∧ v ∈ vs ∧ Rep w F1 p.1 p.2 v ∧ Reps w F2 (ps.drop (i + 1)) (vs.drop (i + 1)) ∧ (∀ x, F1 x → Fk x) ∧ (∀ x, F2 x → Fk x) ∧ (∀ x, F1 x → F2 x → False) := by
  obtain ⟨F, h, hs⟩ := h
  have hl := h.len
  rw [List.length_drop, List.length_drop] at hl
  have hv : i < vs.length := by omega
  rw [List.drop_eq_getElem_cons hi, List.drop_eq_getElem_cons hv] at h
  cases h with
  | cons _ F1 F2 _ _ _ _ h1 h2 h3 h4 h5 =>
    exact ⟨_, _, F1, F2, List.getElem?_eq_getElem hi, List.getElem?_eq_getElem hv, List.getElem_mem hv, h1, h2, fun x hx => hs x (h3 x hx), fun x hx => hs x (h4 x hx), h5⟩
theorem Rest.kept {w w' : World} {Fk : Addr → Prop} {ps : List (Nat × Nat)} {vs : List FV} {i : Nat} (h : Rest w Fk ps vs i) (hk : Keep w w' Fk) : Rest w' Fk ps vs i := by
  obtain ⟨F, h, hs⟩ := h
  exact ⟨F, h.kept (hk.sub hs) fun _ hx => hx, hs⟩
theorem below_keep {w w' : World} {F : Addr → Prop} (h : Below w.heap.size w w') (hp : ∀ x, F x → x.spot = none ∧ x.block < w.heap.size) : Keep w w' F := fun x hx => by
  have e := h.block x.block (hp x hx).2
  exact ⟨World.cell?_of_block e, fun cur T hc => ⟨cur, e.trans hc⟩⟩
theorem Bx.below {W W2 : World} {nb i m : Nat} {kv kk : Value} {xs ys : List Value} (h : Bx W nb i m kv kk xs ys) (g : Below W.heap.size W W2) : Bx W2 nb i m kv kk xs ys :=
  h.kept fun k _ ob e => (g.block k (heap_lt e)).trans e
/-- What Visit keeps while it goes. -/
structure Vis (w wr : World) (nb i : Nat) (F Fk : Addr → Prop) (kv : Value) (ks : List (List Int)) (ps : List (Nat × Nat)) (vs : List FV) : Prop where
  bx : ∃ kv' kk xs ys, Bx wr nb i i kv' kk xs ys
  fr : FrL nb w wr F
  rest : Rest wr Fk ps vs i
  row : KvIs wr (Rw kv) kv ks ps
theorem Vis.size {w wr : World} {nb i : Nat} {F Fk : Addr → Prop} {kv : Value} {ks : List (List Int)} {ps : List (Nat × Nat)} {vs : List FV} (h : Vis w wr nb i F Fk kv ks ps vs) : nb < wr.heap.size := by
  obtain ⟨_, _, _, _, hb⟩ := h.bx
  exact hb.lt
/-- One element on. -/
theorem Vis.step {w wr w2 w3 : World} {nb i : Nat} {F Fk F1 F2 : Addr → Prop} {kv : Value} {ks : List (List Int)} {ps : List (Nat × Nat)} {vs : List FV} (h : Vis w wr nb i F Fk kv ks ps vs) (hb : Below wr.heap.size wr w2) (h3 : FrL nb w2 w3 F1) (hbx : ∃ kv' kk xs ys, Bx w3 nb (i + 1) (i + 1) kv' kk xs ys)
    (hF : ∀ x, Fk x → F x ∧ some x.block ≠ kv.ownBlock) (hF1 : ∀ x, F1 x → Fk x) (hF2 : ∀ x, F2 x → Fk x) (hd : ∀ x, F1 x → F2 x → False) (hR : Reps wr F2 (ps.drop (i + 1)) (vs.drop (i + 1))) (hp : ∀ x, Fk x → x.spot = none ∧ x.block < nb) (hkv : ∀ k, kv.ownBlock = some k → k < nb) : Vis w w3 nb (i + 1) F Fk kv ks ps vs := by
  have hnb := h.size
  have hp2 : ∀ x, Fk x → x.spot = none ∧ x.block < wr.heap.size := fun x hx => ⟨(hp x hx).1, Nat.lt_trans (hp x hx).2 hnb⟩
  have hrw : ∀ x, Rw kv x → x.spot = none ∧ x.block < nb := fun x hx => ⟨hx.1, hkv _ hx.2.symm⟩
  have hs := hb.size
  refine ⟨hbx, ((h.fr).bel (hb.mono (Nat.le_of_lt hnb))).trans (h3.mono (fun x hx => (hF x (hF1 x hx)).1) (Nat.le_refl _)), ⟨F2, ?_, hF2⟩, ?_⟩
  · refine (hR.kept (below_keep hb fun x hx => hp2 x (hF2 x hx)) fun _ hx => hx).kept (h3.keep (fun x hx => ⟨(hp x (hF2 x hx)).1, ?_, (hp x (hF2 x hx)).2⟩) fun x a b => hd x b a) fun _ hx => hx
    have := (hp x (hF2 x hx)).2; omega
  · refine (h.row.kept (below_keep hb fun x hx => ⟨(hrw x hx).1, Nat.lt_trans (hrw x hx).2 hnb⟩) fun _ hx => hx).kept (h3.keep (fun x hx => ⟨(hrw x hx).1, ?_, (hrw x hx).2⟩) fun x a b => (hF x (hF1 x b)).2 a.2) fun _ hx => hx
    have := (hrw x hx).2; omega
theorem KvIs.cells {w : World} {F : Addr → Prop} {kb cap m : Nat} {ks : List (List Int)} {ps : List (Nat × Nat)} (h : KvIs w F (.slice (some ⟨kb, 0, none⟩) m cap) ks ps) {i : Nat} (hi : i < ps.length) {k : List Int} {p : Nat × Nat} (hk : ks[i]? = some k) (hp : ps[i]? = some p) : w.cell? ⟨kb, i * 2, none⟩ = some (.string (strOfNums k)) ∧ w.cell? ⟨kb, i * 2 + 1, none⟩ = some (ptr p) := by
  rcases h with ⟨_, _, h⟩ | ⟨kb', cap', cur, h, h0, h1, h2, h3, h4⟩
  · cases h
  · injection h with h _ _
    injection h with h
    injection h with h
    subst h
    refine ⟨(h4 i hi).1.trans (by rw [hk]; rfl), (h4 i hi).2.1.trans (by rw [hp]; rfl)⟩
theorem row_ne' {w : World} {F : Addr → Prop} {kv : Value} {ks : List (List Int)} {ps : List (Nat × Nat)} {b : Nat} (hb : ∃ cur, w.heap[b]? = some (.cells cur TV (0, 0))) (h : KvIs w F kv ks ps) : some b ≠ kv.ownBlock := fun e => by
  obtain ⟨c, hc⟩ := hb
  rcases h with ⟨_, _, rfl⟩ | ⟨kb, cap, cur, rfl, _, _, _, h3, _⟩
  · cases e
  · simp only [Value.ownBlock, Option.some.injEq] at e
    subst e
    rw [hc] at h3
    simp only [Option.some.injEq, Obj.cells.injEq] at h3
    exact absurd h3.2.1 (by decide)
set_option maxHeartbeats 8000000 in
set_option maxRecDepth 100000 in
theorem visit (U : ByteArray → ByteArray) (ms : List (List Int × FV)) (w : World) (nb : Nat) (F Fk : Addr → Prop) (b o : Nat) (kv : Value) (ps : List (Nat × Nat)) (hb : ∃ cur, w.heap[b]? = some (.cells cur TV (0, 0))) (h0 : w.cell? ⟨b, o, none⟩ = some kv) (h1 : w.cell? ⟨b, o + 1, none⟩ = some (.bool false)) (hk : KvIs w F kv (ms.map Prod.fst) ps) (hR : Reps w Fk ps (ms.map Prod.snd))
    (ha : ∀ x, Fk x → F x ∧ some x.block ≠ kv.ownBlock ∧ ∀ i, i < 5 → (⟨b, o + i, none⟩ : Addr) ≠ x) (hF : ∀ x, F x → x.spot = none ∧ x.block < nb) (hown : ∀ x, Own b o kv x → F x) (hU : ∀ m, m ∈ ms → UC U (strOfNums m.1)) (hN : ∀ m, m ∈ ms → NodeF m.2) (hB : Bx w nb 0 0 nilS nilS [] []) (hl : ms.length ≤ 999999) :
    Calls Tryd.prog 29 #[.pointer (some ⟨b, o, none⟩), .func (.func 30) #[] #[.pointer (some ⟨nb, 0, none⟩)]] w fun e w' => e = .returned (.tuple #[]) ∧ (∃ kv' kk xs ys, Bx w' nb ps.length ps.length kv' kk xs ys) ∧ FrL nb w w' F := by
  have hpl := hk.len.1
  rw [List.length_map] at hpl
  have hbn : b < nb := (hF _ (hown ⟨b, o + 1, none⟩ (.inl rfl))).2
  have hkn : ∀ k, kv.ownBlock = some k → k < nb := fun k e => (hF _ (hown ⟨k, 0, none⟩ (.inr ⟨rfl, e.symm⟩))).2
  have HUN := Aside0.mk (unKeys U w F b o kv (ms.map Prod.fst) ps hb h0 h1 hk (fun k hk => by
    obtain ⟨m, hm, rfl⟩ := List.mem_map.1 hk
    exact hU m hm) (by omega))
  have HV : Aside0 (∀ w', Fr w w' (Own b o kv) → KvIs w' F kv ((ms.map Prod.fst).map (un U)) ps → Vis w w' nb 0 F Fk kv ((ms.map Prod.fst).map (un U)) ps (ms.map Prod.snd)) := ⟨fun w' hf hkv => ⟨⟨_, _, _, _, hB.fr hf fun x hx => (hF x (hown x hx)).2⟩, (hf.mono hown).toL nb, ⟨Fk, hR.kept (hf.keep (fun x hx => ⟨(hF x (ha x hx).1).1, Nat.lt_trans (hF x (ha x hx).1).2 hB.lt⟩) fun x a c => c.elim (fun c => (ha x a).2.2 1 (by omega) c.symm) (fun c => (ha x a).2.1 c.2)) fun _ hx => hx, fun _ hx => hx⟩, hkv.row⟩⟩
  have HNS := Aside0.mk hN
  have HUS := Aside0.mk hU
  have HFS := Aside0.mk hF
  have HAS := Aside0.mk ha
  have HBN := Aside0.mk hbn
  have HKN := Aside0.mk hkn
  have HBX := Aside0.mk hB
  have HBB := Aside0.mk hb
  have HML := Aside0.mk hpl
  have HLE : Aside0 (ps.length ≤ 999999) := ⟨by omega⟩
  have HCK : Aside0 (∀ w', Fr w w' (Own b o kv) → w'.cell? ⟨b, o, none⟩ = some kv) := ⟨fun w' hf => by
    rw [hf.cell (heap_lt hb.choose_spec) (fun c => by
      rcases c with c | c
      · injection c with _ c _; omega
      · exact row_ne' hb hk c.2), h0]⟩
  rcases hk with ⟨rfl, hm, rfl⟩ | ⟨kb, cap, cur, rfl, g0, g1, g2, g3, g4⟩
  · clear hb h1 hR ha hF hown hU hN hB hl hpl hbn hkn
    go_enter Tryd.func29, Tryd.ntmps29
    go_wp2_with (first | (go_at_call 42; (with_reducible refine HUN.out.mono ?_); rintro e w2 ⟨rfl, hf, hkv⟩; have hc2 := HCK.out w2 hf; have HV2 := Aside0.mk (HV.out w2 hf hkv); clear hf hkv))
    go_loop [17] (fun v => v = .int .i64 0) (fun _ => 0)
    case atStart => rfl
    case round =>
      obtain rfl := hrel
      go_wp2
      go_end0
      exact ⟨rfl, HV2.out.bx, HV2.out.fr⟩
  · obtain ⟨M, hM⟩ : ∃ M, ps.length = M := ⟨_, rfl⟩
    have HM := Aside0.mk hM
    have hM1 : M ≤ 999999 := by rw [← hM]; exact HLE.out
    have HCK2 : Aside0 (∀ w', Fr w w' (Own b o (.slice (some ⟨kb, 0, none⟩) ps.length cap)) → w'.cell? ⟨b, o, none⟩ = some (.slice (some ⟨kb, 0, none⟩) M cap)) := ⟨fun w' hf => by rw [← hM]; exact HCK.out w' hf⟩
    clear hb h0 h1 hR ha hF hown hU hN hB hl hpl hbn hkn g0 g1 g2 g3 g4 hM HCK
    go_enter Tryd.func29, Tryd.ntmps29
    go_wp2_with (first | (go_at_call 42; (with_reducible refine HUN.out.mono ?_); rintro e w2 ⟨rfl, hf, hkv⟩; have hc2 := HCK2.out w2 hf; have HV2 := Aside0.mk (HV.out w2 hf hkv); clear hf hkv))
    go_loopg [17] (M + 1) (fun kk v17 wr => ∃ i : Nat, v17 = .int .i64 (i : Int) ∧ i ≤ M ∧ kk + i = M + 1 ∧ Aside0 (Vis w wr nb i F Fk (.slice (some ⟨kb, 0, none⟩) ps.length cap) ((ms.map Prod.fst).map (un U)) ps (ms.map Prod.snd)))
    case atStart => exact ⟨0, rfl, Nat.zero_le _, by omega, HV2⟩
    case round =>
      clear hc2 HV2
      obtain ⟨i, rfl, hi, hk, HI⟩ := hrel
      by_cases hlt : i < M
      · obtain ⟨kk, rfl⟩ : ∃ j, gk = j + 1 := ⟨gk - 1, by omega⟩
        have hip : i < ps.length := by rw [HM.out]; exact hlt
        obtain ⟨p, v, F1, F2, hp, hv, hvm, hR1, hR2, hs1, hs2, hd⟩ := HI.out.rest.next hip
        obtain ⟨mm, hmm, rfl⟩ := List.mem_map.1 hvm
        obtain ⟨ky, hky⟩ : ∃ k, ms[i]? = some k := ⟨ms[i]'(by rw [HML.out]; exact hip), List.getElem?_eq_getElem _⟩
        have hkx : ((ms.map Prod.fst).map (un U))[i]? = some (un U ky.1) := by rw [List.getElem?_map, List.getElem?_map, hky]; rfl
        have hcc := HI.out.row.cells hip hkx hp
        have hUk := HUS.out ky (List.mem_of_getElem? hky)
        rw [str_un] at hcc
        obtain ⟨s, hs⟩ : ∃ s, U (strOfNums ky.1) = s := ⟨_, rfl⟩
        rw [hs] at hcc
        have HSS : Aside0 (s.size ≤ 1000000) := ⟨by rw [← hs]; exact Nat.le_trans hUk.1 hUk.2.1⟩
        have hck := hcc.1
        have hcp := hcc.2
        have HWS := Aside0.mk HI.out.size
        have HKB : Aside0 (kb < wr.heap.size) := ⟨Nat.lt_trans (HKN.out kb rfl) HI.out.size⟩
        have HCB : Aside0 (∀ w2 A n c, Below wr.heap.size wr w2 → (convert 30 9 (.slice A n c)).run Tryd.prog w2 = .ok (.string s) w2 → Calls Tryd.prog 30 #[.slice A n c, ptr p, .pointer (some ⟨nb, 0, none⟩)] w2 fun e w' => e = .returned (.tuple #[]) ∧ Vis w w' nb (i + 1) F Fk (.slice (some ⟨kb, 0, none⟩) ps.length cap) ((ms.map Prod.fst).map (un U)) ps (ms.map Prod.snd)) := ⟨fun w2 A n c hb hcv => by
          obtain ⟨kv', kk', xs', ys', hbx⟩ := HI.out.bx
          have hpf : ∀ x, Fk x → x.spot = none ∧ x.block < nb := fun x hx => HFS.out x (HAS.out x hx).1
          refine (cb mm.2 (HNS.out mm hmm) w2 nb i kv' kk' xs' ys' (by omega) (hbx.below hb) A n c s hcv F1 p (hR1.kept (below_keep hb fun x hx => ⟨(hpf x (hs1 x hx)).1, Nat.lt_trans (hpf x (hs1 x hx)).2 HI.out.size⟩) fun _ h => h) fun x hx => hpf x (hs1 x hx)).mono fun e w' h => ⟨h.1, ?_⟩
          exact HI.out.step hb h.2.2 h.2.1 (fun x hx => ⟨(HAS.out x hx).1, (HAS.out x hx).2.1⟩) hs1 hs2 hd hR2 hpf HKN.out⟩
        clear hp hv hvm hR1 hR2 hs1 hs2 hd hky hkx hcc hUk hs hip hmm
        go_wp2
        go_region_with (first
          | (go_at_call 32; (refine (s2b _ s HSS.out).mono ?_); rintro e w2 ⟨c, rfl, hcv, hb, hlt2⟩; have HB2 : Aside0 (Below wr.heap.size wr w2) := ⟨⟨hb.os, hb.tape, hb.output, hb.size, hb.block⟩⟩; have HCV := Aside0.mk hcv; have hcp2 := pw_cell_below HB2.out hcp; clear hb hcv hlt2)
          | (go_at_call 30; (refine (HCB.out _ _ _ _ ?hb ?hcv).mono ?_); (case hb => exact HB2.out); (case hcv => exact HCV.out); rintro e w3 ⟨rfl, hvis⟩; have HV3 := Aside0.mk hvis; clear hvis))
        all_goals
          go_wp2
          go_roundg kk
          case measure => omega
          case rel => exact ⟨i + 1, by go_num, by omega, by omega, HV3⟩
      · obtain rfl : i = M := by omega
        go_wp2
        go_end0
        exact ⟨rfl, by rw [HM.out]; exact HI.out.bx, HI.out.fr⟩
end Go.Proofs.YtjfofbgnppdlgaaDoor.Fp
