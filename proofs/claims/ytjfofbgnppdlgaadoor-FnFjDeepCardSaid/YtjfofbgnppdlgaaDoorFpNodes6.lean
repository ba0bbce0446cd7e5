/- impl's fjNode of every value that Parse gives. -/
import Derived.Test.YtjfofbgnppdlgaaDoorFpNodes5
namespace Go.Proofs.YtjfofbgnppdlgaaDoor.Fp
open Go.RowKit Go.Proofs.YtjfofbgnppdlgaaDoorW.PrintWords Go.Proofs.YtjfofbgnppdlgaaDoorW.PrintLast Go.Proofs.YtjfofbgnppdlgaaDoorW.PrintMore
open Go.Proofs.YtjfofbgnppdlgaaDoor.FjW (cut cut_cut cut_size cut_bytes cut_zero cut_bt bt_out D rd_D rd_D0 D_drop D_len D_nil D_cons ws_at skipWS errNew ixOf ixCall ix_or)
set_option linter.unusedVariables false
set_option linter.unusedSimpArgs false

/-- The result's block is there, and four cells of it are written. -/
theorem fin4 {w w5 : World} {F : Addr → Prop} (h : Fr (w.alloc (.cells n0 TN)) w5 F) (hF : Pl w F) (a0 a1 a2 a3 : Value) :
    w5.heap[w.heap.size]? = some (.cells n0 TN (0, 0)) ∧ Fr w ((((w5.setCell ⟨w.heap.size, 0, none⟩ a0).setCell ⟨w.heap.size, 1, none⟩ a1).setCell ⟨w.heap.size, 2, none⟩ a2).setCell ⟨w.heap.size, 3, none⟩ a3) F := by
  refine ⟨h.block (fun x hx => by have := (hF x hx).2; omega) (heap_alloc_new w _), fr_result ?_ _ _ _ _⟩
  exact FrL.toFr (lo := w.heap.size) (((FrL.refl _ w F).bel ((Below.refl _ _).alloc (Nat.le_refl _) _)).trans (h.toL _)) (Nat.le_refl _)
theorem fr_new {w : World} {F : Addr → Prop} {ob : Obj} : Fr w (w.alloc ob) F := Fr.below ((Below.refl _ _).alloc (Nat.le_refl _) _)
set_option maxHeartbeats 4000000 in
set_option maxRecDepth 100000 in
theorem nodeLit (t : Int) (ht : t = 0 ∨ t = 5 ∨ t = 6) : NodeF (.lit t) := by
  intro w F b o hF hR
  cases hR with
  | lit _ _ _ _ hc =>
    obtain ⟨⟨c0, c1, c2, c3, c4⟩, _, _⟩ := hc
    have H4 := Aside0.mk (alloc_cell c4)
    clear c0 c1 c2 c3 c4
    rcases ht with rfl | rfl | rfl
    · go_enter Tryd.func7, Tryd.ntmps7
      go_wp2_with (first
        | (go_at_call 13; (refine (typeOf _ b o 0 (by decide) (H4.out _)).mono ?_); rintro e w' ⟨rfl, rfl⟩))
      (try simp only [Exit.inBlock, Exit.then])
      refine bodyPost_ret (results_single rfl (.cell w.heap.size TN n0 (0, 0) _ rfl (heap_alloc_new w _) Tryd.underlying26 rfl sizeN .nil)) rfl ?_
      exact ⟨⟨_, _, _, _, _, _, _, _, rfl⟩, fr_new⟩
    · go_enter Tryd.func7, Tryd.ntmps7
      go_wp2_with (first
        | (go_at_call 13; (refine (typeOf _ b o 5 (by decide) (H4.out _)).mono ?_); rintro e w' ⟨rfl, rfl⟩))
      (try simp only [Exit.inBlock, Exit.then])
      refine bodyPost_ret (results_single rfl (.cell w.heap.size TN #[.int .i64 2, emptyS, nilS, nilS] (0, 0) _ rfl (heap_alloc_new w _) Tryd.underlying26 rfl sizeN .nil)) rfl ?_
      exact ⟨⟨_, _, _, _, _, _, _, _, rfl⟩, fr_new⟩
    · go_enter Tryd.func7, Tryd.ntmps7
      go_wp2_with (first
        | (go_at_call 13; (refine (typeOf _ b o 6 (by decide) (H4.out _)).mono ?_); rintro e w' ⟨rfl, rfl⟩))
      (try simp only [Exit.inBlock, Exit.then])
      refine bodyPost_ret (results_single rfl (.cell w.heap.size TN #[.int .i64 1, emptyS, nilS, nilS] (0, 0) _ rfl (heap_alloc_new w _) Tryd.underlying26 rfl sizeN .nil)) rfl ?_
      exact ⟨⟨_, _, _, _, _, _, _, _, rfl⟩, fr_new⟩
set_option maxHeartbeats 4000000 in
set_option maxRecDepth 100000 in
theorem nodeNumF (s : List Int) (hs : (strOfNums s).size ≤ 1000000) : NodeF (.num s) := by
  intro w F b o hF hR
  cases hR with
  | num _ _ _ _ hc =>
    obtain ⟨⟨c0, c1, c2, c3, c4⟩, _, _⟩ := hc
    obtain ⟨x, hx⟩ : ∃ x, strOfNums s = x := ⟨_, rfl⟩
    rw [hx] at c3 hs
    have HX := Aside0.mk hs
    have H4 := Aside0.mk (alloc_cell c4)
    have H3 := Aside0.mk (alloc_cell c3)
    have HF := Aside0.mk hF
    clear c0 c1 c2 c3 c4 hs
    go_enter Tryd.func7, Tryd.ntmps7
    go_wp2_with (first
      | (go_at_call 13; (refine (typeOf _ b o 4 (by decide) (H4.out _)).mono ?_); rintro e w' ⟨rfl, rfl⟩)
      | (go_at_call 19; (refine (marshalNum _ b o x HX.out (H4.out _) (H3.out _)).mono ?_); rintro e w2 ⟨A, n, c, rfl, hcv, hb⟩; have HB := Aside0.mk (Fr.below (F := F) hb); obtain ⟨g0, g1, g2, g3, gf⟩ := cells4 (keep_new hb); clear hb))
    (try simp only [Exit.inBlock, Exit.then])
    have hfin := fin4 HB.out HF.out (.int .i64 3) (.string x) nilS nilS
    refine bodyPost_ret (results_single rfl (.cell w.heap.size TN #[.int .i64 3, .string x, nilS, nilS] (0, 0) _ rfl (set4 hfin.1 _ _ _ _) Tryd.underlying26 rfl sizeN .nil)) rfl ?_
    exact ⟨⟨_, _, _, _, _, _, _, _, rfl⟩, hfin.2⟩
set_option maxHeartbeats 4000000 in
set_option maxRecDepth 100000 in
theorem nodeStr (U : ByteArray → ByteArray) (s : List Int) (hU : UC U (strOfNums s)) : NodeF (.str s) := by
  intro w F b o hF hR
  cases hR with
  | str _ _ _ _ hc =>
    obtain ⟨⟨c0, c1, c2, c3, c4⟩, ⟨f0, f1, f2, f3, f4⟩, hblk⟩ := hc
    obtain ⟨x, hx⟩ : ∃ x, strOfNums s = x := ⟨_, rfl⟩
    rw [hx] at c3 hU
    obtain ⟨y, hy⟩ : ∃ y, U x = y := ⟨_, rfl⟩
    have HTY : Aside0 (∀ ob, Calls Tryd.prog 13 #[.pointer (some ⟨b, o, none⟩)] (w.alloc ob) fun e w' => e = .returned (.int .i64 3) ∧ Fr (w.alloc ob) w' F ∧ w'.cell? ⟨b, o + 3, none⟩ = some (.string y) ∧ w'.cell? ⟨b, o + 4, none⟩ = some (.int .i64 3)) := ⟨fun ob => by
      obtain ⟨cur, hcur⟩ := hblk
      refine (typeR U _ b o x ⟨cur, (heap_alloc_old w ob (heap_lt hcur)).trans hcur⟩ (alloc_cell c4 ob) (alloc_cell c3 ob) hU).mono fun e w' h => ⟨h.1, h.2.1.mono ?_, by rw [← hy]; exact h.2.2.1, h.2.2.2⟩
      rintro z ⟨i, hi, rfl⟩
      match i, hi with
      | 0, _ => exact f0
      | 1, _ => exact f1
      | 2, _ => exact f2
      | 3, _ => exact f3
      | 4, _ => exact f4⟩
    have HY : Aside0 (y.size ≤ 1000000) := ⟨by rw [← hy]; exact Nat.le_trans hU.1 hU.2.1⟩
    have HF := Aside0.mk hF
    clear c0 c1 c2 c3 c4 f0 f1 f2 f3 f4 hblk hU
    go_enter Tryd.func7, Tryd.ntmps7
    go_wp2_with (first
      | (go_at_call 13; (refine (HTY.out _).mono ?_); rintro e w2 ⟨rfl, hf, h3, h4⟩; have HF2 := Aside0.mk hf; have H3 := Aside0.mk h3; have H4 := Aside0.mk h4; clear hf h3 h4)
      | (go_at_call 18; (refine (getStr _ b o y HY.out H4.out H3.out).mono ?_); rintro e w3 ⟨A, n, c, rfl, hcv, hb⟩; have HB := Aside0.mk (HF2.out.trans (Fr.below hb)); have h5 := (fin4 HB.out HF.out nilS nilS nilS nilS).1; obtain ⟨g0, g1, g2, g3, gf⟩ := cells4 h5; clear hb h5))
    (try simp only [Exit.inBlock, Exit.then])
    have hfin := fin4 HB.out HF.out (.int .i64 4) (.string y) nilS nilS
    refine bodyPost_ret (results_single rfl (.cell w.heap.size TN #[.int .i64 4, .string y, nilS, nilS] (0, 0) _ rfl (set4 hfin.1 _ _ _ _) Tryd.underlying26 rfl sizeN .nil)) rfl ?_
    exact ⟨⟨_, _, _, _, _, _, _, _, rfl⟩, hfin.2⟩
set_option maxHeartbeats 4000000 in
set_option maxRecDepth 100000 in
theorem nodeArr (vs : List FV) (hl : vs.length ≤ 1000000) (hN : ∀ v, v ∈ vs → NodeF v) : NodeF (.arr vs) := by
  intro w F b o hF hR
  cases hR with
  | arr _ Fk _ _ av ps _ hc hrow hreps hap hpl =>
    obtain ⟨⟨c0, c1, c2, c3, c4⟩, _, _⟩ := hc
    have H4 := Aside0.mk (alloc_cell c4)
    have H2 := Aside0.mk (alloc_cell c2)
    have hav : ∃ A n c, av = .slice A n c := by
      rcases hrow with ⟨_, rfl⟩ | ⟨ab, cap, rfl, _⟩
      · exact ⟨_, _, _, rfl⟩
      · exact ⟨_, _, _, rfl⟩
    have hkk : ∀ k, av.ownBlock = some k → k < w.heap.size := fun k e => (hF ⟨k, 0, none⟩ (hpl _ rfl e.symm)).2
    have hFk : Pl w Fk := fun x hx => hF x (hap x hx).1
    have hk : ∀ ob, Keep w (w.alloc ob) F := fun ob => grown_keep (World.grownBy_alloc w ob none) fun x hx => ⟨(hF x hx).2, by simp⟩
    have HN : Aside0 (∀ ob, Calls Tryd.prog 16 #[av] (w.alloc ob) fun e w' => (∃ A n c, e = .returned (.slice A n c)) ∧ Fr (w.alloc ob) w' F) :=
      ⟨fun ob => (nodesF vs hl hN (w.alloc ob) F Fk (hFk.fr (fr_new (F := F))) av ps (hrow.kept (hk ob) fun _ h => h) (fun k e => Nat.lt_of_lt_of_le (hkk k e) (by rw [alloc_size]; omega)) (fun x hx => (hap x hx).2.1) (hreps.kept ((hk ob).sub fun x hx => (hap x hx).1) fun _ h => h)).mono fun e w' h => ⟨h.1, h.2.mono fun x hx => (hap x hx).1⟩⟩
    have HAV := Aside0.mk hav
    have HF := Aside0.mk hF
    obtain ⟨A0, m0, c0', rfl⟩ := hav
    clear c0 c1 c2 c3 c4 hk hrow hreps hap hFk hkk hpl
    go_enter Tryd.func7, Tryd.ntmps7
    go_wp2_with (first
      | (go_at_call 13; (refine (typeOf _ b o 2 (by decide) (H4.out _)).mono ?_); rintro e w' ⟨rfl, rfl⟩)
      | (go_at_call 17; (refine (getArr _ b o _ HAV.out (H4.out _) (H2.out _)).mono ?_); rintro e w' ⟨rfl, rfl⟩)
      | (go_at_call 16; (refine (HN.out _).mono ?_); rintro e w2 ⟨⟨A, n, c, rfl⟩, hb⟩; have HB := Aside0.mk hb; have h5 := (fin4 HB.out HF.out nilS nilS nilS nilS).1; obtain ⟨g0, g1, g2, g3, gf⟩ := cells4 h5; clear hb h5))
    (try simp only [Exit.inBlock, Exit.then])
    have hfin := fin4 HB.out HF.out (.int .i64 5) emptyS nilS (.slice A n c)
    refine bodyPost_ret (results_single rfl (.cell w.heap.size TN #[.int .i64 5, emptyS, nilS, .slice A n c] (0, 0) _ rfl (set4 hfin.1 _ _ _ _) Tryd.underlying26 rfl sizeN .nil)) rfl ?_
    exact ⟨⟨_, _, _, _, _, _, _, _, rfl⟩, hfin.2⟩
set_option maxHeartbeats 4000000 in
set_option maxRecDepth 100000 in
theorem nodeObj (U : ByteArray → ByteArray) (ms : List (List Int × FV)) (hl : ms.length ≤ 999999) (hU : ∀ m, m ∈ ms → UC U (strOfNums m.1)) (hN : ∀ m, m ∈ ms → NodeF m.2) : NodeF (.obj ms) := by
  intro w F b o hF hR
  cases hR with
  | obj _ Fk _ _ kv ps _ hc hrow hreps hap hpl =>
    obtain ⟨⟨c0, c1, c2, c3, c4⟩, ⟨f0, f1, f2, f3, f4⟩, hblk⟩ := hc
    have H4 := Aside0.mk (alloc_cell c4)
    have hown : ∀ x, Own b o kv x → F x := fun x hx => by
      rcases hx with rfl | ⟨hs, hx⟩
      · exact f1
      · exact hpl x hs hx
    have hk : ∀ ob, Keep w (w.alloc ob) F := fun ob => grown_keep (World.grownBy_alloc w ob none) fun x hx => ⟨(hF x hx).2, by simp⟩
    have HN : Aside0 (∀ ob, Calls Tryd.prog 14 #[.pointer (some ⟨b, o, none⟩)] (w.alloc ob) fun e w' => NodeSaid e ∧ Fr (w.alloc ob) w' F) :=
      ⟨fun ob => by
        obtain ⟨cur, hcur⟩ := hblk
        exact object U ms (w.alloc ob) F Fk b o kv ps ⟨cur, (heap_alloc_old w ob (heap_lt hcur)).trans hcur⟩ (alloc_cell c0 ob) (alloc_cell c1 ob) (hrow.kept (hk ob) fun _ h => h) (hreps.kept ((hk ob).sub fun x hx => (hap x hx).1) fun _ h => h) hap (hF.fr (fr_new (F := F))) hown hU hN hl⟩
    have HF := Aside0.mk hF
    clear c0 c1 c2 c3 c4 f0 f1 f2 f3 f4 hblk hk hrow hreps hap hown hpl
    go_enter Tryd.func7, Tryd.ntmps7
    go_wp2_with (first
      | (go_at_call 13; (refine (typeOf _ b o 1 (by decide) (H4.out _)).mono ?_); rintro e w' ⟨rfl, rfl⟩)
      | (go_at_call 15; (refine (getObj _ b o (H4.out _)).mono ?_); rintro e w' ⟨rfl, rfl⟩)
      | (go_at_call 14; (refine (HN.out _).mono ?_); rintro e w2 ⟨⟨k, t, A0, m0, c0, A, n, c, rfl⟩, hb⟩; have HB := Aside0.mk hb; have h5 := (fin4 HB.out HF.out nilS nilS nilS nilS).1; obtain ⟨g0, g1, g2, g3, gf⟩ := cells4 h5; clear hb h5))
    (try simp only [Exit.inBlock, Exit.then])
    have hfin := fin4 HB.out HF.out (.int .i64 k) (.string t) (.slice A0 m0 c0) (.slice A n c)
    refine bodyPost_ret (results_single rfl (.cell w.heap.size TN #[.int .i64 k, .string t, .slice A0 m0 c0, .slice A n c] (0, 0) _ rfl (set4 hfin.1 _ _ _ _) Tryd.underlying26 rfl sizeN .nil)) rfl ?_
    exact ⟨⟨_, _, _, _, _, _, _, _, rfl⟩, hfin.2⟩
theorem nodeF {U : ByteArray → ByteArray} {fv : FV} (h : Good U fv) : NodeF fv := by
  induction h with
  | lit t ht => exact nodeLit t ht
  | str s hs => exact nodeStr U s hs
  | num s hs => exact nodeNumF s hs
  | arr vs hl _ ih => exact nodeArr vs hl ih
  | obj ms hl hu _ ih => exact nodeObj U ms hl hu ih
end Go.Proofs.YtjfofbgnppdlgaaDoor.Fp
