/- What a walk over fastjson's values may change: the places of a footprint alone; unescapeKeys walked. -/
import Derived.Test.YtjfofbgnppdlgaaDoorFpVal3
namespace Go.Proofs.YtjfofbgnppdlgaaDoor.Fp
open Go.RowKit Go.Proofs.YtjfofbgnppdlgaaDoorW.PrintWords Go.Proofs.YtjfofbgnppdlgaaDoorW.PrintLast Go.Proofs.YtjfofbgnppdlgaaDoorW.PrintMore
open Go.Proofs.YtjfofbgnppdlgaaDoor.FjW (cut cut_cut cut_size cut_bytes cut_zero cut_bt bt_out D rd_D rd_D0 D_drop D_len D_nil D_cons ws_at skipWS errNew ixOf ixCall ix_or)
set_option linter.unusedVariables false
set_option linter.unusedSimpArgs false

/-- Nothing that was there is changed but places of F. -/
structure Fr (w w' : World) (F : Addr → Prop) : Prop where
  out : w'.os = w.os ∧ w'.tape = w.tape ∧ w'.output = w.output
  size : w.heap.size ≤ w'.heap.size
  typ : ∀ k cur T fz, w.heap[k]? = some (.cells cur T fz) → ∃ cur', w'.heap[k]? = some (.cells cur' T fz) ∧ cur'.size = cur.size ∧ ∀ j, ¬ F ⟨k, j, none⟩ → cur'[j]? = cur[j]?
  oth : ∀ (k : Nat) (o : Obj), w.heap[k]? = some o → (∀ cur T fz, o ≠ Obj.cells cur T fz) → w'.heap[k]? = some o
theorem Fr.refl (w : World) (F : Addr → Prop) : Fr w w F := ⟨⟨rfl, rfl, rfl⟩, Nat.le_refl _, fun k cur T fz h => ⟨cur, h, rfl, fun _ _ => rfl⟩, fun k o h _ => h⟩
theorem Fr.trans {w w1 w2 : World} {F : Addr → Prop} (h : Fr w w1 F) (g : Fr w1 w2 F) : Fr w w2 F := by
  refine ⟨⟨g.out.1.trans h.out.1, g.out.2.1.trans h.out.2.1, g.out.2.2.trans h.out.2.2⟩, Nat.le_trans h.size g.size, fun k cur T fz e => ?_, fun k o e hn => g.oth k o (h.oth k o e hn) hn⟩
  obtain ⟨c1, a1, a2, a3⟩ := h.typ k cur T fz e
  obtain ⟨c2, b1, b2, b3⟩ := g.typ k c1 T fz a1
  exact ⟨c2, b1, b2.trans a2, fun j hj => (b3 j hj).trans (a3 j hj)⟩
theorem Fr.mono {w w' : World} {F G : Addr → Prop} (h : Fr w w' F) (hg : ∀ x, F x → G x) : Fr w w' G :=
  ⟨h.out, h.size, fun k cur T fz e => by obtain ⟨c, a1, a2, a3⟩ := h.typ k cur T fz e; exact ⟨c, a1, a2, fun j hj => a3 j fun x => hj (hg _ x)⟩, h.oth⟩
theorem Fr.below {w w' : World} {F : Addr → Prop} (h : Below w.heap.size w w') : Fr w w' F :=
  ⟨⟨h.os, h.tape, h.output⟩, h.size, fun k cur T fz e => ⟨cur, (h.block k (heap_lt e)).trans e, rfl, fun _ _ => rfl⟩, fun k o e _ => (h.block k (heap_lt e)).trans e⟩
theorem Fr.same {w w1 w2 : World} {F : Addr → Prop} (h : Fr w w1 F) (e1 : w2.heap = w1.heap) (e2 : w2.os = w1.os ∧ w2.tape = w1.tape ∧ w2.output = w1.output) : Fr w w2 F :=
  ⟨⟨e2.1.trans h.out.1, e2.2.1.trans h.out.2.1, e2.2.2.trans h.out.2.2⟩, by rw [e1]; exact h.size, by rw [e1]; exact h.typ, by rw [e1]; exact h.oth⟩
theorem Fr.set {w w1 : World} {F : Addr → Prop} (h : Fr w w1 F) {b o : Nat} (hx : F ⟨b, o, none⟩) (u : Value) : Fr w (w1.setCell ⟨b, o, none⟩ u) F := by
  refine h.trans ⟨⟨rfl, rfl, rfl⟩, by rw [set_size]; exact Nat.le_refl _, fun k cur T fz e => ?_, fun k ob e hn => ?_⟩
  · by_cases hk : k = b
    · subst hk
      refine ⟨_, heap_set e u, by rw [Array.size_setIfInBounds], fun j hj => ?_⟩
      rw [Array.getElem?_setIfInBounds_ne]
      rintro rfl; exact hj hx
    · exact ⟨cur, (heap_other _ _ _ _ _ hk).trans e, rfl, fun _ _ => rfl⟩
  · by_cases hk : k = b
    · subst hk
      cases ob with
      | cells cur T fz => exact absurd rfl (hn cur T fz)
      | _ => simp [World.setCell, Array.getElem?_modify, e]
    · exact (heap_other _ _ _ _ _ hk).trans e
/-- Places of blocks that are there. -/
def Pl (w : World) (F : Addr → Prop) : Prop := ∀ x, F x → x.spot = none ∧ x.block < w.heap.size
theorem Pl.fr {w w' : World} {F G : Addr → Prop} (h : Pl w F) (g : Fr w w' G) : Pl w' F := fun x hx => ⟨(h x hx).1, Nat.lt_of_lt_of_le (h x hx).2 g.size⟩
theorem Pl.sub {w : World} {F G : Addr → Prop} (h : Pl w F) (g : ∀ x, G x → F x) : Pl w G := fun x hx => h x (g x hx)
theorem Fr.cell {w w' : World} {F : Addr → Prop} (h : Fr w w' F) {b o : Nat} (hb : b < w.heap.size) (hx : ¬ F ⟨b, o, none⟩) : w'.cell? ⟨b, o, none⟩ = w.cell? ⟨b, o, none⟩ := by
  obtain ⟨ob, e⟩ : ∃ ob, w.heap[b]? = some ob := ⟨w.heap[b], Array.getElem?_eq_getElem hb⟩
  cases ob with
  | cells cur T fz =>
    obtain ⟨c, a1, _, a3⟩ := h.typ b cur T fz e
    rw [cell_in a1, cell_in e, a3 o hx]
  | _ =>
    have := h.oth b _ e (fun cur T fz hh => by cases hh)
    exact World.cell?_of_block (a := ⟨b, o, none⟩) (this.trans e.symm)
theorem Fr.keep {w w' : World} {F G : Addr → Prop} (h : Fr w w' F) (hp : Pl w G) (hd : ∀ x, G x → F x → False) : Keep w w' G := fun x hx => by
  obtain ⟨xb, xo, xs⟩ := x
  obtain ⟨h1, h2⟩ := hp _ hx
  simp only at h1 h2
  subst h1
  refine ⟨h.cell h2 (hd _ hx), fun cur T e => ?_⟩
  obtain ⟨c, a1, _⟩ := h.typ xb cur T _ e
  exact ⟨c, a1⟩
theorem Fr.bel {w w' : World} {F : Addr → Prop} {lo : Nat} (h : Fr w w' F) (hf : ∀ x, F x → lo ≤ x.block) (hl : lo ≤ w.heap.size) : Below lo w w' := by
  refine ⟨h.out.1, h.out.2.1, h.out.2.2, h.size, fun k hk => ?_⟩
  obtain ⟨ob, e⟩ : ∃ ob, w.heap[k]? = some ob := ⟨w.heap[k], Array.getElem?_eq_getElem (by omega)⟩
  rw [e]
  cases ob with
  | cells cur T fz =>
    obtain ⟨c, a1, a2, a3⟩ := h.typ k cur T fz e
    rw [a1]
    congr 2
    refine Array.ext_getElem? fun j => a3 j fun x => ?_
    have := hf _ x
    simp only at this
    omega
  | _ => exact h.oth k _ e (fun cur T fz hh => by cases hh)
theorem Fr.blkTV {w w' : World} {F : Addr → Prop} (h : Fr w w' F) {b : Nat} {T : TypeId} (hb : ∃ cur, w.heap[b]? = some (.cells cur T (0, 0))) : ∃ cur, w'.heap[b]? = some (.cells cur T (0, 0)) := by
  obtain ⟨cur, e⟩ := hb
  obtain ⟨c, a1, _⟩ := h.typ b cur T _ e
  exact ⟨c, a1⟩
/-- What unescapeStringBestEffort makes of a text. -/
def UC (U : ByteArray → ByteArray) (s : ByteArray) : Prop := (U s).size ≤ s.size ∧ s.size ≤ 1000000 ∧ ∀ w, Calls Tryd.prog 28 #[.string s] w fun e w' => e = .returned (.string (U s)) ∧ Below w.heap.size w w'
set_option maxRecDepth 100000 in
/-- A text without a backslash is left as it is. -/
theorem plain (U : ByteArray → ByteArray) (s : ByteArray) (hs : s.size ≤ 1000000) (h : (92 : Int) ∉ bytesOf s) (hU : U s = s) : UC U s := by
  refine ⟨by rw [hU]; exact Nat.le_refl _, hs, fun w => ?_⟩
  rcases ix_or s 92 (by decide) (by decide) with ⟨h1, h2⟩ | ⟨n, h1, h2, h3, h4⟩
  · have H1 := Aside0.mk h1
    have HU := Aside0.mk hU
    clear h1 h2 h hU
    go_enter Tryd.func28, Tryd.ntmps28
    go_wp2_with (first | (go_at_call 38; (with_reducible refine (ixCall _ _ _ H1.out _).mono ?_); rintro e w' ⟨rfl, rfl⟩))
    go_ret
    exact ⟨by rw [HU.out]; rfl, Below.refl _ _⟩
  · exact absurd (List.mem_iff_getElem?.2 ⟨n, by rw [FjW.bt_get s n h2, h3]⟩) h
/-- The places that unescapeKeys changes: the flag, the row. -/
def Own (b o : Nat) (kv : Value) (x : Addr) : Prop := x = ⟨b, o + 1, none⟩ ∨ (x.spot = none ∧ some x.block = kv.ownBlock)
/-- A name, unescaped. -/
def un (U : ByteArray → ByteArray) (k : List Int) : List Int := bytesOf (U (strOfNums k))
theorem str_un (U : ByteArray → ByteArray) (k : List Int) : strOfNums (un U k) = U (strOfNums k) := XWords.strOfNums_bytesOf _
/-- The row of members, of which the first i names are unescaped. -/
def KvAt (w : World) (U : ByteArray → ByteArray) (kb : Nat) (ks : List (List Int)) (ps : List (Nat × Nat)) (i : Nat) : Prop :=
  ∀ j, j < ps.length → w.cell? ⟨kb, j * 2, none⟩ = (ks[j]?).map (fun k => .string (if j < i then U (strOfNums k) else strOfNums k)) ∧ w.cell? ⟨kb, j * 2 + 1, none⟩ = (ps[j]?).map ptr
set_option maxHeartbeats 4000000 in
set_option maxRecDepth 100000 in
theorem unKeys (U : ByteArray → ByteArray) (w : World) (F : Addr → Prop) (b o : Nat) (kv : Value) (ks : List (List Int)) (ps : List (Nat × Nat)) (hb : ∃ cur, w.heap[b]? = some (.cells cur TV (0, 0))) (h0 : w.cell? ⟨b, o, none⟩ = some kv) (h1 : w.cell? ⟨b, o + 1, none⟩ = some (.bool false)) (hk : KvIs w F kv ks ps) (hU : ∀ k, k ∈ ks → UC U (strOfNums k)) (hl : ps.length ≤ 1000000) :
    Calls Tryd.prog 42 #[.pointer (some ⟨b, o, none⟩)] w fun e w' => e = .returned (.tuple #[]) ∧ Fr w w' (Own b o kv) ∧ KvIs w' F kv (ks.map (un U)) ps := by
  have HB := Aside0.mk hb
  have hfb := free_of hb
  rcases hk with ⟨rfl, rfl, rfl⟩ | ⟨kb, cap, cur, rfl, k0, k1, k2, k3, k4⟩
  · clear hU
    go_enter Tryd.func42, Tryd.ntmps42
    go_wp2
    go_loop [15] (fun v => v = .int .i64 0) (fun _ => 0)
    case atStart => rfl
    case round =>
      obtain rfl := hrel
      go_wp2
      go_end0
      exact ⟨rfl, (Fr.refl _ _).set (.inl rfl) _, .inl ⟨rfl, rfl, rfl⟩⟩
  · obtain ⟨m, hm⟩ : ∃ m, ps.length = m := ⟨_, rfl⟩
    have hbk : b ≠ kb := fun e => by
      obtain ⟨c, hc⟩ := hb
      rw [e, k3] at hc
      simp only [Option.some.injEq, Obj.cells.injEq] at hc
      exact absurd hc.2.1 (by decide)
    have HBK := Aside0.mk hbk
    have HU := Aside0.mk hU
    have HK3 : Aside0 (∃ cur, w.heap[kb]? = some (.cells cur TK (0, 0))) := ⟨⟨cur, k3⟩⟩
    have HK4 := Aside0.mk k4
    have HKL := Aside0.mk k2
    have HCAP := Aside0.mk k1
    have HB1 := Aside0.mk (heap_lt hb.choose_spec)
    have H0 : Aside0 (w.cell? ⟨b, o, none⟩ = some (.slice (some ⟨kb, 0, none⟩) ps.length cap)) := ⟨h0⟩
    have hl2 : m ≤ 1000000 := by omega
    have HM := Aside0.mk hm
    rw [hm] at h0
    have HAT : Aside0 (KvAt w U kb ks ps 0) := ⟨fun j hj => ⟨(k4 j hj).1, (k4 j hj).2.1⟩⟩
    have hm0 : 0 < m := by omega
    clear hb k0 k1 k2 k3 k4 hU hbk hm hl
    go_enter Tryd.func42, Tryd.ntmps42
    go_wp2
    go_loopg [15] (m + 1) (fun kk v15 wr => ∃ i : Nat, v15 = .int .i64 (i : Int) ∧ i ≤ m ∧ kk + i = m + 1 ∧ Aside0 (Fr w wr (Own b o (.slice (some ⟨kb, 0, none⟩) ps.length cap)) ∧ KvAt wr U kb ks ps i ∧ wr.cell? ⟨b, o + 1, none⟩ = some (.bool false)))
    case atStart => exact ⟨0, rfl, Nat.zero_le _, by omega, ⟨Fr.refl _ _, HAT.out, h1⟩⟩
    case round =>
      clear h0 h1 hfb
      obtain ⟨i, rfl, hi, hk, HI⟩ := hrel
      by_cases hlt : i < m
      · obtain ⟨kk, rfl⟩ : ∃ j, gk = j + 1 := ⟨gk - 1, by omega⟩
        have hip : i < ps.length := by rw [HM.out]; exact hlt
        obtain ⟨x, hx⟩ : ∃ x, ks[i]? = some x := ⟨ks[i]'(by rw [HKL.out]; exact hip), List.getElem?_eq_getElem _⟩
        have hc : wr.cell? ⟨kb, i * 2, none⟩ = some (.string (strOfNums x)) := by
          have := (HI.out.2.1 i hip).1
          rw [hx] at this
          simpa using this
        have hfk : ∀ j, wr.frozen? ⟨kb, j, none⟩ = false := fun j => by
          obtain ⟨c, e⟩ := HI.out.1.blkTV HK3.out
          simp [World.frozen?, e]
        have HUC : Aside0 (∀ W, Calls Tryd.prog 28 #[.string (strOfNums x)] W fun e w' => e = .returned (.string (U (strOfNums x))) ∧ Below W.heap.size W w') := ⟨(HU.out x (List.mem_of_getElem? hx)).2.2⟩
        have HX := Aside0.mk hx
        have HKB : Aside0 (kb < wr.heap.size) := ⟨by obtain ⟨c, e⟩ := HI.out.1.blkTV HK3.out; exact heap_lt e⟩
        clear hx hip
        go_wp2_with (first | (go_at_call 28; (with_reducible refine (HUC.out _).mono ?_); rintro e w2 ⟨rfl, hb2⟩; have HB2 := Aside0.mk hb2; have hc2 := pw_cell_below hb2 hc; have hfk2 : (∀ j, w2.frozen? ⟨kb, j, none⟩ = false) := (fun j => (World.frozen?_of_block (a := ⟨kb, j, none⟩) (hb2.block kb HKB.out)).trans (hfk j)); clear hb2))
        go_roundg kk
        case measure => omega
        case rel =>
          refine ⟨i + 1, by go_num, by omega, by omega, ⟨(HI.out.1.trans (Fr.below HB2.out)).set (b := kb) (o := i * 2) (.inr ⟨rfl, rfl⟩) _, fun j hj => ⟨?_, ?_⟩, ?_⟩⟩
          · by_cases e : j = i
            · subst e
              rw [World.cell?_setCell_same _ _ _ hc2, HX.out]
              simp
            · rw [World.cell?_setCell_other _ _ _ _ (fun h => by injection h with _ h _; omega), HB2.out.cell (p := ⟨kb, j * 2, none⟩) HKB.out, (HI.out.2.1 j hj).1]
              cases ks[j]? with
              | none => rfl
              | some y =>
                simp only [Option.map_some]
                by_cases e2 : j < i
                · rw [if_pos e2, if_pos (by omega)]
                · rw [if_neg e2, if_neg (by omega)]
          · rw [World.cell?_setCell_other _ _ _ _ (fun h => by injection h with _ h _; omega), HB2.out.cell (p := ⟨kb, j * 2 + 1, none⟩) HKB.out]
            exact (HI.out.2.1 j hj).2
          · rw [World.cell?_setCell_other _ _ _ _ (fun h => by injection h with h _ _; exact HBK.out h.symm)]
            exact pw_cell_below HB2.out HI.out.2.2
      · obtain rfl : i = m := by omega
        have hf := HI.out.2.2
        have hfb : ∀ j, wr.frozen? ⟨b, j, none⟩ = false := free_of (HI.out.1.blkTV HB.out)
        clear hlt
        go_wp2
        go_end0
        have hfr := HI.out.1.set (b := b) (o := o + 1) (.inl rfl) (.bool true)
        refine ⟨rfl, hfr, .inr ?_⟩
        obtain ⟨c, e⟩ := hfr.blkTV HK3.out
        refine ⟨kb, cap, c, rfl, by rw [HM.out]; exact hm0, ?_, by rw [List.length_map]; exact HKL.out, e, fun j hj => ?_⟩
        · exact HCAP.out
        · have hne : ∀ q, (⟨b, o + 1, none⟩ : Addr) ≠ ⟨kb, q, none⟩ := fun q h => by injection h with h _ _; exact HBK.out h
          rw [World.cell?_setCell_other _ _ _ _ (hne _), World.cell?_setCell_other _ _ _ _ (hne _), (HI.out.2.1 j hj).1, (HI.out.2.1 j hj).2, List.getElem?_map]
          refine ⟨?_, rfl, (HK4.out j hj).2.2⟩
          cases ks[j]? with
          | none => rfl
          | some y => simp only [Option.map_some, str_un]; rw [if_pos (by rw [← HM.out]; exact hj)]
end Go.Proofs.YtjfofbgnppdlgaaDoor.Fp
