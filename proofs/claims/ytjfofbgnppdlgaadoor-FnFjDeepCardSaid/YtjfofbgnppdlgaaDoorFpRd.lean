/- impl's FjRead, of every text of whose strings unescapeStringBestEffort is known. -/
import Derived.Test.YtjfofbgnppdlgaaDoorFpParse
import Derived.Test.YtjfofbgnppdlgaaDoorFpNodes6
namespace Go.Proofs.YtjfofbgnppdlgaaDoor.Fp
open Go.RowKit Go.Proofs.YtjfofbgnppdlgaaDoorW.PrintWords Go.Proofs.YtjfofbgnppdlgaaDoorW.PrintLast Go.Proofs.YtjfofbgnppdlgaaDoorW.PrintMore
open Go.Proofs.YtjfofbgnppdlgaaDoor.FjW (cut cut_cut cut_size cut_bytes cut_zero cut_bt bt_out D rd_D rd_D0 D_drop D_len D_nil D_cons ws_at skipWS errNew)
set_option linter.unusedVariables false
set_option linter.unusedSimpArgs false

def RSaid (b : ByteArray) (e : Ending) : Prop := ∃ k t A0 m0 c0 A n c, e = .returned (.tuple #[.agg #[.int .i64 k, .string t, .slice A0 m0 c0, .slice A n c], .bool (okP b).isSome])
theorem rsaid {b : ByteArray} {e : Ending} {x : Bool} (h : (okP b).isSome = x) (k : Int) (t : ByteArray) (A0 : Option Addr) (m0 c0 : Nat) (A : Option Addr) (n c : Nat) (he : e = .returned (.tuple #[.agg #[.int .i64 k, .string t, .slice A0 m0 c0, .slice A n c], .bool x])) : RSaid b e := by subst h; exact ⟨k, t, A0, m0, c0, A, n, c, he⟩
abbrev p0 : Obj := .cells #[nilS, nilS] 35
abbrev r0 : Obj := .cells n0 TN
theorem below_in {w w2 : World} (h : Below (w.heap.size + 1) ((w.alloc r0).alloc p0) w2) : Below w.heap.size w w2 := ((below_alloc (Below.refl _ _) r0).trans (below_alloc (Below.refl _ _) p0 |>.mono (by rw [alloc_size]; omega))).trans (h.mono (by omega))
theorem row_in2 {w w2 : World} (h : Below (w.heap.size + 1) ((w.alloc r0).alloc p0) w2) : w2.heap[w.heap.size]? = some r0 :=
  (h.block _ (by omega)).trans ((heap_alloc_old (w.alloc r0) p0 (by rw [alloc_size]; omega)).trans (heap_alloc_new w r0))
set_option maxHeartbeats 8000000 in
set_option maxRecDepth 100000 in
theorem read (U : ByteArray → ByteArray) (w : World) (a b : ByteArray) (hs : a.size ≤ 400000) (hb : b = cut a (nx a 0)) (hS : ∀ fv, okP b = some fv → Good U fv) :
    Calls Tryd.prog 5 #[.string a] w fun e w' => RSaid b e ∧ Below w.heap.size w w' := by
  have HQ : Aside0 (Calls Tryd.prog 6 #[.pointer (some ⟨w.heap.size + 1, 0, none⟩), .string a] ((w.alloc r0).alloc p0) fun e w' => PSaid (w.heap.size + 1) b e w' ∧ Below (w.heap.size + 1) ((w.alloc r0).alloc p0) w') :=
    ⟨parse All vcA ((w.alloc r0).alloc p0) (w.heap.size + 1) (by have := heap_alloc_new (w.alloc r0) p0; rw [alloc_size] at this; exact this) a b hs hb trivial⟩
  cases ho : okP b with
  | none =>
    have HO := Aside0.mk ho
    have HC1 : Aside0 ((okP b).isSome = false) := ⟨by rw [ho]; rfl⟩
    clear hs hb hS ho
    go_enter Tryd.func5, Tryd.ntmps5
    go_wp2_with (first
      | (go_at_call 6; (refine HQ.out.mono ?_); rintro e w2 ⟨h, hb⟩; unfold PSaid at h; rw [HO.out] at h; obtain ⟨T, u, rfl⟩ := h; have HB := Aside0.mk hb; obtain ⟨g0, g1, g2, g3, gf⟩ := cells4 (row_in2 hb); clear hb))
    (try simp only [Exit.inBlock, Exit.then])
    refine bodyPost_ret (results_ct rfl _ _ w.heap.size TN n0 (0, 0) _ rfl (set4 (row_in2 HB.out) _ _ _ _) Tryd.underlying26 rfl sizeN) rfl ?_
    exact ⟨rsaid HC1.out _ _ _ _ _ _ _ _ rfl, below4 (Nat.le_refl _) (below_in HB.out) _ _ _ _⟩
  | some fv =>
    have HO := Aside0.mk ho
    have HC1 : Aside0 ((okP b).isSome = true) := ⟨by rw [ho]; rfl⟩
    have HND := Aside0.mk (nodeF (hS fv ho))
    clear hs hb hS ho
    go_enter Tryd.func5, Tryd.ntmps5
    go_wp2_with (first
      | (go_at_call 6; (refine HQ.out.mono ?_); rintro e w2 ⟨h, hb⟩; unfold PSaid at h; rw [HO.out] at h; obtain ⟨bb, o, F, rfl, hR, hF⟩ := h; have HB := Aside0.mk hb; have HR := Aside0.mk hR; have HF := Aside0.mk hF; clear hb hR hF)
      | (go_at_call 7; (refine (HND.out w2 F bb o (fun x hx => ⟨(HF.out x hx).1, (HF.out x hx).2.1⟩) HR.out).mono ?_); rintro e w3 ⟨⟨k, t, A0, m0, c0, A, n, c, rfl⟩, hb⟩; have HB2 : Aside0 (Below (w.heap.size + 1) ((w.alloc r0).alloc p0) w3) := ⟨HB.out.trans (hb.bel (fun x hx => (HF.out x hx).2.2) (by have := HB.out.size; rw [alloc_size, alloc_size] at this; omega))⟩; obtain ⟨g0, g1, g2, g3, gf⟩ := cells4 (row_in2 HB2.out); clear hb))
    (try simp only [Exit.inBlock, Exit.then])
    refine bodyPost_ret (results_ct rfl _ _ w.heap.size TN #[.int .i64 k, .string t, .slice A0 m0 c0, .slice A n c] (0, 0) _ rfl (set4 (row_in2 HB2.out) _ _ _ _) Tryd.underlying26 rfl sizeN) rfl ?_
    exact ⟨rsaid HC1.out _ _ _ _ _ _ _ _ rfl, below4 (Nat.le_refl _) (below_in HB2.out) _ _ _ _⟩
end Go.Proofs.YtjfofbgnppdlgaaDoor.Fp
