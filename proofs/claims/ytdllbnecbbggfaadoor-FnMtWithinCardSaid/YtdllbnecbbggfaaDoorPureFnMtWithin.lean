/- Proved: a text's characters, each behind a backslash, between two stars match the texts in which it stands, and no others (both in UTF-8, of at most 2^12 bytes). -/
import Derived.Test.YtdllbnecbbggfaaDoorSpecCharFnMtWithin
import Derived.Test.YtdllbnecbbggfaaDoorMtMatchFnMtWithin
namespace Go.Proofs.YtdllbnecbbggfaaDoor.Pure
open Go.RowKit Go.Proofs.YtdllbnecbbggfaaDoor Go.Proofs.YtdllbnecbbggfaaDoor.Base Go.Proofs.YtdllbnecbbggfaaDoor.Evs Go.Proofs.YtdllbnecbbggfaaDoor.Runes Go.Proofs.YtdllbnecbbggfaaDoor.Glob Go.Proofs.YtdllbnecbbggfaaDoor.ChrXFnMtWithin Go.Proofs.YtdllbnecbbggfaaDoor.MtXFnMtWithin Go.Proofs.YtdllbnecbbggfaaDoor.XFnMtWithin Go.Proofs.YtdllbnecbbggfaaDoorW.PrintWords Go.Proofs.YtdllbnecbbggfaaDoorW.PrintLast
set_option linter.unusedVariables false
set_option linter.unusedSimpArgs false

theorem strOf_bytes (l : List Int) (h : ∀ x ∈ l, 0 ≤ x ∧ x ≤ 255) : bytesOf (strOfNums l) = l := by
  unfold bytesOf strOfNums
  simp only [List.map_map]
  conv => rhs; rw [← List.map_id l]
  refine List.map_congr_left fun x hx => ?_
  have := h x hx
  show ((UInt8.ofNat x.toNat).toNat : Int) = x
  rw [UInt8.toNat_ofNat']
  omega
theorem char_ev (s : ByteArray) (hs : s.size ≤ 4294967296) (i : Int) (h0 : 0 ≤ i) (h1 : i < s.size) :
    (Ev fun k => spec_Character.f k s i = some (65533, 1, false)) ∨ ∃ c r, (Ev fun k => spec_Character.f k s i = some (c, ((en c).length : Int), true)) ∧ Sc c ∧ (bytesOf s).drop i.toNat = en c ++ r := by
  rcases char_ans 9 (Nat.le_refl _) s hs i h0 h1 with h | ⟨c, r, h, hc, hr⟩
  · exact .inl (Ev.of (f := fun k => spec_Character.f k s i) (fun k => spec_Character.mono s i k) h)
  · exact .inr ⟨c, r, Ev.of (f := fun k => spec_Character.f k s i) (fun k => spec_Character.mono s i k) h, hc, hr⟩
theorem utf8_from (s : ByteArray) (hs : s.size ≤ 1000000) : ∀ (m : Nat) (i : Int), 0 ≤ i → i ≤ s.size → (s.size : Int) - i ≤ m → ∃ b : Bool, (Ev fun k => spec_UTF8.l0 k s i = some b) ∧ (b = true → ∃ cs, Scs cs ∧ (bytesOf s).drop i.toNat = enc cs)
  | m, i, h0, hi, hm => by
    by_cases c : i < s.size
    · cases m with
      | zero => omega
      | succ m =>
      rcases char_ev s (by omega) i h0 c with h | ⟨ch, r, h, hc, hr⟩
      · refine ⟨false, h.succ fun k hk => ?_, fun e => by cases e⟩
        rw [spec_UTF8.l0, if_pos c, hk]
        simp
      · have hp := en_pos ch
        have hl : i + (en ch).length ≤ s.size := by
          have := congrArg List.length hr
          rw [List.length_drop, bytesOf_length, List.length_append] at this
          omega
        have hmore : (bytesOf s).drop (i + (en ch).length).toNat = r := by
          rw [show (i + ((en ch).length : Int)).toNat = i.toNat + (en ch).length by omega, ← List.drop_drop, hr, List.drop_left]
        obtain ⟨b, hb, hb2⟩ := utf8_from s hs m (i + (en ch).length) (by omega) hl (by omega)
        refine ⟨b, (h.and hb).succ fun k hk => ?_, fun e => ?_⟩
        · rw [spec_UTF8.l0, if_pos c, hk.1]
          simp only [Option.bind_some, if_true]
          rw [w64 (by omega) (by omega)]
          exact hk.2
        · obtain ⟨cs, h2, h3⟩ := hb2 e
          refine ⟨ch :: cs, ?_, ?_⟩
          · intro x hx
            simp only [List.mem_cons] at hx
            rcases hx with rfl | hx
            · exact hc
            · exact h2 x hx
          · rw [hr, ← hmore, h3]
            rfl
    · refine ⟨true, (Ev.ge 0).succ fun k _ => by rw [spec_UTF8.l0, if_neg c], fun _ => ⟨[], fun x hx => by simp at hx, ?_⟩⟩
      exact List.drop_eq_nil_of_le (by rw [bytesOf_length]; omega)
theorem utf8_some (s : ByteArray) (hs : s.size ≤ 1000000) : ∃ b : Bool, (Ev fun k => spec_UTF8.f k s = some b) ∧ (b = true → ∃ cs, Scs cs ∧ bytesOf s = enc cs) := by
  obtain ⟨b, h1, h2⟩ := utf8_from s hs s.size 0 (by omega) (by omega) (by omega)
  exact ⟨b, h1, fun e => by simpa using h2 e⟩

/-! ### mtGuard -/
def guarded (l : List Int) : List P := l.map fun c => (true, c)
theorem guard_byte (s : ByteArray) (hs : s.size ≤ 1000000) (i : Int) (acc : List Int) (ha : acc.length ≤ 100000000) (h0 : 0 ≤ i) (h1 : i < s.size) (k : Nat) :
    laws_mtGuard.l0 (k + 1) s acc i = laws_mtGuard.l0 k s (acc ++ (if 128 ≤ bt s i ∧ bt s i ≤ 191 then [bt s i] else [92, bt s i])) (i + 1) := by
  rw [laws_mtGuard.l0, if_pos h1, if_pos h0, w64 (i := i + 1) (by omega) (by omega)]
  simp only [Option.bind_some, List.length_append, List.length_cons, List.length_nil]
  by_cases c : bt s i < 128
  · rw [if_pos c, if_pos (by omega), if_pos (by omega), if_neg (by omega), List.append_assoc]
    rfl
  · rw [if_neg c]
    by_cases d : bt s i > 191
    · rw [if_pos d, if_pos (by omega), if_pos (by omega), if_neg (by omega), List.append_assoc]
      rfl
    · rw [if_neg d, if_pos (by omega), if_pos (by omega)]
theorem guard_tail (s : ByteArray) (hs : s.size ≤ 1000000) : ∀ (t r : List Int) (i : Int) (acc : List Int) (q : ByteArray), 0 ≤ i → (bytesOf s).drop i.toNat = t ++ r → (∀ y ∈ t, 128 ≤ y ∧ y ≤ 191) → i + t.length ≤ s.size → acc.length + t.length ≤ 100000000 →
    (Ev fun k => laws_mtGuard.l0 k s (acc ++ t) (i + t.length) = some q) → Ev fun k => laws_mtGuard.l0 k s acc i = some q
  | [], r, i, acc, q, h0, h, hy, hl, ha, hq => by simpa using hq
  | y :: t, r, i, acc, q, h0, h, hy, hl, ha, hq => by
    simp only [List.length_cons] at hl ha hq
    have hlt : i < s.size := by omega
    have hd := drop_rd s i h0 hlt
    rw [h] at hd
    simp only [List.cons_append, List.cons.injEq] at hd
    have hb := hy y (by simp)
    have ih := guard_tail s hs t r (i + 1) (acc ++ [y]) q (by omega) hd.2.symm (fun x hx => hy x (by simp [hx])) (by omega) (by simp; omega) (by
      rw [List.append_assoc, show i + 1 + (t.length : Int) = i + ((t.length + 1 : Nat) : Int) by omega]
      exact hq)
    refine ih.succ fun k hk => ?_
    rw [guard_byte s hs i acc (by omega) h0 hlt, ← hd.1, if_pos hb]
    exact hk
theorem guard_from (s : ByteArray) (hs : s.size ≤ 1000000) : ∀ (cs : List Int) (i : Int) (acc : List Int), Scs cs → 0 ≤ i → (bytesOf s).drop i.toNat = enc cs → i ≤ s.size → acc.length ≤ 2 * i → Ev fun k => laws_mtGuard.l0 k s acc i = some (strOfNums (acc ++ pen (guarded cs)))
  | [], i, acc, hc, h0, h, hi, ha => by
    have : ¬ i < s.size := fun c => by
      have := drop_rd s i h0 c
      rw [h] at this
      cases this
    exact (Ev.ge 0).succ fun k _ => by rw [laws_mtGuard.l0, if_neg this]; simp [guarded, pen_nil]
  | c :: r, i, acc, hc, h0, h, hi, ha => by
    obtain ⟨x, t, e, hx, h2, h3, h4, h5⟩ := en_shape hc.head
    have hl : i + ((en c).length : Int) ≤ s.size := by
      have := congrArg List.length h
      rw [List.length_drop, bytesOf_length] at this
      simp only [enc, List.length_append] at this
      have := en_pos c
      omega
    have hlt : i < s.size := by have := en_pos c; omega
    have hd := drop_rd s i h0 hlt
    rw [h] at hd
    simp only [enc, e, List.cons_append, List.cons.injEq] at hd
    have hlen : (en c).length = t.length + 1 := by rw [e]; rfl
    have hno : ¬ (128 ≤ bt s i ∧ bt s i ≤ 191) := by
      rw [← hd.1]
      rcases Int.lt_or_le c 128 with a | a
      · have := (h2 a).1; omega
      · have := (h3 a).1; omega
    have hmore : (bytesOf s).drop (i + 1 + (t.length : Int)).toNat = enc r := by
      rw [show (i + 1 + (t.length : Int)).toNat = (i + 1).toNat + t.length by omega, ← List.drop_drop, ← hd.2, List.drop_left]
    have ih := guard_from s hs r (i + 1 + t.length) (acc ++ [92, x] ++ t) hc.tail (by omega) hmore (by omega) (by simp; omega)
    have tl := guard_tail s hs t (enc r) (i + 1) (acc ++ [92, x]) _ (by omega) hd.2.symm h4 (by omega) (by simp; omega) ih
    refine tl.succ fun k hk => ?_
    rw [guard_byte s hs i acc (by omega) h0 hlt, if_neg hno, ← hd.1, hk]
    congr 2
    have hp : pen (guarded (c :: r)) = (92 :: en c) ++ pen (guarded r) := by
      unfold guarded
      rw [List.map_cons, pen_cons, if_pos rfl]
    rw [hp, e]
    simp
theorem guard_some (s : ByteArray) (hs : s.size ≤ 1000000) (cs : List Int) (hc : Scs cs) (h : bytesOf s = enc cs) : Ev fun k => laws_mtGuard.f k s = some (strOfNums (pen (guarded cs))) := by
  have := guard_from s hs cs 0 [] hc (by omega) (by simpa using h) (by omega) (by simp)
  refine this.mp fun k hk => ?_
  unfold laws_mtGuard.f
  simpa using hk

/-! ### mtHolds -/
theorem cut_mid (s : ByteArray) (i n : Nat) : bytesOf (s.extract i (i + n)) = ((bytesOf s).drop i).take n := by
  unfold bytesOf
  rw [ByteArray.data_extract, Array.toList_extract, ← List.map_drop, ← List.map_take]
  congr 1
  simp
theorem holds_from (s p : ByteArray) (hs : s.size ≤ 1000000) (hp : p.size ≤ 1000000) : ∀ (m : Nat) (i : Nat), s.size + 1 - i ≤ m → i ≤ s.size + 1 →
    ∃ b : Bool, (Ev fun k => laws_mtHolds.l0 k s p (i : Int) = some b) ∧ (b = true ↔ ∃ x y, bytesOf s = x ++ (bytesOf p ++ y) ∧ i ≤ x.length)
  | m, i, hm, hi => by
    by_cases c : i + p.size ≤ s.size
    · cases m with
      | zero => omega
      | succ m =>
      have hw : wrap64 ((i : Int) + (p.size : Int)) = ((i + p.size : Nat) : Int) := by rw [w64 (by omega) (by omega)]; omega
      have heq : (s.extract i (i + p.size)).toList = p.toList ↔ ((bytesOf s).drop i).take p.size = bytesOf p := by
        constructor
        · intro h
          rw [← cut_mid, toList_inj h]
        · intro h
          rw [← cut_mid] at h
          rw [bytes_inj h]
      have hlen : (bytesOf s).length = s.size := bytesOf_length s
      by_cases d : ((bytesOf s).drop i).take p.size = bytesOf p
      · refine ⟨true, (Ev.ge 0).succ fun k _ => ?_, fun _ => ⟨(bytesOf s).take i, ((bytesOf s).drop i).drop p.size, ?_, ?_⟩, fun _ => rfl⟩
        · rw [laws_mtHolds.l0, hw, if_pos (by omega), if_pos (by omega), if_pos (by omega), Int.toNat_natCast, Int.toNat_natCast, if_pos (heq.mpr d)]
        · rw [← d, List.take_append_drop, List.take_append_drop]
        · rw [List.length_take, hlen]; omega
      · obtain ⟨b, hb, hb2⟩ := holds_from s p hs hp m (i + 1) (by omega) (by omega)
        refine ⟨b, hb.succ fun k hk => ?_, ?_⟩
        · rw [laws_mtHolds.l0, hw, if_pos (by omega), if_pos (by omega), if_pos (by omega), Int.toNat_natCast, Int.toNat_natCast, if_neg (fun h => d (heq.mp h)), w64 (by omega) (by omega)]
          exact hk
        · rw [hb2]
          constructor
          · rintro ⟨x, y, h, hx⟩; exact ⟨x, y, h, by omega⟩
          · rintro ⟨x, y, h, hx⟩
            refine ⟨x, y, h, ?_⟩
            by_cases e : x.length = i
            · exfalso
              refine d ?_
              rw [h, ← e, List.drop_left, ← bytesOf_length p, List.take_left]
            · omega
    · refine ⟨false, (Ev.ge 0).succ fun k _ => ?_, ?_⟩
      · rw [laws_mtHolds.l0, w64 (by omega) (by omega), if_neg (by omega)]
      · constructor
        · intro h; cases h
        · rintro ⟨x, y, h, hx⟩
          have := congrArg List.length h
          rw [bytesOf_length, List.length_append, List.length_append, bytesOf_length] at this
          omega
theorem holds_some (s p : ByteArray) (hs : s.size ≤ 1000000) (hp : p.size ≤ 1000000) : ∃ b : Bool, (Ev fun k => laws_mtHolds.f k s p = some b) ∧ (b = true ↔ ∃ x y, bytesOf s = x ++ (bytesOf p ++ y)) := by
  obtain ⟨b, h1, h2⟩ := holds_from s p hs hp (s.size + 1) 0 (by omega) (by omega)
  refine ⟨b, h1, h2.trans ⟨fun ⟨x, y, h, _⟩ => ⟨x, y, h⟩, fun ⟨x, y, h⟩ => ⟨x, y, h, Nat.zero_le _⟩⟩⟩

/-! ### what the guarded pattern matches -/
theorem M_guarded : ∀ (ds : List Int) (cs : List Int), M false (guarded ds) cs ↔ cs = ds
  | [], cs => M_nil
  | d :: r, cs => by
    unfold guarded
    rw [List.map_cons, M_char (by simp [star])]
    constructor
    · rintro ⟨c, q, rfl, hf, h⟩
      rw [(M_guarded r q).mp h]
      rcases hf with hf | hf
      · cases hf
      · unfold lo at hf
        simp at hf
        rw [hf]
    · rintro rfl
      exact ⟨d, r, rfl, .inr rfl, (M_guarded r r).mpr rfl⟩
theorem M_within (ds cs : List Int) : M false (star :: (guarded ds ++ [star])) cs ↔ ∃ p q, cs = p ++ (ds ++ q) := by
  rw [M_star]
  constructor
  · rintro ⟨a, b, rfl, h⟩
    obtain ⟨u, v, rfl, h1, _⟩ := M_app.mp h
    rw [(M_guarded ds u).mp h1]
    exact ⟨a, v, rfl⟩
  · rintro ⟨p, q, rfl⟩
    exact ⟨p, ds ++ q, rfl, M_app.mpr ⟨ds, q, rfl, (M_guarded ds ds).mpr rfl, M_star_only⟩⟩
theorem guarded_ok {ds : List Int} (h : Scs ds) : okps (star :: (guarded ds ++ [star])) := by
  have hs : okp star := ⟨by unfold Sc star; simp, fun _ => by decide⟩
  intro p hp
  simp only [List.mem_cons, List.mem_append, List.not_mem_nil, or_false] at hp
  rcases hp with rfl | hp | rfl
  · exact hs
  · obtain ⟨c, hc, rfl⟩ := List.mem_map.mp hp
    exact ⟨h c hc, fun h => by cases h⟩
  · exact hs
theorem pen_byte {l : List P} (h : okps l) : ∀ x ∈ pen l, 0 ≤ x ∧ x ≤ 255 := by
  have : ∀ {l : List Int}, Scs l → ∀ x ∈ enc l, 0 ≤ x ∧ x ≤ 255 := by
    intro l
    induction l with
    | nil => intro _ x hx; simp [enc] at hx
    | cons c r ih =>
      intro hc x hx
      simp only [enc, List.mem_append] at hx
      rcases hx with hx | hx
      · obtain ⟨v, w, e, h1, _, _, h4, _⟩ := en_shape hc.head
        rw [e, List.mem_cons] at hx
        rcases hx with rfl | hx
        · exact h1
        · have := h4 x hx; omega
      · exact ih hc.tail x hx
  exact this (scs_pcs h)
theorem pen_le : ∀ (cs : List Int), (pen (guarded cs)).length ≤ 2 * (enc cs).length
  | [] => by simp [guarded, pen_nil]
  | c :: r => by
    have ih := pen_le r
    have := en_pos c
    have hp : pen (guarded (c :: r)) = (92 :: en c) ++ pen (guarded r) := by
      unfold guarded
      rw [List.map_cons, pen_cons, if_pos rfl]
    rw [hp]
    simp only [List.length_append, List.length_cons, enc]
    omega
theorem FnMtWithin : laws_FnMtWithin.Pure := by
  intro s p hs hp
  have J0 : ∀ k b, b = true → laws_FnMtWithin.j0 (k + 1) s p b = some true := fun k b hb => by rw [laws_FnMtWithin.j0, if_pos hb]
  have J1 : ∀ k b, b = true → laws_FnMtWithin.j1 (k + 1) s p b = some true := fun k b hb => by rw [laws_FnMtWithin.j1, if_pos hb]
  by_cases c1 : (s.size : Int) > 2147483647
  · exact ⟨1, by unfold laws_FnMtWithin.f; rw [if_pos c1]; exact J0 0 true rfl⟩
  · by_cases c2 : (p.size : Int) > 2147483647
    · exact ⟨1, by unfold laws_FnMtWithin.f; rw [if_neg c1]; exact J0 0 _ (by simpa using c2)⟩
    · have start : ∀ k, laws_FnMtWithin.f (k + 1) s p = if (s.size : Int) > 4096 then (laws_FnMtWithin.j1 k s p true) else (if (p.size : Int) > 4096 then (laws_FnMtWithin.j1 k s p true) else ((spec_UTF8.f k s).bind fun t129 => (if t129 = true then ((spec_UTF8.f k p).bind fun t130 => (laws_FnMtWithin.j1 k s p (!t130))) else (laws_FnMtWithin.j1 k s p true)))) := fun k => by
        unfold laws_FnMtWithin.f
        rw [if_neg c1, laws_FnMtWithin.j0, if_neg (by simpa using c2)]
      by_cases c3 : (s.size : Int) > 4096
      · exact ⟨2, by rw [start, if_pos c3]; exact J1 0 _ rfl⟩
      · by_cases c4 : (p.size : Int) > 4096
        · exact ⟨2, by rw [start, if_neg c3, if_pos c4]; exact J1 0 _ rfl⟩
        · obtain ⟨b1, hb1, hb1'⟩ := utf8_some s (by omega)
          obtain ⟨b2, hb2, hb2'⟩ := utf8_some p (by omega)
          cases b1 with
          | false =>
            obtain ⟨k, hk, hk1⟩ := (hb1.and (Ev.ge 1)).ex
            obtain ⟨j, rfl⟩ : ∃ j, k = j + 1 := ⟨k - 1, by omega⟩
            exact ⟨j + 1 + 1, by rw [start, if_neg c3, if_neg c4, hk]; simp only [Option.bind_some]; rw [if_neg (by simp)]; exact J1 _ _ rfl⟩
          | true =>
            cases b2 with
            | false =>
              obtain ⟨k, ⟨hk, hk2⟩, hk1⟩ := ((hb1.and hb2).and (Ev.ge 1)).ex
              obtain ⟨j, rfl⟩ : ∃ j, k = j + 1 := ⟨k - 1, by omega⟩
              exact ⟨j + 1 + 1, by rw [start, if_neg c3, if_neg c4, hk]; simp only [Option.bind_some]; rw [if_pos trivial, hk2]; simp only [Option.bind_some]; exact J1 _ _ rfl⟩
            | true =>
              obtain ⟨cs, h1, h2⟩ := hb1' rfl
              obtain ⟨ds, h3, h4⟩ := hb2' rfl
              have hok := guarded_ok h3
              have hg := guard_some p (by omega) ds h3 h4
              have hokg : okps (guarded ds) := fun x hx => hok x (by simp [hx])
              have hgb : bytesOf (strOfNums (pen (guarded ds))) = pen (guarded ds) := strOf_bytes _ (pen_byte hokg)
              have hpl := pen_le ds
              have hdl : (enc ds).length = p.size := by rw [← h4, bytesOf_length]
              have hsz : (strOfNums (pen (guarded ds))).size ≤ 8192 := by rw [← bytesOf_length, hgb]; omega
              have e42 : bytesOf (⟨#[42]⟩ : ByteArray) = [42] := rfl
              have z42 : (⟨#[42]⟩ : ByteArray).size = 1 := rfl
              have hpat : bytesOf ((((⟨#[42]⟩ : ByteArray) ++ strOfNums (pen (guarded ds))) ++ (⟨#[42]⟩ : ByteArray))) = pen (star :: (guarded ds ++ [star])) := by
                rw [bytesOf_append, bytesOf_append, hgb, e42, pen_star, pen_append]
                rfl
              have hpz : ((((⟨#[42]⟩ : ByteArray) ++ strOfNums (pen (guarded ds))) ++ (⟨#[42]⟩ : ByteArray))).size ≤ 1000000 := by
                rw [ByteArray.size_append, ByteArray.size_append, z42]; omega
              obtain ⟨r, hr, hr2⟩ := m_some false _ _ cs s _ (Nat.le_refl _) hok h1 h2 hpat (by omega) hpz
              obtain ⟨bh, hbh, hbh2⟩ := holds_some s p (by omega) (by omega)
              have hnot : ¬ bytesOf ((((⟨#[42]⟩ : ByteArray) ++ strOfNums (pen (guarded ds))) ++ (⟨#[42]⟩ : ByteArray))) = [42] := fun h => by
                have := congrArg List.length h
                rw [bytesOf_append, bytesOf_append, e42] at this
                simp at this
              have hm : (decide (r = 1)) = bh := by
                rw [Bool.eq_iff_iff, decide_eq_true_eq, hbh2, h2, h4]
                have hiff : M false (star :: (guarded ds ++ [star])) cs ↔ ∃ x y, enc cs = x ++ (enc ds ++ y) := by
                  rw [M_within]
                  constructor
                  · rintro ⟨p', q', rfl⟩
                    exact ⟨enc p', enc q', by rw [enc_append, enc_append]⟩
                  · rintro ⟨x, y, h⟩
                    by_cases hd : ds = []
                    · subst hd
                      exact ⟨cs, [], by simp⟩
                    · obtain ⟨p', q', e, _⟩ := enc_within h1 h3 hd h
                      exact ⟨p', q', e⟩
                rw [← hiff]
                rcases hr2 with ⟨rfl, h⟩ | ⟨rfl, h⟩
                · exact ⟨fun _ => h, fun _ => rfl⟩
                · exact ⟨fun h => by omega, fun g => absurd g h⟩
              obtain ⟨k, ⟨hk1, hk2⟩, j, hk, hk3, hk4, hk5⟩ := ((((hb1.and hb2).and (Ev.succ (Q := fun k => ∃ j, k = j + 1 ∧ laws_mtGuard.f j p = some (strOfNums (pen (guarded ds))) ∧ match_match0.m j s ((((⟨#[42]⟩ : ByteArray) ++ strOfNums (pen (guarded ds))) ++ (⟨#[42]⟩ : ByteArray))) false = some r ∧ laws_mtHolds.f j s p = some bh) ((hg.and hr).and hbh) fun k hk => ⟨k, rfl, hk.1.1, hk.1.2, hk.2⟩)))).ex
              subst hk
              refine ⟨j + 1 + 1, ?_⟩
              rw [start, if_neg c3, if_neg c4, hk1]
              simp only [Option.bind_some]
              rw [if_pos trivial, hk2]
              simp only [Option.bind_some]
              rw [laws_FnMtWithin.j1, if_neg (by simp), hk3]
              simp only [Option.bind_some]
              rw [if_pos (by omega), if_pos (by rw [ByteArray.size_append, z42]; omega)]
              unfold impl_MtMatch.f match_Match.f match_match0.f
              rw [if_neg hnot, hk4]
              simp only [Option.map_some, Option.bind_some]
              rw [hk5]
              simp only [Option.bind_some, Option.some.injEq, beq_iff_eq]
              exact hm

end Go.Proofs.YtdllbnecbbggfaaDoor.Pure
