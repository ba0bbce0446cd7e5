/- Strings as fastjson's Validate takes them: the closing quote, the escapes, and that of a steady text the reference takes the same. -/
import Derived.Test.YtjfofbgnppdlgaaDoorFjPlain
namespace Go.Proofs.YtjfofbgnppdlgaaDoor.Fj
open Go.RowKit Go.Proofs.YtjfofbgnppdlgaaDoorW.PrintWords Go.Proofs.YtjfofbgnppdlgaaDoorW.PrintLast
set_option linter.unusedVariables false
set_option linter.unusedSimpArgs false

/-- Of the inside of a string: where the part behind its last escape begins (0: it has none); none if a backslash begins no escape. -/
def escs : List Int → Option Nat
  | [] => some 0
  | c :: r => if c = 92 then (match r with
      | [] => none
      | d :: r2 => if simple8 d = true then (escs r2).map (· + 2) else if d = 117 then (match r2 with
          | a :: b :: e :: f :: r3 => if (hexd a && (hexd b && (hexd e && hexd f))) = true then (escs r3).map (· + 6) else none
          | _ => none) else none)
    else (escs r).map (fun m => if m = 0 then 0 else m + 1)
/-- A string's inside and end: where its last part begins, where its closing quote stands. -/
def vs (l : List Int) : Option (Nat × Nat) := match qend l with | none => none | some q => (escs (l.take q)).map (·, q)
/-- No byte below 32 is followed by a backslash without a quotation mark between the two. -/
def Steady : List Int → Prop
  | [] => True
  | c :: r => (c < 32 → ∀ x y : List Int, r = x ++ 92 :: y → (34 : Int) ∈ x) ∧ Steady r
def ctl (l : List Int) : Bool := l.any fun c => decide (c < 32)

theorem Steady.drop : ∀ (n : Nat) (l : List Int), Steady l → Steady (l.drop n)
  | 0, l, h => h
  | n + 1, [], h => h
  | n + 1, c :: r, h => Steady.drop n r h.2
theorem qend_nil : qend [] = none := by rw [qend]
theorem qend_34 (r : List Int) : qend (34 :: r) = some 0 := by
  cases r <;> simp [qend]
theorem qend_92 (d : Int) (r : List Int) : qend (92 :: d :: r) = (qend r).map (· + 2) := by
  rw [qend]; simp
theorem qend_921 : qend [92] = none := by simp [qend]
theorem qend_other {c : Int} (h1 : c ≠ 34) (h2 : c ≠ 92) (r : List Int) : qend (c :: r) = (qend r).map (· + 1) := by
  cases r with
  | nil => simp [qend, h1]
  | cons d r => rw [qend, if_neg h1, if_neg h2]
theorem escs_nil : escs [] = some 0 := by rw [escs]
theorem escs_other {c : Int} (h : c ≠ 92) (r : List Int) : escs (c :: r) = (escs r).map (fun m => if m = 0 then 0 else m + 1) := by
  rw [escs.eq_def]; simp only [if_neg h]
theorem escs_simple {d : Int} (h : simple8 d = true) (r : List Int) : escs (92 :: d :: r) = (escs r).map (· + 2) := by
  rw [escs.eq_def]; simp only [h, if_true]
theorem simple8_117 : simple8 117 = false := by decide
theorem escs_u {a b e f : Int} (h : (hexd a && (hexd b && (hexd e && hexd f))) = true) (r : List Int) : escs (92 :: 117 :: a :: b :: e :: f :: r) = (escs r).map (· + 6) := by
  rw [escs.eq_def]; simp only [simple8_117, if_true, Bool.false_eq_true, if_false, h]
theorem hexd_not {c : Int} (h : hexd c = true) : c ≠ 34 ∧ c ≠ 92 := by
  unfold hexd at h
  simp only [Bool.or_eq_true, decide_eq_true_eq] at h
  omega
theorem simple_ge {d : Int} (h : simple8 d = true) : 32 ≤ d := by
  unfold simple8 at h
  simp only [Bool.or_eq_true, beq_iff_eq] at h
  omega
/-- A bad escape: none. -/
theorem escs_bad {d : Int} (hs : simple8 d = false) (r : List Int) (hu : d = 117 → ∀ a b e f r3, r = a :: b :: e :: f :: r3 → (hexd a && (hexd b && (hexd e && hexd f))) = false) : escs (92 :: d :: r) = none := by
  rw [escs.eq_def]
  simp only [if_true, hs, Bool.false_eq_true, if_false]
  by_cases h : d = 117
  · rw [if_pos h]
    match r with
    | a :: b :: e :: f :: r3 => simp only [hu h a b e f r3 rfl, Bool.false_eq_true, if_false]
    | [] => rfl
    | [_] => rfl
    | [_, _] => rfl
    | [_, _, _] => rfl
  · rw [if_neg h]
theorem escs_short : escs [92] = none := by simp [escs]
/-- Ahead of the first backslash nothing happens. -/
theorem escs_ahead (y : List Int) : ∀ x : List Int, (92 : Int) ∉ x → escs (x ++ y) = (escs y).map (fun m => if m = 0 then 0 else x.length + m)
  | [], _ => by
    simp only [List.nil_append, List.length_nil, Nat.zero_add]
    cases escs y with
    | none => rfl
    | some m => simp only [Option.map_some]; congr 1; split <;> omega
  | c :: x, h => by
    have h1 : c ≠ 92 := fun e => h (by rw [e]; exact List.mem_cons_self ..)
    have h2 : (92 : Int) ∉ x := fun e => h (List.mem_cons_of_mem _ e)
    rw [List.cons_append, escs_other h1, escs_ahead y x h2]
    cases escs y with
    | none => rfl
    | some m =>
      simp only [Option.map_some, List.length_cons]
      congr 1
      repeat' split
      all_goals omega
theorem escs_clean (x : List Int) (h : (92 : Int) ∉ x) : escs x = some 0 := by
  have := escs_ahead [] x h
  rw [List.append_nil] at this
  rw [this, escs_nil]; rfl
theorem qend_lt : ∀ (n : Nat) (l : List Int) (q : Nat), l.length ≤ n → qend l = some q → q < l.length
  | 0, [], q, _, h => by rw [qend_nil] at h; cases h
  | 0, _ :: _, q, hn, h => by simp at hn
  | n + 1, [], q, _, h => by rw [qend_nil] at h; cases h
  | n + 1, c :: r, q, hn, h => by
    simp only [List.length_cons] at hn ⊢
    by_cases h1 : c = 34
    · subst h1; rw [qend_34] at h; cases h; omega
    · by_cases h2 : c = 92
      · subst h2
        match r with
        | [] => rw [qend_921] at h; cases h
        | d :: r =>
          rw [qend_92] at h
          simp only [List.length_cons] at hn ⊢
          cases hq : qend r with
          | none => rw [hq] at h; cases h
          | some p =>
            rw [hq] at h
            have := qend_lt n r p (by omega) hq
            simp only [Option.map_some, Option.some.injEq] at h
            omega
      · rw [qend_other h1 h2] at h
        cases hq : qend r with
        | none => rw [hq] at h; cases h
        | some p =>
          rw [hq] at h
          have := qend_lt n r p (by omega) hq
          simp only [Option.map_some, Option.some.injEq] at h
          omega
/-- What the quoted part is, told by its parts. -/
def quoB (l : List Int) : Option Nat := match vs l with | none => none | some (m, q) => if ctl ((l.take q).drop m) = true then none else some (q + 1)
theorem quoB_shift (l r : List Int) (n : Nat) (hq : qend l = (qend r).map (· + n)) (he : ∀ q, escs (l.take (q + n)) = (escs (r.take q)).map (· + n)) (hr : l.drop n = r) : quoB l = (quoB r).map (· + n) := by
  unfold quoB vs
  rw [hq]
  cases hz : qend r with
  | none => rfl
  | some q =>
    simp only [Option.map_some, he q]
    cases hm : escs (r.take q) with
    | none => rfl
    | some m =>
      simp only [Option.map_some]
      have e : (l.take (q + n)).drop (m + n) = (r.take q).drop m := by
        rw [List.drop_take, List.drop_take, ← hr, List.drop_drop, Nat.add_comm m n, show q + n - (n + m) = q - m from by omega]
      rw [e]
      by_cases hc : ctl ((r.take q).drop m) = true
      · rw [if_pos hc, if_pos hc]; rfl
      · rw [if_neg hc, if_neg hc]
        simp only [Option.map_some]
        congr 1; omega
theorem quoB_one {c : Int} (r : List Int) (h1 : c ≠ 34) (h2 : c ≠ 92) (h3 : ¬ c < 32) : quoB (c :: r) = (quoB r).map (· + 1) := by
  unfold quoB vs
  rw [qend_other h1 h2]
  cases hz : qend r with
  | none => rfl
  | some q =>
    simp only [Option.map_some]
    rw [List.take_succ_cons, escs_other h2]
    cases hm : escs (r.take q) with
    | none => rfl
    | some m =>
      simp only [Option.map_some]
      have e : ctl ((c :: r.take q).drop (if m = 0 then 0 else m + 1)) = ctl ((r.take q).drop m) := by
        by_cases h0 : m = 0
        · rw [if_pos h0, h0, List.drop_zero, List.drop_zero]
          unfold ctl
          rw [List.any_cons, decide_eq_false h3, Bool.false_or]
        · rw [if_neg h0, List.drop_succ_cons]
      rw [List.take_succ_cons, e]
      by_cases hc : ctl ((r.take q).drop m) = true
      · rw [if_pos hc, if_pos hc]; rfl
      · rw [if_neg hc, if_neg hc]; rfl
theorem qend_ahead (z : List Int) : ∀ x : List Int, (92 : Int) ∉ x → (34 : Int) ∈ x → ∃ p, qend (x ++ z) = some p ∧ p < x.length
  | [], _, h => by cases h
  | c :: x, h, h' => by
    by_cases h1 : c = 34
    · subst h1; exact ⟨0, qend_34 _, by simp⟩
    · have h2 : c ≠ 92 := fun e => h (by rw [e]; exact List.mem_cons_self ..)
      obtain ⟨p, e, hp⟩ := qend_ahead z x (fun e => h (List.mem_cons_of_mem _ e)) (by
        rcases List.mem_cons.mp h' with e | e
        · exact absurd e.symm h1
        · exact e)
      exact ⟨p + 1, by rw [List.cons_append, qend_other h1 h2, e]; rfl, by simpa using hp⟩
/-- The first backslash of a list. -/
theorem split92 : ∀ l : List Int, (92 : Int) ∈ l → ∃ x y, l = x ++ 92 :: y ∧ (92 : Int) ∉ x
  | [], h => by cases h
  | c :: l, h => by
    by_cases h1 : c = 92
    · subst h1; exact ⟨[], l, rfl, by simp⟩
    · obtain ⟨x, y, e, hx⟩ := split92 l (by
        rcases List.mem_cons.mp h with e | e
        · exact absurd e.symm h1
        · exact e)
      exact ⟨c :: x, y, by rw [e]; rfl, fun hc => by
        rcases List.mem_cons.mp hc with e | e
        · exact h1 e.symm
        · exact hx e⟩
theorem quoB_ctl {c : Int} (r : List Int) (h3 : c < 32) (hs : Steady (c :: r)) : quoB (c :: r) = none := by
  unfold quoB vs
  rw [qend_other (by omega) (by omega)]
  cases hz : qend r with
  | none => rfl
  | some q =>
    simp only [Option.map_some]
    rw [List.take_succ_cons, escs_other (show c ≠ 92 by omega)]
    by_cases hb : (92 : Int) ∈ r.take q
    · obtain ⟨x, y, e, hx⟩ := split92 _ hb
      have er : r = x ++ 92 :: (y ++ r.drop q) := by
        have := List.take_append_drop q r
        rw [e] at this
        exact this.symm.trans (by simp)
      have hm := hs.1 h3 x _ er
      obtain ⟨p, hp, hlt⟩ := qend_ahead (92 :: (y ++ r.drop q)) x hx hm
      rw [← er, hz] at hp
      obtain rfl := Option.some.inj hp
      have hl : (r.take q).length = x.length + (y.length + 1) := by rw [e]; simp
      have := List.length_take_le q r
      omega
    · rw [escs_clean _ hb]
      simp only [Option.map_some, if_true, List.drop_zero]
      rw [if_pos]
      unfold ctl
      rw [List.take_succ_cons, List.any_cons, decide_eq_true h3, Bool.true_or]
theorem take_hex {a b e f : Int} (r : List Int) (q : Nat) : List.take (q + 6) (92 :: 117 :: a :: b :: e :: f :: r) = 92 :: 117 :: a :: b :: e :: f :: r.take q := by
  simp [List.take_succ_cons]
theorem quoB_bad {d : Int} (hs : simple8 d = false) (r : List Int) (hu : d = 117 → ∀ a b e f r3, r = a :: b :: e :: f :: r3 → (hexd a && (hexd b && (hexd e && hexd f))) = false) : quoB (92 :: d :: r) = none := by
  unfold quoB vs
  rw [qend_92]
  cases hz : qend r with
  | none => rfl
  | some q =>
    simp only [Option.map_some, List.take_succ_cons]
    rw [escs_bad hs (r.take q) (fun h a b e f r3 hr => ?_)]
    · rfl
    · refine hu h a b e f (r3 ++ r.drop q) ?_
      have := List.take_append_drop q r
      rw [hr] at this
      exact this.symm.trans (by simp)
theorem quo_eq : ∀ (n : Nat) (l : List Int), l.length ≤ n → Steady l → quo l = quoB l
  | _, [], _, _ => by rw [quo]; unfold quoB vs; rw [qend_nil]
  | 0, _ :: _, h, _ => by simp at h
  | n + 1, c :: r, hn, hs => by
    have ih := fun l h => quo_eq n l h
    simp only [List.length_cons] at hn
    rw [quo.eq_def]
    simp only []
    by_cases h1 : c = 34
    · subst h1
      rw [if_pos rfl]
      unfold quoB vs
      rw [qend_34]
      simp only [List.take_zero, escs_nil, Option.map_some]
      rfl
    · rw [if_neg h1]
      by_cases h3 : c < 32
      · rw [if_pos h3, quoB_ctl r h3 hs]
      · rw [if_neg h3]
        by_cases h2 : c = 92
        · subst h2
          rw [if_pos rfl]
          match r, hs, hn with
          | [], _, _ => unfold quoB vs; rw [qend_921]
          | d :: r2, hs, hn =>
            simp only [List.length_cons] at hn
            simp only []
            by_cases h4 : simple8 d = true
            · rw [if_pos h4, ih r2 (by omega) hs.2.2]
              refine (quoB_shift _ r2 2 (qend_92 d r2) (fun q => ?_) rfl).symm
              rw [List.take_succ_cons, List.take_succ_cons, escs_simple h4]
            · rw [if_neg h4]
              have h4' : simple8 d = false := by simpa using h4
              by_cases h5 : d = 117
              · rw [if_pos h5]
                match r2, hs, hn with
                | a :: b :: e :: f :: r3, hs, hn =>
                  simp only []
                  simp only [List.length_cons] at hn
                  by_cases h6 : (hexd a && (hexd b && (hexd e && hexd f))) = true
                  · rw [if_pos h6, ih r3 (by omega) hs.2.2.2.2.2.2]
                    have g := h6
                    simp only [Bool.and_eq_true] at g
                    obtain ⟨ga, gb, ge, gf⟩ := g
                    refine (quoB_shift _ r3 6 ?_ (fun q => ?_) rfl).symm
                    · rw [qend_92, qend_other (hexd_not ga).1 (hexd_not ga).2, qend_other (hexd_not gb).1 (hexd_not gb).2, qend_other (hexd_not ge).1 (hexd_not ge).2, qend_other (hexd_not gf).1 (hexd_not gf).2]
                      cases qend r3 <;> rfl
                    · rw [h5, take_hex, escs_u h6]
                  · rw [if_neg h6, quoB_bad h4']
                    intro _ a' b' e' f' r3' hr
                    simp only [List.cons.injEq] at hr
                    obtain ⟨rfl, rfl, rfl, rfl, _⟩ := hr
                    simpa using h6
                | [], _, _ => rw [quoB_bad h4']; intro _ a' b' e' f' r3' hr; cases hr
                | [_], _, _ => rw [quoB_bad h4']; intro _ a' b' e' f' r3' hr; cases hr
                | [_, _], _, _ => rw [quoB_bad h4']; intro _ a' b' e' f' r3' hr; cases hr
                | [_, _, _], _, _ => rw [quoB_bad h4']; intro _ a' b' e' f' r3' hr; cases hr
              · rw [if_neg h5, quoB_bad h4' r2 (fun h => absurd h h5)]
        · rw [if_neg h2, quoB_one r h1 h2 h3, ih r (by omega) hs.2]
/-- The state behind some bytes none of which closes: does a backslash stand open? -/
def opn (e : Bool) (x : List Int) : Bool := x.foldl (fun e c => if e then false else c == 92) e
def qe (e : Bool) (l : List Int) : Option Nat := if e then (match l with | [] => none | _ :: r => (qend r).map (· + 1)) else qend l
theorem qe_cons (e : Bool) (c : Int) (l : List Int) (h : c ≠ 34 ∨ e = true) : qe e (c :: l) = (qe (if e then false else c == 92) l).map (· + 1) := by
  cases e with
  | true => rfl
  | false =>
    have h1 : c ≠ 34 := by rcases h with h | h; exact h; cases h
    show qend (c :: l) = _
    by_cases h2 : c = 92
    · subst h2
      cases l with
      | nil => rw [qend_921]; rfl
      | cons d r =>
        rw [qend_92]
        show _ = Option.map (· + 1) ((qend r).map (· + 1))
        cases qend r <;> rfl
    · rw [qend_other h1 h2]
      have : (c == 92) = false := beq_eq_false_iff_ne.mpr h2
      simp only [this, Bool.false_eq_true, if_false]
      rfl
theorem qe_ahead (z : List Int) : ∀ (x : List Int) (e : Bool), (34 : Int) ∉ x → qe e (x ++ z) = (qe (opn e x) z).map (x.length + ·)
  | [], e, _ => by
    show qe e z = Option.map (fun a => 0 + a) (qe e z)
    cases qe e z with
    | none => rfl
    | some a => simp only [Option.map_some, Nat.zero_add]
  | c :: x, e, h => by
    rw [List.cons_append, qe_cons e c _ (.inl fun q => h (by rw [q]; exact List.mem_cons_self ..)), qe_ahead z x _ (fun q => h (List.mem_cons_of_mem _ q))]
    show _ = Option.map _ (qe (opn (if e then false else c == 92) x) z)
    cases qe (opn (if e then false else c == 92) x) z with
    | none => rfl
    | some a => simp only [Option.map_some, List.length_cons]; congr 1; omega
theorem opn_append (e : Bool) (x y : List Int) : opn e (x ++ y) = opn (opn e x) y := List.foldl_append ..
theorem opn_rep : ∀ (r : Nat) (e : Bool), opn e (List.replicate r 92) = (e != (r % 2 == 1))
  | 0, e => by cases e <;> rfl
  | r + 1, e => by
    rw [List.replicate_succ]
    show opn (if e then false else (92 : Int) == 92) (List.replicate r 92) = _
    rw [opn_rep r]
    have : ((r + 1) % 2 == 1) = !(r % 2 == 1) := by
      by_cases h : r % 2 = 1
      · rw [beq_iff_eq.mpr h, beq_eq_false_iff_ne.mpr (by omega)]; rfl
      · rw [beq_eq_false_iff_ne.mpr h, beq_iff_eq.mpr (by omega)]; rfl
    rw [this]
    cases e <;> cases (r % 2 == 1) <;> rfl
/-- Behind a byte that is no backslash, or at the beginning, nothing stands open. -/
def Shut (x : List Int) : Prop := x = [] ∨ ∃ y c, x = y ++ [c] ∧ c ≠ 92
theorem opn_shut {x : List Int} (h : Shut x) : opn false x = false := by
  rcases h with rfl | ⟨y, c, rfl, hc⟩
  · rfl
  · rw [opn_append]
    show (if opn false y then false else c == 92) = false
    rw [beq_eq_false_iff_ne.mpr hc]
    simp
/-- The first quotation mark of a text: the backslashes right ahead of it decide. -/
theorem qend_first (x z : List Int) (r : Nat) (hx : Shut x) (h34 : (34 : Int) ∉ x) : qend (x ++ (List.replicate r 92 ++ 34 :: z)) = if r % 2 = 0 then some (x.length + r) else (qend z).map (x.length + r + 1 + ·) := by
  have h := qe_ahead (34 :: z) (x ++ List.replicate r 92) false (by
    rw [List.mem_append]
    rintro (q | q)
    · exact h34 q
    · have := List.eq_of_mem_replicate q
      omega)
  rw [List.append_assoc] at h
  show qe false _ = _
  rw [h, opn_append, opn_shut hx, opn_rep]
  by_cases c : r % 2 = 0
  · rw [if_pos c, beq_eq_false_iff_ne.mpr (by omega)]
    show Option.map _ (qend (34 :: z)) = _
    rw [qend_34, List.length_append, List.length_replicate]
    rfl
  · rw [if_neg c, beq_iff_eq.mpr (by omega : r % 2 = 1)]
    show Option.map _ ((qend z).map (· + 1)) = _
    rw [List.length_append, List.length_replicate]
    cases qend z with
    | none => rfl
    | some a => simp only [Option.map_some]; congr 1; omega
theorem qend_without : ∀ (n : Nat) (l : List Int), l.length ≤ n → (34 : Int) ∉ l → qend l = none := fun n l _ h => by
  have := qe_ahead [] l false h
  rw [List.append_nil] at this
  show qe false l = none
  rw [this]
  cases opn false l with
  | true => rfl
  | false => show Option.map _ (qend []) = none; rw [qend_nil]; rfl
end Go.Proofs.YtjfofbgnppdlgaaDoor.Fj
