/- Plain Lean: the tokens of a printed address. -/
import Derived.Test.YtpoglombagmhmaaGreatDoorV9
import Derived.Test.YtpoglombagmhmaaGreatDoorV8
import Derived.Test.YtpoglombagmhmaaGreatDoorRow
import Derived.Test.YtpoglombagmhmaaGreatDoorQs
import Derived.Test.YtpoglombagmhmaaGreatDoorA1
namespace Go.Proofs.YtpoglombagmhmaaGreatDoor
open Go

/-- Atoms of ASCII with points between them. -/
inductive Dots : List UInt8 → Prop
  | one (a : List UInt8) (h0 : a ≠ []) (h : ∀ c ∈ a, atomB c = true ∧ c.toNat < 128) : Dots a
  | more (a l : List UInt8) (h0 : a ≠ []) (h : ∀ c ∈ a, atomB c = true ∧ c.toNat < 128) (hl : Dots l) : Dots (a ++ 46 :: l)

theorem atom_46 : atomB 46 = false := by decide
theorem Dots.ne {l : List UInt8} (h : Dots l) : l ≠ [] := by
  cases h with
  | one _ h0 _ => exact h0
  | more a l h0 _ _ => simp
theorem Dots.cons {c : UInt8} {l : List UInt8} (hc : atomB c = true ∧ c.toNat < 128) (h : Dots l) : Dots (c :: l) := by
  cases h with
  | one _ h0 h => exact .one _ (by simp) (fun d hd => (List.mem_cons.1 hd).elim (fun e => by rw [e]; exact hc) (fun hd => h d hd))
  | more a l h0 h hl =>
    rw [← List.cons_append]
    exact .more _ _ (by simp) (fun d hd => (List.mem_cons.1 hd).elim (fun e => by rw [e]; exact hc) (fun hd => h d hd)) hl

/-- What dottedL says, from a place on: a point is neither last nor ahead of another point. -/
def dotsL : List UInt8 → Bool
  | [] => false
  | [c] => atomB c && decide (c.toNat < 128)
  | c :: d :: t => if c = 46 then decide (d ≠ 46) && dotsL (d :: t) else atomB c && decide (c.toNat < 128) && dotsL (d :: t)

theorem dots_of : ∀ (l : List UInt8), dotsL l = true → (∀ c t, l = c :: t → c ≠ 46) → Dots l
  | [], h, _ => by simp [dotsL] at h
  | [c], h, _ => by
    rw [dotsL, Bool.and_eq_true] at h
    exact .one _ (by simp) (fun d hd => by rw [List.mem_singleton.1 hd]; exact ⟨h.1, of_decide_eq_true h.2⟩)
  | c :: d :: t, h, h0 => by
    have hc := h0 c _ rfl
    rw [dotsL, if_neg hc, Bool.and_eq_true, Bool.and_eq_true] at h
    obtain ⟨⟨h1, h2⟩, h3⟩ := h
    have hcc : atomB c = true ∧ c.toNat < 128 := ⟨h1, of_decide_eq_true h2⟩
    by_cases hd : d = 46
    · subst hd
      cases t with
      | nil => exact absurd h3 (by decide)
      | cons e r =>
        rw [dotsL, if_pos rfl, Bool.and_eq_true] at h3
        have hr := dots_of (e :: r) h3.2 (fun c t e1 => by cases e1; exact of_decide_eq_true h3.1)
        exact .more [c] _ (by simp) (fun d hd => by rw [List.mem_singleton.1 hd]; exact hcc) hr
    · exact (dots_of (d :: t) h3 (fun c t e1 => by cases e1; exact hd)).cons hcc
termination_by l => l.length
theorem dots_at : ∀ (r p : List UInt8) (l : List UInt8), p ++ r = l → r ≠ [] → (∀ j, j < l.length → goodAt l j = true) → dotsL r = true
  | [], _, _, _, h, _ => absurd rfl h
  | [c], p, l, e, _, hg => by
    have h := hg p.length (by rw [← e]; simp)
    unfold goodAt at h
    rw [← e] at h
    have e1 : (p ++ [c]).getD p.length 0 = c := by simp
    rw [e1] at h
    split at h
    · simp at h
    · rw [dotsL]; exact h
  | c :: d :: t, p, l, e, _, hg => by
    have ih := dots_at (d :: t) (p ++ [c]) l (by rw [← e]; simp) (by simp) hg
    have h := hg p.length (by rw [← e]; simp)
    have e1 : l.getD p.length 0 = c := by rw [← e]; simp
    have e2 : l.getD (p.length + 1) 0 = d := by rw [← e]; simp
    rw [dotsL]
    by_cases hc : c = 46
    · rw [if_pos hc, ih, Bool.and_true]
      apply decide_eq_true
      intro hd
      have h2 := hg (p.length + 1) (by rw [← e]; simp)
      unfold goodAt at h2
      rw [e2, if_pos hd, Nat.add_sub_cancel, e1] at h2
      rw [hc] at h2
      simp at h2
    · rw [if_neg hc, ih, Bool.and_true]
      unfold goodAt at h
      rw [e1, if_neg hc] at h
      exact h
termination_by r => r.length
theorem dots_dotted {l : List UInt8} (h : dottedL l = true) : Dots l := by
  unfold dottedL at h
  rw [Bool.and_eq_true] at h
  have hg : ∀ j, j < l.length → goodAt l j = true := fun j hj => List.all_eq_true.1 h.1 j (List.mem_range.2 hj)
  have h0 : 0 < l.length := of_decide_eq_true h.2
  refine dots_of l (dots_at l [] l rfl (fun e => by rw [e] at h0; cases h0) hg) ?_
  intro c t e hc
  have := hg 0 h0
  unfold goodAt at this
  rw [e] at this
  simp [hc] at this

theorem while_app {p : UInt8 → Bool} : ∀ {a : List UInt8} {l : List UInt8}, (∀ c ∈ a, p c = true) → (a ++ l).takeWhile p = a ++ l.takeWhile p ∧ (a ++ l).dropWhile p = l.dropWhile p
  | [], _, _ => ⟨rfl, rfl⟩
  | c :: a, l, h => by
    have ih := while_app (a := a) (l := l) (fun d hd => h d (by simp [hd]))
    have hc := h c (by simp)
    exact ⟨by rw [List.cons_append, List.takeWhile_cons_of_pos hc, ih.1, List.cons_append], by rw [List.cons_append, List.dropWhile_cons_of_pos hc, ih.2]⟩
/-- What can't go on an atom. -/
def stops (r : List UInt8) : Prop := ∀ c t, r = c :: t → atomB c = false
theorem while_stop {r : List UInt8} (h : stops r) : r.takeWhile atomB = [] ∧ r.dropWhile atomB = r := by
  cases r with
  | nil => exact ⟨rfl, rfl⟩
  | cons c t => exact ⟨List.takeWhile_cons_of_neg (by rw [h c t rfl]; simp), List.dropWhile_cons_of_neg (by rw [h c t rfl]; simp)⟩
theorem atom_neSp {c : UInt8} (h : atomB c = true) : isSp c = false := by
  cases hs : isSp c with
  | false => rfl
  | true =>
    unfold isSp at hs
    rw [Bool.or_eq_true, beq_iff_eq, beq_iff_eq] at hs
    rcases hs with rfl | rfl <;> exact absurd h (by decide)
theorem tk_nil (last : Bool) : toksL last [] = .good [] last := by rw [toksL]
theorem tk_sp (last : Bool) (t : List UInt8) : toksL last (32 :: t) = toksL true t := by rw [toksL]; rfl
theorem tk_atom (last : Bool) (a r : List UInt8) (h0 : a ≠ []) (h : ∀ c ∈ a, atomB c = true) (hr : stops r) : toksL last (a ++ r) = TR.cons ⟨97, a, last⟩ (toksL false r) := by
  cases a with
  | nil => exact absurd rfl h0
  | cons c a =>
    have hc := h c (by simp)
    have ha := while_app (a := a) (l := r) (fun d hd => h d (by simp [hd]))
    have hs := while_stop hr
    rw [List.cons_append, toksL, if_neg (by rw [atom_neSp hc]; simp), if_pos hc, ha.1, ha.2, hs.1, hs.2, List.append_nil]
theorem tk_sign (last : Bool) (c : UInt8) (t : List UInt8) (h1 : isSp c = false) (h2 : atomB c = false) (h3 : c ≠ 34) (h4 : c ≠ 92) (h5 : isOpen c = false) : toksL last (c :: t) = TR.cons ⟨c, [], last⟩ (toksL false t) := by
  rw [toksL, if_neg (by rw [h1]; simp), if_neg (by rw [h2]; simp), if_neg h3, if_neg h4, if_neg (by rw [h5]; simp)]
theorem tk_quoted (last : Bool) (t x : List UInt8) (n : Nat) (h : quotedL t = some (x, n)) : toksL last (34 :: t) = TR.cons ⟨113, x, last⟩ (toksL false (t.drop n)) := by
  rw [toksL, if_neg (by decide), if_neg (by decide), if_pos rfl, h]

/-- The tokens: atoms and points by turns. -/
inductive DT : List UInt8 → List Tok → Prop
  | one (a : List UInt8) (h0 : a ≠ []) : DT a [⟨97, a, false⟩]
  | more (a l : List UInt8) (ts : List Tok) (h0 : a ≠ []) (h : DT l ts) : DT (a ++ 46 :: l) (⟨97, a, false⟩ :: ⟨46, [], false⟩ :: ts)

theorem toks_dots {l : List UInt8} (h : Dots l) : ∃ ts, DT l ts ∧ ∀ r, stops r → toksL false (l ++ r) = TR.app ts (toksL false r) := by
  induction h with
  | one a h0 h =>
    refine ⟨_, .one a h0, fun r hr => ?_⟩
    rw [tk_atom false a r h0 (fun c hc => (h c hc).1) hr]
    cases toksL false r <;> rfl
  | more a l h0 h hl ih =>
    obtain ⟨ts, hd, ht⟩ := ih
    refine ⟨_, .more a l ts h0 hd, fun r hr => ?_⟩
    rw [List.append_assoc, List.cons_append, tk_atom false a _ h0 (fun c hc => (h c hc).1) (fun c t e => by cases e; exact atom_46), tk_sign false 46 _ (by decide) (by decide) (by decide) (by decide) (by decide), ht r hr]
    cases toksL false r <;> rfl
theorem DT.words {l : List UInt8} {ts : List Tok} (h : DT l ts) : ∀ t ∈ ts, wordK t = true := by
  induction h with
  | one a h0 => intro t ht; rw [List.mem_singleton.1 ht]; rfl
  | more a l ts h0 h ih =>
    intro t ht
    rcases List.mem_cons.1 ht with rfl | ht
    · rfl
    · rcases List.mem_cons.1 ht with rfl | ht
      · rfl
      · exact ih t ht
theorem DT.head {l : List UInt8} {ts : List Tok} (h : DT l ts) (r : List Tok) : isH 64 (ts ++ r) = false ∧ spaceH (ts ++ r) = false := by
  cases h <;> exact ⟨rfl, rfl⟩
theorem DT.tlen {l : List UInt8} {ts : List Tok} (h : DT l ts) : tlen ts ≤ 2 * l.length := by
  induction h with
  | one a h0 =>
    have : a.length ≠ 0 := fun e => h0 (List.eq_nil_of_length_eq_zero e)
    simp [Proofs.YtpoglombagmhmaaGreatDoor.tlen]; omega
  | more a l ts h0 h ih =>
    have : a.length ≠ 0 := fun e => h0 (List.eq_nil_of_length_eq_zero e)
    simp only [Proofs.YtpoglombagmhmaaGreatDoor.tlen, List.map_cons, List.sum_cons, List.length_append, List.length_cons, List.length_nil] at ih ⊢
    omega
theorem DT.local {l : List UInt8} {ts : List Tok} (h : DT l ts) : ∀ (i : Nat) (out : List UInt8), i % 2 = 0 → localG ts i true out = (true, out ++ l, true) := by
  induction h with
  | one a h0 =>
    intro i out hi
    rw [localG, if_neg (by simp [hi]), localG]
    simp; omega
  | more a l ts h0 h ih =>
    intro i out hi
    have h1 : (i + 1) % 2 = 1 := by omega
    rw [localG, if_neg (by simp [hi]), localG, if_neg (by simp [h1])]
    have := ih (i + 2) (out ++ a ++ [46]) (by omega)
    simp only [Bool.and_false, Bool.not_false, Bool.and_true, List.append_nil, show ((97 : UInt8) == 113) = false from rfl, show ((46 : UInt8) == 113) = false from rfl, if_neg (show ¬ (97 : UInt8) = 46 by decide), if_true]
    rw [this]
    simp
theorem DT.domain {l : List UInt8} {ts : List Tok} (h : DT l ts) (u : Tok) (hu : u.kind ≠ 46) : ∀ (out : List UInt8), domainG (ts ++ [u]) true out = ([u], true, out ++ l, true) := by
  induction h with
  | one a h0 =>
    intro out
    rw [List.singleton_append, domainG, if_pos rfl, if_neg hu]; rfl
  | more a l ts h0 h ih =>
    intro out
    rw [List.cons_append, List.cons_append, domainG, if_pos rfl, if_pos rfl]
    have := ih (out ++ a ++ [46])
    simp only [Bool.not_false, Bool.and_true]
    rw [this]
    simp

/-- What stands behind the name. -/
def angleL (l d : List UInt8) : List UInt8 := [60] ++ l ++ [64] ++ d ++ [62]

/-- Name's tokens ps, then <l@d>: all that One_plain asks. -/
theorem angle_facts {l d : List UInt8} {ls ds ps : List Tok} (hl : DT l ls) (hd : DT d ds) (sp : Bool) (hps : ∀ t ∈ ps, wordK t = true) (ts : List Tok) (hts : ts = ps ++ ⟨60, [], sp⟩ :: (ls ++ ⟨64, [], false⟩ :: (ds ++ [⟨62, [], false⟩]))) :
    ts.takeWhile wordK = ps ∧ 0 + wordsN ts 0 = ps.length ∧ isH 60 (ts.drop ps.length) = true ∧ isH 64 (ts.drop (ps.length + 1)) = false ∧ (ts.drop (ps.length + 1)).takeWhile wordK = ls ∧ ps.length + 1 + wordsN ts (ps.length + 1) = ps.length + 1 + ls.length ∧
    localG ls 0 (true && !spaceH (ts.drop (ps.length + 1))) [] = (true, l, true) ∧ isH 64 (ts.drop (ps.length + 1 + ls.length)) = true ∧ domainG (ts.drop (ps.length + 1 + ls.length + 1)) (true && !spaceH (ts.drop (ps.length + 1 + ls.length))) [] = ([⟨62, [], false⟩], true, d, true) := by
  have w1 : ∀ {xs : List Tok} {r : List Tok}, (∀ t ∈ xs, wordK t = true) → (∀ t s, r = t :: s → wordK t = false) → (xs ++ r).takeWhile wordK = xs := by
    intro xs r hx hr
    induction xs with
    | nil =>
      cases r with
      | nil => rfl
      | cons t s => exact List.takeWhile_cons_of_neg (by rw [hr t s rfl]; simp)
    | cons x xs ih => rw [List.cons_append, List.takeWhile_cons_of_pos (hx x (by simp)), ih (fun t ht => hx t (by simp [ht]))]
  have d1 : ts.drop (ps.length + 1) = ls ++ ⟨64, [], false⟩ :: (ds ++ [⟨62, [], false⟩]) := by
    rw [hts, ← List.drop_drop, List.drop_left]; rfl
  have d0 : ts.drop ps.length = ⟨60, [], sp⟩ :: (ls ++ ⟨64, [], false⟩ :: (ds ++ [⟨62, [], false⟩])) := by rw [hts, List.drop_left]
  have d2 : ts.drop (ps.length + 1 + ls.length) = ⟨64, [], false⟩ :: (ds ++ [⟨62, [], false⟩]) := by rw [← List.drop_drop, d1, List.drop_left]
  have d3 : ts.drop (ps.length + 1 + ls.length + 1) = ds ++ [⟨62, [], false⟩] := by rw [← List.drop_drop, d2]; rfl
  have t0 : ts.takeWhile wordK = ps := by rw [hts]; exact w1 hps (fun t s e => by cases e; rfl)
  have t1 : (ts.drop (ps.length + 1)).takeWhile wordK = ls := by rw [d1]; exact w1 hl.words (fun t s e => by cases e; rfl)
  refine ⟨t0, ?_, ?_, ?_, t1, ?_, ?_, ?_, ?_⟩
  · unfold wordsN; rw [List.drop_zero, t0, Nat.zero_add]
  · rw [d0]; rfl
  · rw [d1]; exact (hl.head _).1
  · unfold wordsN; rw [t1]
  · rw [d1, (hl.head _).2]; exact hl.local 0 [] rfl
  · rw [d2]; rfl
  · rw [d2, d3]; exact hd.domain _ (by decide) []
theorem toks_angle {l d : List UInt8} {ls ds : List Tok} (hl : ∀ r, stops r → toksL false (l ++ r) = TR.app ls (toksL false r)) (hd : ∀ r, stops r → toksL false (d ++ r) = TR.app ds (toksL false r)) (sp : Bool) :
    toksL sp (angleL l d) = .good (⟨60, [], sp⟩ :: (ls ++ ⟨64, [], false⟩ :: (ds ++ [⟨62, [], false⟩]))) false := by
  unfold angleL
  rw [List.append_assoc, List.append_assoc, List.append_assoc, List.singleton_append, tk_sign sp 60 _ (by decide) (by decide) (by decide) (by decide) (by decide), hl _ (fun c t e => by cases e; decide), List.singleton_append,
    tk_sign false 64 _ (by decide) (by decide) (by decide) (by decide) (by decide), hd _ (fun c t e => by cases e; decide), tk_sign false 62 _ (by decide) (by decide) (by decide) (by decide) (by decide), tk_nil]
  rfl

/-! A quoted name -/
theorem quoted_qs : ∀ (s r : List UInt8), plainL s = true → quotedL (s.flatMap qsB ++ 34 :: r) = some (s, (s.flatMap qsB).length + 1)
  | [], r, _ => by
    cases r <;> rfl
  | c :: s, r, h => by
    have hs : plainL s = true := by unfold plainL at h ⊢; rw [List.all_cons, Bool.and_eq_true] at h; exact h.2
    have ih := quoted_qs s r hs
    by_cases hc : c = 92 ∨ c = 34
    · have e : qsB c = [92, c] := by unfold qsB; rw [if_pos hc]
      rw [List.flatMap_cons, e]
      rw [show ([92, c] ++ s.flatMap qsB ++ 34 :: r) = 92 :: c :: (s.flatMap qsB ++ 34 :: r) by simp, quotedL, if_neg (by decide), if_pos rfl, ih]
      simp
    · have e : qsB c = [c] := by unfold qsB; rw [if_neg hc]
      rw [List.flatMap_cons, e]
      obtain ⟨d, t, hdt⟩ : ∃ d t, s.flatMap qsB ++ 34 :: r = d :: t := by
        cases hx : s.flatMap qsB ++ 34 :: r with
        | nil => simp at hx
        | cons d t => exact ⟨d, t, rfl⟩
      rw [List.append_assoc, List.singleton_append, hdt, quotedL, if_neg (fun q => hc (.inr q)), if_neg (fun q => hc (.inl q)), ← hdt, ih]
      simp
theorem toks_qs (s r : List UInt8) (h : plainL s = true) : toksL false (qsL s ++ 32 :: r) = TR.cons ⟨113, s, false⟩ (toksL true r) := by
  have hq := quoted_qs s (32 :: r) h
  rw [show qsL s ++ 32 :: r = 34 :: (s.flatMap qsB ++ 34 :: 32 :: r) by simp [qsL], tk_quoted false _ _ _ hq]
  rw [show (s.flatMap qsB ++ 34 :: 32 :: r).drop ((s.flatMap qsB).length + 1) = 32 :: r by rw [← List.drop_drop, List.drop_left]; rfl, tk_sp]
theorem nameG_quoted (s : List UInt8) (h0 : s ≠ []) : nameG [⟨113, s, false⟩] 0 true false [] = (true, s) := by
  rw [nameG, nameG]
  simp [nBad, nDec, nCode, nText, h0]
end Go.Proofs.YtpoglombagmhmaaGreatDoor
/- Plain Lean: a text's tokens, one by one, as the code's parser of a phrase meets them. -/
namespace Go.Proofs.YtpoglombagmhmaaGreatDoor
open Go

theorem ph_skip : ∀ (R : List UInt8) (b : Bool), ∃ b', toksL b R = toksL b' (R.dropWhile isSp) ∧ (b = true → b' = true)
  | [], b => ⟨b, rfl, id⟩
  | c :: t, b => by
    cases h : isSp c with
    | true =>
      obtain ⟨b', h1, h2⟩ := ph_skip t true
      refine ⟨b', ?_, fun _ => h2 rfl⟩
      rw [toksL, if_pos h, h1, List.dropWhile_cons_of_pos h]
    | false => exact ⟨b, by rw [List.dropWhile_cons_of_neg (by rw [h]; simp)], id⟩
theorem ph_nosp {R : List UInt8} {c : UInt8} {t : List UInt8} (h : R.dropWhile isSp = c :: t) : isSp c = false := by
  have := List.head?_dropWhile_not isSp R
  rw [h] at this
  simpa using this
theorem cons_good {t : Tok} {r : TR} {ts : List Tok} {l : Bool} (h : TR.cons t r = .good ts l) : ∃ ts', ts = t :: ts' ∧ r = .good ts' l := by
  cases r with
  | bad => cases h
  | open_ => cases h
  | good us l' => cases h; exact ⟨us, rfl, rfl⟩
/-- The first token of a text that doesn't begin with a blank. -/
theorem ph_head {b : Bool} {c : UInt8} {t : List UInt8} {ts : List Tok} {l : Bool} (hs : isSp c = false) (h : toksL b (c :: t) = .good ts l) :
    (atomB c = true ∧ ∃ ts', ts = ⟨97, c :: t.takeWhile atomB, b⟩ :: ts' ∧ toksL false (t.dropWhile atomB) = .good ts' l) ∨
    (c = 34 ∧ ∃ x n ts', quotedL t = some (x, n) ∧ ts = ⟨113, x, b⟩ :: ts' ∧ toksL false (t.drop n) = .good ts' l) ∨
    (atomB c = false ∧ c ≠ 34 ∧ c ≠ 92 ∧ isOpen c = false ∧ ∃ ts', ts = ⟨c, [], b⟩ :: ts' ∧ toksL false t = .good ts' l) := by
  rw [toksL, if_neg (by rw [hs]; simp)] at h
  cases ha : atomB c with
  | true =>
    rw [if_pos ha] at h
    obtain ⟨ts', h1, h2⟩ := cons_good h
    exact .inl ⟨rfl, ts', h1, h2⟩
  | false =>
    rw [if_neg (by rw [ha]; simp)] at h
    by_cases h34 : c = 34
    · rw [if_pos h34] at h
      cases hq : quotedL t with
      | none => rw [hq] at h; cases h
      | some r =>
        rw [hq] at h
        obtain ⟨ts', h1, h2⟩ := cons_good h
        exact .inr (.inl ⟨h34, r.1, r.2, ts', rfl, h1, h2⟩)
    · rw [if_neg h34] at h
      by_cases h92 : c = 92
      · rw [if_pos h92] at h; cases h
      · rw [if_neg h92] at h
        cases ho : isOpen c with
        | true => rw [if_pos ho] at h; cases h
        | false =>
          rw [if_neg (by rw [ho]; simp)] at h
          obtain ⟨ts', h1, h2⟩ := cons_good h
          exact .inr (.inr ⟨rfl, h34, h92, rfl, ts', h1, h2⟩)
theorem quotedL_raw {c : UInt8} (U : List UInt8) (h1 : c ≠ 34) (h2 : c ≠ 92) : quotedL (c :: U) = (quotedL U).map fun r => (c :: r.1, r.2 + 1) := by
  cases U with
  | nil => simp [quotedL, h1]
  | cons d t => rw [quotedL, if_neg h1, if_neg h2]
theorem quotedL_high : ∀ (r U : List UInt8), (∀ c ∈ r, c ≠ 34 ∧ c ≠ 92) → quotedL (r ++ U) = (quotedL U).map fun q => (r ++ q.1, q.2 + r.length)
  | [], U, _ => by rw [List.nil_append]; cases quotedL U <;> rfl
  | c :: r, U, h => by
    rw [List.cons_append, quotedL_raw _ (h c (by simp)).1 (h c (by simp)).2, quotedL_high r U (fun d hd => h d (by simp [hd]))]
    cases quotedL U with
    | none => rfl
    | some q => simp; omega
theorem quotedL_len : ∀ (n : Nat) (U x : List UInt8) (k : Nat), U.length ≤ n → quotedL U = some (x, k) → k ≤ U.length ∧ x.length ≤ k
  | _, [], _, _, _, h => by rw [quotedL] at h; cases h
  | _, [c], x, k, _, h => by
    rw [quotedL] at h
    split at h
    · cases h; simp
    · cases h
  | 0, _ :: _ :: _, _, _, hn, _ => by simp at hn
  | n + 1, c :: d :: t, x, k, hn, h => by
    rw [quotedL] at h
    split at h
    · cases h; simp
    · split at h
      · obtain ⟨q, hq, he⟩ := Option.map_eq_some_iff.1 h
        cases he
        have := quotedL_len n t q.1 q.2 (by simp at hn; omega) hq
        simp; omega
      · obtain ⟨q, hq, he⟩ := Option.map_eq_some_iff.1 h
        cases he
        have := quotedL_len n (d :: t) q.1 q.2 (by simp at hn ⊢; omega) hq
        simp at this ⊢; omega
end Go.Proofs.YtpoglombagmhmaaGreatDoor
