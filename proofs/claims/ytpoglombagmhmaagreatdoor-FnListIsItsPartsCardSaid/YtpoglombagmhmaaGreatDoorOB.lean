/- Plain Lean: what the tokens of a text say of the text: words, local parts, domains. -/
import Derived.Test.YtpoglombagmhmaaGreatDoorNC
import Derived.Test.YtpoglombagmhmaaGreatDoorN9
namespace Go.Proofs.YtpoglombagmhmaaGreatDoor
open Go

/-- What stands behind words. -/
def EndZ (Z : List Tok) : Prop := ∀ z r, Z = z :: r → wordK z = false
theorem EndZ.nil : EndZ [] := fun _ _ h => by cases h
theorem EndZ.cons {z : Tok} (r : List Tok) (h : wordK z = false) : EndZ (z :: r) := fun z' r' e => by cases e; exact h
theorem word_97 {z : Tok} (h : wordK z = false) : z.kind ≠ 97 ∧ z.kind ≠ 113 ∧ z.kind ≠ 46 := by
  unfold wordK at h
  simp only [Bool.or_eq_false_iff, beq_eq_false_iff_ne] at h
  exact ⟨h.1.1, h.1.2, h.2⟩
theorem no_pointZ {R : List UInt8} {ts Z : List Tok} {l : Bool} {k : Nat} {coded : Bool} {out nm : List UInt8} (hZ : EndZ Z) (ht : toksL false R = .good (ts ++ Z) l) (h : nameG ts k true coded out = (true, nm)) : ∀ t, R ≠ 46 :: t := by
  rintro t rfl
  rcases ph_head (by decide) ht with ⟨h1, _⟩ | ⟨h1, _⟩ | ⟨_, _, _, _, ts', e, _⟩
  · exact absurd h1 (by decide)
  · exact absurd h1 (by decide)
  · cases ts with
    | nil => rw [List.nil_append] at e; exact (word_97 (hZ _ _ e)).2.2 rfl
    | cons u us =>
      rw [List.cons_append] at e
      injection e with e1 e2
      subst e1
      have := (nameG_head h).1
      unfold nBad at this
      simp at this
/-- No word, or a word split off: quoted, or an atom, marked or not. -/
theorem ph_splitZ {c : UInt8} {t : List UInt8} {b' : Bool} {ts Z : List Tok} {l : Bool} {k : Nat} {coded : Bool} {out nm : List UInt8} (hZ : EndZ Z) (hs : isSp c = false) (hg : GoodS (c :: t)) (h : toksL b' (c :: t) = .good (ts ++ Z) l) (hw : ∀ t ∈ ts, wordK t = true) (hn : nameG ts k true coded out = (true, nm)) :
    (ts = [] ∧ atomD c = false ∧ c ≠ 34 ∧ out = nm) ∨
    ∃ (x : List UInt8) (co : Bool) (u : Tok) (ts' : List Tok) (R3 : List UInt8), ts = u :: ts' ∧ toksL false R3 = .good (ts' ++ Z) l ∧ GoodS R3 ∧ (∀ t ∈ ts', wordK t = true) ∧ nameG ts' (k + 1) true co (out ++ (if decide (0 < k) && !(coded && co) then [32] else []) ++ x) = (true, nm) ∧ R3.length < (c :: t).length ∧ x.length + 2 * R3.length ≤ 2 * (c :: t).length ∧ (co = true → x ≠ []) ∧
      ((c = 34 ∧ co = false ∧ ∃ n, quotedL t = some (x, n) ∧ R3 = t.drop n ∧ x ≠ []) ∨ (c ≠ 34 ∧ ∃ a, a ≠ [] ∧ (∀ d ∈ a, atomB d = true) ∧ (c :: t).takeWhile atomD = a ∧ (c :: t).dropWhile atomD = R3 ∧ ((co = false ∧ x = a ∧ Lib.hasPrefix a [61, 63] = false) ∨ (co = true ∧ decodedL a true = some x)))) := by
  cases ts with
  | nil =>
    left
    rw [nameG] at hn
    have hout : out = nm := congrArg Prod.snd hn
    rw [List.nil_append] at h
    rcases ph_head hs h with ⟨_, ts', e, _⟩ | ⟨_, x, n, ts', _, e, _⟩ | ⟨h1, h2, _, _, ts', e, _⟩
    · exact absurd rfl (word_97 (hZ _ _ e)).1
    · exact absurd rfl (word_97 (hZ _ _ e)).2.1
    · refine ⟨rfl, ?_, h2, hout⟩
      have := (word_97 (hZ _ _ e)).2.2
      unfold atomD
      rw [h1, Bool.false_or, beq_eq_false_iff_ne]
      exact this
  | cons u us =>
    right
    obtain ⟨hbad, hd, hn'⟩ := nameG_head hn
    have hws : ∀ t ∈ us, wordK t = true := fun t ht => hw t (List.mem_cons_of_mem _ ht)
    rcases ph_head hs h with ⟨ha, ts', e, h3⟩ | ⟨hc, x, n, ts', hq, e, h3⟩ | ⟨h1, h2, _, _, ts', e, h3⟩
    · rw [List.cons_append] at e
      injection e with e1 e2
      subst e1 e2
      have np := no_pointZ hZ h3 hn'
      obtain ⟨e1, e2⟩ := atomD_of ha np
      have hlen : (c :: t.takeWhile atomB).length + (t.dropWhile atomB).length = (c :: t).length := by
        have h9 := congrArg List.length (List.takeWhile_append_dropWhile (p := atomB) (l := t))
        rw [List.length_append] at h9
        rw [List.length_cons, List.length_cons]; omega
      have hgR : GoodS (t.dropWhile atomB) := by
        refine GoodS.sub (A := c :: t.takeWhile atomB) (by rw [List.cons_append, List.takeWhile_append_dropWhile]; exact hg) (fun d r hdr => ?_)
        have h9 := List.head?_dropWhile_not atomB t
        rw [hdr] at h9
        have h9 : atomB d = false := by simpa using h9
        rcases Nat.lt_or_ge d.toNat 128 with h8 | h8
        · exact h8
        · rw [atomB_high h8] at h9; cases h9
      have hnt := nText_len ⟨97, c :: t.takeWhile atomB, b'⟩
      simp only [] at hnt
      have hl0 : 0 < (c :: t.takeWhile atomB).length := by simp
      refine ⟨_, _, _, us, _, rfl, h3, hgR, hws, hn', by omega, by omega, ?_, .inr ⟨?_, _, by simp, ?_, e1, e2, ?_⟩⟩
      · intro hco
        cases hdd : decodedL (c :: t.takeWhile atomB) true with
        | none => unfold nDec at hd; rw [hco] at hd; simp [hdd] at hd
        | some y =>
          have : nText ⟨97, c :: t.takeWhile atomB, b'⟩ = y := by unfold nText; rw [hco]; simp [hdd]
          rw [this]; exact decoded_ne hdd
      · rintro rfl; exact absurd ha (by decide)
      · intro d hdm
        rcases List.mem_cons.1 hdm with e | hdm
        · rw [e]; exact ha
        · exact List.all_eq_true.1 (List.all_takeWhile (l := t) (p := atomB)) d hdm
      · cases hm : markedL (c :: t.takeWhile atomB) with
        | false =>
          have hco : nCode ⟨97, c :: t.takeWhile atomB, b'⟩ = false := by unfold nCode; simp [hm]
          exact .inl ⟨hco, by unfold nText; rw [hco]; simp, unmarked_prefix hm⟩
        | true =>
          have hco : nCode ⟨97, c :: t.takeWhile atomB, b'⟩ = true := by unfold nCode; simp [hm]
          cases hdd : decodedL (c :: t.takeWhile atomB) true with
          | none => unfold nDec at hd; rw [hco] at hd; simp [hdd] at hd
          | some y => exact .inr ⟨hco, by unfold nText; rw [hco]; simp [hdd]⟩
    · rw [List.cons_append] at e
      injection e with e1 e2
      subst e1 e2
      obtain ⟨h8, h9⟩ := quotedL_len _ t x n (Nat.le_refl _) hq
      have hco : nCode ⟨113, x, b'⟩ = false := rfl
      have hnt : nText ⟨113, x, b'⟩ = x := by unfold nText; rw [hco]; rfl
      rw [hnt, hco] at hn'
      obtain ⟨A, hA⟩ := quoted_close _ t x n (Nat.le_refl _) hq
      have hgt : GoodS t := hg.tail (by rw [hc]; decide)
      have hgR : GoodS (t.drop n) := by
        have h7 : GoodS (34 :: t.drop n) := GoodS.sub (A := A) (by rw [← hA]; exact hgt) (fun d r e => by cases e; decide)
        exact h7.tail (by decide)
      have hx : x ≠ [] := by
        rintro rfl
        unfold nBad at hbad
        simp at hbad
      exact ⟨x, false, _, us, t.drop n, rfl, h3, hgR, hws, hn', by rw [List.length_drop, List.length_cons]; omega, by rw [List.length_drop, List.length_cons]; omega, by simp, .inl ⟨hc, rfl, n, hq, rfl, hx⟩⟩
    · rw [List.cons_append] at e
      injection e with e1 e2
      subst e1
      have h7 := hw _ (List.mem_cons_self)
      unfold wordK at h7
      unfold nBad at hbad
      simp only [Bool.or_eq_true, beq_iff_eq] at h7
      exfalso
      rcases h7 with (rfl | rfl) | rfl
      · exact absurd h1 (by decide)
      · exact absurd h1 (by decide)
      · simp at hbad

/-- Atoms and points by turns; true: a point, or the end, is next. -/
inductive DotsT : Bool → List UInt8 → Prop
  | nil : DotsT true []
  | atom (a l : List UInt8) (h0 : a ≠ []) (h : ∀ c ∈ a, atomB c = true) (hl : DotsT true l) : DotsT false (a ++ l)
  | dot (l : List UInt8) (hl : DotsT false l) : DotsT true (46 :: l)
theorem DotsT.all {b : Bool} {l : List UInt8} (h : DotsT b l) : ∀ c ∈ l, atomD c = true := by
  induction h with
  | nil => simp
  | atom a l _ h _ ih =>
    intro c hc
    rcases List.mem_append.1 hc with hc | hc
    · unfold atomD; rw [h c hc]; rfl
    · exact ih c hc
  | dot l _ ih =>
    intro c hc
    rcases List.mem_cons.1 hc with e | hc
    · rw [e]; decide
    · exact ih c hc
theorem DotsT.head {l : List UInt8} (h : DotsT false l) : ∃ c t, l = c :: t ∧ atomB c = true := by
  cases h with
  | atom a l h0 h _ =>
    cases a with
    | nil => exact absurd rfl h0
    | cons c a => exact ⟨c, a ++ l, rfl, h c (by simp)⟩
/-- No point at the end, no two points side by side. -/
def noDD : List UInt8 → Bool
  | [] => true
  | [c] => c != 46
  | c :: d :: t => !(c == 46 && d == 46) && noDD (d :: t)
theorem atom_ne46 {c : UInt8} (h : atomB c = true) : c ≠ 46 := by rintro rfl; exact absurd h (by decide)
theorem noDD_atom : ∀ (a l : List UInt8), (∀ c ∈ a, atomB c = true) → noDD l = true → noDD (a ++ l) = true
  | [], l, _, h => h
  | c :: a, l, ha, h => by
    have hc := atom_ne46 (ha c (by simp))
    have ih := noDD_atom a l (fun d hd => ha d (by simp [hd])) h
    rw [List.cons_append]
    cases hal : a ++ l with
    | nil => rw [noDD]; simpa using hc
    | cons d t =>
      rw [hal] at ih
      rw [noDD, ih, Bool.and_true]
      simp [hc]
theorem DotsT.noDD {b : Bool} {l : List UInt8} (h : DotsT b l) : noDD l = true := by
  induction h with
  | nil => rfl
  | atom a l _ h _ ih => exact noDD_atom a l h ih
  | dot l hl ih =>
    obtain ⟨c, t, e, hc⟩ := hl.head
    subst e
    rw [Proofs.YtpoglombagmhmaaGreatDoor.noDD, ih, Bool.and_true]
    simp [atom_ne46 hc]
theorem noDD_at : ∀ (l : List UInt8) (j : Nat), noDD l = true → ∀ t, l.drop j ≠ 46 :: 46 :: t
  | [], j, _, t => by simp
  | [c], j, h, t => by
    cases j with
    | zero => simp
    | succ j => simp
  | c :: d :: r, j, h, t => by
    rw [noDD, Bool.and_eq_true] at h
    cases j with
    | zero => rintro e; cases e; simp at h
    | succ j => rw [List.drop_succ_cons]; exact noDD_at (d :: r) j h.2 t
theorem noDD_last : ∀ (l : List UInt8), noDD l = true → ∀ A, l ≠ A ++ [46]
  | [], _, A => by simp
  | [c], h, A => by
    intro e
    cases A with
    | nil => cases e; simp [noDD] at h
    | cons x A => simp at e
  | c :: d :: r, h, A => by
    rw [noDD, Bool.and_eq_true] at h
    intro e
    cases A with
    | nil => simp at e
    | cons x A =>
      rw [List.cons_append] at e
      injection e with _ e
      exact noDD_last (d :: r) h.2 A e

theorem toks_true {R : List UInt8} {t : Tok} {r : List Tok} {l : Bool} (h : toksL true R = .good (t :: r) l) : t.space = true := by
  obtain ⟨b', hb, hbt⟩ := ph_skip R true
  have hbt := hbt rfl
  subst hbt
  rw [hb] at h
  cases hR : R.dropWhile isSp with
  | nil => rw [hR, tk_nil] at h; cases h
  | cons c u =>
    rw [hR] at h
    rcases ph_head (ph_nosp hR) h with ⟨_, ts', e, _⟩ | ⟨_, x, n, ts', _, e, _⟩ | ⟨_, _, _, _, ts', e, _⟩ <;> (injection e with e1 _; rw [e1])
theorem toks_nosp {R : List UInt8} {t : Tok} {r : List Tok} {l : Bool} (h : toksL false R = .good (t :: r) l) (hs : t.space = false) : ∃ c u, R = c :: u ∧ isSp c = false := by
  cases R with
  | nil => rw [tk_nil] at h; cases h
  | cons c u =>
    refine ⟨c, u, rfl, ?_⟩
    cases hc : isSp c with
    | false => rfl
    | true =>
      rw [toksL, if_pos hc] at h
      rw [toks_true h] at hs; cases hs
/-- A sign's token, and its sign. -/
theorem toks_sign {R : List UInt8} {t : Tok} {r : List Tok} {l b : Bool} (h : toksL b R = .good (t :: r) l) (hw : wordK t = false) : ∃ u, R.dropWhile isSp = t.kind :: u ∧ toksL false u = .good r l := by
  obtain ⟨b', hb, _⟩ := ph_skip R b
  rw [hb] at h
  cases hR : R.dropWhile isSp with
  | nil => rw [hR, tk_nil] at h; cases h
  | cons c u =>
    rw [hR] at h
    obtain ⟨w1, w2, _⟩ := word_97 hw
    rcases ph_head (ph_nosp hR) h with ⟨_, ts', e, _⟩ | ⟨_, x, n, ts', _, e, _⟩ | ⟨_, _, _, _, ts', e, h2⟩
    · injection e with e1 _; rw [e1] at w1; exact absurd rfl w1
    · injection e with e1 _; rw [e1] at w2; exact absurd rfl w2
    · injection e with e1 e2
      subst e1 e2
      exact ⟨u, rfl, h2⟩
theorem nosp_drop {c : UInt8} {u : List UInt8} (h : isSp c = false) : (c :: u).dropWhile isSp = c :: u := List.dropWhile_cons_of_neg (by rw [h]; simp)
theorem local_text : ∀ (vs Z : List Tok) (T : List UInt8) (l : Bool) (i : Nat) (ok : Bool) (out lc : List UInt8), toksL false T = .good (vs ++ Z) l → (∀ t ∈ vs, wordK t = true) → localG vs i ok out = (true, lc, true) → (i = 0 → spaceH vs = false) →
    ∃ A R, T = A ++ R ∧ lc = out ++ A ∧ toksL false R = .good Z l ∧ DotsT (decide (i % 2 = 1)) A
  | [], Z, T, l, i, ok, out, lc, ht, _, h, _ => by
    rw [localG] at h
    injection h with _ h
    injection h with h1 h2
    refine ⟨[], T, rfl, by rw [← h1, List.append_nil], ht, ?_⟩
    rw [h2]; exact .nil
  | t :: vs, Z, T, l, i, ok, out, lc, ht, hw, h, hs => by
    rw [localG] at h
    split at h
    · injection h with _ h; injection h with _ h; cases h
    · rename_i hk
      have hok := localG_ok _ _ _ _ (by rw [h])
      rw [Bool.and_eq_true, Bool.and_eq_true] at hok
      obtain ⟨⟨_, hsp⟩, h113⟩ := hok
      have hspace : t.space = false := by
        rcases Nat.eq_zero_or_pos i with hi | hi
        · exact hs hi
        · simpa [hi] using hsp
      rw [List.cons_append] at ht
      obtain ⟨c, u, rfl, hc⟩ := toks_nosp ht hspace
      have hk2 : (t.kind == 46) = decide (i % 2 = 1) := by
        revert hk
        cases (t.kind == 46) <;> cases decide (i % 2 = 1) <;> simp
      have hmod : decide ((i + 1) % 2 = 1) = !decide (i % 2 = 1) := by
        by_cases hi : i % 2 = 1
        · simp [hi]; omega
        · simp [hi]; omega
      rcases ph_head hc ht with ⟨ha, ts', e, h3⟩ | ⟨_, x, n, ts', _, e, h3⟩ | ⟨h1, h2, _, _, ts', e, h3⟩
      · injection e with e1 e2
        subst e1 e2
        have ih := local_text vs Z _ l (i + 1) _ _ lc h3 (fun t ht => hw t (List.mem_cons_of_mem _ ht)) h (fun e => by omega)
        obtain ⟨A, R, hR, hlc, htR, hD⟩ := ih
        have h46 : (false : Bool) = decide (i % 2 = 1) := hk2
        rw [hmod, ← h46] at hD
        refine ⟨(c :: u.takeWhile atomB) ++ A, R, ?_, ?_, htR, ?_⟩
        · rw [List.append_assoc, ← hR, List.cons_append, List.takeWhile_append_dropWhile]
        · rw [hlc, if_neg (by simp), List.append_nil, List.append_assoc]
        · rw [← h46]
          refine .atom _ _ (by simp) (fun d hd => ?_) hD
          rcases List.mem_cons.1 hd with e | hd
          · rw [e]; exact ha
          · exact List.all_eq_true.1 (List.all_takeWhile (l := u) (p := atomB)) d hd
      · injection e with e1 _
        subst e1
        simp at h113
      · injection e with e1 e2
        subst e1 e2
        have h7 := hw _ (List.mem_cons_self)
        unfold wordK at h7
        simp only [Bool.or_eq_true, beq_iff_eq] at h7
        rcases h7 with (h7 | h7) | h7
        · rw [h7] at h1; exact absurd h1 (by decide)
        · rw [h7] at h1; exact absurd h1 (by decide)
        · subst h7
          have ih := local_text vs Z _ l (i + 1) _ _ lc h3 (fun t ht => hw t (List.mem_cons_of_mem _ ht)) h (fun e => by omega)
          obtain ⟨A, R, hR, hlc, htR, hD⟩ := ih
          have h46 : (true : Bool) = decide (i % 2 = 1) := hk2
          rw [hmod, ← h46] at hD
          refine ⟨46 :: A, R, by rw [hR]; rfl, by rw [hlc, if_pos rfl]; simp, htR, ?_⟩
          rw [← h46]
          exact .dot _ hD
theorem dom_text : ∀ (n : Nat) (ts rest : List Tok) (T : List UInt8) (l ok : Bool) (out dm : List UInt8), ts.length ≤ n → toksL false T = .good ts l → domainG ts ok out = (rest, true, dm, true) →
    ∃ A R, T = A ++ R ∧ dm = out ++ A ∧ toksL false R = .good rest l ∧ DotsT false A
  | _, [], rest, T, l, ok, out, dm, _, _, h => by rw [domainG] at h; injection h with _ h; injection h with _ h; injection h with _ h; cases h
  | _, [t], rest, T, l, ok, out, dm, _, ht, h => by
    rw [domainG] at h
    split at h
    · rename_i hk
      injection h with h1 h
      injection h with h2 h
      injection h with h3 _
      subst h1 h3
      have hsp : t.space = false := by rw [Bool.and_eq_true, Bool.not_eq_true'] at h2; exact h2.2
      obtain ⟨c, u, rfl, hc⟩ := toks_nosp ht hsp
      rcases ph_head hc ht with ⟨ha, ts', e, h4⟩ | ⟨_, x, m, ts', _, e, h4⟩ | ⟨g1, g2, _, _, ts', e, h4⟩
      · injection e with e1 e2
        subst e1 e2
        refine ⟨c :: u.takeWhile atomB, u.dropWhile atomB, by rw [List.cons_append, List.takeWhile_append_dropWhile], rfl, h4, ?_⟩
        have := DotsT.atom (c :: u.takeWhile atomB) [] (by simp) (fun d hd => by
          rcases List.mem_cons.1 hd with e | hd
          · rw [e]; exact ha
          · exact List.all_eq_true.1 (List.all_takeWhile (l := u) (p := atomB)) d hd) .nil
        rwa [List.append_nil] at this
      · injection e with e1 _
        subst e1
        exact absurd (show (113 : UInt8) = 97 from hk) (by decide)
      · injection e with e1 _
        subst e1
        simp only [] at hk
        rw [hk] at g1; exact absurd g1 (by decide)
    · injection h with _ h; injection h with _ h; injection h with _ h; cases h
  | 0, _ :: _ :: _, _, _, _, _, _, _, hn, _, _ => by simp at hn
  | n + 1, t :: d :: r, rest, T, l, ok, out, dm, hn, ht, h => by
    rw [domainG] at h
    split at h
    · rename_i hk
      have hspt : t.space = false := by
        split at h
        · have := (domainG_ok n r _ _ (by simp at hn; omega)).1 (by rw [h])
          rw [Bool.and_eq_true, Bool.and_eq_true, Bool.not_eq_true'] at this
          exact this.1.2
        · injection h with _ h
          injection h with h2 _
          rw [Bool.and_eq_true, Bool.not_eq_true'] at h2
          exact h2.2
      obtain ⟨c, u, rfl, hc⟩ := toks_nosp ht hspt
      have hatom : atomB c = true ∧ t = ⟨97, c :: u.takeWhile atomB, false⟩ ∧ toksL false (u.dropWhile atomB) = .good (d :: r) l := by
        rcases ph_head hc ht with ⟨ha, ts', e, h4⟩ | ⟨_, x, m, ts', _, e, h4⟩ | ⟨g1, g2, _, _, ts', e, h4⟩
        · injection e with e1 e2
          subst e1 e2
          exact ⟨ha, rfl, h4⟩
        · injection e with e1 _
          subst e1
          exact absurd (show (113 : UInt8) = 97 from hk) (by decide)
        · injection e with e1 _
          subst e1
          simp only [] at hk
          rw [hk] at g1; exact absurd g1 (by decide)
      obtain ⟨ha, rfl, h4⟩ := hatom
      have hall : ∀ x ∈ c :: u.takeWhile atomB, atomB x = true := fun x hx => by
        rcases List.mem_cons.1 hx with e | hx
        · rw [e]; exact ha
        · exact List.all_eq_true.1 (List.all_takeWhile (l := u) (p := atomB)) x hx
      split at h
      · rename_i hd
        have hokk := (domainG_ok n r _ _ (by simp at hn; omega)).1 (by rw [h])
        rw [Bool.and_eq_true, Bool.and_eq_true, Bool.not_eq_true'] at hokk
        have hspd : d.space = false := by simpa using hokk.2
        obtain ⟨e, v, hev, he⟩ := toks_nosp h4 hspd
        rw [hev] at h4
        have hdot : e = 46 ∧ toksL false v = .good r l := by
          rcases ph_head he h4 with ⟨_, ts', e1, _⟩ | ⟨_, x, m, ts', _, e1, _⟩ | ⟨_, _, _, _, ts', e1, h5⟩
          · injection e1 with e2 _; rw [e2] at hd; exact absurd (show (97 : UInt8) = 46 from hd) (by decide)
          · injection e1 with e2 _; rw [e2] at hd; exact absurd (show (113 : UInt8) = 46 from hd) (by decide)
          · injection e1 with e2 e3
            subst e2 e3
            exact ⟨hd, h5⟩
        obtain ⟨rfl, h5⟩ := hdot
        obtain ⟨A, R, hR, hdm, htR, hD⟩ := dom_text n r rest v l _ _ dm (by simp at hn; omega) h5 h
        refine ⟨(c :: u.takeWhile atomB) ++ 46 :: A, R, ?_, ?_, htR, .atom _ _ (by simp) hall (.dot _ hD)⟩
        · rw [List.append_assoc, List.cons_append, List.cons_append, ← hR, ← hev, List.takeWhile_append_dropWhile]
        · rw [hdm]; simp
      · injection h with h1 h
        injection h with _ h
        injection h with h3 _
        subst h1 h3
        refine ⟨c :: u.takeWhile atomB, u.dropWhile atomB, by rw [List.cons_append, List.takeWhile_append_dropWhile], rfl, h4, ?_⟩
        have := DotsT.atom (c :: u.takeWhile atomB) [] (by simp) hall .nil
        rwa [List.append_nil] at this
    · injection h with _ h; injection h with _ h; injection h with _ h; cases h
end Go.Proofs.YtpoglombagmhmaaGreatDoor
/- netmail: zzIndex, zzContains (not there), errors.New, consumeAtom: strict, and where there is no atom: the walks. -/
namespace Go.Proofs.YtpoglombagmhmaaGreatDoor
open Go Go.RowKit

set_option maxRecDepth 100000 in
theorem nIndex_any (s p : ByteArray) (w : World) (hs : s.size ≤ 140737488355328) (hp : p.size ≤ 1048576) :
    Calls Tryz.prog 87 #[.string s, .string p] w fun x w' => (∃ r, x = .returned (.int .i64 r) ∧ FirstAt p.data.toList s.data.toList r) ∧ w = w' := by
  obtain ⟨m, hm⟩ : ∃ m, p.size = m := ⟨_, rfl⟩
  go_enter Tryz.func87, Tryz.ntmps87
  go_wp2
  go_loopw [4, 5] (fun r i wr => r = .int .i64 0 ∧ wr = w ∧ ∃ k : Nat, i = .int .i64 k ∧ k ≤ s.size + 1 ∧ ∀ j, j < k → ¬ Hit p.data.toList s.data.toList j) (fun _ i _ => s.size + 1 - (intOf i).toNat)
  case atStart => exact ⟨rfl, rfl, 0, rfl, Nat.zero_le _, fun j h => absurd h (Nat.not_lt_zero j)⟩
  case round =>
    obtain ⟨rfl, rfl, k, rfl, hk, hno⟩ := hrel
    have HNO := Lib.hid hno
    clear hno
    by_cases hlt : k + m ≤ s.size
    · have i1 : (k : Int) + (m : Int) ≤ (s.size : Int) := by omega
      have hz : p.data.toList.length = m := by rw [Array.length_toList]; exact hm
      have hzs : s.data.toList.length = s.size := Array.length_toList
      have hit : ((s.extract k (k + m)).toList == p.toList) = true ↔ Hit p.data.toList s.data.toList k := by
        rw [beq_iff_eq, tl_eq, tl_eq, extract_list]; unfold Hit; rw [hz]
      have HZ := Lib.hid hz; have HZS := Lib.hid hzs
      clear hz hzs
      cases hb : ((s.extract k (k + m)).toList == p.toList) with
      | true =>
        rw [hb] at hit
        have HIT := Lib.hid hit
        clear hit
        go_wp2_with fail
        go_ret
        exact ⟨⟨_, rfl, .inl ⟨k, rfl, by rw [HZ.out, HZS.out]; exact hlt, HIT.out.1 (by first | trivial | rfl), HNO.out⟩⟩, rfl⟩
      | false =>
        rw [hb] at hit
        have HIT := Lib.hid hit
        clear hit
        go_wp2
        go_roundw
        case rel =>
          refine ⟨rfl, by first | trivial | rfl, k + 1, by go_num, by omega, fun j hj => ?_⟩
          rcases Nat.lt_succ_iff_lt_or_eq.1 hj with h | rfl
          · exact HNO.out j h
          · intro h; have h2 := HIT.out.2 h; first | exact h2 | (simp at h2; done)
        case measure => simp [intOf]; omega
    · have i1 : ¬ (k : Int) + (m : Int) ≤ (s.size : Int) := by omega
      go_wp2
      go_ret
      refine ⟨⟨_, rfl, .inr ⟨rfl, fun j hj => ?_⟩⟩, rfl⟩
      have hz : p.data.toList.length = m := by rw [Array.length_toList]; exact hm
      have hzs : s.data.toList.length = s.size := Array.length_toList
      exact HNO.out j (by omega)

theorem nContains_no (s p : ByteArray) (w : World) (hs : s.size ≤ 1099511627776) (hp : p.size ≤ 1048576) (hn : ∀ j, ¬ Hit p.data.toList s.data.toList j) :
    Calls Tryz.prog 73 #[.string s, .string p] w fun x w' => x = .returned (.bool false) ∧ w' = w := by
  have HN := Lib.hid hn
  clear hn
  go_enter Tryz.func73, Tryz.ntmps73
  go_wp2_with fail
  refine (nIndex_any s p _ (by omega) hp).mono ?_
  rintro x w1 ⟨⟨r, rfl, hr⟩, rfl⟩
  rcases hr with ⟨k, rfl, _, h, _⟩ | ⟨rfl, _⟩
  · exact absurd h (HN.out k)
  · go_wp2
    go_ret
    exact ⟨rfl, rfl⟩
theorem errNew (s : ByteArray) (w : World) : Calls Tryz.prog 35 #[.string s] w fun x w' => (∃ v, x = .returned (.iface 91 v)) ∧ Below w.heap.size w w' := by
  have HB := Lib.hid ((Below.refl w.heap.size w).alloc (Nat.le_refl _) (.cells #[.string s] 93))
  go_enter Tryz.func35, Tryz.ntmps35
  go_wp2
  go_ret
  exact ⟨⟨_, rfl⟩, HB.out⟩

set_option maxHeartbeats 2000000 in
set_option maxRecDepth 100000 in
theorem catom_strict (pb : Nat) (dv : Value) (s : ByteArray) (w : World) (h : PS pb dv s w) (hs : s.size ≤ 1099511627776) (hv : Lib.validD s.data.toList = true) (hT : Lib.Utf8Tabs 0 1 w) (ha : s.data.toList.takeWhile atomD ≠ []) (hd1 : Lib.hasPrefix (s.data.toList.takeWhile atomD) [46] = false) (hd2 : ∀ j, ¬ Hit [46, 46] (s.data.toList.takeWhile atomD) j) (hd3 : Lib.hasSuffix (s.data.toList.takeWhile atomD) [46] = false) :
    Calls Tryz.prog 55 #[.pointer (some ⟨pb, 0, none⟩), .bool true, .bool false] w fun x w' => x = .returned (.tuple #[.string (bs (s.data.toList.takeWhile atomD)), .nilIface]) ∧ PS pb dv (bs (s.data.toList.dropWhile atomD)) w' ∧ Fr (fun k => k ≠ pb ∧ k < w.heap.size) w w' := by
  have HP := Lib.hid h; have HV := Lib.hid hv; have HT := Lib.hid hT; have HA := Lib.hid ha; have HD1 := Lib.hid hd1; have HD2 := Lib.hid hd2; have HD3 := Lib.hid hd3
  have hsl : s.data.toList.length = s.size := Array.length_toList
  have HSL := Lib.hid hsl
  clear h hv hT ha hsl hd1 hd2 hd3
  go_enter Tryz.func55, Tryz.ntmps55
  go_wp2
  go_step3
  go_wp2
  go_step3
  go_wp2
  go_loopw [6, 7, 8] (fun r6 r7 i wr => r6 = .string ⟨#[]⟩ ∧ r7 = .nilIface ∧ Below w.heap.size w wr ∧ ∃ k : Nat, i = .int .i64 k ∧ k ≤ s.size ∧ (s.data.toList.take k).all atomD = true ∧ Lib.validD (s.data.toList.drop k) = true) (fun _ _ i _ => s.size - (intOf i).toNat)
  case atStart => exact ⟨rfl, rfl, Below.refl _ _, 0, rfl, Nat.zero_le _, rfl, HV.out⟩
  case round =>
    obtain ⟨rfl, rfl, hb, k, rfl, hk, hall, hvk⟩ := hrel
    have HB := Lib.hid hb; have HALL := Lib.hid hall; have HVK := Lib.hid hvk
    have HPR := Lib.hid (HP.out.below hb)
    obtain ⟨c0, c1, f0, hlt0⟩ := HPR.out.cells
    have z0 : (k : Int) ≤ (s.size : Int) := by omega
    have HT2 := Lib.hid (Utf8Tabs_below HT.out hb)
    obtain ⟨X, hX⟩ : ∃ X, s.extract k s.size = X := ⟨_, rfl⟩
    have hXL : X.data.toList = s.data.toList.drop k := by
      rw [← hX]
      have := extract_list s k (s.size - k)
      rw [show k + (s.size - k) = s.size by omega] at this
      rw [this, List.take_of_length_le (by rw [List.length_drop, HSL.out]; omega)]
    have HXL := Lib.hid hXL
    clear hb hall hvk hXL
    by_cases hlt : k < s.size
    · have hne : s.data.toList.drop k ≠ [] := by rw [Ne, List.drop_eq_nil_iff, HSL.out]; omega
      have hw1 := wd_pos (s.data.toList.drop k)
      have hw2 := wd_le (s.data.toList.drop k) hne
      rw [List.length_drop, HSL.out] at hw2
      have hdg : Lib.decodeGo X = Lib.decodeL (s.data.toList.drop k) := by
        unfold Lib.decodeGo
        rw [if_neg (by rw [← hX, Lib.ext_size]; omega)]
        unfold Lib.decodeL
        rw [← HXL.out]
      have hok := valid_ok HVK.out hne
      obtain ⟨r, hr⟩ : ∃ r, (Lib.decodeL (s.data.toList.drop k)).1 = r := ⟨_, rfl⟩
      obtain ⟨n, hn⟩ : ∃ n, wd (s.data.toList.drop k) = n := ⟨_, rfl⟩
      have hrn : ¬ (r = 65533 ∧ n = 1) := by rw [← hr, ← hn]; exact hok.2
      have HDG := Lib.hid (show Lib.decodeGo X = (r, n) by rw [hdg, ← hr, ← hn]; rfl)
      have HRA := Lib.hid (rune_atom HVK.out hne)
      rw [hr, hn] at HRA
      rw [hn] at hw1 hw2
      have HN := Lib.hid hn
      clear hdg hok hr hn hne
      go_wp2_with fail
      refine (Tryz.utf8_DecodeRuneInString X _ HT2.out).mono ?_
      rintro x w2 ⟨rfl, hb2⟩
      rw [HDG.out]
      have HB2 := Lib.hid (HB.out.trans (hb2.mono HB.out.size))
      clear hb2 HT2
      have z3 : ((n : Int) == 0) = false := by rw [beq_eq_false_iff_ne]; omega
      have z12 : (((n : Int) == 1) = true ∧ ((r : Int) == 65533) = false) ∨ ((n : Int) == 1) = false := by
        by_cases h1 : n = 1
        · left
          refine ⟨by rw [beq_iff_eq]; omega, ?_⟩
          rw [beq_eq_false_iff_ne]
          intro e
          exact hrn ⟨by omega, h1⟩
        · right
          rw [beq_eq_false_iff_ne]; omega
      clear hrn
      cases hat : atextD r with
      | true =>
        have HAT := Lib.hid hat
        have hst : (s.data.toList.take (k + n)).all atomD = true := by
          rw [List.take_add, List.all_append, HALL.out, Bool.true_and]
          rcases HRA.out with h | h
          · exact h.2
          · exact absurd h.1 (by rw [hat]; decide)
        have hvn : Lib.validD (s.data.toList.drop (k + n)) = true := by
          rw [← List.drop_drop, ← HN.out]
          exact valid_drop HVK.out (fun e => by have := HN.out; rw [e] at this; have h9 := congrArg List.length e; rw [List.length_drop, HSL.out, List.length_nil] at h9; omega)
        have HST := Lib.hid hst; have HVN := Lib.hid hvn
        clear hat hst hvn
        rcases z12 with ⟨z1, z2⟩ | z1
        all_goals
          go_wp2_with fail
          refine (isAtext_dot r _).mono ?_
          rintro x w3 ⟨rfl, rfl⟩
          rw [HAT.out]
          go_wp2
          go_roundw
          case rel => exact ⟨rfl, rfl, HB2.out, k + n, by go_num, by omega, HST.out, HVN.out⟩
          case measure => simp [intOf]; omega
      | false =>
        have HAT := Lib.hid hat
        have htw : s.data.toList.takeWhile atomD = s.data.toList.take k ∧ s.data.toList.dropWhile atomD = s.data.toList.drop k := by
          have e2 := List.take_append_drop k s.data.toList
          rcases HRA.out with h | ⟨_, c, t, hct, hc⟩
          · exact absurd h.1 (by rw [hat]; decide)
          · have h1 := while_app4 (p := atomD) (a := s.data.toList.take k) (l := s.data.toList.drop k) (fun d hd => List.all_eq_true.1 HALL.out d hd)
            rw [e2, hct, List.takeWhile_cons_of_neg (by rw [hc]; simp), List.dropWhile_cons_of_neg (by rw [hc]; simp), List.append_nil] at h1
            rw [hct]; exact h1
        have HTW := Lib.hid htw
        clear hat htw
        rcases z12 with ⟨z1, z2⟩ | z1
        · go_wp2_with fail
          refine (isAtext_dot r _).mono ?_
          rintro x w3 ⟨rfl, rfl⟩
          rw [HAT.out]
          have z9 : ((k : Int) == 0) = false := by
            rw [beq_eq_false_iff_ne]
            intro e
            apply HA.out
            rw [HTW.out.1]
            have : k = 0 := by omega
            rw [this]; rfl
          have HP2 := Lib.hid (HP.out.below HB2.out)
          obtain ⟨d0, d1, g0, hltd⟩ := HP2.out.cells
          clear HPR c0 c1 f0 hlt0
          go_upto_region 9 with fail
          go_still_tail 14, (by kernel_rfl)
          change wpList _ _ _ _ _ w3.drew
          have HP3 := Lib.hid (show PS pb dv s w3.drew from HP2.out)
          have HB3 := Lib.hid (show Below w.heap.size w w3.drew from below_drewN HB2.out 1)
          have d0' : w3.drew.cell? ⟨pb, 0, none⟩ = some (.string s) := d0
          have d1' : w3.drew.cell? ⟨pb, 1, none⟩ = some dv := d1
          have g0' : w3.drew.frozen? ⟨pb, 0, none⟩ = false := g0
          clear d0 d1 g0 hltd HP2 HB2
          generalize w3.drew = w4 at HP3 HB3 d0' d1' g0' ⊢
          have he1 : s.extract 0 k = bs (s.data.toList.takeWhile atomD) := by
            rw [HTW.out.1, ← bs_of (s.extract 0 k)]
            congr 1
            have := extract_list s 0 k
            rw [Nat.zero_add, List.drop_zero] at this
            exact this
          have he2 : X = bs (s.data.toList.dropWhile atomD) := by
            rw [HTW.out.2, ← HXL.out, bs_of]
          obtain ⟨E, hE⟩ : ∃ E, bs (s.data.toList.takeWhile atomD) = E := ⟨_, rfl⟩
          have hEL : E.data.toList = s.data.toList.takeWhile atomD := by rw [← hE, bs_list]
          have hEs : E.size ≤ 1099511627776 := by
            have h1 : E.data.toList.length = E.size := Array.length_toList
            have h2 := (List.takeWhile_sublist (l := s.data.toList) atomD).length_le
            rw [← h1, hEL]; rw [HSL.out] at h2; omega
          have HP4 := Lib.hid (show PS pb dv X (w4.setCell ⟨pb, 0, none⟩ (.string X)) from HP3.out.put _)
          have HF4 := Lib.hid (((Fr.of_below HB3.out).mono (fun q hq => hq.2)).setCell (K := fun k => k ≠ pb ∧ k < w.heap.size) (p := ⟨pb, 0, none⟩) (fun e => e.1 rfl) (.string X))
          have HE1 := Lib.hid (show s.extract 0 k = E by rw [he1, hE]); have HE2 := Lib.hid he2; have HEL := Lib.hid hEL
          have HE := Lib.hid hE
          clear he1 he2 hE hEL
          go_wp2_with fail
          try rw [HE1.out]
          refine (Tryz.strings_HasPrefix E ⟨#[46]⟩ _).mono ?_
          rintro x w5 ⟨rfl, hw5⟩
          rw [HEL.out, show ((⟨#[46]⟩ : ByteArray).data.toList) = [46] from rfl, HD1.out]
          have HW5 := Lib.hid hw5
          clear hw5
          go_wp2_with fail
          try rw [HE1.out]
          refine (nContains_no E ⟨#[46, 46]⟩ _ hEs (by decide) (by rw [HEL.out]; exact HD2.out)).mono ?_
          rintro x w6 ⟨rfl, hw6⟩
          have HW6 := Lib.hid hw6
          clear hw6
          go_wp2_with fail
          try rw [HE1.out]
          refine (Tryz.strings_HasSuffix E ⟨#[46]⟩ _ (by omega)).mono ?_
          rintro x w7 ⟨rfl, hw7⟩
          rw [HEL.out, show ((⟨#[46]⟩ : ByteArray).data.toList) = [46] from rfl, HD3.out]
          have HW7 := Lib.hid hw7
          clear hw7
          go_wp2
          rw [Exit.noGoto_ret]
          go_ret2
          refine ⟨by first | (rw [HE.out, ← HE1.out]; rfl) | (rw [HE.out]), ?_⟩
          rw [HW7.out, HW6.out, HW5.out, ← HE2.out]
          exact ⟨HP4.out, HF4.out⟩
        · go_wp2_with fail
          refine (isAtext_dot r _).mono ?_
          rintro x w3 ⟨rfl, rfl⟩
          rw [HAT.out]
          have z9 : ((k : Int) == 0) = false := by
            rw [beq_eq_false_iff_ne]
            intro e
            apply HA.out
            rw [HTW.out.1]
            have : k = 0 := by omega
            rw [this]; rfl
          have HP2 := Lib.hid (HP.out.below HB2.out)
          obtain ⟨d0, d1, g0, hltd⟩ := HP2.out.cells
          clear HPR c0 c1 f0 hlt0
          go_upto_region 9 with fail
          go_still_tail 14, (by kernel_rfl)
          change wpList _ _ _ _ _ w3.drew
          have HP3 := Lib.hid (show PS pb dv s w3.drew from HP2.out)
          have HB3 := Lib.hid (show Below w.heap.size w w3.drew from below_drewN HB2.out 1)
          have d0' : w3.drew.cell? ⟨pb, 0, none⟩ = some (.string s) := d0
          have d1' : w3.drew.cell? ⟨pb, 1, none⟩ = some dv := d1
          have g0' : w3.drew.frozen? ⟨pb, 0, none⟩ = false := g0
          clear d0 d1 g0 hltd HP2 HB2
          generalize w3.drew = w4 at HP3 HB3 d0' d1' g0' ⊢
          have he1 : s.extract 0 k = bs (s.data.toList.takeWhile atomD) := by
            rw [HTW.out.1, ← bs_of (s.extract 0 k)]
            congr 1
            have := extract_list s 0 k
            rw [Nat.zero_add, List.drop_zero] at this
            exact this
          have he2 : X = bs (s.data.toList.dropWhile atomD) := by
            rw [HTW.out.2, ← HXL.out, bs_of]
          obtain ⟨E, hE⟩ : ∃ E, bs (s.data.toList.takeWhile atomD) = E := ⟨_, rfl⟩
          have hEL : E.data.toList = s.data.toList.takeWhile atomD := by rw [← hE, bs_list]
          have hEs : E.size ≤ 1099511627776 := by
            have h1 : E.data.toList.length = E.size := Array.length_toList
            have h2 := (List.takeWhile_sublist (l := s.data.toList) atomD).length_le
            rw [← h1, hEL]; rw [HSL.out] at h2; omega
          have HP4 := Lib.hid (show PS pb dv X (w4.setCell ⟨pb, 0, none⟩ (.string X)) from HP3.out.put _)
          have HF4 := Lib.hid (((Fr.of_below HB3.out).mono (fun q hq => hq.2)).setCell (K := fun k => k ≠ pb ∧ k < w.heap.size) (p := ⟨pb, 0, none⟩) (fun e => e.1 rfl) (.string X))
          have HE1 := Lib.hid (show s.extract 0 k = E by rw [he1, hE]); have HE2 := Lib.hid he2; have HEL := Lib.hid hEL
          have HE := Lib.hid hE
          clear he1 he2 hE hEL
          go_wp2_with fail
          try rw [HE1.out]
          refine (Tryz.strings_HasPrefix E ⟨#[46]⟩ _).mono ?_
          rintro x w5 ⟨rfl, hw5⟩
          rw [HEL.out, show ((⟨#[46]⟩ : ByteArray).data.toList) = [46] from rfl, HD1.out]
          have HW5 := Lib.hid hw5
          clear hw5
          go_wp2_with fail
          try rw [HE1.out]
          refine (nContains_no E ⟨#[46, 46]⟩ _ hEs (by decide) (by rw [HEL.out]; exact HD2.out)).mono ?_
          rintro x w6 ⟨rfl, hw6⟩
          have HW6 := Lib.hid hw6
          clear hw6
          go_wp2_with fail
          try rw [HE1.out]
          refine (Tryz.strings_HasSuffix E ⟨#[46]⟩ _ (by omega)).mono ?_
          rintro x w7 ⟨rfl, hw7⟩
          rw [HEL.out, show ((⟨#[46]⟩ : ByteArray).data.toList) = [46] from rfl, HD3.out]
          have HW7 := Lib.hid hw7
          clear hw7
          go_wp2
          rw [Exit.noGoto_ret]
          go_ret2
          refine ⟨by first | (rw [HE.out, ← HE1.out]; rfl) | (rw [HE.out]), ?_⟩
          rw [HW7.out, HW6.out, HW5.out, ← HE2.out]
          exact ⟨HP4.out, HF4.out⟩
    · have hks : k = s.size := by omega
      have HKS := Lib.hid hks
      have hx0 : X.size = 0 := by rw [← hX, Lib.ext_size]; omega
      have HDG := Lib.hid (show Lib.decodeGo X = (65533, 0) by unfold Lib.decodeGo; rw [if_pos hx0])
      have htw : s.data.toList.takeWhile atomD = s.data.toList.take k ∧ s.data.toList.dropWhile atomD = s.data.toList.drop k := by
        have h1 : s.data.toList.take k = s.data.toList := List.take_of_length_le (by rw [HSL.out]; omega)
        have h2 : s.data.toList.drop k = [] := List.drop_of_length_le (by rw [HSL.out]; omega)
        have h3 := while_app4 (p := atomD) (a := s.data.toList) (l := []) (fun d hd => by have := HALL.out; rw [h1] at this; exact List.all_eq_true.1 this d hd)
        rw [h1, h2]
        simpa using h3
      have HTW := Lib.hid htw
      clear hks hx0 htw
      go_wp2_with fail
      refine (Tryz.utf8_DecodeRuneInString X _ HT2.out).mono ?_
      rintro x w3 ⟨rfl, hb2⟩
      rw [HDG.out]
      have HB2 := Lib.hid (HB.out.trans (hb2.mono HB.out.size))
      clear hb2 HT2
      have z9 : ((k : Int) == 0) = false := by
        rw [beq_eq_false_iff_ne]
        intro e
        apply HA.out
        rw [HTW.out.1]
        have : k = 0 := by omega
        rw [this]; rfl
      have HP2 := Lib.hid (HP.out.below HB2.out)
      obtain ⟨d0, d1, g0, hltd⟩ := HP2.out.cells
      clear HPR c0 c1 f0 hlt0
      go_upto_region 9 with fail
      go_still_tail 14, (by kernel_rfl)
      change wpList _ _ _ _ _ w3.drew
      have HP3 := Lib.hid (show PS pb dv s w3.drew from HP2.out)
      have HB3 := Lib.hid (show Below w.heap.size w w3.drew from below_drewN HB2.out 1)
      have d0' : w3.drew.cell? ⟨pb, 0, none⟩ = some (.string s) := d0
      have d1' : w3.drew.cell? ⟨pb, 1, none⟩ = some dv := d1
      have g0' : w3.drew.frozen? ⟨pb, 0, none⟩ = false := g0
      clear d0 d1 g0 hltd HP2 HB2
      generalize w3.drew = w4 at HP3 HB3 d0' d1' g0' ⊢
      have he1 : s.extract 0 k = bs (s.data.toList.takeWhile atomD) := by
        rw [HTW.out.1, ← bs_of (s.extract 0 k)]
        congr 1
        have := extract_list s 0 k
        rw [Nat.zero_add, List.drop_zero] at this
        exact this
      have he2 : X = bs (s.data.toList.dropWhile atomD) := by
        rw [HTW.out.2, ← HXL.out, bs_of]
      obtain ⟨E, hE⟩ : ∃ E, bs (s.data.toList.takeWhile atomD) = E := ⟨_, rfl⟩
      have hEL : E.data.toList = s.data.toList.takeWhile atomD := by rw [← hE, bs_list]
      have hEs : E.size ≤ 1099511627776 := by
        have h1 : E.data.toList.length = E.size := Array.length_toList
        have h2 := (List.takeWhile_sublist (l := s.data.toList) atomD).length_le
        rw [← h1, hEL]; rw [HSL.out] at h2; omega
      have HP4 := Lib.hid (show PS pb dv X (w4.setCell ⟨pb, 0, none⟩ (.string X)) from HP3.out.put _)
      have HF4 := Lib.hid (((Fr.of_below HB3.out).mono (fun q hq => hq.2)).setCell (K := fun k => k ≠ pb ∧ k < w.heap.size) (p := ⟨pb, 0, none⟩) (fun e => e.1 rfl) (.string X))
      have HE1 := Lib.hid (show s.extract 0 k = E by rw [he1, hE]); have HE2 := Lib.hid he2; have HEL := Lib.hid hEL
      have HE := Lib.hid hE
      clear he1 he2 hE hEL
      go_wp2_with fail
      try rw [HE1.out]
      refine (Tryz.strings_HasPrefix E ⟨#[46]⟩ _).mono ?_
      rintro x w5 ⟨rfl, hw5⟩
      rw [HEL.out, show ((⟨#[46]⟩ : ByteArray).data.toList) = [46] from rfl, HD1.out]
      have HW5 := Lib.hid hw5
      clear hw5
      go_wp2_with fail
      try rw [HE1.out]
      refine (nContains_no E ⟨#[46, 46]⟩ _ hEs (by decide) (by rw [HEL.out]; exact HD2.out)).mono ?_
      rintro x w6 ⟨rfl, hw6⟩
      have HW6 := Lib.hid hw6
      clear hw6
      go_wp2_with fail
      try rw [HE1.out]
      refine (Tryz.strings_HasSuffix E ⟨#[46]⟩ _ (by omega)).mono ?_
      rintro x w7 ⟨rfl, hw7⟩
      rw [HEL.out, show ((⟨#[46]⟩ : ByteArray).data.toList) = [46] from rfl, HD3.out]
      have HW7 := Lib.hid hw7
      clear hw7
      go_wp2
      rw [Exit.noGoto_ret]
      go_ret2
      refine ⟨by first | (rw [HE.out, ← HE1.out]; rfl) | (rw [HE.out]), ?_⟩
      rw [HW7.out, HW6.out, HW5.out, ← HE2.out]
      exact ⟨HP4.out, HF4.out⟩

set_option maxHeartbeats 1000000 in
set_option maxRecDepth 100000 in
theorem catom_none (pb : Nat) (dv : Value) (p : Bool) (s : ByteArray) (w : World) (h : PS pb dv s w) (hv : Lib.validD s.data.toList = true) (hT : Lib.Utf8Tabs 0 1 w) (ha : ∀ c t, s.data.toList = c :: t → atomD c = false) :
    Calls Tryz.prog 55 #[.pointer (some ⟨pb, 0, none⟩), .bool true, .bool p] w fun x w' => (∃ v, x = .returned (.tuple #[.string ⟨#[]⟩, .iface 91 v])) ∧ Below w.heap.size w w' := by
  have HP := Lib.hid h; have HV := Lib.hid hv; have HT := Lib.hid hT; have HA := Lib.hid ha
  have hsl : s.data.toList.length = s.size := Array.length_toList
  have HSL := Lib.hid hsl
  clear h hv hT ha hsl
  go_enter Tryz.func55, Tryz.ntmps55
  go_wp2
  go_step3
  go_wp2
  go_step3
  go_wp2
  go_loopw [6, 7, 8] (fun r6 r7 i wr => r6 = .string ⟨#[]⟩ ∧ r7 = .nilIface ∧ Below w.heap.size w wr ∧ i = .int .i64 0) (fun _ _ i _ => 0)
  case atStart => exact ⟨rfl, rfl, Below.refl _ _, rfl⟩
  case round =>
    obtain ⟨rfl, rfl, hb, rfl⟩ := hrel
    have HB := Lib.hid hb
    have HPR := Lib.hid (HP.out.below hb)
    obtain ⟨c0, c1, f0, hlt0⟩ := HPR.out.cells
    have HT2 := Lib.hid (Utf8Tabs_below HT.out hb)
    clear hb
    have hX : s.extract 0 s.size = s := by rw [← bs_of (s.extract 0 s.size), ← bs_of s]; congr 1; have := extract_list s 0 s.size; rw [Nat.zero_add, List.drop_zero] at this; rw [bs_of]; rw [this, List.take_of_length_le (by rw [HSL.out]; exact Nat.le_refl _)]
    have HX := Lib.hid hX
    clear hX
    by_cases hz : s.size = 0
    · have HDG := Lib.hid (show Lib.decodeGo s = (65533, 0) by unfold Lib.decodeGo; rw [if_pos hz])
      clear hz
      go_wp2_with fail
      try rw [HX.out]
      refine (Tryz.utf8_DecodeRuneInString s _ HT2.out).mono ?_
      rintro x w3 ⟨rfl, hb2⟩
      rw [HDG.out]
      have HB2 := Lib.hid (HB.out.trans (hb2.mono HB.out.size))
      clear hb2 HT2
      go_wp2_with fail
      refine (errNew _ _).mono ?_
      rintro x w4 ⟨⟨v, rfl⟩, hb4⟩
      have HB4 := Lib.hid (HB2.out.trans (hb4.mono HB2.out.size))
      clear hb4
      go_wp2
      rw [Exit.noGoto_ret]
      go_ret2
      exact ⟨⟨v, rfl⟩, HB4.out⟩
    · have hne : s.data.toList ≠ [] := by rw [Ne, ← List.length_eq_zero_iff, HSL.out]; exact hz
      have hw1 := wd_pos s.data.toList
      have hw2 := wd_le s.data.toList hne
      rw [HSL.out] at hw2
      have hdg : Lib.decodeGo s = Lib.decodeL s.data.toList := by
        unfold Lib.decodeGo
        rw [if_neg hz]
        unfold Lib.decodeL
        rfl
      have hok := valid_ok HV.out hne
      obtain ⟨r, hr⟩ : ∃ r, (Lib.decodeL s.data.toList).1 = r := ⟨_, rfl⟩
      obtain ⟨n, hn⟩ : ∃ n, wd s.data.toList = n := ⟨_, rfl⟩
      have hrn : ¬ (r = 65533 ∧ n = 1) := by rw [← hr, ← hn]; exact hok.2
      have HDG := Lib.hid (show Lib.decodeGo s = (r, n) by rw [hdg, ← hr, ← hn]; rfl)
      have hra := rune_atom HV.out hne
      rw [hr, hn] at hra
      rw [hn] at hw1 hw2
      have HAT := Lib.hid (show atextD r = false by
        rcases hra with h | h
        · exfalso
          obtain ⟨c, t, hct⟩ : ∃ c t, s.data.toList = c :: t := by
            cases hl : s.data.toList with
            | nil => exact absurd hl hne
            | cons c t => exact ⟨c, t, rfl⟩
          have h1 := HA.out c t hct
          have h2 := h.2
          rw [hct] at h2
          obtain ⟨m, hm⟩ : ∃ m, n = m + 1 := ⟨n - 1, by omega⟩
          rw [hm, List.take_succ_cons, List.all_cons, h1] at h2
          simp at h2
        · exact h.1)
      clear hdg hok hr hn hne hra hz
      have z3 : ((n : Int) == 0) = false := by rw [beq_eq_false_iff_ne]; omega
      have z12 : (((n : Int) == 1) = true ∧ ((r : Int) == 65533) = false) ∨ ((n : Int) == 1) = false := by
        by_cases h1 : n = 1
        · left
          refine ⟨by rw [beq_iff_eq]; omega, ?_⟩
          rw [beq_eq_false_iff_ne]
          intro e
          exact hrn ⟨by omega, h1⟩
        · right
          rw [beq_eq_false_iff_ne]; omega
      clear hrn
      go_wp2_with fail
      try rw [HX.out]
      refine (Tryz.utf8_DecodeRuneInString s _ HT2.out).mono ?_
      rintro x w2 ⟨rfl, hb2⟩
      rw [HDG.out]
      have HB2 := Lib.hid (HB.out.trans (hb2.mono HB.out.size))
      clear hb2 HT2
      rcases z12 with ⟨z1, z2⟩ | z1
      all_goals
        go_wp2_with fail
        refine (isAtext_dot r _).mono ?_
        rintro x w3 ⟨rfl, rfl⟩
        rw [HAT.out]
        go_wp2_with fail
        refine (errNew _ _).mono ?_
        rintro x w4 ⟨⟨v, rfl⟩, hb4⟩
        have HB4 := Lib.hid (HB2.out.trans (hb4.mono HB2.out.size))
        clear hb4
        go_wp2
        rw [Exit.noGoto_ret]
        go_ret2
        exact ⟨⟨v, rfl⟩, HB4.out⟩
end Go.Proofs.YtpoglombagmhmaaGreatDoor
/- netmail.consumePhrase, on words and whatever no word is behind them: the walk. -/
namespace Go.Proofs.YtpoglombagmhmaaGreatDoor
open Go Go.RowKit

/-- A round's state: what is left, its words, the name so far. -/
structure PRZ (pb : Nat) (w : World) (nm : List UInt8) (Z : List Tok) (l : Bool) (R : List UInt8) (wv : Value) (k : Nat) (ls : List (List UInt8)) (sbl : List UInt8) (wx : World) : Prop where
  pw : PW pb w (bs R) ls wv sbl wx
  good : GoodS R
  toks : ∃ (b : Bool) (ts : List Tok) (coded : Bool) (out : List UInt8), toksL b R = .good (ts ++ Z) l ∧ (∀ t ∈ ts, wordK t = true) ∧ nameG ts k true coded out = (true, nm) ∧ PhSt k coded out ls sbl ∧ (k = 0 → ts ≠ [])
  lsl : ls.length + (if sbl = [] then 0 else 1) ≤ k
  sbn : sbl.length + 2 * R.length ≤ 8589934592
  kl : k + R.length ≤ 4294967296

set_option maxHeartbeats 3000000 in
set_option maxRecDepth 100000 in
theorem cphrase_gen (pb : Nat) (R0 nm : List UInt8) (ts0 Z : List Tok) (b0 l0 : Bool) (et : TypeId) (ev : Value) (w : World) (h : PS pb (.pointer none) (bs R0) w) (hg : GoodS R0) (hl : R0.length ≤ 4294967296) (hZ : EndZ Z) (ht : toksL b0 R0 = .good (ts0 ++ Z) l0) (hw : ∀ t ∈ ts0, wordK t = true) (hn : nameG ts0 0 true false [] = (true, nm)) (hne : ts0 ≠ [])
    (hT : Lib.Utf8Tabs 0 1 w) (he : w.cell? ⟨2, 0, none⟩ = some (.iface et ev)) (hgp : pb ≠ 0 ∧ pb ≠ 1 ∧ pb ≠ 2) :
    Calls Tryz.prog 43 #[.pointer (some ⟨pb, 0, none⟩)] w fun r w' => r = .returned (.tuple #[.string (bs nm), .nilIface]) ∧ (∃ (Re : List UInt8) (be : Bool), PS pb (.pointer none) (bs Re) w' ∧ Re.dropWhile isSp = Re ∧ toksL be Re = .good Z l0 ∧ GoodS Re ∧ Re.length ≤ R0.length) ∧ Fr (fun k => k ≠ pb ∧ k < w.heap.size) w w' := by
  have HZ := Lib.hid hZ; have HP := Lib.hid h; have HG := Lib.hid hg; have HTK := Lib.hid ht; have HW := Lib.hid hw; have HN := Lib.hid hn; have HNE := Lib.hid hne; have HT := Lib.hid hT; have HE := Lib.hid he; have HGP := Lib.hid hgp
  have hpb := h.cells.2.2.2
  have hnml : nm.length ≤ 17179869184 := by
    have h1 := nameG_len ts0 0 true false []
    rw [hn] at h1
    have h2 := toks_tlen _ R0 b0 (ts0 ++ Z) l0 (Nat.le_refl _) ht
    rw [tlen_app] at h2
    simp at h1; omega
  have HB0 := Lib.hid (Bld.fresh w (· < w.heap.size) (fun k h => h))
  clear h hg ht hw hn hne hT he hgp hZ
  go_enter Tryz.func43, Tryz.ntmps43
  have hPW0 : PRZ pb w nm Z l0 R0 (.slice none 0 0) 0 [] [] (w.alloc (.cells #[.pointer none, .slice none 0 0] 110)) := by
    have hf := (Fr.refl (fun k => k < w.heap.size) w).alloc (fun k hk => hk) (.cells #[.pointer none, .slice none 0 0] 110)
    refine ⟨⟨HP.out.fr (hf.block pb hpb), OwnS.nil _ _, HB0.out.mono (fun k hk => ?_), hf.mono (fun k hk => hk.2)⟩, HG.out, ⟨b0, ts0, false, [], HTK.out, HW.out, HN.out, PhSt.start, fun _ => HNE.out⟩, by simp, by simp; omega, by omega⟩
    rcases hk with hk | hk
    · exact hk
    · simp [Value.ownBlock] at hk
  have HPR0 := Lib.hid hPW0
  clear hPW0 HB0
  go_wp2
  obtain ⟨sb, hsb⟩ : ∃ sb, w.heap.size = sb := ⟨_, rfl⟩
  have HSB := Lib.hid hsb
  rw [hsb]
  generalize w.alloc (.cells #[.pointer none, .slice none 0 0] 110) = w1 at HPR0 ⊢
  go_loopw [2, 3, 4] (fun r2 r3 wv wr => r2 = .string ⟨#[]⟩ ∧ r3 = .nilIface ∧ ∃ (R : List UInt8) (k : Nat) (ls : List (List UInt8)) (sbl : List UInt8) (qa : Option Addr) (qc : Nat), wv = .slice qa ls.length qc ∧ PRZ pb w nm Z l0 R wv k ls sbl wr ∧ R.length ≤ R0.length) (fun _ _ _ wr => strOf pb wr)
  case atStart => exact ⟨rfl, rfl, R0, 0, [], [], none, 0, rfl, HPR0.out, Nat.le_refl _⟩
  case round =>
    obtain ⟨rfl, rfl, R, k, ls, sbl, qa, qc, rfl, hpr, hR0⟩ := hrel
    have HPR := Lib.hid hpr
    have hrl : R.length ≤ 4294967296 := by have := hpr.kl; omega
    have hll : ls.length ≤ 4294967296 := by have := hpr.kl; have := hpr.lsl; omega
    obtain ⟨b, ts, coded, out, htk, hws, hnm, hph, hk0⟩ := hpr.toks
    obtain ⟨b', hb', -⟩ := ph_skip R b
    obtain ⟨R2, hR2⟩ : ∃ R2, R.dropWhile isSp = R2 := ⟨_, rfl⟩
    rw [hb', hR2] at htk
    have hR2l : R2.length ≤ R.length := by rw [← hR2]; exact (List.dropWhile_sublist _).length_le
    have hg2 : GoodS R2 := by rw [← hR2]; exact hpr.good.skip
    have HTS := Lib.hid htk; have HWS := Lib.hid hws; have HNM := Lib.hid hnm; have HPH := Lib.hid hph; have HK0 := Lib.hid hk0; have HG2 := Lib.hid hg2; have HR2 := Lib.hid hR2
    clear hpr htk hws hnm hph hk0 hg2 hR2 hb'
    go_upto_if 10 with fail
    go_cut [2, 3] from 10 to 14 (fun r2 r3 wx => r2 = .string ⟨#[]⟩ ∧ r3 = .nilIface ∧ ∃ R1 : List UInt8, PW pb w (bs R1) ls (.slice qa ls.length qc) sbl wx ∧ R1.dropWhile isSp = R2 ∧ R1.length ≤ 4294967296)
    case first =>
      by_cases hl0 : ls = []
      · have z0 : ¬ (0 : Int) < (ls.length : Int) := by rw [hl0]; decide
        clear hl0
        go_wp2
        go_meet
        exact ⟨rfl, rfl, R, HPR.out.pw, HR2.out, hrl⟩
      · have z0 : (0 : Int) < (ls.length : Int) := by have := List.length_pos_iff.2 hl0; omega
        clear hl0
        go_wp2_with fail
        refine (pcfws_any pb (.pointer none) (bs R) _ HPR.out.pw.ps (by rw [bs_size]; omega) (fun c t hd => ?_)).mono ?_
        · rw [bs_list, HR2.out] at hd
          rintro rfl
          have h9 := HTS.out
          rw [hd] at h9
          rcases ph_head (by decide) h9 with ⟨h1, _⟩ | ⟨h1, _⟩ | ⟨_, _, _, h1, _⟩
          · exact absurd h1 (by decide)
          · exact absurd h1 (by decide)
          · exact absurd h1 (by decide)
        rintro x w2 ⟨rfl, hp, hf⟩
        rw [bs_list, HR2.out] at hp
        have HPW := Lib.hid (HPR.out.pw.step hpb hp hf)
        clear hp hf
        go_wp2
        go_meet
        refine ⟨rfl, rfl, R2, HPW.out, ?_, by omega⟩
        cases hh : R2 with
        | nil => rfl
        | cons c t => rw [List.dropWhile_cons_of_neg (by rw [ph_nosp (HR2.out.trans hh)]; simp)]
    case rest =>
      obtain ⟨rfl, rfl, R1, hpw, hd1, hl1⟩ := hcut
      have HPW := Lib.hid hpw; have HD1 := Lib.hid hd1
      clear hpw hd1
      go_wp2_with fail
      refine (pskip_any pb (.pointer none) (bs R1) _ HPW.out.ps (by rw [bs_size]; omega)).mono ?_
      rintro x w3 ⟨rfl, hp3, hf3⟩
      rw [bs_list, HD1.out] at hp3
      have HPW3 := Lib.hid (HPW.out.step hpb hp3 hf3)
      clear hp3 hf3 HPW HD1
      go_wp2_with fail
      refine (pempty_any pb (.pointer none) (bs R2) _ HPW3.out.ps).mono ?_
      rintro x w4 ⟨rfl, rfl⟩
      cases hR2c : R2 with
      | nil =>
        have hz : decide ((bs ([] : List UInt8)).size = 0) = true := by decide
        rw [hz]
        have HPZ0 := Lib.hid HPW3.out
        rw [hR2c] at HPZ0
        have h9 := HTS.out
        rw [hR2c, tk_nil] at h9
        injection h9 with h91 h92
        have hts0 : ts = [] ∧ Z = [] := List.append_eq_nil_iff.1 h91.symm
        obtain ⟨hts0, hZ0⟩ := hts0
        subst hts0
        have HFIN := Lib.hid (show toksL b' [] = .good Z l0 by have h7 := HTS.out; rw [hR2c, List.nil_append] at h7; exact h7)
        have HOUT := Lib.hid (show out = nm by have := HNM.out; rw [nameG] at this; exact congrArg Prod.snd this)
        have hkz : k ≠ 0 := fun e => HK0.out e rfl
        have HKZ := Lib.hid hkz
        clear h91 h92 hZ0 hkz HPW3 hz
        by_cases hs0 : sbl = []
        · have z0 : ¬ (0 : Int) < (sbl.length : Int) := by rw [hs0]; decide
          have HPZ := Lib.hid HPZ0.out
          have HNL := Lib.hid (show ls ≠ [] from fun e => HKZ.out (HPH.out.zero.2 ⟨e, hs0⟩))
          have HS0 := Lib.hid hs0
          clear HPZ0 hs0
          go_wp2_with fail
          rw [HSB.out.symm]
          refine (bLen_any _ _ _ _ HPZ.out.bld).mono ?_
          rintro x w5 ⟨rfl, rfl⟩
          have HJ := Lib.hid (show Lib.join (ls) [32] = nm by rw [← HOUT.out, HPH.out.out]; unfold phJ; rw [if_pos HS0.out, List.append_nil])
          have hown := HPZ.out.own
          obtain ⟨g, cap, hgq⟩ : ∃ g cap, Value.slice qa ls.length qc = .slice (some ⟨g, 0, none⟩) (ls).length cap := by
            rcases hown.2 with ⟨_, h0⟩ | ⟨g, cap, cur, hv, _⟩
            · exact absurd (List.eq_nil_of_length_eq_zero h0) HNL.out
            · exact ⟨g, cap, hv⟩
          rw [hgq] at hown ⊢
          have hjl : (Lib.join (ls) [32]).length ≤ 140737488355328 := by rw [HJ.out]; exact Nat.le_trans hnml (by decide)
          clear hgq
          go_wp2_with fail
          refine (join_call w.heap.size (ls) g _ cap _ rfl hown (by omega) hjl).mono ?_
          rintro x w8 ⟨rfl, hb8⟩
          have HP8 := Lib.hid (HPZ.out.ps.below hb8)
          have HF8 := Lib.hid (HPZ.out.fr.trans ((Fr.of_below hb8).mono (fun q hq => Nat.lt_of_lt_of_le hq.2 HPZ.out.fr.size)))
          rw [HJ.out]
          clear hb8 hown hjl
          go_wp2
          go_ret2
          exact ⟨rfl, ⟨[], b', HP8.out, rfl, HFIN.out, ⟨rfl, by simp⟩, Nat.zero_le _⟩, HF8.out⟩
        · have z0 : (0 : Int) < (sbl.length : Int) := by have := List.length_pos_iff.2 hs0; omega
          have HS0 := Lib.hid hs0
          clear hs0
          go_wp2_with fail
          rw [HSB.out.symm]
          refine (bLen_any _ _ _ _ HPZ0.out.bld).mono ?_
          rintro x w5 ⟨rfl, rfl⟩
          go_wp2_with fail
          rw [HSB.out.symm]
          refine (String_any _ _ _ _ HPZ0.out.bld).mono ?_
          rintro x w6 ⟨rfl, hbx, hf6⟩
          have HST := Lib.hid (HPZ0.out.read hpb hbx hf6)
          clear hbx hf6 HPZ0
          go_wp2_with (at_builtin; refine wpList_push_str rfl _ _ rfl w.heap.size ls _ ⟨sbl.toArray⟩ _ HST.out.own HST.out.fr.size ?c4 rfl rfl ?_)
          case c4 => omega
          intro v' w7 hown7 hg7 hat7
          replace hown7 : OwnS w.heap.size (ls ++ [sbl]) v' w7 := by first | exact hown7 | (rw [HSB.out]; exact hown7)
          obtain ⟨qa7, qc7, hv7⟩ := hown7.form
          obtain ⟨n7, hn7⟩ : ∃ n, (ls ++ [sbl]).length = n := ⟨_, rfl⟩
          rw [hn7] at hv7
          have HN7 := Lib.hid hn7
          clear hn7
          have HST7 := Lib.hid (HST.out.push hpb hown7 hg7 hat7)
          subst hv7
          clear hown7 hg7 hat7
          have HPZ := HST7
          have HNL := Lib.hid (show ls ++ [sbl] ≠ [] by simp)
          have HJ := Lib.hid (show Lib.join (ls ++ [sbl]) [32] = nm by rw [← HOUT.out, HPH.out.out]; unfold phJ; rw [if_neg HS0.out])
          have hown := HPZ.out.own
          obtain ⟨g, cap, hgq⟩ : ∃ g cap, Value.slice qa7 n7 qc7 = .slice (some ⟨g, 0, none⟩) n7 cap := by
            rcases hown.2 with ⟨_, h0⟩ | ⟨g, cap, cur, hv, _⟩
            · exact absurd (List.eq_nil_of_length_eq_zero h0) HNL.out
            · exact ⟨g, cap, by rw [hv, HN7.out]⟩
          rw [hgq] at hown ⊢
          have hjl : (Lib.join (ls ++ [sbl]) [32]).length ≤ 140737488355328 := by rw [HJ.out]; exact Nat.le_trans hnml (by decide)
          clear hgq
          go_wp2_with fail
          refine (join_call w.heap.size (ls ++ [sbl]) g n7 cap _ HN7.out hown (by rw [List.length_append, List.length_singleton]; omega) hjl).mono ?_
          rintro x w8 ⟨rfl, hb8⟩
          have HP8 := Lib.hid (HPZ.out.ps.below hb8)
          have HF8 := Lib.hid (HPZ.out.fr.trans ((Fr.of_below hb8).mono (fun q hq => Nat.lt_of_lt_of_le hq.2 HPZ.out.fr.size)))
          rw [HJ.out]
          clear hb8 hown hjl
          go_wp2
          go_ret2
          exact ⟨rfl, ⟨[], b', HP8.out, rfl, HFIN.out, ⟨rfl, by simp⟩, Nat.zero_le _⟩, HF8.out⟩
      | cons c t =>
        have hz : decide ((bs (c :: t)).size = 0) = false := by rw [bs_size]; simp
        rw [hz]
        have h9 := HTS.out
        rw [hR2c] at h9
        have hspl := ph_splitZ HZ.out (ph_nosp (HR2.out.trans hR2c)) (show GoodS (c :: t) by rw [← hR2c]; exact HG2.out) h9 HWS.out HNM.out
        have HGC := Lib.hid (show GoodS (c :: t) by rw [← hR2c]; exact HG2.out)
        have HPWc := Lib.hid HPW3.out
        rw [hR2c] at HPWc
        have hcl : (c :: t).length ≤ R.length := by rw [← hR2c]; exact hR2l
        have HSPL := Lib.hid hspl; have H9 := Lib.hid h9
        have HNSP := Lib.hid (ph_nosp (HR2.out.trans hR2c))
        clear h9 hspl hz HPW3 HTS HWS HNM HG2
        go_wp2_with fail
        refine (ppeek_any pb (.pointer none) (bs (c :: t)) c _ HPWc.out.ps (by rw [bs_size]; simp) (by rfl)).mono ?_
        rintro x wq ⟨rfl, m, hwq⟩
        have HPWq := Lib.hid (show PW pb w (bs (c :: t)) ls (.slice qa ls.length qc) sbl wq by
          rw [hwq]; exact HPWc.out.step hpb (HPWc.out.ps.fr (by rw [heap_drewN])) ((Fr.refl _ _).drewN m))
        clear hwq HPWc
        have hct := c.toNat_lt
        rcases HSPL.out with ⟨hts, hcd, hc34, hout⟩ | ⟨x, co, u, ts', R3, hts, htk3, hg3, hw3, hn3, hlt3, hsb3, hxne, hcase⟩
        · have t6 : ((c.toNat : Int) == 34) = false := cneq hc34
          have HCD := Lib.hid hcd
          have HOUT := Lib.hid hout
          have HFIN := Lib.hid (show toksL b' (c :: t) = .good Z l0 by have h7 := H9.out; rw [hts, List.nil_append] at h7; exact h7)
          have hkz : k ≠ 0 := fun e => HK0.out e hts
          have HKZ := Lib.hid hkz
          clear hcd hout hts hkz hc34 HSPL H9
          go_wp2_with fail
          refine (catom_none pb (.pointer none) true (bs (c :: t)) _ HPWq.out.ps (by rw [bs_list]; exact HGC.out.valid) (tabs_b HT.out HPWq.out.fr HGP.out.1 HGP.out.2.1) (by rw [bs_list]; intro d r e; cases e; exact HCD.out)).mono ?_
          rintro r w5 ⟨⟨v5, rfl⟩, hb5⟩
          have HPZ0 := Lib.hid (HPWq.out.step hpb (HPWq.out.ps.below hb5) ((Fr.of_below hb5).mono (fun q hq => hq.2)))
          clear hb5 HPWq
          by_cases hs0 : sbl = []
          · have z0 : ¬ (0 : Int) < (sbl.length : Int) := by rw [hs0]; decide
            have HPZ := Lib.hid HPZ0.out
            have HNL := Lib.hid (show ls ≠ [] from fun e => HKZ.out (HPH.out.zero.2 ⟨e, hs0⟩))
            have HS0 := Lib.hid hs0
            clear HPZ0 hs0
            go_wp2_with fail
            rw [HSB.out.symm]
            refine (bLen_any _ _ _ _ HPZ.out.bld).mono ?_
            rintro x w5 ⟨rfl, rfl⟩
            have HJ := Lib.hid (show Lib.join (ls) [32] = nm by rw [← HOUT.out, HPH.out.out]; unfold phJ; rw [if_pos HS0.out, List.append_nil])
            have zl : ((ls.length : Int) == 0) = false := by rw [beq_eq_false_iff_ne]; have := List.length_pos_iff.2 HNL.out; omega
            have hown := HPZ.out.own
            obtain ⟨g, cap, hgq⟩ : ∃ g cap, Value.slice qa ls.length qc = .slice (some ⟨g, 0, none⟩) (ls).length cap := by
              rcases hown.2 with ⟨_, h0⟩ | ⟨g, cap, cur, hv, _⟩
              · exact absurd (List.eq_nil_of_length_eq_zero h0) HNL.out
              · exact ⟨g, cap, hv⟩
            rw [hgq] at hown ⊢
            have hjl : (Lib.join (ls) [32]).length ≤ 140737488355328 := by rw [HJ.out]; exact Nat.le_trans hnml (by decide)
            clear hgq
            go_wp2_with fail
            refine (join_call w.heap.size (ls) g _ cap _ rfl hown (by omega) hjl).mono ?_
            rintro x w8 ⟨rfl, hb8⟩
            have HP8 := Lib.hid (HPZ.out.ps.below hb8)
            have HF8 := Lib.hid (HPZ.out.fr.trans ((Fr.of_below hb8).mono (fun q hq => Nat.lt_of_lt_of_le hq.2 HPZ.out.fr.size)))
            rw [HJ.out]
            clear hb8 hown hjl
            go_wp2
            go_ret2
            exact ⟨rfl, ⟨c :: t, b', HP8.out, nosp_drop HNSP.out, HFIN.out, HGC.out, by omega⟩, HF8.out⟩
          · have z0 : (0 : Int) < (sbl.length : Int) := by have := List.length_pos_iff.2 hs0; omega
            have HS0 := Lib.hid hs0
            clear hs0
            go_wp2_with fail
            rw [HSB.out.symm]
            refine (bLen_any _ _ _ _ HPZ0.out.bld).mono ?_
            rintro x w5 ⟨rfl, rfl⟩
            go_wp2_with fail
            rw [HSB.out.symm]
            refine (String_any _ _ _ _ HPZ0.out.bld).mono ?_
            rintro x w6 ⟨rfl, hbx, hf6⟩
            have HST := Lib.hid (HPZ0.out.read hpb hbx hf6)
            clear hbx hf6 HPZ0
            go_wp2_with (at_builtin; refine wpList_push_str rfl _ _ rfl w.heap.size ls _ ⟨sbl.toArray⟩ _ HST.out.own HST.out.fr.size ?c4 rfl rfl ?_)
            case c4 => omega
            intro v' w7 hown7 hg7 hat7
            replace hown7 : OwnS w.heap.size (ls ++ [sbl]) v' w7 := by first | exact hown7 | (rw [HSB.out]; exact hown7)
            obtain ⟨qa7, qc7, hv7⟩ := hown7.form
            obtain ⟨n7, hn7⟩ : ∃ n, (ls ++ [sbl]).length = n := ⟨_, rfl⟩
            rw [hn7] at hv7
            have HN7 := Lib.hid hn7
            clear hn7
            have HST7 := Lib.hid (HST.out.push hpb hown7 hg7 hat7)
            subst hv7
            clear hown7 hg7 hat7
            have HPZ := HST7
            have HNL := Lib.hid (show ls ++ [sbl] ≠ [] by simp)
            have HJ := Lib.hid (show Lib.join (ls ++ [sbl]) [32] = nm by rw [← HOUT.out, HPH.out.out]; unfold phJ; rw [if_neg HS0.out])
            have zl : ((n7 : Int) == 0) = false := by rw [beq_eq_false_iff_ne, ← HN7.out, List.length_append]; simp; omega
            have hown := HPZ.out.own
            obtain ⟨g, cap, hgq⟩ : ∃ g cap, Value.slice qa7 n7 qc7 = .slice (some ⟨g, 0, none⟩) n7 cap := by
              rcases hown.2 with ⟨_, h0⟩ | ⟨g, cap, cur, hv, _⟩
              · exact absurd (List.eq_nil_of_length_eq_zero h0) HNL.out
              · exact ⟨g, cap, by rw [hv, HN7.out]⟩
            rw [hgq] at hown ⊢
            have hjl : (Lib.join (ls ++ [sbl]) [32]).length ≤ 140737488355328 := by rw [HJ.out]; exact Nat.le_trans hnml (by decide)
            clear hgq
            go_wp2_with fail
            refine (join_call w.heap.size (ls ++ [sbl]) g n7 cap _ HN7.out hown (by rw [List.length_append, List.length_singleton]; omega) hjl).mono ?_
            rintro x w8 ⟨rfl, hb8⟩
            have HP8 := Lib.hid (HPZ.out.ps.below hb8)
            have HF8 := Lib.hid (HPZ.out.fr.trans ((Fr.of_below hb8).mono (fun q hq => Nat.lt_of_lt_of_le hq.2 HPZ.out.fr.size)))
            rw [HJ.out]
            clear hb8 hown hjl
            go_wp2
            go_ret2
            exact ⟨rfl, ⟨c :: t, b', HP8.out, nosp_drop HNSP.out, HFIN.out, HGC.out, by omega⟩, HF8.out⟩
        · have HTK3 := Lib.hid htk3; have HG3 := Lib.hid hg3; have HW3 := Lib.hid hw3; have HN3 := Lib.hid hn3; have HXNE := Lib.hid hxne; have HCASE := Lib.hid hcase
          clear htk3 hg3 hw3 hn3 hxne hcase HSPL H9 HK0 hts
          go_upto_if 21 with fail
          go_cut [3, 6, 7] from 21 to 40 (fun r3 r6 r7 wx => r3 = .nilIface ∧ r6 = .string (bs x) ∧ r7 = .bool co ∧ PW pb w (bs R3) ls (.slice qa ls.length qc) sbl wx)
          case first =>
            rcases HCASE.out with ⟨hc34, hco, n, hq, hR3, _⟩ | ⟨hc34, a, ha0, _, hta, hda, hco⟩
            · have t6 : ((c.toNat : Int) == 34) = true := ceq hc34
              have HQ := Lib.hid hq; have HCO := Lib.hid hco; have HR3 := Lib.hid hR3; have HC34 := Lib.hid hc34
              clear hq hco hR3 hc34
              go_wp2_with fail
              refine (cquoted_yes pb (.pointer none) (bs (c :: t)) t x n _ HPWq.out.ps (by rw [bs_size]; omega) (by rw [bs_list]; exact HGC.out.valid) (tabs_b HT.out HPWq.out.fr HGP.out.1 HGP.out.2.1) (by rw [bs_list, HC34.out]) HQ.out (fun d hd => HGC.out.ctl d (List.mem_cons_of_mem _ hd))).mono ?_
              rintro r w5 ⟨rfl, hp, hf⟩
              have HPW5 := Lib.hid (HPWq.out.step hpb hp hf)
              rw [← HR3.out] at HPW5
              clear hp hf
              go_wp2
              go_meet
              exact ⟨rfl, rfl, by rw [HCO.out], HPW5.out⟩
            · have t6 : ((c.toNat : Int) == 34) = false := cneq hc34
              have HTA := Lib.hid hta; have HCO := Lib.hid hco; have HDA := Lib.hid hda; have HA0 := Lib.hid ha0
              clear hta hco hda ha0 hc34
              go_wp2_with fail
              refine (catom_yes pb (.pointer none) (bs (c :: t)) _ HPWq.out.ps (by rw [bs_size]; omega) (by rw [bs_list]; exact HGC.out.valid) (tabs_b HT.out HPWq.out.fr HGP.out.1 HGP.out.2.1) (by rw [bs_list, HTA.out]; exact HA0.out)).mono ?_
              rw [bs_list, HTA.out, HDA.out]
              rintro r w5 ⟨rfl, hp, hf⟩
              have HPW5 := Lib.hid (HPWq.out.step hpb hp hf)
              clear hp hf
              go_wp2_with fail
              rcases HCO.out with ⟨rfl, rfl, hpre⟩ | ⟨rfl, hdec⟩
              · refine (dword_no pb (bs R3) (bs x) et ev _ HPW5.out.ps (by rw [bs_list]; exact hpre) (by rw [HPW5.out.fr.cell ⟨HGP.out.2.2.symm, cell_lt HE.out⟩]; exact HE.out)).mono ?_
                rintro r w6 ⟨rfl, hb6⟩
                have HPW6 := Lib.hid (HPW5.out.step hpb (HPW5.out.ps.below hb6) ((Fr.of_below hb6).mono (fun q hq => hq.2)))
                clear hb6 hpre
                go_wp2
                go_meet
                exact ⟨rfl, rfl, rfl, HPW6.out⟩
              · refine (dword_yes pb (bs R3) (bs a) x _ HPW5.out.ps (by rw [bs_list]; exact hdec)).mono ?_
                rintro r w6 ⟨rfl, hb6⟩
                have HPW6 := Lib.hid (HPW5.out.step hpb (HPW5.out.ps.below hb6) ((Fr.of_below hb6).mono (fun q hq => hq.2)))
                clear hb6 hdec
                go_wp2
                go_meet
                exact ⟨rfl, rfl, rfl, HPW6.out⟩
          case rest =>
            obtain ⟨rfl, rfl, rfl, hpw⟩ := hcut
            have HPW := Lib.hid hpw
            clear hpw HPWq HCASE
            have hkl := HPR.out.kl
            have hsbn := HPR.out.sbn
            have hlsl := HPR.out.lsl
            cases hco : co with
            | true =>
              have HPS := Lib.hid (HPH.out.code (HXNE.out hco))
              have HCO := Lib.hid hco
              clear hco
              go_wp2_with fail
              rw [HSB.out.symm]
              refine (WriteString_any _ _ _ (bs x) _ HPW.out.bld (by rw [bs_size]; omega)).mono ?_
              rw [bs_list]
              rintro r w6 ⟨rfl, hb, hf⟩
              have HPZ := Lib.hid (HPW.out.wrote hpb hb hf)
              clear hb hf
              rw [HSB.out]
              go_wp2
              go_roundw
              case rel => exact ⟨rfl, rfl, R3, k + 1, ls, _, qa, qc, rfl, ⟨HPZ.out, HG3.out, ⟨false, ts', co, _, HTK3.out, HW3.out, HN3.out, by rw [HCO.out]; exact HPS.out, fun e => by omega⟩, by split at hlsl <;> split <;> omega, by rw [List.length_append]; omega, by omega⟩, by omega⟩
              case measure => rw [HPZ.out.ps.strOf, HPR.out.pw.ps.strOf, bs_size, bs_size]; omega
            | false =>
              have HPS := Lib.hid (HPH.out.word (x := x))
              have HCO := Lib.hid hco
              clear hco
              by_cases hs0 : sbl = []
              · have z0 : ¬ (0 : Int) < (sbl.length : Int) := by rw [hs0]; decide
                have HS0 := Lib.hid hs0
                clear hs0
                go_wp2_with fail
                rw [HSB.out.symm]
                refine (bLen_any _ _ _ _ HPW.out.bld).mono ?_
                rintro r w6 ⟨rfl, rfl⟩
                rw [HSB.out]
                go_wp2_with (at_builtin; refine wpList_push_str rfl _ _ rfl w.heap.size ls _ (bs x) _ HPW.out.own HPW.out.fr.size ?c4 rfl rfl ?_)
                case c4 => omega
                rw [bs_list]
                intro v' w7 hown7 hg7 hat7
                replace hown7 : OwnS w.heap.size (ls ++ [x]) v' w7 := by first | exact hown7 | (rw [HSB.out]; exact hown7)
                obtain ⟨qa7, qc7, hv7⟩ := hown7.form
                obtain ⟨n7, hn7⟩ : ∃ n, (ls ++ [x]).length = n := ⟨_, rfl⟩
                rw [hn7] at hv7
                have HN7 := Lib.hid hn7
                clear hn7
                have HPZ := Lib.hid (HPW.out.push hpb hown7 hg7 hat7)
                subst hv7
                clear hown7 hg7 hat7
                go_wp2
                go_roundw
                case rel => exact ⟨rfl, rfl, R3, k + 1, _, _, qa7, qc7, by rw [HN7.out], ⟨HPZ.out, HG3.out, ⟨false, ts', co, _, HTK3.out, HW3.out, HN3.out, by have := HPS.out; rw [if_pos HS0.out, List.append_nil] at this; rw [HCO.out, HS0.out]; exact this, fun e => by omega⟩, by rw [HS0.out, if_pos rfl] at hlsl ⊢; rw [List.length_append, List.length_singleton]; omega, by rw [HS0.out]; simp; simp at hlt3; omega, by omega⟩, by omega⟩
                case measure => rw [HPZ.out.ps.strOf, HPR.out.pw.ps.strOf, bs_size, bs_size]; omega
              · have z0 : (0 : Int) < (sbl.length : Int) := by have := List.length_pos_iff.2 hs0; omega
                have HS0 := Lib.hid hs0
                clear hs0
                go_wp2_with fail
                rw [HSB.out.symm]
                refine (bLen_any _ _ _ _ HPW.out.bld).mono ?_
                rintro r w6 ⟨rfl, rfl⟩
                go_wp2_with fail
                rw [HSB.out.symm]
                refine (String_any _ _ _ _ HPW.out.bld).mono ?_
                rintro r w8 ⟨rfl, hbx, hf8⟩
                have HST := Lib.hid (HPW.out.read hpb hbx hf8)
                clear hbx hf8
                go_wp2_with (at_builtin; refine wpList_push_str rfl _ _ rfl w.heap.size ls _ ⟨sbl.toArray⟩ _ HST.out.own HST.out.fr.size ?c4 rfl rfl ?_)
                case c4 => omega
                intro v' w7 hown7 hg7 hat7
                replace hown7 : OwnS w.heap.size (ls ++ [sbl]) v' w7 := by first | exact hown7 | (rw [HSB.out]; exact hown7)
                obtain ⟨qa7, qc7, hv7⟩ := hown7.form
                obtain ⟨n7, hn7⟩ : ∃ n, (ls ++ [sbl]).length = n := ⟨_, rfl⟩
                rw [hn7] at hv7
                have HN7 := Lib.hid hn7
                clear hn7
                have HST7 := Lib.hid (HST.out.push hpb hown7 hg7 hat7)
                subst hv7
                clear hown7 hg7 hat7
                go_wp2_with fail
                rw [HSB.out.symm]
                refine (bReset_any _ _ _ HST7.out.bld).mono ?_
                rintro r w9 ⟨rfl, hb9, hf9⟩
                have HPW9 := Lib.hid (HST7.out.wrote hpb hb9 hf9)
                clear hb9 hf9
                rw [HSB.out]
                go_wp2_with (at_builtin; refine wpList_push_str rfl _ _ rfl w.heap.size (ls ++ [sbl]) _ (bs x) _ HPW9.out.own HPW9.out.fr.size ?c4 rfl rfl ?_)
                case c4 => rw [List.length_append, List.length_singleton]; omega
                rw [bs_list]
                intro v' wa howna hga hata
                replace howna : OwnS w.heap.size ((ls ++ [sbl]) ++ [x]) v' wa := by first | exact howna | (rw [HSB.out]; exact howna) | (rw [HSB.out, List.append_assoc]; exact howna)
                obtain ⟨qaa, qca, hva⟩ := howna.form
                obtain ⟨na, hna⟩ : ∃ n, (ls ++ [sbl] ++ [x]).length = n := ⟨_, rfl⟩
                rw [hna] at hva
                have HNA := Lib.hid hna
                clear hna
                have HPZ := Lib.hid (HPW9.out.push hpb howna hga hata)
                subst hva
                clear howna hga hata
                go_wp2
                go_roundw
                case rel => exact ⟨rfl, rfl, R3, k + 1, _, _, qaa, qca, by rw [HNA.out], ⟨HPZ.out, HG3.out, ⟨false, ts', co, _, HTK3.out, HW3.out, HN3.out, by have := HPS.out; rw [if_neg HS0.out] at this; rw [HCO.out]; exact this, fun e => by omega⟩, by rw [if_neg HS0.out] at hlsl; rw [if_pos rfl, List.length_append, List.length_append, List.length_singleton, List.length_singleton]; omega, by simp; simp at hlt3; omega, by omega⟩, by omega⟩
                case measure => rw [HPZ.out.ps.strOf, HPR.out.pw.ps.strOf, bs_size, bs_size]; omega
end Go.Proofs.YtpoglombagmhmaaGreatDoor
