/- Plain Lean: texts that are each one address, with signs between them: the tokens, and what each is to the parser. -/
import Derived.Test.YtpoglombagmhmaaGreatDoorRQ
namespace Go.Proofs.YtpoglombagmhmaaGreatDoor
open Go

theorem tw_stop {p : UInt8 → Bool} {c : UInt8} {r : List UInt8} (hc : p c = false) : ∀ t : List UInt8, (t ++ c :: r).takeWhile p = t.takeWhile p ∧ (t ++ c :: r).dropWhile p = t.dropWhile p ++ c :: r
  | [] => ⟨by rw [List.nil_append, List.takeWhile_cons_of_neg (by rw [hc]; simp)]; rfl, by rw [List.nil_append, List.dropWhile_cons_of_neg (by rw [hc]; simp)]; rfl⟩
  | d :: t => by
    obtain ⟨h1, h2⟩ := tw_stop hc t
    cases hd : p d with
    | true => rw [List.cons_append, List.takeWhile_cons_of_pos hd, List.takeWhile_cons_of_pos hd, List.dropWhile_cons_of_pos hd, List.dropWhile_cons_of_pos hd, h1, h2]; exact ⟨rfl, rfl⟩
    | false => rw [List.cons_append, List.takeWhile_cons_of_neg (by rw [hd]; simp), List.takeWhile_cons_of_neg (by rw [hd]; simp), List.dropWhile_cons_of_neg (by rw [hd]; simp), List.dropWhile_cons_of_neg (by rw [hd]; simp)]; exact ⟨rfl, rfl⟩
theorem quotedL_app (r : List UInt8) : ∀ (n : Nat) (t x : List UInt8) (k : Nat), t.length ≤ n → quotedL t = some (x, k) → quotedL (t ++ r) = some (x, k)
  | _, [], x, k, _, h => by rw [quotedL] at h; cases h
  | _, [c], x, k, _, h => by
    rw [quotedL] at h
    split at h
    · rename_i hc
      cases r with
      | nil => rw [List.append_nil, quotedL, if_pos hc]; exact h
      | cons d r => rw [List.singleton_append, quotedL, if_pos hc]; exact h
    · cases h
  | 0, _ :: _ :: _, _, _, hn, _ => by simp at hn
  | n + 1, c :: d :: t, x, k, hn, h => by
    rw [quotedL] at h
    rw [List.cons_append, List.cons_append, quotedL]
    split at h
    · rename_i hc; rw [if_pos hc]; exact h
    · rename_i hc
      rw [if_neg hc]
      split at h
      · rename_i h92
        rw [if_pos h92]
        cases hq : quotedL t with
        | none => rw [hq] at h; cases h
        | some q => rw [quotedL_app r n t q.1 q.2 (by simp at hn; omega) hq]; rw [hq] at h; exact h
      · rename_i h92
        rw [if_neg h92]
        cases hq : quotedL (d :: t) with
        | none => rw [hq] at h; cases h
        | some q =>
          have := quotedL_app r n (d :: t) q.1 q.2 (by simp at hn ⊢; omega) hq
          rw [List.cons_append] at this
          rw [this]; rw [hq] at h; exact h
/-- A sign between texts. -/
def SignB (c : UInt8) : Prop := isSp c = false ∧ atomB c = false ∧ c ≠ 34 ∧ c ≠ 92 ∧ isOpen c = false
theorem TR.cons_app (t : Tok) (ts : List Tok) (r : TR) : TR.cons t (TR.app ts r) = TR.app (t :: ts) r := by cases r <;> rfl
theorem TR.cons_good {t : Tok} {r : TR} {ts : List Tok} {l : Bool} (h : TR.cons t r = .good ts l) : ∃ ts', r = .good ts' l ∧ ts = t :: ts' := by
  cases r with
  | good us k => injection h with h1 h2; exact ⟨us, by rw [h2], h1.symm⟩
  | bad => cases h
  | open_ => cases h
theorem toks_sep {c : UInt8} (r : List UInt8) (hc : SignB c) : ∀ (n : Nat) (s : List UInt8) (b l : Bool) (ts : List Tok), s.length ≤ n → toksL b s = .good ts l → toksL b (s ++ c :: r) = TR.app ts (toksL l (c :: r))
  | _, [], b, l, ts, _, h => by
    rw [tk_nil] at h
    injection h with h1 h2
    subst h1 h2
    rw [List.nil_append, TR.app_nil]
  | 0, _ :: _, _, _, _, hn, _ => by simp at hn
  | n + 1, d :: t, b, l, ts, hn, h => by
    have hn' : t.length ≤ n := by simp at hn; omega
    rw [toksL] at h
    rw [List.cons_append, toksL]
    split at h
    · rename_i h1
      rw [if_pos h1]
      exact toks_sep r hc n t true l ts hn' h
    · rename_i h1
      rw [if_neg h1]
      split at h
      · rename_i h2
        rw [if_pos h2]
        obtain ⟨ts', h3, rfl⟩ := TR.cons_good h
        obtain ⟨e1, e2⟩ := tw_stop (r := r) hc.2.1 t
        have hl : (t.dropWhile atomB).length ≤ n := Nat.le_trans (List.dropWhile_sublist _).length_le hn'
        rw [e1, e2, toks_sep r hc n _ false l ts' hl h3, TR.cons_app]
      · rename_i h2
        rw [if_neg h2]
        split at h
        · rename_i h3
          rw [if_pos h3]
          cases hq : quotedL t with
          | none => rw [hq] at h; cases h
          | some q =>
            rw [hq] at h
            obtain ⟨ts', h4, rfl⟩ := TR.cons_good h
            have hk := quotedL_len _ t q.1 q.2 (Nat.le_refl _) hq
            rw [quotedL_app (c :: r) _ t q.1 q.2 (Nat.le_refl _) hq]
            show TR.cons _ (toksL false ((t ++ c :: r).drop q.2)) = _
            rw [List.drop_append_of_le_length (by omega), toks_sep r hc n _ false l ts' (by rw [List.length_drop]; omega) h4, TR.cons_app]
        · rename_i h3
          rw [if_neg h3]
          split at h
          · cases h
          · rename_i h4
            rw [if_neg h4]
            split at h
            · cases h
            · rename_i h5
              rw [if_neg h5]
              obtain ⟨ts', h6, rfl⟩ := TR.cons_good h
              rw [toks_sep r hc n t false l ts' hn' h6, TR.cons_app]
theorem toks_join {c : UInt8} {s r : List UInt8} {b l l2 : Bool} {ts us : List Tok} (hc : SignB c) (h : toksL b s = .good ts l) (hr : toksL false r = .good us l2) : toksL b (s ++ c :: r) = .good (ts ++ ⟨c, [], l⟩ :: us) l2 := by
  rw [toks_sep r hc _ s b l ts (Nat.le_refl _) h, tk_sign l c r hc.1 hc.2.1 hc.2.2.1 hc.2.2.2.1 hc.2.2.2.2, hr]
  rfl
theorem domainG_app (Z : List Tok) : ∀ (n : Nat) (Y rest : List Tok) (ok o : Bool) (out dm : List UInt8), Y.length ≤ n → domainG Y ok out = (rest, o, dm, true) → (rest = [] → ∀ z r, Z = z :: r → z.kind ≠ 46) → domainG (Y ++ Z) ok out = (rest ++ Z, o, dm, true)
  | _, [], rest, ok, o, out, dm, _, h, _ => by rw [domainG] at h; injection h with _ h; injection h with _ h; injection h with _ h; cases h
  | _, [t], rest, ok, o, out, dm, _, h, hZ => by
    rw [domainG] at h
    split at h
    · rename_i ht
      injection h with h1 h
      injection h with h2 h
      injection h with h3 _
      subst h1 h2 h3
      cases Z with
      | nil => rw [List.append_nil, domainG, if_pos ht]; rfl
      | cons z r => rw [List.singleton_append, domainG, if_pos ht, if_neg (hZ rfl z r rfl)]; rfl
    · injection h with _ h; injection h with _ h; injection h with _ h; cases h
  | 0, _ :: _ :: _, _, _, _, _, _, hn, _, _ => by simp at hn
  | n + 1, t :: d :: r, rest, ok, o, out, dm, hn, h, hZ => by
    rw [domainG] at h
    rw [List.cons_append, List.cons_append, domainG]
    split at h
    · rename_i ht
      rw [if_pos ht]
      split at h
      · rename_i hd
        rw [if_pos hd]
        exact domainG_app Z n r rest _ o _ dm (by simp at hn; omega) h hZ
      · rename_i hd
        rw [if_neg hd]
        injection h with h1 h
        injection h with h2 h
        injection h with h3 _
        subst h1 h2 h3
        rfl
    · injection h with _ h; injection h with _ h; injection h with _ h; cases h
theorem toks_flag {c : UInt8} {t : List UInt8} {b l : Bool} {u : Tok} {ts : List Tok} (hc : isSp c = false) (h : toksL b (c :: t) = .good (u :: ts) l) : toksL false (c :: t) = .good (⟨u.kind, u.text, false⟩ :: ts) l := by
  rw [toksL, if_neg (by rw [hc]; simp)] at h ⊢
  split at h
  · rename_i h2
    rw [if_pos h2]
    obtain ⟨ts', h3, e⟩ := TR.cons_good h
    injection e with e1 e2
    subst e1 e2
    rw [h3]; rfl
  · rename_i h2
    rw [if_neg h2]
    split at h
    · rename_i h3
      rw [if_pos h3]
      cases hq : quotedL t with
      | none => rw [hq] at h; cases h
      | some q =>
        rw [hq] at h
        obtain ⟨ts', h4, e⟩ := TR.cons_good h
        injection e with e1 e2
        subst e1 e2
        show TR.cons _ (toksL false (t.drop q.2)) = _
        rw [h4]; rfl
    · rename_i h3
      rw [if_neg h3]
      split at h
      · cases h
      · rename_i h4
        rw [if_neg h4]
        split at h
        · cases h
        · rename_i h5
          rw [if_neg h5]
          obtain ⟨ts', h6, e⟩ := TR.cons_good h
          injection e with e1 e2
          subst e1 e2
          rw [h6]; rfl
theorem dw_drop {p : Tok → Bool} : ∀ l : List Tok, l.dropWhile p = l.drop (l.takeWhile p).length
  | [] => rfl
  | c :: t => by
    cases hc : p c with
    | true => rw [List.dropWhile_cons_of_pos hc, List.takeWhile_cons_of_pos hc, List.length_cons, List.drop_succ_cons]; exact dw_drop t
    | false => rw [List.dropWhile_cons_of_neg (by rw [hc]; simp), List.takeWhile_cons_of_neg (by rw [hc]; simp)]; rfl
theorem words_split (ts : List Tok) (n : Nat) : ts.drop n = (ts.drop n).takeWhile wordK ++ ts.drop (n + wordsN ts n) := by
  unfold wordsN
  rw [← List.drop_drop, ← dw_drop, List.takeWhile_append_dropWhile]
theorem isH_split {k : UInt8} {ts : List Tok} {n : Nat} (h : isH k (ts.drop n) = true) : ∃ t : Tok, t.kind = k ∧ ts.drop n = t :: ts.drop (n + 1) := by
  cases hd : ts.drop n with
  | nil => rw [hd] at h; cases h
  | cons t r =>
    rw [hd] at h
    refine ⟨t, by simpa [isH] using h, ?_⟩
    rw [← List.drop_drop, hd]; rfl
/-- What stands behind an address in a list. -/
def SepZ (Z : List Tok) : Prop := ∀ z r, Z = z :: r → z.kind = 44 ∨ z.kind = 59
theorem SepZ.ne {Z : List Tok} (h : SepZ Z) : ∀ z r, Z = z :: r → z.kind ≠ 46 := by
  intro z r e he
  rcases h z r e with h | h <;> (rw [he] at h; exact absurd h (by decide))
theorem sep_stop {R : List UInt8} {Z : List Tok} {l : Bool} (hZ : SepZ Z) (h : toksL false R = .good Z l) : ∀ c t, R = c :: t → atomD c = false := by
  rintro c t rfl
  cases hs : isSp c with
  | true =>
    unfold isSp at hs
    rw [Bool.or_eq_true, beq_iff_eq, beq_iff_eq] at hs
    rcases hs with rfl | rfl <;> decide
  | false =>
    rcases ph_head hs h with ⟨_, ts', e, _⟩ | ⟨_, x, n, ts', _, e, _⟩ | ⟨_, _, _, _, ts', e, _⟩
    · rcases hZ _ _ e with h | h <;> exact absurd (show (97 : UInt8) = _ from h) (by decide)
    · rcases hZ _ _ e with h | h <;> exact absurd (show (113 : UInt8) = _ from h) (by decide)
    · rcases hZ _ _ e with h | h
      · rw [show c = 44 from h]; decide
      · rw [show c = 59 from h]; decide
theorem addrT_of {ts Z : List Tok} {l b : Bool} {nm ad R : List UInt8} (h : AddrOk ts 0 true nm ad ts.length) (hR : toksL b R = .good (ts ++ Z) l) (hZ : SepZ Z) : AddrT Z l (R.dropWhile isSp) nm ad := by
  rcases h with ⟨us, vs, n1, n2, m', ok2, ok3, ok7, lc, dm, hus, hn1, h60, h64, hnm, hvs, hn2, hlc, h642, hdm, h62, hok, hm, had⟩ | ⟨us, n1, ok3, ok7, lc, dm, hus, hn1, h64, hlc, hdm, hok7, hnm, had⟩
  · refine AddrT.skip ?_
    obtain ⟨t60, hk60, e60⟩ := isH_split h60
    obtain ⟨t64, hk64, e64⟩ := isH_split h642
    obtain ⟨t62, hk62, e62⟩ := isH_split h62
    have e0 : ts = us ++ ts.drop n1 := by
      have := words_split ts 0
      rw [hn1, hus] at this
      rwa [List.drop_zero] at this
    have e1 : ts.drop (n1 + 1) = vs ++ ts.drop n2 := by
      have := words_split ts (n1 + 1)
      rwa [hn2, hvs] at this
    have e2 : ts.drop (m' + 1) = [] := List.drop_of_length_le (by omega)
    rw [Bool.and_eq_true] at hok
    obtain ⟨o7, o62⟩ := hok
    subst o7
    have s62 : t62.space = false := by rw [e62] at o62; simpa [spaceH] using o62
    have o4 := (domainG_ok _ _ _ [] (Nat.le_refl _)).1 (by rw [hdm])
    rw [Bool.and_eq_true] at o4
    obtain ⟨o3, o64⟩ := o4
    subst o3
    have s64 : t64.space = false := by rw [e64] at o64; simpa [spaceH] using o64
    have o2 := localG_ok _ _ _ [] (by rw [hlc])
    rw [Bool.and_eq_true] at o2
    obtain ⟨o2, ovs⟩ := o2
    subst o2
    have hvne : vs ≠ [] := by
      rintro rfl
      rw [localG] at hlc
      injection hlc with _ h
      injection h with _ h
      cases h
    have svs : spaceH vs = false := by
      rw [e1] at ovs
      cases vs with
      | nil => exact absurd rfl hvne
      | cons v r => simpa [spaceH] using ovs
    have hvs0 : spaceH (ts.drop (n1 + 1)) = false := by simpa using ovs
    have h640 : spaceH (ts.drop n2) = false := by rw [e64]; exact s64
    rw [hvs0] at hlc
    rw [h640] at hdm
    have hwu : ∀ t ∈ us, wordK t = true := by rw [← hus]; exact fun t ht => List.all_eq_true.1 List.all_takeWhile t ht
    have hwv : ∀ t ∈ vs, wordK t = true := by rw [← hvs]; exact fun t ht => List.all_eq_true.1 List.all_takeWhile t ht
    have hdm2 := domainG_app Z _ _ _ _ _ _ _ (Nat.le_refl _) hdm (fun e => by rw [e62] at e; cases e)
    rw [e62, e2] at hdm2
    obtain ⟨k60, x60, sp60⟩ := t60
    obtain ⟨k64, x64, sp64⟩ := t64
    obtain ⟨k62, x62, sp62⟩ := t62
    simp only at hk60 hk64 hk62 s62 s64
    subst hk60 hk64 hk62 s62 s64
    have hts : ts ++ Z = us ++ ⟨60, x60, sp60⟩ :: (vs ++ ⟨64, x64, false⟩ :: (ts.drop (n2 + 1) ++ Z)) := by
      conv => lhs; rw [e0, e60, e1, e64]
      simp
    rw [hts] at hR
    refine .angle b sp60 x60 us _ hR hwu hnm (fun T hT => ?_)
    have := angle_hX hwv hlc svs hdm2 T hT
    rw [had]
    simpa using this
  · obtain ⟨t64, hk64, e64⟩ := isH_split h64
    have e0 : ts = us ++ ts.drop n1 := by
      have := words_split ts 0
      rw [hn1, hus] at this
      rwa [List.drop_zero] at this
    have e2 : ts.drop ts.length = [] := List.drop_of_length_le (Nat.le_refl _)
    subst hok7
    have o3 := (domainG_ok _ _ _ [] (Nat.le_refl _)).1 (by rw [hdm])
    subst o3
    have o64 := localG_ok _ _ _ [] (by rw [hlc])
    rw [Bool.true_and] at o64
    have s64 : t64.space = false := by rw [e64] at o64; simpa [spaceH] using o64
    have h640 : spaceH (ts.drop n1) = false := by simpa using o64
    rw [h640] at hlc
    rw [e2] at hdm
    have hwu : ∀ t ∈ us, wordK t = true := by rw [← hus]; exact fun t ht => List.all_eq_true.1 List.all_takeWhile t ht
    have hdm2 := domainG_app Z _ _ _ _ _ _ _ (Nat.le_refl _) hdm (fun _ => hZ.ne)
    rw [List.nil_append] at hdm2
    obtain ⟨k64, x64, sp64⟩ := t64
    simp only at hk64 s64
    subst hk64 s64
    have hts : ts ++ Z = us ++ ⟨64, x64, false⟩ :: (ts.drop (n1 + 1) ++ Z) := by
      conv => lhs; rw [e0, e64]
      simp
    obtain ⟨b', hb', _⟩ := ph_skip R b
    rw [hb', hts] at hR
    cases us with
    | nil =>
      rw [localG] at hlc
      injection hlc with _ h
      injection h with _ h
      cases h
    | cons u us =>
      cases hR' : R.dropWhile isSp with
      | nil => rw [hR', tk_nil] at hR; cases hR
      | cons c t =>
        rw [hR'] at hR
        have hcs := ph_nosp hR'
        have hF := toks_flag hcs hR
        have hlc2 : localG (⟨u.kind, u.text, false⟩ :: us) 0 true [] = (true, lc, true) := by
          rw [localG] at hlc ⊢
          simpa using hlc
        obtain ⟨A, R2, hRA, hlcA, ht2, hA⟩ := local_text (⟨u.kind, u.text, false⟩ :: us) _ (c :: t) l 0 true [] lc hF (fun w hw => by
          rcases List.mem_cons.1 hw with e | hw
          · rw [e]; exact hwu u (List.mem_cons_self)
          · exact hwu w (List.mem_cons_of_mem _ hw)) hlc2 (fun _ => rfl)
        obtain ⟨c2, u2, rfl, hc2⟩ := toks_nosp ht2 rfl
        obtain ⟨u3, hu3, htu⟩ := toks_sign ht2 rfl
        rw [nosp_drop hc2] at hu3
        injection hu3 with q1 q2
        subst q1 q2
        obtain ⟨D, R4, hR4, hdmD, ht4, hD⟩ := dom_text _ _ _ _ l true [] dm (Nat.le_refl _) htu hdm2
        rw [List.nil_append] at hlcA hdmD
        rw [hRA, hR4]
        exact .alone A D R4 rfl hA hD (sep_stop hZ ht4) ht4 hnm (by rw [had, hlcA, hdmD]; simp)
/-- The tokens of addresses with commas between them. -/
inductive LT : List (List UInt8 × List UInt8) → List Tok → Prop
  | one (ts : List Tok) (nm ad : List UInt8) (h : AddrOk ts 0 true nm ad ts.length) : LT [(nm, ad)] ts
  | more (ts us : List Tok) (nm ad x : List UInt8) (sp : Bool) (r : List (List UInt8 × List UInt8)) (h : AddrOk ts 0 true nm ad ts.length) (hr : LT r us) : LT ((nm, ad) :: r) (ts ++ ⟨44, x, sp⟩ :: us)
theorem LT.snoc {r : List (List UInt8 × List UInt8)} {us : List Tok} (h : LT r us) {ts : List Tok} {nm ad x : List UInt8} {sp : Bool} (ht : AddrOk ts 0 true nm ad ts.length) : LT (r ++ [(nm, ad)]) (us ++ ⟨44, x, sp⟩ :: ts) := by
  induction h with
  | one us nm' ad' h' => exact .more us ts nm' ad' x sp _ h' (.one ts nm ad ht)
  | more us vs nm' ad' x' sp' r h' hr ih =>
    rw [List.append_assoc, List.cons_append, List.cons_append]
    exact .more us _ nm' ad' x' sp' _ h' ih
theorem addrOk_head {ts : List Tok} {nm ad : List UInt8} (h : AddrOk ts 0 true nm ad ts.length) : ∃ t r, ts = t :: r ∧ t.kind ≠ 44 ∧ t.kind ≠ 59 := by
  have hn : ∀ (n1 : Nat) (us : List Tok), (ts.drop 0).takeWhile wordK = us → 0 + wordsN ts 0 = n1 → ∀ k : UInt8, k ≠ 44 → k ≠ 59 → isH k (ts.drop n1) = true → ∃ t r, ts = t :: r ∧ t.kind ≠ 44 ∧ t.kind ≠ 59 := by
    intro n1 us hus hn1 k k1 k2 hk
    obtain ⟨t, htk, e⟩ := isH_split hk
    have e0 := words_split ts 0
    rw [hn1, hus, List.drop_zero] at e0
    cases us with
    | nil =>
      rw [List.nil_append, e] at e0
      exact ⟨t, _, e0, by rw [htk]; exact k1, by rw [htk]; exact k2⟩
    | cons u us =>
      have hw : wordK u = true := List.all_eq_true.1 (List.all_takeWhile (p := wordK) (l := ts.drop 0)) u (by rw [hus]; simp)
      refine ⟨u, _, e0, ?_, ?_⟩
      · intro e; unfold wordK at hw; rw [e] at hw; exact absurd hw (by decide)
      · intro e; unfold wordK at hw; rw [e] at hw; exact absurd hw (by decide)
  rcases h with ⟨us, vs, n1, n2, m', ok2, ok3, ok7, lc, dm, hus, hn1, h60, _⟩ | ⟨us, n1, ok3, ok7, lc, dm, hus, hn1, h64, _⟩
  · exact hn n1 us hus hn1 60 (by decide) (by decide) h60
  · exact hn n1 us hus hn1 64 (by decide) (by decide) h64
theorem LT.head {r : List (List UInt8 × List UInt8)} {us : List Tok} (h : LT r us) : ∃ t ts, us = t :: ts ∧ t.kind ≠ 44 ∧ t.kind ≠ 59 := by
  cases h with
  | one _ nm ad h => exact addrOk_head h
  | more ts us nm ad x sp r h hr =>
    obtain ⟨t, q, e, h1⟩ := addrOk_head h
    exact ⟨t, _, by rw [e]; rfl, h1⟩
/-- A text of such tokens begins neither with a comma nor with a semicolon, and has a sign. -/
theorem lt_start {r : List (List UInt8 × List UInt8)} {us Z : List Tok} {R : List UInt8} {b l : Bool} (h : LT r us) (ht : toksL b R = .good (us ++ Z) l) : (∃ c t, R.dropWhile isSp = c :: t) ∧ (∀ t, R.dropWhile isSp ≠ 44 :: t) ∧ (∀ t, R.dropWhile isSp ≠ 59 :: t) := by
  obtain ⟨t, ts, rfl, h44, h59⟩ := h.head
  obtain ⟨b', hb, _⟩ := ph_skip R b
  rw [hb, List.cons_append] at ht
  cases hR : R.dropWhile isSp with
  | nil => rw [hR, tk_nil] at ht; cases ht
  | cons c u =>
    rw [hR] at ht
    refine ⟨⟨c, u, rfl⟩, ?_, ?_⟩
    · intro v e
      injection e with e1 _
      subst e1
      rcases ph_head (by decide) ht with ⟨h1, _⟩ | ⟨h1, _⟩ | ⟨_, _, _, _, ts', e, _⟩
      · exact absurd h1 (by decide)
      · exact absurd h1 (by decide)
      · injection e with e1 _; exact h44 (by rw [e1])
    · intro v e
      injection e with e1 _
      subst e1
      rcases ph_head (by decide) ht with ⟨h1, _⟩ | ⟨h1, _⟩ | ⟨_, _, _, _, ts', e, _⟩
      · exact absurd h1 (by decide)
      · exact absurd h1 (by decide)
      · injection e with e1 _; exact h59 (by rw [e1])
theorem good_join {A R : List UInt8} {c : UInt8} (hc : c.toNat < 128) (hct : ctlB c = false) (hA : GoodS A) (hR : GoodS R) : GoodS (A ++ c :: R) := by
  refine ⟨valid_append _ _ _ (Nat.le_refl _) hA.valid (by rw [Lib.validD_cons c R hc]; exact hR.valid), fun d hd => ?_⟩
  rcases List.mem_append.1 hd with hd | hd
  · exact hA.ctl d hd
  · rcases List.mem_cons.1 hd with rfl | hd
    · exact hct
    · exact hR.ctl d hd
theorem tokens_good {s : List UInt8} {ts : List Tok} {l : Bool} (h : tokensL s = .good ts l) : toksL false s = .good ts l ∧ GoodS s := by
  unfold tokensL at h
  split at h
  · cases h
  · rename_i h1
    split at h
    · cases h
    · rename_i h2
      refine ⟨h, by simpa using h1, fun c hc => ?_⟩
      cases hx : ctlB c with
      | false => rfl
      | true => exact absurd (List.any_eq_true.2 ⟨c, hc, hx⟩) h2
/-- The texts joined so far. -/
structure JT (T : List UInt8) (aas : List (List UInt8 × List UInt8)) : Prop where
  good : GoodS T
  toks : ∃ us l, toksL false T = .good us l ∧ LT aas us
theorem JT.start {s nm ad : List UInt8} {ts : List Tok} {l : Bool} (h : tokensL s = .good ts l) (ha : AddrOk ts 0 true nm ad ts.length) : JT s [(nm, ad)] := by
  obtain ⟨h1, h2⟩ := tokens_good h
  exact ⟨h2, ts, l, h1, .one ts nm ad ha⟩
theorem JT.snoc {T s nm ad : List UInt8} {aas : List (List UInt8 × List UInt8)} {ts : List Tok} {l : Bool} (hT : JT T aas) (h : tokensL s = .good ts l) (ha : AddrOk ts 0 true nm ad ts.length) : JT (T ++ 44 :: s) (aas ++ [(nm, ad)]) := by
  obtain ⟨h1, h2⟩ := tokens_good h
  obtain ⟨us, l0, h3, h4⟩ := hT.toks
  refine ⟨good_join (by decide) (by decide) hT.good h2, _, _, toks_join ⟨by decide, by decide, by decide, by decide, by decide⟩ h3 h1, h4.snoc ha⟩
end Go.Proofs.YtpoglombagmhmaaGreatDoor
