/- Plain Lean: a text ahead of " <a@b>" that together are one address by the reference: its words are the name. -/
import Derived.Test.YtpoglombagmhmaaGreatDoorZ2
import Derived.Test.YtpoglombagmhmaaGreatDoorN5
import Derived.Test.YtpoglombagmhmaaGreatDoorN9
import Derived.Lib.Join
import Derived.Deep.Cut
namespace Go.Proofs.YtpoglombagmhmaaGreatDoor
open Go

def tailP : List UInt8 := [32, 60, 97, 64, 98, 62]
def tailA : List Tok := [⟨60, [], true⟩, ⟨97, [97], false⟩, ⟨64, [], false⟩, ⟨97, [98], false⟩, ⟨62, [], false⟩]
theorem toks_tail (b : Bool) : toksL b tailP = .good tailA false := by
  have h1 : toksL true [60, 97, 64, 98, 62] = .good tailA false := by
    rw [tk_sign true 60 _ (by decide) (by decide) (by decide) (by decide) (by decide)]
    rw [show ([97, 64, 98, 62] : List UInt8) = [97] ++ [64, 98, 62] from rfl, tk_atom false [97] _ (by simp) (by decide) (fun c t e => by cases e; decide)]
    rw [tk_sign false 64 _ (by decide) (by decide) (by decide) (by decide) (by decide)]
    rw [show ([98, 62] : List UInt8) = [98] ++ [62] from rfl, tk_atom false [98] _ (by simp) (by decide) (fun c t e => by cases e; decide)]
    rw [tk_sign false 62 _ (by decide) (by decide) (by decide) (by decide) (by decide), tk_nil]
    rfl
  unfold tailP
  rw [tk_sp, h1]
theorem quoted_none : ∀ (n : Nat) (U : List UInt8), U.length ≤ n → (∀ c ∈ U, c ≠ 34) → quotedL U = none
  | _, [], _, _ => by rw [quotedL]
  | _, [c], _, h => by rw [quotedL, if_neg (h c (by simp))]
  | 0, _ :: _ :: _, hn, _ => by simp at hn
  | n + 1, c :: d :: t, hn, h => by
    rw [quotedL, if_neg (h c (by simp)), quoted_none n t (by simp at hn; omega) (fun x hx => h x (by simp [hx])), quoted_none n (d :: t) (by simp at hn ⊢; omega) (fun x hx => h x (by simp at hx ⊢; exact .inr hx))]
    split <;> rfl
theorem quoted_tail : ∀ (n : Nat) (t : List UInt8), t.length ≤ n → quotedL (t ++ tailP) = quotedL t
  | _, [], _ => by rw [quotedL, List.nil_append]; exact quoted_none _ _ (Nat.le_refl _) (by decide)
  | _, [c], _ => by
    rw [show [c] ++ tailP = c :: 32 :: [60, 97, 64, 98, 62] from rfl, quotedL, quotedL, quoted_none 9 [60, 97, 64, 98, 62] (by decide) (by decide), quoted_none 9 (32 :: [60, 97, 64, 98, 62]) (by decide) (by decide)]
    split
    · rfl
    · split <;> rfl
  | 0, _ :: _ :: _, hn => by simp at hn
  | n + 1, c :: d :: t, hn => by
    rw [List.cons_append, List.cons_append, quotedL, quotedL, ← List.cons_append, quoted_tail n t (by simp at hn; omega), quoted_tail n (d :: t) (by simp at hn ⊢; omega)]
theorem while_tail (t : List UInt8) : (t ++ tailP).takeWhile atomB = t.takeWhile atomB ∧ (t ++ tailP).dropWhile atomB = t.dropWhile atomB ++ tailP := by
  induction t with
  | nil => exact ⟨rfl, rfl⟩
  | cons c t ih =>
    cases h : atomB c with
    | true => rw [List.cons_append, List.takeWhile_cons_of_pos h, List.takeWhile_cons_of_pos h, List.dropWhile_cons_of_pos h, List.dropWhile_cons_of_pos h, ih.1, ih.2]; exact ⟨rfl, rfl⟩
    | false =>
      have h' : ¬ atomB c = true := by rw [h]; simp
      rw [List.cons_append, List.takeWhile_cons_of_neg h', List.takeWhile_cons_of_neg h', List.dropWhile_cons_of_neg h', List.dropWhile_cons_of_neg h']; exact ⟨rfl, rfl⟩
theorem app_good : ∀ (n : Nat) (s : List UInt8) (b : Bool) (us : List Tok) (l' : Bool), s.length ≤ n → toksL b (s ++ tailP) = .good us l' → ∃ ts l, toksL b s = .good ts l ∧ us = ts ++ tailA
  | _, [], b, us, l', _, h => by
    rw [List.nil_append, toks_tail] at h
    cases h
    exact ⟨[], b, tk_nil b, rfl⟩
  | 0, _ :: _, _, _, _, hn, _ => by simp at hn
  | n + 1, c :: t, b, us, l', hn, h => by
    rw [List.cons_append] at h
    cases hs : isSp c with
    | true =>
      rw [toksL, if_pos hs] at h
      obtain ⟨ts, l, h1, h2⟩ := app_good n t true us l' (by simp at hn; omega) h
      exact ⟨ts, l, by rw [toksL, if_pos hs]; exact h1, h2⟩
    | false =>
      rcases ph_head hs h with ⟨ha, ts', rfl, h2⟩ | ⟨h34, x, k, ts', hq, rfl, h2⟩ | ⟨ha, h34, h92, ho, ts', rfl, h2⟩
      · rw [(while_tail t).2] at h2
        have hl : (t.dropWhile atomB).length ≤ t.length := (List.dropWhile_sublist _).length_le
        obtain ⟨ts, l, h3, h4⟩ := app_good n (t.dropWhile atomB) false ts' l' (by simp at hn; omega) h2
        refine ⟨⟨97, c :: t.takeWhile atomB, b⟩ :: ts, l, ?_, by rw [(while_tail t).1, h4]; rfl⟩
        rw [toksL, if_neg (by rw [hs]; simp), if_pos ha, h3]; rfl
      · rw [quoted_tail _ t (Nat.le_refl _)] at hq
        have hk := (quotedL_len _ t x k (Nat.le_refl _) hq).1
        rw [List.drop_append_of_le_length hk] at h2
        obtain ⟨ts, l, h3, h4⟩ := app_good n (t.drop k) false ts' l' (by simp at hn ⊢; omega) h2
        refine ⟨⟨113, x, b⟩ :: ts, l, ?_, by rw [h4]; rfl⟩
        subst h34
        rw [tk_quoted b t x k hq, h3]; rfl
      · obtain ⟨ts, l, h3, h4⟩ := app_good n t false ts' l' (by simp at hn; omega) h2
        exact ⟨⟨c, [], b⟩ :: ts, l, by rw [tk_sign b c t hs ha h34 h92 ho, h3]; rfl, by rw [h4]; rfl⟩

theorem domain_parts : ∀ (n : Nat) (us : List Tok) (ok : Bool) (out : List UInt8), us.length ≤ n → ∃ cs, us = cs ++ (domainG us ok out).1 ∧ ∀ t ∈ cs, t.kind = 97 ∨ t.kind = 46
  | _, [], _, _, _ => ⟨[], by simp [domainG], by simp⟩
  | _, [t], ok, out, _ => by
    rw [domainG]
    split
    · rename_i h; exact ⟨[t], by simp, fun u hu => by rw [List.mem_singleton.1 hu]; exact .inl h⟩
    · exact ⟨[], rfl, by simp⟩
  | 0, _ :: _ :: _, _, _, h => by simp at h
  | n + 1, t :: d :: r, ok, out, h => by
    rw [domainG]
    split
    · rename_i h97
      split
      · rename_i h46
        obtain ⟨cs, h1, h2⟩ := domain_parts n r (ok && !t.space && !d.space) (out ++ t.text ++ [46]) (by simp at h; omega)
        refine ⟨t :: d :: cs, by rw [List.cons_append, List.cons_append, ← h1], fun u hu => ?_⟩
        rcases List.mem_cons.1 hu with rfl | hu
        · exact .inl h97
        · rcases List.mem_cons.1 hu with rfl | hu
          · exact .inr h46
          · exact h2 u hu
      · exact ⟨[t], rfl, fun u hu => by rw [List.mem_singleton.1 hu]; exact .inl h97⟩
    · exact ⟨[], rfl, by simp⟩
theorem domain_at {T : List Tok} {k m : Nat} {ok : Bool} {r : Bool × List UInt8 × Bool} (h : domainG (T.drop k) ok [] = (T.drop m, r)) (hm : m ≤ T.length) {j : Nat} {t : Tok} (h1 : k ≤ j) (h2 : j < m) (hj : T[j]? = some t) : t.kind = 97 ∨ t.kind = 46 := by
  obtain ⟨cs, hc, hall⟩ := domain_parts _ (T.drop k) ok [] (Nat.le_refl _)
  rw [h] at hc
  have hlen := congrArg List.length hc
  simp only [List.length_append, List.length_drop] at hlen
  have hjl : j < T.length := (List.getElem?_eq_some_iff.1 hj).1
  have : cs[j - k]? = some t := by
    have h3 : (T.drop k)[j - k]? = some t := by rw [List.getElem?_drop, show k + (j - k) = j by omega]; exact hj
    rw [hc, List.getElem?_append_left (by omega)] at h3
    exact h3
  exact hall t (List.mem_of_getElem? this)
theorem words_at {T : List Tok} {k : Nat} {j : Nat} {t : Tok} (h1 : k ≤ j) (h2 : j < k + wordsN T k) (hj : T[j]? = some t) : wordK t = true := by
  unfold wordsN at h2
  have h3 : (T.drop k)[j - k]? = some t := by rw [List.getElem?_drop, show k + (j - k) = j by omega]; exact hj
  have h4 : ((T.drop k).takeWhile wordK)[j - k]? = some t := by
    rw [← List.takeWhile_append_dropWhile (p := wordK) (l := T.drop k), List.getElem?_append_left (by omega)] at h3
    exact h3
  exact List.all_eq_true.1 (List.all_takeWhile) t (List.mem_of_getElem? h4)
theorem isH_kind {k : UInt8} {T : List Tok} {n : Nat} {t : Tok} (h : isH k (T.drop n) = true) (ht : T[n]? = some t) : t.kind = k := by
  obtain ⟨u, hu, hk⟩ := isH_some h
  rw [ht] at hu
  cases hu
  exact hk
theorem phrase_words {ts : List Tok} {nm ad : List UInt8} (h : AddrOk (ts ++ tailA) 0 true nm ad (ts ++ tailA).length) : (∀ t ∈ ts, wordK t = true) ∧ nameG ts 0 true false [] = (true, nm) := by
  have hlen : (ts ++ tailA).length = ts.length + 5 := by rw [List.length_append]; rfl
  have q0 : (ts ++ tailA)[ts.length]? = some ⟨60, [], true⟩ := by rw [List.getElem?_append_right (Nat.le_refl _), Nat.sub_self]; rfl
  have q4 : (ts ++ tailA)[ts.length + 4]? = some ⟨62, [], false⟩ := by rw [List.getElem?_append_right (by omega), show ts.length + 4 - ts.length = 4 by omega]; rfl
  have hn1 : wordsN (ts ++ tailA) 0 ≤ ts.length := by
    rcases Nat.lt_or_ge ts.length (wordsN (ts ++ tailA) 0) with h' | h'
    · exact absurd (words_at (Nat.zero_le _) (by omega) q0) (by decide)
    · exact h'
  rcases h with ⟨us, vs, n1, n2, m', ok2, ok3, ok7, lc, dm, hus, hn1e, h1, h2, hnm, hvs, hn2, hlc, h3, hdm, h4, h5, hm, had⟩ | ⟨us, n1, ok3, ok7, lc, dm, hus, hn1e, h1, hlc, hdm, h5, hnm, had⟩
  · have hq : ¬ n1 < ts.length := by
      intro hlt
      have c1 : n2 ≤ ts.length := by
        rcases Nat.lt_or_ge ts.length n2 with h' | h'
        · exact absurd (words_at (k := n1 + 1) (by omega) (by omega) q0) (by decide)
        · exact h'
      have c2 : n2 ≠ ts.length := by
        intro e
        rw [e] at h3
        exact absurd (isH_kind h3 q0) (by decide)
      rcases domain_at hdm (by omega) (j := ts.length) (by omega) (by omega) q0 with h | h
      · exact absurd h (by decide)
      · exact absurd h (by decide)
    have hn : n1 = ts.length := by omega
    have hw : wordsN (ts ++ tailA) 0 = ts.length := by omega
    have hall : ∀ t ∈ ts, wordK t = true := by
      intro t ht
      obtain ⟨j, hj, e⟩ := List.mem_iff_getElem.1 ht
      exact words_at (T := ts ++ tailA) (k := 0) (j := j) (Nat.zero_le _) (by omega) (by rw [List.getElem?_append_left hj, List.getElem?_eq_getElem hj, e])
    refine ⟨hall, ?_⟩
    have hts : us = ts := by
      rw [← hus, List.drop_zero]
      have : ∀ (xs r : List Tok), (∀ t ∈ xs, wordK t = true) → (xs ++ ⟨60, [], true⟩ :: r).takeWhile wordK = xs := by
        intro xs r hx
        induction xs with
        | nil => rfl
        | cons x xs ih => rw [List.cons_append, List.takeWhile_cons_of_pos (hx x (by simp)), ih (fun t ht => hx t (by simp [ht]))]
      exact this ts _ hall
    rw [hts] at hnm
    have o7 : ok7 = true := by rw [Bool.and_eq_true] at h5; exact h5.1
    have o3 := (domainG_ok _ _ _ [] (Nat.le_refl _)).1 (by rw [hdm]; exact o7)
    rw [Bool.and_eq_true] at o3
    have o2 := localG_ok _ _ _ [] (by rw [hlc]; exact o3.1)
    rw [Bool.and_eq_true] at o2
    rw [hnm, o2.1]
  · exfalso
    have hq : n1 ≠ ts.length := by
      intro e
      rw [e] at h1
      exact absurd (isH_kind h1 q0) (by decide)
    rcases domain_at hdm (Nat.le_refl _) (j := ts.length + 4) (by omega) (by omega) q4 with h | h
    · exact absurd h (by decide)
    · exact absurd h (by decide)
end Go.Proofs.YtpoglombagmhmaaGreatDoor
/- strings.Builder.Len, Reset; the words of a phrase and the builder beside them. -/
namespace Go.Proofs.YtpoglombagmhmaaGreatDoor
open Go Go.RowKit

theorem bLen_any (b : Nat) (K : Nat → Prop) (l : List UInt8) (w : World) (h : Bld b K l w) : Calls Tryz.prog 62 #[.pointer (some ⟨b, 0, none⟩)] w fun e w' => e = .returned (.int .i64 l.length) ∧ w' = w := by
  obtain ⟨p, v, hp, hbk, hown, hr, hn, hs⟩ := h
  have c1 : w.cell? ⟨b, 1, none⟩ = some v := by rw [Lib.cell_of_heap hbk]; rfl
  obtain ⟨q, c, rfl⟩ : ∃ q c, v = .slice q l.length c := by
    rcases hown.2 with ⟨hv, h0⟩ | ⟨g, cap, cur, hv, _⟩
    · exact ⟨none, 0, by rw [hv, h0]⟩
    · exact ⟨_, _, hv⟩
  clear hp hbk hown hr hn hs
  go_enter Tryz.func62, Tryz.ntmps62
  go_wp2
  go_ret
  exact ⟨rfl, rfl⟩
theorem bReset_any (b : Nat) (K : Nat → Prop) (w : World) (h : BldX b K w) : Calls Tryz.prog 64 #[.pointer (some ⟨b, 0, none⟩)] w fun e w' => e = .returned (.tuple #[]) ∧ Bld b K [] w' ∧ Fr K w w' := by
  obtain ⟨p, v, hbk, hn, hs⟩ := h
  have HK := Lib.hid hbk; have HNB := Lib.hid hn; have HS := Lib.hid hs
  have c0 : w.cell? ⟨b, 0, none⟩ = some p := by rw [Lib.cell_of_heap hbk]; rfl
  have f0 : w.frozen? ⟨b, 0, none⟩ = false := Lib.frozen_of_heap hbk 0
  have hb1 : (w.setCell ⟨b, 0, none⟩ (.pointer none)).heap[b]? = some (.cells #[.pointer none, v] 110 (0, 0)) := heap_setCell_row hbk
  have c1 : (w.setCell ⟨b, 0, none⟩ (.pointer none)).cell? ⟨b, 1, none⟩ = some v := by rw [Lib.cell_of_heap hb1]; rfl
  have f1 : (w.setCell ⟨b, 0, none⟩ (.pointer none)).frozen? ⟨b, 1, none⟩ = false := Lib.frozen_of_heap hb1 1
  have HB2 := Lib.hid (show ((w.setCell ⟨b, 0, none⟩ (.pointer none)).setCell ⟨b, 1, none⟩ (.slice none 0 0)).heap[b]? = some (.cells #[.pointer none, .slice none 0 0] 110 (0, 0)) from heap_setCell_row hb1)
  have HF := Lib.hid (show Fr K w ((w.setCell ⟨b, 0, none⟩ (.pointer none)).setCell ⟨b, 1, none⟩ (.slice none 0 0)) from ((Fr.refl K w).setCell (p := ⟨b, 0, none⟩) hn _).setCell (p := ⟨b, 1, none⟩) hn _)
  clear hbk hn hs hb1
  go_enter Tryz.func64, Tryz.ntmps64
  go_wp2
  go_end0
  exact ⟨rfl, ⟨.pointer none, .slice none 0 0, .inl rfl, HB2.out, World.ownsRow_nil _ _ _ _, fun k e => by simp [Value.ownBlock] at e, HNB.out, fun k hk => by have := HS.out k hk; have := HF.out.size; omega⟩, HF.out⟩

/-- The words, and the builder's bytes, in a call that began in w: the builder in block w.heap.size. -/
structure PW (pb : Nat) (w : World) (S : ByteArray) (ls : List (List UInt8)) (wv : Value) (sbl : List UInt8) (wx : World) : Prop where
  ps : PS pb (.pointer none) S wx
  own : OwnS w.heap.size ls wv wx
  bld : Bld w.heap.size (fun k => k < w.heap.size ∨ wv.ownBlock = some k) sbl wx
  fr : Fr (fun k => k ≠ pb ∧ k < w.heap.size) w wx
theorem OwnS.lt {B : Nat} {ls : List (List UInt8)} {v : Value} {w : World} (h : OwnS B ls v w) : ∀ k, v.ownBlock = some k → B ≤ k ∧ k < w.heap.size := World.ownsRow.lt h
/-- The parser has gone on. -/
theorem PW.step {pb : Nat} {w : World} {S S' : ByteArray} {ls : List (List UInt8)} {wv : Value} {sbl : List UInt8} {wx wy : World} (h : PW pb w S ls wv sbl wx) (hpb : pb < w.heap.size) (hp : PS pb (.pointer none) S' wy) (hf : Fr (fun k => k ≠ pb ∧ k < wx.heap.size) wx wy) : PW pb w S' ls wv sbl wy := by
  refine ⟨hp, h.own.fr (fun k e hk => hf.block k ⟨fun e2 => by have := (h.own.lt k e).1; omega, hk⟩), h.bld.kept hf.size (fun k o ho hK _ => ?_), h.fr.trans (hf.mono (fun k hk => ⟨hk.1, Nat.lt_of_lt_of_le hk.2 h.fr.size⟩))⟩
  rw [hf.block k ⟨fun e => hK (.inl (by omega)), (Array.getElem?_eq_some_iff.1 ho).1⟩]
  exact ho
/-- The builder has gone on. -/
theorem PW.wrote {pb : Nat} {w : World} {S : ByteArray} {ls : List (List UInt8)} {wv : Value} {sbl sbl' : List UInt8} {wx wy : World} (h : PW pb w S ls wv sbl wx) (hpb : pb < w.heap.size) (hb : Bld w.heap.size (fun k => k < w.heap.size ∨ wv.ownBlock = some k) sbl' wy) (hf : Fr (fun k => k < w.heap.size ∨ wv.ownBlock = some k) wx wy) : PW pb w S ls wv sbl' wy :=
  ⟨h.ps.fr (hf.block pb (.inl hpb)), h.own.fr (fun k e _ => hf.block k (.inr e)), hb, h.fr.trans (hf.mono (fun _ hk => .inl hk.2))⟩
/-- A word more, while the builder holds its bytes. -/
theorem PW.push {pb : Nat} {w : World} {S : ByteArray} {ls : List (List UInt8)} {wv v' : Value} {sbl y : List UInt8} {wx w' : World} {o : Obj} (h : PW pb w S ls wv sbl wx) (hpb : pb < w.heap.size) (hown : OwnS w.heap.size (ls ++ [y]) v' w') (hg : (wx.alloc o).grownBy w' wv.ownBlock) (hat : v'.ownBlock = wv.ownBlock ∨ v'.ownBlock = some (wx.heap.size + 1)) : PW pb w S (ls ++ [y]) v' sbl w' := by
  have hsz : (wx.alloc o).heap.size = wx.heap.size + 1 := by simp
  have hblk : ∀ k, k < wx.heap.size → wv.ownBlock ≠ some k → w'.heap[k]? = wx.heap[k]? := fun k hk hne => by
    rw [hg.block k (by rw [hsz]; omega) (fun e => hne e.symm), Below.heap_alloc _ _ _ hk]
  have hwv : ∀ k, wv.ownBlock = some k → w.heap.size ≤ k := fun k e => (h.own.lt k e).1
  have hsize : wx.heap.size + 1 ≤ w'.heap.size := by have := hg.size; rw [hsz] at this; exact this
  have hpx := h.ps.cells.2.2.2
  refine ⟨h.ps.fr (hblk pb hpx (fun e => by have := hwv pb e; omega)), hown, ?_, ?_⟩
  · obtain ⟨p, v, hp, hbk, ho, hr, hn, hs⟩ := h.bld
    have hb1 := (Array.getElem?_eq_some_iff.1 hbk).1
    refine ⟨p, v, hp, ?_, own_fr ho (fun k e hk => hblk k hk (fun e2 => hr k e (.inr e2))), fun k e hK => ?_, ?_, ?_⟩
    · rw [hblk _ hb1 (fun e => hn (.inr e))]; exact hbk
    · rcases hK with hK | hK
      · exact hr k e (.inl hK)
      · rcases hat with h1 | h1
        · exact hr k e (.inr (by rw [← h1]; exact hK))
        · rw [h1] at hK
          have := Option.some.inj hK
          have := (World.ownsRow.lt ho k e).2
          omega
    · rintro (hK | hK)
      · exact hn (.inl hK)
      · rcases hat with h1 | h1
        · exact hn (.inr (by rw [← h1]; exact hK))
        · rw [h1] at hK
          have := Option.some.inj hK
          omega
    · rintro k (hK | hK)
      · have := hs k (.inl hK); omega
      · exact (hown.lt k hK).2
  · have hfs := h.fr.size
    exact h.fr.trans ⟨hg.os, hg.tape, hg.output, by omega, fun k hk => hblk k (by omega) (fun e => by have := hwv k e; omega)⟩
/-- The same, the builder's bytes read. -/
structure PX (pb : Nat) (w : World) (S : ByteArray) (ls : List (List UInt8)) (wv : Value) (wx : World) : Prop where
  ps : PS pb (.pointer none) S wx
  own : OwnS w.heap.size ls wv wx
  bld : BldX w.heap.size (fun k => k < w.heap.size ∨ wv.ownBlock = some k) wx
  fr : Fr (fun k => k ≠ pb ∧ k < w.heap.size) w wx
theorem PW.read {pb : Nat} {w : World} {S : ByteArray} {ls : List (List UInt8)} {wv : Value} {sbl : List UInt8} {wx wy : World} (h : PW pb w S ls wv sbl wx) (hpb : pb < w.heap.size) (hb : BldX w.heap.size (fun k => k < w.heap.size ∨ wv.ownBlock = some k) wy) (hf : Fr (fun k => k < w.heap.size ∨ wv.ownBlock = some k) wx wy) : PX pb w S ls wv wy :=
  ⟨h.ps.fr (hf.block pb (.inl hpb)), h.own.fr (fun k e _ => hf.block k (.inr e)), hb, h.fr.trans (hf.mono (fun _ hk => .inl hk.2))⟩
theorem PX.wrote {pb : Nat} {w : World} {S : ByteArray} {ls : List (List UInt8)} {wv : Value} {sbl' : List UInt8} {wx wy : World} (h : PX pb w S ls wv wx) (hpb : pb < w.heap.size) (hb : Bld w.heap.size (fun k => k < w.heap.size ∨ wv.ownBlock = some k) sbl' wy) (hf : Fr (fun k => k < w.heap.size ∨ wv.ownBlock = some k) wx wy) : PW pb w S ls wv sbl' wy :=
  ⟨h.ps.fr (hf.block pb (.inl hpb)), h.own.fr (fun k e _ => hf.block k (.inr e)), hb, h.fr.trans (hf.mono (fun _ hk => .inl hk.2))⟩
theorem PX.push {pb : Nat} {w : World} {S : ByteArray} {ls : List (List UInt8)} {wv v' : Value} {y : List UInt8} {wx w' : World} {o : Obj} (h : PX pb w S ls wv wx) (hpb : pb < w.heap.size) (hown : OwnS w.heap.size (ls ++ [y]) v' w') (hg : (wx.alloc o).grownBy w' wv.ownBlock) (hat : v'.ownBlock = wv.ownBlock ∨ v'.ownBlock = some (wx.heap.size + 1)) : PX pb w S (ls ++ [y]) v' w' := by
  have hsz : (wx.alloc o).heap.size = wx.heap.size + 1 := by simp
  have hblk : ∀ k, k < wx.heap.size → wv.ownBlock ≠ some k → w'.heap[k]? = wx.heap[k]? := fun k hk hne => by
    rw [hg.block k (by rw [hsz]; omega) (fun e => hne e.symm), Below.heap_alloc _ _ _ hk]
  have hwv : ∀ k, wv.ownBlock = some k → w.heap.size ≤ k := fun k e => (h.own.lt k e).1
  have hsize : wx.heap.size + 1 ≤ w'.heap.size := by have := hg.size; rw [hsz] at this; exact this
  have hpx := h.ps.cells.2.2.2
  refine ⟨h.ps.fr (hblk pb hpx (fun e => by have := hwv pb e; omega)), hown, ?_, ?_⟩
  · obtain ⟨p, v, hbk, hn, hs⟩ := h.bld
    have hb1 := (Array.getElem?_eq_some_iff.1 hbk).1
    refine ⟨p, v, ?_, ?_, ?_⟩
    · rw [hblk _ hb1 (fun e => hn (.inr e))]; exact hbk
    · rintro (hK | hK)
      · exact hn (.inl hK)
      · rcases hat with h1 | h1
        · exact hn (.inr (by rw [← h1]; exact hK))
        · rw [h1] at hK
          have := Option.some.inj hK
          omega
    · rintro k (hK | hK)
      · have := hs k (.inl hK); omega
      · exact (hown.lt k hK).2
  · have hfs := h.fr.size
    exact h.fr.trans ⟨hg.os, hg.tape, hg.output, by omega, fun k hk => hblk k (by omega) (fun e => by have := hwv k e; omega)⟩
theorem OwnS.form {B : Nat} {ls : List (List UInt8)} {v : Value} {w : World} (h : OwnS B ls v w) : ∃ q c, v = .slice q ls.length c := by
  rcases h.2 with ⟨hv, h0⟩ | ⟨g, cap, cur, hv, _⟩
  · exact ⟨none, 0, by rw [hv, h0]⟩
  · exact ⟨_, _, hv⟩
def strOf (pb : Nat) (w : World) : Nat := match w.cell? ⟨pb, 0, none⟩ with | some (.string s) => s.size | _ => 0
theorem PS.strOf {pb : Nat} {dv : Value} {s : ByteArray} {w : World} (h : PS pb dv s w) : strOf pb w = s.size := by
  unfold Proofs.YtpoglombagmhmaaGreatDoor.strOf; rw [h.cells.1]
end Go.Proofs.YtpoglombagmhmaaGreatDoor
/- Plain Lean: what the code's parser of a phrase holds against the reference's name. -/
namespace Go.Proofs.YtpoglombagmhmaaGreatDoor
open Go

theorem join_snoc (xs : List (List UInt8)) (y sep : List UInt8) : Lib.join (xs ++ [y]) sep = if xs = [] then y else Lib.join xs sep ++ sep ++ y := by
  cases xs with
  | nil => simp [Lib.join_one]
  | cons x r =>
    rw [if_neg (by simp)]
    unfold Lib.join
    induction r generalizing x with
    | nil => simp [List.intercalate]
    | cons z r ih =>
      have := ih z
      simp only [List.intercalate, List.cons_append, List.intersperse_cons_cons, List.flatten_cons] at this ⊢
      rw [this]; simp
def phJ (ls : List (List UInt8)) (sbl : List UInt8) : List UInt8 := Lib.join (ls ++ if sbl = [] then [] else [sbl]) [32]
structure PhSt (k : Nat) (coded : Bool) (out : List UInt8) (ls : List (List UInt8)) (sbl : List UInt8) : Prop where
  out : out = phJ ls sbl
  coded : coded = decide (sbl ≠ [])
  zero : k = 0 ↔ ls = [] ∧ sbl = []
theorem PhSt.start : PhSt 0 false [] [] [] := ⟨rfl, by simp, by simp⟩
theorem PhSt.code {k : Nat} {coded : Bool} {out x : List UInt8} {ls : List (List UInt8)} {sbl : List UInt8} (h : PhSt k coded out ls sbl) (hx : x ≠ []) : PhSt (k + 1) true (out ++ (if decide (0 < k) && !(coded && true) then [32] else []) ++ x) ls (sbl ++ x) := by
  refine ⟨?_, by simp [hx], by simp [hx]⟩
  have hz := h.zero
  rw [h.out, h.coded]
  unfold phJ
  by_cases hs : sbl = []
  · subst hs
    simp only [if_true, List.append_nil, List.nil_append, if_neg hx]
    rw [join_snoc]
    by_cases hl : ls = []
    · have : k = 0 := hz.2 ⟨hl, rfl⟩
      subst hl this
      simp [Lib.join_nil]
    · have hk : 0 < k := Nat.pos_of_ne_zero (fun e => hl (hz.1 e).1)
      rw [if_neg hl]
      simp [hk]
  · have hsx : sbl ++ x ≠ [] := by simp [hs]
    simp only [if_neg hs, if_neg hsx]
    rw [join_snoc, join_snoc]
    split <;> simp [hs]
theorem PhSt.word {k : Nat} {coded : Bool} {out x : List UInt8} {ls : List (List UInt8)} {sbl : List UInt8} (h : PhSt k coded out ls sbl) : PhSt (k + 1) false (out ++ (if decide (0 < k) && !(coded && false) then [32] else []) ++ x) ((ls ++ if sbl = [] then [] else [sbl]) ++ [x]) [] := by
  refine ⟨?_, by simp, by simp⟩
  have hz := h.zero
  rw [h.out]
  unfold phJ
  simp only [if_true, List.append_nil]
  rw [join_snoc (ls ++ if sbl = [] then [] else [sbl]) x]
  by_cases h0 : k = 0
  · obtain ⟨h1, h2⟩ := hz.1 h0
    subst h0 h1 h2
    simp [Lib.join_nil]
  · have hne : (ls ++ if sbl = [] then [] else [sbl]) ≠ [] := by
      intro e
      apply h0
      rw [hz]
      rw [List.append_eq_nil_iff] at e
      refine ⟨e.1, ?_⟩
      by_cases hs : sbl = []
      · exact hs
      · rw [if_neg hs] at e; exact absurd e.2 (by simp)
    rw [if_neg hne]
    have hk : 0 < k := Nat.pos_of_ne_zero h0
    simp [hk]

/-- What is left to read: valid, no control sign. -/
structure GoodS (R : List UInt8) : Prop where
  valid : Lib.validD R = true
  ctl : ∀ c ∈ R, ctlB c = false
theorem valid_suffix : ∀ (n : Nat) (A R : List UInt8), A.length ≤ n → Lib.validD (A ++ R) = true → (∀ c t, R = c :: t → c.toNat < 128) → Lib.validD R = true
  | _, [], R, _, h, _ => h
  | 0, _ :: _, _, hn, _, _ => by simp at hn
  | n + 1, c :: A, R, hn, h, hR => by
    by_cases ha : c.toNat < 128
    · rw [List.cons_append, Lib.validD_cons c _ ha] at h
      exact valid_suffix n A R (by simp at hn; omega) h hR
    · have hne : c :: A ++ R ≠ [] := by simp
      have hok := valid_ok h hne
      have hd := valid_drop h hne
      have hall := rune_high hok (by simp; omega)
      have hw1 := wd_pos (c :: A ++ R)
      have hle : wd (c :: A ++ R) ≤ (c :: A).length := by
        rcases Nat.lt_or_ge (c :: A).length (wd (c :: A ++ R)) with h9 | h9
        · exfalso
          cases R with
          | nil =>
            have := wd_le (c :: A ++ []) hne
            rw [List.append_nil] at this h9; omega
          | cons d t =>
            have hmem : d ∈ (c :: A ++ d :: t).take (wd (c :: A ++ d :: t)) := by
              rw [List.take_append]
              apply List.mem_append_right
              obtain ⟨j, hj⟩ : ∃ j, wd (c :: A ++ d :: t) - (c :: A).length = j + 1 := ⟨wd (c :: A ++ d :: t) - (c :: A).length - 1, by omega⟩
              rw [hj]; simp
            have h1 := hall d hmem
            have h2 := hR d t rfl
            omega
        · exact h9
      rw [List.drop_append_of_le_length hle] at hd
      exact valid_suffix n _ R (by rw [List.length_drop]; omega) hd hR
theorem GoodS.sub {A R : List UInt8} (h : GoodS (A ++ R)) (hR : ∀ c t, R = c :: t → c.toNat < 128) : GoodS R := ⟨valid_suffix _ A R (Nat.le_refl _) h.valid hR, fun c hc => h.ctl c (by simp [hc])⟩
theorem GoodS.tail {c : UInt8} {R : List UInt8} (h : GoodS (c :: R)) (hc : c.toNat < 128) : GoodS R := ⟨by have := h.valid; rwa [Lib.validD_cons c R hc] at this, fun d hd => h.ctl d (by simp [hd])⟩
theorem GoodS.skip : ∀ {R : List UInt8}, GoodS R → GoodS (R.dropWhile isSp)
  | [], h => h
  | c :: t, h => by
    cases hs : isSp c with
    | true =>
      rw [List.dropWhile_cons_of_pos hs]
      refine GoodS.skip (h.tail ?_)
      unfold isSp at hs
      rw [Bool.or_eq_true, beq_iff_eq, beq_iff_eq] at hs
      rcases hs with rfl | rfl <;> decide
    | false => rw [List.dropWhile_cons_of_neg (by rw [hs]; simp)]; exact h
theorem quoted_close : ∀ (n : Nat) (U x : List UInt8) (k : Nat), U.length ≤ n → quotedL U = some (x, k) → ∃ A, U = A ++ 34 :: U.drop k
  | _, [], _, _, _, h => by rw [quotedL] at h; cases h
  | _, [c], x, k, _, h => by
    rw [quotedL] at h
    split at h
    · rename_i hc; cases h; exact ⟨[], by rw [hc]; rfl⟩
    · cases h
  | 0, _ :: _ :: _, _, _, hn, _ => by simp at hn
  | n + 1, c :: d :: t, x, k, hn, h => by
    rw [quotedL] at h
    split at h
    · rename_i hc; cases h; exact ⟨[], by rw [hc]; rfl⟩
    · split at h
      · obtain ⟨q, hq, he⟩ := Option.map_eq_some_iff.1 h
        cases he
        obtain ⟨A, hA⟩ := quoted_close n t q.1 q.2 (by simp at hn; omega) hq
        exact ⟨c :: d :: A, by rw [List.drop_succ_cons, List.drop_succ_cons]; rw [List.cons_append, List.cons_append, ← hA]⟩
      · obtain ⟨q, hq, he⟩ := Option.map_eq_some_iff.1 h
        cases he
        obtain ⟨A, hA⟩ := quoted_close n (d :: t) q.1 q.2 (by simp at hn ⊢; omega) hq
        exact ⟨c :: A, by rw [List.drop_succ_cons]; rw [List.cons_append, ← hA]⟩
theorem decoded_ne {s t : List UInt8} (h : decodedL s true = some t) : t ≠ [] := by
  obtain ⟨a, b, c, m, _, _, _, _, hb0, hc, ht, _⟩ := decoded_parts h
  have hc0 : c ≠ [] := by
    unfold bytesC at hc
    split at hc
    · rintro rfl
      cases b with
      | nil => exact hb0 rfl
      | cons x r =>
        by_cases h95 : x = 95
        · subst h95; obtain ⟨_, _, h3⟩ := unqG_us hc; cases h3
        · by_cases h61 : x = 61
          · subst h61; obtain ⟨_, _, _, _, _, _, _, _, _, _, h3⟩ := unqG_eq hc; cases h3
          · obtain ⟨_, _, _, h3⟩ := unqG_raw h95 h61 hc; cases h3
    · split at hc
      · intro e
        have := unb_canon hc
        rw [e] at this
        exact hb0 this
      · cases hc
  unfold textC at ht
  split at ht
  · split at ht
    · cases ht; exact hc0
    · cases ht
  · split at ht
    · cases ht
      intro e
      cases c with
      | nil => exact hc0 rfl
      | cons x r =>
        unfold latin at e
        rw [List.flatMap_cons, List.append_eq_nil_iff] at e
        have := e.1
        split at this <;> simp at this
    · split at ht
      · split at ht
        · cases ht; exact hc0
        · cases ht
      · cases ht
theorem unmarked_prefix {l : List UInt8} (h : markedL l = false) : Lib.hasPrefix l [61, 63] = false := by
  cases hp : Lib.hasPrefix l [61, 63] with
  | false => rfl
  | true =>
    unfold Lib.hasPrefix at hp
    rw [List.isPrefixOf_iff_prefix] at hp
    obtain ⟨r, rfl⟩ := hp
    rw [show [61, 63] ++ r = 61 :: 63 :: r from rfl, markedL] at h
    simp at h
/-- A name's first word, taken. -/
theorem nameG_head {t : Tok} {r : List Tok} {k : Nat} {coded : Bool} {out nm : List UInt8} (h : nameG (t :: r) k true coded out = (true, nm)) :
    nBad k t = false ∧ nDec t = true ∧ nameG r (k + 1) true (nCode t) (out ++ (if decide (0 < k) && !(coded && nCode t) then [32] else []) ++ nText t) = (true, nm) := by
  rw [nameG] at h
  have h1 := nameG_ok _ _ _ _ _ (by rw [h])
  rw [h1] at h
  rw [Bool.and_eq_true, Bool.and_eq_true, Bool.not_eq_true'] at h1
  exact ⟨h1.1.2, h1.2, h⟩
/-- No point behind a word. -/
theorem no_point {R : List UInt8} {ts : List Tok} {l : Bool} {k : Nat} {coded : Bool} {out nm : List UInt8} (ht : toksL false R = .good ts l) (h : nameG ts k true coded out = (true, nm)) : ∀ t, R ≠ 46 :: t := by
  rintro t rfl
  rcases ph_head (by decide) ht with ⟨h1, _⟩ | ⟨h1, _⟩ | ⟨_, _, _, _, ts', rfl, _⟩
  · exact absurd h1 (by decide)
  · exact absurd h1 (by decide)
  · have := (nameG_head h).1
    unfold nBad at this
    simp at this
theorem atomD_of {c : UInt8} {t : List UInt8} (hc : atomB c = true) (hn : ∀ r, t.dropWhile atomB ≠ 46 :: r) : (c :: t).takeWhile atomD = c :: t.takeWhile atomB ∧ (c :: t).dropWhile atomD = t.dropWhile atomB := by
  have key : ∀ u : List UInt8, (∀ r, u.dropWhile atomB ≠ 46 :: r) → u.takeWhile atomD = u.takeWhile atomB ∧ u.dropWhile atomD = u.dropWhile atomB := by
    intro u
    induction u with
    | nil => intro _; exact ⟨rfl, rfl⟩
    | cons d u ih =>
      intro hu
      cases hd : atomB d with
      | true =>
        have hdd : atomD d = true := by unfold atomD; rw [hd]; rfl
        rw [List.dropWhile_cons_of_pos hd] at hu
        have := ih hu
        rw [List.takeWhile_cons_of_pos hd, List.takeWhile_cons_of_pos hdd, List.dropWhile_cons_of_pos hd, List.dropWhile_cons_of_pos hdd, this.1, this.2]
        exact ⟨rfl, rfl⟩
      | false =>
        have h' : ¬ atomB d = true := by rw [hd]; simp
        rw [List.dropWhile_cons_of_neg h'] at hu
        have hdd : ¬ atomD d = true := by
          unfold atomD
          rw [hd, Bool.false_or, beq_iff_eq]
          rintro rfl
          exact hu u rfl
        rw [List.takeWhile_cons_of_neg h', List.takeWhile_cons_of_neg hdd, List.dropWhile_cons_of_neg h', List.dropWhile_cons_of_neg hdd]
        exact ⟨rfl, rfl⟩
  have hcd : atomD c = true := by unfold atomD; rw [hc]; rfl
  have := key t hn
  rw [List.takeWhile_cons_of_pos hcd, List.dropWhile_cons_of_pos hcd, this.1, this.2]
  exact ⟨rfl, rfl⟩
end Go.Proofs.YtpoglombagmhmaaGreatDoor
/- netmail.consumePhrase, on words alone: the walk. -/
namespace Go.Proofs.YtpoglombagmhmaaGreatDoor
open Go Go.RowKit

theorem nameG_len : ∀ (us : List Tok) (k : Nat) (ok coded : Bool) (out : List UInt8), (nameG us k ok coded out).2.length ≤ out.length + 2 * tlen us
  | [], _, _, _, _ => by simp [nameG]
  | t :: r, k, ok, coded, out => by
    rw [nameG, tlen_cons]
    have h1 := nameG_len r (k + 1) (ok && !nBad k t && nDec t) (nCode t) (out ++ (if decide (0 < k) && !(coded && nCode t) then [32] else []) ++ nText t)
    have h2 := nText_len t
    have h3 : (if (decide (0 < k) && !(coded && nCode t)) = true then ([32] : List UInt8) else []).length ≤ 1 := by split <;> simp
    rw [List.length_append, List.length_append] at h1
    omega
theorem join_call (B : Nat) (ls : List (List UInt8)) (g n cap : Nat) (W : World) (hn : ls.length = n) (own : OwnS B ls (.slice (some ⟨g, 0, none⟩) n cap) W) (hll : ls.length ≤ 140737488355328) (hlen : (Lib.join ls [32]).length ≤ 140737488355328) :
    Calls Tryz.prog 60 #[.slice (some ⟨g, 0, none⟩) n cap, .string ⟨#[32]⟩] W fun e w' => e = .returned (.string (bs (Lib.join ls [32]))) ∧ Below W.heap.size W w' := by
  subst hn
  have hm : (ls.map bs).map (fun b : ByteArray => b.data.toList) = ls := by rw [List.map_map]; exact (List.map_congr_left (fun x _ => bs_list x)).trans (List.map_id ls)
  have hcap : ls.length ≤ cap ∧ g < W.heap.size := by
    rcases own.2 with ⟨hv, _⟩ | ⟨g', cap', cur, hv, _, hg, hnc, _⟩
    · cases hv
    · injection hv with h1 h2 h3
      injection h1 with h1
      have h4 : g = g' := congrArg (·.block) h1
      subst h3 h4
      exact ⟨hnc, (Array.getElem?_eq_some_iff.1 hg).1⟩
  have h := Tryz.strings_Join g 0 cap (ls.map bs) ⟨#[32]⟩ W (fun j x hx => by
      rw [List.getElem?_map] at hx
      cases hy : ls[j]? with
      | none => rw [hy] at hx; cases hx
      | some y =>
        rw [hy] at hx
        cases hx
        have := World.ownsRow.cells own (g := g) rfl j (.string (bs y)) (by unfold strCells; rw [List.getElem?_map, hy]; rfl)
        rw [addr_add] at this
        exact this) hcap.2 (by rw [List.length_map]; exact hll) (by rw [List.length_map]; exact hcap.1) (by rw [hm]; exact hlen)
  rw [List.length_map, hm] at h
  exact h
theorem atomB_high {c : UInt8} (h : 128 ≤ c.toNat) : atomB c = true := by
  unfold atomB
  rw [Bool.or_eq_true, decide_eq_true_eq]
  exact .inl (.inr (.inr (.inr h)))
theorem cell_lt {w : World} {a : Addr} {v : Value} (hc : w.cell? a = some v) : a.block < w.heap.size := by
  rcases Nat.lt_or_ge a.block w.heap.size with h' | h'
  · exact h'
  · simp [World.cell?, Array.getElem?_eq_none h'] at hc
/-- A word split off: quoted, or an atom, marked or not. -/
theorem ph_split {c : UInt8} {t : List UInt8} {b' : Bool} {ts : List Tok} {l : Bool} {k : Nat} {coded : Bool} {out nm : List UInt8} (hs : isSp c = false) (hg : GoodS (c :: t)) (h : toksL b' (c :: t) = .good ts l) (hw : ∀ t ∈ ts, wordK t = true) (hn : nameG ts k true coded out = (true, nm)) :
    ∃ (x : List UInt8) (co : Bool) (ts' : List Tok) (R3 : List UInt8), toksL false R3 = .good ts' l ∧ GoodS R3 ∧ (∀ t ∈ ts', wordK t = true) ∧ nameG ts' (k + 1) true co (out ++ (if decide (0 < k) && !(coded && co) then [32] else []) ++ x) = (true, nm) ∧ R3.length < (c :: t).length ∧ x.length + 2 * R3.length ≤ 2 * (c :: t).length ∧ (co = true → x ≠ []) ∧
      ((c = 34 ∧ co = false ∧ ∃ n, quotedL t = some (x, n) ∧ R3 = t.drop n) ∨ (c ≠ 34 ∧ ∃ a, a ≠ [] ∧ (c :: t).takeWhile atomD = a ∧ (c :: t).dropWhile atomD = R3 ∧ ((co = false ∧ x = a ∧ Lib.hasPrefix a [61, 63] = false) ∨ (co = true ∧ decodedL a true = some x)))) := by
  rcases ph_head hs h with ⟨ha, ts', rfl, h3⟩ | ⟨hc, x, n, ts', hq, rfl, h3⟩ | ⟨h1, h2, _, _, ts', rfl, h3⟩
  · obtain ⟨-, hd, hn'⟩ := nameG_head hn
    have np := no_point h3 hn'
    obtain ⟨e1, e2⟩ := atomD_of ha np
    have hlen : (c :: t.takeWhile atomB).length + (t.dropWhile atomB).length = (c :: t).length := by
      have h9 := congrArg List.length (List.takeWhile_append_dropWhile (p := atomB) (l := t))
      rw [List.length_append] at h9
      rw [List.length_cons, List.length_cons]; omega
    have hgR : GoodS (t.dropWhile atomB) := by
      refine GoodS.sub (A := c :: t.takeWhile atomB) (by rw [List.cons_append, List.takeWhile_append_dropWhile]; exact hg) (fun d r hdr => ?_)
      have h9 := List.head?_dropWhile_not atomB t
      rw [hdr] at h9
      have h9 : atomB d = false := by simpa using h9
      rcases Nat.lt_or_ge d.toNat 128 with h8 | h8
      · exact h8
      · rw [atomB_high h8] at h9; cases h9
    have hnt := nText_len ⟨97, c :: t.takeWhile atomB, b'⟩
    simp only [] at hnt
    have hl0 : 0 < (c :: t.takeWhile atomB).length := by simp
    refine ⟨_, _, ts', _, h3, hgR, fun t ht => hw t (List.mem_cons_of_mem _ ht), hn', by omega, by omega, ?_, .inr ⟨?_, _, by simp, e1, e2, ?_⟩⟩
    · intro hco
      cases hdd : decodedL (c :: t.takeWhile atomB) true with
      | none => unfold nDec at hd; rw [hco] at hd; simp [hdd] at hd
      | some y =>
        have : nText ⟨97, c :: t.takeWhile atomB, b'⟩ = y := by unfold nText; rw [hco]; simp [hdd]
        rw [this]; exact decoded_ne hdd
    · rintro rfl; exact absurd ha (by decide)
    · cases hm : markedL (c :: t.takeWhile atomB) with
      | false =>
        have hco : nCode ⟨97, c :: t.takeWhile atomB, b'⟩ = false := by unfold nCode; simp [hm]
        exact .inl ⟨hco, by unfold nText; rw [hco]; simp, unmarked_prefix hm⟩
      | true =>
        have hco : nCode ⟨97, c :: t.takeWhile atomB, b'⟩ = true := by unfold nCode; simp [hm]
        cases hdd : decodedL (c :: t.takeWhile atomB) true with
        | none => unfold nDec at hd; rw [hco] at hd; simp [hdd] at hd
        | some y => exact .inr ⟨hco, by unfold nText; rw [hco]; simp [hdd]⟩
  · obtain ⟨-, -, hn'⟩ := nameG_head hn
    obtain ⟨h8, h9⟩ := quotedL_len _ t x n (Nat.le_refl _) hq
    have hco : nCode ⟨113, x, b'⟩ = false := rfl
    have hnt : nText ⟨113, x, b'⟩ = x := by unfold nText; rw [hco]; rfl
    rw [hnt, hco] at hn'
    obtain ⟨A, hA⟩ := quoted_close _ t x n (Nat.le_refl _) hq
    have hgt : GoodS t := hg.tail (by rw [hc]; decide)
    have hgR : GoodS (t.drop n) := by
      have h7 : GoodS (34 :: t.drop n) := GoodS.sub (A := A) (by rw [← hA]; exact hgt) (fun d r e => by cases e; decide)
      exact h7.tail (by decide)
    refine ⟨x, false, ts', t.drop n, h3, hgR, fun t ht => hw t (List.mem_cons_of_mem _ ht), hn', by rw [List.length_drop, List.length_cons]; omega, by rw [List.length_drop, List.length_cons]; omega, by simp, .inl ⟨hc, rfl, n, hq, rfl⟩⟩
  · have h7 := hw _ (List.mem_cons_self)
    have h6 := (nameG_head hn).1
    unfold wordK at h7
    unfold nBad at h6
    simp only [Bool.or_eq_true, beq_iff_eq] at h7
    exfalso
    rcases h7 with (rfl | rfl) | rfl
    · exact absurd h1 (by decide)
    · exact absurd h1 (by decide)
    · simp at h6
/-- A round's state: what is left, its words, the name so far. -/
structure PR (pb : Nat) (w : World) (nm : List UInt8) (R : List UInt8) (wv : Value) (k : Nat) (ls : List (List UInt8)) (sbl : List UInt8) (wx : World) : Prop where
  pw : PW pb w (bs R) ls wv sbl wx
  good : GoodS R
  toks : ∃ (b : Bool) (ts : List Tok) (l coded : Bool) (out : List UInt8), toksL b R = .good ts l ∧ (∀ t ∈ ts, wordK t = true) ∧ nameG ts k true coded out = (true, nm) ∧ PhSt k coded out ls sbl ∧ (k = 0 → ts ≠ [])
  lsl : ls.length + (if sbl = [] then 0 else 1) ≤ k
  sbn : sbl.length + 2 * R.length ≤ 8192
  kl : k + R.length ≤ 4096

set_option maxHeartbeats 3000000 in
set_option maxRecDepth 100000 in
theorem cphrase_words (pb : Nat) (R0 nm : List UInt8) (ts0 : List Tok) (l0 : Bool) (et : TypeId) (ev : Value) (w : World) (h : PS pb (.pointer none) (bs R0) w) (hg : GoodS R0) (hl : R0.length ≤ 4096) (ht : toksL false R0 = .good ts0 l0) (hw : ∀ t ∈ ts0, wordK t = true) (hn : nameG ts0 0 true false [] = (true, nm)) (hne : ts0 ≠ [])
    (hT : Lib.Utf8Tabs 0 1 w) (he : w.cell? ⟨2, 0, none⟩ = some (.iface et ev)) (hgp : pb ≠ 0 ∧ pb ≠ 1 ∧ pb ≠ 2) :
    Calls Tryz.prog 43 #[.pointer (some ⟨pb, 0, none⟩)] w fun r w' => r = .returned (.tuple #[.string (bs nm), .nilIface]) ∧ PS pb (.pointer none) (bs []) w' ∧ Fr (fun k => k ≠ pb ∧ k < w.heap.size) w w' := by
  have HP := Lib.hid h; have HG := Lib.hid hg; have HTK := Lib.hid ht; have HW := Lib.hid hw; have HN := Lib.hid hn; have HNE := Lib.hid hne; have HT := Lib.hid hT; have HE := Lib.hid he; have HGP := Lib.hid hgp
  have hpb := h.cells.2.2.2
  have hnml : nm.length ≤ 16384 := by
    have h1 := nameG_len ts0 0 true false []
    rw [hn] at h1
    have h2 := toks_tlen _ R0 false ts0 l0 (Nat.le_refl _) ht
    simp at h1; omega
  have HB0 := Lib.hid (Bld.fresh w (· < w.heap.size) (fun k h => h))
  clear h hg ht hw hn hne hT he hgp
  go_enter Tryz.func43, Tryz.ntmps43
  have hPW0 : PR pb w nm R0 (.slice none 0 0) 0 [] [] (w.alloc (.cells #[.pointer none, .slice none 0 0] 110)) := by
    have hf := (Fr.refl (fun k => k < w.heap.size) w).alloc (fun k hk => hk) (.cells #[.pointer none, .slice none 0 0] 110)
    refine ⟨⟨HP.out.fr (hf.block pb hpb), OwnS.nil _ _, HB0.out.mono (fun k hk => ?_), hf.mono (fun k hk => hk.2)⟩, HG.out, ⟨false, ts0, l0, false, [], HTK.out, HW.out, HN.out, PhSt.start, fun _ => HNE.out⟩, by simp, by simp; omega, by omega⟩
    rcases hk with hk | hk
    · exact hk
    · simp [Value.ownBlock] at hk
  have HPR0 := Lib.hid hPW0
  clear hPW0 HB0
  go_wp2
  obtain ⟨sb, hsb⟩ : ∃ sb, w.heap.size = sb := ⟨_, rfl⟩
  have HSB := Lib.hid hsb
  rw [hsb]
  generalize w.alloc (.cells #[.pointer none, .slice none 0 0] 110) = w1 at HPR0 ⊢
  go_loopw [2, 3, 4] (fun r2 r3 wv wr => r2 = .string ⟨#[]⟩ ∧ r3 = .nilIface ∧ ∃ (R : List UInt8) (k : Nat) (ls : List (List UInt8)) (sbl : List UInt8) (qa : Option Addr) (qc : Nat), wv = .slice qa ls.length qc ∧ PR pb w nm R wv k ls sbl wr) (fun _ _ _ wr => strOf pb wr)
  case atStart => exact ⟨rfl, rfl, R0, 0, [], [], none, 0, rfl, HPR0.out⟩
  case round =>
    obtain ⟨rfl, rfl, R, k, ls, sbl, qa, qc, rfl, hpr⟩ := hrel
    have HPR := Lib.hid hpr
    have hrl : R.length ≤ 4096 := by have := hpr.kl; omega
    have hll : ls.length ≤ 4096 := by have := hpr.kl; have := hpr.lsl; omega
    obtain ⟨b, ts, l, coded, out, htk, hws, hnm, hph, hk0⟩ := hpr.toks
    obtain ⟨b', hb', -⟩ := ph_skip R b
    obtain ⟨R2, hR2⟩ : ∃ R2, R.dropWhile isSp = R2 := ⟨_, rfl⟩
    rw [hb', hR2] at htk
    have hR2l : R2.length ≤ R.length := by rw [← hR2]; exact (List.dropWhile_sublist _).length_le
    have hg2 : GoodS R2 := by rw [← hR2]; exact hpr.good.skip
    have HTS := Lib.hid htk; have HWS := Lib.hid hws; have HNM := Lib.hid hnm; have HPH := Lib.hid hph; have HK0 := Lib.hid hk0; have HG2 := Lib.hid hg2; have HR2 := Lib.hid hR2
    clear hpr htk hws hnm hph hk0 hg2 hR2 hb'
    go_upto_if 10 with fail
    go_cut [2, 3] from 10 to 14 (fun r2 r3 wx => r2 = .string ⟨#[]⟩ ∧ r3 = .nilIface ∧ ∃ R1 : List UInt8, PW pb w (bs R1) ls (.slice qa ls.length qc) sbl wx ∧ R1.dropWhile isSp = R2 ∧ R1.length ≤ 4096)
    case first =>
      by_cases hl0 : ls = []
      · have z0 : ¬ (0 : Int) < (ls.length : Int) := by rw [hl0]; decide
        clear hl0
        go_wp2
        go_meet
        exact ⟨rfl, rfl, R, HPR.out.pw, HR2.out, hrl⟩
      · have z0 : (0 : Int) < (ls.length : Int) := by have := List.length_pos_iff.2 hl0; omega
        clear hl0
        go_wp2_with fail
        refine (pcfws_any pb (.pointer none) (bs R) _ HPR.out.pw.ps (by rw [bs_size]; omega) (fun c t hd => ?_)).mono ?_
        · rw [bs_list, HR2.out] at hd
          rintro rfl
          have h9 := HTS.out
          rw [hd] at h9
          rcases ph_head (by decide) h9 with ⟨h1, _⟩ | ⟨h1, _⟩ | ⟨_, _, _, h1, _⟩
          · exact absurd h1 (by decide)
          · exact absurd h1 (by decide)
          · exact absurd h1 (by decide)
        rintro x w2 ⟨rfl, hp, hf⟩
        rw [bs_list, HR2.out] at hp
        have HPW := Lib.hid (HPR.out.pw.step hpb hp hf)
        clear hp hf
        go_wp2
        go_meet
        refine ⟨rfl, rfl, R2, HPW.out, ?_, by omega⟩
        cases hh : R2 with
        | nil => rfl
        | cons c t => rw [List.dropWhile_cons_of_neg (by rw [ph_nosp (HR2.out.trans hh)]; simp)]
    case rest =>
      obtain ⟨rfl, rfl, R1, hpw, hd1, hl1⟩ := hcut
      have HPW := Lib.hid hpw; have HD1 := Lib.hid hd1
      clear hpw hd1
      go_wp2_with fail
      refine (pskip_any pb (.pointer none) (bs R1) _ HPW.out.ps (by rw [bs_size]; omega)).mono ?_
      rintro x w3 ⟨rfl, hp3, hf3⟩
      rw [bs_list, HD1.out] at hp3
      have HPW3 := Lib.hid (HPW.out.step hpb hp3 hf3)
      clear hp3 hf3 HPW HD1
      go_wp2_with fail
      refine (pempty_any pb (.pointer none) (bs R2) _ HPW3.out.ps).mono ?_
      rintro x w4 ⟨rfl, rfl⟩
      cases hR2c : R2 with
      | nil =>
        have hz : decide ((bs ([] : List UInt8)).size = 0) = true := by decide
        rw [hz]
        have HPZ0 := Lib.hid HPW3.out
        rw [hR2c] at HPZ0
        have h9 := HTS.out
        rw [hR2c, tk_nil] at h9
        injection h9 with h91 h92
        subst h91
        have HOUT := Lib.hid (show out = nm by have := HNM.out; rw [nameG] at this; exact congrArg Prod.snd this)
        have hkz : k ≠ 0 := fun e => HK0.out e rfl
        have HKZ := Lib.hid hkz
        clear h92 hkz HPW3 hz
        by_cases hs0 : sbl = []
        · have z0 : ¬ (0 : Int) < (sbl.length : Int) := by rw [hs0]; decide
          have HPZ := Lib.hid HPZ0.out
          have HNL := Lib.hid (show ls ≠ [] from fun e => HKZ.out (HPH.out.zero.2 ⟨e, hs0⟩))
          have HS0 := Lib.hid hs0
          clear HPZ0 hs0
          go_wp2_with fail
          rw [HSB.out.symm]
          refine (bLen_any _ _ _ _ HPZ.out.bld).mono ?_
          rintro x w5 ⟨rfl, rfl⟩
          have HJ := Lib.hid (show Lib.join (ls) [32] = nm by rw [← HOUT.out, HPH.out.out]; unfold phJ; rw [if_pos HS0.out, List.append_nil])
          have hown := HPZ.out.own
          obtain ⟨g, cap, hgq⟩ : ∃ g cap, Value.slice qa ls.length qc = .slice (some ⟨g, 0, none⟩) (ls).length cap := by
            rcases hown.2 with ⟨_, h0⟩ | ⟨g, cap, cur, hv, _⟩
            · exact absurd (List.eq_nil_of_length_eq_zero h0) HNL.out
            · exact ⟨g, cap, hv⟩
          rw [hgq] at hown ⊢
          have hjl : (Lib.join (ls) [32]).length ≤ 140737488355328 := by rw [HJ.out]; exact Nat.le_trans hnml (by decide)
          clear hgq
          go_wp2_with fail
          refine (join_call w.heap.size (ls) g _ cap _ rfl hown (by omega) hjl).mono ?_
          rintro x w8 ⟨rfl, hb8⟩
          have HP8 := Lib.hid (HPZ.out.ps.below hb8)
          have HF8 := Lib.hid (HPZ.out.fr.trans ((Fr.of_below hb8).mono (fun q hq => Nat.lt_of_lt_of_le hq.2 HPZ.out.fr.size)))
          rw [HJ.out]
          clear hb8 hown hjl
          go_wp2
          go_ret2
          exact ⟨rfl, HP8.out, HF8.out⟩
        · have z0 : (0 : Int) < (sbl.length : Int) := by have := List.length_pos_iff.2 hs0; omega
          have HS0 := Lib.hid hs0
          clear hs0
          go_wp2_with fail
          rw [HSB.out.symm]
          refine (bLen_any _ _ _ _ HPZ0.out.bld).mono ?_
          rintro x w5 ⟨rfl, rfl⟩
          go_wp2_with fail
          rw [HSB.out.symm]
          refine (String_any _ _ _ _ HPZ0.out.bld).mono ?_
          rintro x w6 ⟨rfl, hbx, hf6⟩
          have HST := Lib.hid (HPZ0.out.read hpb hbx hf6)
          clear hbx hf6 HPZ0
          go_wp2_with (at_builtin; refine wpList_push_str rfl _ _ rfl w.heap.size ls _ ⟨sbl.toArray⟩ _ HST.out.own HST.out.fr.size ?c4 rfl rfl ?_)
          case c4 => omega
          intro v' w7 hown7 hg7 hat7
          replace hown7 : OwnS w.heap.size (ls ++ [sbl]) v' w7 := by first | exact hown7 | (rw [HSB.out]; exact hown7)
          obtain ⟨qa7, qc7, hv7⟩ := hown7.form
          obtain ⟨n7, hn7⟩ : ∃ n, (ls ++ [sbl]).length = n := ⟨_, rfl⟩
          rw [hn7] at hv7
          have HN7 := Lib.hid hn7
          clear hn7
          have HST7 := Lib.hid (HST.out.push hpb hown7 hg7 hat7)
          subst hv7
          clear hown7 hg7 hat7
          have HPZ := HST7
          have HNL := Lib.hid (show ls ++ [sbl] ≠ [] by simp)
          have HJ := Lib.hid (show Lib.join (ls ++ [sbl]) [32] = nm by rw [← HOUT.out, HPH.out.out]; unfold phJ; rw [if_neg HS0.out])
          have hown := HPZ.out.own
          obtain ⟨g, cap, hgq⟩ : ∃ g cap, Value.slice qa7 n7 qc7 = .slice (some ⟨g, 0, none⟩) n7 cap := by
            rcases hown.2 with ⟨_, h0⟩ | ⟨g, cap, cur, hv, _⟩
            · exact absurd (List.eq_nil_of_length_eq_zero h0) HNL.out
            · exact ⟨g, cap, by rw [hv, HN7.out]⟩
          rw [hgq] at hown ⊢
          have hjl : (Lib.join (ls ++ [sbl]) [32]).length ≤ 140737488355328 := by rw [HJ.out]; exact Nat.le_trans hnml (by decide)
          clear hgq
          go_wp2_with fail
          refine (join_call w.heap.size (ls ++ [sbl]) g n7 cap _ HN7.out hown (by rw [List.length_append, List.length_singleton]; omega) hjl).mono ?_
          rintro x w8 ⟨rfl, hb8⟩
          have HP8 := Lib.hid (HPZ.out.ps.below hb8)
          have HF8 := Lib.hid (HPZ.out.fr.trans ((Fr.of_below hb8).mono (fun q hq => Nat.lt_of_lt_of_le hq.2 HPZ.out.fr.size)))
          rw [HJ.out]
          clear hb8 hown hjl
          go_wp2
          go_ret2
          exact ⟨rfl, HP8.out, HF8.out⟩
      | cons c t =>
        have hz : decide ((bs (c :: t)).size = 0) = false := by rw [bs_size]; simp
        rw [hz]
        have h9 := HTS.out
        rw [hR2c] at h9
        obtain ⟨x, co, ts', R3, htk3, hg3, hw3, hn3, hlt3, hsb3, hxne, hcase⟩ := ph_split (ph_nosp (HR2.out.trans hR2c)) (show GoodS (c :: t) by rw [← hR2c]; exact HG2.out) h9 HWS.out HNM.out
        have HGC := Lib.hid (show GoodS (c :: t) by rw [← hR2c]; exact HG2.out)
        have HPWc := Lib.hid HPW3.out
        rw [hR2c] at HPWc
        have hcl : (c :: t).length ≤ R.length := by rw [← hR2c]; exact hR2l
        have HTK3 := Lib.hid htk3; have HG3 := Lib.hid hg3; have HW3 := Lib.hid hw3; have HN3 := Lib.hid hn3; have HXNE := Lib.hid hxne; have HCASE := Lib.hid hcase
        clear h9 htk3 hg3 hw3 hn3 hxne hcase hz HPW3 HTS HWS HNM HK0 HG2
        go_wp2_with fail
        refine (ppeek_any pb (.pointer none) (bs (c :: t)) c _ HPWc.out.ps (by rw [bs_size]; simp) (by rfl)).mono ?_
        rintro x wq ⟨rfl, m, hwq⟩
        have HPWq := Lib.hid (show PW pb w (bs (c :: t)) ls (.slice qa ls.length qc) sbl wq by
          rw [hwq]; exact HPWc.out.step hpb (HPWc.out.ps.fr (by rw [heap_drewN])) ((Fr.refl _ _).drewN m))
        clear hwq HPWc
        have hct := c.toNat_lt
        go_upto_if 21 with fail
        go_cut [3, 6, 7] from 21 to 40 (fun r3 r6 r7 wx => r3 = .nilIface ∧ r6 = .string (bs x) ∧ r7 = .bool co ∧ PW pb w (bs R3) ls (.slice qa ls.length qc) sbl wx)
        case first =>
          rcases HCASE.out with ⟨hc34, hco, n, hq, hR3⟩ | ⟨hc34, a, ha0, hta, hda, hco⟩
          · have t6 : ((c.toNat : Int) == 34) = true := ceq hc34
            have HQ := Lib.hid hq; have HCO := Lib.hid hco; have HR3 := Lib.hid hR3; have HC34 := Lib.hid hc34
            clear hq hco hR3 hc34
            go_wp2_with fail
            refine (cquoted_yes pb (.pointer none) (bs (c :: t)) t x n _ HPWq.out.ps (by rw [bs_size]; omega) (by rw [bs_list]; exact HGC.out.valid) (tabs_b HT.out HPWq.out.fr HGP.out.1 HGP.out.2.1) (by rw [bs_list, HC34.out]) HQ.out (fun d hd => HGC.out.ctl d (List.mem_cons_of_mem _ hd))).mono ?_
            rintro r w5 ⟨rfl, hp, hf⟩
            have HPW5 := Lib.hid (HPWq.out.step hpb hp hf)
            rw [← HR3.out] at HPW5
            clear hp hf
            go_wp2
            go_meet
            exact ⟨rfl, rfl, by rw [HCO.out], HPW5.out⟩
          · have t6 : ((c.toNat : Int) == 34) = false := cneq hc34
            have HTA := Lib.hid hta; have HCO := Lib.hid hco; have HDA := Lib.hid hda; have HA0 := Lib.hid ha0
            clear hta hco hda ha0 hc34
            go_wp2_with fail
            refine (catom_yes pb (.pointer none) (bs (c :: t)) _ HPWq.out.ps (by rw [bs_size]; omega) (by rw [bs_list]; exact HGC.out.valid) (tabs_b HT.out HPWq.out.fr HGP.out.1 HGP.out.2.1) (by rw [bs_list, HTA.out]; exact HA0.out)).mono ?_
            rw [bs_list, HTA.out, HDA.out]
            rintro r w5 ⟨rfl, hp, hf⟩
            have HPW5 := Lib.hid (HPWq.out.step hpb hp hf)
            clear hp hf
            go_wp2_with fail
            rcases HCO.out with ⟨rfl, rfl, hpre⟩ | ⟨rfl, hdec⟩
            · refine (dword_no pb (bs R3) (bs x) et ev _ HPW5.out.ps (by rw [bs_list]; exact hpre) (by rw [HPW5.out.fr.cell ⟨HGP.out.2.2.symm, cell_lt HE.out⟩]; exact HE.out)).mono ?_
              rintro r w6 ⟨rfl, hb6⟩
              have HPW6 := Lib.hid (HPW5.out.step hpb (HPW5.out.ps.below hb6) ((Fr.of_below hb6).mono (fun q hq => hq.2)))
              clear hb6 hpre
              go_wp2
              go_meet
              exact ⟨rfl, rfl, rfl, HPW6.out⟩
            · refine (dword_yes pb (bs R3) (bs a) x _ HPW5.out.ps (by rw [bs_list]; exact hdec)).mono ?_
              rintro r w6 ⟨rfl, hb6⟩
              have HPW6 := Lib.hid (HPW5.out.step hpb (HPW5.out.ps.below hb6) ((Fr.of_below hb6).mono (fun q hq => hq.2)))
              clear hb6 hdec
              go_wp2
              go_meet
              exact ⟨rfl, rfl, rfl, HPW6.out⟩
        case rest =>
          obtain ⟨rfl, rfl, rfl, hpw⟩ := hcut
          have HPW := Lib.hid hpw
          clear hpw HPWq HCASE
          have hkl := HPR.out.kl
          have hsbn := HPR.out.sbn
          have hlsl := HPR.out.lsl
          cases hco : co with
          | true =>
            have HPS := Lib.hid (HPH.out.code (HXNE.out hco))
            have HCO := Lib.hid hco
            clear hco
            go_wp2_with fail
            rw [HSB.out.symm]
            refine (WriteString_any _ _ _ (bs x) _ HPW.out.bld (by rw [bs_size]; omega)).mono ?_
            rw [bs_list]
            rintro r w6 ⟨rfl, hb, hf⟩
            have HPZ := Lib.hid (HPW.out.wrote hpb hb hf)
            clear hb hf
            rw [HSB.out]
            go_wp2
            go_roundw
            case rel => exact ⟨rfl, rfl, R3, k + 1, ls, _, qa, qc, rfl, HPZ.out, HG3.out, ⟨false, ts', l, co, _, HTK3.out, HW3.out, HN3.out, by rw [HCO.out]; exact HPS.out, fun e => by omega⟩, by split at hlsl <;> split <;> omega, by rw [List.length_append]; omega, by omega⟩
            case measure => rw [HPZ.out.ps.strOf, HPR.out.pw.ps.strOf, bs_size, bs_size]; omega
          | false =>
            have HPS := Lib.hid (HPH.out.word (x := x))
            have HCO := Lib.hid hco
            clear hco
            by_cases hs0 : sbl = []
            · have z0 : ¬ (0 : Int) < (sbl.length : Int) := by rw [hs0]; decide
              have HS0 := Lib.hid hs0
              clear hs0
              go_wp2_with fail
              rw [HSB.out.symm]
              refine (bLen_any _ _ _ _ HPW.out.bld).mono ?_
              rintro r w6 ⟨rfl, rfl⟩
              rw [HSB.out]
              go_wp2_with (at_builtin; refine wpList_push_str rfl _ _ rfl w.heap.size ls _ (bs x) _ HPW.out.own HPW.out.fr.size ?c4 rfl rfl ?_)
              case c4 => omega
              rw [bs_list]
              intro v' w7 hown7 hg7 hat7
              replace hown7 : OwnS w.heap.size (ls ++ [x]) v' w7 := by first | exact hown7 | (rw [HSB.out]; exact hown7)
              obtain ⟨qa7, qc7, hv7⟩ := hown7.form
              obtain ⟨n7, hn7⟩ : ∃ n, (ls ++ [x]).length = n := ⟨_, rfl⟩
              rw [hn7] at hv7
              have HN7 := Lib.hid hn7
              clear hn7
              have HPZ := Lib.hid (HPW.out.push hpb hown7 hg7 hat7)
              subst hv7
              clear hown7 hg7 hat7
              go_wp2
              go_roundw
              case rel => exact ⟨rfl, rfl, R3, k + 1, _, _, qa7, qc7, by rw [HN7.out], HPZ.out, HG3.out, ⟨false, ts', l, co, _, HTK3.out, HW3.out, HN3.out, by have := HPS.out; rw [if_pos HS0.out, List.append_nil] at this; rw [HCO.out, HS0.out]; exact this, fun e => by omega⟩, by rw [HS0.out, if_pos rfl] at hlsl ⊢; rw [List.length_append, List.length_singleton]; omega, by rw [HS0.out]; simp; simp at hlt3; omega, by omega⟩
              case measure => rw [HPZ.out.ps.strOf, HPR.out.pw.ps.strOf, bs_size, bs_size]; omega
            · have z0 : (0 : Int) < (sbl.length : Int) := by have := List.length_pos_iff.2 hs0; omega
              have HS0 := Lib.hid hs0
              clear hs0
              go_wp2_with fail
              rw [HSB.out.symm]
              refine (bLen_any _ _ _ _ HPW.out.bld).mono ?_
              rintro r w6 ⟨rfl, rfl⟩
              go_wp2_with fail
              rw [HSB.out.symm]
              refine (String_any _ _ _ _ HPW.out.bld).mono ?_
              rintro r w8 ⟨rfl, hbx, hf8⟩
              have HST := Lib.hid (HPW.out.read hpb hbx hf8)
              clear hbx hf8
              go_wp2_with (at_builtin; refine wpList_push_str rfl _ _ rfl w.heap.size ls _ ⟨sbl.toArray⟩ _ HST.out.own HST.out.fr.size ?c4 rfl rfl ?_)
              case c4 => omega
              intro v' w7 hown7 hg7 hat7
              replace hown7 : OwnS w.heap.size (ls ++ [sbl]) v' w7 := by first | exact hown7 | (rw [HSB.out]; exact hown7)
              obtain ⟨qa7, qc7, hv7⟩ := hown7.form
              obtain ⟨n7, hn7⟩ : ∃ n, (ls ++ [sbl]).length = n := ⟨_, rfl⟩
              rw [hn7] at hv7
              have HN7 := Lib.hid hn7
              clear hn7
              have HST7 := Lib.hid (HST.out.push hpb hown7 hg7 hat7)
              subst hv7
              clear hown7 hg7 hat7
              go_wp2_with fail
              rw [HSB.out.symm]
              refine (bReset_any _ _ _ HST7.out.bld).mono ?_
              rintro r w9 ⟨rfl, hb9, hf9⟩
              have HPW9 := Lib.hid (HST7.out.wrote hpb hb9 hf9)
              clear hb9 hf9
              rw [HSB.out]
              go_wp2_with (at_builtin; refine wpList_push_str rfl _ _ rfl w.heap.size (ls ++ [sbl]) _ (bs x) _ HPW9.out.own HPW9.out.fr.size ?c4 rfl rfl ?_)
              case c4 => rw [List.length_append, List.length_singleton]; omega
              rw [bs_list]
              intro v' wa howna hga hata
              replace howna : OwnS w.heap.size ((ls ++ [sbl]) ++ [x]) v' wa := by first | exact howna | (rw [HSB.out]; exact howna) | (rw [HSB.out, List.append_assoc]; exact howna)
              obtain ⟨qaa, qca, hva⟩ := howna.form
              obtain ⟨na, hna⟩ : ∃ n, (ls ++ [sbl] ++ [x]).length = n := ⟨_, rfl⟩
              rw [hna] at hva
              have HNA := Lib.hid hna
              clear hna
              have HPZ := Lib.hid (HPW9.out.push hpb howna hga hata)
              subst hva
              clear howna hga hata
              go_wp2
              go_roundw
              case rel => exact ⟨rfl, rfl, R3, k + 1, _, _, qaa, qca, by rw [HNA.out], HPZ.out, HG3.out, ⟨false, ts', l, co, _, HTK3.out, HW3.out, HN3.out, by have := HPS.out; rw [if_neg HS0.out] at this; rw [HCO.out]; exact this, fun e => by omega⟩, by rw [if_neg HS0.out] at hlsl; rw [if_pos rfl, List.length_append, List.length_append, List.length_singleton, List.length_singleton]; omega, by simp; simp at hlt3; omega, by omega⟩
              case measure => rw [HPZ.out.ps.strOf, HPR.out.pw.ps.strOf, bs_size, bs_size]; omega
end Go.Proofs.YtpoglombagmhmaaGreatDoor
