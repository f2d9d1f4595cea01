/- Plain Lean: encoded words are the tokens of a name that means the text. -/
import Derived.Test.YtciejdaifjbjdaaDoorX1
namespace Go.Proofs.YtciejdaifjbjdaaDoor
open Go

/-- What may stand in an encoded word of a phrase: of an atom, not '?'. -/
def inB (c : UInt8) : Bool := atomB c && c != 63 && decide (c.toNat < 128)
def inW (x : List UInt8) : Prop := ∀ c ∈ x, inB c = true
theorem inB_atom {c : UInt8} (h : inB c = true) : atomB c = true := by unfold inB at h; rw [Bool.and_eq_true, Bool.and_eq_true] at h; exact h.1.1
theorem inB_ne {c : UInt8} (h : inB c = true) : c ≠ 63 := by unfold inB at h; rw [Bool.and_eq_true, Bool.and_eq_true, bne_iff_ne] at h; exact h.1.2
theorem inB_asc {c : UInt8} (h : inB c = true) : c.toNat < 128 := by unfold inB at h; rw [Bool.and_eq_true, Bool.and_eq_true] at h; exact of_decide_eq_true h.2
theorem atom_plain {c : UInt8} (h : atomB c = true) (h2 : c.toNat < 128) : plainB c = true := by
  have : ∀ k : Fin 128, atomB (UInt8.ofNat k.val) = true → plainB (UInt8.ofNat k.val) = true := by decide
  have := this ⟨c.toNat, h2⟩
  simp only [UInt8.ofNat_toNat] at this
  exact this h
/-- An encoded word with the text x. -/
def wdE (e : UInt8) (x : List UInt8) : List UInt8 := 61 :: 63 :: (utf8S ++ 63 :: e :: 63 :: (x ++ [63, 61]))
theorem wdE_length (e : UInt8) (x : List UInt8) : (wdE e x).length = x.length + 12 := by
  simp [wdE, utf8S]
theorem wordsL_one (e : UInt8) (f : List UInt8 → List UInt8) (cur : List UInt8) : wordsL e f [] cur = wdE e (f cur) := by simp [wordsL, wdE, utf8S]
theorem wordsL_more (e : UInt8) (f : List UInt8 → List UInt8) (c : List UInt8) (done : List (List UInt8)) (cur : List UInt8) : wordsL e f (c :: done) cur = wdE e (f c) ++ 32 :: wordsL e f done cur := by simp [wordsL, wdE, sepL, utf8S]

theorem wdE_atom {e : UInt8} (he : e = 98 ∨ e = 113) {x : List UInt8} (hx : inW x) : ∀ c ∈ wdE e x, atomB c = true := by
  have h0 : atomB e = true := by rcases he with rfl | rfl <;> decide
  intro c hc
  unfold wdE utf8S at hc
  simp only [List.cons_append, List.nil_append, List.mem_cons, List.mem_append, List.not_mem_nil, or_false] at hc
  rcases hc with rfl | rfl | rfl | rfl | rfl | rfl | rfl | rfl | rfl | rfl | hc | rfl | rfl
  all_goals first | decide | exact h0 | exact inB_atom (hx c hc)

/-- The tokens of encoded words. -/
def wTok (e : UInt8) (f : List UInt8 → List UInt8) : Bool → List (List UInt8) → List UInt8 → List Tok
  | last, [], cur => [⟨97, wdE e (f cur), last⟩]
  | last, c :: done, cur => ⟨97, wdE e (f c), last⟩ :: wTok e f true done cur
theorem stops_sp (r : List UInt8) : stops (32 :: r) := fun c t e => by cases e; decide
theorem toks_words {e : UInt8} (he : e = 98 ∨ e = 113) (f : List UInt8 → List UInt8) (cur r : List UInt8) (hcur : inW (f cur)) : ∀ (done : List (List UInt8)) (last : Bool), (∀ c ∈ done, inW (f c)) → toksL last (wordsL e f done cur ++ 32 :: r) = TR.app (wTok e f last done cur) (toksL true r)
  | [], last, _ => by
    rw [wordsL_one, tk_atom last _ _ (by simp [wdE]) (wdE_atom he hcur) (stops_sp r), tk_sp, wTok]
    cases toksL true r <;> rfl
  | c :: done, last, h => by
    have ih := toks_words he f cur r hcur done true (fun d hd => h d (by simp [hd]))
    rw [wordsL_more, List.append_assoc, List.cons_append, tk_atom last _ _ (by simp [wdE]) (wdE_atom he (h c (by simp))) (stops_sp _), tk_sp, ih, wTok]
    cases toksL true r <;> rfl
theorem wTok_word (e : UInt8) (f : List UInt8 → List UInt8) (cur : List UInt8) : ∀ (done : List (List UInt8)) (last : Bool), ∀ t ∈ wTok e f last done cur, wordK t = true
  | [], last, t, h => by rw [wTok, List.mem_singleton] at h; rw [h]; rfl
  | c :: done, last, t, h => by
    rw [wTok] at h
    rcases List.mem_cons.1 h with rfl | h
    · rfl
    · exact wTok_word e f cur done true t h
theorem wTok_tlen (e : UInt8) (f : List UInt8 → List UInt8) (cur : List UInt8) : ∀ (done : List (List UInt8)) (last : Bool), tlen (wTok e f last done cur) ≤ (wordsL e f done cur).length + 1
  | [], last => by rw [wTok, wordsL_one]; simp [tlen]
  | c :: done, last => by
    have ih := wTok_tlen e f cur done true
    rw [wTok, wordsL_more]
    simp only [tlen, List.map_cons, List.sum_cons, List.length_append, List.length_cons] at ih ⊢
    omega

/-- A word is decoded to its text. -/
theorem decoded_wd {e : UInt8} {x c : List UInt8} (hx : inW x) (hne : x ≠ []) (hl : x.length ≤ 63) (hc : bytesC [e] x true = some c) (he : e ≠ 63) (hv : Lib.validD c = true) : decodedL (wdE e x) true = some c := by
  have hlen := wdE_length e x
  have hx0 : x.length ≠ 0 := fun h => hne (List.eq_nil_of_length_eq_zero h)
  obtain ⟨y, hy⟩ : ∃ y, 61 :: 63 :: (utf8S ++ 63 :: e :: 63 :: x) = y := ⟨_, rfl⟩
  have hw : wdE e x = y ++ [63, 61] := by rw [← hy]; simp [wdE]
  have hyl : y.length + 2 = (wdE e x).length := by rw [hw]; simp
  unfold decodedL
  rw [if_neg]
  · have h1 : (wdE e x).take ((wdE e x).length - 2) = y := by
      rw [← hyl, Nat.add_sub_cancel, hw, List.take_left]
    rw [h1, ← hy, List.drop_succ_cons, List.drop_succ_cons, List.drop_zero]
    rw [splitQ_mid utf8S _ (by decide)]
    rw [show e :: 63 :: x = [e] ++ 63 :: x from rfl, splitQ_mid [e] _ (fun d hd => by rw [List.mem_singleton.1 hd]; exact he), splitQ_end x (fun d hd => inB_ne (hx d hd))]
    unfold partsC
    simp only
    rw [if_neg hne, hc]
    show textC utf8S c = some c
    unfold textC
    rw [if_pos (by decide), if_pos hv]
  · rintro (h | h | h | h)
    · omega
    · omega
    · exact h rfl
    · apply h
      rw [← hyl, Nat.add_sub_cancel, hw, List.drop_left]

theorem nameG_words {e : UInt8} (f : List UInt8 → List UInt8) (cur : List UInt8) (hcur : decodedL (wdE e (f cur)) true = some cur) : ∀ (done : List (List UInt8)) (last : Bool) (k : Nat) (coded : Bool) (out : List UInt8), (∀ c ∈ done, decodedL (wdE e (f c)) true = some c) → (k = 0 ∨ (last = true ∧ coded = true)) → nameG (wTok e f last done cur) k true coded out = (true, out ++ done.flatten ++ cur)
  | [], last, k, coded, out, _, h0 => by
    have hc : nCode ⟨97, wdE e (f cur), last⟩ = true := rfl
    rw [wTok, nameG, nameG]
    unfold nText nDec nBad
    rw [hc]
    simp only [hcur]
    rcases h0 with rfl | ⟨rfl, rfl⟩ <;> simp
  | c :: done, last, k, coded, out, h, h0 => by
    have hc : nCode ⟨97, wdE e (f c), last⟩ = true := rfl
    have hd := h c (by simp)
    have ih := nameG_words f cur hcur done true (k + 1) true (out ++ c) (fun d hd => h d (by simp [hd])) (.inr ⟨rfl, rfl⟩)
    rw [wTok, nameG]
    rw [show (true && !nBad k ⟨97, wdE e (f c), last⟩ && nDec ⟨97, wdE e (f c), last⟩) = true by
      unfold nDec nBad
      rw [hc]
      simp only [hd]
      rcases h0 with rfl | ⟨rfl, rfl⟩ <;> simp]
    rw [hc, show out ++ (if (decide (0 < k) && !(coded && true)) = true then [32] else []) ++ nText ⟨97, wdE e (f c), last⟩ = out ++ c by
      unfold nText
      rw [hc]
      simp only [hd]
      rcases h0 with rfl | ⟨rfl, rfl⟩ <;> simp, ih]
    simp

/-! Q -/
theorem hexV_hexU (n : Nat) (h : n < 16) : hexV (hexU n) = some n := by
  have : ∀ k : Fin 16, hexV (hexU k.val) = some k.val := by decide
  exact this ⟨n, h⟩
theorem hexU_atom (n : Nat) (h : n < 16) : inB (hexU n) = true := by
  have : ∀ k : Fin 16, inB (hexU k.val) = true := by decide
  exact this ⟨n, h⟩
/-- A name that may be written by Q in a phrase: what stands raw there is of a phrase. -/
def qName (l : List UInt8) : Prop := ∀ c ∈ l, qRaw c = true → qOk true c = true
theorem qOk_in {c : UInt8} (h : qOk true c = true) : inB c = true := by
  have h2 : c.toNat < 128 := by
    unfold qOk at h
    rw [Bool.not_true, Bool.false_and, Bool.or_false] at h
    have h := of_decide_eq_true h
    rcases h with h | h | h | rfl | rfl | rfl | rfl | rfl
    · omega
    · omega
    · omega
    all_goals decide
  have : ∀ k : Fin 128, qOk true (UInt8.ofNat k.val) = true → inB (UInt8.ofNat k.val) = true := by decide
  have := this ⟨c.toNat, h2⟩
  simp only [UInt8.ofNat_toNat] at this
  exact this h
theorem qStr_in {l : List UInt8} (h : qName l) : inW (qStr l) := by
  intro c hc
  obtain ⟨d, hd, hdc⟩ := List.mem_flatMap.1 hc
  unfold qByte at hdc
  have hlt := d.toNat_lt
  split at hdc
  · rw [List.mem_singleton.1 hdc]; decide
  · split at hdc
    · rename_i hr
      rw [List.mem_singleton.1 hdc]
      exact qOk_in (h d hd hr)
    · simp only [List.mem_cons, List.not_mem_nil, or_false] at hdc
      rcases hdc with rfl | rfl | rfl
      · decide
      · exact hexU_atom _ (by omega)
      · exact hexU_atom _ (by omega)
theorem unqL_qStr : ∀ {l : List UInt8}, qName l → unqL true (qStr l) = some l
  | [], _ => unqL_nil true
  | d :: l, h => by
    have ih := unqL_qStr (l := l) (fun c hc => h c (by simp [hc]))
    have hlt := d.toNat_lt
    rw [show qStr (d :: l) = qByte d ++ qStr l from by simp [qStr]]
    unfold qByte
    split
    · rename_i h32
      have : d = 32 := UInt8.toNat_inj.1 h32
      rw [List.singleton_append, unqL_us, ih, this]; rfl
    · split
      · rename_i hr
        rw [List.singleton_append, unqL_raw _ (fun e => by rw [e] at hr; exact absurd hr (by decide)) (fun e => by rw [e] at hr; exact absurd hr (by decide)) (h d (by simp) hr), ih]; rfl
      · rw [List.cons_append, List.cons_append, List.singleton_append, unqL_eq, hexV_hexU _ (by omega), hexV_hexU _ (by omega), ih]
        have : UInt8.ofNat (16 * (d.toNat / 16) + d.toNat % 16) = d := by
          rw [show 16 * (d.toNat / 16) + d.toNat % 16 = d.toNat by omega]
          exact UInt8.ofNat_toNat
        simp only [this, Option.map_some]

/-! base64 -/
theorem sgn_in (i : Nat) (h : i < 64) : inB (sgn i) = true := by
  have : ∀ k : Fin 64, inB (sgn k.val) = true := by decide
  exact this ⟨i, h⟩
theorem b64_in : ∀ (l : List UInt8), inW (b64 l)
  | [], c, h => by cases h
  | [a], c, h => by
    have := a.toNat_lt
    simp only [b64, List.mem_cons, List.not_mem_nil, or_false] at h
    rcases h with rfl | rfl | rfl | rfl
    · exact sgn_in _ (by omega)
    · exact sgn_in _ (by omega)
    · decide
    · decide
  | [a, b], c, h => by
    have := a.toNat_lt; have := b.toNat_lt
    simp only [b64, List.mem_cons, List.not_mem_nil, or_false] at h
    rcases h with rfl | rfl | rfl | rfl
    · exact sgn_in _ (by omega)
    · exact sgn_in _ (by omega)
    · exact sgn_in _ (by omega)
    · decide
  | a :: b :: d :: t, c, h => by
    have := a.toNat_lt; have := b.toNat_lt; have := d.toNat_lt
    simp only [b64, List.mem_cons] at h
    rcases h with rfl | rfl | rfl | rfl | h
    · exact sgn_in _ (by omega)
    · exact sgn_in _ (by omega)
    · exact sgn_in _ (by omega)
    · exact sgn_in _ (by omega)
    · exact b64_in t c h
theorem sgn_idx (i : Nat) (h : i < 64) : aIdx (sgn i).toNat = i := by rw [sgn_toNat i h, aIdx_alpha i h]
theorem sgn_dig (i : Nat) (h : i < 64) : digZ (sgn i) = i := by unfold digZ; rw [sgn_idx i h, if_pos h]
theorem sgn_pad (i : Nat) (h : i < 64) : padB (sgn i) = false := by unfold padB; rw [sgn_idx i h, decide_eq_true h]; rfl
theorem sgn_sign (last e : Bool) (k i : Nat) (h : i < 64) : okSign last e k (sgn i) = true := by unfold okSign; rw [sgn_pad i h]; rfl
theorem ofNat_eq {n : Nat} {a : UInt8} (h : n % 256 = a.toNat) : UInt8.ofNat n = a := by
  apply UInt8.toNat_inj.1
  rw [UInt8.toNat_ofNat']
  exact h
theorem group_three (a b c : UInt8) (last : Bool) : groupL [sgn (a.toNat / 4), sgn (a.toNat % 4 * 16 + b.toNat / 16), sgn (b.toNat % 16 * 4 + c.toNat / 64), sgn (c.toNat % 64)] last = some [a, b, c] := by
  have ha := a.toNat_lt; have hb := b.toNat_lt; have hc := c.toNat_lt
  have h0 : a.toNat / 4 < 64 := by omega
  have h1 : a.toNat % 4 * 16 + b.toNat / 16 < 64 := by omega
  have h2 : b.toNat % 16 * 4 + c.toNat / 64 < 64 := by omega
  have h3 : c.toNat % 64 < 64 := by omega
  unfold groupL
  rw [if_pos (by simp only [okAll, sgn_sign _ _ _ _ h0, sgn_sign _ _ _ _ h1, sgn_sign _ _ _ _ h2, sgn_sign _ _ _ _ h3]; rfl)]
  have hp : pads [sgn (a.toNat / 4), sgn (a.toNat % 4 * 16 + b.toNat / 16), sgn (b.toNat % 16 * 4 + c.toNat / 64), sgn (c.toNat % 64)] = 0 := by
    unfold pads
    simp [sgn_pad _ h0, sgn_pad _ h1, sgn_pad _ h2, sgn_pad _ h3]
  have hX : foldX [sgn (a.toNat / 4), sgn (a.toNat % 4 * 16 + b.toNat / 16), sgn (b.toNat % 16 * 4 + c.toNat / 64), sgn (c.toNat % 64)] = a.toNat * 65536 + b.toNat * 256 + c.toNat := by
    simp only [foldX, List.foldl_cons, List.foldl_nil, sgn_dig _ h0, sgn_dig _ h1, sgn_dig _ h2, sgn_dig _ h3]
    omega
  rw [hp, hX, if_pos (by omega)]
  have e1 : UInt8.ofNat ((a.toNat * 65536 + b.toNat * 256 + c.toNat) / 2 ^ 16) = a := ofNat_eq (by omega)
  have e2 : UInt8.ofNat ((a.toNat * 65536 + b.toNat * 256 + c.toNat) / 2 ^ 8) = b := ofNat_eq (by omega)
  have e3 : UInt8.ofNat ((a.toNat * 65536 + b.toNat * 256 + c.toNat) / 2 ^ 0) = c := ofNat_eq (by omega)
  show some [UInt8.ofNat ((a.toNat * 65536 + b.toNat * 256 + c.toNat) / 2 ^ 16), UInt8.ofNat ((a.toNat * 65536 + b.toNat * 256 + c.toNat) / 2 ^ 8), UInt8.ofNat ((a.toNat * 65536 + b.toNat * 256 + c.toNat) / 2 ^ 0)] = _
  rw [e1, e2, e3]
theorem pad_61 : padB 61 = true ∧ digZ 61 = 0 := by decide
theorem group_two (a b : UInt8) : groupL [sgn (a.toNat / 4), sgn (a.toNat % 4 * 16 + b.toNat / 16), sgn (b.toNat % 16 * 4), 61] true = some [a, b] := by
  have ha := a.toNat_lt; have hb := b.toNat_lt
  have h0 : a.toNat / 4 < 64 := by omega
  have h1 : a.toNat % 4 * 16 + b.toNat / 16 < 64 := by omega
  have h2 : b.toNat % 16 * 4 < 64 := by omega
  unfold groupL
  rw [if_pos (by simp only [okAll, sgn_sign _ _ _ _ h0, sgn_sign _ _ _ _ h1, sgn_sign _ _ _ _ h2]; rfl)]
  have hp : pads [sgn (a.toNat / 4), sgn (a.toNat % 4 * 16 + b.toNat / 16), sgn (b.toNat % 16 * 4), 61] = 1 := by
    unfold pads
    simp [sgn_pad _ h0, sgn_pad _ h1, sgn_pad _ h2, pad_61.1]
  have hX : foldX [sgn (a.toNat / 4), sgn (a.toNat % 4 * 16 + b.toNat / 16), sgn (b.toNat % 16 * 4), 61] = a.toNat * 65536 + b.toNat * 256 := by
    simp only [foldX, List.foldl_cons, List.foldl_nil, sgn_dig _ h0, sgn_dig _ h1, sgn_dig _ h2, pad_61.2]
    omega
  rw [hp, hX, if_pos (by omega)]
  have e1 : UInt8.ofNat ((a.toNat * 65536 + b.toNat * 256) / 2 ^ 16) = a := ofNat_eq (by omega)
  have e2 : UInt8.ofNat ((a.toNat * 65536 + b.toNat * 256) / 2 ^ 8) = b := ofNat_eq (by omega)
  show some [UInt8.ofNat ((a.toNat * 65536 + b.toNat * 256) / 2 ^ 16), UInt8.ofNat ((a.toNat * 65536 + b.toNat * 256) / 2 ^ 8)] = _
  rw [e1, e2]
theorem group_one (a : UInt8) : groupL [sgn (a.toNat / 4), sgn (a.toNat % 4 * 16), 61, 61] true = some [a] := by
  have ha := a.toNat_lt
  have h0 : a.toNat / 4 < 64 := by omega
  have h1 : a.toNat % 4 * 16 < 64 := by omega
  unfold groupL
  rw [if_pos (by simp only [okAll, sgn_sign _ _ _ _ h0, sgn_sign _ _ _ _ h1]; rfl)]
  have hp : pads [sgn (a.toNat / 4), sgn (a.toNat % 4 * 16), 61, 61] = 2 := by
    unfold pads
    simp [sgn_pad _ h0, sgn_pad _ h1, pad_61.1]
  have hX : foldX [sgn (a.toNat / 4), sgn (a.toNat % 4 * 16), 61, 61] = a.toNat * 65536 := by
    simp only [foldX, List.foldl_cons, List.foldl_nil, sgn_dig _ h0, sgn_dig _ h1, pad_61.2]
    omega
  rw [hp, hX, if_pos (by omega)]
  have e1 : UInt8.ofNat ((a.toNat * 65536) / 2 ^ 16) = a := ofNat_eq (by omega)
  show some [UInt8.ofNat ((a.toNat * 65536) / 2 ^ 16)] = _
  rw [e1]
theorem unbG_b64 : ∀ l : List UInt8, unbG (b64 l) = some l
  | [] => by rw [b64, unbG]; simp
  | [a] => by rw [b64, unbG, List.isEmpty_nil, group_one, unbG] <;> simp
  | [a, b] => by rw [b64, unbG, List.isEmpty_nil, group_two, unbG] <;> simp
  | a :: b :: c :: t => by
    have ih := unbG_b64 t
    rw [b64, unbG, group_three, ih]; rfl
theorem unbL_b64 (l : List UInt8) : unbL (b64 l) = some l := by
  unfold unbL
  rw [if_pos (by rw [b64_length]; omega), unbG_b64]

theorem wdE_plain {e : UInt8} (he : e = 98 ∨ e = 113) {x : List UInt8} (hx : inW x) : ∀ c ∈ wdE e x, plainB c = true := by
  have h0 : plainB e = true := by rcases he with rfl | rfl <;> decide
  intro c hc
  unfold wdE utf8S at hc
  simp only [List.cons_append, List.nil_append, List.mem_cons, List.mem_append, List.not_mem_nil, or_false] at hc
  rcases hc with rfl | rfl | rfl | rfl | rfl | rfl | rfl | rfl | rfl | rfl | hc | rfl | rfl
  all_goals first | decide | exact h0 | exact atom_plain (inB_atom (hx c hc)) (inB_asc (hx c hc))
theorem wordsL_plain {e : UInt8} (he : e = 98 ∨ e = 113) (f : List UInt8 → List UInt8) (cur : List UInt8) (hcur : inW (f cur)) : ∀ (done : List (List UInt8)), (∀ c ∈ done, inW (f c)) → ∀ c ∈ wordsL e f done cur, plainB c = true
  | [], _, c, hc => by
    rw [wordsL_one] at hc
    exact wdE_plain he hcur c hc
  | d :: done, h, c, hc => by
    rw [wordsL_more] at hc
    rcases List.mem_append.1 hc with hc | hc
    · exact wdE_plain he (h d (by simp)) c hc
    · rcases List.mem_cons.1 hc with rfl | hc
      · decide
      · exact wordsL_plain he f cur hcur done (fun x hx => h x (by simp [hx])) c hc

/-- What a printed name is: its tokens ahead of a blank, and what they mean. -/
structure Named (n l : List UInt8) (ts : List Tok) : Prop where
  toks : ∀ r, toksL false (l ++ 32 :: r) = TR.app ts (toksL true r)
  word : ∀ t ∈ ts, wordK t = true
  name : nameG ts 0 true false [] = (true, n)
  len : tlen ts ≤ l.length + 1
  plain : plainL l = true
theorem named_of {e : UInt8} (he : e = 98 ∨ e = 113) (f : List UInt8 → List UInt8) (done : List (List UInt8)) (cur : List UInt8) (n : List UInt8) (hn : (done ++ [cur]).flatten = n) (hin : ∀ c ∈ done ++ [cur], inW (f c)) (hd : ∀ c ∈ done ++ [cur], decodedL (wdE e (f c)) true = some c) : ∃ ts, Named n (wordsL e f done cur) ts := by
  refine ⟨wTok e f false done cur, ⟨fun r => ?_, wTok_word e f cur done false, ?_, wTok_tlen e f cur done false, ?_⟩⟩
  · exact toks_words he f cur r (hin cur (by simp)) done false (fun c hc => hin c (by simp [hc]))
  · rw [nameG_words f cur (hd cur (by simp)) done false 0 false [] (fun c hc => hd c (by simp [hc])) (.inl rfl), ← hn]
    simp
  · exact List.all_eq_true.2 (wordsL_plain he f cur (hin cur (by simp)) done (fun c hc => hin c (by simp [hc])))
theorem qStr_ne {c : List UInt8} (h : c ≠ []) : qStr c ≠ [] := by
  intro e
  have := (qStr_le c).1
  rw [e] at this
  exact h (List.eq_nil_of_length_eq_zero (Nat.le_zero.1 this))
theorem b64_ne {c : List UInt8} (h : c ≠ []) : b64 c ≠ [] := by
  intro e
  have := b64_length c
  rw [e] at this
  have h0 : c.length ≠ 0 := fun e => h (List.eq_nil_of_length_eq_zero e)
  simp only [List.length_nil] at this
  omega
theorem words_len {e : UInt8} {s : ByteArray} {l : List UInt8} (h : Words e s l) : l.length ≤ 20 * s.size + 80 := by
  obtain ⟨done, cur, hfl, hw⟩ := h
  have hflz : (done ++ [cur]).flatten.length = s.size := by rw [hfl, Array.length_toList]; rfl
  rcases hw with ⟨rfl, hg, rfl⟩ | ⟨rfl, hg, rfl⟩
  · have hr := bRoom hg s.size hflz
    have e1 : (done.flatMap fun c => b64 c ++ sepL 98) = bMid (sepL 98) done := rfl
    unfold wordsL
    rw [e1]
    simp only [List.length_append, List.length_cons, List.length_nil, show utf8S.length = 5 from rfl]
    omega
  · have hr := qRoom hg s.size hflz
    have e1 : (done.flatMap fun c => qStr c ++ sepL 113) = qMid (sepL 113) done := rfl
    unfold wordsL
    rw [e1]
    simp only [List.length_append, List.length_cons, List.length_nil, show utf8S.length = 5 from rfl]
    omega
theorem words_name {e : UInt8} {s : ByteArray} {l : List UInt8} (h : Words e s l) (hq : e = 113 → qName s.data.toList) : ∃ ts, Named s.data.toList l ts := by
  obtain ⟨done, cur, hfl, hw⟩ := h
  rcases hw with ⟨rfl, hg, rfl⟩ | ⟨rfl, hg, rfl⟩
  · refine named_of (.inl rfl) b64 done cur _ hfl (fun c _ => b64_in c) (fun c hc => ?_)
    obtain ⟨h0, h1, h2⟩ := hg c hc
    refine decoded_wd (b64_in c) (b64_ne h0) (by rw [b64_length]; omega) ?_ (by decide) h1
    unfold bytesC
    rw [if_neg (by decide), if_pos (by decide), unbL_b64]
  · have hqn := hq rfl
    have hsub : ∀ c ∈ done ++ [cur], qName c := fun c hc d hd hr => hqn d (by rw [← hfl]; exact List.mem_flatten.2 ⟨c, hc, hd⟩) hr
    refine named_of (.inr rfl) qStr done cur _ hfl (fun c hc => qStr_in (hsub c hc)) (fun c hc => ?_)
    obtain ⟨h0, h1, h2⟩ := hg c hc
    refine decoded_wd (qStr_in (hsub c hc)) (qStr_ne h0) h2 ?_ (by decide) h1
    unfold bytesC
    rw [if_pos (by decide), unqL_qStr (hsub c hc)]
theorem qs_name {s : List UInt8} (h : plainL s = true) (h0 : s ≠ []) : ∃ ts, Named s (qsL s) ts := by
  refine ⟨[⟨113, s, false⟩], ⟨fun r => ?_, fun t ht => by rw [List.mem_singleton.1 ht]; rfl, nameG_quoted s h0, ?_, ?_⟩⟩
  · rw [toks_qs s r h]
    cases toksL true r <;> rfl
  · have : ∀ s : List UInt8, s.length ≤ (s.flatMap qsB).length := by
      intro s
      induction s with
      | nil => simp
      | cons c t ih =>
        rw [List.flatMap_cons, List.length_append]
        have : 1 ≤ (qsB c).length := by unfold qsB; split <;> simp
        simp only [List.length_cons]; omega
    have := this s
    unfold qsL
    simp only [tlen, List.map_cons, List.map_nil, List.sum_cons, List.sum_nil, List.length_append, List.length_singleton]
    omega
  · unfold plainL at h ⊢
    rw [List.all_eq_true] at h ⊢
    intro c hc
    unfold qsL at hc
    simp only [List.mem_append, List.mem_singleton] at hc
    rcases hc with (rfl | hc) | rfl
    · decide
    · obtain ⟨d, hd, hdc⟩ := List.mem_flatMap.1 hc
      unfold qsB at hdc
      split at hdc
      · simp only [List.mem_cons, List.not_mem_nil, or_false] at hdc
        rcases hdc with rfl | rfl
        · decide
        · exact h _ hd
      · rw [List.mem_singleton.1 hdc]; exact h _ hd
    · decide

/-- The whole printed text. -/
theorem dots_plain {l : List UInt8} (h : Dots l) : ∀ c ∈ l, plainB c = true := by
  induction h with
  | one a h0 h => exact fun c hc => atom_plain (h c hc).1 (h c hc).2
  | more a l h0 h hl ih =>
    intro c hc
    rcases List.mem_append.1 hc with hc | hc
    · exact atom_plain (h c hc).1 (h c hc).2
    · rcases List.mem_cons.1 hc with rfl | hc
      · decide
      · exact ih c hc
theorem angle_plain {l d : List UInt8} (hl : Dots l) (hd : Dots d) : plainL (angleL l d) = true := by
  refine List.all_eq_true.2 (fun c hc => ?_)
  unfold angleL at hc
  simp only [List.mem_append, List.mem_singleton] at hc
  rcases hc with (((rfl | hc) | rfl) | hc) | rfl
  · decide
  · exact dots_plain hl c hc
  · decide
  · exact dots_plain hd c hc
  · decide
theorem plain_ascii {l : List UInt8} (h : plainL l = true) : ∀ c ∈ l, c.toNat < 128 ∧ ctlB c = false := by
  intro c hc
  have := of_decide_eq_true (List.all_eq_true.1 h c hc)
  refine ⟨by omega, ?_⟩
  unfold ctlB
  exact decide_eq_false (by omega)
theorem plain_valid : ∀ {l : List UInt8}, plainL l = true → Lib.validD l = true
  | [], _ => Lib.validD_nil
  | c :: t, h => by
    rw [Lib.validD_cons c t (plain_ascii h c (by simp)).1]
    unfold plainL at h
    rw [List.all_cons, Bool.and_eq_true] at h
    exact plain_valid (l := t) h.2
theorem plain_tokens {l : List UInt8} (h : plainL l = true) : tokensL l = toksL false l := by
  unfold tokensL
  rw [if_neg (by rw [plain_valid h]; simp), if_neg]
  intro hc
  obtain ⟨c, hc, hd⟩ := List.any_eq_true.1 hc
  rw [(plain_ascii h c hc).2] at hd
  cases hd
end Go.Proofs.YtciejdaifjbjdaaDoor
