/- Plain Lean: runes of UTF-8 as pieces of a list of bytes. -/
import Derived.Lib.ValidLaws
import Derived.Lib.MapLaws
import Derived.Lib.RuneBytes
namespace Go.Proofs.YtpoglombagmhmaaGreatDoor
open Go Go.Lib

/-- The width of the rune ahead. -/
def wd (l : List UInt8) : Nat := (decodeL l).2
/-- The rune ahead is a true one. -/
def okR (l : List UInt8) : Prop := l ≠ [] ∧ ¬ ((decodeL l).1 = 65533 ∧ (decodeL l).2 = 1)

set_option maxRecDepth 100000 in
set_option maxHeartbeats 4000000 in
theorem decodeN_ext (n n' b0 b1 b2 b3 c1 c2 c3 : Nat) (hne : ¬ ((decodeN n b0 b1 b2 b3).1 = 65533 ∧ (decodeN n b0 b1 b2 b3).2 = 1)) (hn : (decodeN n b0 b1 b2 b3).2 ≤ n')
    (e1 : 1 < (decodeN n b0 b1 b2 b3).2 → c1 = b1) (e2 : 2 < (decodeN n b0 b1 b2 b3).2 → c2 = b2) (e3 : 3 < (decodeN n b0 b1 b2 b3).2 → c3 = b3) : decodeN n' b0 c1 c2 c3 = decodeN n b0 b1 b2 b3 := by
  rcases decodeN_shape n b0 b1 b2 b3 with ⟨c, e⟩ | ⟨k1, k2, k3, kv, e⟩ | ⟨k1, k2, k3, k4, kv, ks, e⟩ | ⟨k1, k2, k3, k4, k5, kv, kw, e⟩ | e
  · rw [e]; unfold decodeN; rw [if_pos c]
  · rw [e] at e1 e2 e3 hn ⊢
    have E1 := e1 (by omega); subst E1
    simp only at hn
    unfold decodeN
    rw [if_neg (by omega), if_pos (by omega), if_pos (by omega)]
  · rw [e] at e1 e2 e3 hn ⊢
    have E1 := e1 (by omega); subst E1
    have E2 := e2 (by omega); subst E2
    simp only at hn
    unfold decodeN
    rw [if_neg (by omega), if_neg (by omega), if_pos (by omega), if_pos (by omega)]
  · rw [e] at e1 e2 e3 hn ⊢
    have E1 := e1 (by omega); subst E1
    have E2 := e2 (by omega); subst E2
    have E3 := e3 (by omega); subst E3
    simp only at hn
    unfold decodeN
    rw [if_neg (by omega), if_neg (by omega), if_neg (by omega), if_pos (by omega), if_pos (by omega)]
  · exact absurd ⟨by rw [e], by rw [e]⟩ hne

theorem wd_pos (l : List UInt8) : 1 ≤ wd l := decodeL_width l
theorem wd_le (l : List UInt8) (h : l ≠ []) : wd l ≤ l.length := decodeL_le l h
theorem wd_le4 (l : List UInt8) : wd l ≤ 4 := by
  unfold wd
  rw [decodeL_N]
  rcases decodeN_shape l.length (l.getD 0 0).toNat (l.getD 1 0).toNat (l.getD 2 0).toNat (l.getD 3 0).toNat with ⟨c, e⟩ | ⟨_, _, _, _, e⟩ | ⟨_, _, _, _, _, _, e⟩ | ⟨_, _, _, _, _, _, _, e⟩ | e <;> rw [e] <;> simp
theorem okR_nil_ne {l : List UInt8} (h : okR l) : l ≠ [] := h.1

/-- What lies behind a true rune doesn't matter. -/
theorem decode_take (l : List UInt8) (k : Nat) (h : okR l) (hk : wd l ≤ k) : decodeL (l.take k) = decodeL l := by
  have hne := okR_nil_ne h
  have hle := wd_le l hne
  replace h := h.2
  unfold wd at hk hle
  rw [decodeL_N l] at h hk hle ⊢
  rw [decodeL_N (l.take k)]
  have hk0 := decodeL_width l
  rw [decodeL_N l] at hk0
  have h0 : (l.take k).getD 0 0 = l.getD 0 0 := getD_takeU l k 0 (by omega)
  rw [h0]
  refine decodeN_ext _ _ _ _ _ _ _ _ _ h ?_ ?_ ?_ ?_
  · rw [List.length_take]; omega
  · intro h1; rw [getD_takeU l k 1 (by omega)]
  · intro h1; rw [getD_takeU l k 2 (by omega)]
  · intro h1; rw [getD_takeU l k 3 (by omega)]
theorem decode_app (l t : List UInt8) (h : okR l) : decodeL (l ++ t) = decodeL l := by
  have hne := okR_nil_ne h
  have hle := wd_le l hne
  replace h := h.2
  unfold wd at hle
  rw [decodeL_N l] at h hle ⊢
  rw [decodeL_N (l ++ t)]
  have hg : ∀ j, j < l.length → (l ++ t).getD j 0 = l.getD j 0 := fun j hj => by simp [List.getD, List.getElem?_append_left hj]
  rw [hg 0 (List.length_pos_iff.2 hne)]
  refine decodeN_ext _ _ _ _ _ _ _ _ _ h ?_ ?_ ?_ ?_
  · rw [List.length_append]; omega
  · intro h1; rw [hg 1 (by omega)]
  · intro h1; rw [hg 2 (by omega)]
  · intro h1; rw [hg 3 (by omega)]
theorem okR_app {l : List UInt8} (t : List UInt8) (h : okR l) : okR (l ++ t) := ⟨by simp [h.1], by rw [decode_app l t h]; exact h.2⟩
theorem okR_take {l : List UInt8} (k : Nat) (h : okR l) (hk : wd l ≤ k) : okR (l.take k) := ⟨by have := wd_pos l; have h1 := h.1; intro e; rcases List.take_eq_nil_iff.1 e with e | e <;> first | omega | exact h1 e, by rw [decode_take l k h hk]; exact h.2⟩
theorem wd_app {l : List UInt8} (t : List UInt8) (h : okR l) : wd (l ++ t) = wd l := by unfold wd; rw [decode_app l t h]
theorem wd_take {l : List UInt8} (k : Nat) (h : okR l) (hk : wd l ≤ k) : wd (l.take k) = wd l := by unfold wd; rw [decode_take l k h hk]

theorem valid_ok {l : List UInt8} (hv : validD l = true) (hne : l ≠ []) : okR l := by
  rw [validD_step l hne] at hv
  refine ⟨hne, fun h => ?_⟩
  rw [if_pos h] at hv
  cases hv
theorem valid_drop {l : List UInt8} (hv : validD l = true) (hne : l ≠ []) : validD (l.drop (wd l)) = true := by
  have h := valid_ok hv hne
  rw [validD_step l hne, if_neg h.2] at hv
  exact hv
theorem valid_one {l : List UInt8} (h : okR l) : validD (l.take (wd l)) = true := by
  have hne := okR_nil_ne h
  have hw := wd_pos l
  have h2 := okR_take (wd l) h (Nat.le_refl _)
  have hw2 := wd_take (wd l) h (Nat.le_refl _)
  have hne2 : l.take (wd l) ≠ [] := okR_nil_ne h2
  rw [validD_step _ hne2, if_neg h2.2]
  have : (l.take (wd l)).drop (decodeL (l.take (wd l))).2 = [] := by
    rw [List.drop_eq_nil_iff, List.length_take]
    have : (decodeL (l.take (wd l))).2 = wd l := hw2
    omega
  rw [this]; rfl
theorem valid_append : ∀ (n : Nat) (a b : List UInt8), a.length ≤ n → validD a = true → validD b = true → validD (a ++ b) = true
  | 0, a, b, hn, _, hb => by
    obtain rfl : a = [] := List.eq_nil_of_length_eq_zero (by omega)
    simpa using hb
  | n + 1, a, b, hn, ha, hb => by
    by_cases hne : a = []
    · subst hne; simpa using hb
    · have ho := valid_ok ha hne
      have hw := wd_pos a
      have hle := wd_le a hne
      have hd := valid_drop ha hne
      have hne2 : a ++ b ≠ [] := by simp [hne]
      have ho2 := okR_app b ho
      rw [validD_step _ hne2, if_neg ho2.2]
      have e1 : (decodeL (a ++ b)).2 = wd a := wd_app b ho
      rw [e1, List.drop_append_of_le_length hle]
      exact valid_append n _ _ (by rw [List.length_drop]; omega) hd hb
/-- A rune ahead of valid text, taken on. -/
theorem valid_snoc {cur rest : List UInt8} (hc : validD cur = true) (hr : validD rest = true) (hne : rest ≠ []) : validD (cur ++ rest.take (wd rest)) = true :=
  valid_append _ _ _ (Nat.le_refl _) hc (valid_one (valid_ok hr hne))
theorem wd_ascii {c : UInt8} {t : List UInt8} (h : c.toNat < 128) : wd (c :: t) = 1 := by unfold wd; rw [decodeL_ascii c t h]
/-- A rune's bytes beyond the first are beyond ASCII. -/
theorem rune_high {l : List UInt8} (h : okR l) (h0 : 128 ≤ (l.getD 0 0).toNat) : ∀ c ∈ l.take (wd l), 128 ≤ c.toNat := by
  have hne := okR_nil_ne h
  have hl : 0 < l.length := List.length_pos_iff.2 hne
  replace h := h.2
  unfold wd
  rw [decodeL_N l] at h ⊢
  rcases decodeN_shape l.length (l.getD 0 0).toNat (l.getD 1 0).toNat (l.getD 2 0).toNat (l.getD 3 0).toNat with ⟨c, e⟩ | ⟨k1, k2, k3, _, e⟩ | ⟨k1, k2, k3, k4, _, _, e⟩ | ⟨k1, k2, k3, k4, k5, _, _, e⟩ | e
  · omega
  · rw [e]; dsimp only; rw [takeB l (by omega)]; intro c hc; simp only [List.mem_cons, List.mem_nil_iff, or_false] at hc; rcases hc with rfl | rfl <;> omega
  · rw [e]; dsimp only; rw [takeC l (by omega)]; intro c hc; simp only [List.mem_cons, List.mem_nil_iff, or_false] at hc; rcases hc with rfl | rfl | rfl <;> omega
  · rw [e]; dsimp only; rw [takeD l (by omega)]; intro c hc; simp only [List.mem_cons, List.mem_nil_iff, or_false] at hc; rcases hc with rfl | rfl | rfl | rfl <;> omega
  · exact absurd ⟨by rw [e], by rw [e]⟩ h
end Go.Proofs.YtpoglombagmhmaaGreatDoor
/- Plain Lean: a text by Q (RFC 2047). -/
namespace Go.Proofs.YtpoglombagmhmaaGreatDoor
open Go Go.Lib

/-- A byte that stands for itself. -/
def qRaw (c : UInt8) : Bool := decide (33 ≤ c.toNat ∧ c.toNat ≤ 126 ∧ c.toNat ≠ 61 ∧ c.toNat ≠ 63 ∧ c.toNat ≠ 95)
/-- A great hexadecimal digit. -/
def hexU (n : Nat) : UInt8 := if n < 10 then UInt8.ofNat (48 + n) else UInt8.ofNat (55 + n)
def qByte (c : UInt8) : List UInt8 := if c.toNat = 32 then [95] else if qRaw c then [c] else [61, hexU (c.toNat / 16), hexU (c.toNat % 16)]
def qStr (l : List UInt8) : List UInt8 := l.flatMap qByte
theorem qStr_nil : qStr [] = [] := rfl
theorem qStr_append (a b : List UInt8) : qStr (a ++ b) = qStr a ++ qStr b := by simp [qStr]
theorem qByte_le (c : UInt8) : 1 ≤ (qByte c).length ∧ (qByte c).length ≤ 3 := by
  unfold qByte; split
  · simp
  · split <;> simp
theorem qStr_le : ∀ l : List UInt8, l.length ≤ (qStr l).length ∧ (qStr l).length ≤ 3 * l.length
  | [] => by simp [qStr]
  | c :: t => by
    have h1 := qByte_le c
    have h2 := qStr_le t
    have h3 : qStr (c :: t) = qByte c ++ qStr t := by simp [qStr]
    rw [h3, List.length_append, List.length_cons]
    omega

/-- A byte that is beyond what stands for itself takes three signs. -/
theorem qByte_three {c : UInt8} (h : c.toNat ≠ 32) (hr : qRaw c = false) : (qByte c).length = 3 := by
  unfold qByte; rw [if_neg h, hr]; rfl
theorem qByte_one {c : UInt8} (h : c.toNat = 32 ∨ qRaw c = true) : (qByte c).length = 1 := by
  unfold qByte
  by_cases h3 : c.toNat = 32
  · rw [if_pos h3]; rfl
  · rw [if_neg h3]
    rcases h with h | h
    · exact absurd h h3
    · rw [h]; rfl
theorem qRaw_high {c : UInt8} (h : 128 ≤ c.toNat) : qRaw c = false := by
  unfold qRaw; rw [decide_eq_false_iff_not]; omega
theorem qStr_high : ∀ l : List UInt8, (∀ c ∈ l, 128 ≤ c.toNat) → (qStr l).length = 3 * l.length
  | [], _ => rfl
  | c :: t, h => by
    have h1 := h c (by simp)
    have h2 := qStr_high t (fun x hx => h x (by simp [hx]))
    have h3 : qStr (c :: t) = qByte c ++ qStr t := by simp [qStr]
    rw [h3, List.length_append, h2, qByte_three (by omega) (qRaw_high h1), List.length_cons]
    omega
/-- The signs of the rune ahead, where it isn't one that stands for itself. -/
theorem qStr_rune {l : List UInt8} (h : okR l) (hc : (l.getD 0 0).toNat ≠ 32) (hr : qRaw (l.getD 0 0) = false) : (qStr (l.take (wd l))).length = 3 * wd l := by
  have hne := h.1
  have hle := wd_le l hne
  by_cases h0 : 128 ≤ (l.getD 0 0).toNat
  · rw [qStr_high _ (rune_high h h0), List.length_take]; omega
  · match l, hne with
    | c :: t, _ =>
      simp only [List.getD_cons_zero] at h0 hc hr
      have hw : wd (c :: t) = 1 := wd_ascii (by omega)
      rw [hw]
      have : (c :: t).take 1 = [c] := rfl
      rw [this]
      have h3 : qStr [c] = qByte c := by simp [qStr]
      rw [h3, qByte_three hc hr]

theorem wd_ascii' {l : List UInt8} (hne : l ≠ []) (h : (l.getD 0 0).toNat < 128) : wd l = 1 := by
  match l, hne with
  | x :: t, _ => exact wd_ascii (by simpa using h)
theorem qStr_take1 {l : List UInt8} (hne : l ≠ []) : qStr (l.take 1) = qByte (l.getD 0 0) := by
  match l, hne with
  | x :: t, _ => simp [qStr]

/-- What a word of an encoded text must be. -/
def qGood (c : List UInt8) : Prop := c ≠ [] ∧ validD c = true ∧ (qStr c).length ≤ 63
/-- The words that are done, each with what parts it from the next. -/
def qMid (sep : List UInt8) (done : List (List UInt8)) : List UInt8 := done.flatMap fun c => qStr c ++ sep
/-- Where the loop of qEncode stands: k bytes of s are taken; the words in 'done' are closed, the word 'cur' is open. -/
structure QInv (sep s : List UInt8) (k : Nat) (done : List (List UInt8)) (cur : List UInt8) : Prop where
  le : k ≤ s.length
  whole : done.flatten ++ cur = s.take k
  good : ∀ c ∈ done, qGood c
  valid : validD cur = true
  len : (qStr cur).length ≤ 63
  some : 0 < k → cur ≠ []
  rest : validD (s.drop k) = true

theorem QInv.start (sep s : List UInt8) (h : validD s = true) : QInv sep s 0 [] [] := ⟨Nat.zero_le _, rfl, fun _ h => (by cases h), rfl, by simp [qStr], fun h => absurd h (Nat.lt_irrefl 0), by simpa using h⟩
section
variable {sep s : List UInt8} {k : Nat} {done : List (List UInt8)} {cur : List UInt8}
theorem take_add' (s : List UInt8) (k n : Nat) : s.take (k + n) = s.take k ++ (s.drop k).take n := List.take_add
/-- One rune more in the open word. -/
theorem QInv.go (h : QInv sep s k done cur) (hk : k < s.length) (hl : (qStr cur).length + (qStr ((s.drop k).take (wd (s.drop k)))).length ≤ 63) : QInv sep s (k + wd (s.drop k)) done (cur ++ (s.drop k).take (wd (s.drop k))) := by
  have hne : s.drop k ≠ [] := by rw [Ne, List.drop_eq_nil_iff]; omega
  have hle := wd_le _ hne
  have hp := wd_pos (s.drop k)
  rw [List.length_drop] at hle
  refine ⟨by omega, ?_, h.good, valid_snoc h.valid h.rest hne, ?_, fun _ => ?_, ?_⟩
  · rw [take_add', ← h.whole, List.append_assoc]
  · rw [qStr_append, List.length_append]; exact hl
  · intro e
    have := congrArg List.length e
    rw [List.length_append, List.length_take, List.length_drop] at this
    simp at this
    omega
  · rw [← List.drop_drop]; exact valid_drop h.rest hne
/-- The open word is closed; a new one begins with one rune. -/
theorem QInv.cut (h : QInv sep s k done cur) (hk : k < s.length) (hc : cur ≠ []) (hl : (qStr ((s.drop k).take (wd (s.drop k)))).length ≤ 63) : QInv sep s (k + wd (s.drop k)) (done ++ [cur]) ((s.drop k).take (wd (s.drop k))) := by
  have hne : s.drop k ≠ [] := by rw [Ne, List.drop_eq_nil_iff]; omega
  have hle := wd_le _ hne
  have hp := wd_pos (s.drop k)
  rw [List.length_drop] at hle
  refine ⟨by omega, ?_, ?_, ?_, hl, fun _ => ?_, ?_⟩
  · rw [take_add', ← h.whole]; simp
  · intro c hcc
    rcases List.mem_append.1 hcc with hcc | hcc
    · exact h.good c hcc
    · rw [List.mem_singleton.1 hcc]; exact ⟨hc, h.valid, h.len⟩
  · have := valid_snoc (cur := []) rfl h.rest hne
    simpa using this
  · intro e
    have := congrArg List.length e
    rw [List.length_take, List.length_drop] at this
    simp at this
    omega
  · rw [← List.drop_drop]; exact valid_drop h.rest hne
theorem qMid_snoc (sep : List UInt8) (done : List (List UInt8)) (c : List UInt8) : qMid sep (done ++ [c]) = qMid sep done ++ (qStr c ++ sep) := by simp [qMid]
end
end Go.Proofs.YtpoglombagmhmaaGreatDoor
/- Plain Lean: the reference's reading of an address (package spec): tokens, words, names, domains. -/
namespace Go.Proofs.YtpoglombagmhmaaGreatDoor
open Go

/-- A sign that may stand in an atom. -/
def atomB (c : UInt8) : Bool :=
  decide ((48 ≤ c.toNat ∧ c.toNat ≤ 57) ∨ (97 ≤ c.toNat ∧ c.toNat ≤ 122) ∨ (65 ≤ c.toNat ∧ c.toNat ≤ 90) ∨ 128 ≤ c.toNat) || [33, 35, 36, 37, 38, 39, 42, 43, 45, 47, 61, 63, 94, 95, 96, 123, 124, 125, 126].contains c

structure Tok where
  kind : UInt8
  text : List UInt8
  space : Bool

/-- What follows an opening quote: the inside, and how many signs there are up to the closing quote, with it. -/
def quotedL : List UInt8 → Option (List UInt8 × Nat)
  | [] => none
  | [c] => if c = 34 then some ([], 1) else none
  | c :: d :: t => if c = 34 then some ([], 1) else if c = 92 then (quotedL t).map fun r => (d :: r.1, r.2 + 2) else (quotedL (d :: t)).map fun r => (c :: r.1, r.2 + 1)

inductive TR where
  | bad
  | open_
  | good (ts : List Tok) (last : Bool)
def TR.cons (t : Tok) : TR → TR
  | .good ts l => .good (t :: ts) l
  | x => x
def TR.app (ts : List Tok) : TR → TR
  | .good us l => .good (ts ++ us) l
  | x => x
theorem TR.app_nil (r : TR) : TR.app [] r = r := by cases r <;> rfl
theorem TR.app_cons (ts : List Tok) (t : Tok) (r : TR) : TR.app ts (TR.cons t r) = TR.app (ts ++ [t]) r := by cases r <;> simp [TR.app, TR.cons]

def isSp (c : UInt8) : Bool := c == 32 || c == 9
def isOpen (c : UInt8) : Bool := c == 40 || c == 41 || c == 91 || c == 93

/-- The tokens of a text; a space ahead of the first: last. -/
def toksL (last : Bool) (s : List UInt8) : TR :=
  match s with
  | [] => .good [] last
  | c :: t =>
    if isSp c then toksL true t
    else if atomB c then TR.cons ⟨97, c :: t.takeWhile atomB, last⟩ (toksL false (t.dropWhile atomB))
    else if c = 34 then
      match quotedL t with
      | none => .bad
      | some r => TR.cons ⟨113, r.1, last⟩ (toksL false (t.drop r.2))
    else if c = 92 then .bad
    else if isOpen c then .open_
    else TR.cons ⟨c, [], last⟩ (toksL false t)
termination_by s.length
decreasing_by
  · simp
  · have h : (t.dropWhile atomB).length ≤ t.length := (List.dropWhile_sublist _).length_le
    simp only [List.length_cons]; omega
  · simp only [List.length_cons, List.length_drop]; omega
  · simp

/-- A control character, or DEL. -/
def ctlB (c : UInt8) : Bool := decide (c.toNat < 32 ∧ c.toNat ≠ 9 ∨ c.toNat = 127)
def tokensL (s : List UInt8) : TR := if Lib.validD s = false then .open_ else if s.any ctlB then .open_ else toksL false s

def spaceH : List Tok → Bool
  | [] => false
  | t :: _ => t.space
def isH (k : UInt8) : List Tok → Bool
  | [] => false
  | t :: _ => t.kind == k
def wordK (t : Tok) : Bool := t.kind == 97 || t.kind == 113 || t.kind == 46

/-- Atoms with points between them: what is left, whether no obsolete form has been met, the text, whether it is one. -/
def domainG : List Tok → Bool → List UInt8 → List Tok × Bool × List UInt8 × Bool
  | [], ok, _ => ([], ok, [], false)
  | [t], ok, out => if t.kind = 97 then ([], ok && !t.space, out ++ t.text, true) else ([t], ok && !t.space, [], false)
  | t :: d :: r, ok, out =>
    if t.kind = 97 then
      if d.kind = 46 then domainG r (ok && !t.space && !d.space) (out ++ t.text ++ [46]) else (d :: r, ok && !t.space, out ++ t.text, true)
    else (t :: d :: r, ok && !t.space, [], false)

/-- Words with points between them: no obsolete form, the text, whether it is one. -/
def localG : List Tok → Nat → Bool → List UInt8 → Bool × List UInt8 × Bool
  | [], i, ok, out => (ok, out, decide (i % 2 = 1))
  | t :: r, i, ok, out =>
    if (t.kind == 46) != decide (i % 2 = 1) then (ok && !(decide (0 < i) && t.space), [], false)
    else localG r (i + 1) (ok && !(decide (0 < i) && t.space) && !(t.kind == 113)) (out ++ (if t.kind = 46 then [46] else []) ++ t.text)

/-- The signs =? or ?=. -/
def markedL : List UInt8 → Bool
  | a :: b :: t => (a == 61 && b == 63) || (a == 63 && b == 61) || markedL (b :: t)
  | _ => false

/-- A text parted at the signs '?'. -/
def splitQ : List UInt8 → List (List UInt8)
  | [] => [[]]
  | c :: t => if c = 63 then [] :: splitQ t else (c :: (splitQ t).headD []) :: (splitQ t).tail

/-- A hexadecimal digit's value, a great letter beyond 9. -/
def hexV (c : UInt8) : Option Nat :=
  if 48 ≤ c.toNat ∧ c.toNat ≤ 57 then some (c.toNat - 48) else if 65 ≤ c.toNat ∧ c.toNat ≤ 70 then some (c.toNat - 55) else none
/-- What stands for itself in a text of Q. -/
def qOk (phrase : Bool) (c : UInt8) : Bool :=
  decide ((48 ≤ c.toNat ∧ c.toNat ≤ 57) ∨ (97 ≤ c.toNat ∧ c.toNat ≤ 122) ∨ (65 ≤ c.toNat ∧ c.toNat ≤ 90) ∨ c = 33 ∨ c = 42 ∨ c = 43 ∨ c = 45 ∨ c = 47) || (!phrase && decide (32 < c.toNat ∧ c.toNat < 127))
def unqL (phrase : Bool) : List UInt8 → Option (List UInt8)
  | [] => some []
  | c :: t =>
    if c = 95 then (unqL phrase t).map (32 :: ·)
    else if c = 61 then
      match t with
      | a :: b :: r =>
        match hexV a, hexV b with
        | some x, some y => (unqL phrase r).map (UInt8.ofNat (16 * x + y) :: ·)
        | _, _ => none
      | _ => none
    else if qOk phrase c then (unqL phrase t).map (c :: ·)
    else none
end Go.Proofs.YtpoglombagmhmaaGreatDoor
