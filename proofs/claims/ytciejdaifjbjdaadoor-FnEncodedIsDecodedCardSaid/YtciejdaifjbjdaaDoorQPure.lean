/- Plain Lean: a text by Q (RFC 2047). -/
import Derived.Lib.ValidLaws
import Derived.Lib.RuneBytes
import Derived.Test.YtciejdaifjbjdaaDoorUtf
namespace Go.Proofs.YtciejdaifjbjdaaDoor
open Go Go.Lib

/-- A byte that stands for itself. -/
def qRaw (c : UInt8) : Bool := decide (33 ≤ c.toNat ∧ c.toNat ≤ 126 ∧ c.toNat ≠ 61 ∧ c.toNat ≠ 63 ∧ c.toNat ≠ 95)
/-- A great hexadecimal digit. -/
def hexU (n : Nat) : UInt8 := if n < 10 then UInt8.ofNat (48 + n) else UInt8.ofNat (55 + n)
def qByte (c : UInt8) : List UInt8 := if c.toNat = 32 then [95] else if qRaw c then [c] else [61, hexU (c.toNat / 16), hexU (c.toNat % 16)]
def qStr (l : List UInt8) : List UInt8 := l.flatMap qByte
theorem qStr_nil : qStr [] = [] := rfl
theorem qStr_append (a b : List UInt8) : qStr (a ++ b) = qStr a ++ qStr b := by simp [qStr]
theorem qByte_le (c : UInt8) : 1 ≤ (qByte c).length ∧ (qByte c).length ≤ 3 := by
  unfold qByte; split
  · simp
  · split <;> simp
theorem qStr_le : ∀ l : List UInt8, l.length ≤ (qStr l).length ∧ (qStr l).length ≤ 3 * l.length
  | [] => by simp [qStr]
  | c :: t => by
    have h1 := qByte_le c
    have h2 := qStr_le t
    have h3 : qStr (c :: t) = qByte c ++ qStr t := by simp [qStr]
    rw [h3, List.length_append, List.length_cons]
    omega

/-- A byte that is beyond what stands for itself takes three signs. -/
theorem qByte_three {c : UInt8} (h : c.toNat ≠ 32) (hr : qRaw c = false) : (qByte c).length = 3 := by
  unfold qByte; rw [if_neg h, hr]; rfl
theorem qByte_one {c : UInt8} (h : c.toNat = 32 ∨ qRaw c = true) : (qByte c).length = 1 := by
  unfold qByte
  by_cases h3 : c.toNat = 32
  · rw [if_pos h3]; rfl
  · rw [if_neg h3]
    rcases h with h | h
    · exact absurd h h3
    · rw [h]; rfl
theorem qRaw_high {c : UInt8} (h : 128 ≤ c.toNat) : qRaw c = false := by
  unfold qRaw; rw [decide_eq_false_iff_not]; omega
theorem qStr_high : ∀ l : List UInt8, (∀ c ∈ l, 128 ≤ c.toNat) → (qStr l).length = 3 * l.length
  | [], _ => rfl
  | c :: t, h => by
    have h1 := h c (by simp)
    have h2 := qStr_high t (fun x hx => h x (by simp [hx]))
    have h3 : qStr (c :: t) = qByte c ++ qStr t := by simp [qStr]
    rw [h3, List.length_append, h2, qByte_three (by omega) (qRaw_high h1), List.length_cons]
    omega
/-- The signs of the rune ahead, where it isn't one that stands for itself. -/
theorem qStr_rune {l : List UInt8} (h : okR l) (hc : (l.getD 0 0).toNat ≠ 32) (hr : qRaw (l.getD 0 0) = false) : (qStr (l.take (wd l))).length = 3 * wd l := by
  have hne := h.1
  have hle := wd_le l hne
  by_cases h0 : 128 ≤ (l.getD 0 0).toNat
  · rw [qStr_high _ (rune_high h h0), List.length_take]; omega
  · match l, hne with
    | c :: t, _ =>
      simp only [List.getD_cons_zero] at h0 hc hr
      have hw : wd (c :: t) = 1 := wd_ascii (by omega)
      rw [hw]
      have : (c :: t).take 1 = [c] := rfl
      rw [this]
      have h3 : qStr [c] = qByte c := by simp [qStr]
      rw [h3, qByte_three hc hr]

theorem wd_ascii' {l : List UInt8} (hne : l ≠ []) (h : (l.getD 0 0).toNat < 128) : wd l = 1 := by
  match l, hne with
  | x :: t, _ => exact wd_ascii (by simpa using h)
theorem qStr_take1 {l : List UInt8} (hne : l ≠ []) : qStr (l.take 1) = qByte (l.getD 0 0) := by
  match l, hne with
  | x :: t, _ => simp [qStr]

/-- What a word of an encoded text must be. -/
def qGood (c : List UInt8) : Prop := c ≠ [] ∧ validD c = true ∧ (qStr c).length ≤ 63
/-- The words that are done, each with what parts it from the next. -/
def qMid (sep : List UInt8) (done : List (List UInt8)) : List UInt8 := done.flatMap fun c => qStr c ++ sep
/-- Where the loop of qEncode stands: k bytes of s are taken; the words in 'done' are closed, the word 'cur' is open. -/
structure QInv (sep s : List UInt8) (k : Nat) (done : List (List UInt8)) (cur : List UInt8) : Prop where
  le : k ≤ s.length
  whole : done.flatten ++ cur = s.take k
  good : ∀ c ∈ done, qGood c
  valid : validD cur = true
  len : (qStr cur).length ≤ 63
  some : 0 < k → cur ≠ []
  rest : validD (s.drop k) = true

theorem QInv.start (sep s : List UInt8) (h : validD s = true) : QInv sep s 0 [] [] := ⟨Nat.zero_le _, rfl, fun _ h => (by cases h), rfl, by simp [qStr], fun h => absurd h (Nat.lt_irrefl 0), by simpa using h⟩
section
variable {sep s : List UInt8} {k : Nat} {done : List (List UInt8)} {cur : List UInt8}
theorem take_add' (s : List UInt8) (k n : Nat) : s.take (k + n) = s.take k ++ (s.drop k).take n := List.take_add
/-- One rune more in the open word. -/
theorem QInv.go (h : QInv sep s k done cur) (hk : k < s.length) (hl : (qStr cur).length + (qStr ((s.drop k).take (wd (s.drop k)))).length ≤ 63) : QInv sep s (k + wd (s.drop k)) done (cur ++ (s.drop k).take (wd (s.drop k))) := by
  have hne : s.drop k ≠ [] := by rw [Ne, List.drop_eq_nil_iff]; omega
  have hle := wd_le _ hne
  have hp := wd_pos (s.drop k)
  rw [List.length_drop] at hle
  refine ⟨by omega, ?_, h.good, valid_snoc h.valid h.rest hne, ?_, fun _ => ?_, ?_⟩
  · rw [take_add', ← h.whole, List.append_assoc]
  · rw [qStr_append, List.length_append]; exact hl
  · intro e
    have := congrArg List.length e
    rw [List.length_append, List.length_take, List.length_drop] at this
    simp at this
    omega
  · rw [← List.drop_drop]; exact valid_drop h.rest hne
/-- The open word is closed; a new one begins with one rune. -/
theorem QInv.cut (h : QInv sep s k done cur) (hk : k < s.length) (hc : cur ≠ []) (hl : (qStr ((s.drop k).take (wd (s.drop k)))).length ≤ 63) : QInv sep s (k + wd (s.drop k)) (done ++ [cur]) ((s.drop k).take (wd (s.drop k))) := by
  have hne : s.drop k ≠ [] := by rw [Ne, List.drop_eq_nil_iff]; omega
  have hle := wd_le _ hne
  have hp := wd_pos (s.drop k)
  rw [List.length_drop] at hle
  refine ⟨by omega, ?_, ?_, ?_, hl, fun _ => ?_, ?_⟩
  · rw [take_add', ← h.whole]; simp
  · intro c hcc
    rcases List.mem_append.1 hcc with hcc | hcc
    · exact h.good c hcc
    · rw [List.mem_singleton.1 hcc]; exact ⟨hc, h.valid, h.len⟩
  · have := valid_snoc (cur := []) rfl h.rest hne
    simpa using this
  · intro e
    have := congrArg List.length e
    rw [List.length_take, List.length_drop] at this
    simp at this
    omega
  · rw [← List.drop_drop]; exact valid_drop h.rest hne
theorem qMid_snoc (sep : List UInt8) (done : List (List UInt8)) (c : List UInt8) : qMid sep (done ++ [c]) = qMid sep done ++ (qStr c ++ sep) := by simp [qMid]
end
end Go.Proofs.YtciejdaifjbjdaaDoor
