/- Plain Lean: a text's tokens, one by one, as the code's parser of a phrase meets them. -/
import Derived.Test.YtmcjmmcamelmcaaGreatDoorX1
namespace Go.Proofs.YtmcjmmcamelmcaaGreatDoor
open Go

theorem ph_skip : ∀ (R : List UInt8) (b : Bool), ∃ b', toksL b R = toksL b' (R.dropWhile isSp) ∧ (b = true → b' = true)
  | [], b => ⟨b, rfl, id⟩
  | c :: t, b => by
    cases h : isSp c with
    | true =>
      obtain ⟨b', h1, h2⟩ := ph_skip t true
      refine ⟨b', ?_, fun _ => h2 rfl⟩
      rw [toksL, if_pos h, h1, List.dropWhile_cons_of_pos h]
    | false => exact ⟨b, by rw [List.dropWhile_cons_of_neg (by rw [h]; simp)], id⟩
theorem ph_nosp {R : List UInt8} {c : UInt8} {t : List UInt8} (h : R.dropWhile isSp = c :: t) : isSp c = false := by
  have := List.head?_dropWhile_not isSp R
  rw [h] at this
  simpa using this
theorem cons_good {t : Tok} {r : TR} {ts : List Tok} {l : Bool} (h : TR.cons t r = .good ts l) : ∃ ts', ts = t :: ts' ∧ r = .good ts' l := by
  cases r with
  | bad => cases h
  | open_ => cases h
  | good us l' => cases h; exact ⟨us, rfl, rfl⟩
/-- The first token of a text that doesn't begin with a blank. -/
theorem ph_head {b : Bool} {c : UInt8} {t : List UInt8} {ts : List Tok} {l : Bool} (hs : isSp c = false) (h : toksL b (c :: t) = .good ts l) :
    (atomB c = true ∧ ∃ ts', ts = ⟨97, c :: t.takeWhile atomB, b⟩ :: ts' ∧ toksL false (t.dropWhile atomB) = .good ts' l) ∨
    (c = 34 ∧ ∃ x n ts', quotedL t = some (x, n) ∧ ts = ⟨113, x, b⟩ :: ts' ∧ toksL false (t.drop n) = .good ts' l) ∨
    (atomB c = false ∧ c ≠ 34 ∧ c ≠ 92 ∧ isOpen c = false ∧ ∃ ts', ts = ⟨c, [], b⟩ :: ts' ∧ toksL false t = .good ts' l) := by
  rw [toksL, if_neg (by rw [hs]; simp)] at h
  cases ha : atomB c with
  | true =>
    rw [if_pos ha] at h
    obtain ⟨ts', h1, h2⟩ := cons_good h
    exact .inl ⟨rfl, ts', h1, h2⟩
  | false =>
    rw [if_neg (by rw [ha]; simp)] at h
    by_cases h34 : c = 34
    · rw [if_pos h34] at h
      cases hq : quotedL t with
      | none => rw [hq] at h; cases h
      | some r =>
        rw [hq] at h
        obtain ⟨ts', h1, h2⟩ := cons_good h
        exact .inr (.inl ⟨h34, r.1, r.2, ts', rfl, h1, h2⟩)
    · rw [if_neg h34] at h
      by_cases h92 : c = 92
      · rw [if_pos h92] at h; cases h
      · rw [if_neg h92] at h
        cases ho : isOpen c with
        | true => rw [if_pos ho] at h; cases h
        | false =>
          rw [if_neg (by rw [ho]; simp)] at h
          obtain ⟨ts', h1, h2⟩ := cons_good h
          exact .inr (.inr ⟨rfl, h34, h92, rfl, ts', h1, h2⟩)
theorem quotedL_raw {c : UInt8} (U : List UInt8) (h1 : c ≠ 34) (h2 : c ≠ 92) : quotedL (c :: U) = (quotedL U).map fun r => (c :: r.1, r.2 + 1) := by
  cases U with
  | nil => simp [quotedL, h1]
  | cons d t => rw [quotedL, if_neg h1, if_neg h2]
theorem quotedL_high : ∀ (r U : List UInt8), (∀ c ∈ r, c ≠ 34 ∧ c ≠ 92) → quotedL (r ++ U) = (quotedL U).map fun q => (r ++ q.1, q.2 + r.length)
  | [], U, _ => by rw [List.nil_append]; cases quotedL U <;> rfl
  | c :: r, U, h => by
    rw [List.cons_append, quotedL_raw _ (h c (by simp)).1 (h c (by simp)).2, quotedL_high r U (fun d hd => h d (by simp [hd]))]
    cases quotedL U with
    | none => rfl
    | some q => simp; omega
theorem quotedL_len : ∀ (n : Nat) (U x : List UInt8) (k : Nat), U.length ≤ n → quotedL U = some (x, k) → k ≤ U.length ∧ x.length ≤ k
  | _, [], _, _, _, h => by rw [quotedL] at h; cases h
  | _, [c], x, k, _, h => by
    rw [quotedL] at h
    split at h
    · cases h; simp
    · cases h
  | 0, _ :: _ :: _, _, _, hn, _ => by simp at hn
  | n + 1, c :: d :: t, x, k, hn, h => by
    rw [quotedL] at h
    split at h
    · cases h; simp
    · split at h
      · obtain ⟨q, hq, he⟩ := Option.map_eq_some_iff.1 h
        cases he
        have := quotedL_len n t q.1 q.2 (by simp at hn; omega) hq
        simp; omega
      · obtain ⟨q, hq, he⟩ := Option.map_eq_some_iff.1 h
        cases he
        have := quotedL_len n (d :: t) q.1 q.2 (by simp at hn ⊢; omega) hq
        simp at this ⊢; omega
end Go.Proofs.YtmcjmmcamelmcaaGreatDoor
