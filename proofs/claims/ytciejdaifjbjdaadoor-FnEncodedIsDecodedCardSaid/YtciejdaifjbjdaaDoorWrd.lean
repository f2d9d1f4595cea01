/- Plain Lean: encoded words, one behind the other; where the signs of encoding stand in them. -/
import Derived.Test.YtciejdaifjbjdaaDoorDs
namespace Go.Proofs.YtciejdaifjbjdaaDoor
open Go

/-- One encoded word. -/
def wordE (e : UInt8) (f : List UInt8 → List UInt8) (c : List UInt8) : List UInt8 := [61, 63] ++ (utf8S ++ ([63, e, 63] ++ (f c ++ [63, 61])))
/-- Words, each behind a space. -/
def tailE (e : UInt8) (f : List UInt8 → List UInt8) : List (List UInt8) → List UInt8
  | [] => []
  | c :: t => 32 :: (wordE e f c ++ tailE e f t)
/-- What is left of the text: with a space ahead of the first word, or without. -/
def txtE (e : UInt8) (f : List UInt8 → List UInt8) (q : Bool) : List (List UInt8) → List UInt8
  | [] => []
  | c :: t => (if q then [32] else []) ++ (wordE e f c ++ tailE e f t)
theorem txtE_true (e : UInt8) (f : List UInt8 → List UInt8) (l : List (List UInt8)) : txtE e f true l = tailE e f l := by
  cases l <;> rfl

theorem words_tail (e : UInt8) (f : List UInt8 → List UInt8) : ∀ (done : List (List UInt8)) (cur : List UInt8), (done.flatMap fun c => f c ++ sepL e) ++ f cur ++ [63, 61] = match done ++ [cur] with | [] => [] | c :: t => f c ++ [63, 61] ++ tailE e f t
  | [], cur => by simp [tailE]
  | c :: t, cur => by
    have ih := words_tail e f t cur
    have h : ∃ c2 t2, t ++ [cur] = c2 :: t2 := by cases t <;> simp
    obtain ⟨c2, t2, h⟩ := h
    rw [h] at ih
    simp only [List.cons_append, h]
    simp only [List.append_assoc] at ih
    simp only [List.flatMap_cons, List.append_assoc, tailE, wordE]
    rw [ih]
    simp [sepL]
theorem words_txt (e : UInt8) (f : List UInt8 → List UInt8) (done : List (List UInt8)) (cur : List UInt8) : wordsL e f done cur = txtE e f false (done ++ [cur]) := by
  have h := words_tail e f done cur
  have h2 : ∃ c2 t2, done ++ [cur] = c2 :: t2 := by cases done <;> simp
  obtain ⟨c2, t2, h2⟩ := h2
  rw [h2] at h ⊢
  simp only [List.append_assoc] at h
  simp only [wordsL, txtE, wordE, List.append_assoc, h]
  simp

theorem FirstAt.eq {p s : List UInt8} {r : Int} {k : Nat} (h : FirstAt p s r) (hk : k + p.length ≤ s.length) (hit : Hit p s k) (hno : ∀ j, j < k → ¬ Hit p s j) : r = k := by
  rcases h with ⟨k', rfl, h1, h2, h3⟩ | ⟨_, h3⟩
  · have : k' = k := by
      rcases Nat.lt_trichotomy k' k with h | h | h
      · exact absurd h2 (hno k' h)
      · exact h
      · exact absurd hit (h3 k h)
    rw [this]
  · exact absurd hit (h3 k hk)
theorem FirstAt.none {p s : List UInt8} {r : Int} (h : FirstAt p s r) (hs : s.length < p.length) : r = -1 := by
  rcases h with ⟨k', rfl, h1, h2, h3⟩ | ⟨h, _⟩
  · omega
  · exact h
/-- What begins with a sign that isn't ahead of it. -/
theorem FirstAt.after {a : UInt8} {p X Y : List UInt8} {r : Int} (h : FirstAt (a :: p) (X ++ ((a :: p) ++ Y)) r) (hX : ∀ x ∈ X, x ≠ a) : r = X.length := by
  refine h.eq (by simp) ?_ (fun j hj hh => ?_)
  · unfold Hit; rw [List.drop_left, List.take_left]
  · unfold Hit at hh
    have h1 : (List.drop j (X ++ ((a :: p) ++ Y))) = X[j] :: List.drop (j + 1) (X ++ ((a :: p) ++ Y)) := by
      rw [List.drop_eq_getElem_cons (by simp; omega), List.getElem_append_left hj]
    rw [h1, List.length_cons, List.take_succ_cons] at hh
    have := (List.cons.inj hh).1
    exact hX _ (List.getElem_mem hj) this

theorem sgn_ne (i : Nat) (h : i < 64) : sgn i ≠ 63 := by
  have : ∀ k : Fin 64, sgn k.val ≠ 63 := by decide
  exact this ⟨i, h⟩
theorem b64_no : ∀ c : List UInt8, ∀ x ∈ b64 c, x ≠ 63
  | [], x, h => by cases h
  | [a], x, h => by
    have := a.toNat_lt
    rw [b64_one] at h
    simp only [List.mem_cons, List.not_mem_nil, or_false] at h
    rcases h with rfl | rfl | rfl | rfl
    · exact sgn_ne _ (d0_lt a)
    · exact sgn_ne _ (by omega)
    · decide
    · decide
  | [a, b], x, h => by
    have := b.toNat_lt
    rw [b64_two] at h
    simp only [List.mem_cons, List.not_mem_nil, or_false] at h
    rcases h with rfl | rfl | rfl | rfl
    · exact sgn_ne _ (d0_lt a)
    · exact sgn_ne _ (d1_lt a b)
    · exact sgn_ne _ (by omega)
    · decide
  | a :: b :: c :: t, x, h => by
    rw [b64_three] at h
    simp only [List.mem_cons] at h
    rcases h with rfl | rfl | rfl | rfl | h
    · exact sgn_ne _ (d0_lt a)
    · exact sgn_ne _ (d1_lt a b)
    · exact sgn_ne _ (d2_lt b c)
    · exact sgn_ne _ (d3_lt c)
    · exact b64_no t x h
theorem hexU_ne (n : Nat) (h : n < 16) : hexU n ≠ 63 := by
  have : ∀ k : Fin 16, hexU k.val ≠ 63 := by decide
  exact this ⟨n, h⟩
theorem qByte_no (c x : UInt8) (h : x ∈ qByte c) : x ≠ 63 := by
  have hc := c.toNat_lt
  unfold qByte at h
  split at h
  · simp only [List.mem_cons, List.not_mem_nil, or_false] at h; subst h; decide
  · split at h
    · rename_i hr
      simp only [List.mem_cons, List.not_mem_nil, or_false] at h
      subst h
      obtain ⟨_, _, _, h4, _⟩ := of_decide_eq_true hr
      intro e; rw [e] at h4; exact h4 rfl
    · simp only [List.mem_cons, List.not_mem_nil, or_false] at h
      rcases h with rfl | rfl | rfl
      · decide
      · exact hexU_ne _ (by omega)
      · exact hexU_ne _ (by omega)
theorem qStr_no (c : List UInt8) : ∀ x ∈ qStr c, x ≠ 63 := by
  intro x hx
  obtain ⟨y, _, hy⟩ := List.mem_flatMap.1 hx
  exact qByte_no y x hy
end Go.Proofs.YtciejdaifjbjdaaDoor
