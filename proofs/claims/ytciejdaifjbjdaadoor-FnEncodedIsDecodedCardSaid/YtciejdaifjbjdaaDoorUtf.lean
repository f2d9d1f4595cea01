/- Plain Lean: runes of UTF-8 as pieces of a list of bytes. -/
import Derived.Lib.ValidLaws
import Derived.Lib.MapLaws
namespace Go.Proofs.YtciejdaifjbjdaaDoor
open Go Go.Lib

/-- The width of the rune ahead. -/
def wd (l : List UInt8) : Nat := (decodeL l).2
/-- The rune ahead is a true one. -/
def okR (l : List UInt8) : Prop := l ≠ [] ∧ ¬ ((decodeL l).1 = 65533 ∧ (decodeL l).2 = 1)

set_option maxRecDepth 100000 in
set_option maxHeartbeats 4000000 in
theorem decodeN_ext (n n' b0 b1 b2 b3 c1 c2 c3 : Nat) (hne : ¬ ((decodeN n b0 b1 b2 b3).1 = 65533 ∧ (decodeN n b0 b1 b2 b3).2 = 1)) (hn : (decodeN n b0 b1 b2 b3).2 ≤ n')
    (e1 : 1 < (decodeN n b0 b1 b2 b3).2 → c1 = b1) (e2 : 2 < (decodeN n b0 b1 b2 b3).2 → c2 = b2) (e3 : 3 < (decodeN n b0 b1 b2 b3).2 → c3 = b3) : decodeN n' b0 c1 c2 c3 = decodeN n b0 b1 b2 b3 := by
  rcases decodeN_shape n b0 b1 b2 b3 with ⟨c, e⟩ | ⟨k1, k2, k3, kv, e⟩ | ⟨k1, k2, k3, k4, kv, ks, e⟩ | ⟨k1, k2, k3, k4, k5, kv, kw, e⟩ | e
  · rw [e]; unfold decodeN; rw [if_pos c]
  · rw [e] at e1 e2 e3 hn ⊢
    have E1 := e1 (by omega); subst E1
    simp only at hn
    unfold decodeN
    rw [if_neg (by omega), if_pos (by omega), if_pos (by omega)]
  · rw [e] at e1 e2 e3 hn ⊢
    have E1 := e1 (by omega); subst E1
    have E2 := e2 (by omega); subst E2
    simp only at hn
    unfold decodeN
    rw [if_neg (by omega), if_neg (by omega), if_pos (by omega), if_pos (by omega)]
  · rw [e] at e1 e2 e3 hn ⊢
    have E1 := e1 (by omega); subst E1
    have E2 := e2 (by omega); subst E2
    have E3 := e3 (by omega); subst E3
    simp only at hn
    unfold decodeN
    rw [if_neg (by omega), if_neg (by omega), if_neg (by omega), if_pos (by omega), if_pos (by omega)]
  · exact absurd ⟨by rw [e], by rw [e]⟩ hne

theorem wd_pos (l : List UInt8) : 1 ≤ wd l := decodeL_width l
theorem wd_le (l : List UInt8) (h : l ≠ []) : wd l ≤ l.length := decodeL_le l h
theorem wd_le4 (l : List UInt8) : wd l ≤ 4 := by
  unfold wd
  rw [decodeL_N]
  rcases decodeN_shape l.length (l.getD 0 0).toNat (l.getD 1 0).toNat (l.getD 2 0).toNat (l.getD 3 0).toNat with ⟨c, e⟩ | ⟨_, _, _, _, e⟩ | ⟨_, _, _, _, _, _, e⟩ | ⟨_, _, _, _, _, _, _, e⟩ | e <;> rw [e] <;> simp
theorem okR_nil_ne {l : List UInt8} (h : okR l) : l ≠ [] := h.1

/-- What lies behind a true rune doesn't matter. -/
theorem decode_take (l : List UInt8) (k : Nat) (h : okR l) (hk : wd l ≤ k) : decodeL (l.take k) = decodeL l := by
  have hne := okR_nil_ne h
  have hle := wd_le l hne
  replace h := h.2
  unfold wd at hk hle
  rw [decodeL_N l] at h hk hle ⊢
  rw [decodeL_N (l.take k)]
  have hk0 := decodeL_width l
  rw [decodeL_N l] at hk0
  have h0 : (l.take k).getD 0 0 = l.getD 0 0 := getD_takeU l k 0 (by omega)
  rw [h0]
  refine decodeN_ext _ _ _ _ _ _ _ _ _ h ?_ ?_ ?_ ?_
  · rw [List.length_take]; omega
  · intro h1; rw [getD_takeU l k 1 (by omega)]
  · intro h1; rw [getD_takeU l k 2 (by omega)]
  · intro h1; rw [getD_takeU l k 3 (by omega)]
theorem decode_app (l t : List UInt8) (h : okR l) : decodeL (l ++ t) = decodeL l := by
  have hne := okR_nil_ne h
  have hle := wd_le l hne
  replace h := h.2
  unfold wd at hle
  rw [decodeL_N l] at h hle ⊢
  rw [decodeL_N (l ++ t)]
  have hg : ∀ j, j < l.length → (l ++ t).getD j 0 = l.getD j 0 := fun j hj => by simp [List.getD, List.getElem?_append_left hj]
  rw [hg 0 (List.length_pos_iff.2 hne)]
  refine decodeN_ext _ _ _ _ _ _ _ _ _ h ?_ ?_ ?_ ?_
  · rw [List.length_append]; omega
  · intro h1; rw [hg 1 (by omega)]
  · intro h1; rw [hg 2 (by omega)]
  · intro h1; rw [hg 3 (by omega)]
theorem okR_app {l : List UInt8} (t : List UInt8) (h : okR l) : okR (l ++ t) := ⟨by simp [h.1], by rw [decode_app l t h]; exact h.2⟩
theorem okR_take {l : List UInt8} (k : Nat) (h : okR l) (hk : wd l ≤ k) : okR (l.take k) := ⟨by have := wd_pos l; have h1 := h.1; intro e; rcases List.take_eq_nil_iff.1 e with e | e <;> first | omega | exact h1 e, by rw [decode_take l k h hk]; exact h.2⟩
theorem wd_app {l : List UInt8} (t : List UInt8) (h : okR l) : wd (l ++ t) = wd l := by unfold wd; rw [decode_app l t h]
theorem wd_take {l : List UInt8} (k : Nat) (h : okR l) (hk : wd l ≤ k) : wd (l.take k) = wd l := by unfold wd; rw [decode_take l k h hk]

theorem valid_ok {l : List UInt8} (hv : validD l = true) (hne : l ≠ []) : okR l := by
  rw [validD_step l hne] at hv
  refine ⟨hne, fun h => ?_⟩
  rw [if_pos h] at hv
  cases hv
theorem valid_drop {l : List UInt8} (hv : validD l = true) (hne : l ≠ []) : validD (l.drop (wd l)) = true := by
  have h := valid_ok hv hne
  rw [validD_step l hne, if_neg h.2] at hv
  exact hv
theorem valid_one {l : List UInt8} (h : okR l) : validD (l.take (wd l)) = true := by
  have hne := okR_nil_ne h
  have hw := wd_pos l
  have h2 := okR_take (wd l) h (Nat.le_refl _)
  have hw2 := wd_take (wd l) h (Nat.le_refl _)
  have hne2 : l.take (wd l) ≠ [] := okR_nil_ne h2
  rw [validD_step _ hne2, if_neg h2.2]
  have : (l.take (wd l)).drop (decodeL (l.take (wd l))).2 = [] := by
    rw [List.drop_eq_nil_iff, List.length_take]
    have : (decodeL (l.take (wd l))).2 = wd l := hw2
    omega
  rw [this]; rfl
theorem valid_append : ∀ (n : Nat) (a b : List UInt8), a.length ≤ n → validD a = true → validD b = true → validD (a ++ b) = true
  | 0, a, b, hn, _, hb => by
    obtain rfl : a = [] := List.eq_nil_of_length_eq_zero (by omega)
    simpa using hb
  | n + 1, a, b, hn, ha, hb => by
    by_cases hne : a = []
    · subst hne; simpa using hb
    · have ho := valid_ok ha hne
      have hw := wd_pos a
      have hle := wd_le a hne
      have hd := valid_drop ha hne
      have hne2 : a ++ b ≠ [] := by simp [hne]
      have ho2 := okR_app b ho
      rw [validD_step _ hne2, if_neg ho2.2]
      have e1 : (decodeL (a ++ b)).2 = wd a := wd_app b ho
      rw [e1, List.drop_append_of_le_length hle]
      exact valid_append n _ _ (by rw [List.length_drop]; omega) hd hb
/-- A rune ahead of valid text, taken on. -/
theorem valid_snoc {cur rest : List UInt8} (hc : validD cur = true) (hr : validD rest = true) (hne : rest ≠ []) : validD (cur ++ rest.take (wd rest)) = true :=
  valid_append _ _ _ (Nat.le_refl _) hc (valid_one (valid_ok hr hne))
theorem wd_ascii {c : UInt8} {t : List UInt8} (h : c.toNat < 128) : wd (c :: t) = 1 := by unfold wd; rw [decodeL_ascii c t h]
/-- A rune's bytes beyond the first are beyond ASCII. -/
theorem rune_high {l : List UInt8} (h : okR l) (h0 : 128 ≤ (l.getD 0 0).toNat) : ∀ c ∈ l.take (wd l), 128 ≤ c.toNat := by
  have hne := okR_nil_ne h
  have hl : 0 < l.length := List.length_pos_iff.2 hne
  replace h := h.2
  unfold wd
  rw [decodeL_N l] at h ⊢
  rcases decodeN_shape l.length (l.getD 0 0).toNat (l.getD 1 0).toNat (l.getD 2 0).toNat (l.getD 3 0).toNat with ⟨c, e⟩ | ⟨k1, k2, k3, _, e⟩ | ⟨k1, k2, k3, k4, _, _, e⟩ | ⟨k1, k2, k3, k4, k5, _, _, e⟩ | e
  · omega
  · rw [e]; dsimp only; rw [takeB l (by omega)]; intro c hc; simp only [List.mem_cons, List.mem_nil_iff, or_false] at hc; rcases hc with rfl | rfl <;> omega
  · rw [e]; dsimp only; rw [takeC l (by omega)]; intro c hc; simp only [List.mem_cons, List.mem_nil_iff, or_false] at hc; rcases hc with rfl | rfl | rfl <;> omega
  · rw [e]; dsimp only; rw [takeD l (by omega)]; intro c hc; simp only [List.mem_cons, List.mem_nil_iff, or_false] at hc; rcases hc with rfl | rfl | rfl | rfl <;> omega
  · exact absurd ⟨by rw [e], by rw [e]⟩ h
end Go.Proofs.YtciejdaifjbjdaaDoor
