/- Plain Lean: the alphabet of base64 (RFC 2045, 6.8). -/
import Derived.Lib.Hide
namespace Go.Proofs.YtciejdaifjbjdaaDoor
open Go

/-- A digit of base64: its sign. -/
def alphaN (i : Nat) : Nat := if i < 26 then 65 + i else if i < 52 then 71 + i else if i < 62 then i - 4 else if i = 62 then 43 else 47
/-- A sign: the digit that it is; 64: none. -/
def aIdx (c : Nat) : Nat := if 65 ≤ c ∧ c ≤ 90 then c - 65 else if 97 ≤ c ∧ c ≤ 122 then c - 71 else if 48 ≤ c ∧ c ≤ 57 then c + 4 else if c = 43 then 62 else if c = 47 then 63 else 64
/-- The decoding map when m signs are entered. -/
def dm (m c : Nat) : Nat := if aIdx c < m then aIdx c else 255

theorem alphaN_lt (i : Nat) (h : i < 64) : alphaN i < 128 := by
  have : ∀ k : Fin 64, alphaN k.val < 128 := by decide
  exact this ⟨i, h⟩
theorem aIdx_alpha (i : Nat) (h : i < 64) : aIdx (alphaN i) = i := by
  have : ∀ k : Fin 64, aIdx (alphaN k.val) = k.val := by decide
  exact this ⟨i, h⟩
theorem aIdx_big (c : Nat) (h : 128 ≤ c) : aIdx c = 64 := by
  unfold aIdx
  rw [if_neg (by omega), if_neg (by omega), if_neg (by omega), if_neg (by omega), if_neg (by omega)]
theorem aIdx_le (c : Nat) : aIdx c ≤ 64 := by
  unfold aIdx
  (repeat' split) <;> omega
set_option maxRecDepth 10000 in
theorem alpha_aIdx (c : Nat) (h : aIdx c < 64) : alphaN (aIdx c) = c := by
  have : ∀ k : Fin 128, aIdx k.val < 64 → alphaN (aIdx k.val) = k.val := by decide
  by_cases hc : c < 128
  · exact this ⟨c, hc⟩ h
  · rw [aIdx_big c (by omega)] at h; omega
theorem dm_zero (c : Nat) : dm 0 c = 255 := by simp [dm]
theorem dm_lt (m c : Nat) (hm : m ≤ 64) : dm m c < 256 := by unfold dm; split <;> omega
theorem dm_step (m c : Nat) : dm (m + 1) c = if aIdx c = m then m else dm m c := by
  unfold dm; (repeat' split) <;> omega
end Go.Proofs.YtciejdaifjbjdaaDoor
