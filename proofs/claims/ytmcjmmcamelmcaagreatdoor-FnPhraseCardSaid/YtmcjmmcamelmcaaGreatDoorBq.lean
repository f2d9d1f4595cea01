/- Plain Lean: groups of base64 signs, and the bytes that they are; a row that is filled from its beginning. -/
import Derived.Test.YtmcjmmcamelmcaaGreatDoorBd4
namespace Go.Proofs.YtmcjmmcamelmcaaGreatDoor
open Go

theorem b64_drop (c : List UInt8) (j : Nat) (h : 3 * j ≤ c.length) : (b64 c).drop (4 * j) = b64 (c.drop (3 * j)) := by
  have h1 := b64_append j (c.take (3 * j)) (c.drop (3 * j)) (by rw [List.length_take]; omega)
  rw [List.take_append_drop] at h1
  have h2 : (b64 (c.take (3 * j))).length = 4 * j := by rw [b64_length, List.length_take]; omega
  rw [h1, List.drop_append_of_le_length (by omega), List.drop_of_length_le (by omega), List.nil_append]
theorem b64_at (c : List UInt8) (j i : Nat) (h : 3 * j ≤ c.length) : (b64 c)[4 * j + i]? = (b64 (c.drop (3 * j)))[i]? := by
  rw [← b64_drop c j h, List.getElem?_drop]
theorem drop_cons (c : List UInt8) (j : Nat) (h : j < c.length) : ∃ x, c.drop j = x :: c.drop (j + 1) := ⟨_, List.drop_eq_getElem_cons h⟩

/-- The six bits of three bytes. -/
def d0 (x : UInt8) : Nat := x.toNat / 4
def d1 (x y : UInt8) : Nat := x.toNat % 4 * 16 + y.toNat / 16
def d2 (y z : UInt8) : Nat := y.toNat % 16 * 4 + z.toNat / 64
def d3 (z : UInt8) : Nat := z.toNat % 64
theorem d0_lt (x : UInt8) : d0 x < 64 := by have := x.toNat_lt; unfold d0; omega
theorem d1_lt (x y : UInt8) : d1 x y < 64 := by have := y.toNat_lt; unfold d1; omega
theorem d2_lt (y z : UInt8) : d2 y z < 64 := by have := z.toNat_lt; unfold d2; omega
theorem d3_lt (z : UInt8) : d3 z < 64 := by unfold d3; omega
theorem join3 (x y z : UInt8) : d0 x * 262144 + d1 x y * 4096 + d2 y z * 64 + d3 z = x.toNat * 65536 + y.toNat * 256 + z.toNat := by
  have := x.toNat_lt; have := y.toNat_lt; have := z.toNat_lt
  unfold d0 d1 d2 d3; omega
theorem join2 (x y : UInt8) : d0 x * 262144 + d1 x y * 4096 + y.toNat % 16 * 4 * 64 = x.toNat * 65536 + y.toNat * 256 := by
  have := x.toNat_lt; have := y.toNat_lt
  unfold d0 d1; omega
theorem join1 (x : UInt8) : d0 x * 262144 + x.toNat % 4 * 16 * 4096 = x.toNat * 65536 := by
  have := x.toNat_lt
  unfold d0; omega
theorem b64_three (x y z : UInt8) (t : List UInt8) : b64 (x :: y :: z :: t) = sgn (d0 x) :: sgn (d1 x y) :: sgn (d2 y z) :: sgn (d3 z) :: b64 t := rfl
theorem b64_two (x y : UInt8) : b64 [x, y] = [sgn (d0 x), sgn (d1 x y), sgn (y.toNat % 16 * 4), 61] := rfl
theorem b64_one (x : UInt8) : b64 [x] = [sgn (d0 x), sgn (x.toNat % 4 * 16), 61, 61] := rfl

theorem take_set_same (l : List UInt8) (n : Nat) (x : UInt8) (h : n < l.length) : (l.set n x).take (n + 1) = l.take n ++ [x] := by
  rw [List.take_succ_eq_append_getElem (by simpa using h), List.getElem_set_self, List.take_set_of_le (Nat.le_refl _)]
theorem take_set_beyond (l : List UInt8) (n m : Nat) (x : UInt8) (h : m ≤ n) : (l.set n x).take m = l.take m := List.take_set_of_le h

theorem put6 (l : List UInt8) (n : Nat) (a b c d e f g h : UInt8) (hl : n + 8 ≤ l.length) :
    ((((((((l.set n a).set (n + 1) b).set (n + 2) c).set (n + 3) d).set (n + 4) e).set (n + 5) f).set (n + 6) g).set (n + 7) h).take (n + 6) = l.take n ++ [a, b, c, d, e, f] := by
  rw [take_set_beyond _ _ _ _ (by omega), take_set_beyond _ _ _ _ (by omega), take_set_same _ _ _ (by simp; omega), take_set_same _ _ _ (by simp; omega), take_set_same _ _ _ (by simp; omega), take_set_same _ _ _ (by simp; omega), take_set_same _ _ _ (by simp; omega), take_set_same _ _ _ (by omega)]
  simp
theorem put3 (l : List UInt8) (n : Nat) (a b c d : UInt8) (hl : n + 4 ≤ l.length) :
    ((((l.set n a).set (n + 1) b).set (n + 2) c).set (n + 3) d).take (n + 3) = l.take n ++ [a, b, c] := by
  rw [take_set_beyond _ _ _ _ (by omega), take_set_same _ _ _ (by simp; omega), take_set_same _ _ _ (by simp; omega), take_set_same _ _ _ (by omega)]
  simp
theorem put3' (l : List UInt8) (n : Nat) (a b c : UInt8) (hl : n + 3 ≤ l.length) : (((l.set (n + 2) c).set (n + 1) b).set n a).take (n + 3) = l.take n ++ [a, b, c] := by
  rw [List.set_comm _ _ (by omega : n + 1 ≠ n), List.set_comm _ _ (by omega : n + 2 ≠ n), List.set_comm _ _ (by omega : n + 2 ≠ n + 1)]
  rw [take_set_same _ _ _ (by simp; omega), take_set_same _ _ _ (by simp; omega), take_set_same _ _ _ (by omega)]
  simp
theorem put2' (l : List UInt8) (n : Nat) (a b : UInt8) (hl : n + 2 ≤ l.length) : ((l.set (n + 1) b).set n a).take (n + 2) = l.take n ++ [a, b] := by
  rw [List.set_comm _ _ (by omega : n + 1 ≠ n)]
  rw [take_set_same _ _ _ (by simp; omega), take_set_same _ _ _ (by omega)]
  simp

/-- j groups of the bytes c have come into the row l. -/
def Filled (c l : List UInt8) (j q : Nat) : Prop := l.length = 3 * q ∧ l.take (3 * j) = c.take (3 * j)
theorem take_drop_app (c : List UInt8) (n k : Nat) : c.take (n + k) = c.take n ++ (c.drop n).take k := List.take_add
theorem head_at {A B : List UInt8} {i : Nat} {x : UInt8} (hx : A[i]? = some x) : (A ++ B)[i]? = some x := by
  rw [List.getElem?_append_left (List.getElem?_eq_some_iff.1 hx).1]; exact hx
/-- Two whole groups ahead. -/
theorem eight (c : List UInt8) (j : Nat) (h : 3 * j + 6 ≤ c.length) : ∃ x0 x1 x2 x3 x4 x5 : UInt8, c.take (3 * (j + 2)) = c.take (3 * j) ++ [x0, x1, x2, x3, x4, x5] ∧
    ∀ i x, [sgn (d0 x0), sgn (d1 x0 x1), sgn (d2 x1 x2), sgn (d3 x2), sgn (d0 x3), sgn (d1 x3 x4), sgn (d2 x4 x5), sgn (d3 x5)][i]? = some x → (b64 c)[4 * j + i]? = some x := by
  obtain ⟨t, ht⟩ : ∃ t, c.drop (3 * j) = t := ⟨_, rfl⟩
  have hlen : 6 ≤ t.length := by rw [← ht, List.length_drop]; omega
  match t, hlen, ht with
  | x0 :: x1 :: x2 :: x3 :: x4 :: x5 :: t, _, ht =>
    refine ⟨x0, x1, x2, x3, x4, x5, ?_, fun i x hx => ?_⟩
    · rw [show 3 * (j + 2) = 3 * j + 6 by omega, take_drop_app, ht]; rfl
    · rw [b64_at c j i (by omega), ht, b64_three, b64_three]
      exact head_at (B := b64 t) hx
/-- One whole group ahead. -/
theorem four (c : List UInt8) (j : Nat) (h : 3 * j + 3 ≤ c.length) : ∃ x0 x1 x2 : UInt8, c.take (3 * (j + 1)) = c.take (3 * j) ++ [x0, x1, x2] ∧
    ∀ i x, [sgn (d0 x0), sgn (d1 x0 x1), sgn (d2 x1 x2), sgn (d3 x2)][i]? = some x → (b64 c)[4 * j + i]? = some x := by
  obtain ⟨t, ht⟩ : ∃ t, c.drop (3 * j) = t := ⟨_, rfl⟩
  have hlen : 3 ≤ t.length := by rw [← ht, List.length_drop]; omega
  match t, hlen, ht with
  | x0 :: x1 :: x2 :: t, _, ht =>
    refine ⟨x0, x1, x2, ?_, fun i x hx => ?_⟩
    · rw [show 3 * (j + 1) = 3 * j + 3 by omega, take_drop_app, ht]; rfl
    · rw [b64_at c j i (by omega), ht, b64_three]
      exact head_at (B := b64 t) hx
/-- The last group: of one, two or three bytes. -/
theorem last (c : List UInt8) (j : Nat) (h : 3 * j < c.length) (h2 : c.length ≤ 3 * j + 3) :
    (∃ x0 x1 x2 : UInt8, c.length = 3 * j + 3 ∧ c = c.take (3 * j) ++ [x0, x1, x2] ∧ ∀ i x, [sgn (d0 x0), sgn (d1 x0 x1), sgn (d2 x1 x2), sgn (d3 x2)][i]? = some x → (b64 c)[4 * j + i]? = some x) ∨
    (∃ x0 x1 : UInt8, c.length = 3 * j + 2 ∧ c = c.take (3 * j) ++ [x0, x1] ∧ ∀ i x, [sgn (d0 x0), sgn (d1 x0 x1), sgn (x1.toNat % 16 * 4), 61][i]? = some x → (b64 c)[4 * j + i]? = some x) ∨
    (∃ x0 : UInt8, c.length = 3 * j + 1 ∧ c = c.take (3 * j) ++ [x0] ∧ ∀ i x, [sgn (d0 x0), sgn (x0.toNat % 4 * 16), 61, 61][i]? = some x → (b64 c)[4 * j + i]? = some x) := by
  obtain ⟨t, ht⟩ : ∃ t, c.drop (3 * j) = t := ⟨_, rfl⟩
  have hlen : t.length = c.length - 3 * j := by rw [← ht, List.length_drop]
  have hc : c = c.take (3 * j) ++ t := by rw [← ht, List.take_append_drop]
  match t, hlen, ht, hc with
  | [x0, x1, x2], hlen, ht, hc =>
    refine .inl ⟨x0, x1, x2, by simp at hlen; omega, hc, fun i x hx => ?_⟩
    rw [b64_at c j i (by omega), ht, b64_three]; exact hx
  | [x0, x1], hlen, ht, hc =>
    refine .inr (.inl ⟨x0, x1, by simp at hlen; omega, hc, fun i x hx => ?_⟩)
    rw [b64_at c j i (by omega), ht, b64_two]; exact hx
  | [x0], hlen, ht, hc =>
    refine .inr (.inr ⟨x0, by simp at hlen; omega, hc, fun i x hx => ?_⟩)
    rw [b64_at c j i (by omega), ht, b64_one]; exact hx
  | [], hlen, ht, hc => simp at hlen; omega
  | x0 :: x1 :: x2 :: x3 :: t, hlen, ht, hc => simp at hlen; omega
theorem sum8 (x0 x1 x2 x3 x4 x5 : UInt8) (z : Nat) (hz : z = 0) : d0 x0 * 288230376151711744 + d1 x0 x1 * 4503599627370496 + d2 x1 x2 * 70368744177664 + d3 x2 * 1099511627776 + d0 x3 * 17179869184 + d1 x3 x4 * 268435456 + d2 x4 x5 * 4194304 + d3 x5 * 65536 =
    x0.toNat * 72057594037927936 + x1.toNat * 281474976710656 + x2.toNat * 1099511627776 + x3.toNat * 4294967296 + x4.toNat * 16777216 + x5.toNat * 65536 + z * 256 + z * 1 := by
  have h1 := join3 x0 x1 x2; have h2 := join3 x3 x4 x5
  generalize d0 x0 = n0 at *
  generalize d1 x0 x1 = n1 at *
  generalize d2 x1 x2 = n2 at *
  generalize d3 x2 = n3 at *
  generalize d0 x3 = n4 at *
  generalize d1 x3 x4 = n5 at *
  generalize d2 x4 x5 = n6 at *
  generalize d3 x5 = n7 at *
  generalize x0.toNat = y0 at *
  generalize x1.toNat = y1 at *
  generalize x2.toNat = y2 at *
  generalize x3.toNat = y3 at *
  generalize x4.toNat = y4 at *
  generalize x5.toNat = y5 at *
  subst hz
  grind
theorem sum4 (x0 x1 x2 : UInt8) (z : Nat) (hz : z = 0) : d0 x0 * 67108864 + d1 x0 x1 * 1048576 + d2 x1 x2 * 16384 + d3 x2 * 256 = x0.toNat * 16777216 + x1.toNat * 65536 + x2.toNat * 256 + z * 1 := by
  have h1 := join3 x0 x1 x2
  generalize d0 x0 = n0 at *
  generalize d1 x0 x1 = n1 at *
  generalize d2 x1 x2 = n2 at *
  generalize d3 x2 = n3 at *
  generalize x0.toNat = y0 at *
  generalize x1.toNat = y1 at *
  generalize x2.toNat = y2 at *
  subst hz
  grind
end Go.Proofs.YtmcjmmcamelmcaaGreatDoor
