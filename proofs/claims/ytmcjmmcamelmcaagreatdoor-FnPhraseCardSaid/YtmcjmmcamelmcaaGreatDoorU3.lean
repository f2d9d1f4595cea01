/- spec.unbased: what it computes; the walk. -/
import Derived.Test.YtmcjmmcamelmcaaGreatDoorU2
import Derived.Test.YtmcjmmcamelmcaaGreatDoorA1
namespace Go.Proofs.YtmcjmmcamelmcaaGreatDoor
open Go Go.RowKit

def digO (c : UInt8) : Option Nat := if aIdx c.toNat < 64 then some (aIdx c.toNat) else none
def digZ (c : UInt8) : Nat := if aIdx c.toNat < 64 then aIdx c.toNat else 0
def padB (c : UInt8) : Bool := !decide (aIdx c.toNat < 64)
def foldX : List UInt8 → Nat
  | l => l.foldl (fun x c => x * 64 + digZ c) 0
def pads (l : List UInt8) : Nat := (l.filter padB).length
/-- The sign at k of a group may stand there; last: it is the last group; e: the group's last sign is '='. -/
def okSign (last e : Bool) (k : Nat) (c : UInt8) : Bool := !padB c || (c == 61 && last && decide (2 ≤ k) && (decide (k ≠ 2) || e))
def okAll (last e : Bool) : Nat → List UInt8 → Bool
  | _, [] => true
  | k, c :: t => okSign last e k c && okAll last e (k + 1) t
def bytesX (X n : Nat) : List UInt8 := (List.range n).map fun k => UInt8.ofNat (X / 2 ^ (16 - 8 * k))
def groupL (q : List UInt8) (last : Bool) : Option (List UInt8) :=
  if okAll last (q.getD 3 0 == 61) 0 q then
    if foldX q % 2 ^ (24 - 8 * (3 - pads q)) = 0 then some (bytesX (foldX q) (3 - pads q)) else none
  else none
/-- Groups of four signs. -/
def unbG : List UInt8 → Option (List UInt8)
  | a :: b :: c :: d :: t => match groupL [a, b, c, d] t.isEmpty with
    | none => none
    | some g => (unbG t).map (g ++ ·)
  | _ => some []
def unbL (s : List UInt8) : Option (List UInt8) := if s.length % 4 = 0 then unbG s else none

theorem unbG_step {s : List UInt8} {i : Nat} {a b c d : UInt8} {t : List UInt8} (h : s.drop i = a :: b :: c :: d :: t) : unbG (s.drop i) = match groupL [a, b, c, d] t.isEmpty with | none => none | some g => (unbG t).map (g ++ ·) := by
  rw [h, unbG]
theorem foldX_snoc (l : List UInt8) (c : UInt8) : foldX (l ++ [c]) = foldX l * 64 + digZ c := by simp [foldX]
theorem pads_snoc (l : List UInt8) (c : UInt8) : pads (l ++ [c]) = pads l + (if padB c then 1 else 0) := by
  unfold pads
  rw [List.filter_append, List.length_append]
  cases h : padB c <;> simp [h]
theorem digZ_lt (c : UInt8) : digZ c < 64 := by unfold digZ; split <;> omega
theorem foldX_lt : ∀ (l : List UInt8), foldX l < 64 ^ l.length := by
  intro l
  induction h : l.length generalizing l with
  | zero =>
    have : l = [] := List.eq_nil_of_length_eq_zero h
    subst this; simp [foldX]
  | succ n ih =>
    have hne : l ≠ [] := fun e => by rw [e] at h; simp at h
    rw [← List.dropLast_concat_getLast hne]
    have h1 := ih l.dropLast (by simp [h])
    rw [foldX_snoc]
    have h2 := digZ_lt (l.getLast hne)
    have : 64 ^ (n + 1) = 64 ^ n * 64 := Nat.pow_succ 64 n
    omega
theorem okAll_at {last e : Bool} : ∀ {l : List UInt8} {k j : Nat} {c : UInt8}, okAll last e k l = true → l[j]? = some c → okSign last e (k + j) c = true
  | [], _, _, _, _, h => by simp at h
  | a :: t, k, 0, c, h, hc => by
    simp only [List.getElem?_cons_zero, Option.some.injEq] at hc
    subst hc
    rw [okAll, Bool.and_eq_true] at h
    exact h.1
  | a :: t, k, j + 1, c, h, hc => by
    rw [okAll, Bool.and_eq_true] at h
    have := okAll_at h.2 (j := j) (by simpa using hc)
    rwa [show k + 1 + j = k + (j + 1) by omega] at this
theorem okAll_of {last e : Bool} : ∀ {l : List UInt8} {k : Nat}, (∀ j c, l[j]? = some c → okSign last e (k + j) c = true) → okAll last e k l = true
  | [], _, _ => rfl
  | a :: t, k, h => by
    rw [okAll, Bool.and_eq_true]
    refine ⟨by simpa using h 0 a rfl, okAll_of (fun j c hc => ?_)⟩
    have := h (j + 1) c (by simpa using hc)
    rwa [show k + (j + 1) = k + 1 + j by omega] at this
theorem okAll_snoc (last e : Bool) : ∀ (l : List UInt8) (k : Nat) (c : UInt8), okAll last e k (l ++ [c]) = (okAll last e k l && okSign last e (k + l.length) c)
  | [], k, c => by simp [okAll]
  | a :: t, k, c => by
    rw [List.cons_append, okAll, okAll, okAll_snoc last e t (k + 1) c, List.length_cons, show k + 1 + t.length = k + (t.length + 1) by omega, Bool.and_assoc]
theorem take_q {q : List UInt8} {m : Nat} {c : UInt8} (h : q[m]? = some c) : q.take (m + 1) = q.take m ++ [c] := by rw [List.take_add_one, h]; rfl
theorem groupL_no {q : List UInt8} {last : Bool} {m : Nat} {c : UInt8} (h : q[m]? = some c) (hs : okSign last (q.getD 3 0 == 61) m c = false) : groupL q last = none := by
  unfold groupL
  rw [if_neg]
  intro ho
  have := okAll_at ho h
  rw [Nat.zero_add, hs] at this
  cases this
theorem okSign_dig {last e : Bool} {k : Nat} {c : UInt8} (h : aIdx c.toNat < 64) : okSign last e k c = true := by simp [okSign, padB, h]
theorem okSign_pad {last e : Bool} {k : Nat} {c : UInt8} (h : ¬ aIdx c.toNat < 64) : okSign last e k c = (c == 61 && last && decide (2 ≤ k) && (decide (k ≠ 2) || e)) := by simp [okSign, padB, h]
theorem or_six (X D : Nat) (hX : X ≤ 16777215) (hD : D < 64) : bits .or .i64 ((X : Int) * 64) (D : Int) = ((X * 64 + D : Nat) : Int) := by
  rw [show (X : Int) * 64 = ((X * 64 : Nat) : Int) by omega, i64_or_nat _ _ (by omega) (by omega)]
  rw [show X * 64 = X * 2 ^ 6 by rfl, or_shift X D 6 (by omega)]
theorem foldX_take {q : List UInt8} {m : Nat} (hm : m ≤ 4) : foldX (q.take m) ≤ 16777215 := by
  have h1 := foldX_lt (q.take m)
  have h2 : (q.take m).length ≤ 4 := by rw [List.length_take]; omega
  have h3 : 64 ^ (q.take m).length ≤ 64 ^ 4 := Nat.pow_le_pow_right (by omega) h2
  have h4 : (64 : Nat) ^ 4 = 16777216 := by decide
  omega

/-- The signs of base64, as Go's constant has them. -/
def digS : ByteArray := ⟨#[65, 66, 67, 68, 69, 70, 71, 72, 73, 74, 75, 76, 77, 78, 79, 80, 81, 82, 83, 84, 85, 86, 87, 88, 89, 90, 97, 98, 99, 100, 101, 102, 103, 104, 105, 106, 107, 108, 109, 110, 111, 112, 113, 114, 115, 116, 117, 118, 119, 120, 121, 122, 48, 49, 50, 51, 52, 53, 54, 55, 56, 57, 43, 47]⟩
theorem digS_at : ∀ (j : Nat) (h : j < digS.size), (digS[j]).toNat = alphaN j := by
  have : ∀ k : Fin 64, (digS[k.val]'(by have := k.isLt; show k.val < 64; exact this)).toNat = alphaN k.val := by decide
  intro j h
  exact this ⟨j, h⟩
theorem digS_eq {j : Nat} {c : UInt8} (h : j < digS.size) : (((digS[j]).toNat : Int) == (c.toNat : Int)) = decide (aIdx c.toNat = j) := by
  have hj : j < 64 := h
  rw [digS_at j h]
  by_cases he : aIdx c.toNat = j
  · rw [decide_eq_true he, beq_iff_eq]
    subst he
    rw [alpha_aIdx c.toNat hj]
  · rw [decide_eq_false he, beq_eq_false_iff_ne]
    intro e
    apply he
    have : c.toNat = alphaN j := by omega
    rw [this, aIdx_alpha j hj]
end Go.Proofs.YtmcjmmcamelmcaaGreatDoor
