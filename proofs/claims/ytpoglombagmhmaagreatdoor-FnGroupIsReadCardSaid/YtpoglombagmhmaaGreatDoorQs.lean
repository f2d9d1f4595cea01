/- Plain Lean: a quoted string. -/
import Derived.Test.YtpoglombagmhmaaGreatDoorUtf
namespace Go.Proofs.YtpoglombagmhmaaGreatDoor
open Go

/-- A sign within quotes. -/
def qsB (c : UInt8) : List UInt8 := if c = 92 ∨ c = 34 then [92, c] else [c]
def qsL (l : List UInt8) : List UInt8 := [34] ++ l.flatMap qsB ++ [34]
theorem qs_snoc (l : List UInt8) (k : Nat) (c : UInt8) (h : l[k]? = some c) : (l.take (k + 1)).flatMap qsB = (l.take k).flatMap qsB ++ qsB c := by
  rw [List.take_add_one, h]; simp
theorem qs_len (l : List UInt8) : (l.flatMap qsB).length ≤ 2 * l.length := by
  induction l with
  | nil => simp
  | cons c t ih =>
    rw [List.flatMap_cons, List.length_append]
    have : (qsB c).length ≤ 2 := by unfold qsB; split <;> simp
    simp only [List.length_cons]; omega
end Go.Proofs.YtpoglombagmhmaaGreatDoor
