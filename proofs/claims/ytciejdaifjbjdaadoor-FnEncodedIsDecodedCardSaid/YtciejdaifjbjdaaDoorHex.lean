/- fromHex, readHexByte: the walks, on great digits. -/
import Derived.Test.YtciejdaifjbjdaaDoorIdx
import Derived.Test.YtciejdaifjbjdaaDoorBits
namespace Go.Proofs.YtciejdaifjbjdaaDoor
open Go Go.RowKit

theorem fromHex_up (n : Nat) (hn : n < 16) (w : World) : Calls Tryd.prog 97 #[.int .u8 (hexU n).toNat] w fun x w' => x = .returned (.tuple #[.int .u8 n, .nilIface]) ∧ w = w' := by
  by_cases h : n < 10
  · have e : (hexU n).toNat = 48 + n := by unfold hexU; rw [if_pos h]; simp; omega
    rw [e]
    push_cast
    have i1 : (48 : Int) ≤ 48 + (n : Int) := by omega
    have i2 : 48 + (n : Int) ≤ 57 := by omega
    go_enter Tryd.func97, Tryd.ntmps97
    go_wp2
    go_ret2
    exact ⟨by go_num, rfl⟩
  · have e : (hexU n).toNat = 55 + n := by unfold hexU; rw [if_neg h]; simp; omega
    rw [e]
    push_cast
    have i1 : (48 : Int) ≤ 55 + (n : Int) := by omega
    have i2 : ¬ 55 + (n : Int) ≤ 57 := by omega
    have i3 : (65 : Int) ≤ 55 + (n : Int) := by omega
    have i4 : 55 + (n : Int) ≤ 70 := by omega
    go_enter Tryd.func97, Tryd.ntmps97
    go_wp2
    go_ret2
    exact ⟨by go_num, rfl⟩

theorem readHexByte_up (a b : Nat) (ha : a < 16) (hb : b < 16) (w : World) : Calls Tryd.prog 76 #[.int .u8 (hexU a).toNat, .int .u8 (hexU b).toNat] w fun x w' => x = .returned (.tuple #[.int .u8 ((16 * a + b : Nat) : Int), .nilIface]) ∧ w = w' := by
  go_enter Tryd.func76, Tryd.ntmps76
  go_wp2_with fail
  refine (fromHex_up a ha _).mono ?_
  rintro x w1 ⟨rfl, rfl⟩
  go_wp2_with fail
  refine (fromHex_up b hb _).mono ?_
  rintro x w1 ⟨rfl, rfl⟩
  go_wp2
  go_ret2
  refine ⟨?_, rfl⟩
  have e := u8_or_nat (a * 16) b (by omega) (by omega)
  have e2 : a * 16 ||| b = a * 16 + b := or_shift a b 4 (by omega)
  rw [e2] at e
  push_cast at e
  rw [e, Int.mul_comm]
  push_cast
  rfl
end Go.Proofs.YtciejdaifjbjdaaDoor
