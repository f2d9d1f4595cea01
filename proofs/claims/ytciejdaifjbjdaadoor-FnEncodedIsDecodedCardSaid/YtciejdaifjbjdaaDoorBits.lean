/- Sums that Go builds of shifted bytes, and the six bits that it takes of them. -/
import Derived.Laws.BitsAllLaws
import Derived.WalkKit
import Derived.IntWalk
namespace Go.Proofs.YtciejdaifjbjdaaDoor
open Go

theorem wrapu64 (n : Nat) (h : n < 18446744073709551616) : IntKind.u64.wrap (n : Int) = n := IntWalk.u64_in _ ⟨by omega, by omega⟩
theorem or_shift (a b k : Nat) (h : b < 2 ^ k) : a * 2 ^ k ||| b = a * 2 ^ k + b := by
  rw [← Nat.shiftLeft_eq, Nat.shiftLeft_add_eq_or_of_lt h]
theorem and63 (n : Nat) (h : n < 18446744073709551616) : bits .and .u64 (n : Int) 63 = ((n % 64 : Nat) : Int) := by
  have h1 := u64_and_nat n 63 h (by omega)
  have h2 : n &&& 63 = n % 64 := Nat.and_two_pow_sub_one_eq_mod n 6
  rw [h2] at h1
  exact h1
theorem val3 (x y z : UInt8) : bits .or .u64 (bits .or .u64 (IntKind.u64.wrap (IntKind.u64.wrap (x.toNat : Int) * 65536)) (IntKind.u64.wrap (IntKind.u64.wrap (y.toNat : Int) * 256))) (IntKind.u64.wrap (z.toNat : Int)) =
    ((x.toNat * 65536 + y.toNat * 256 + z.toNat : Nat) : Int) := by
  have hx := x.toNat_lt; have hy := y.toNat_lt; have hz := z.toNat_lt
  rw [wrapu64 x.toNat (by omega), wrapu64 y.toNat (by omega), wrapu64 z.toNat (by omega)]
  rw [show (x.toNat : Int) * 65536 = ((x.toNat * 65536 : Nat) : Int) by omega, show (y.toNat : Int) * 256 = ((y.toNat * 256 : Nat) : Int) by omega, wrapu64 _ (by omega), wrapu64 _ (by omega)]
  rw [u64_or_nat _ _ (by omega) (by omega)]
  have e1 : x.toNat * 65536 ||| y.toNat * 256 = x.toNat * 65536 + y.toNat * 256 := or_shift x.toNat (y.toNat * 256) 16 (by omega)
  rw [e1, u64_or_nat _ _ (by omega) (by omega)]
  have e2 : (x.toNat * 65536 + y.toNat * 256) ||| z.toNat = x.toNat * 65536 + y.toNat * 256 + z.toNat := by
    have := or_shift (x.toNat * 256 + y.toNat) z.toNat 8 (by omega)
    have e3 : (x.toNat * 256 + y.toNat) * 2 ^ 8 = x.toNat * 65536 + y.toNat * 256 := by omega
    rwa [e3] at this
  rw [e2]
theorem val2 (x y : UInt8) : bits .or .u64 (IntKind.u64.wrap (IntKind.u64.wrap (x.toNat : Int) * 65536)) (IntKind.u64.wrap (IntKind.u64.wrap (y.toNat : Int) * 256)) = ((x.toNat * 65536 + y.toNat * 256 : Nat) : Int) := by
  have hx := x.toNat_lt; have hy := y.toNat_lt
  rw [wrapu64 x.toNat (by omega), wrapu64 y.toNat (by omega)]
  rw [show (x.toNat : Int) * 65536 = ((x.toNat * 65536 : Nat) : Int) by omega, show (y.toNat : Int) * 256 = ((y.toNat * 256 : Nat) : Int) by omega, wrapu64 _ (by omega), wrapu64 _ (by omega)]
  rw [u64_or_nat _ _ (by omega) (by omega)]
  have e1 : x.toNat * 65536 ||| y.toNat * 256 = x.toNat * 65536 + y.toNat * 256 := or_shift x.toNat (y.toNat * 256) 16 (by omega)
  rw [e1]
theorem val1 (x : UInt8) : IntKind.u64.wrap (IntKind.u64.wrap (x.toNat : Int) * 65536) = ((x.toNat * 65536 : Nat) : Int) := by
  have hx := x.toNat_lt
  rw [wrapu64 x.toNat (by omega), show (x.toNat : Int) * 65536 = ((x.toNat * 65536 : Nat) : Int) by omega, wrapu64 _ (by omega)]
/-- The six bits of a sum behind a shift. -/
theorem six (V q d r : Nat) (hV : V < 18446744073709551616) (hq : V / d = q) (hr : q % 64 = r) : bits .and .u64 ((V : Int) / (d : Int)) 63 = (r : Int) := by
  rw [show (V : Int) / (d : Int) = ((V / d : Nat) : Int) by norm_cast, and63 _ (by have := Nat.div_le_self V d; omega), hq, hr]
end Go.Proofs.YtciejdaifjbjdaaDoor
