/- assemble32, assemble64: the walks, on six bits each. -/
import Derived.Test.YtmcjmmcamelmcaaGreatDoorDec1
namespace Go.Proofs.YtmcjmmcamelmcaaGreatDoor
open Go Go.RowKit

theorem or8_64 (a b : Nat) (ha : a < 64) (hb : b < 64) : ∃ r : Nat, r < 64 ∧ bits .or .u8 (a : Int) (b : Int) = (r : Int) :=
  ⟨a ||| b, Nat.or_lt_two_pow (n := 6) ha hb, u8_or_nat a b (by omega) (by omega)⟩
theorem wrapu32 (n : Nat) (h : n < 4294967296) : IntKind.u32.wrap (n : Int) = n := by
  rw [IntKind.wrap_u32']; omega
theorem or_sh (a b k : Nat) (h : b < 2 ^ k) : a * 2 ^ k ||| b = a * 2 ^ k + b := or_shift a b k h

theorem or32 (A B k : Nat) (x y : Int) (hx : x = (A : Int)) (hy : y = (B : Int)) (hk : A % 2 ^ k = 0) (hb : B < 2 ^ k) (ha : A + B < 4294967296) : bits .or .u32 x y = ((A + B : Nat) : Int) := by
  subst hx hy
  rw [u32_or_nat _ _ (by omega) (by omega), nat_join k A B hk hb]
theorem or64 (A B k : Nat) (x y : Int) (hx : x = (A : Int)) (hy : y = (B : Int)) (hk : A % 2 ^ k = 0) (hb : B < 2 ^ k) (ha : A + B < 18446744073709551616) : bits .or .u64 x y = ((A + B : Nat) : Int) := by
  subst hx hy
  rw [u64_or_nat _ _ (by omega) (by omega), nat_join k A B hk hb]
theorem chain32 (a b c d : Nat) (ha : a < 64) (hb : b < 64) (hc : c < 64) (hd : d < 64) :
    bits .or .u32 (bits .or .u32 (bits .or .u32 ((a : Int) * 67108864) ((b : Int) * 1048576)) ((c : Int) * 16384)) ((d : Int) * 256) = ((a * 67108864 + b * 1048576 + c * 16384 + d * 256 : Nat) : Int) :=
  (or32 (a * 67108864 + b * 1048576 + c * 16384) (d * 256) 14 _ _ (or32 (a * 67108864 + b * 1048576) (c * 16384) 20 _ _ (or32 (a * 67108864) (b * 1048576) 26 _ _ (by omega) (by omega) (by omega) (by omega) (by omega)) (by omega) (by omega) (by omega) (by omega)) (by omega) (by omega) (by omega) (by omega))
theorem chain64 (a b c d e f g h : Nat) (ha : a < 64) (hb : b < 64) (hc : c < 64) (hd : d < 64) (he : e < 64) (hf : f < 64) (hg : g < 64) (hh : h < 64) :
    bits .or .u64 (bits .or .u64 (bits .or .u64 (bits .or .u64 (bits .or .u64 (bits .or .u64 (bits .or .u64 ((a : Int) * 288230376151711744) ((b : Int) * 4503599627370496)) ((c : Int) * 70368744177664)) ((d : Int) * 1099511627776)) ((e : Int) * 17179869184)) ((f : Int) * 268435456)) ((g : Int) * 4194304)) ((h : Int) * 65536) = ((a * 288230376151711744 + b * 4503599627370496 + c * 70368744177664 + d * 1099511627776 + e * 17179869184 + f * 268435456 + g * 4194304 + h * 65536 : Nat) : Int) :=
  (or64 (a * 288230376151711744 + b * 4503599627370496 + c * 70368744177664 + d * 1099511627776 + e * 17179869184 + f * 268435456 + g * 4194304) (h * 65536) 22 _ _ (or64 (a * 288230376151711744 + b * 4503599627370496 + c * 70368744177664 + d * 1099511627776 + e * 17179869184 + f * 268435456) (g * 4194304) 28 _ _ (or64 (a * 288230376151711744 + b * 4503599627370496 + c * 70368744177664 + d * 1099511627776 + e * 17179869184) (f * 268435456) 34 _ _ (or64 (a * 288230376151711744 + b * 4503599627370496 + c * 70368744177664 + d * 1099511627776) (e * 17179869184) 40 _ _ (or64 (a * 288230376151711744 + b * 4503599627370496 + c * 70368744177664) (d * 1099511627776) 46 _ _ (or64 (a * 288230376151711744 + b * 4503599627370496) (c * 70368744177664) 52 _ _ (or64 (a * 288230376151711744) (b * 4503599627370496) 58 _ _ (by omega) (by omega) (by omega) (by omega) (by omega)) (by omega) (by omega) (by omega) (by omega)) (by omega) (by omega) (by omega) (by omega)) (by omega) (by omega) (by omega) (by omega)) (by omega) (by omega) (by omega) (by omega)) (by omega) (by omega) (by omega) (by omega)) (by omega) (by omega) (by omega) (by omega))

set_option maxRecDepth 100000 in
theorem assemble32_six (a b c d : Nat) (ha : a < 64) (hb : b < 64) (hc : c < 64) (hd : d < 64) (w : World) :
    Calls Tryz.prog 125 #[.int .u8 a, .int .u8 b, .int .u8 c, .int .u8 d] w fun x w' => x = .returned (.tuple #[.int .u32 ((a * 67108864 + b * 1048576 + c * 16384 + d * 256 : Nat) : Int), .bool true]) ∧ w = w' := by
  obtain ⟨r1, l1, e1⟩ := or8_64 a b ha hb
  obtain ⟨r2, l2, e2⟩ := or8_64 r1 c l1 hc
  obtain ⟨r3, l3, e3⟩ := or8_64 r2 d l2 hd
  have t : ((r3 : Int) == 255) = false := by rw [beq_eq_false_iff_ne]; omega
  go_enter Tryz.func125, Tryz.ntmps125
  go_wp2
  go_ret2
  refine ⟨?_, rfl⟩
  rw [← chain32 a b c d ha hb hc hd]
  rfl

set_option maxRecDepth 100000 in
theorem assemble64_six (a b c d e f g h : Nat) (ha : a < 64) (hb : b < 64) (hc : c < 64) (hd : d < 64) (he : e < 64) (hf : f < 64) (hg : g < 64) (hh : h < 64) (w : World) :
    Calls Tryz.prog 122 #[.int .u8 a, .int .u8 b, .int .u8 c, .int .u8 d, .int .u8 e, .int .u8 f, .int .u8 g, .int .u8 h] w fun x w' => x = .returned (.tuple #[.int .u64 ((a * 288230376151711744 + b * 4503599627370496 + c * 70368744177664 + d * 1099511627776 + e * 17179869184 + f * 268435456 + g * 4194304 + h * 65536 : Nat) : Int), .bool true]) ∧ w = w' := by
  obtain ⟨r1, l1, e1⟩ := or8_64 a b ha hb
  obtain ⟨r2, l2, e2⟩ := or8_64 r1 c l1 hc
  obtain ⟨r3, l3, e3⟩ := or8_64 r2 d l2 hd
  obtain ⟨r4, l4, e4⟩ := or8_64 r3 e l3 he
  obtain ⟨r5, l5, e5⟩ := or8_64 r4 f l4 hf
  obtain ⟨r6, l6, e6⟩ := or8_64 r5 g l5 hg
  obtain ⟨r7, l7, e7⟩ := or8_64 r6 h l6 hh
  have t : ((r7 : Int) == 255) = false := by rw [beq_eq_false_iff_ne]; omega
  go_enter Tryz.func122, Tryz.ntmps122
  go_wp2
  go_ret2
  refine ⟨?_, rfl⟩
  rw [← chain64 a b c d e f g h ha hb hc hd he hf hg hh]
  rfl
end Go.Proofs.YtmcjmmcamelmcaaGreatDoor
