/- assemble32, assemble64: the walks, on six bits each. -/
import Derived.Test.YtpoglombagmhmaaGreatDoorDec1
import Derived.Test.YtpoglombagmhmaaGreatDoorStd
namespace Go.Proofs.YtpoglombagmhmaaGreatDoor
open Go Go.RowKit

theorem or8_64 (a b : Nat) (ha : a < 64) (hb : b < 64) : ∃ r : Nat, r < 64 ∧ bits .or .u8 (a : Int) (b : Int) = (r : Int) :=
  ⟨a ||| b, Nat.or_lt_two_pow (n := 6) ha hb, u8_or_nat a b (by omega) (by omega)⟩
theorem wrapu32 (n : Nat) (h : n < 4294967296) : IntKind.u32.wrap (n : Int) = n := by
  rw [IntKind.wrap_u32']; omega
theorem or_sh (a b k : Nat) (h : b < 2 ^ k) : a * 2 ^ k ||| b = a * 2 ^ k + b := or_shift a b k h

theorem or32 (A B k : Nat) (x y : Int) (hx : x = (A : Int)) (hy : y = (B : Int)) (hk : A % 2 ^ k = 0) (hb : B < 2 ^ k) (ha : A + B < 4294967296) : bits .or .u32 x y = ((A + B : Nat) : Int) := by
  subst hx hy
  rw [u32_or_nat _ _ (by omega) (by omega), nat_join k A B hk hb]
theorem or64 (A B k : Nat) (x y : Int) (hx : x = (A : Int)) (hy : y = (B : Int)) (hk : A % 2 ^ k = 0) (hb : B < 2 ^ k) (ha : A + B < 18446744073709551616) : bits .or .u64 x y = ((A + B : Nat) : Int) := by
  subst hx hy
  rw [u64_or_nat _ _ (by omega) (by omega), nat_join k A B hk hb]
theorem chain32 (a b c d : Nat) (ha : a < 64) (hb : b < 64) (hc : c < 64) (hd : d < 64) :
    bits .or .u32 (bits .or .u32 (bits .or .u32 ((a : Int) * 67108864) ((b : Int) * 1048576)) ((c : Int) * 16384)) ((d : Int) * 256) = ((a * 67108864 + b * 1048576 + c * 16384 + d * 256 : Nat) : Int) :=
  (or32 (a * 67108864 + b * 1048576 + c * 16384) (d * 256) 14 _ _ (or32 (a * 67108864 + b * 1048576) (c * 16384) 20 _ _ (or32 (a * 67108864) (b * 1048576) 26 _ _ (by omega) (by omega) (by omega) (by omega) (by omega)) (by omega) (by omega) (by omega) (by omega)) (by omega) (by omega) (by omega) (by omega))
theorem chain64 (a b c d e f g h : Nat) (ha : a < 64) (hb : b < 64) (hc : c < 64) (hd : d < 64) (he : e < 64) (hf : f < 64) (hg : g < 64) (hh : h < 64) :
    bits .or .u64 (bits .or .u64 (bits .or .u64 (bits .or .u64 (bits .or .u64 (bits .or .u64 (bits .or .u64 ((a : Int) * 288230376151711744) ((b : Int) * 4503599627370496)) ((c : Int) * 70368744177664)) ((d : Int) * 1099511627776)) ((e : Int) * 17179869184)) ((f : Int) * 268435456)) ((g : Int) * 4194304)) ((h : Int) * 65536) = ((a * 288230376151711744 + b * 4503599627370496 + c * 70368744177664 + d * 1099511627776 + e * 17179869184 + f * 268435456 + g * 4194304 + h * 65536 : Nat) : Int) :=
  (or64 (a * 288230376151711744 + b * 4503599627370496 + c * 70368744177664 + d * 1099511627776 + e * 17179869184 + f * 268435456 + g * 4194304) (h * 65536) 22 _ _ (or64 (a * 288230376151711744 + b * 4503599627370496 + c * 70368744177664 + d * 1099511627776 + e * 17179869184 + f * 268435456) (g * 4194304) 28 _ _ (or64 (a * 288230376151711744 + b * 4503599627370496 + c * 70368744177664 + d * 1099511627776 + e * 17179869184) (f * 268435456) 34 _ _ (or64 (a * 288230376151711744 + b * 4503599627370496 + c * 70368744177664 + d * 1099511627776) (e * 17179869184) 40 _ _ (or64 (a * 288230376151711744 + b * 4503599627370496 + c * 70368744177664) (d * 1099511627776) 46 _ _ (or64 (a * 288230376151711744 + b * 4503599627370496) (c * 70368744177664) 52 _ _ (or64 (a * 288230376151711744) (b * 4503599627370496) 58 _ _ (by omega) (by omega) (by omega) (by omega) (by omega)) (by omega) (by omega) (by omega) (by omega)) (by omega) (by omega) (by omega) (by omega)) (by omega) (by omega) (by omega) (by omega)) (by omega) (by omega) (by omega) (by omega)) (by omega) (by omega) (by omega) (by omega)) (by omega) (by omega) (by omega) (by omega))

set_option maxRecDepth 100000 in
theorem assemble32_six (a b c d : Nat) (ha : a < 64) (hb : b < 64) (hc : c < 64) (hd : d < 64) (w : World) :
    Calls Tryz.prog 137 #[.int .u8 a, .int .u8 b, .int .u8 c, .int .u8 d] w fun x w' => x = .returned (.tuple #[.int .u32 ((a * 67108864 + b * 1048576 + c * 16384 + d * 256 : Nat) : Int), .bool true]) ∧ w = w' := by
  obtain ⟨r1, l1, e1⟩ := or8_64 a b ha hb
  obtain ⟨r2, l2, e2⟩ := or8_64 r1 c l1 hc
  obtain ⟨r3, l3, e3⟩ := or8_64 r2 d l2 hd
  have t : ((r3 : Int) == 255) = false := by rw [beq_eq_false_iff_ne]; omega
  go_enter Tryz.func137, Tryz.ntmps137
  go_wp2
  go_ret2
  refine ⟨?_, rfl⟩
  rw [← chain32 a b c d ha hb hc hd]
  rfl

set_option maxRecDepth 100000 in
theorem assemble64_six (a b c d e f g h : Nat) (ha : a < 64) (hb : b < 64) (hc : c < 64) (hd : d < 64) (he : e < 64) (hf : f < 64) (hg : g < 64) (hh : h < 64) (w : World) :
    Calls Tryz.prog 134 #[.int .u8 a, .int .u8 b, .int .u8 c, .int .u8 d, .int .u8 e, .int .u8 f, .int .u8 g, .int .u8 h] w fun x w' => x = .returned (.tuple #[.int .u64 ((a * 288230376151711744 + b * 4503599627370496 + c * 70368744177664 + d * 1099511627776 + e * 17179869184 + f * 268435456 + g * 4194304 + h * 65536 : Nat) : Int), .bool true]) ∧ w = w' := by
  obtain ⟨r1, l1, e1⟩ := or8_64 a b ha hb
  obtain ⟨r2, l2, e2⟩ := or8_64 r1 c l1 hc
  obtain ⟨r3, l3, e3⟩ := or8_64 r2 d l2 hd
  obtain ⟨r4, l4, e4⟩ := or8_64 r3 e l3 he
  obtain ⟨r5, l5, e5⟩ := or8_64 r4 f l4 hf
  obtain ⟨r6, l6, e6⟩ := or8_64 r5 g l5 hg
  obtain ⟨r7, l7, e7⟩ := or8_64 r6 h l6 hh
  have t : ((r7 : Int) == 255) = false := by rw [beq_eq_false_iff_ne]; omega
  go_enter Tryz.func134, Tryz.ntmps134
  go_wp2
  go_ret2
  refine ⟨?_, rfl⟩
  rw [← chain64 a b c d e f g h ha hb hc hd he hf hg hh]
  rfl
end Go.Proofs.YtpoglombagmhmaaGreatDoor
/- BEPutUint32, BEPutUint64: the walks. -/
namespace Go.Proofs.YtpoglombagmhmaaGreatDoor
open Go Go.RowKit

set_option maxHeartbeats 1000000 in
set_option maxRecDepth 100000 in
theorem BEPutUint32_any (g n m cap : Nat) (l : List UInt8) (p0 p1 p2 p3 : UInt8) (V : Nat) (hV : V = p0.toNat * 16777216 + p1.toNat * 65536 + p2.toNat * 256 + p3.toNat * 1) (w : World) (hR : Row g l w) (hn : n + 4 ≤ l.length) (hm : 4 ≤ m) :
    Calls Tryz.prog 138 #[.slice (some ⟨g, n, none⟩) m cap, .int .u32 V] w fun x w' => x = .returned (.tuple #[]) ∧ Row g ((((l.set n p0).set (n + 1) p1).set (n + 2) p2).set (n + 3) p3) w' ∧ Fr (· ≠ g) w w' := by
  have l0 := p0.toNat_lt
  have l1 := p1.toNat_lt
  have l2 := p2.toNat_lt
  have l3 := p3.toNat_lt
  obtain ⟨y0, hy0⟩ : ∃ y, l[n]? = some y := ⟨_, List.getElem?_eq_getElem (by omega)⟩
  have c0 := hR.cell hy0
  have f0 := hR.frozen (n)
  obtain ⟨y1, hy1⟩ : ∃ y, l[n + 1]? = some y := ⟨_, List.getElem?_eq_getElem (by omega)⟩
  have c1 := hR.cell hy1
  have f1 := hR.frozen (n + 1)
  obtain ⟨y2, hy2⟩ : ∃ y, l[n + 2]? = some y := ⟨_, List.getElem?_eq_getElem (by omega)⟩
  have c2 := hR.cell hy2
  have f2 := hR.frozen (n + 2)
  obtain ⟨y3, hy3⟩ : ∃ y, l[n + 3]? = some y := ⟨_, List.getElem?_eq_getElem (by omega)⟩
  have c3 := hR.cell hy3
  have f3 := hR.frozen (n + 3)
  have e0 : IntKind.u8.wrap ((V : Int) / 16777216) = (p0.toNat : Int) := by rw [IntKind.wrap_u8']; omega
  have e1 : IntKind.u8.wrap ((V : Int) / 65536) = (p1.toNat : Int) := by rw [IntKind.wrap_u8']; omega
  have e2 : IntKind.u8.wrap ((V : Int) / 256) = (p2.toNat : Int) := by rw [IntKind.wrap_u8']; omega
  have e3 : IntKind.u8.wrap (V : Int) = (p3.toNat : Int) := by rw [IntKind.wrap_u8']; omega
  have HR := Lib.hid ((((hR.set (n) p0).set (n + 1) p1).set (n + 2) p2).set (n + 3) p3); have HF := Lib.hid (((((Fr.refl (· ≠ g) w).setCell (p := ⟨g, n, none⟩) (fun h => h rfl) (.int .u8 p0.toNat)).setCell (p := ⟨g, n + 1, none⟩) (fun h => h rfl) (.int .u8 p1.toNat)).setCell (p := ⟨g, n + 2, none⟩) (fun h => h rfl) (.int .u8 p2.toNat)).setCell (p := ⟨g, n + 3, none⟩) (fun h => h rfl) (.int .u8 p3.toNat))
  have i1 : (3 : Int) < (m : Int) := by omega
  clear hR hV l0 hy0 l1 hy1 l2 hy2 l3 hy3
  go_enter Tryz.func138, Tryz.ntmps138
  go_wp2
  go_end0
  exact ⟨rfl, HR.out, HF.out⟩

set_option maxHeartbeats 1000000 in
set_option maxRecDepth 100000 in
theorem BEPutUint64_any (g n m cap : Nat) (l : List UInt8) (p0 p1 p2 p3 p4 p5 p6 p7 : UInt8) (V : Nat) (hV : V = p0.toNat * 72057594037927936 + p1.toNat * 281474976710656 + p2.toNat * 1099511627776 + p3.toNat * 4294967296 + p4.toNat * 16777216 + p5.toNat * 65536 + p6.toNat * 256 + p7.toNat * 1) (w : World) (hR : Row g l w) (hn : n + 8 ≤ l.length) (hm : 8 ≤ m) :
    Calls Tryz.prog 135 #[.slice (some ⟨g, n, none⟩) m cap, .int .u64 V] w fun x w' => x = .returned (.tuple #[]) ∧ Row g ((((((((l.set n p0).set (n + 1) p1).set (n + 2) p2).set (n + 3) p3).set (n + 4) p4).set (n + 5) p5).set (n + 6) p6).set (n + 7) p7) w' ∧ Fr (· ≠ g) w w' := by
  have l0 := p0.toNat_lt
  have l1 := p1.toNat_lt
  have l2 := p2.toNat_lt
  have l3 := p3.toNat_lt
  have l4 := p4.toNat_lt
  have l5 := p5.toNat_lt
  have l6 := p6.toNat_lt
  have l7 := p7.toNat_lt
  obtain ⟨y0, hy0⟩ : ∃ y, l[n]? = some y := ⟨_, List.getElem?_eq_getElem (by omega)⟩
  have c0 := hR.cell hy0
  have f0 := hR.frozen (n)
  obtain ⟨y1, hy1⟩ : ∃ y, l[n + 1]? = some y := ⟨_, List.getElem?_eq_getElem (by omega)⟩
  have c1 := hR.cell hy1
  have f1 := hR.frozen (n + 1)
  obtain ⟨y2, hy2⟩ : ∃ y, l[n + 2]? = some y := ⟨_, List.getElem?_eq_getElem (by omega)⟩
  have c2 := hR.cell hy2
  have f2 := hR.frozen (n + 2)
  obtain ⟨y3, hy3⟩ : ∃ y, l[n + 3]? = some y := ⟨_, List.getElem?_eq_getElem (by omega)⟩
  have c3 := hR.cell hy3
  have f3 := hR.frozen (n + 3)
  obtain ⟨y4, hy4⟩ : ∃ y, l[n + 4]? = some y := ⟨_, List.getElem?_eq_getElem (by omega)⟩
  have c4 := hR.cell hy4
  have f4 := hR.frozen (n + 4)
  obtain ⟨y5, hy5⟩ : ∃ y, l[n + 5]? = some y := ⟨_, List.getElem?_eq_getElem (by omega)⟩
  have c5 := hR.cell hy5
  have f5 := hR.frozen (n + 5)
  obtain ⟨y6, hy6⟩ : ∃ y, l[n + 6]? = some y := ⟨_, List.getElem?_eq_getElem (by omega)⟩
  have c6 := hR.cell hy6
  have f6 := hR.frozen (n + 6)
  obtain ⟨y7, hy7⟩ : ∃ y, l[n + 7]? = some y := ⟨_, List.getElem?_eq_getElem (by omega)⟩
  have c7 := hR.cell hy7
  have f7 := hR.frozen (n + 7)
  have e0 : IntKind.u8.wrap ((V : Int) / 72057594037927936) = (p0.toNat : Int) := by rw [IntKind.wrap_u8']; omega
  have e1 : IntKind.u8.wrap ((V : Int) / 281474976710656) = (p1.toNat : Int) := by rw [IntKind.wrap_u8']; omega
  have e2 : IntKind.u8.wrap ((V : Int) / 1099511627776) = (p2.toNat : Int) := by rw [IntKind.wrap_u8']; omega
  have e3 : IntKind.u8.wrap ((V : Int) / 4294967296) = (p3.toNat : Int) := by rw [IntKind.wrap_u8']; omega
  have e4 : IntKind.u8.wrap ((V : Int) / 16777216) = (p4.toNat : Int) := by rw [IntKind.wrap_u8']; omega
  have e5 : IntKind.u8.wrap ((V : Int) / 65536) = (p5.toNat : Int) := by rw [IntKind.wrap_u8']; omega
  have e6 : IntKind.u8.wrap ((V : Int) / 256) = (p6.toNat : Int) := by rw [IntKind.wrap_u8']; omega
  have e7 : IntKind.u8.wrap (V : Int) = (p7.toNat : Int) := by rw [IntKind.wrap_u8']; omega
  have HR := Lib.hid ((((((((hR.set (n) p0).set (n + 1) p1).set (n + 2) p2).set (n + 3) p3).set (n + 4) p4).set (n + 5) p5).set (n + 6) p6).set (n + 7) p7); have HF := Lib.hid (((((((((Fr.refl (· ≠ g) w).setCell (p := ⟨g, n, none⟩) (fun h => h rfl) (.int .u8 p0.toNat)).setCell (p := ⟨g, n + 1, none⟩) (fun h => h rfl) (.int .u8 p1.toNat)).setCell (p := ⟨g, n + 2, none⟩) (fun h => h rfl) (.int .u8 p2.toNat)).setCell (p := ⟨g, n + 3, none⟩) (fun h => h rfl) (.int .u8 p3.toNat)).setCell (p := ⟨g, n + 4, none⟩) (fun h => h rfl) (.int .u8 p4.toNat)).setCell (p := ⟨g, n + 5, none⟩) (fun h => h rfl) (.int .u8 p5.toNat)).setCell (p := ⟨g, n + 6, none⟩) (fun h => h rfl) (.int .u8 p6.toNat)).setCell (p := ⟨g, n + 7, none⟩) (fun h => h rfl) (.int .u8 p7.toNat))
  have i1 : (7 : Int) < (m : Int) := by omega
  clear hR hV l0 hy0 l1 hy1 l2 hy2 l3 hy3 l4 hy4 l5 hy5 l6 hy6 l7 hy7
  go_enter Tryz.func135, Tryz.ntmps135
  go_wp2
  go_end0
  exact ⟨rfl, HR.out, HF.out⟩

end Go.Proofs.YtpoglombagmhmaaGreatDoor
/- DecodedLen; what the decoding map says: the walks. -/
namespace Go.Proofs.YtpoglombagmhmaaGreatDoor
open Go Go.RowKit

theorem EncM.dig {ea i : Nat} {w : World} (h : EncM 64 ea w) (hi : i < 64) : w.cell? ⟨ea, 64 + alphaN i, none⟩ = some (.int .u8 i) := by
  obtain ⟨cs, hb, hc⟩ := h
  rw [Lib.cell_of_heap hb, hc.dec _ (by have := alphaN_lt i hi; omega)]
  unfold dm
  rw [aIdx_alpha i hi, if_pos hi]
theorem EncM.sign {ea i : Nat} {w : World} (h : EncM 64 ea w) (hi : i < 64) : w.cell? ⟨ea, 64 + (sgn i).toNat, none⟩ = some (.int .u8 i) := by
  rw [sgn_toNat i hi]; exact h.dig hi
theorem EncM.pads {ea : Nat} {w : World} (h : EncM 64 ea w) : w.cell? ⟨ea, 64 + 61, none⟩ = some (.int .u8 255) := by
  obtain ⟨cs, hb, hc⟩ := h
  rw [Lib.cell_of_heap hb, hc.dec 61 (by omega)]
  rfl
theorem EncM.padC {ea : Nat} {w : World} (h : EncM 64 ea w) : w.cell? ⟨ea, 320, none⟩ = some (.int .i32 61) := by
  obtain ⟨cs, hb, hc⟩ := h
  rw [Lib.cell_of_heap hb, hc.pad]
theorem EncM.strictC {ea : Nat} {w : World} (h : EncM 64 ea w) : w.cell? ⟨ea, 321, none⟩ = some (.bool false) := by
  obtain ⟨cs, hb, hc⟩ := h
  rw [Lib.cell_of_heap hb, hc.strict]

theorem decodedLen_four (q : Nat) (hq : q ≤ 1048576) (w : World) : Calls Tryz.prog 133 #[.int .i64 ((4 * q : Nat) : Int), .int .i32 61] w fun x w' => x = .returned (.int .i64 ((3 * q : Nat) : Int)) ∧ w = w' := by
  push_cast
  have e : 4 * (q : Int) / 4 = q := by omega
  go_enter Tryz.func133, Tryz.ntmps133
  go_wp2
  go_ret
  exact ⟨by go_num, rfl⟩
theorem DecodedLen_four (ea q : Nat) (hq : q ≤ 1048576) (w : World) (hE : EncM 64 ea w) : Calls Tryz.prog 123 #[.pointer (some ⟨ea, 0, none⟩), .int .i64 ((4 * q : Nat) : Int)] w fun x w' => x = .returned (.int .i64 ((3 * q : Nat) : Int)) ∧ w = w' := by
  have hp := hE.padC
  go_enter Tryz.func123, Tryz.ntmps123
  go_wp2_with fail
  refine (decodedLen_four q hq _).mono ?_
  rintro x w1 ⟨rfl, rfl⟩
  go_wp2
  go_ret
  exact ⟨rfl, rfl⟩
end Go.Proofs.YtpoglombagmhmaaGreatDoor
