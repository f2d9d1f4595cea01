/- DecodedLen; what the decoding map says: the walks. -/
import Derived.Test.YtmcjmmcamelmcaaGreatDoorPut
import Derived.Test.YtmcjmmcamelmcaaGreatDoorB64a
namespace Go.Proofs.YtmcjmmcamelmcaaGreatDoor
open Go Go.RowKit

theorem EncM.dig {ea i : Nat} {w : World} (h : EncM 64 ea w) (hi : i < 64) : w.cell? ⟨ea, 64 + alphaN i, none⟩ = some (.int .u8 i) := by
  obtain ⟨cs, hb, hc⟩ := h
  rw [Lib.cell_of_heap hb, hc.dec _ (by have := alphaN_lt i hi; omega)]
  unfold dm
  rw [aIdx_alpha i hi, if_pos hi]
theorem EncM.sign {ea i : Nat} {w : World} (h : EncM 64 ea w) (hi : i < 64) : w.cell? ⟨ea, 64 + (sgn i).toNat, none⟩ = some (.int .u8 i) := by
  rw [sgn_toNat i hi]; exact h.dig hi
theorem EncM.pads {ea : Nat} {w : World} (h : EncM 64 ea w) : w.cell? ⟨ea, 64 + 61, none⟩ = some (.int .u8 255) := by
  obtain ⟨cs, hb, hc⟩ := h
  rw [Lib.cell_of_heap hb, hc.dec 61 (by omega)]
  rfl
theorem EncM.padC {ea : Nat} {w : World} (h : EncM 64 ea w) : w.cell? ⟨ea, 320, none⟩ = some (.int .i32 61) := by
  obtain ⟨cs, hb, hc⟩ := h
  rw [Lib.cell_of_heap hb, hc.pad]
theorem EncM.strictC {ea : Nat} {w : World} (h : EncM 64 ea w) : w.cell? ⟨ea, 321, none⟩ = some (.bool false) := by
  obtain ⟨cs, hb, hc⟩ := h
  rw [Lib.cell_of_heap hb, hc.strict]

theorem decodedLen_four (q : Nat) (hq : q ≤ 1048576) (w : World) : Calls Tryz.prog 121 #[.int .i64 ((4 * q : Nat) : Int), .int .i32 61] w fun x w' => x = .returned (.int .i64 ((3 * q : Nat) : Int)) ∧ w = w' := by
  push_cast
  have e : 4 * (q : Int) / 4 = q := by omega
  go_enter Tryz.func121, Tryz.ntmps121
  go_wp2
  go_ret
  exact ⟨by go_num, rfl⟩
theorem DecodedLen_four (ea q : Nat) (hq : q ≤ 1048576) (w : World) (hE : EncM 64 ea w) : Calls Tryz.prog 108 #[.pointer (some ⟨ea, 0, none⟩), .int .i64 ((4 * q : Nat) : Int)] w fun x w' => x = .returned (.int .i64 ((3 * q : Nat) : Int)) ∧ w = w' := by
  have hp := hE.padC
  go_enter Tryz.func108, Tryz.ntmps108
  go_wp2_with fail
  refine (decodedLen_four q hq _).mono ?_
  rintro x w1 ⟨rfl, rfl⟩
  go_wp2
  go_ret
  exact ⟨rfl, rfl⟩
end Go.Proofs.YtmcjmmcamelmcaaGreatDoor
