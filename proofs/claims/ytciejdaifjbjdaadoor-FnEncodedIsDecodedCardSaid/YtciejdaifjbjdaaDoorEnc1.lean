/- What opens, closes and parts encoded words; a text by Q: the walks. -/
import Derived.Test.YtciejdaifjbjdaaDoorBls
import Derived.Test.YtciejdaifjbjdaaDoorA1
namespace Go.Proofs.YtciejdaifjbjdaaDoor
open Go Go.RowKit

theorem length_app_le {a b c : Nat} (h : a + b ≤ c) : b ≤ c := by omega

set_option maxHeartbeats 1000000 in
theorem closeWord_any (b : Nat) (K : Nat → Prop) (l : List UInt8) (w : World) (h : Bld b K l w) (hlen : l.length + 2 ≤ 140737488355328) :
    Calls Tryd.prog 65 #[.pointer (some ⟨b, 0, none⟩)] w fun e w' => e = .returned (.tuple #[]) ∧ Bld b K (l ++ [63, 61]) w' ∧ Fr K w w' := by
  go_enter Tryd.func65, Tryd.ntmps65
  go_wp2_with fail
  refine (WriteString_any b K l _ _ h (by simp [ByteArray.size]; omega)).mono ?_
  rintro e w1 ⟨rfl, h1, f1⟩
  go_wp2
  go_end0
  exact ⟨rfl, h1, f1⟩

set_option maxHeartbeats 1000000 in
theorem openWord_any (c : UInt8) (cs : ByteArray) (b : Nat) (K : Nat → Prop) (l : List UInt8) (w : World) (h : Bld b K l w) (hlen : l.length + cs.size + 5 ≤ 140737488355328) :
    Calls Tryd.prog 62 #[.int .u8 c.toNat, .pointer (some ⟨b, 0, none⟩), .string cs] w fun e w' => e = .returned (.tuple #[]) ∧ Bld b K (l ++ ([61, 63] ++ cs.data.toList ++ [63, c, 63])) w' ∧ Fr K w w' := by
  go_enter Tryd.func62, Tryd.ntmps62
  go_wp2_with fail
  refine (WriteString_any b K l _ _ h (by simp [ByteArray.size]; omega)).mono ?_
  rintro e w1 ⟨rfl, h1, f1⟩
  go_wp2_with fail
  refine (WriteString_any b K _ _ _ h1 (by simp; omega)).mono ?_
  rintro e w2 ⟨rfl, h2, f2⟩
  go_wp2_with fail
  refine (WriteByte_any b K _ 63 _ h2 (by simp; omega)).mono ?_
  rintro e w3 ⟨rfl, h3, f3⟩
  go_wp2_with fail
  refine (WriteByte_any b K _ c _ h3 (by simp; omega)).mono ?_
  rintro e w4 ⟨rfl, h4, f4⟩
  go_wp2_with fail
  refine (WriteByte_any b K _ 63 _ h4 (by simp; omega)).mono ?_
  rintro e w5 ⟨rfl, h5, f5⟩
  go_wp2
  go_end0
  exact ⟨rfl, by simpa using h5, (((f1.trans f2).trans f3).trans f4).trans f5⟩

set_option maxHeartbeats 1000000 in
theorem splitWord_any (c : UInt8) (cs : ByteArray) (b : Nat) (K : Nat → Prop) (l : List UInt8) (w : World) (h : Bld b K l w) (hlen : l.length + cs.size + 8 ≤ 140737488355328) :
    Calls Tryd.prog 86 #[.int .u8 c.toNat, .pointer (some ⟨b, 0, none⟩), .string cs] w fun e w' => e = .returned (.tuple #[]) ∧ Bld b K (l ++ ([63, 61, 32, 61, 63] ++ cs.data.toList ++ [63, c, 63])) w' ∧ Fr K w w' := by
  go_enter Tryd.func86, Tryd.ntmps86
  go_wp2_with fail
  refine (closeWord_any b K l _ h (by omega)).mono ?_
  rintro e w1 ⟨rfl, h1, f1⟩
  go_wp2_with fail
  refine (WriteByte_any b K _ 32 _ h1 (by simp; omega)).mono ?_
  rintro e w2 ⟨rfl, h2, f2⟩
  go_wp2_with fail
  refine (openWord_any c cs b K _ _ h2 (by simp; omega)).mono ?_
  rintro e w3 ⟨rfl, h3, f3⟩
  go_wp2
  go_end0
  exact ⟨rfl, by simpa using h3, (f1.trans f2).trans f3⟩
end Go.Proofs.YtciejdaifjbjdaaDoor
