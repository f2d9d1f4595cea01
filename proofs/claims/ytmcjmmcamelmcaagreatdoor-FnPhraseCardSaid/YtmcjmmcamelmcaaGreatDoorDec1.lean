/- convert (utf-8), decode (by Q): the walks. -/
import Derived.Test.YtmcjmmcamelmcaaGreatDoorQDec
namespace Go.Proofs.YtmcjmmcamelmcaaGreatDoor
open Go Go.RowKit

theorem convert_utf8 (d : Value) (b : Nat) (K : Nat → Prop) (l c : List UInt8) (g cap : Nat) (w : World) (h : Bld b K l w) (hg : K g) (hc : ∀ j x, c[j]? = some x → w.cell? ⟨g, 0 + j, none⟩ = some (.int .u8 x.toNat)) (hlen : l.length + c.length ≤ 140737488355328) :
    Calls Tryz.prog 85 #[d, .pointer (some ⟨b, 0, none⟩), .string utf8B, .slice (some ⟨g, 0, none⟩) c.length cap] w fun x w' => x = .returned .nilIface ∧ Bld b K (l ++ c) w' ∧ Fr K w w' := by
  have hqb : ∀ j u, (Lib.byteCells c)[j]? = some u → w.cell? ((⟨g, 0, none⟩ : Addr).add j) = some u := by
    intro j u hu
    rw [addr_add]
    simp only [Lib.byteCells, List.getElem?_map] at hu
    cases hx : c[j]? with
    | none => rw [hx] at hu; cases hu
    | some x => rw [hx] at hu; simp only [Option.map_some, Option.some.injEq] at hu; subst hu; exact hc j x hx
  have HQ := Lib.hid hqb
  clear hqb hc
  go_enter Tryz.func85, Tryz.ntmps85
  go_wp2_with fail
  refine (Tryz.strings_EqualFold _ _ _ (by decide) (asc_of _ (by decide)) (asc_of _ (by decide))).mono ?_
  rintro e w1 ⟨rfl, rfl⟩
  rw [show Lib.equalFold (⟨#[117, 116, 102, 45, 56]⟩ : ByteArray).data.toList utf8B.data.toList = true by decide]
  go_wp2_with fail
  refine (Write_any b K l c ⟨g, 0, none⟩ cap _ h hg HQ.out hlen).mono ?_
  rintro x w2 ⟨rfl, hB2, hF2⟩
  go_wp2
  go_ret
  exact ⟨rfl, hB2, hF2⟩


/-- decode, by Q. -/
theorem decode_q (s : ByteArray) (c : List UInt8) (hs : s.data.toList = qStr c) (hlen : s.size ≤ 1048576) (w : World) :
    Calls Tryz.prog 84 #[.int .u8 113, .string s] w fun x w' => ∃ g cap l, x = .returned (.tuple #[.slice (some ⟨g, 0, none⟩) c.length cap, .nilIface]) ∧ w.heap.size ≤ g ∧ c.length ≤ cap ∧ Row g l w' ∧ l.take c.length = c ∧ Below w.heap.size w w' := by
  have HS := Lib.hid hs
  clear hs
  go_enter Tryz.func84, Tryz.ntmps84
  go_wp2_with fail
  refine (qDecode_good s c HS.out hlen _).mono ?_
  rintro x w1 ⟨g, cap, l, rfl, h1, h2, h3, h4, h5⟩
  go_wp2
  go_ret2
  exact ⟨g, cap, l, rfl, h1, h2, h3, h4, h5⟩
end Go.Proofs.YtmcjmmcamelmcaaGreatDoor
