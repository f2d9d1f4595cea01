/- gomime.stdEncoding: the walk. -/
import Derived.Test.YtmcjmmcamelmcaaGreatDoorPu
import Derived.Test.YtmcjmmcamelmcaaGreatDoorB64a
namespace Go.Proofs.YtmcjmmcamelmcaaGreatDoor
open Go Go.RowKit

theorem stdEncoding_any (w : World) : Calls Tryz.prog 93 #[] w fun x w' => x = .returned (.pointer (some ⟨w.heap.size, 0, none⟩)) ∧ EncM 64 w.heap.size w' ∧ Below w.heap.size w w' := by
  go_enter Tryz.func93, Tryz.ntmps93
  go_wp2_with fail
  refine (NewEncoding_any _ _ (by decide) ?_).mono ?_
  · have : ∀ i : Fin 64, ((⟨#[65, 66, 67, 68, 69, 70, 71, 72, 73, 74, 75, 76, 77, 78, 79, 80, 81, 82, 83, 84, 85, 86, 87, 88, 89, 90, 97, 98, 99, 100, 101, 102, 103, 104, 105, 106, 107, 108, 109, 110, 111, 112, 113, 114, 115, 116, 117, 118, 119, 120, 121, 122, 48, 49, 50, 51, 52, 53, 54, 55, 56, 57, 43, 47]⟩ : ByteArray)[i.val]'(by have := i.isLt; simp [ByteArray.size])).toNat = alphaN i.val := by decide
    intro i h
    exact this ⟨i, h⟩
  · rintro x w1 ⟨rfl, hE, hb⟩
    go_wp2_with fail
    go_ret
    exact ⟨rfl, hE, hb⟩
end Go.Proofs.YtmcjmmcamelmcaaGreatDoor
