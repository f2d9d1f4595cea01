/- Plain laws shared by the walks: the tables of package utf8, runes in a text, signs of base64. -/
import Derived.Test.YtpoglombagmhmaaGreatDoorA1
import Derived.Test.YtpoglombagmhmaaGreatDoorUtf
import Derived.Test.YtpoglombagmhmaaGreatDoorShelf
import Derived.Laws.RangeAny
import Derived.LoopN
import Derived.Lib.ValidAsc
import Derived.WalkSpells
import Derived.Deep.OwnRows
import Derived.WalkKit
import Derived.BigCall
import Derived.BigQuiet
import Derived.BigRegion
import Derived.LoopTactic
import Derived.Outline
import Derived.Lib.Walk
import Derived.Lib.BufferWrite
import Derived.Laws.Rows
import Derived.StillTailTactics
import Derived.Deep.RegionWith
import Derived.Deep.RegionHeld3
import Derived.Lib.ConvBytes
namespace Go.Proofs.YtpoglombagmhmaaGreatDoor
open Go Go.RowKit

/-- "utf-8" -/
def utf8S : List UInt8 := [117, 116, 102, 45, 56]
abbrev utf8B : ByteArray := ⟨#[117, 116, 102, 45, 56]⟩
theorem asc_of (l : List UInt8) (h : l.all (fun b => decide (b.toNat < 128)) = true) : ∀ (j : Nat) b, l[j]? = some b → b.toNat < 128 := by
  intro j b hb
  exact of_decide_eq_true (List.all_eq_true.1 h b (List.mem_of_getElem? hb))
/-- The tables of package utf8, where their blocks are set apart. -/
theorem tabs_fr {K : Nat → Prop} {w w' : World} (h : Lib.Utf8Tabs 0 1 w) (f : Fr K w w') (h0 : K 0) (h1 : K 1) : Lib.Utf8Tabs 0 1 w' := by
  refine ⟨fun c hc => ?_, fun i hi => ⟨?_, ?_⟩⟩
  · rw [f.cell h0]; exact h.1 c hc
  · rw [f.cell h1]; exact (h.2 i hi).1
  · rw [f.cell h1]; exact (h.2 i hi).2
theorem decodeGo_wd (s : ByteArray) (k : Nat) (h : k < s.size) : (Lib.decodeGo (s.extract k s.size)).2 = wd (s.data.toList.drop k) := by
  have hs : (s.extract k s.size).size = s.size - k := Lib.ext_size s k
  unfold Lib.decodeGo
  rw [if_neg (by omega)]
  unfold wd Lib.decodeL
  rw [← Lib.ext_list]
theorem getD_drop0 (s : ByteArray) (k : Nat) (h : k < s.size) : (s.data.toList.drop k).getD 0 0 = s[k] := by
  simp [List.getD, List.getElem?_drop, ByteArray.getElem_eq_getElem_data, h]
theorem extract_list (s : ByteArray) (k n : Nat) : (s.extract k (k + n)).data.toList = (s.data.toList.drop k).take n := by
  rw [ByteArray.data_extract, Array.toList_extract, List.extract_eq_take_drop]
  congr 1; omega
/-- base64 of bytes, as numbers: the signs. -/
def sgn (i : Nat) : UInt8 := UInt8.ofNat (alphaN i)
def b64 : List UInt8 → List UInt8
  | a :: b :: c :: t => sgn (a.toNat / 4) :: sgn (a.toNat % 4 * 16 + b.toNat / 16) :: sgn (b.toNat % 16 * 4 + c.toNat / 64) :: sgn (c.toNat % 64) :: b64 t
  | [a, b] => [sgn (a.toNat / 4), sgn (a.toNat % 4 * 16 + b.toNat / 16), sgn (b.toNat % 16 * 4), 61]
  | [a] => [sgn (a.toNat / 4), sgn (a.toNat % 4 * 16), 61, 61]
  | [] => []
theorem sgn_toNat (i : Nat) (h : i < 64) : (sgn i).toNat = alphaN i := by
  have := alphaN_lt i h
  unfold sgn
  rw [UInt8.toNat_ofNat_of_lt' (by show alphaN i < 256; omega)]
theorem b64_length : ∀ l : List UInt8, (b64 l).length = (l.length + 2) / 3 * 4
  | [] => rfl
  | [_] => by simp [b64]
  | [_, _] => by simp [b64]
  | a :: b :: c :: t => by
    have ih := b64_length t
    simp only [b64, List.length_cons, ih]
    omega
theorem heap_setCell_row {w : World} {g i : Nat} {cs : Array Value} {t : TypeId} {fz : Nat × Nat} {v : Value} (hb : w.heap[g]? = some (.cells cs t fz)) : (w.setCell ⟨g, i, none⟩ v).heap[g]? = some (.cells (cs.setIfInBounds i v) t fz) := by
  simp [World.setCell, Array.getElem?_modify, hb]
theorem addr_add (b o j : Nat) : (⟨b, o, none⟩ : Addr).add j = ⟨b, o + j, none⟩ := by unfold Addr.add; split <;> simp_all
theorem b64_append : ∀ (n : Nat) (a b : List UInt8), a.length = 3 * n → b64 (a ++ b) = b64 a ++ b64 b
  | 0, a, b, h => by
    obtain rfl : a = [] := List.eq_nil_of_length_eq_zero (by omega)
    simp [b64]
  | n + 1, a, b, h => by
    match a, h with
    | x :: y :: z :: t, h =>
      have ih := b64_append n t b (by simp at h; omega)
      simp [b64, ih]
    | [], h => simp at h
    | [_], h => simp at h; omega
    | [_, _], h => simp at h; omega
end Go.Proofs.YtpoglombagmhmaaGreatDoor
