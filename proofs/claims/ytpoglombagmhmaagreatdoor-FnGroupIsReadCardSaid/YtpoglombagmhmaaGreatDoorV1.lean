/- unicode/utf8.word, of bytes in memory: the walk. -/
import Derived.Test.YtpoglombagmhmaaGreatDoorRow
import Derived.Lib.SlBytesConst
import Derived.Laws.NewBlocks
import Derived.Laws.IdiomStrings
import Derived.Laws.BytesArg
import Derived.Deep.AppendLies
import Derived.BigQuiet
import Derived.Deep.RegionLaw
import Derived.Lib.ValidLaws
import Derived.Lib.EndianBits
namespace Go.Proofs.YtpoglombagmhmaaGreatDoor
open Go Go.RowKit

/-- The bytes l lie at the place o of block g. -/
def CellsAt (g o : Nat) (l : List UInt8) (w : World) : Prop := ∀ j (x : UInt8), l[j]? = some x → w.cell? ⟨g, o + j, none⟩ = some (.int .u8 x.toNat)
theorem CellsAt.drop {g o : Nat} {l : List UInt8} {w : World} (h : CellsAt g o l w) (k : Nat) : CellsAt g (o + k) (l.drop k) w := by
  intro j x hx
  rw [List.getElem?_drop] at hx
  rw [Nat.add_assoc]
  exact h (k + j) x hx
theorem CellsAt.fr {g o : Nat} {l : List UInt8} {w w' : World} (h : CellsAt g o l w) (hk : w'.heap[g]? = w.heap[g]?) : CellsAt g o l w' := fun j x hx =>
  (World.cell?_of_block (w := w) (a := ⟨g, o + j, none⟩) hk).trans (h j x hx)

set_option maxHeartbeats 4000000 in
set_option maxRecDepth 100000 in
theorem word_bytes (g o n c : Nat) (l : List UInt8) (w : World) (h : CellsAt g o l w) (hl : l.length = n) (hn : 8 ≤ n) :
    Calls Tryz.prog 68 #[.slice (some ⟨g, o, none⟩) n c] w fun e w' => e = .returned (.int .u64 ((Lib.leNat (l.take 8) : Nat) : Int)) ∧ ∃ q, w' = w.drewN q := by
  match l, hl with
  | x0 :: x1 :: x2 :: x3 :: x4 :: x5 :: x6 :: x7 :: t, hl =>
    have c0 := h 0 x0 rfl
    have c1 := h 1 x1 rfl
    have c2 := h 2 x2 rfl
    have c3 := h 3 x3 rfl
    have c4 := h 4 x4 rfl
    have c5 := h 5 x5 rfl
    have c6 := h 6 x6 rfl
    have c7 := h 7 x7 rfl
    have c0' : w.cell? ⟨g, o, none⟩ = some (.int .u8 x0.toNat) := c0
    have b0 := x0.toNat_lt
    have b1 := x1.toNat_lt
    have b2 := x2.toNat_lt
    have b3 := x3.toNat_lt
    have b4 := x4.toNat_lt
    have b5 := x5.toNat_lt
    have b6 := x6.toNat_lt
    have b7 := x7.toNat_lt
    have hv : ((Lib.leNat [x0, x1, x2, x3, x4, x5, x6, x7] : Nat) : Int) = (x0.toNat : Int) + (x1.toNat : Int) * 256 + (x2.toNat : Int) * 65536 + (x3.toNat : Int) * 16777216 + (x4.toNat : Int) * 4294967296 + (x5.toNat : Int) * 1099511627776 + (x6.toNat : Int) * 281474976710656 + (x7.toNat : Int) * 72057594037927936 := by
      simp only [Lib.leNat]
      push_cast
      grind
    have HV := Lib.hid hv
    have q0 : (7 : Int) < (n : Int) := by omega
    have q1 : (6 : Int) < (n : Int) := by omega
    have q2 : (5 : Int) < (n : Int) := by omega
    have q3 : (4 : Int) < (n : Int) := by omega
    have q4 : (3 : Int) < (n : Int) := by omega
    have q5 : (2 : Int) < (n : Int) := by omega
    have q6 : (1 : Int) < (n : Int) := by omega
    have q7 : (0 : Int) < (n : Int) := by omega
    clear h hl hv c0
    go_enter Tryz.func68, Tryz.ntmps68
    go_wp2
    go_quiet (fail)
    go_wp2
    go_ret
    refine ⟨?_, _, rfl⟩
    rw [show (x0 :: x1 :: x2 :: x3 :: x4 :: x5 :: x6 :: x7 :: t).take 8 = [x0, x1, x2, x3, x4, x5, x6, x7] from rfl, HV.out]
    simp (disch := omega) only [u64_or8, u64_or16, u64_or24, u64_or32, u64_or40, u64_or48, u64_or56]
    rfl
  | [], hl => simp at hl; omega
  | [_], hl => simp at hl; omega
  | [_, _], hl => simp at hl; omega
  | [_, _, _], hl => simp at hl; omega
  | [_, _, _, _], hl => simp at hl; omega
  | [_, _, _, _, _], hl => simp at hl; omega
  | [_, _, _, _, _, _], hl => simp at hl; omega
  | [_, _, _, _, _, _, _], hl => simp at hl; omega
end Go.Proofs.YtpoglombagmhmaaGreatDoor
