/- A row of bytes in a block of its own. -/
import Derived.Test.YtciejdaifjbjdaaDoorHex
import Derived.Deep.OwnRows
namespace Go.Proofs.YtciejdaifjbjdaaDoor
open Go Go.RowKit

def Row (g : Nat) (l : List UInt8) (w : World) : Prop :=
  ∃ cs : Array Value, w.heap[g]? = some (.cells cs 5 (0, 0)) ∧ cs.size = l.length ∧ ∀ (j : Nat) (x : UInt8), l[j]? = some x → cs[j]? = some (Value.int .u8 x.toNat)
theorem Row.cell {g : Nat} {l : List UInt8} {w : World} (h : Row g l w) {j : Nat} {x : UInt8} (hx : l[j]? = some x) : w.cell? ⟨g, j, none⟩ = some (.int .u8 x.toNat) := by
  obtain ⟨cs, hb, _, hc⟩ := h
  rw [Lib.cell_of_heap hb]; exact hc j x hx
theorem Row.frozen {g : Nat} {l : List UInt8} {w : World} (h : Row g l w) (j : Nat) : w.frozen? ⟨g, j, none⟩ = false := by
  obtain ⟨cs, hb, _, hc⟩ := h
  exact Lib.frozen_of_heap hb j
theorem Row.lt {g : Nat} {l : List UInt8} {w : World} (h : Row g l w) : g < w.heap.size := by
  obtain ⟨cs, hb, _⟩ := h
  exact (Array.getElem?_eq_some_iff.1 hb).1
theorem Row.kept {g : Nat} {l : List UInt8} {w w' : World} (h : Row g l w) (hk : w'.heap[g]? = w.heap[g]?) : Row g l w' := by
  obtain ⟨cs, hb, hc⟩ := h
  exact ⟨cs, hk.trans hb, hc⟩
theorem Row.set {g : Nat} {l : List UInt8} {w : World} (h : Row g l w) (j : Nat) (x : UInt8) : Row g (l.set j x) (w.setCell ⟨g, j, none⟩ (.int .u8 x.toNat)) := by
  obtain ⟨cs, hb, hs, hc⟩ := h
  refine ⟨cs.setIfInBounds j (.int .u8 x.toNat), heap_setCell_row hb, by simp [hs], fun i y hy => ?_⟩
  rw [List.getElem?_set] at hy
  rw [Array.getElem?_setIfInBounds]
  by_cases hij : j = i
  · subst hij
    rw [if_pos rfl] at hy ⊢
    split at hy
    · rename_i hlt
      simp only [Option.some.injEq] at hy
      subst hy
      rw [if_pos (by rw [hs]; exact hlt)]
    · cases hy
  · rw [if_neg hij] at hy ⊢
    exact hc i y hy
theorem Row.make (w : World) (n : Nat) : Row w.heap.size (List.replicate n 0) (w.alloc (.cells (madeCells #[.int .u8 0] n) 5)) := by
  refine ⟨_, heap_alloc_new w _, by rw [size_madeCells, List.length_replicate], fun j x hx => ?_⟩
  rw [List.getElem?_replicate] at hx
  split at hx
  · rename_i hlt
    simp only [Option.some.injEq] at hx
    subst hx
    simp [madeCells, hlt, Nat.mod_one]
  · cases hx

/-- 'make([]byte, n)'. -/
theorem make_bytes (n : Nat) (hn : n ≤ 140737488355328) (w : World) : (Instr.makeSlice 80 (.int .i64 n) (.int .i64 n)).run Tryd.prog w = .ok (.slice (some ⟨w.heap.size, 0, none⟩) n n) (w.alloc (.cells (madeCells #[.int .u8 0] n) 5)) :=
  run_make_row' (P := Tryd.prog) 80 5 (.int .u8 0) 1 (by kernel_rfl) infoByte rfl .i64 .i64 n (by omega) (by omega) w
end Go.Proofs.YtciejdaifjbjdaaDoor
