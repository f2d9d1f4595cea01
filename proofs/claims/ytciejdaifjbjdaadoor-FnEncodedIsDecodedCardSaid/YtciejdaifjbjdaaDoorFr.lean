/- A frame relation: which blocks of memory stay as they were; its small laws. -/
import Derived.Below
import Derived.Lib.FrozenHead2
import Derived.Lib.OthersKept
import Derived.Lib.Hide
import Derived.Deep.QuietTactic
namespace Go.Proofs.YtciejdaifjbjdaaDoor
open Go Go.RowKit

/-- The blocks in K are as they were; the streams are as they were; no block has gone. -/
structure Fr (K : Nat → Prop) (w w' : World) : Prop where
  os : w'.os = w.os
  tape : w'.tape = w.tape
  output : w'.output = w.output
  size : w.heap.size ≤ w'.heap.size
  block : ∀ k, K k → w'.heap[k]? = w.heap[k]?

namespace Fr
theorem refl (K : Nat → Prop) (w : World) : Fr K w w := ⟨rfl, rfl, rfl, Nat.le_refl _, fun _ _ => rfl⟩
theorem trans {K : Nat → Prop} {a b c : World} (h : Fr K a b) (k : Fr K b c) : Fr K a c :=
  ⟨k.os.trans h.os, k.tape.trans h.tape, k.output.trans h.output, Nat.le_trans h.size k.size, fun i hi => (k.block i hi).trans (h.block i hi)⟩
theorem mono {K K' : Nat → Prop} {w w' : World} (h : Fr K w w') (hk : ∀ k, K' k → K k) : Fr K' w w' :=
  ⟨h.os, h.tape, h.output, h.size, fun i hi => h.block i (hk i hi)⟩
theorem drew {K : Nat → Prop} {a w : World} (h : Fr K a w) : Fr K a w.drew := ⟨h.os, h.tape, h.output, h.size, h.block⟩
theorem drewN {K : Nat → Prop} {a w : World} (h : Fr K a w) : ∀ n, Fr K a (w.drewN n)
  | 0 => h
  | n + 1 => (drewN h n).drew
theorem alloc {K : Nat → Prop} {a w : World} (h : Fr K a w) (hK : ∀ k, K k → k < w.heap.size) (o : Obj) : Fr K a (w.alloc o) :=
  h.trans ⟨rfl, rfl, rfl, by simp, fun k hk => Below.heap_alloc _ _ _ (hK k hk)⟩
theorem setCell {K : Nat → Prop} {a w : World} (h : Fr K a w) {p : Addr} (hp : ¬ K p.block) (u : Value) : Fr K a (w.setCell p u) :=
  h.trans ⟨rfl, rfl, rfl, by simp [World.setCell], fun k hk => Below.heap_setCell _ _ _ _ (fun e => hp (e ▸ hk))⟩
theorem grown {K : Nat → Prop} {a w w' : World} {row : Option Nat} (h : Fr K a w) (hg : w.grownBy w' row) (hK : ∀ k, K k → k < w.heap.size) (hr : ∀ k, row = some k → ¬ K k) : Fr K a w' :=
  h.trans ⟨hg.os, hg.tape, hg.output, hg.size, fun k hk => hg.block k (hK k hk) (fun e => hr k e.symm hk)⟩
theorem iterAt {K : Nat → Prop} {a w : World} (h : Fr K a w) {k : Nat} (hk : ¬ K k) (s : ByteArray) (pos : Nat) : Fr K a (w.iterAt k s pos) :=
  h.trans ⟨rfl, rfl, rfl, by rw [Lib.iterAt_size]; exact Nat.le_refl _, fun i hi => Lib.iterAt_other w k i s pos (fun e => hk (e ▸ hi))⟩
theorem freeze {K : Nat → Prop} {a w : World} (h : Fr K a w) {p : Addr} (hp : ¬ K p.block) (n : Nat) : Fr K a (w.freeze p n) := by
  refine h.trans ?_
  unfold World.freeze
  split
  · exact refl _ _
  · refine ⟨rfl, rfl, rfl, by simp, fun k hk => ?_⟩
    simp only [Array.getElem?_modify]
    rw [if_neg (fun e => hp (by rw [e]; exact hk))]
theorem below {B : Nat} {w w' : World} (h : Fr (· < B) w w') : Below B w w' := ⟨h.os, h.tape, h.output, h.size, h.block⟩
theorem of_below {B : Nat} {w w' : World} (h : Below B w w') : Fr (· < B) w w' := ⟨h.os, h.tape, h.output, h.size, h.block⟩
theorem by_below {K : Nat → Prop} {B : Nat} {w w' : World} (h : Below B w w') (hK : ∀ k, K k → k < B) : Fr K w w' := (of_below h).mono hK
theorem cell {K : Nat → Prop} {w w' : World} (h : Fr K w w') {p : Addr} (hp : K p.block) : w'.cell? p = w.cell? p := World.cell?_of_block (w := w) (h.block p.block hp)
theorem frozen {K : Nat → Prop} {w w' : World} (h : Fr K w w') {p : Addr} (hp : K p.block) : w'.frozen? p = w.frozen? p := World.frozen?_of_block (w := w) (h.block p.block hp)
theorem lt {K : Nat → Prop} {w w' : World} (h : Fr K w w') (hK : ∀ k, K k → k < w.heap.size) : ∀ k, K k → k < w'.heap.size := fun k hk => Nat.lt_of_lt_of_le (hK k hk) h.size
end Fr

theorem below_drewN {B : Nat} {a w : World} (h : Below B a w) (n : Nat) : Below B a (w.drewN n) := ((Fr.of_below h).drewN n).below
theorem hsize_drewN (w : World) : ∀ n, (w.drewN n).heap.size = w.heap.size
  | 0 => rfl
  | n + 1 => hsize_drewN w n
theorem heap_drewN (w : World) : ∀ n, (w.drewN n).heap = w.heap
  | 0 => rfl
  | n + 1 => heap_drewN w n
/-- Draws and allocations alone: every block that was there stays. -/
theorem Fr.self_size {K : Nat → Prop} {w w' : World} (h : Fr (· < w.heap.size) w w') (hK : ∀ k, K k → k < w.heap.size) : Fr K w w' := h.mono hK
end Go.Proofs.YtciejdaifjbjdaaDoor
