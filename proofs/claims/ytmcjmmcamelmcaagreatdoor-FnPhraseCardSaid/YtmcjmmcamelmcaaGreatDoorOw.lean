/- Rows that a call owns and appends to: small laws. -/
import Derived.Test.YtmcjmmcamelmcaaGreatDoorS1
import Derived.Test.YtmcjmmcamelmcaaGreatDoorBld
import Derived.Laws.IdiomStrings
import Derived.Laws.BytesArg
import Derived.Deep.AppendLies
namespace Go.Proofs.YtmcjmmcamelmcaaGreatDoor
open Go Go.RowKit

theorem cneq {c x : UInt8} (h : c ≠ x) : ((c.toNat : Int) == (x.toNat : Int)) = false := by
  rw [beq_eq_false_iff_ne]; intro e; exact h (UInt8.toNat.inj (by omega))
theorem own_fr {w w' : World} {B : Nat} {e : TypeId} {sz n : Nat} {v : Value} {xs : List Value} (h : w.ownsRow B e sz v n xs) (hk : ∀ k, v.ownBlock = some k → k < w.heap.size → w'.heap[k]? = w.heap[k]?) : w'.ownsRow B e sz v n xs := by
  refine ⟨h.1, ?_⟩
  rcases h.2 with h0 | ⟨g, cap, cur, rfl, hB, hg, rest⟩
  · exact .inl h0
  · exact .inr ⟨g, cap, cur, rfl, hB, (hk g rfl (Array.getElem?_eq_some_iff.1 hg).1).trans hg, rest⟩
/-- A row of bytes. -/
def OwnB (B : Nat) (l : List UInt8) (v : Value) (w : World) : Prop := w.ownsRow B 5 1 v l.length (Lib.byteCells l)
theorem OwnB.nil (B : Nat) (w : World) : OwnB B [] (.slice none 0 0) w := World.ownsRow_nil _ _ _ _
theorem OwnB.fr {B : Nat} {l : List UInt8} {v : Value} {w w' : World} (h : OwnB B l v w) (hk : ∀ k, v.ownBlock = some k → k < w.heap.size → w'.heap[k]? = w.heap[k]?) : OwnB B l v w' := own_fr h hk
theorem own_lt {w : World} {B : Nat} {e : TypeId} {sz n : Nat} {v : Value} {xs : List Value} (h : w.ownsRow B e sz v n xs) : ∀ k, v.ownBlock = some k → B ≤ k ∧ k < w.heap.size := h.lt
theorem OwnB.alloc {B : Nat} {l : List UInt8} {v : Value} {w : World} (h : OwnB B l v w) (o : Obj) : OwnB B l v (w.alloc o) := World.ownsRow.alloc h o
theorem OwnB.push {B : Nat} {l : List UInt8} {v' : Value} {w' : World} {c : UInt8} (h : w'.ownsRow B 5 1 v' (l.length + 1) (Lib.byteCells l ++ [.int .u8 c.toNat])) : OwnB B (l ++ [c]) v' w' := by
  unfold OwnB
  rw [List.length_append]
  simpa [Lib.byteCells] using h

/-- 'string(v)' of a row of bytes. -/
theorem OwnB.text {B : Nat} {l : List UInt8} {v : Value} {w : World} (h : OwnB B l v w) : (convert 79 9 v).run Tryz.prog w = .ok (.string ⟨l.toArray⟩) w := by
  rcases h.2 with ⟨rfl, h0⟩ | ⟨g, cap, cur, rfl, hB, hg, rest⟩
  · have hl : l = [] := List.eq_nil_of_length_eq_zero h0
    subst hl
    exact run_convert_bytes_nil (P := Tryz.prog) w 79 5 Tryz.underlying79 Tryz.underlying5 0 0 9 Tryz.underlying9
  · refine run_convert_bytes_back (P := Tryz.prog) w 79 9 5 ⟨g, 0, none⟩ cap l Tryz.underlying79 Tryz.underlying5 Tryz.underlying9 (fun j hj => ?_)
    have hc := h.cells (g := g) rfl j (.int .u8 l[j].toNat) (by simp [Lib.byteCells, hj])
    exact hc

/-- 'append(v, c)' of one byte to a row of the call's own: for the walk. -/
theorem wpList_push_byte {ops : Array Oper} {rest : List Oper} {o : Oper} {a : Act} {Q : Exit → Act → World → Prop} (hgd : o.guard = none) (s x : Operand)
    (ho : o.op = .call { callee := .builtin .append, args := #[s, x], argTypes := #[79, 79] })
    (B : Nat) (l : List UInt8) (v : Value) (c : UInt8) (wr : World) (hown : OwnB B l v wr) (hB : B ≤ wr.heap.size) (hlen : l.length + 1 ≤ 140737488355328) (hs : a.eval s = v) (hx : a.eval x = .slice (some ⟨wr.heap.size, 0, none⟩) 1 1)
    (h : ∀ v' w', OwnB B (l ++ [c]) v' w' → (wr.alloc (.cells #[.int .u8 c.toNat] 5)).grownBy w' v.ownBlock → (v'.ownBlock = v.ownBlock ∨ v'.ownBlock = some (wr.heap.size + 1)) → wpList Tryz.prog ops Q rest (a.put o.dst v') w') : wpList Tryz.prog ops Q (o :: rest) a (wr.alloc (.cells #[.int .u8 c.toNat] 5)) := by
  obtain ⟨i0, hi, hz0, hz1, hz2⟩ := info_parts infoByte
  refine wpList_append_own_at _ hgd s x 79 ho B 5 i0 (.int .u8 0) 1 1 Tryz.underlying79 hi hz0 hz1 hz2 rfl (by decide) v l.length (Lib.byteCells l) hs (hown.alloc _) ⟨wr.heap.size, 0, none⟩ 1 1 [.int .u8 c.toNat] hx rfl (cell_one_new _ _ _) (fun u hu => by simp at hu; subst hu; rfl) (by unfold maxLen; omega) (by omega) (by simp; omega) (fun v' w' h1 h2 _ h4 => h v' w' (OwnB.push h1) h2 (h4.imp id (fun e => by rw [e]; simp)))

/-- The same at a step of a region that draws its order. -/
theorem step_push_byte {ops : Array Oper} {o : Oper} {a : Act} {K : Act → World → Prop} {Q : Exit → Act → World → Prop} {E : Prop} (hgd : o.guard = none) (s x : Operand)
    (ho : o.op = .call { callee := .builtin .append, args := #[s, x], argTypes := #[79, 79] })
    (B : Nat) (l : List UInt8) (v : Value) (c : UInt8) (wr : World) (hown : OwnB B l v wr) (hB : B ≤ wr.heap.size) (hlen : l.length + 1 ≤ 140737488355328) (hs : a.eval s = v) (hx : a.eval x = .slice (some ⟨wr.heap.size, 0, none⟩) 1 1)
    (h : ∀ v' w', OwnB B (l ++ [c]) v' w' → (wr.alloc (.cells #[.int .u8 c.toNat] 5)).grownBy w' v.ownBlock → K (a.put o.dst v') w') :
    if Region.wanted o (yielded ops a.tmps) = true then Oper.wp Tryz.prog o a (wr.alloc (.cells #[.int .u8 c.toNat] 5)) K Q else E := by
  have hw : Region.wanted o (yielded ops a.tmps) = true := by simp [Region.wanted, hgd]
  rw [if_pos hw]
  obtain ⟨i0, hi, hz0, hz1, hz2⟩ := info_parts infoByte
  obtain ⟨v', w', hr, h2, h3, h4, h5⟩ := run_append_own_at (P := Tryz.prog) (wr.alloc (.cells #[.int .u8 c.toNat] 5)) B 79 o.type 5 i0 (.int .u8 0) 1 1 Tryz.underlying79 hi hz0 hz1 hz2 rfl (by decide) v l.length (Lib.byteCells l) (hown.alloc _) ⟨wr.heap.size, 0, none⟩ 1 1 [.int .u8 c.toNat] rfl (cell_one_new _ _ _) (fun u hu => by simp at hu; subst hu; rfl) (by unfold maxLen; omega) (by omega) (by simp; omega)
  unfold Oper.wp execOp
  simp only [ho, resolve, invoke, builtin, Sem.run_bind, Sem.run_pure, Result.andThen_ok, List.map_toArray, List.map_cons, List.map_nil, hs, hx, hr]
  exact h v' w' (OwnB.push h2) h3
end Go.Proofs.YtmcjmmcamelmcaaGreatDoor
