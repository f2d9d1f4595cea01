/- Rows of addresses, and of pointers to addresses: append, read. -/
import Derived.Test.YtpoglombagmhmaaGreatDoorOD
namespace Go.Proofs.YtpoglombagmhmaaGreatDoor
open Go Go.RowKit

def adrC (p : List UInt8 × List UInt8) : List Value := [.string (bs p.1), .string (bs p.2)]
def adrCells (aas : List (List UInt8 × List UInt8)) : List Value := aas.flatMap adrC
theorem adrCells_length (aas : List (List UInt8 × List UInt8)) : (adrCells aas).length = 2 * aas.length := by
  induction aas with
  | nil => rfl
  | cons p t ih =>
    rw [show adrCells (p :: t) = adrC p ++ adrCells t from rfl, List.length_append, ih]
    simp [adrC]; omega
theorem adrCells_at : ∀ (aas : List (List UInt8 × List UInt8)) (i : Nat) (p : List UInt8 × List UInt8), aas[i]? = some p → (adrCells aas)[i * 2]? = some (.string (bs p.1)) ∧ (adrCells aas)[i * 2 + 1]? = some (.string (bs p.2))
  | [], i, p, h => by simp at h
  | q :: t, 0, p, h => by
    simp at h
    subst h
    exact ⟨rfl, rfl⟩
  | q :: t, i + 1, p, h => by
    have ih := adrCells_at t i p (by simpa using h)
    rw [show adrCells (q :: t) = .string (bs q.1) :: .string (bs q.2) :: adrCells t from rfl, show (i + 1) * 2 = i * 2 + 1 + 1 by omega]
    exact ih

/-! rows of impl.Address -/
def OwnId (B : Nat) (aas : List (List UInt8 × List UInt8)) (v : Value) (w : World) : Prop := w.ownsRow B 34 2 v aas.length (adrCells aas)
theorem infoId : (Tryz.prog.info? 34).map (fun i => (i.zero, i.size, i.bytes)) = some (some (.agg #[.string ⟨#[]⟩, .string ⟨#[]⟩]), 2, 32) := by kernel_rfl
theorem OwnId.nil (B : Nat) (w : World) : OwnId B [] (.slice none 0 0) w := World.ownsRow_nil _ _ _ _
theorem OwnId.form {B : Nat} {aas : List (List UInt8 × List UInt8)} {v : Value} {w : World} (h : OwnId B aas v w) : ∃ q c, v = .slice q aas.length c := by
  rcases h.2 with ⟨hv, h0⟩ | ⟨g, cap, cur, hv, _⟩
  · exact ⟨_, _, by rw [hv, h0]⟩
  · exact ⟨_, _, hv⟩
theorem OwnId.block {B : Nat} {aas : List (List UInt8 × List UInt8)} {v : Value} {w : World} (h : OwnId B aas v w) : ∀ k, v.ownBlock = some k → B ≤ k ∧ k < w.heap.size := World.ownsRow.lt h
theorem OwnId.fr {B : Nat} {aas : List (List UInt8 × List UInt8)} {v : Value} {w w' : World} (h : OwnId B aas v w) (hk : ∀ k, v.ownBlock = some k → k < w.heap.size → w'.heap[k]? = w.heap[k]?) : OwnId B aas v w' := own_fr h hk
theorem OwnId.below {B : Nat} {aas : List (List UInt8 × List UInt8)} {v : Value} {w w' : World} (h : OwnId B aas v w) (hb : Below w.heap.size w w') : OwnId B aas v w' := h.fr (fun k _ hk => hb.block k hk)
theorem OwnId.at {B : Nat} {aas : List (List UInt8 × List UInt8)} {v : Value} {w : World} (h : OwnId B aas v w) (h0 : aas ≠ []) : ∃ g c, v = .slice (some ⟨g, 0, none⟩) aas.length c ∧ ∀ (i : Nat) (p : List UInt8 × List UInt8), aas[i]? = some p → w.cell? ⟨g, i * 2, none⟩ = some (.string (bs p.1)) ∧ w.cell? ⟨g, i * 2 + 1, none⟩ = some (.string (bs p.2)) := by
  rcases h.2 with ⟨_, h1⟩ | ⟨g, cap, cur, hv, _⟩
  · exact absurd (List.eq_nil_of_length_eq_zero h1) h0
  · refine ⟨g, cap, hv, fun i p hp => ?_⟩
    obtain ⟨e1, e2⟩ := adrCells_at aas i p hp
    subst hv
    have q1 := World.ownsRow.cells h (g := g) rfl _ _ e1
    have q2 := World.ownsRow.cells h (g := g) rfl _ _ e2
    rw [addr_add, Nat.zero_add] at q1 q2
    exact ⟨q1, q2⟩
theorem wpList_push_Id {ops : Array Oper} {rest : List Oper} {o : Oper} {a : Act} {Q : Exit → Act → World → Prop} (hgd : o.guard = none) (s x : Operand)
    (ho : o.op = .call { callee := .builtin .append, args := #[s, x], argTypes := #[28, 28] })
    (B : Nat) (aas : List (List UInt8 × List UInt8)) (v : Value) (y z : List UInt8) (wr : World) (hown : OwnId B aas v wr) (hB : B ≤ wr.heap.size) (hlen : aas.length + 1 ≤ 1099511627776) (hs : a.eval s = v) (hx : a.eval x = .slice (some ⟨wr.heap.size, 0, none⟩) 1 1)
    (h : ∀ v' w', OwnId B (aas ++ [(y, z)]) v' w' → (wr.alloc (.cells #[.string (bs y), .string (bs z)] 34)).grownBy w' v.ownBlock → (v'.ownBlock = v.ownBlock ∨ v'.ownBlock = some (wr.heap.size + 1)) → wpList Tryz.prog ops Q rest (a.put o.dst v') w') :
    wpList Tryz.prog ops Q (o :: rest) a (wr.alloc (.cells #[.string (bs y), .string (bs z)] 34)) := by
  obtain ⟨i0, hi, hz0, hz1, hz2⟩ := info_parts3 infoId
  refine wpList_append_own_at _ hgd s x 28 ho B 34 i0 _ 2 32 Tryz.underlying28 hi hz0 hz1 hz2 rfl (by decide) v aas.length (adrCells aas) hs (World.ownsRow.alloc hown _) ⟨wr.heap.size, 0, none⟩ 1 1 [.string (bs y), .string (bs z)] hx rfl ?_ (fun u hu => ?_) (by unfold maxLen; omega) (by omega) (by simp; omega) (fun v' w' h1 h2 _ h4 => h v' w' ?_ h2 (h4.imp id (fun e => by rw [e]; simp)))
  · intro j u hj
    have hadd : (⟨wr.heap.size, 0, none⟩ : Addr).add j = ⟨wr.heap.size, j, none⟩ := by unfold Addr.add; split <;> simp_all
    rw [hadd, Lib.cell_of_heap (heap_alloc_new wr _)]
    simpa using hj
  · simp at hu; rcases hu with rfl | rfl <;> rfl
  · unfold OwnId
    rw [List.length_append]
    have : adrCells (aas ++ [(y, z)]) = adrCells aas ++ [.string (bs y), .string (bs z)] := by simp [adrCells, adrC]
    rw [this]
    exact h1

/-! rows of spec.Address -/
def OwnAd (B : Nat) (aas : List (List UInt8 × List UInt8)) (v : Value) (w : World) : Prop := w.ownsRow B 38 2 v aas.length (adrCells aas)
theorem infoAd : (Tryz.prog.info? 38).map (fun i => (i.zero, i.size, i.bytes)) = some (some (.agg #[.string ⟨#[]⟩, .string ⟨#[]⟩]), 2, 32) := by kernel_rfl
theorem OwnAd.nil (B : Nat) (w : World) : OwnAd B [] (.slice none 0 0) w := World.ownsRow_nil _ _ _ _
theorem OwnAd.form {B : Nat} {aas : List (List UInt8 × List UInt8)} {v : Value} {w : World} (h : OwnAd B aas v w) : ∃ q c, v = .slice q aas.length c := by
  rcases h.2 with ⟨hv, h0⟩ | ⟨g, cap, cur, hv, _⟩
  · exact ⟨_, _, by rw [hv, h0]⟩
  · exact ⟨_, _, hv⟩
theorem OwnAd.block {B : Nat} {aas : List (List UInt8 × List UInt8)} {v : Value} {w : World} (h : OwnAd B aas v w) : ∀ k, v.ownBlock = some k → B ≤ k ∧ k < w.heap.size := World.ownsRow.lt h
theorem OwnAd.fr {B : Nat} {aas : List (List UInt8 × List UInt8)} {v : Value} {w w' : World} (h : OwnAd B aas v w) (hk : ∀ k, v.ownBlock = some k → k < w.heap.size → w'.heap[k]? = w.heap[k]?) : OwnAd B aas v w' := own_fr h hk
theorem OwnAd.below {B : Nat} {aas : List (List UInt8 × List UInt8)} {v : Value} {w w' : World} (h : OwnAd B aas v w) (hb : Below w.heap.size w w') : OwnAd B aas v w' := h.fr (fun k _ hk => hb.block k hk)
theorem OwnAd.at {B : Nat} {aas : List (List UInt8 × List UInt8)} {v : Value} {w : World} (h : OwnAd B aas v w) (h0 : aas ≠ []) : ∃ g c, v = .slice (some ⟨g, 0, none⟩) aas.length c ∧ ∀ (i : Nat) (p : List UInt8 × List UInt8), aas[i]? = some p → w.cell? ⟨g, i * 2, none⟩ = some (.string (bs p.1)) ∧ w.cell? ⟨g, i * 2 + 1, none⟩ = some (.string (bs p.2)) := by
  rcases h.2 with ⟨_, h1⟩ | ⟨g, cap, cur, hv, _⟩
  · exact absurd (List.eq_nil_of_length_eq_zero h1) h0
  · refine ⟨g, cap, hv, fun i p hp => ?_⟩
    obtain ⟨e1, e2⟩ := adrCells_at aas i p hp
    subst hv
    have q1 := World.ownsRow.cells h (g := g) rfl _ _ e1
    have q2 := World.ownsRow.cells h (g := g) rfl _ _ e2
    rw [addr_add, Nat.zero_add] at q1 q2
    exact ⟨q1, q2⟩
theorem wpList_push_Ad {ops : Array Oper} {rest : List Oper} {o : Oper} {a : Act} {Q : Exit → Act → World → Prop} (hgd : o.guard = none) (s x : Operand)
    (ho : o.op = .call { callee := .builtin .append, args := #[s, x], argTypes := #[24, 24] })
    (B : Nat) (aas : List (List UInt8 × List UInt8)) (v : Value) (y z : List UInt8) (wr : World) (hown : OwnAd B aas v wr) (hB : B ≤ wr.heap.size) (hlen : aas.length + 1 ≤ 1099511627776) (hs : a.eval s = v) (hx : a.eval x = .slice (some ⟨wr.heap.size, 0, none⟩) 1 1)
    (h : ∀ v' w', OwnAd B (aas ++ [(y, z)]) v' w' → (wr.alloc (.cells #[.string (bs y), .string (bs z)] 38)).grownBy w' v.ownBlock → (v'.ownBlock = v.ownBlock ∨ v'.ownBlock = some (wr.heap.size + 1)) → wpList Tryz.prog ops Q rest (a.put o.dst v') w') :
    wpList Tryz.prog ops Q (o :: rest) a (wr.alloc (.cells #[.string (bs y), .string (bs z)] 38)) := by
  obtain ⟨i0, hi, hz0, hz1, hz2⟩ := info_parts3 infoAd
  refine wpList_append_own_at _ hgd s x 24 ho B 38 i0 _ 2 32 Tryz.underlying24 hi hz0 hz1 hz2 rfl (by decide) v aas.length (adrCells aas) hs (World.ownsRow.alloc hown _) ⟨wr.heap.size, 0, none⟩ 1 1 [.string (bs y), .string (bs z)] hx rfl ?_ (fun u hu => ?_) (by unfold maxLen; omega) (by omega) (by simp; omega) (fun v' w' h1 h2 _ h4 => h v' w' ?_ h2 (h4.imp id (fun e => by rw [e]; simp)))
  · intro j u hj
    have hadd : (⟨wr.heap.size, 0, none⟩ : Addr).add j = ⟨wr.heap.size, j, none⟩ := by unfold Addr.add; split <;> simp_all
    rw [hadd, Lib.cell_of_heap (heap_alloc_new wr _)]
    simpa using hj
  · simp at hu; rcases hu with rfl | rfl <;> rfl
  · unfold OwnAd
    rw [List.length_append]
    have : adrCells (aas ++ [(y, z)]) = adrCells aas ++ [.string (bs y), .string (bs z)] := by simp [adrCells, adrC]
    rw [this]
    exact h1

/-! rows of pointers -/
def ptrCells (qs : List Nat) : List Value := qs.map fun q => .pointer (some ⟨q, 0, none⟩)
def OwnP (B : Nat) (qs : List Nat) (v : Value) (w : World) : Prop := w.ownsRow B 48 1 v qs.length (ptrCells qs)
theorem infoPtr : (Tryz.prog.info? 48).map (fun i => (i.zero, i.size, i.bytes)) = some (some (.pointer none), 1, 8) := by kernel_rfl
theorem OwnP.nil (B : Nat) (w : World) : OwnP B [] (.slice none 0 0) w := World.ownsRow_nil _ _ _ _
theorem OwnP.form {B : Nat} {qs : List Nat} {v : Value} {w : World} (h : OwnP B qs v w) : ∃ q c, v = .slice q qs.length c := by
  rcases h.2 with ⟨hv, h0⟩ | ⟨g, cap, cur, hv, _⟩
  · exact ⟨_, _, by rw [hv, h0]⟩
  · exact ⟨_, _, hv⟩
theorem OwnP.block {B : Nat} {qs : List Nat} {v : Value} {w : World} (h : OwnP B qs v w) : ∀ k, v.ownBlock = some k → B ≤ k ∧ k < w.heap.size := World.ownsRow.lt h
theorem OwnP.fr {B : Nat} {qs : List Nat} {v : Value} {w w' : World} (h : OwnP B qs v w) (hk : ∀ k, v.ownBlock = some k → k < w.heap.size → w'.heap[k]? = w.heap[k]?) : OwnP B qs v w' := own_fr h hk
theorem OwnP.below {B : Nat} {qs : List Nat} {v : Value} {w w' : World} (h : OwnP B qs v w) (hb : Below w.heap.size w w') : OwnP B qs v w' := h.fr (fun k _ hk => hb.block k hk)
theorem OwnP.at {B : Nat} {qs : List Nat} {v : Value} {w : World} (h : OwnP B qs v w) (h0 : qs ≠ []) : ∃ g c, v = .slice (some ⟨g, 0, none⟩) qs.length c ∧ ∀ (i q : Nat), qs[i]? = some q → w.cell? ⟨g, i, none⟩ = some (.pointer (some ⟨q, 0, none⟩)) := by
  rcases h.2 with ⟨_, h1⟩ | ⟨g, cap, cur, hv, _⟩
  · exact absurd (List.eq_nil_of_length_eq_zero h1) h0
  · refine ⟨g, cap, hv, fun i q hq => ?_⟩
    subst hv
    have q1 := World.ownsRow.cells h (g := g) rfl i (.pointer (some ⟨q, 0, none⟩)) (by unfold ptrCells; rw [List.getElem?_map, hq]; rfl)
    rw [addr_add, Nat.zero_add] at q1
    exact q1
/-- 'append(list, addrs...)' of one pointer that lies in a row of its own. -/
theorem wpList_push_ptr {ops : Array Oper} {rest : List Oper} {o : Oper} {a : Act} {Q : Exit → Act → World → Prop} (hgd : o.guard = none) (s x : Operand)
    (ho : o.op = .call { callee := .builtin .append, args := #[s, x], argTypes := #[42, 42] })
    (B : Nat) (qs : List Nat) (v : Value) (g q : Nat) (wr : World) (hown : OwnP B qs v wr) (hB : B ≤ wr.heap.size) (hlen : qs.length + 1 ≤ 1099511627776) (hs : a.eval s = v) (hx : a.eval x = .slice (some ⟨g, 0, none⟩) 1 1) (hc : wr.cell? ⟨g, 0, none⟩ = some (.pointer (some ⟨q, 0, none⟩)))
    (h : ∀ v' w', OwnP B (qs ++ [q]) v' w' → wr.grownBy w' v.ownBlock → (v'.ownBlock = v.ownBlock ∨ v'.ownBlock = some wr.heap.size) → wpList Tryz.prog ops Q rest (a.put o.dst v') w') :
    wpList Tryz.prog ops Q (o :: rest) a wr := by
  obtain ⟨i0, hi, hz0, hz1, hz2⟩ := info_parts3 infoPtr
  refine wpList_append_own_at _ hgd s x 42 ho B 48 i0 _ 1 8 Tryz.underlying42 hi hz0 hz1 hz2 rfl (by decide) v qs.length (ptrCells qs) hs hown ⟨g, 0, none⟩ 1 1 [.pointer (some ⟨q, 0, none⟩)] hx rfl ?_ (fun u hu => ?_) (by unfold maxLen; omega) (by omega) (by omega) (fun v' w' h1 h2 _ h4 => h v' w' ?_ h2 h4)
  · intro j u hj
    have hj0 : j = 0 := by
      cases j with
      | zero => rfl
      | succ j => simp at hj
    subst hj0
    simp at hj
    subst hj
    have hadd : (⟨g, 0, none⟩ : Addr).add 0 = ⟨g, 0, none⟩ := by unfold Addr.add; split <;> simp_all
    rw [hadd]; exact hc
  · simp at hu; subst hu; rfl
  · unfold OwnP
    rw [List.length_append]
    have : ptrCells (qs ++ [q]) = ptrCells qs ++ [.pointer (some ⟨q, 0, none⟩)] := by simp [ptrCells]
    rw [this]
    exact h1
end Go.Proofs.YtpoglombagmhmaaGreatDoor
