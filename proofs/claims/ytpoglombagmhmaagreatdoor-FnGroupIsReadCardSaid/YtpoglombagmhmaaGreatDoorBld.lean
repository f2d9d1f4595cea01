/- A strings.Builder that a call has made: its writers append bytes, and every block that is set apart stays as it is. -/
import Derived.Test.YtpoglombagmhmaaGreatDoorA1
import Derived.Test.YtpoglombagmhmaaGreatDoorProg
import Derived.Maps.AppendAt
import Derived.WalkKit
import Derived.Laws.Externs
import Derived.Laws.AppendOwn
import Derived.Laws.IdiomCopy
import Derived.Lib.Walk
import Derived.Lib.Strings
import Derived.Lib.Slices
import Derived.Lib.MakeNoZero
import Derived.Shelf.Bodies
import Derived.BigCall
import Derived.RegionTactic
import Derived.BigRegion
import Derived.Lib.UnsafeStr
namespace Go.Proofs.YtpoglombagmhmaaGreatDoor
open Go Go.RowKit

/-- The builder in block b holds the bytes l; b and its buffer's row are none of the blocks in K. -/
def Bld (b : Nat) (K : Nat → Prop) (l : List UInt8) (w : World) : Prop :=
  ∃ p v, (p = .pointer none ∨ p = .pointer (some ⟨b, 0, none⟩)) ∧ w.heap[b]? = some (.cells #[p, v] 110 (0, 0)) ∧ w.ownsRow 0 5 1 v l.length (Lib.byteCells l) ∧
    (∀ k, v.ownBlock = some k → ¬ K k) ∧ ¬ K b ∧ (∀ k, K k → k < w.heap.size)

theorem Bld.lt {b : Nat} {K : Nat → Prop} {l : List UInt8} {w : World} (h : Bld b K l w) : b < w.heap.size := by
  obtain ⟨p, v, _, hb, _⟩ := h
  exact (Array.getElem?_eq_some_iff.1 hb).1
theorem Bld.kt {b : Nat} {K : Nat → Prop} {l : List UInt8} {w : World} (h : Bld b K l w) : ∀ k, K k → k < w.heap.size := by
  obtain ⟨p, v, _, _, _, _, _, h⟩ := h
  exact h
theorem Bld.mono {b : Nat} {K K' : Nat → Prop} {l : List UInt8} {w : World} (h : Bld b K l w) (hk : ∀ k, K' k → K k) : Bld b K' l w := by
  obtain ⟨p, v, hp, hb, ho, hr, hn, hs⟩ := h
  exact ⟨p, v, hp, hb, ho, fun k e hk' => hr k e (hk k hk'), fun hk' => hn (hk b hk'), fun k hk' => hs k (hk k hk')⟩
/-- A change that leaves the builder's own blocks alone. -/
theorem Bld.kept {b : Nat} {K : Nat → Prop} {l : List UInt8} {w w' : World} (h : Bld b K l w) (hsz : w.heap.size ≤ w'.heap.size)
    (hk : ∀ k o, w.heap[k]? = some o → ¬ K k → (∃ c t fz, o = .cells c t fz ∧ (t = 110 ∨ t = 5)) → w'.heap[k]? = some o) : Bld b K l w' := by
  obtain ⟨p, v, hp, hb, ho, hr, hn, hs⟩ := h
  refine ⟨p, v, hp, hk b _ hb hn ⟨_, _, _, rfl, .inl rfl⟩, ⟨ho.1, ?_⟩, hr, hn, fun k hk' => Nat.lt_of_lt_of_le (hs k hk') hsz⟩
  rcases ho.2 with h0 | ⟨g, cap, cur, rfl, hB, hg, rest⟩
  · exact .inl h0
  · exact .inr ⟨g, cap, cur, rfl, hB, hk g _ hg (hr g rfl) ⟨_, _, _, rfl, .inr rfl⟩, rest⟩
theorem Bld.drew {b : Nat} {K : Nat → Prop} {l : List UInt8} {w : World} (h : Bld b K l w) : Bld b K l w.drew := h
theorem Bld.drewN {b : Nat} {K : Nat → Prop} {l : List UInt8} {w : World} (h : Bld b K l w) : ∀ n, Bld b K l (w.drewN n)
  | 0 => h
  | n + 1 => (drewN h n).drew
/-- A new block; it may be set apart at once. -/
theorem Bld.alloc {b : Nat} {K : Nat → Prop} {l : List UInt8} {w : World} (h : Bld b K l w) (o : Obj) : Bld b (fun k => K k ∨ k = w.heap.size) l (w.alloc o) := by
  have hlt := h.lt
  have h2 : Bld b K l (w.alloc o) := h.kept (by simp) (fun k x hx _ _ => by rw [Below.heap_alloc _ _ _ (Array.getElem?_eq_some_iff.1 hx).1]; exact hx)
  obtain ⟨p, v, hp, hb, ho, hr, hn, hs⟩ := h
  obtain ⟨p2, v2, hp2, hb2, ho2, hr2, hn2, hs2⟩ := h2
  have hb3 := hb2
  rw [Below.heap_alloc _ _ _ hlt, hb] at hb3
  have hv : v = v2 := by
    have := Option.some.inj hb3
    simp only [Obj.cells.injEq, Array.mk.injEq, List.cons.injEq] at this
    exact this.1.2.1
  subst hv
  refine ⟨p2, v, hp2, hb2, ho2, ?_, ?_, ?_⟩
  · intro k e hk
    rcases hk with hk | hk
    · exact hr2 k e hk
    · have := (ho.lt k e).2; omega
  · intro hk
    rcases hk with hk | hk
    · exact hn2 hk
    · omega
  · intro k hk
    rcases hk with hk | hk
    · have := hs k hk; simp; omega
    · simp; omega
/-- 'var b strings.Builder': a new block. -/
theorem Bld.fresh (w : World) (K : Nat → Prop) (hK : ∀ k, K k → k < w.heap.size) : Bld w.heap.size K [] (w.alloc (.cells #[.pointer none, .slice none 0 0] 110)) :=
  ⟨.pointer none, .slice none 0 0, .inl rfl, heap_alloc_new w _, World.ownsRow_nil _ _ _ _, fun k e => by simp [Value.ownBlock] at e, fun h => Nat.lt_irrefl _ (hK _ h), fun k hk => by have := hK k hk; simp; omega⟩

theorem infoByte : (Tryz.prog.info? 5).map (fun i => (i.zero, i.size, i.bytes)) = some (some (.int .u8 0), 1, 1) := by kernel_rfl
theorem sizeBuilder : (Tryz.prog.info? 110).map (·.size) = some 2 := by kernel_rfl

theorem liesBuilder : liesAt Tryz.prog Tryz.prog.depth 110 (2 / Tryz.prog.cellsOf 110) 0 110 1 = true := by kernel_rfl

set_option maxHeartbeats 1000000 in
set_option maxRecDepth 100000 in
/-- copyCheck at a builder that has been used: nothing turns. -/
theorem copyCheck_used (b : Nat) (w : World) (h0 : w.cell? ⟨b, 0, none⟩ = some (.pointer (some ⟨b, 0, none⟩))) :
    Calls Tryz.prog 83 #[.pointer (some ⟨b, 0, none⟩)] w fun e w' => e = .returned (.tuple #[]) ∧ w = w' := by
  obtain ⟨j, hj, _⟩ := Option.map_eq_some_iff.1 sizeBuilder
  go_enter Tryz.func83, Tryz.ntmps83
  go_wp2
  rw [Lib.run_neq_ptr_same w _ Tryz.underlying108 hj]
  go_wp2
  go_end0
  exact ⟨rfl, rfl⟩

set_option maxHeartbeats 1000000 in
set_option maxRecDepth 100000 in
/-- copyCheck at a fresh builder: it stores its own address. -/
theorem copyCheck_fresh (b : Nat) (w : World) (h0 : w.cell? ⟨b, 0, none⟩ = some (.pointer none)) (hsh : w.shape? b = some (110, 2)) (hfz : w.frozen? ⟨b, 0, none⟩ = false) :
    Calls Tryz.prog 83 #[.pointer (some ⟨b, 0, none⟩)] w fun e w' => e = .returned (.tuple #[]) ∧ w.setCell ⟨b, 0, none⟩ (.pointer (some ⟨b, 0, none⟩)) = w' := by
  obtain ⟨j, hj, hjs⟩ := Option.map_eq_some_iff.1 sizeBuilder
  go_enter Tryz.func83, Tryz.ntmps83
  go_wp2
  rw [Lib.run_to_unsafe w ⟨b, 0, none⟩ Tryz.underlying108 Tryz.underlying151 hj (by rw [hjs]; decide) hsh (Nat.zero_lt_succ 1)]
  simp only [Result.andThen]
  rw [Oper.upon_value]
  go_wp2
  rw [run_callFunc_extern Tryz.func100 (by kernel_rfl) (by kernel_rfl) (by kernel_rfl) (e := Extern.AbiNoEscape.same) (by kernel_rfl)]
  rw [Lib.run_noEscape]
  simp only [Result.andThen]
  rw [Oper.upon_value]
  go_wp2
  rw [Lib.run_from_unsafe w ⟨b, 0, none⟩ Tryz.underlying151 Tryz.underlying108 hj hsh liesBuilder]
  simp only [Result.andThen]
  rw [Oper.upon_value]
  go_wp2
  go_end0
  exact ⟨rfl, rfl⟩

/-- What is known behind copyCheck. -/
def Used (b : Nat) (K : Nat → Prop) (l : List UInt8) (w : World) : Prop :=
  ∃ v, w.heap[b]? = some (.cells #[.pointer (some ⟨b, 0, none⟩), v] 110 (0, 0)) ∧ w.ownsRow 0 5 1 v l.length (Lib.byteCells l) ∧ (∀ k, v.ownBlock = some k → ¬ K k) ∧ v.ownBlock ≠ some b ∧ ¬ K b ∧ (∀ k, K k → k < w.heap.size)

theorem copyCheck_any (b : Nat) (K : Nat → Prop) (l : List UInt8) (w : World) (h : Bld b K l w) :
    Calls Tryz.prog 83 #[.pointer (some ⟨b, 0, none⟩)] w fun e w' => e = .returned (.tuple #[]) ∧ Used b K l w' ∧ Fr K w w' := by
  obtain ⟨p, v, hp, hb, ho, hr, hn, hs⟩ := h
  have hne : v.ownBlock ≠ some b := Lib.ownBlock_ne ho hb (by decide)
  have c0 : w.cell? ⟨b, 0, none⟩ = some p := by rw [Lib.cell_of_heap hb]; rfl
  rcases hp with rfl | rfl
  · have hA : Lib.BuilderAt 110 5 0 b (.pointer none) (Lib.byteCells l) w := ⟨Nat.zero_le _, v, hb, by rw [Lib.byteCells_length]; exact ho, hne⟩
    refine (copyCheck_fresh b w c0 hA.shape hA.frozen0).mono ?_
    rintro e w' ⟨rfl, rfl⟩
    refine ⟨rfl, ⟨v, ?_, ?_, hr, hne, hn, fun k hk => by have := hs k hk; simpa using this⟩, (Fr.refl K w).setCell hn _⟩
    · simp [World.setCell, Array.getElem?_modify, hb]
    · exact ho.kept (row := some b) ⟨rfl, rfl, rfl, by simp [World.setCell], fun k _ hk => Below.heap_setCell _ _ _ _ (fun e => hk (by simp [e]))⟩ (Or.inr hne)
  · refine (copyCheck_used b w c0).mono ?_
    rintro e w' ⟨rfl, rfl⟩
    exact ⟨rfl, ⟨v, hb, ho, hr, hne, hn, hs⟩, Fr.refl K w⟩

/-- The store of the grown buffer, behind an append that kept the rest. -/
theorem Used.put {b : Nat} {K : Nat → Prop} {l' : List UInt8} {w1 w2 : World} {v v' : Value} (hb : w1.heap[b]? = some (.cells #[.pointer (some ⟨b, 0, none⟩), v] 110 (0, 0)))
    (hr : ∀ k, v.ownBlock = some k → ¬ K k) (hne : v.ownBlock ≠ some b) (hn : ¬ K b) (hs : ∀ k, K k → k < w1.heap.size) (hg : w1.grownBy w2 v.ownBlock)
    (ho : w2.ownsRow 0 5 1 v' l'.length (Lib.byteCells l')) (hat : v'.ownBlock = v.ownBlock ∨ ∃ n, v'.ownBlock = some n ∧ w1.heap.size ≤ n) :
    Bld b K l' (w2.setCell ⟨b, 1, none⟩ v') ∧ Fr K w1 (w2.setCell ⟨b, 1, none⟩ v') := by
  have hlt : b < w1.heap.size := (Array.getElem?_eq_some_iff.1 hb).1
  have hb2 : w2.heap[b]? = some (.cells #[.pointer (some ⟨b, 0, none⟩), v] 110 (0, 0)) := by rw [hg.block b hlt (fun e => hne e.symm)]; exact hb
  have hne2 := Lib.ownBlock_ne ho hb2 (by decide)
  have hr' : ∀ k, v'.ownBlock = some k → ¬ K k := by
    rcases hat with h | ⟨n, h, hn'⟩
    · rw [h]; exact hr
    · intro k hk hKk
      rw [h] at hk
      have := hs k hKk
      have := Option.some.inj hk
      omega
  refine ⟨⟨_, v', .inr rfl, ?_, ?_, hr', hn, fun k hk => ?_⟩, ?_⟩
  · simp [World.setCell, Array.getElem?_modify, hb2]
  · exact ho.kept (row := some b) ⟨rfl, rfl, rfl, by simp [World.setCell], fun k _ hk => Below.heap_setCell _ _ _ _ (fun e => hk (by simp [e]))⟩ (Or.inr hne2)
  · have := hs k hk; have := hg.size; simp; omega
  · exact ((Fr.refl K w1).grown hg hs (fun k e => hr k e)).setCell hn _

set_option maxHeartbeats 2000000 in
set_option maxRecDepth 100000 in
theorem WriteByte_any (b : Nat) (K : Nat → Prop) (l : List UInt8) (c : UInt8) (w : World) (h : Bld b K l w) (hlen : l.length + 1 ≤ 140737488355328) :
    Calls Tryz.prog 66 #[.pointer (some ⟨b, 0, none⟩), .int .u8 c.toNat] w fun e w' => e = .returned .nilIface ∧ Bld b K (l ++ [c]) w' ∧ Fr K w w' := by
  obtain ⟨i0, hi, hz0, hz1, hz2⟩ := info_parts infoByte
  go_enter Tryz.func66, Tryz.ntmps66
  go_wp2_with (go_at_call 83; refine (copyCheck_any b K l _ h).mono ?_)
  rintro e w1 ⟨rfl, ⟨v, hbk, hown, hr, hne, hn, hs⟩, hf1⟩
  have c0 : w1.cell? ⟨b, 0, none⟩ = some (.pointer (some ⟨b, 0, none⟩)) := by rw [Lib.cell_of_heap hbk]; rfl
  have c1 : w1.cell? ⟨b, 1, none⟩ = some v := by rw [Lib.cell_of_heap hbk]; rfl
  go_wp2_with (at_builtin; refine wpList_append_own_at _ rfl _ _ 60 rfl 0 5 i0 (.int .u8 0) 1 1 Tryz.underlying60 hi hz0 hz1 hz2 rfl (by decide) _ _ _ rfl (hown.alloc _) ⟨w1.heap.size, 0, none⟩ 1 1 [.int .u8 c.toNat] rfl rfl ?c1 ?c2 ?c3 ?c4 ?c5 ?_)
  case c1 =>
    intro j u hj
    match j, hj with
    | 0, hj => simp at hj; subst hj; simp [Addr.add]
  case c2 => intro u hu; simp at hu; subst hu; rfl
  case c3 => unfold maxLen; omega
  case c4 => omega
  case c5 => omega
  intro v' w2 hown' hgrow _ hat
  have hlt : b < w1.heap.size := (Array.getElem?_eq_some_iff.1 hbk).1
  have hbk' : (w1.alloc (.cells #[.int .u8 c.toNat] 5)).heap[b]? = some (.cells #[.pointer (some ⟨b, 0, none⟩), v] 110 (0, 0)) := by rw [Below.heap_alloc _ _ _ hlt]; exact hbk
  have hb2 : w2.heap[b]? = some (.cells #[.pointer (some ⟨b, 0, none⟩), v] 110 (0, 0)) := by
    rw [hgrow.block b (by simp; omega) (fun e => hne e.symm)]
    exact hbk'
  have hput := Used.put (K := K) (l' := l ++ [c]) hbk' hr hne hn (fun k hk => by have := hs k hk; simp; omega) hgrow (by simpa [Lib.byteCells] using hown') (by
    rcases hat with h | h
    · exact .inl h
    · exact .inr ⟨_, h, by simp⟩)
  have d0 : w2.cell? ⟨b, 0, none⟩ = some (.pointer (some ⟨b, 0, none⟩)) := by rw [Lib.cell_of_heap hb2]; rfl
  have d1 : w2.cell? ⟨b, 1, none⟩ = some v := by rw [Lib.cell_of_heap hb2]; rfl
  have f1 : w2.frozen? ⟨b, 1, none⟩ = false := Lib.frozen_of_heap hb2 1
  obtain ⟨g, cap, rfl⟩ : ∃ g cap, v' = .slice (some ⟨g, 0, none⟩) (l.length + 1) cap := by
    rcases hown'.2 with ⟨_, h0⟩ | ⟨g, cap, cur, hv, _⟩
    · omega
    · exact ⟨g, cap, hv⟩
  go_wp2
  go_ret
  exact ⟨rfl, hput.1, (hf1.alloc hs _).trans hput.2⟩

set_option maxHeartbeats 2000000 in
set_option maxRecDepth 100000 in
theorem WriteString_any (b : Nat) (K : Nat → Prop) (l : List UInt8) (s : ByteArray) (w : World) (h : Bld b K l w) (hlen : l.length + s.size ≤ 140737488355328) :
    Calls Tryz.prog 61 #[.pointer (some ⟨b, 0, none⟩), .string s] w fun e w' => e = .returned (.tuple #[.int .i64 s.size, .nilIface]) ∧ Bld b K (l ++ s.data.toList) w' ∧ Fr K w w' := by
  obtain ⟨i0, hi, hz0, hz1, hz2⟩ := info_parts infoByte
  have hsl : s.data.toList.length = s.size := by simp
  go_enter Tryz.func61, Tryz.ntmps61
  go_wp2_with (go_at_call 83; refine (copyCheck_any b K l _ h).mono ?_)
  rintro e w1 ⟨rfl, ⟨v, hbk, hown, hr, hne, hn, hs⟩, hf1⟩
  have c0 : w1.cell? ⟨b, 0, none⟩ = some (.pointer (some ⟨b, 0, none⟩)) := by rw [Lib.cell_of_heap hbk]; rfl
  have c1 : w1.cell? ⟨b, 1, none⟩ = some v := by rw [Lib.cell_of_heap hbk]; rfl
  go_wp2_with (at_builtin; refine wpList_append_own_string_at _ rfl _ _ 60 9 rfl 0 5 i0 Tryz.underlying60 Tryz.underlying9 hi hz0 hz1 hz2 _ _ _ rfl hown s rfl ?c3 ?c4 ?c5 ?_)
  case c3 => unfold maxLen; omega
  case c4 => omega
  case c5 => omega
  intro v' w2 hown' hgrow _ hat
  have hlt : b < w1.heap.size := (Array.getElem?_eq_some_iff.1 hbk).1
  have hb2 : w2.heap[b]? = some (.cells #[.pointer (some ⟨b, 0, none⟩), v] 110 (0, 0)) := by
    rw [hgrow.block b hlt (fun e => hne e.symm)]
    exact hbk
  have hput := Used.put (K := K) (l' := l ++ s.data.toList) hbk hr hne hn hs hgrow (by
    have e1 : (l ++ s.data.toList).length = l.length + s.size := by simp
    have e2 : Lib.byteCells (l ++ s.data.toList) = Lib.byteCells l ++ Lib.strCells s := by simp [Lib.byteCells, Lib.strCells]
    rw [e1, e2]; exact hown') (by
    rcases hat with h | h
    · exact .inl h
    · exact .inr ⟨_, h, Nat.le_refl _⟩)
  have d0 : w2.cell? ⟨b, 0, none⟩ = some (.pointer (some ⟨b, 0, none⟩)) := by rw [Lib.cell_of_heap hb2]; rfl
  have d1 : w2.cell? ⟨b, 1, none⟩ = some v := by rw [Lib.cell_of_heap hb2]; rfl
  have f1 : w2.frozen? ⟨b, 1, none⟩ = false := Lib.frozen_of_heap hb2 1
  obtain ⟨ao, n', cap, rfl⟩ : ∃ ao n' cap, v' = .slice ao n' cap := by
    rcases hown'.2 with ⟨hv, _⟩ | ⟨g, cap, cur, hv, _⟩
    · exact ⟨_, _, _, hv⟩
    · exact ⟨_, _, _, hv⟩
  clear hsl
  go_wp2
  go_ret2
  exact ⟨rfl, hput.1, hf1.trans hput.2⟩

set_option maxHeartbeats 2000000 in
set_option maxRecDepth 100000 in
/-- Write of the bytes q that lie at a, in a block that is set apart. -/
theorem Write_any (b : Nat) (K : Nat → Prop) (l q : List UInt8) (a : Addr) (c : Nat) (w : World) (h : Bld b K l w) (ha : K a.block) (hq : ∀ j u, (Lib.byteCells q)[j]? = some u → w.cell? (a.add j) = some u) (hlen : l.length + q.length ≤ 140737488355328) :
    Calls Tryz.prog 110 #[.pointer (some ⟨b, 0, none⟩), .slice (some a) q.length c] w fun e w' => e = .returned (.tuple #[.int .i64 q.length, .nilIface]) ∧ Bld b K (l ++ q) w' ∧ Fr K w w' := by
  obtain ⟨i0, hi, hz0, hz1, hz2⟩ := info_parts infoByte
  have HQ := Lib.hid hq
  clear hq
  go_enter Tryz.func110, Tryz.ntmps110
  go_wp2_with (go_at_call 83; refine (copyCheck_any b K l _ h).mono ?_)
  rintro e w1 ⟨rfl, ⟨v, hbk, hown, hr, hne, hn, hs⟩, hf1⟩
  have c0 : w1.cell? ⟨b, 0, none⟩ = some (.pointer (some ⟨b, 0, none⟩)) := by rw [Lib.cell_of_heap hbk]; rfl
  have c1 : w1.cell? ⟨b, 1, none⟩ = some v := by rw [Lib.cell_of_heap hbk]; rfl
  have hl1 : (Lib.byteCells q).length = q.length * 1 := by rw [Lib.byteCells_length]; omega
  have hq1 : ∀ j u, (Lib.byteCells q)[j]? = some u → w1.cell? (a.add j) = some u := fun j u hu => by
    rw [hf1.cell (by rw [show (a.add j).block = a.block from by unfold Addr.add; split <;> rfl]; exact ha)]; exact HQ.out j u hu
  have ho1 : ∀ u ∈ Lib.byteCells q, u.oneCell' = true := fun u hu => by
    unfold Lib.byteCells at hu
    obtain ⟨x, _, rfl⟩ := List.mem_map.1 hu
    rfl
  have HL := Lib.hid hl1; have HQ1 := Lib.hid hq1; have HO := Lib.hid ho1
  clear hl1 hq1 ho1
  go_wp2_with (at_builtin; refine wpList_append_own_at _ rfl _ _ 60 rfl 0 5 i0 (.int .u8 0) 1 1 Tryz.underlying60 hi hz0 hz1 hz2 rfl (by decide) _ _ _ rfl hown a q.length c (Lib.byteCells q) rfl HL.out HQ1.out HO.out ?c3 ?c4 ?c5 ?_)
  case c3 => unfold maxLen; omega
  case c4 => omega
  case c5 => omega
  intro v' w2 hown' hgrow _ hat
  have hlt : b < w1.heap.size := (Array.getElem?_eq_some_iff.1 hbk).1
  have hb2 : w2.heap[b]? = some (.cells #[.pointer (some ⟨b, 0, none⟩), v] 110 (0, 0)) := by
    rw [hgrow.block b hlt (fun e => hne e.symm)]
    exact hbk
  have hput := Used.put (K := K) (l' := l ++ q) hbk hr hne hn hs hgrow (by
    have e1 : (l ++ q).length = l.length + q.length := by simp
    have e2 : Lib.byteCells (l ++ q) = Lib.byteCells l ++ Lib.byteCells q := by simp [Lib.byteCells]
    rw [e1, e2]; exact hown') (by
    rcases hat with h | h
    · exact .inl h
    · exact .inr ⟨_, h, Nat.le_refl _⟩)
  have d0 : w2.cell? ⟨b, 0, none⟩ = some (.pointer (some ⟨b, 0, none⟩)) := by rw [Lib.cell_of_heap hb2]; rfl
  have d1 : w2.cell? ⟨b, 1, none⟩ = some v := by rw [Lib.cell_of_heap hb2]; rfl
  have f1 : w2.frozen? ⟨b, 1, none⟩ = false := Lib.frozen_of_heap hb2 1
  obtain ⟨ao, n', cap, rfl⟩ : ∃ ao n' cap, v' = .slice ao n' cap := by
    rcases hown'.2 with ⟨hv, _⟩ | ⟨g, cap, cur, hv, _⟩
    · exact ⟨_, _, _, hv⟩
    · exact ⟨_, _, _, hv⟩
  go_wp2
  go_ret2
  exact ⟨rfl, hput.1, hf1.trans hput.2⟩
end Go.Proofs.YtpoglombagmhmaaGreatDoor
/- (*strings.Builder).String, Grow and Reset at a builder that the call has made, with what stays as it is. -/
namespace Go.Proofs.YtpoglombagmhmaaGreatDoor
open Go Go.RowKit

/-- The builder's block, whatever it holds. -/
def BldX (b : Nat) (K : Nat → Prop) (w : World) : Prop :=
  ∃ p v, w.heap[b]? = some (.cells #[p, v] 110 (0, 0)) ∧ ¬ K b ∧ (∀ k, K k → k < w.heap.size)
theorem Bld.x {b : Nat} {K : Nat → Prop} {l : List UInt8} {w : World} (h : Bld b K l w) : BldX b K w := by
  obtain ⟨p, v, _, hb, _, _, hn, hs⟩ := h
  exact ⟨p, v, hb, hn, hs⟩

theorem cellsByte : Tryz.prog.cellsOf 5 = 1 := by kernel_rfl

set_option maxHeartbeats 1000000 in
set_option maxRecDepth 100000 in
theorem String_some (b : Nat) (K : Nat → Prop) (l : List UInt8) (w : World) (h : Bld b K l w) (h0 : l ≠ []) :
    Calls Tryz.prog 63 #[.pointer (some ⟨b, 0, none⟩)] w fun e w' => e = .returned (.string ⟨l.toArray⟩) ∧ BldX b K w' ∧ Fr K w w' := by
  have hx := h.x
  obtain ⟨p, v, hp, hbk, hown, hr, hn, hs⟩ := h
  have hl0 : l.length ≠ 0 := by simpa using h0
  obtain ⟨g, cap, cur, rfl, hg, hnc, hcm, hcs, htake⟩ : ∃ g cap cur, v = .slice (some ⟨g, 0, none⟩) l.length cap ∧ w.heap[g]? = some (.cells cur 5 (0, 0)) ∧ l.length ≤ cap ∧ cap ≤ maxLen ∧ cur.size = cap * 1 ∧ cur.toList.take (l.length * 1) = Lib.byteCells l := by
    rcases hown.2 with ⟨_, hz⟩ | ⟨g, cap, cur, hv, _, hg, r1, r2, r3, r4⟩
    · exact absurd hz hl0
    · exact ⟨g, cap, cur, hv, hg, r1, r2, r3, r4⟩
  have hgK : ¬ K g := hr g rfl
  have hgb : g ≠ b := by
    rintro rfl
    rw [hg] at hbk
    have := Option.some.inj hbk
    simp at this
  have c1 : w.drew.cell? ⟨b, 1, none⟩ = some (.slice (some ⟨g, 0, none⟩) l.length cap) := by
    have : w.drew.heap[b]? = some (.cells #[p, .slice (some ⟨g, 0, none⟩) l.length cap] 110 (0, 0)) := hbk
    rw [Lib.cell_of_heap this]; rfl
  have hSD : (Builtin.unsafeSliceData_ #[60] 135 #[.slice (some ⟨g, 0, none⟩) l.length cap]).run Tryz.prog w.drew = .ok (.pointer (some ⟨g, 0, none⟩)) w.drew :=
    Lib.run_unsafeSliceData_row _ _ _ _ _ _ (by omega)
  have hUS : (Builtin.unsafeString_ #[135, 3] 9 #[.pointer (some ⟨g, 0, none⟩), .int .i64 l.length]).run Tryz.prog w.drew = .ok (.string ⟨l.toArray⟩) (w.drew.freeze ⟨g, 0, none⟩ l.length) := by
    refine Lib.run_unsafeString_row w.drew 135 3 9 5 Tryz.underlying135 cellsByte g cur.size (by have hg' : w.drew.heap[g]? = some (.cells cur 5 (0, 0)) := hg; simp [World.shape?, hg']) l h0 (by omega) (by unfold maxLen at hcm; omega) ?_
    intro j x hx
    have := hown.cells (g := g) rfl j (.int .u8 x.toNat) (by simp [Lib.byteCells, hx])
    exact this
  have hkeep : BldX b K (w.drew.freeze ⟨g, 0, none⟩ l.length) := by
    refine ⟨p, .slice (some ⟨g, 0, none⟩) l.length cap, ?_, hn, fun k hk => by have := hs k hk; unfold World.freeze; split <;> simpa using this⟩
    unfold World.freeze
    split
    · exact hbk
    · simp only [Array.getElem?_modify]
      rw [if_neg hgb]
      exact hbk
  have hfr : Fr K w (w.drew.freeze ⟨g, 0, none⟩ l.length) := ((Fr.refl K w).drew).freeze (p := ⟨g, 0, none⟩) hgK _
  clear hx h0 htake
  go_enter Tryz.func63, Tryz.ntmps63
  go_wp2
  go_region
  all_goals (go_wp2; go_ret; exact ⟨rfl, hkeep, hfr⟩)

theorem unsafeString_none (W : World) (q : Option Addr) : (Builtin.unsafeString_ #[135, 3] 9 #[.pointer q, .int .i64 0]).run Tryz.prog W = .ok (.string .empty) W :=
  Lib.run_unsafeString_none W _ _ _ q

set_option maxHeartbeats 1000000 in
set_option maxRecDepth 100000 in
theorem String_none (b : Nat) (K : Nat → Prop) (w : World) (h : Bld b K [] w) :
    Calls Tryz.prog 63 #[.pointer (some ⟨b, 0, none⟩)] w fun e w' => e = .returned (.string ⟨#[]⟩) ∧ BldX b K w' ∧ Fr K w w' := by
  have hx := h.x
  obtain ⟨p, v, hp, hbk, hown, hr, hn, hs⟩ := h
  have hUS := unsafeString_none
  have hlt : b < w.heap.size := (Array.getElem?_eq_some_iff.1 hbk).1
  rcases hown.2 with ⟨rfl, _⟩ | ⟨g, cap, cur, rfl, _, hg, _, _, _, _⟩
  · have c1 : w.drew.cell? ⟨b, 1, none⟩ = some (.slice none 0 0) := by
      have : w.drew.heap[b]? = some (.cells #[p, .slice none 0 0] 110 (0, 0)) := hbk
      rw [Lib.cell_of_heap this]; rfl
    have hSD : (Builtin.unsafeSliceData_ #[60] 135 #[.slice none 0 0]).run Tryz.prog w.drew = .ok (.pointer none) w.drew := rfl
    go_enter Tryz.func63, Tryz.ntmps63
    go_wp2
    go_region
    all_goals (go_wp2; go_ret; exact ⟨rfl, hx, (Fr.refl K w).drew⟩)
  · by_cases hc0 : cap = 0
    · subst hc0
      have c1 : w.drew.cell? ⟨b, 1, none⟩ = some (.slice (some ⟨g, 0, none⟩) 0 0) := by
        have : w.drew.heap[b]? = some (.cells #[p, .slice (some ⟨g, 0, none⟩) 0 0] 110 (0, 0)) := hbk
        rw [Lib.cell_of_heap this]; rfl
      have hSD : (Builtin.unsafeSliceData_ #[60] 135 #[.slice (some ⟨g, 0, none⟩) 0 0]).run Tryz.prog w.drew = .ok (.pointer (some ⟨w.drew.heap.size, 0, none⟩)) (w.drew.alloc (.view ⟨g, 0, none⟩ 5)) :=
        Lib.run_unsafeSliceData_zero w.drew _ _ 5 Tryz.underlying135 ⟨g, 0, none⟩ 0 (5, cur.size) (by have hg' : w.drew.heap[g]? = some (.cells cur 5 (0, 0)) := hg; simp [World.shape?, hg'])
      have c2 : (w.drew.alloc (.view ⟨g, 0, none⟩ 5)).cell? ⟨b, 1, none⟩ = some (.slice (some ⟨g, 0, none⟩) 0 0) := by
        have : (w.drew.alloc (.view ⟨g, 0, none⟩ 5)).heap[b]? = _ := (Lib.alloc_old w.drew _ b hlt).trans hbk
        rw [Lib.cell_of_heap this]; rfl
      have c3 : (w.alloc (.view ⟨g, 0, none⟩ 5)).drew.cell? ⟨b, 1, none⟩ = some (.slice (some ⟨g, 0, none⟩) 0 0) := c2
      have c0 : w.cell? ⟨b, 1, none⟩ = some (.slice (some ⟨g, 0, none⟩) 0 0) := c1
      have hx2 : BldX b K (w.alloc (.view ⟨g, 0, none⟩ 5)).drew := by
        obtain ⟨p2, v2, hb2, hn2, hs2⟩ := hx
        exact ⟨p2, v2, (Lib.alloc_old w _ b hlt).trans hb2, hn2, fun k hk => by have := hs2 k hk; simp; omega⟩
      go_enter Tryz.func63, Tryz.ntmps63
      go_wp2
      go_region
      all_goals (go_wp2; go_ret; exact ⟨rfl, hx2, ((Fr.refl K w).alloc hs _).drew⟩)
    · have c1 : w.drew.cell? ⟨b, 1, none⟩ = some (.slice (some ⟨g, 0, none⟩) 0 cap) := by
        have : w.drew.heap[b]? = some (.cells #[p, .slice (some ⟨g, 0, none⟩) 0 cap] 110 (0, 0)) := hbk
        rw [Lib.cell_of_heap this]; rfl
      have hSD : (Builtin.unsafeSliceData_ #[60] 135 #[.slice (some ⟨g, 0, none⟩) 0 cap]).run Tryz.prog w.drew = .ok (.pointer (some ⟨g, 0, none⟩)) w.drew :=
        Lib.run_unsafeSliceData_row _ _ _ _ _ _ hc0
      clear hc0
      go_enter Tryz.func63, Tryz.ntmps63
      go_wp2
      go_region
      all_goals (go_wp2; go_ret; exact ⟨rfl, hx, (Fr.refl K w).drew⟩)

theorem String_any (b : Nat) (K : Nat → Prop) (l : List UInt8) (w : World) (h : Bld b K l w) :
    Calls Tryz.prog 63 #[.pointer (some ⟨b, 0, none⟩)] w fun e w' => e = .returned (.string ⟨l.toArray⟩) ∧ BldX b K w' ∧ Fr K w w' := by
  cases l with
  | nil => exact String_none b K w h
  | cons x r => exact String_some b K (x :: r) w h (by simp)
end Go.Proofs.YtpoglombagmhmaaGreatDoor
