/- (*strings.Builder).String, Grow and Reset at a builder that the call has made, with what stays as it is. -/
import Derived.Test.YtciejdaifjbjdaaDoorBld
import Derived.RegionTactic
import Derived.BigRegion
import Derived.Lib.UnsafeStr
namespace Go.Proofs.YtciejdaifjbjdaaDoor
open Go Go.RowKit

/-- The builder's block, whatever it holds. -/
def BldX (b : Nat) (K : Nat → Prop) (w : World) : Prop :=
  ∃ p v, w.heap[b]? = some (.cells #[p, v] 82 (0, 0)) ∧ ¬ K b ∧ (∀ k, K k → k < w.heap.size)
theorem Bld.x {b : Nat} {K : Nat → Prop} {l : List UInt8} {w : World} (h : Bld b K l w) : BldX b K w := by
  obtain ⟨p, v, _, hb, _, _, hn, hs⟩ := h
  exact ⟨p, v, hb, hn, hs⟩

theorem cellsByte : Tryd.prog.cellsOf 5 = 1 := by kernel_rfl

set_option maxHeartbeats 1000000 in
set_option maxRecDepth 100000 in
theorem String_some (b : Nat) (K : Nat → Prop) (l : List UInt8) (w : World) (h : Bld b K l w) (h0 : l ≠ []) :
    Calls Tryd.prog 40 #[.pointer (some ⟨b, 0, none⟩)] w fun e w' => e = .returned (.string ⟨l.toArray⟩) ∧ BldX b K w' ∧ Fr K w w' := by
  have hx := h.x
  obtain ⟨p, v, hp, hbk, hown, hr, hn, hs⟩ := h
  have hl0 : l.length ≠ 0 := by simpa using h0
  obtain ⟨g, cap, cur, rfl, hg, hnc, hcm, hcs, htake⟩ : ∃ g cap cur, v = .slice (some ⟨g, 0, none⟩) l.length cap ∧ w.heap[g]? = some (.cells cur 5 (0, 0)) ∧ l.length ≤ cap ∧ cap ≤ maxLen ∧ cur.size = cap * 1 ∧ cur.toList.take (l.length * 1) = Lib.byteCells l := by
    rcases hown.2 with ⟨_, hz⟩ | ⟨g, cap, cur, hv, _, hg, r1, r2, r3, r4⟩
    · exact absurd hz hl0
    · exact ⟨g, cap, cur, hv, hg, r1, r2, r3, r4⟩
  have hgK : ¬ K g := hr g rfl
  have hgb : g ≠ b := by
    rintro rfl
    rw [hg] at hbk
    have := Option.some.inj hbk
    simp at this
  have c1 : w.drew.cell? ⟨b, 1, none⟩ = some (.slice (some ⟨g, 0, none⟩) l.length cap) := by
    have : w.drew.heap[b]? = some (.cells #[p, .slice (some ⟨g, 0, none⟩) l.length cap] 82 (0, 0)) := hbk
    rw [Lib.cell_of_heap this]; rfl
  have hSD : (Builtin.unsafeSliceData_ #[80] 104 #[.slice (some ⟨g, 0, none⟩) l.length cap]).run Tryd.prog w.drew = .ok (.pointer (some ⟨g, 0, none⟩)) w.drew :=
    Lib.run_unsafeSliceData_row _ _ _ _ _ _ (by omega)
  have hUS : (Builtin.unsafeString_ #[104, 3] 9 #[.pointer (some ⟨g, 0, none⟩), .int .i64 l.length]).run Tryd.prog w.drew = .ok (.string ⟨l.toArray⟩) (w.drew.freeze ⟨g, 0, none⟩ l.length) := by
    refine Lib.run_unsafeString_row w.drew 104 3 9 5 Tryd.underlying104 cellsByte g cur.size (by have hg' : w.drew.heap[g]? = some (.cells cur 5 (0, 0)) := hg; simp [World.shape?, hg']) l h0 (by omega) (by unfold maxLen at hcm; omega) ?_
    intro j x hx
    have := hown.cells (g := g) rfl j (.int .u8 x.toNat) (by simp [Lib.byteCells, hx])
    exact this
  have hkeep : BldX b K (w.drew.freeze ⟨g, 0, none⟩ l.length) := by
    refine ⟨p, .slice (some ⟨g, 0, none⟩) l.length cap, ?_, hn, fun k hk => by have := hs k hk; unfold World.freeze; split <;> simpa using this⟩
    unfold World.freeze
    split
    · exact hbk
    · simp only [Array.getElem?_modify]
      rw [if_neg hgb]
      exact hbk
  have hfr : Fr K w (w.drew.freeze ⟨g, 0, none⟩ l.length) := ((Fr.refl K w).drew).freeze (p := ⟨g, 0, none⟩) hgK _
  clear hx h0 htake
  go_enter Tryd.func40, Tryd.ntmps40
  go_wp2
  go_region
  all_goals (go_wp2; go_ret; exact ⟨rfl, hkeep, hfr⟩)

theorem unsafeString_none (W : World) (q : Option Addr) : (Builtin.unsafeString_ #[104, 3] 9 #[.pointer q, .int .i64 0]).run Tryd.prog W = .ok (.string .empty) W :=
  Lib.run_unsafeString_none W _ _ _ q

set_option maxHeartbeats 1000000 in
set_option maxRecDepth 100000 in
theorem String_none (b : Nat) (K : Nat → Prop) (w : World) (h : Bld b K [] w) :
    Calls Tryd.prog 40 #[.pointer (some ⟨b, 0, none⟩)] w fun e w' => e = .returned (.string ⟨#[]⟩) ∧ BldX b K w' ∧ Fr K w w' := by
  have hx := h.x
  obtain ⟨p, v, hp, hbk, hown, hr, hn, hs⟩ := h
  have hUS := unsafeString_none
  have hlt : b < w.heap.size := (Array.getElem?_eq_some_iff.1 hbk).1
  rcases hown.2 with ⟨rfl, _⟩ | ⟨g, cap, cur, rfl, _, hg, _, _, _, _⟩
  · have c1 : w.drew.cell? ⟨b, 1, none⟩ = some (.slice none 0 0) := by
      have : w.drew.heap[b]? = some (.cells #[p, .slice none 0 0] 82 (0, 0)) := hbk
      rw [Lib.cell_of_heap this]; rfl
    have hSD : (Builtin.unsafeSliceData_ #[80] 104 #[.slice none 0 0]).run Tryd.prog w.drew = .ok (.pointer none) w.drew := rfl
    go_enter Tryd.func40, Tryd.ntmps40
    go_wp2
    go_region
    all_goals (go_wp2; go_ret; exact ⟨rfl, hx, (Fr.refl K w).drew⟩)
  · by_cases hc0 : cap = 0
    · subst hc0
      have c1 : w.drew.cell? ⟨b, 1, none⟩ = some (.slice (some ⟨g, 0, none⟩) 0 0) := by
        have : w.drew.heap[b]? = some (.cells #[p, .slice (some ⟨g, 0, none⟩) 0 0] 82 (0, 0)) := hbk
        rw [Lib.cell_of_heap this]; rfl
      have hSD : (Builtin.unsafeSliceData_ #[80] 104 #[.slice (some ⟨g, 0, none⟩) 0 0]).run Tryd.prog w.drew = .ok (.pointer (some ⟨w.drew.heap.size, 0, none⟩)) (w.drew.alloc (.view ⟨g, 0, none⟩ 5)) :=
        Lib.run_unsafeSliceData_zero w.drew _ _ 5 Tryd.underlying104 ⟨g, 0, none⟩ 0 (5, cur.size) (by have hg' : w.drew.heap[g]? = some (.cells cur 5 (0, 0)) := hg; simp [World.shape?, hg'])
      have c2 : (w.drew.alloc (.view ⟨g, 0, none⟩ 5)).cell? ⟨b, 1, none⟩ = some (.slice (some ⟨g, 0, none⟩) 0 0) := by
        have : (w.drew.alloc (.view ⟨g, 0, none⟩ 5)).heap[b]? = _ := (Lib.alloc_old w.drew _ b hlt).trans hbk
        rw [Lib.cell_of_heap this]; rfl
      have c3 : (w.alloc (.view ⟨g, 0, none⟩ 5)).drew.cell? ⟨b, 1, none⟩ = some (.slice (some ⟨g, 0, none⟩) 0 0) := c2
      have c0 : w.cell? ⟨b, 1, none⟩ = some (.slice (some ⟨g, 0, none⟩) 0 0) := c1
      have hx2 : BldX b K (w.alloc (.view ⟨g, 0, none⟩ 5)).drew := by
        obtain ⟨p2, v2, hb2, hn2, hs2⟩ := hx
        exact ⟨p2, v2, (Lib.alloc_old w _ b hlt).trans hb2, hn2, fun k hk => by have := hs2 k hk; simp; omega⟩
      go_enter Tryd.func40, Tryd.ntmps40
      go_wp2
      go_region
      all_goals (go_wp2; go_ret; exact ⟨rfl, hx2, ((Fr.refl K w).alloc hs _).drew⟩)
    · have c1 : w.drew.cell? ⟨b, 1, none⟩ = some (.slice (some ⟨g, 0, none⟩) 0 cap) := by
        have : w.drew.heap[b]? = some (.cells #[p, .slice (some ⟨g, 0, none⟩) 0 cap] 82 (0, 0)) := hbk
        rw [Lib.cell_of_heap this]; rfl
      have hSD : (Builtin.unsafeSliceData_ #[80] 104 #[.slice (some ⟨g, 0, none⟩) 0 cap]).run Tryd.prog w.drew = .ok (.pointer (some ⟨g, 0, none⟩)) w.drew :=
        Lib.run_unsafeSliceData_row _ _ _ _ _ _ hc0
      clear hc0
      go_enter Tryd.func40, Tryd.ntmps40
      go_wp2
      go_region
      all_goals (go_wp2; go_ret; exact ⟨rfl, hx, (Fr.refl K w).drew⟩)

theorem String_any (b : Nat) (K : Nat → Prop) (l : List UInt8) (w : World) (h : Bld b K l w) :
    Calls Tryd.prog 40 #[.pointer (some ⟨b, 0, none⟩)] w fun e w' => e = .returned (.string ⟨l.toArray⟩) ∧ BldX b K w' ∧ Fr K w w' := by
  cases l with
  | nil => exact String_none b K w h
  | cons x r => exact String_some b K (x :: r) w h (by simp)
end Go.Proofs.YtciejdaifjbjdaaDoor
