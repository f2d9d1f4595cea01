/- base64.NewEncoding at the standard alphabet: the walk. -/
import Derived.Test.YtpoglombagmhmaaGreatDoorPu
import Derived.Test.YtpoglombagmhmaaGreatDoorA1
import Derived.Test.YtpoglombagmhmaaGreatDoorProg
import Derived.WalkKit
import Derived.BigCall
import Derived.BigQuiet
import Derived.BigRegion
import Derived.LoopTactic
import Derived.Outline
import Derived.WalkSpells
import Derived.Lib.Walk
import Derived.Lib.BufferWrite
import Derived.Laws.Rows
namespace Go.Proofs.YtpoglombagmhmaaGreatDoor
open Go Go.RowKit

/-- An encoding in block a, of whose signs m are entered in its decoding map. -/
structure EncC (m : Nat) (cs : Array Value) : Prop where
  size : cs.size = 322
  enc : ∀ i, i < 64 → cs[i]? = some (.int .u8 (alphaN i))
  dec : ∀ c, c < 256 → cs[64 + c]? = some (.int .u8 (dm m c))
  pad : cs[320]? = some (.int .i32 61)
  strict : cs[321]? = some (.bool false)
def EncM (m a : Nat) (w : World) : Prop := ∃ cs, w.heap[a]? = some (.cells cs 194 (0, 0)) ∧ EncC m cs
theorem EncM.lt {m a : Nat} {w : World} (h : EncM m a w) : a < w.heap.size := by
  obtain ⟨cs, hb, _⟩ := h
  exact (Array.getElem?_eq_some_iff.1 hb).1
theorem EncM.kept {m a : Nat} {w w' : World} (h : EncM m a w) (hk : w'.heap[a]? = w.heap[a]?) : EncM m a w' := by
  obtain ⟨cs, hb, hc⟩ := h
  exact ⟨cs, hk.trans hb, hc⟩
theorem EncM.fr {m a : Nat} {K : Nat → Prop} {w w' : World} (h : EncM m a w) (f : Fr K w w') (hK : K a) : EncM m a w' := h.kept (f.block a hK)

theorem zeros_size : Tryz.zeroCells194.size = 322 := by kernel_rfl
theorem info5s : (Tryz.prog.info? 5).map (·.size) = some 1 := by kernel_rfl
theorem zeros_last : Tryz.zeroCells194[321]? = some (.bool false) := by kernel_rfl

theorem splice_size (cur : Array Value) (o : Nat) (l : List Value) (h : o + l.length ≤ cur.size) : ((cur.toList.take o ++ l ++ cur.toList.drop (o + l.length)).toArray).size = cur.size := by
  simp only [List.size_toArray, List.length_append, List.length_take, List.length_drop, Array.length_toList]; omega
theorem splice_out (cur : Array Value) (o : Nat) (l : List Value) (h : o + l.length ≤ cur.size) (i : Nat) (hi : i < o ∨ o + l.length ≤ i) : ((cur.toList.take o ++ l ++ cur.toList.drop (o + l.length)).toArray)[i]? = cur[i]? := by
  rw [List.getElem?_toArray, ← Array.getElem?_toList]
  have ho : (cur.toList.take o).length = o := by rw [List.length_take, Array.length_toList]; omega
  rcases hi with hi | hi
  · rw [List.append_assoc, List.getElem?_append_left (by omega), List.getElem?_take, if_pos hi]
  · rw [List.getElem?_append_right (by rw [List.length_append]; omega), List.length_append, ho, List.getElem?_drop]
    congr 1; omega
theorem splice_in (cur : Array Value) (o : Nat) (l : List Value) (h : o + l.length ≤ cur.size) (j : Nat) (hj : j < l.length) : ((cur.toList.take o ++ l ++ cur.toList.drop (o + l.length)).toArray)[o + j]? = l[j]? := by
  rw [List.getElem?_toArray]
  have ho : (cur.toList.take o).length = o := by rw [List.length_take, Array.length_toList]; omega
  rw [List.append_assoc, List.getElem?_append_right (by omega), ho, List.getElem?_append_left (by omega)]
  congr 1; omega

/-- The world behind 'copy(e.encode[:], encoder)': what is known of the row. -/
structure EncA (s : ByteArray) (cs : Array Value) : Prop where
  size : cs.size = 322
  enc : ∀ i, i < 64 → cs[i]? = some (.int .u8 (alphaN i))
  pad : cs[320]? = some (.int .i32 61)
  strict : cs[321]? = some (.bool false)

theorem EncC.step {k c : Nat} {cs : Array Value} (h : EncC k cs) (hk : k < 64) (hc : aIdx c = k) : EncC (k + 1) (cs.setIfInBounds (64 + c) (.int .u8 k)) := by
  have hc2 : c < 128 := by
    by_cases h2 : c < 128
    · exact h2
    · have := aIdx_big c (by omega); omega
  have hc3 := alpha_aIdx c (by omega)
  refine ⟨by rw [Array.size_setIfInBounds]; exact h.size, fun i hi => ?_, fun d hd => ?_, ?_, ?_⟩
  · rw [Array.getElem?_setIfInBounds, if_neg (by omega)]; exact h.enc i hi
  · rw [Array.getElem?_setIfInBounds, dm_step]
    by_cases e : d = c
    · subst e
      rw [if_pos rfl, if_pos (by rw [h.size]; omega), if_pos hc]
    · rw [if_neg (by omega), h.dec d hd, if_neg]
      intro e2
      apply e
      rw [← hc3, hc, ← e2]
      exact (alpha_aIdx d (by omega)).symm
  · rw [Array.getElem?_setIfInBounds, if_neg (by omega)]; exact h.pad
  · rw [Array.getElem?_setIfInBounds, if_neg (by omega)]; exact h.strict

set_option maxHeartbeats 4000000 in
set_option maxRecDepth 100000 in
theorem NewEncoding_any (w : World) (s : ByteArray) (hs : s.size = 64) (hα : ∀ i (h : i < s.size), (s[i]'h).toNat = alphaN i) :
    Calls Tryz.prog 122 #[.string s] w fun x w' => x = .returned (.pointer (some ⟨w.heap.size, 0, none⟩)) ∧ EncM 64 w.heap.size w' ∧ Below w.heap.size w w' := by
  have h64 : ((s.size : Int) != 64) = false := by rw [bne_eq_false_iff_eq]; omega
  obtain ⟨cs0, hcs0⟩ : ∃ cs0, Tryz.zeroCells194.setIfInBounds 320 (Value.int IntKind.i32 61) = cs0 := ⟨_, rfl⟩
  have z0 : cs0.size = 322 := by rw [← hcs0, Array.size_setIfInBounds]; exact zeros_size
  have p0 : cs0[320]? = some (.int .i32 61) := by rw [← hcs0, Array.getElem?_setIfInBounds, if_pos rfl, if_pos (by rw [zeros_size]; decide)]
  have t0 : cs0[321]? = some (.bool false) := by rw [← hcs0, Array.getElem?_setIfInBounds, if_neg (by decide)]; exact zeros_last
  have HA := Lib.hid hα; have HS := Lib.hid hs; have HC := Lib.hid hcs0; have Z0 := Lib.hid z0; have P0 := Lib.hid p0; have T0 := Lib.hid t0
  clear hs hα hcs0 z0 p0 t0
  go_enter Tryz.func122, Tryz.ntmps122
  go_wp2_with fail
  rw [HC.out]
  have hb0 : (w.alloc (.cells cs0 194)).heap[w.heap.size]? = some (.cells cs0 194 (0, 0)) := heap_alloc_new w _
  rw [Lib.run_copy_row_string _ _ _ _ 5 w.heap.size 0 64 64 s cs0 194 Tryz.underlying60 info5s hb0 (by rw [HS.out]; decide) (by rw [HS.out, Z0.out]; decide)]
  have hbl : (Lib.byteCells s.data.toList).length = s.size := by rw [Lib.byteCells_length]; simp
  have hbl64 : (Lib.byteCells s.data.toList).length = 64 := by rw [hbl, HS.out]
  obtain ⟨cs1, hcs1⟩ : ∃ cs1, (List.take 0 cs0.toList ++ Lib.byteCells s.data.toList ++ List.drop (0 + s.size) cs0.toList).toArray = cs1 := ⟨_, rfl⟩
  have hA1 : EncA s cs1 := by
    rw [← hbl] at hcs1
    have hfit : 0 + (Lib.byteCells s.data.toList).length ≤ cs0.size := by rw [hbl64, Z0.out]; decide
    have h1 := splice_size cs0 0 _ hfit
    have h2 := splice_out cs0 0 _ hfit
    have h3 := splice_in cs0 0 _ hfit
    rw [hcs1] at h1 h2 h3
    refine ⟨h1.trans Z0.out, fun i hi => ?_, ?_, ?_⟩
    · have := h3 i (by omega)
      rw [Nat.zero_add] at this
      rw [this]
      have hi' : i < s.size := by rw [HS.out]; exact hi
      have hg : s.data.toList[i]? = some s[i] := by simp [ByteArray.getElem_eq_getElem_data, hi']
      simp only [Lib.byteCells, List.getElem?_map, hg, Option.map_some]
      rw [HA.out i hi']
    · rw [h2 320 (by omega)]; exact P0.out
    · rw [h2 321 (by omega)]; exact T0.out
  rw [hcs1]
  have hb1 : ((w.alloc (.cells cs0 194)).setRow w.heap.size cs1).heap[w.heap.size]? = some (.cells cs1 194 (0, 0)) := setRow_heap _ _ _ _ _ _ hb0
  have hf1 : Fr (· < w.heap.size) w ((w.alloc (.cells cs0 194)).setRow w.heap.size cs1) := by
    refine ⟨rfl, rfl, rfl, by simp, fun k hk => ?_⟩
    rw [setRow_other _ _ _ _ (by omega)]
    exact Below.heap_alloc _ _ _ hk
  generalize (w.alloc (.cells cs0 194)).setRow w.heap.size cs1 = W1 at hb1 hf1 ⊢
  clear hcs1 hbl hbl64 hb0
  simp only [Result.andThen]
  rw [Oper.upon_value]
  go_wp2_with fail
  rw [Lib.run_copy_row_string _ _ _ _ 5 w.heap.size 64 256 256 _ cs1 194 Tryz.underlying60 info5s hb1 (by decide) (by rw [hA1.size]; decide)]
  generalize hn : 64 + ByteArray.size _ = n
  generalize hL : Lib.byteCells _ = L
  have hn' : n = 320 := by rw [← hn]; rfl
  have hL' : L = List.replicate 256 (.int .u8 255) := by rw [← hL]; rfl
  clear hn hL
  subst hn' hL'
  obtain ⟨cs2, hcs2⟩ : ∃ cs2, (List.take 64 cs1.toList ++ List.replicate 256 (Value.int .u8 255) ++ List.drop 320 cs1.toList).toArray = cs2 := ⟨_, rfl⟩
  rw [hcs2]
  have hE0 : EncC 0 cs2 := by
    have hfit : 64 + (List.replicate 256 (Value.int .u8 255)).length ≤ cs1.size := by rw [hA1.size, List.length_replicate]; decide
    have h1 := splice_size cs1 64 _ hfit
    have h2 := splice_out cs1 64 _ hfit
    have h3 := splice_in cs1 64 _ hfit
    rw [List.length_replicate] at h1 h2 h3
    rw [hcs2] at h1 h2 h3
    refine ⟨h1.trans hA1.size, fun i hi => ?_, fun c hc => ?_, ?_, ?_⟩
    · rw [h2 i (by omega)]; exact hA1.enc i hi
    · rw [h3 c hc, List.getElem?_replicate, if_pos hc, dm_zero]; rfl
    · rw [h2 320 (by omega)]; exact hA1.pad
    · rw [h2 321 (by omega)]; exact hA1.strict
  have hb2 := setRow_heap _ _ _ cs2 _ _ hb1
  have hf2 : Fr (· < w.heap.size) w (W1.setRow w.heap.size cs2) := hf1.trans ⟨rfl, rfl, rfl, by simp, fun k hk => setRow_other _ _ _ _ (by omega)⟩
  generalize W1.setRow w.heap.size cs2 = W2 at hb2 hf2 ⊢
  have hEM : EncM 0 w.heap.size W2 := ⟨cs2, hb2, hE0⟩
  clear hcs2 hb2 hb1 hf1 hA1 hE0
  simp only [Result.andThen]
  rw [Oper.upon_value]
  go_wp2_with fail
  go_loopw [4] (fun i wr => ∃ k : Nat, k ≤ 64 ∧ i = .int .i64 k ∧ EncM k w.heap.size wr ∧ Fr (· < w.heap.size) w wr) (fun i _ => 64 - (intOf i).toNat)
  case atStart => exact ⟨0, Nat.zero_le _, rfl, hEM, hf2⟩
  case round =>
    obtain ⟨k, hk, rfl, hEk, hFk⟩ := hrel
    have hs64 := HS.out
    by_cases hlt : k < 64
    · have hksz : k < s.size := by omega
      clear hs64
      obtain ⟨c, hc⟩ : ∃ c, s[k]'hksz = c := ⟨_, rfl⟩
      have hca : c.toNat = alphaN k := by rw [← hc]; exact HA.out k (by omega)
      have hai := aIdx_alpha k hlt
      rw [← hca] at hai
      have hcl := alphaN_lt k hlt
      rw [← hca] at hcl
      have h43 : 43 ≤ c.toNat := by rw [hca]; unfold alphaN; (repeat' split) <;> omega
      have h10 : ((c.toNat : Int) == 10) = false := by rw [beq_eq_false_iff_ne]; omega
      have h13 : ((c.toNat : Int) == 13) = false := by rw [beq_eq_false_iff_ne]; omega
      obtain ⟨cs, hb, hE⟩ := hEk
      have hcell : wr.cell? ⟨w.heap.size, 64 + c.toNat, none⟩ = some (.int .u8 255) := by
        rw [Lib.cell_of_heap hb, hE.dec _ (by omega)]
        unfold dm; rw [hai, if_neg (by omega)]; rfl
      have hfro : wr.frozen? ⟨w.heap.size, 64 + c.toNat, none⟩ = false := Lib.frozen_of_heap hb _
      have HAI := Lib.hid hai; have HCA := Lib.hid hca
      clear hai hca hEM hf2
      go_wp2
      go_quiet (fail)
      have hbq : (wr.drewN nq).heap[w.heap.size]? = some (.cells cs 194 (0, 0)) := by rw [heap_drewN]; exact hb
      have hFq := hFk.drewN nq
      clear hcell hfro hb hFk
      generalize wr.drewN nq = wq at hbq hFq ⊢
      have hcell : wq.cell? ⟨w.heap.size, 64 + c.toNat, none⟩ = some (.int .u8 255) := by
        rw [Lib.cell_of_heap hbq, hE.dec _ (by omega)]
        unfold dm; rw [HAI.out, if_neg (by omega)]; rfl
      have hfro : wq.frozen? ⟨w.heap.size, 64 + c.toNat, none⟩ = false := Lib.frozen_of_heap hbq _
      have HBQ := Lib.hid hbq; have HE := Lib.hid hE
      clear hbq hE
      go_wp2
      go_region
      go_wp2
      have hEn : EncM (k + 1) w.heap.size (wq.setCell ⟨w.heap.size, 64 + c.toNat, none⟩ (.int .u8 k)) := ⟨_, heap_setCell_row HBQ.out, HE.out.step hlt HAI.out⟩
      exact ⟨⟨k + 1, by omega, by go_num, hEn, (hFq.setCell (by simp) _).drew⟩, by simp [intOf]; omega⟩
    · have hk64 : k = 64 := by omega
      subst hk64
      clear hs64
      have h64' : ¬ ((64 : Nat) : Int) < (s.size : Int) := by have := HS.out; omega
      go_wp2
      go_ret
      exact ⟨rfl, hEk, hFk.below⟩
end Go.Proofs.YtpoglombagmhmaaGreatDoor
/- gomime.stdEncoding: the walk. -/
namespace Go.Proofs.YtpoglombagmhmaaGreatDoor
open Go Go.RowKit

theorem stdEncoding_any (w : World) : Calls Tryz.prog 106 #[] w fun x w' => x = .returned (.pointer (some ⟨w.heap.size, 0, none⟩)) ∧ EncM 64 w.heap.size w' ∧ Below w.heap.size w w' := by
  go_enter Tryz.func106, Tryz.ntmps106
  go_wp2_with fail
  refine (NewEncoding_any _ _ (by decide) ?_).mono ?_
  · have : ∀ i : Fin 64, ((⟨#[65, 66, 67, 68, 69, 70, 71, 72, 73, 74, 75, 76, 77, 78, 79, 80, 81, 82, 83, 84, 85, 86, 87, 88, 89, 90, 97, 98, 99, 100, 101, 102, 103, 104, 105, 106, 107, 108, 109, 110, 111, 112, 113, 114, 115, 116, 117, 118, 119, 120, 121, 122, 48, 49, 50, 51, 52, 53, 54, 55, 56, 57, 43, 47]⟩ : ByteArray)[i.val]'(by have := i.isLt; simp [ByteArray.size])).toNat = alphaN i.val := by decide
    intro i h
    exact this ⟨i, h⟩
  · rintro x w1 ⟨rfl, hE, hb⟩
    go_wp2_with fail
    go_ret
    exact ⟨rfl, hE, hb⟩
end Go.Proofs.YtpoglombagmhmaaGreatDoor
