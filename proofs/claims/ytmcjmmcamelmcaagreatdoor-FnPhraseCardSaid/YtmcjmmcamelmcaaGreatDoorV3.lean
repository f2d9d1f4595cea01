/- The reference's lower: the walk. -/
import Derived.Test.YtmcjmmcamelmcaaGreatDoorV2
namespace Go.Proofs.YtmcjmmcamelmcaaGreatDoor
open Go Go.RowKit

/-- A row of bytes of a conversion: its cells up to the length may be written. -/
def RowZ (g : Nat) (l : List UInt8) (w : World) : Prop :=
  ∃ (cs : Array Value) (lo hi : Nat), w.heap[g]? = some (.cells cs 5 (lo, hi)) ∧ l.length ≤ lo ∧ ∀ (j : Nat) (x : UInt8), l[j]? = some x → cs[j]? = some (Value.int .u8 x.toNat)
theorem RowZ.cell {g : Nat} {l : List UInt8} {w : World} (h : RowZ g l w) {j : Nat} {x : UInt8} (hx : l[j]? = some x) : w.cell? ⟨g, j, none⟩ = some (.int .u8 x.toNat) := by
  obtain ⟨cs, lo, hi, hb, _, hc⟩ := h
  rw [Lib.cell_of_heap hb]; exact hc j x hx
theorem RowZ.frozen {g : Nat} {l : List UInt8} {w : World} (h : RowZ g l w) {j : Nat} (hj : j < l.length) : w.frozen? ⟨g, j, none⟩ = false := by
  obtain ⟨cs, lo, hi, hb, hlo, _⟩ := h
  simp only [World.frozen?, hb]
  rw [Bool.and_eq_false_iff]
  exact .inl (decide_eq_false (by omega))
theorem RowZ.set {g : Nat} {l : List UInt8} {w : World} (h : RowZ g l w) (j : Nat) (x : UInt8) : RowZ g (l.set j x) (w.setCell ⟨g, j, none⟩ (.int .u8 x.toNat)) := by
  obtain ⟨cs, lo, hi, hb, hs, hc⟩ := h
  refine ⟨cs.setIfInBounds j (.int .u8 x.toNat), lo, hi, heap_setCell_row hb, by simpa using hs, fun i y hy => ?_⟩
  rw [List.getElem?_set] at hy
  rw [Array.getElem?_setIfInBounds]
  by_cases hij : j = i
  · subst hij
    rw [if_pos rfl] at hy ⊢
    split at hy
    · rename_i hlt
      simp only [Option.some.injEq] at hy
      subst hy
      rw [if_pos ((Array.getElem?_eq_some_iff.1 (hc j _ (List.getElem?_eq_getElem hlt))).1)]
    · cases hy
  · rw [if_neg hij] at hy ⊢
    exact hc i y hy

/-- '[]byte(s)': a new row that may be written. -/
theorem conv_rowz (w : World) (s : ByteArray) (hs : s.size ≤ maxLen) : ∃ c w', (convert 9 79 (.string s)).run Tryz.prog w = .ok (.slice (some ⟨w.heap.size, 0, none⟩) s.size c) w' ∧ s.size ≤ c ∧ c ≤ 9223372036854775807 ∧ Fr (· < w.heap.size) w w' ∧ RowZ w.heap.size s.data.toList w' := by
  have hcs : s.size ≤ (Lib.bytesCells w 5 s).size := by
    unfold Lib.bytesCells
    rw [Array.size_append, Array.size_map]
    exact Nat.le_add_right _ _
  refine ⟨_, _, Lib.run_convert_string_bytes w 9 79 5 s (u := .string) (by kernel_rfl) (by kernel_rfl) (by kernel_rfl), grownCap_ge _ _ _ _, grownCap_le_maxLen _ _ _ _ hs, ?_, _, _, _, Lib.bytesWorld_at_new _ _ _, by rw [Array.length_toList]; exact hcs, ?_⟩
  · unfold Lib.bytesWorld
    exact (((Fr.refl _ w).drew.alloc (fun k hk => hk) _).freeze (Nat.lt_irrefl _) _)
  · intro j x hx
    have hj : j < s.size := (List.getElem?_eq_some_iff.1 hx).1
    have h1 := Lib.bytesWorld_cell w 5 s j hj
    rw [Lib.cell_of_heap (Lib.bytesWorld_at_new _ _ _), List.getD_eq_getElem?_getD, hx] at h1
    exact h1

def lowB (c : UInt8) : UInt8 := if 65 ≤ c.toNat ∧ c.toNat ≤ 90 then c + 32 else c
def lowerL (l : List UInt8) : List UInt8 := l.map lowB
theorem lowB_up {c : UInt8} (h1 : 65 ≤ c.toNat) (h2 : c.toNat ≤ 90) : ((lowB c).toNat : Int) = (c.toNat : Int) + 32 := by
  unfold lowB
  rw [if_pos ⟨h1, h2⟩, UInt8.toNat_add]
  have : (32 : UInt8).toNat = 32 := rfl
  omega
theorem lowB_id {c : UInt8} (h : ¬ (65 ≤ c.toNat ∧ c.toNat ≤ 90)) : lowB c = c := by unfold lowB; rw [if_neg h]

/-- The first k bytes are small. -/
def lowTo (l : List UInt8) (k : Nat) : List UInt8 := (l.take k).map lowB ++ l.drop k
theorem lowTo_zero (l : List UInt8) : lowTo l 0 = l := by simp [lowTo]
theorem lowTo_all (l : List UInt8) : lowTo l l.length = lowerL l := by simp [lowTo, lowerL]
theorem lowTo_length (l : List UInt8) (k : Nat) : (lowTo l k).length = l.length := by simp [lowTo]; omega
theorem lowTo_at {l : List UInt8} {k : Nat} {c : UInt8} (h : l[k]? = some c) : (lowTo l k)[k]? = some c := by
  have hk := (List.getElem?_eq_some_iff.1 h).1
  unfold lowTo
  rw [List.getElem?_append_right (by simp; omega)]
  simp only [List.length_map, List.length_take]
  rw [Nat.min_eq_left (by omega), Nat.sub_self, List.getElem?_drop, Nat.add_zero, h]
theorem lowTo_step {l : List UInt8} {k : Nat} {c : UInt8} (h : l[k]? = some c) : (lowTo l k).set k (lowB c) = lowTo l (k + 1) := by
  have hk := (List.getElem?_eq_some_iff.1 h).1
  unfold lowTo
  rw [List.set_append_right _ _ (by rw [List.length_map, List.length_take]; exact Nat.min_le_left _ _), List.length_map, List.length_take, Nat.min_eq_left (by omega), Nat.sub_self, List.drop_eq_getElem_cons hk, List.set_cons_zero, List.take_add_one, h]
  simp
theorem lowTo_same {l : List UInt8} {k : Nat} {c : UInt8} (h : l[k]? = some c) (hc : lowB c = c) : lowTo l (k + 1) = lowTo l k := by
  rw [← lowTo_step h, hc]
  have h1 := lowTo_at h
  exact List.ext_getElem? (fun i => by
    rw [List.getElem?_set]
    by_cases hi : k = i
    · subst hi; rw [if_pos rfl, if_pos (List.getElem?_eq_some_iff.1 h1).1, h1]
    · rw [if_neg hi])

def LoRel (g n : Nat) (l : List UInt8) (w : World) (i : Value) (wr : World) : Prop :=
  ∃ k : Nat, i = .int .i64 k ∧ k ≤ n ∧ RowZ g (lowTo l k) wr ∧ Fr (· < w.heap.size) w wr

set_option maxHeartbeats 4000000 in
set_option maxRecDepth 100000 in
theorem lower_any (s : ByteArray) (w : World) (hs : s.size ≤ maxLen) :
    Calls Tryz.prog 50 #[.string s] w fun x w' => x = .returned (.string ⟨(lowerL s.data.toList).toArray⟩) ∧ Below w.heap.size w w' := by
  obtain ⟨c, w2, hrun, hc1, hc2, hf, hr⟩ := conv_rowz w s hs
  obtain ⟨n, hn⟩ : ∃ n, s.size = n := ⟨_, rfl⟩
  have hl : s.data.toList.length = n := by rw [Array.length_toList]; exact hn
  rw [hn] at hrun hc1
  have hmx : n ≤ 9223372036854775807 := by omega
  have HRUN := Lib.hid hrun; have HF := Lib.hid hf
  have HR := Lib.hid (show RowZ w.heap.size (lowTo s.data.toList 0) w2 by rw [lowTo_zero]; exact hr)
  clear hrun hf hr hn
  obtain ⟨l, hll⟩ : ∃ l, s.data.toList = l := ⟨_, rfl⟩
  rw [hll] at hl HR ⊢
  clear hll
  obtain ⟨g, hg⟩ : ∃ g, w.heap.size = g := ⟨_, rfl⟩
  have HG := Lib.hid hg
  rw [hg] at HRUN HR
  clear hg
  go_enter Tryz.func50, Tryz.ntmps50
  go_wp2_with fail
  rw [HRUN.out]; simp only [Result.andThen]; rw [Oper.upon_value]
  go_wp2
  go_loopw [10] (fun i wr => LoRel g n l w i wr) (fun i _ => n - (intOf i).toNat)
  case atStart => exact ⟨0, rfl, Nat.zero_le _, HR.out, HF.out⟩
  case round =>
    obtain ⟨k, rfl, hk, hr, hf⟩ := hrel
    have HR2 := Lib.hid hr; have HF2 := Lib.hid hf
    clear hr hf HR HF
    by_cases hlt : k < n
    · obtain ⟨c0, hc0⟩ : ∃ c0, l[k]? = some c0 := ⟨_, List.getElem?_eq_getElem (by omega)⟩
      have hcl := HR2.out.cell (lowTo_at hc0)
      have hfz := HR2.out.frozen (j := k) (by rw [lowTo_length]; omega)
      have hct := c0.toNat_lt
      have i1 : (k : Int) < (n : Int) := by omega
      by_cases h1 : 65 ≤ c0.toNat
      · have d1 : decide ((65 : Int) ≤ (c0.toNat : Int)) = true := decide_eq_true (by omega)
        have z1 : (65 : Int) ≤ (c0.toNat : Int) := by omega
        by_cases h2 : c0.toNat ≤ 90
        · have d2 : decide ((c0.toNat : Int) ≤ 90) = true := decide_eq_true (by omega)
          have z2 : (c0.toNat : Int) ≤ 90 := by omega
          have h5 := HR2.out.set k (lowB c0)
          rw [lowTo_step hc0, lowB_up h1 h2] at h5
          have HR5 := Lib.hid h5
          have HF5 := Lib.hid (HF2.out.setCell (p := ⟨g, k, none⟩) (fun h => Nat.lt_irrefl g (HG.out ▸ h)) (.int .u8 ((c0.toNat : Int) + 32)))
          clear h5 HR2
          go_wp2
          go_roundw
          case rel => exact ⟨k + 1, by go_num, by omega, HR5.out, HF5.out⟩
          case measure => simp [intOf]; omega
        · have d2 : decide ((c0.toNat : Int) ≤ 90) = false := decide_eq_false (by omega)
          have z2 : ¬ (c0.toNat : Int) ≤ 90 := by omega
          have HR5 := Lib.hid (show RowZ g (lowTo l (k + 1)) wr by rw [lowTo_same hc0 (lowB_id (by omega))]; exact HR2.out)
          go_wp2
          go_roundw
          case rel => exact ⟨k + 1, by go_num, by omega, HR5.out, HF2.out⟩
          case measure => simp [intOf]; omega
      · have d1 : decide ((65 : Int) ≤ (c0.toNat : Int)) = false := decide_eq_false (by omega)
        have z1 : ¬ (65 : Int) ≤ (c0.toNat : Int) := by omega
        have HR5 := Lib.hid (show RowZ g (lowTo l (k + 1)) wr by rw [lowTo_same hc0 (lowB_id (by omega))]; exact HR2.out)
        go_wp2
        go_roundw
        case rel => exact ⟨k + 1, by go_num, by omega, HR5.out, HF2.out⟩
        case measure => simp [intOf]; omega
    · obtain rfl : k = l.length := by omega
      have i1 : ¬ (l.length : Int) < (n : Int) := by omega
      have hback := run_convert_bytes_back (P := Tryz.prog) wr 79 9 5 ⟨g, 0, none⟩ c (lowerL l) Tryz.underlying79 Tryz.underlying5 Tryz.underlying9 (fun j hj => by
        have h6 := HR2.out.cell (j := j) (x := (lowerL l)[j]) (by rw [lowTo_all]; exact List.getElem?_eq_getElem hj)
        rw [addr_add, Nat.zero_add]; exact h6)
      rw [show (lowerL l).length = n by unfold lowerL; rw [List.length_map]; exact hl] at hback
      have HBACK := Lib.hid hback
      clear hback
      go_wp2_with fail
      rw [HBACK.out]; simp only [Result.andThen]; rw [Oper.upon_value]
      go_wp2
      go_ret
      exact ⟨rfl, HF2.out.below⟩
end Go.Proofs.YtmcjmmcamelmcaaGreatDoor
