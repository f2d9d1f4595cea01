/- zzIndex: the walk. -/
import Derived.Test.YtpoglombagmhmaaGreatDoorPu
import Derived.Test.YtpoglombagmhmaaGreatDoorBld
import Derived.Deep.OwnRows
namespace Go.Proofs.YtpoglombagmhmaaGreatDoor
open Go Go.RowKit

/-- The word p begins at k. -/
def Hit (p s : List UInt8) (k : Nat) : Prop := (s.drop k).take p.length = p
/-- The first place at which p begins; -1 where there is none. -/
def FirstAt (p s : List UInt8) (r : Int) : Prop :=
  (∃ k : Nat, r = k ∧ k + p.length ≤ s.length ∧ Hit p s k ∧ ∀ j, j < k → ¬ Hit p s j) ∨ (r = -1 ∧ ∀ j, j + p.length ≤ s.length → ¬ Hit p s j)

theorem tl_eq (b : ByteArray) : b.toList = b.data.toList := by
  exact ByteArray.toList_eq b
set_option maxRecDepth 100000 in
theorem zzIndex_any (s p : ByteArray) (w : World) (hs : s.size ≤ 140737488355328) (hp : p.size ≤ 1048576) :
    Calls Tryz.prog 105 #[.string s, .string p] w fun x w' => (∃ r, x = .returned (.int .i64 r) ∧ FirstAt p.data.toList s.data.toList r) ∧ w = w' := by
  obtain ⟨m, hm⟩ : ∃ m, p.size = m := ⟨_, rfl⟩
  go_enter Tryz.func105, Tryz.ntmps105
  go_wp2
  go_loopw [4, 5] (fun r i wr => r = .int .i64 0 ∧ wr = w ∧ ∃ k : Nat, i = .int .i64 k ∧ k ≤ s.size + 1 ∧ ∀ j, j < k → ¬ Hit p.data.toList s.data.toList j) (fun _ i _ => s.size + 1 - (intOf i).toNat)
  case atStart => exact ⟨rfl, rfl, 0, rfl, Nat.zero_le _, fun j h => absurd h (Nat.not_lt_zero j)⟩
  case round =>
    obtain ⟨rfl, rfl, k, rfl, hk, hno⟩ := hrel
    have HNO := Lib.hid hno
    clear hno
    by_cases hlt : k + m ≤ s.size
    · have i1 : (k : Int) + (m : Int) ≤ (s.size : Int) := by omega
      have hz : p.data.toList.length = m := by rw [Array.length_toList]; exact hm
      have hzs : s.data.toList.length = s.size := Array.length_toList
      have hit : ((s.extract k (k + m)).toList == p.toList) = true ↔ Hit p.data.toList s.data.toList k := by
        rw [beq_iff_eq, tl_eq, tl_eq, extract_list]; unfold Hit; rw [hz]
      have HZ := Lib.hid hz; have HZS := Lib.hid hzs
      clear hz hzs
      cases hb : ((s.extract k (k + m)).toList == p.toList) with
      | true =>
        rw [hb] at hit
        have HIT := Lib.hid hit
        clear hit
        go_wp2_with fail
        go_ret
        exact ⟨⟨_, rfl, .inl ⟨k, rfl, by rw [HZ.out, HZS.out]; exact hlt, HIT.out.1 (by first | trivial | rfl), HNO.out⟩⟩, rfl⟩
      | false =>
        rw [hb] at hit
        have HIT := Lib.hid hit
        clear hit
        go_wp2
        go_roundw
        case rel =>
          refine ⟨rfl, by first | trivial | rfl, k + 1, by go_num, by omega, fun j hj => ?_⟩
          rcases Nat.lt_succ_iff_lt_or_eq.1 hj with h | rfl
          · exact HNO.out j h
          · intro h; have h2 := HIT.out.2 h; first | exact h2 | (simp at h2; done)
        case measure => simp [intOf]; omega
    · have i1 : ¬ (k : Int) + (m : Int) ≤ (s.size : Int) := by omega
      go_wp2
      go_ret
      refine ⟨⟨_, rfl, .inr ⟨rfl, fun j hj => ?_⟩⟩, rfl⟩
      have hz : p.data.toList.length = m := by rw [Array.length_toList]; exact hm
      have hzs : s.data.toList.length = s.size := Array.length_toList
      exact HNO.out j (by omega)
end Go.Proofs.YtpoglombagmhmaaGreatDoor
/- fromHex, readHexByte: the walks, on great digits. -/
namespace Go.Proofs.YtpoglombagmhmaaGreatDoor
open Go Go.RowKit

theorem fromHex_up (n : Nat) (hn : n < 16) (w : World) : Calls Tryz.prog 139 #[.int .u8 (hexU n).toNat] w fun x w' => x = .returned (.tuple #[.int .u8 n, .nilIface]) ∧ w = w' := by
  by_cases h : n < 10
  · have e : (hexU n).toNat = 48 + n := by unfold hexU; rw [if_pos h]; simp; omega
    rw [e]
    push_cast
    have i1 : (48 : Int) ≤ 48 + (n : Int) := by omega
    have i2 : 48 + (n : Int) ≤ 57 := by omega
    go_enter Tryz.func139, Tryz.ntmps139
    go_wp2
    go_ret2
    exact ⟨by go_num, rfl⟩
  · have e : (hexU n).toNat = 55 + n := by unfold hexU; rw [if_neg h]; simp; omega
    rw [e]
    push_cast
    have i1 : (48 : Int) ≤ 55 + (n : Int) := by omega
    have i2 : ¬ 55 + (n : Int) ≤ 57 := by omega
    have i3 : (65 : Int) ≤ 55 + (n : Int) := by omega
    have i4 : 55 + (n : Int) ≤ 70 := by omega
    go_enter Tryz.func139, Tryz.ntmps139
    go_wp2
    go_ret2
    exact ⟨by go_num, rfl⟩

theorem readHexByte_up (a b : Nat) (ha : a < 16) (hb : b < 16) (w : World) : Calls Tryz.prog 125 #[.int .u8 (hexU a).toNat, .int .u8 (hexU b).toNat] w fun x w' => x = .returned (.tuple #[.int .u8 ((16 * a + b : Nat) : Int), .nilIface]) ∧ w = w' := by
  go_enter Tryz.func125, Tryz.ntmps125
  go_wp2_with fail
  refine (fromHex_up a ha _).mono ?_
  rintro x w1 ⟨rfl, rfl⟩
  go_wp2_with fail
  refine (fromHex_up b hb _).mono ?_
  rintro x w1 ⟨rfl, rfl⟩
  go_wp2
  go_ret2
  refine ⟨?_, rfl⟩
  have e := u8_or_nat (a * 16) b (by omega) (by omega)
  have e2 : a * 16 ||| b = a * 16 + b := or_shift a b 4 (by omega)
  rw [e2] at e
  push_cast at e
  rw [e, Int.mul_comm]
  push_cast
  rfl
end Go.Proofs.YtpoglombagmhmaaGreatDoor
/- A row of bytes in a block of its own. -/
namespace Go.Proofs.YtpoglombagmhmaaGreatDoor
open Go Go.RowKit

def Row (g : Nat) (l : List UInt8) (w : World) : Prop :=
  ∃ cs : Array Value, w.heap[g]? = some (.cells cs 5 (0, 0)) ∧ cs.size = l.length ∧ ∀ (j : Nat) (x : UInt8), l[j]? = some x → cs[j]? = some (Value.int .u8 x.toNat)
theorem Row.cell {g : Nat} {l : List UInt8} {w : World} (h : Row g l w) {j : Nat} {x : UInt8} (hx : l[j]? = some x) : w.cell? ⟨g, j, none⟩ = some (.int .u8 x.toNat) := by
  obtain ⟨cs, hb, _, hc⟩ := h
  rw [Lib.cell_of_heap hb]; exact hc j x hx
theorem Row.frozen {g : Nat} {l : List UInt8} {w : World} (h : Row g l w) (j : Nat) : w.frozen? ⟨g, j, none⟩ = false := by
  obtain ⟨cs, hb, _, hc⟩ := h
  exact Lib.frozen_of_heap hb j
theorem Row.lt {g : Nat} {l : List UInt8} {w : World} (h : Row g l w) : g < w.heap.size := by
  obtain ⟨cs, hb, _⟩ := h
  exact (Array.getElem?_eq_some_iff.1 hb).1
theorem Row.kept {g : Nat} {l : List UInt8} {w w' : World} (h : Row g l w) (hk : w'.heap[g]? = w.heap[g]?) : Row g l w' := by
  obtain ⟨cs, hb, hc⟩ := h
  exact ⟨cs, hk.trans hb, hc⟩
theorem Row.set {g : Nat} {l : List UInt8} {w : World} (h : Row g l w) (j : Nat) (x : UInt8) : Row g (l.set j x) (w.setCell ⟨g, j, none⟩ (.int .u8 x.toNat)) := by
  obtain ⟨cs, hb, hs, hc⟩ := h
  refine ⟨cs.setIfInBounds j (.int .u8 x.toNat), heap_setCell_row hb, by simp [hs], fun i y hy => ?_⟩
  rw [List.getElem?_set] at hy
  rw [Array.getElem?_setIfInBounds]
  by_cases hij : j = i
  · subst hij
    rw [if_pos rfl] at hy ⊢
    split at hy
    · rename_i hlt
      simp only [Option.some.injEq] at hy
      subst hy
      rw [if_pos (by rw [hs]; exact hlt)]
    · cases hy
  · rw [if_neg hij] at hy ⊢
    exact hc i y hy
theorem Row.make (w : World) (n : Nat) : Row w.heap.size (List.replicate n 0) (w.alloc (.cells (madeCells #[.int .u8 0] n) 5)) := by
  refine ⟨_, heap_alloc_new w _, by rw [size_madeCells, List.length_replicate], fun j x hx => ?_⟩
  rw [List.getElem?_replicate] at hx
  split at hx
  · rename_i hlt
    simp only [Option.some.injEq] at hx
    subst hx
    simp [madeCells, hlt, Nat.mod_one]
  · cases hx

/-- 'make([]byte, n)'. -/
theorem make_bytes (n : Nat) (hn : n ≤ 140737488355328) (w : World) : (Instr.makeSlice 60 (.int .i64 n) (.int .i64 n)).run Tryz.prog w = .ok (.slice (some ⟨w.heap.size, 0, none⟩) n n) (w.alloc (.cells (madeCells #[.int .u8 0] n) 5)) :=
  run_make_row' (P := Tryz.prog) 60 5 (.int .u8 0) 1 (by kernel_rfl) infoByte rfl .i64 .i64 n (by omega) (by omega) w
/-- '[]byte(s)': a new row with the bytes, nothing else turned. -/
theorem conv_bytes (w : World) (s : ByteArray) (hs : s.size ≤ maxLen) : ∃ c w', (convert 9 60 (.string s)).run Tryz.prog w = .ok (.slice (some ⟨w.heap.size, 0, none⟩) s.size c) w' ∧ s.size ≤ c ∧ c ≤ 9223372036854775807 ∧ w'.heap.size = w.heap.size + 1 ∧ Fr (· < w.heap.size) w w' ∧
    (∀ j x, s.data.toList[j]? = some x → w'.cell? ⟨w.heap.size, 0 + j, none⟩ = some (.int .u8 x.toNat)) := by
  refine ⟨_, _, Lib.run_convert_string_bytes w 9 60 5 s (u := .string) (by kernel_rfl) (by kernel_rfl) (by kernel_rfl), grownCap_ge _ _ _ _, grownCap_le_maxLen _ _ _ _ hs, Lib.bytesWorld_size _ _ _, ?_, ?_⟩
  · unfold Lib.bytesWorld
    exact (((Fr.refl _ w).drew.alloc (fun k hk => hk) _).freeze (Nat.lt_irrefl _) _)
  · intro j x hx
    have hj : j < s.size := (List.getElem?_eq_some_iff.1 hx).1
    rw [Nat.zero_add, Lib.bytesWorld_cell w _ s j hj, List.getD_eq_getElem?_getD, hx]; rfl
end Go.Proofs.YtpoglombagmhmaaGreatDoor
