/- zzIndex: the walk. -/
import Derived.Test.YtciejdaifjbjdaaDoorEnc6
namespace Go.Proofs.YtciejdaifjbjdaaDoor
open Go Go.RowKit

/-- The word p begins at k. -/
def Hit (p s : List UInt8) (k : Nat) : Prop := (s.drop k).take p.length = p
/-- The first place at which p begins; -1 where there is none. -/
def FirstAt (p s : List UInt8) (r : Int) : Prop :=
  (∃ k : Nat, r = k ∧ k + p.length ≤ s.length ∧ Hit p s k ∧ ∀ j, j < k → ¬ Hit p s j) ∨ (r = -1 ∧ ∀ j, j + p.length ≤ s.length → ¬ Hit p s j)

theorem tl_eq (b : ByteArray) : b.toList = b.data.toList := by
  exact ByteArray.toList_eq b
theorem zzIndex_any (s p : ByteArray) (w : World) (hs : s.size ≤ 140737488355328) (hp : p.size ≤ 1048576) :
    Calls Tryd.prog 35 #[.string s, .string p] w fun x w' => (∃ r, x = .returned (.int .i64 r) ∧ FirstAt p.data.toList s.data.toList r) ∧ w = w' := by
  obtain ⟨m, hm⟩ : ∃ m, p.size = m := ⟨_, rfl⟩
  go_enter Tryd.func35, Tryd.ntmps35
  go_wp2
  go_loopw [4, 5] (fun r i wr => r = .int .i64 0 ∧ wr = w ∧ ∃ k : Nat, i = .int .i64 k ∧ k ≤ s.size + 1 ∧ ∀ j, j < k → ¬ Hit p.data.toList s.data.toList j) (fun _ i _ => s.size + 1 - (intOf i).toNat)
  case atStart => exact ⟨rfl, rfl, 0, rfl, Nat.zero_le _, fun j h => absurd h (Nat.not_lt_zero j)⟩
  case round =>
    obtain ⟨rfl, rfl, k, rfl, hk, hno⟩ := hrel
    have HNO := Lib.hid hno
    clear hno
    by_cases hlt : k + m ≤ s.size
    · have i1 : (k : Int) + (m : Int) ≤ (s.size : Int) := by omega
      have hz : p.data.toList.length = m := by rw [Array.length_toList]; exact hm
      have hzs : s.data.toList.length = s.size := Array.length_toList
      have hit : ((s.extract k (k + m)).toList == p.toList) = true ↔ Hit p.data.toList s.data.toList k := by
        rw [beq_iff_eq, tl_eq, tl_eq, extract_list]; unfold Hit; rw [hz]
      have HZ := Lib.hid hz; have HZS := Lib.hid hzs
      clear hz hzs
      cases hb : ((s.extract k (k + m)).toList == p.toList) with
      | true =>
        rw [hb] at hit
        have HIT := Lib.hid hit
        clear hit
        go_wp2_with fail
        go_ret
        exact ⟨⟨_, rfl, .inl ⟨k, rfl, by rw [HZ.out, HZS.out]; exact hlt, HIT.out.1 (by first | trivial | rfl), HNO.out⟩⟩, rfl⟩
      | false =>
        rw [hb] at hit
        have HIT := Lib.hid hit
        clear hit
        go_wp2
        go_roundw
        case rel =>
          refine ⟨rfl, by first | trivial | rfl, k + 1, by go_num, by omega, fun j hj => ?_⟩
          rcases Nat.lt_succ_iff_lt_or_eq.1 hj with h | rfl
          · exact HNO.out j h
          · intro h; have h2 := HIT.out.2 h; first | exact h2 | (simp at h2; done)
        case measure => simp [intOf]; omega
    · have i1 : ¬ (k : Int) + (m : Int) ≤ (s.size : Int) := by omega
      go_wp2
      go_ret
      refine ⟨⟨_, rfl, .inr ⟨rfl, fun j hj => ?_⟩⟩, rfl⟩
      have hz : p.data.toList.length = m := by rw [Array.length_toList]; exact hm
      have hzs : s.data.toList.length = s.size := Array.length_toList
      exact HNO.out j (by omega)
end Go.Proofs.YtciejdaifjbjdaaDoor
