/- Walks of small functions over strings: laws.plain, spec.IsAtom. -/
import Derived.Test.YtciejdaifjbjdaaDoorProg
import Derived.WalkKit
import Derived.BigCall
import Derived.BigQuiet
import Derived.Deep.QuietTactic
import Derived.LoopTactic
import Derived.Below
import Derived.Lib.Hide
import Derived.Outline
import Derived.WalkLawsBesides
namespace Go.Proofs.YtciejdaifjbjdaaDoor
open Go Go.RowKit

/-- A byte as the walk tests it. -/
def plainB (c : UInt8) : Bool := decide ((32 ≤ c.toNat ∧ c.toNat ≤ 126) ∨ c.toNat = 9)
def plainL (l : List UInt8) : Bool := l.all plainB

theorem take_snoc (s : ByteArray) (k : Nat) (h : k < s.size) : s.data.toList.take (k + 1) = s.data.toList.take k ++ [s[k]] := by
  rw [List.take_succ_eq_append_getElem (by simpa using h)]; rfl
theorem all_take_succ (p : UInt8 → Bool) (s : ByteArray) (k : Nat) (h : k < s.size) (hp : (s.data.toList.take k).all p = true) (hc : p s[k] = true) : (s.data.toList.take (k + 1)).all p = true := by
  rw [take_snoc s k h, List.all_append, hp]; simp [hc]
theorem all_not (p : UInt8 → Bool) (s : ByteArray) (k : Nat) (h : k < s.size) (hc : p s[k] = false) : s.data.toList.all p = false := by
  rw [List.all_eq_false]; exact ⟨s[k], by simp [ByteArray.getElem_eq_getElem_data], by simp [hc]⟩
theorem all_whole (p : UInt8 → Bool) (s : ByteArray) (k : Nat) (h : ¬ k < s.size) (hp : (s.data.toList.take k).all p = true) : s.data.toList.all p = true := by
  rwa [List.take_of_length_le (by simpa using h)] at hp
theorem ret_bool {a b : Bool} (h : a = b) : Ending.returned (.bool a) = .returned (.bool b) := by rw [h]
theorem ret_int {k : IntKind} {a b : Int} (h : a = b) : Ending.returned (.int k a) = .returned (.int k b) := by rw [h]

set_option maxHeartbeats 400000 in
theorem plain_any (s : ByteArray) (w : World) (hs : s.size ≤ 9223372036854775807) :
    Calls Tryd.prog 8 #[.string s] w fun e w' => e = .returned (.bool (plainL s.data.toList)) ∧ w = w' := by
  go_enter Tryd.func8, Tryd.ntmps8
  go_wp2
  go_loop [6] (fun i => ∃ k : Nat, k ≤ s.size ∧ i = .int .i64 k ∧ plainL (s.data.toList.take k) = true) (fun i => s.size - (intOf i).toNat)
  case atStart => exact ⟨0, Nat.zero_le _, rfl, rfl⟩
  case round =>
    obtain ⟨k, hk, rfl, hp⟩ := hrel
    by_cases hlt : k < s.size
    · by_cases hc : plainB s[k] = true
      · have hp1 := all_take_succ plainB s k hlt hp hc
        have HP := Lib.hid hp1
        clear hp hp1
        have hcases : (32 ≤ s[k].toNat ∧ s[k].toNat ≤ 126) ∨ s[k].toNat = 9 := of_decide_eq_true hc
        rcases hcases with ⟨h1, h2⟩ | h1
        · have h3 : ¬ (s[k].toNat : Int) < 32 := by omega
          have h4 : ¬ (126 : Int) < (s[k].toNat : Int) := by omega
          go_wp2
          go_round
          case rel => exact ⟨k + 1, by omega, by go_num, HP.out⟩
          case measure => simp [intOf]; omega
        · have h3 : (s[k].toNat : Int) < 32 := by omega
          have h4 : ((s[k].toNat : Int) != 9) = false := by rw [bne_eq_false_iff_eq]; omega
          go_wp2
          go_round
          case rel => exact ⟨k + 1, by omega, by go_num, HP.out⟩
          case measure => simp [intOf]; omega
      · have hc' : plainB s[k] = false := by simpa using hc
        have HF := Lib.hid (all_not plainB s k hlt hc')
        have hcases : ¬ ((32 ≤ s[k].toNat ∧ s[k].toNat ≤ 126) ∨ s[k].toNat = 9) := of_decide_eq_false hc'
        have h9 : ((s[k].toNat : Int) != 9) = true := by rw [bne_iff_ne]; omega
        clear hc hc'
        by_cases h1 : (s[k].toNat : Int) < 32
        · go_wp2
          go_ret
          exact ⟨ret_bool (Eq.symm HF.out), rfl⟩
        · have h2 : (126 : Int) < (s[k].toNat : Int) := by omega
          go_wp2
          go_ret
          exact ⟨ret_bool (Eq.symm HF.out), rfl⟩
    · go_wp2
      go_ret
      exact ⟨ret_bool (Eq.symm (all_whole plainB s k hlt hp)), rfl⟩
end Go.Proofs.YtciejdaifjbjdaaDoor
