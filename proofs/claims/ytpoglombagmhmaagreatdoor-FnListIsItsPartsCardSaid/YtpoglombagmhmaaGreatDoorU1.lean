/- spec.Marked, spec.hex: the walks. -/
import Derived.Test.YtpoglombagmhmaaGreatDoorS4
import Derived.BigQuiet
namespace Go.Proofs.YtpoglombagmhmaaGreatDoor
open Go Go.RowKit

theorem markedL_two (a b : UInt8) (t : List UInt8) : markedL (a :: b :: t) = ((a == 61 && b == 63) || (a == 63 && b == 61) || markedL (b :: t)) := by rw [markedL]
theorem markedL_short {l : List UInt8} (h : l.length ≤ 1) : markedL l = false := by
  match l, h with
  | [], _ => rfl
  | [_], _ => rfl
theorem ceq {c x : UInt8} (h : c = x) : ((c.toNat : Int) == (x.toNat : Int)) = true := by rw [h]; simp

set_option maxHeartbeats 1000000 in
set_option maxRecDepth 100000 in
theorem Marked_any (s : ByteArray) (w : World) (hs : s.size ≤ 9223372036854775807) :
    Calls Tryz.prog 8 #[.string s] w fun x w' => x = .returned (.bool (markedL s.data.toList)) ∧ w = w' := by
  go_enter Tryz.func8, Tryz.ntmps8
  go_wp2
  go_loop [2, 3] (fun r i => r = .bool false ∧ ∃ k : Nat, k ≤ s.size ∧ i = .int .i64 ((k + 1 : Nat) : Int) ∧ markedL s.data.toList = markedL (s.data.toList.drop k)) (fun _ i => s.size + 1 - (intOf i).toNat)
  case atStart => exact ⟨rfl, 0, Nat.zero_le _, rfl, rfl⟩
  case round =>
    obtain ⟨rfl, k, hk, rfl, heq⟩ := hrel
    by_cases hlt : k + 1 < s.size
    · have h0 : k < s.size := by omega
      rw [drop_at s k h0, drop_at s (k + 1) hlt, markedL_two] at heq
      obtain ⟨a, ha⟩ : ∃ a, s[k] = a := ⟨_, rfl⟩
      obtain ⟨b, hb⟩ : ∃ b, s[k + 1] = b := ⟨_, rfl⟩
      rw [ha, hb] at heq
      have hd : b :: s.data.toList.drop (k + 1 + 1) = s.data.toList.drop (k + 1) := by rw [drop_at s (k + 1) hlt, hb]
      rw [hd] at heq
      have HEQ := Lib.hid heq
      clear heq hd
      have hca : (a = 61 ∧ ((a.toNat : Int) == 61) = true ∧ ((a.toNat : Int) == 63) = false) ∨ (a = 63 ∧ ((a.toNat : Int) == 61) = false ∧ ((a.toNat : Int) == 63) = true) ∨ (a ≠ 61 ∧ a ≠ 63 ∧ ((a.toNat : Int) == 61) = false ∧ ((a.toNat : Int) == 63) = false) := by
        by_cases h1 : a = 61
        · exact .inl ⟨h1, ceq h1, by rw [h1]; rfl⟩
        · by_cases h2 : a = 63
          · exact .inr (.inl ⟨h2, cneq h1, ceq h2⟩)
          · exact .inr (.inr ⟨h1, h2, cneq h1, cneq h2⟩)
      have hcb : (b = 61 ∧ ((b.toNat : Int) == 61) = true ∧ ((b.toNat : Int) == 63) = false) ∨ (b = 63 ∧ ((b.toNat : Int) == 61) = false ∧ ((b.toNat : Int) == 63) = true) ∨ (b ≠ 61 ∧ b ≠ 63 ∧ ((b.toNat : Int) == 61) = false ∧ ((b.toNat : Int) == 63) = false) := by
        by_cases h1 : b = 61
        · exact .inl ⟨h1, ceq h1, by rw [h1]; rfl⟩
        · by_cases h2 : b = 63
          · exact .inr (.inl ⟨h2, cneq h1, ceq h2⟩)
          · exact .inr (.inr ⟨h1, h2, cneq h1, cneq h2⟩)
      have hmk : (((a == 61 && b == 63) || (a == 63 && b == 61)) = true ∧ (((a.toNat : Int) == 61) = true ∧ ((a.toNat : Int) == 63) = false ∧ ((b.toNat : Int) == 63) = true ∨ ((a.toNat : Int) == 61) = false ∧ ((a.toNat : Int) == 63) = true ∧ ((b.toNat : Int) == 61) = true)) ∨
          (((a == 61 && b == 63) || (a == 63 && b == 61)) = false ∧ (((a.toNat : Int) == 61) = true ∧ ((a.toNat : Int) == 63) = false ∧ ((b.toNat : Int) == 63) = false ∨ ((a.toNat : Int) == 61) = false ∧ ((a.toNat : Int) == 63) = true ∧ ((b.toNat : Int) == 61) = false ∨ ((a.toNat : Int) == 61) = false ∧ ((a.toNat : Int) == 63) = false)) := by
        rcases hca with ⟨rfl, a1, a2⟩ | ⟨rfl, a1, a2⟩ | ⟨x1, x2, a1, a2⟩
        · rcases hcb with ⟨rfl, b1, b2⟩ | ⟨rfl, b1, b2⟩ | ⟨y1, y2, b1, b2⟩
          · exact .inr ⟨rfl, .inl ⟨a1, a2, b2⟩⟩
          · exact .inl ⟨rfl, .inl ⟨a1, a2, b2⟩⟩
          · exact .inr ⟨by simp [y2], .inl ⟨a1, a2, b2⟩⟩
        · rcases hcb with ⟨rfl, b1, b2⟩ | ⟨rfl, b1, b2⟩ | ⟨y1, y2, b1, b2⟩
          · exact .inl ⟨rfl, .inr ⟨a1, a2, b1⟩⟩
          · exact .inr ⟨rfl, .inr (.inl ⟨a1, a2, b1⟩)⟩
          · exact .inr ⟨by simp [y1], .inr (.inl ⟨a1, a2, b1⟩)⟩
        · exact .inr ⟨by simp [x1, x2], .inr (.inr ⟨a1, a2⟩)⟩
      clear hca hcb
      rcases hmk with ⟨hm, h⟩ | ⟨hm, h⟩
      · have HM := Lib.hid hm
        clear hm
        rcases h with ⟨a1, a2, b1⟩ | ⟨a1, a2, b1⟩
        all_goals
          go_wp2
          go_ret
          exact ⟨ret_bool (by rw [HEQ.out, HM.out]; rfl), rfl⟩
      · have HM := Lib.hid hm
        clear hm
        rcases h with ⟨a1, a2, b1⟩ | ⟨a1, a2, b1⟩ | ⟨a1, a2⟩
        all_goals
          go_wp2
          go_round
          case rel => exact ⟨by first | rfl | trivial, k + 1, by omega, by go_num, by rw [HEQ.out, HM.out]; rfl⟩
          case measure => simp [intOf]; omega
    · rw [markedL_short (l := s.data.toList.drop k) (by simp; omega)] at heq
      have HEQ := Lib.hid heq
      clear heq
      go_wp2
      go_ret
      exact ⟨ret_bool (by rw [HEQ.out]), rfl⟩

/-- A hexadecimal digit as a number; -1: none. -/
def hexI (c : UInt8) : Int := match hexV c with | some n => n | none => -1
theorem hexI_some {c : UInt8} {n : Nat} (h : hexV c = some n) : hexI c = n := by unfold hexI; rw [h]
theorem hexI_none {c : UInt8} (h : hexV c = none) : hexI c = -1 := by unfold hexI; rw [h]
theorem hexV_lt {c : UInt8} {n : Nat} (h : hexV c = some n) : n < 16 := by
  unfold hexV at h
  split at h
  · cases h; omega
  · split at h
    · cases h; omega
    · cases h
set_option maxRecDepth 100000 in
theorem hex_any (c : UInt8) (w : World) : Calls Tryz.prog 67 #[.int .u8 c.toNat] w fun x w' => x = .returned (.int .i64 (hexI c)) ∧ w' = w := by
  have hlt := c.toNat_lt
  have hc : (48 ≤ c.toNat ∧ c.toNat ≤ 57) ∨ (65 ≤ c.toNat ∧ c.toNat ≤ 70) ∨ (c.toNat < 48 ∨ 57 < c.toNat ∧ c.toNat < 65 ∨ 70 < c.toNat) := by omega
  rcases hc with ⟨h1, h2⟩ | ⟨h1, h2⟩ | h
  · have hv : hexI c = ((c.toNat - 48 : Nat) : Int) := hexI_some (by unfold hexV; rw [if_pos ⟨h1, h2⟩])
    have e : ((c.toNat - 48 : Nat) : Int) = (c.toNat : Int) - 48 := by omega
    have HV := Lib.hid (hv.trans e)
    have i1 : (48 : Int) ≤ (c.toNat : Int) := by omega
    have i2 : (c.toNat : Int) ≤ 57 := by omega
    clear hv e
    go_enter Tryz.func67, Tryz.ntmps67
    go_wp2
    go_ret
    exact ⟨ret_int (by rw [HV.out]), by first | rfl | trivial⟩
  · have hv : hexI c = ((c.toNat - 55 : Nat) : Int) := hexI_some (by unfold hexV; rw [if_neg (by omega), if_pos ⟨h1, h2⟩])
    have e : ((c.toNat - 55 : Nat) : Int) = (c.toNat : Int) - 65 + 10 := by omega
    have HV := Lib.hid (hv.trans e)
    have i1 : (65 : Int) ≤ (c.toNat : Int) := by omega
    have i2 : (c.toNat : Int) ≤ 70 := by omega
    have i3 : (48 : Int) ≤ (c.toNat : Int) := by omega
    have i4 : ¬ (c.toNat : Int) ≤ 57 := by omega
    clear hv e
    go_enter Tryz.func67, Tryz.ntmps67
    go_wp2
    go_ret
    exact ⟨ret_int (by rw [HV.out]), by first | rfl | trivial⟩
  · have HV := Lib.hid (hexI_none (c := c) (by unfold hexV; rw [if_neg (by omega), if_neg (by omega)]))
    have hcs : (¬ (48 : Int) ≤ (c.toNat : Int) ∧ ¬ (65 : Int) ≤ (c.toNat : Int)) ∨ ((48 : Int) ≤ (c.toNat : Int) ∧ ¬ (c.toNat : Int) ≤ 57 ∧ ¬ (65 : Int) ≤ (c.toNat : Int)) ∨ ((48 : Int) ≤ (c.toNat : Int) ∧ ¬ (c.toNat : Int) ≤ 57 ∧ (65 : Int) ≤ (c.toNat : Int) ∧ ¬ (c.toNat : Int) ≤ 70) := by omega
    clear h
    rcases hcs with ⟨a, b⟩ | ⟨a, b, d⟩ | ⟨a, b, d, f⟩
    all_goals
      go_enter Tryz.func67, Tryz.ntmps67
      go_wp2
      go_ret
      exact ⟨ret_int (by rw [HV.out]), by first | rfl | trivial⟩
end Go.Proofs.YtpoglombagmhmaaGreatDoor
