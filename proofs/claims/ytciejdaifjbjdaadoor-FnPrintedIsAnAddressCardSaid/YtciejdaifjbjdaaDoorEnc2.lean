/- writeQString: the walk. -/
import Derived.Test.YtciejdaifjbjdaaDoorEnc1
import Derived.Test.YtciejdaifjbjdaaDoorUtf
import Derived.LoopN
namespace Go.Proofs.YtciejdaifjbjdaaDoor
open Go Go.RowKit

theorem hexTab_get (n : Nat) (h : n < 16) : (⟨#[48, 49, 50, 51, 52, 53, 54, 55, 56, 57, 65, 66, 67, 68, 69, 70]⟩ : ByteArray)[n]'(by simpa [ByteArray.size] using h) = hexU n := by
  have : ∀ m : Fin 16, (⟨#[48, 49, 50, 51, 52, 53, 54, 55, 56, 57, 65, 66, 67, 68, 69, 70]⟩ : ByteArray)[m.val]'(by have := m.isLt; simp [ByteArray.size]) = hexU m.val := by decide
  exact this ⟨n, h⟩

set_option maxHeartbeats 2000000 in
set_option maxRecDepth 100000 in
theorem writeQString_any (s : ByteArray) (b : Nat) (K : Nat → Prop) (l : List UInt8) (w : World) (h : Bld b K l w) (hlen : l.length + 3 * s.size ≤ 140737488355328) :
    Calls Tryd.prog 87 #[.pointer (some ⟨b, 0, none⟩), .string s] w fun e w' => e = .returned (.tuple #[]) ∧ Bld b K (l ++ qStr s.data.toList) w' ∧ Fr K w w' := by
  go_enter Tryd.func87, Tryd.ntmps87
  go_wp2
  go_loopw [4] (fun i wr => ∃ k : Nat, k ≤ s.size ∧ i = .int .i64 k ∧ Bld b K (l ++ qStr (s.data.toList.take k)) wr ∧ Fr K w wr) (fun i _ => s.size - (intOf i).toNat)
  case atStart => exact ⟨0, Nat.zero_le _, rfl, by simpa [qStr] using h, Fr.refl _ _⟩
  case round =>
    obtain ⟨k, hk, rfl, hB, hF⟩ := hrel
    by_cases hlt : k < s.size
    · have hts := take_snoc s k hlt
      have hq := qStr_le (s.data.toList.take k)
      have hql : (s.data.toList.take k).length ≤ k := List.length_take_le _ _
      obtain ⟨c, hc⟩ : ∃ c, s[k] = c := ⟨_, rfl⟩
      rw [hc] at hts
      have HT := Lib.hid hts
      clear hts
      by_cases h32 : c.toNat = 32
      · have h32' : ((c.toNat : Int) == 32) = true := by simp [h32]
        go_wp2_with fail
        refine (WriteByte_any b K _ 95 _ hB (by simp; omega)).mono ?_
        rintro e w1 ⟨rfl, h1, f1⟩
        go_wp2
        go_roundw
        case rel => exact ⟨k + 1, by omega, by go_num, by rw [HT.out, qStr_append, ← List.append_assoc, show qStr [c] = [95] from by simp [qStr, qByte, h32]]; exact h1, hF.trans f1⟩
        case measure => simp [intOf]; omega
      · have h32' : ((c.toNat : Int) == 32) = false := by rw [beq_eq_false_iff_ne]; omega
        by_cases hr : qRaw c = true
        · have hr' : 33 ≤ c.toNat ∧ c.toNat ≤ 126 ∧ c.toNat ≠ 61 ∧ c.toNat ≠ 63 ∧ c.toNat ≠ 95 := of_decide_eq_true hr
          obtain ⟨r1, r2, r3, r4, r5⟩ := hr'
          have r3' : ((c.toNat : Int) != 61) = true := by rw [bne_iff_ne]; omega
          have r4' : ((c.toNat : Int) != 63) = true := by rw [bne_iff_ne]; omega
          have r5' : ((c.toNat : Int) != 95) = true := by rw [bne_iff_ne]; omega
          have r1' : (33 : Int) ≤ (c.toNat : Int) := by omega
          have r2' : (c.toNat : Int) ≤ 126 := by omega
          have HR := Lib.hid hr
          clear hr r1 r2 r3 r4 r5
          go_wp2_with fail
          refine (WriteByte_any b K _ c _ hB (by simp; omega)).mono ?_
          rintro e w1 ⟨rfl, h1, f1⟩
          go_wp2
          go_roundw
          case rel => exact ⟨k + 1, by omega, by go_num, by rw [HT.out, qStr_append, ← List.append_assoc, show qStr [c] = [c] from by simp [qStr, qByte, h32, HR.out]]; exact h1, hF.trans f1⟩
          case measure => simp [intOf]; omega
        · have hr0 : qRaw c = false := by simpa using hr
          have hr' : ¬ (33 ≤ c.toNat ∧ c.toNat ≤ 126 ∧ c.toNat ≠ 61 ∧ c.toNat ≠ 63 ∧ c.toNat ≠ 95) := of_decide_eq_false hr0
          have HR := Lib.hid hr0
          have HR' := Lib.hid hr'
          clear hr hr0 hr'
          have hd0 : (0 : Int) ≤ (c.toNat : Int) / 16 := by omega
          have hcl := c.toNat_lt
          have hd1 : (c.toNat : Int) / 16 < 16 := by omega
          have hd2 : (0 : Int) ≤ (c.toNat : Int) % 16 := by omega
          have hd3 : (c.toNat : Int) % 16 < 16 := by omega
          have hways : (¬ (33 : Int) ≤ (c.toNat : Int)) ∨ ((33 : Int) ≤ (c.toNat : Int) ∧ ¬ (c.toNat : Int) ≤ 126) ∨ ((33 : Int) ≤ (c.toNat : Int) ∧ (c.toNat : Int) ≤ 126 ∧ ((c.toNat : Int) != 61) = false)
              ∨ ((33 : Int) ≤ (c.toNat : Int) ∧ (c.toNat : Int) ≤ 126 ∧ ((c.toNat : Int) != 61) = true ∧ ((c.toNat : Int) != 63) = false) ∨ ((33 : Int) ≤ (c.toNat : Int) ∧ (c.toNat : Int) ≤ 126 ∧ ((c.toNat : Int) != 61) = true ∧ ((c.toNat : Int) != 63) = true ∧ ((c.toNat : Int) != 95) = false) := by
            have h := HR'.out
            simp only [bne_eq_false_iff_eq, bne_iff_ne]
            omega
          rcases hways with g1 | ⟨g1, g2⟩ | ⟨g1, g2, g3⟩ | ⟨g1, g2, g3, g4⟩ | ⟨g1, g2, g3, g4, g5⟩
          all_goals
            go_wp2_with fail
            refine (WriteByte_any b K _ 61 _ hB (by simp; omega)).mono ?_
            rintro e w1 ⟨rfl, h1, f1⟩
            go_wp2_with fail
            refine (WriteByte_any b K _ _ _ h1 (by simp; omega)).mono ?_
            rintro e w2 ⟨rfl, h2, f2⟩
            go_wp2_with fail
            refine (WriteByte_any b K _ _ _ h2 (by simp; omega)).mono ?_
            rintro e w3 ⟨rfl, h3, f3⟩
            rw [hexTab_get _ (by omega)] at h3
            rw [hexTab_get _ (by omega)] at h3
            go_wp2
            go_roundw
            case rel => exact ⟨k + 1, by omega, by go_num, by rw [HT.out, qStr_append, ← List.append_assoc, show qStr [c] = [61, hexU (c.toNat / 16), hexU (c.toNat % 16)] from by simp [qStr, qByte, h32, HR.out]]; simpa using h3, ((hF.trans f1).trans f2).trans f3⟩
            case measure => simp [intOf]; omega
    · go_wp2
      go_end0
      rw [List.take_of_length_le (by simp; omega)] at hB
      exact ⟨rfl, hB, hF⟩
end Go.Proofs.YtciejdaifjbjdaaDoor
