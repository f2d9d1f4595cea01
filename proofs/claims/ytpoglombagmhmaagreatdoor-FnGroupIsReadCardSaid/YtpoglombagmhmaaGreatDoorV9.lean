/- spec.Dotted: the walk. -/
import Derived.Test.YtpoglombagmhmaaGreatDoorP4
import Derived.Test.YtpoglombagmhmaaGreatDoorU1
namespace Go.Proofs.YtpoglombagmhmaaGreatDoor
open Go Go.RowKit

def goodAt (l : List UInt8) (j : Nat) : Bool :=
  if l.getD j 0 = 46 then !(decide (j = 0) || decide (j + 1 = l.length) || decide (l.getD (j - 1) 0 = 46)) else atomB (l.getD j 0) && decide ((l.getD j 0).toNat < 128)
/-- Atoms with points between them, of ASCII alone. -/
def dottedL (l : List UInt8) : Bool := (List.range l.length).all (goodAt l) && decide (0 < l.length)
theorem dotted_no {l : List UInt8} {j : Nat} (hj : j < l.length) (h : goodAt l j = false) : dottedL l = false := by
  unfold dottedL
  rw [Bool.and_eq_false_iff]
  left
  rw [List.all_eq_false]
  exact ⟨j, List.mem_range.2 hj, by rw [h]; decide⟩

def DtRel (l : List UInt8) (r i : Value) : Prop := r = .bool false ∧ ∃ k : Nat, i = .int .i64 k ∧ k ≤ l.length ∧ ∀ j, j < k → goodAt l j = true
theorem getD_s (s : ByteArray) (k : Nat) (h : k < s.size) : s.data.toList.getD k 0 = s[k] := by
  rw [List.getD_eq_getElem?_getD, List.getElem?_eq_getElem (by rw [Array.length_toList]; exact h)]
  rfl

set_option maxHeartbeats 4000000 in
set_option maxRecDepth 100000 in
theorem Dotted_any (s : ByteArray) (w : World) (hs : s.size ≤ 9223372036854775807) :
    Calls Tryz.prog 7 #[.string s] w fun x w' => x = .returned (.bool (dottedL s.data.toList)) ∧ Below w.heap.size w w' := by
  have hl : s.data.toList.length = s.size := Array.length_toList
  have HL := Lib.hid hl
  clear hl
  go_enter Tryz.func7, Tryz.ntmps7
  go_wp2
  go_loopw [2, 6] (fun r i wr => Below w.heap.size w wr ∧ DtRel s.data.toList r i) (fun _ i _ => s.size - (intOf i).toNat)
  case atStart => exact ⟨Below.refl _ _, rfl, 0, rfl, Nat.zero_le _, fun j h => absurd h (Nat.not_lt_zero j)⟩
  case round =>
    obtain ⟨hbw, rfl, k, rfl, hk, hall⟩ := hrel
    have HB := Lib.hid hbw
    clear hbw
    rw [HL.out] at hk
    by_cases hlt : k < s.size
    · have z0 : (k : Int) < (s.size : Int) := by omega
      obtain ⟨c, hc⟩ : ∃ c, s[k] = c := ⟨_, rfl⟩
      have hct := c.toNat_lt
      have hgd : s.data.toList.getD k 0 = c := by rw [getD_s s k hlt]; exact hc
      have HGD := Lib.hid hgd; have HALL := Lib.hid hall
      clear hgd hall
      by_cases h46 : c = 46
      · have t46 : ((c.toNat : Int) == 46) = true := ceq h46
        by_cases k0 : k = 0
        · have z1 : ((k : Int) == 0) = true := by rw [beq_iff_eq]; omega
          have HR := Lib.hid (show dottedL s.data.toList = false from dotted_no (j := k) (by rw [HL.out]; exact hlt) (by unfold goodAt; rw [HGD.out, if_pos h46, k0]; simp))
          clear k0 h46
          go_wp2
          go_ret
          exact ⟨by rw [HR.out]; rfl, HB.out⟩
        · have z1 : ((k : Int) == 0) = false := by rw [beq_eq_false_iff_ne]; omega
          by_cases k1 : k + 1 = s.size
          · have z2 : ((k : Int) == (s.size : Int) - 1) = true := by rw [beq_iff_eq]; omega
            have HR := Lib.hid (show dottedL s.data.toList = false from dotted_no (j := k) (by rw [HL.out]; exact hlt) (by unfold goodAt; rw [HGD.out, if_pos h46, HL.out, decide_eq_true k1]; simp))
            have HK := Lib.hid k1
            clear k1 h46
            go_wp2
            go_ret
            exact ⟨by rw [HR.out]; rfl, HB.out⟩
          · have z2 : ((k : Int) == (s.size : Int) - 1) = false := by rw [beq_eq_false_iff_ne]; omega
            have hk1 : k - 1 < s.size := by omega
            obtain ⟨d, hd⟩ : ∃ d, s[k - 1] = d := ⟨_, rfl⟩
            have hgd2 : s.data.toList.getD (k - 1) 0 = d := by rw [getD_s s (k - 1) hk1]; exact hd
            have i1 : (0 : Int) ≤ (k : Int) - 1 := by omega
            have i2 : (k : Int) - 1 < (s.size : Int) := by omega
            by_cases h5 : d = 46
            · have t5 : ((d.toNat : Int) == 46) = true := ceq h5
              have HR := Lib.hid (show dottedL s.data.toList = false from dotted_no (j := k) (by rw [HL.out]; exact hlt) (by unfold goodAt; rw [HGD.out, if_pos h46, hgd2, decide_eq_true h5]; simp))
              clear h46 h5 hgd2
              go_wp2
              go_ret
              exact ⟨by rw [HR.out]; rfl, HB.out⟩
            · have t5 : ((d.toNat : Int) == 46) = false := cneq h5
              have HG := Lib.hid (show goodAt s.data.toList k = true by unfold goodAt; rw [HGD.out, if_pos h46, HL.out, hgd2, decide_eq_false h5, decide_eq_false k0, decide_eq_false k1]; rfl)
              clear h46 h5 hgd2
              go_wp2
              go_roundw
              case rel => exact ⟨HB.out, rfl, k + 1, by go_num, by rw [HL.out]; omega, fun j hj => by rcases Nat.lt_succ_iff_lt_or_eq.1 hj with h | h; exact HALL.out j h; rw [h]; exact HG.out⟩
              case measure => simp [intOf]; omega
      · have t46 : ((c.toNat : Int) == 46) = false := cneq h46
        by_cases ha : atomB c = true
        · by_cases h8 : c.toNat < 128
          · have z8 : ¬ (128 : Int) ≤ (c.toNat : Int) := by omega
            have HG := Lib.hid (show goodAt s.data.toList k = true by unfold goodAt; rw [HGD.out, if_neg h46, ha, decide_eq_true h8]; rfl)
            have HA := Lib.hid ha
            clear h46 h8 ha
            go_wp2_with fail
            refine (IsAtom_any c _).mono ?_
            rintro x w2 ⟨rfl, hb⟩
            have HB2 := Lib.hid (HB.out.trans (hb.mono HB.out.size))
            rw [HA.out]
            clear hb
            go_wp2
            go_roundw
            case rel => exact ⟨HB2.out, rfl, k + 1, by go_num, by rw [HL.out]; omega, fun j hj => by rcases Nat.lt_succ_iff_lt_or_eq.1 hj with h | h; exact HALL.out j h; rw [h]; exact HG.out⟩
            case measure => simp [intOf]; omega
          · have z8 : (128 : Int) ≤ (c.toNat : Int) := by omega
            have HR := Lib.hid (show dottedL s.data.toList = false from dotted_no (j := k) (by rw [HL.out]; exact hlt) (by unfold goodAt; rw [HGD.out, if_neg h46, decide_eq_false h8, Bool.and_false]))
            have HA := Lib.hid ha
            clear h46 h8 ha
            go_wp2_with fail
            refine (IsAtom_any c _).mono ?_
            rintro x w2 ⟨rfl, hb⟩
            have HB2 := Lib.hid (HB.out.trans (hb.mono HB.out.size))
            rw [HA.out]
            clear hb
            go_wp2
            go_ret
            exact ⟨by rw [HR.out]; rfl, HB2.out⟩
        · rw [Bool.not_eq_true] at ha
          have HR := Lib.hid (show dottedL s.data.toList = false from dotted_no (j := k) (by rw [HL.out]; exact hlt) (by unfold goodAt; rw [HGD.out, if_neg h46, ha, Bool.false_and]))
          have HA := Lib.hid ha
          clear h46 ha
          go_wp2_with fail
          refine (IsAtom_any c _).mono ?_
          rintro x w2 ⟨rfl, hb⟩
          have HB2 := Lib.hid (HB.out.trans (hb.mono HB.out.size))
          rw [HA.out]
          clear hb
          go_wp2
          go_ret
          exact ⟨by rw [HR.out]; rfl, HB2.out⟩
    · have hke : k = s.size := by omega
      have z0 : ¬ (k : Int) < (s.size : Int) := by omega
      have HR := Lib.hid (show dottedL s.data.toList = decide (0 < s.size) by
        unfold dottedL
        rw [HL.out, show (List.range s.size).all (goodAt s.data.toList) = true from List.all_eq_true.2 (fun j hj => hall j (by rw [hke]; exact List.mem_range.1 hj)), Bool.true_and])
      clear hke hall
      rcases Nat.eq_zero_or_pos s.size with h | h
      · have HZ := Lib.hid h
        have z1 : ¬ (0 : Int) < (s.size : Int) := by omega
        have z2 : decide ((0 : Int) < (s.size : Int)) = false := decide_eq_false z1
        clear h
        go_wp2
        go_ret
        exact ⟨by rw [HR.out, decide_eq_false (by have := HZ.out; omega)]; rfl, HB.out⟩
      · have HZ := Lib.hid h
        have z1 : (0 : Int) < (s.size : Int) := by omega
        have z2 : decide ((0 : Int) < (s.size : Int)) = true := decide_eq_true z1
        clear h
        go_wp2
        go_ret
        exact ⟨by rw [HR.out, decide_eq_true HZ.out]; rfl, HB.out⟩
end Go.Proofs.YtpoglombagmhmaaGreatDoor
