/- spec.quoted: the walk. -/
import Derived.Test.YtmcjmmcamelmcaaGreatDoorOw
namespace Go.Proofs.YtmcjmmcamelmcaaGreatDoor
open Go Go.RowKit

theorem quotedL_cons (c : UInt8) (t : List UInt8) : quotedL (c :: t) = if c = 34 then some ([], 1) else if c = 92 then (match t with | [] => none | d :: t' => (quotedL t').map fun r => (d :: r.1, r.2 + 2)) else (quotedL t).map fun r => (c :: r.1, r.2 + 1) := by
  cases t with
  | nil =>
    unfold quotedL
    by_cases h : c = 34
    · rw [if_pos h, if_pos h]
    · rw [if_neg h, if_neg h]
      by_cases h2 : c = 92
      · rw [if_pos h2]
      · rw [if_neg h2]; rfl
  | cons d t => rw [quotedL]
def qapp (out : List UInt8) (k : Nat) (r : Option (List UInt8 × Nat)) : Option (List UInt8 × Nat) := r.map fun p => (out ++ p.1, k + p.2)
theorem qapp_one (out : List UInt8) (k : Nat) (c : UInt8) (m : Nat) (r : Option (List UInt8 × Nat)) : qapp out k (r.map fun p => (c :: p.1, p.2 + m)) = qapp (out ++ [c]) (k + m) r := by
  cases r with
  | none => rfl
  | some p => simp [qapp]; omega
def qRet : Option (List UInt8 × Nat) → Ending
  | none => .returned (.tuple #[.string ⟨#[]⟩, .int .i64 0])
  | some p => .returned (.tuple #[.string ⟨p.1.toArray⟩, .int .i64 ((p.2 + 1 : Nat) : Int)])
theorem drop_at (s : ByteArray) (k : Nat) (h : k < s.size) : s.data.toList.drop k = s[k] :: s.data.toList.drop (k + 1) := by
  rw [List.drop_eq_getElem_cons (by simpa using h)]
  congr 1

/-- k signs behind the quote are read. -/
def QuRel (s : ByteArray) (w : World) (r2 r3 v i : Value) (wr : World) : Prop :=
  ∃ (k : Nat) (out : List UInt8), r2 = .string ⟨#[]⟩ ∧ r3 = .int .i64 0 ∧ i = .int .i64 ((k + 1 : Nat) : Int) ∧ out.length ≤ k ∧ k ≤ s.size ∧ quotedL (s.data.toList.drop 1) = qapp out k (quotedL (s.data.toList.drop (k + 1))) ∧ OwnB w.heap.size out v wr ∧ Fr (· < w.heap.size) w wr

/-- An append of one byte, and what it leaves. -/
theorem push_fr {w wr w2 : World} {v : Value} {o : Obj} {l : List UInt8} (hF : Fr (· < w.heap.size) w wr) (ho : OwnB w.heap.size l v wr) (hg : (wr.alloc o).grownBy w2 v.ownBlock) : Fr (· < w.heap.size) w w2 :=
  (hF.alloc (fun k hk => Nat.lt_of_lt_of_le hk hF.size) o).grown hg (fun k hk => by have := hF.size; simp; omega) (fun k e hk => by have := (own_lt ho k e).1; omega)

set_option maxHeartbeats 2000000 in
set_option maxRecDepth 100000 in
theorem quoted_any (s : ByteArray) (w : World) (hs : s.size ≤ 70368744177664) :
    Calls Tryz.prog 22 #[.string s] w fun x w' => x = qRet (quotedL (s.data.toList.drop 1)) ∧ Below w.heap.size w w' := by
  go_enter Tryz.func22, Tryz.ntmps22
  go_wp2
  go_loopw [2, 3, 4, 5] (fun r2 r3 v i wr => QuRel s w r2 r3 v i wr) (fun _ _ _ i _ => s.size + 1 - (intOf i).toNat)
  case atStart => exact ⟨0, [], rfl, rfl, rfl, Nat.le_refl _, Nat.zero_le _, by cases quotedL (s.data.toList.drop (0 + 1)) <;> simp [qapp], OwnB.nil _ _, Fr.refl _ _⟩
  case round =>
    obtain ⟨k, out, rfl, rfl, rfl, hol, hk, hq, hown, hF⟩ := hrel
    have HOWN := Lib.hid hown; have HF := Lib.hid hF
    by_cases hlt : k + 1 < s.size
    · rw [drop_at s (k + 1) hlt, quotedL_cons] at hq
      by_cases h34 : s[k + 1] = 34
      · rw [if_pos h34] at hq
        have HQ := Lib.hid hq
        have t : ((s[k + 1].toNat : Int) == 34) = true := by rw [h34]; rfl
        clear hq hown hF h34
        go_wp2
        rw [HOWN.out.text]; simp only [Result.andThen]; rw [Oper.upon_value]
        go_wp2
        go_ret2
        refine ⟨?_, HF.out.below⟩
        rw [HQ.out]
        simp [qapp, qRet]
      · rw [if_neg h34] at hq
        by_cases h92 : s[k + 1] = 92
        · rw [if_pos h92] at hq
          have t0 : ((s[k + 1].toNat : Int) == 34) = false := by rw [h92]; rfl
          have t : ((s[k + 1].toNat : Int) == 92) = true := by rw [h92]; rfl
          by_cases hend : k + 2 < s.size
          · rw [drop_at s (k + 2) hend] at hq
            simp only at hq
            rw [qapp_one] at hq
            have HQ := Lib.hid hq
            have t2 : ((k : Int) + 1 + 1 == (s.size : Int)) = false := by rw [beq_eq_false_iff_ne]; omega
            have i2 : (k : Int) + 1 + 1 < (s.size : Int) := by omega
            clear hq hown hF h34 h92
            have hB : w.heap.size ≤ wr.heap.size := HF.out.size
            go_wp2_with (at_builtin; refine wpList_push_byte rfl _ _ rfl w.heap.size out _ (s[k + 2]) wr HOWN.out hB ?c4 rfl rfl ?_)
            case c4 => omega
            intro v' w2 hown' hg _
            have HO2 := Lib.hid hown'; have HF2 := Lib.hid (push_fr HF.out HOWN.out hg)
            clear hown' hg
            go_wp2
            go_roundw
            case rel => exact ⟨k + 2, out ++ [s[k + 2]], rfl, rfl, by go_num, by simp; omega, by omega, HQ.out, HO2.out, HF2.out⟩
            case measure => simp [intOf]; omega
          · have hd : s.data.toList.drop (k + 1 + 1) = [] := List.drop_eq_nil_of_le (by simp; omega)
            rw [hd] at hq
            clear hd
            have HQ := Lib.hid hq
            have t2 : ((k : Int) + 1 + 1 == (s.size : Int)) = true := by rw [beq_iff_eq]; omega
            clear hq hown hF h34 h92
            go_wp2
            go_ret2
            exact ⟨by rw [HQ.out]; rfl, HF.out.below⟩
        · rw [if_neg h92, qapp_one] at hq
          have HQ := Lib.hid hq
          have t0 : ((s[k + 1].toNat : Int) == 34) = false := cneq h34
          have t : ((s[k + 1].toNat : Int) == 92) = false := cneq h92
          have hB : w.heap.size ≤ wr.heap.size := HF.out.size
          clear hq hown hF h34 h92
          go_wp2_with (at_builtin; refine wpList_push_byte rfl _ _ rfl w.heap.size out _ (s[k + 1]) wr HOWN.out hB ?c4 rfl rfl ?_)
          case c4 => omega
          intro v' w2 hown' hg _
          have HO2 := Lib.hid hown'; have HF2 := Lib.hid (push_fr HF.out HOWN.out hg)
          clear hown' hg
          go_wp2
          go_roundw
          case rel => exact ⟨k + 1, out ++ [s[k + 1]], rfl, rfl, by go_num, by simp; omega, by omega, HQ.out, HO2.out, HF2.out⟩
          case measure => simp [intOf]; omega
    · have hd : s.data.toList.drop (k + 1) = [] := List.drop_eq_nil_of_le (by simp; omega)
      rw [hd] at hq
      clear hd
      have HQ := Lib.hid hq
      clear hq hown hF
      go_wp2
      go_ret2
      exact ⟨by rw [HQ.out]; rfl, HF.out.below⟩
end Go.Proofs.YtmcjmmcamelmcaaGreatDoor
