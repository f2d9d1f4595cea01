/- netmail.quoteString, on printable ASCII: the walk. -/
import Derived.Test.YtciejdaifjbjdaaDoorW5
import Derived.Test.YtciejdaifjbjdaaDoorEnc1
import Derived.Test.YtciejdaifjbjdaaDoorEnc3
namespace Go.Proofs.YtciejdaifjbjdaaDoor
open Go Go.RowKit

/-- A sign within quotes. -/
def qsB (c : UInt8) : List UInt8 := if c = 92 ∨ c = 34 then [92, c] else [c]
def qsL (l : List UInt8) : List UInt8 := [34] ++ l.flatMap qsB ++ [34]
theorem qs_snoc (l : List UInt8) (k : Nat) (c : UInt8) (h : l[k]? = some c) : (l.take (k + 1)).flatMap qsB = (l.take k).flatMap qsB ++ qsB c := by
  rw [List.take_add_one, h]; simp
theorem qs_len (l : List UInt8) : (l.flatMap qsB).length ≤ 2 * l.length := by
  induction l with
  | nil => simp
  | cons c t ih =>
    rw [List.flatMap_cons, List.length_append]
    have : (qsB c).length ≤ 2 := by unfold qsB; split <;> simp
    simp only [List.length_cons]; omega

theorem Bld.iter {b it : Nat} {K : Nat → Prop} {l : List UInt8} {w : World} {s : ByteArray} {k : Nat} (h : Bld b K l w) (hi : w.heap[it]? = some (.stringIter s k)) (k' : Nat) : Bld b K l (w.iterAt it s k') := by
  refine h.kept (by rw [Lib.iterAt_size]; exact Nat.le_refl _) (fun q o ho _ hc => ?_)
  obtain ⟨c, t, fz, rfl, _⟩ := hc
  have hne : q ≠ it := fun e => by rw [e, hi] at ho; cases ho
  rw [Lib.iterAt_other w it q s k' hne]; exact ho

set_option maxHeartbeats 2000000 in
set_option maxRecDepth 100000 in
theorem quoteString_plain (s : ByteArray) (w : World) (hs : s.size ≤ 70368744177) (hp : plainL s.data.toList = true) :
    Calls Tryd.prog 22 #[.string s] w fun x w' => x = .returned (.string ⟨(qsL s.data.toList).toArray⟩) ∧ Below w.heap.size w w' := by
  have HP := Lib.hid hp
  have hB0 := Bld.fresh w (· < w.heap.size) (fun k h => h)
  have hF0 : Fr (· < w.heap.size) w (w.alloc (.cells #[.pointer none, .slice none 0 0] 82)) := (Fr.refl _ w).alloc (fun k h => h) _
  have HB0 := Lib.hid hB0; have HF0 := Lib.hid hF0
  clear hp hB0 hF0
  go_enter Tryd.func22, Tryd.ntmps22
  go_wp2_with fail
  obtain ⟨b, hb⟩ : ∃ b, w.heap.size = b := ⟨_, rfl⟩
  have HBN := Lib.hid hb
  rw [hb] at HB0 HF0 ⊢
  clear hb
  refine (WriteByte_any b (· < b) [] 34 _ HB0.out (by simp)).mono ?_
  rintro x w1 ⟨rfl, hbl, hf⟩
  have hb1 := hbl.alloc (.stringIter s 0)
  obtain ⟨it, hit⟩ : ∃ it, w1.heap.size = it := ⟨_, rfl⟩
  have hbi : b < it := by rw [← hit]; exact hbl.lt
  have HIT := Lib.hid hit
  have hi0 : (w1.alloc (.stringIter s 0)).heap[it]? = some (.stringIter s 0) := by
    rw [← hit]; exact World.iter_heap w1 s 0
  have HF1 := Lib.hid ((HF0.out.trans hf).alloc (fun k hk => Nat.lt_trans hk hbl.lt) (.stringIter s 0))
  have HB1 := Lib.hid hb1
  have HI0 := Lib.hid hi0
  rw [hit] at HB1
  clear HF0 HB0 hbl hf hb1 hi0 hit
  go_wp2
  rw [HIT.out]
  rw [show w1.alloc (.stringIter s 0) = w1.iter s 0 from rfl] at HF1 HB1 HI0
  generalize w1.iter s 0 = w1' at HF1 HB1 HI0 ⊢
  go_loopw [] (fun wr => ∃ k : Nat, k ≤ s.size ∧ wr.heap[it]? = some (.stringIter s k) ∧ Bld b (fun k => k < b ∨ k = it) ([34] ++ (s.data.toList.take k).flatMap qsB) wr ∧ Fr (· < b) w wr) (fun wr => s.size - wr.iterPos it)
  case atStart => exact ⟨0, Nat.zero_le _, HI0.out, by simpa using HB1.out, HF1.out⟩
  case round =>
    obtain ⟨k, hk, hit, hbl, hF⟩ := hrel
    by_cases hlt : k < s.size
    · obtain ⟨c, hc⟩ : ∃ c, s[k] = c := ⟨_, rfl⟩
      have hcat : s.data.toList[k]? = some c := by rw [← hc]; exact List.getElem?_eq_getElem (by rw [Array.length_toList]; exact hlt)
      have hpc : plainB c = true := List.all_eq_true.1 HP.out c (List.mem_of_getElem? hcat)
      have hcs : (32 ≤ c.toNat ∧ c.toNat ≤ 126) ∨ c.toNat = 9 := of_decide_eq_true hpc
      have hc8 : c.toNat < 128 := by omega
      have hnx : ∀ ty, (Instr.next (.pointer (some ⟨it, 0, none⟩)) true ty).run Tryd.prog wr = _ := fun ty => Lib.run_next_ascii_at wr it s k ty hit hlt (by rw [hc]; exact hc8)
      have HI := Lib.hid hit
      have HI2 := Lib.hid (Lib.iterAt_heap wr it s k (k + 1) hit)
      have HB2 := Lib.hid (hbl.iter hit (k + 1))
      have HF2 := Lib.hid (hF.iterAt (k := it) (fun e => by omega) s (k + 1))
      have hsn := qs_snoc _ k c hcat
      have hll : ((s.data.toList.take k).flatMap qsB).length ≤ 140737488354 := by
        have h1 := qs_len (s.data.toList.take k)
        have h2 : (s.data.toList.take k).length ≤ k := by rw [List.length_take]; omega
        omega
      rw [hc] at hnx
      have HSN := Lib.hid hsn
      have HCS := Lib.hid hcs
      clear hit hbl hF hsn hcat hpc hcs hc
      by_cases hq : c = 92 ∨ c = 34
      · have h1 : qtextR c.toNat = false := by rcases hq with rfl | rfl <;> rfl
        have h2 : wspR c.toNat = false := by rcases hq with rfl | rfl <;> rfl
        have h3 : vcharR c.toNat = true := by rcases hq with rfl | rfl <;> rfl
        have HQ := Lib.hid (show qsB c = [92, c] by unfold qsB; rw [if_pos hq])
        clear hq
        go_wp2_with fail
        refine (isQtext_any c.toNat _).mono ?_
        rintro x w2 ⟨rfl, rfl⟩
        rw [h1]
        go_wp2_with fail
        refine (isWSP_any c.toNat _).mono ?_
        rintro x w2 ⟨rfl, rfl⟩
        rw [h2]
        go_wp2_with fail
        refine (isVchar_any c.toNat _).mono ?_
        rintro x w2 ⟨rfl, rfl⟩
        rw [h3]
        go_wp2_with fail
        refine (WriteByte_any b _ _ 92 _ HB2.out (by simp only [List.length_append, List.length_cons, List.length_nil]; omega)).mono ?_
        rintro x w3 ⟨rfl, hb3, hf3⟩
        have HB3 := Lib.hid hb3; have HF3 := Lib.hid hf3
        clear hb3 hf3
        go_wp2_with fail
        refine (WriteRune_ascii b _ _ c hc8 _ HB3.out (by simp only [List.length_append, List.length_cons, List.length_nil]; omega)).mono ?_
        rintro x w4 ⟨⟨y, rfl⟩, hb4, hf4⟩
        have HB4 := Lib.hid hb4; have HF4 := Lib.hid (HF3.out.trans hf4)
        clear hb4 hf4
        go_wp2
        go_roundw
        case rel =>
          refine ⟨k + 1, by omega, (HF4.out.block it (.inr rfl)).trans HI2.out, ?_, HF2.out.trans (HF4.out.mono (fun q hq => .inl hq))⟩
          rw [HSN.out, HQ.out]
          simpa using HB4.out
        case measure =>
          have e1 := HI.out
          have e2 := (HF4.out.block it (.inr rfl)).trans HI2.out
          simp only [World.iterPos, e1, e2]
          omega
      · have HQ := Lib.hid (show qsB c = [c] by unfold qsB; rw [if_neg hq])
        have HNQ := Lib.hid hq
        have hcs := HCS.out
        clear hq
        by_cases hv : qtextR c.toNat = true
        · clear hcs
          go_wp2_with fail
          refine (isQtext_any c.toNat _).mono ?_
          rintro x w2 ⟨rfl, rfl⟩
          rw [hv]
          go_wp2_with fail
          refine (WriteRune_ascii b _ _ c hc8 _ HB2.out (by simp only [List.length_append, List.length_cons, List.length_nil]; omega)).mono ?_
          rintro x w4 ⟨⟨y, rfl⟩, hb4, hf4⟩
          have HB4 := Lib.hid hb4; have HF4 := Lib.hid hf4
          clear hb4 hf4
          go_wp2
          go_roundw
          case rel =>
            refine ⟨k + 1, by omega, (HF4.out.block it (.inr rfl)).trans HI2.out, ?_, HF2.out.trans (HF4.out.mono (fun q hq => .inl hq))⟩
            rw [HSN.out, HQ.out]
            simpa using HB4.out
          case measure =>
            have e1 := HI.out
            have e2 := (HF4.out.block it (.inr rfl)).trans HI2.out
            simp only [World.iterPos, e1, e2]
            omega
        · have hv' : qtextR c.toNat = false := by simpa using hv
          have h92 : ¬ (c.toNat = 92 ∨ c.toNat = 34) := by
            have := HNQ.out
            rintro (e | e)
            · exact this (.inl (UInt8.toNat_inj.1 e))
            · exact this (.inr (UInt8.toNat_inj.1 e))
          have hw : wspR c.toNat = true := by
            unfold qtextR vcharR at hv'
            rw [decide_eq_false h92] at hv'
            have hv2 : ¬ (33 ≤ c.toNat ∧ c.toNat ≤ 126) := fun q => by rw [decide_eq_true q] at hv'; simp at hv'
            unfold wspR
            exact decide_eq_true (by omega)
          clear hcs hv h92
          go_wp2_with fail
          refine (isQtext_any c.toNat _).mono ?_
          rintro x w2 ⟨rfl, rfl⟩
          rw [hv']
          go_wp2_with fail
          refine (isWSP_any c.toNat _).mono ?_
          rintro x w2 ⟨rfl, rfl⟩
          rw [hw]
          go_wp2_with fail
          refine (WriteRune_ascii b _ _ c hc8 _ HB2.out (by simp only [List.length_append, List.length_cons, List.length_nil]; omega)).mono ?_
          rintro x w4 ⟨⟨y, rfl⟩, hb4, hf4⟩
          have HB4 := Lib.hid hb4; have HF4 := Lib.hid hf4
          clear hb4 hf4
          go_wp2
          go_roundw
          case rel =>
            refine ⟨k + 1, by omega, (HF4.out.block it (.inr rfl)).trans HI2.out, ?_, HF2.out.trans (HF4.out.mono (fun q hq => .inl hq))⟩
            rw [HSN.out, HQ.out]
            simpa using HB4.out
          case measure =>
            have e1 := HI.out
            have e2 := (HF4.out.block it (.inr rfl)).trans HI2.out
            simp only [World.iterPos, e1, e2]
            omega
    · have hnx : ∀ ty, (Instr.next (.pointer (some ⟨it, 0, none⟩)) true ty).run Tryd.prog wr = _ := fun ty => Lib.run_next_end_at wr it s k ty hit hlt
      have hall : s.data.toList.take k = s.data.toList := List.take_of_length_le (by rw [Array.length_toList]; show s.size ≤ k; omega)
      rw [hall] at hbl
      have hll := qs_len s.data.toList
      have hl2 : s.data.toList.length = s.size := by rw [Array.length_toList]; rfl
      have HBL := Lib.hid hbl; have HF2 := Lib.hid hF
      clear hit hbl hF hall
      go_wp2_with fail
      refine (WriteByte_any b _ _ 34 _ HBL.out (by simp only [List.length_append, List.length_cons, List.length_nil]; omega)).mono ?_
      rintro x w3 ⟨rfl, hb3, hf3⟩
      have HB3 := Lib.hid hb3; have HF3 := Lib.hid (HF2.out.trans (hf3.mono (fun q hq => .inl hq)))
      clear hb3 hf3 HF2
      go_wp2_with fail
      refine (String_any b _ _ _ HB3.out).mono ?_
      rintro x w4 ⟨rfl, _, hf4⟩
      have HF4 := Lib.hid ((HF3.out.trans (hf4.mono (fun q hq => .inl hq))))
      clear hf4 HF3 HB3 HBL
      go_wp2
      go_ret
      exact ⟨rfl, by rw [HBN.out]; exact HF4.out.below⟩
end Go.Proofs.YtciejdaifjbjdaaDoor
