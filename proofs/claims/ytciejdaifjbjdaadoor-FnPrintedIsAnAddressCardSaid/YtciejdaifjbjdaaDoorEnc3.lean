/- isUTF8 at "utf-8"; needsEncoding; qEncode: the walks. -/
import Derived.Test.YtciejdaifjbjdaaDoorEnc2
import Derived.Test.YtciejdaifjbjdaaDoorUtf
import Derived.Test.YtciejdaifjbjdaaDoorShelf
import Derived.Laws.RangeAny
namespace Go.Proofs.YtciejdaifjbjdaaDoor
open Go Go.RowKit

/-- "utf-8" -/
def utf8S : List UInt8 := [117, 116, 102, 45, 56]
abbrev utf8B : ByteArray := ⟨#[117, 116, 102, 45, 56]⟩

theorem asc_of (l : List UInt8) (h : l.all (fun b => decide (b.toNat < 128)) = true) : ∀ (j : Nat) b, l[j]? = some b → b.toNat < 128 := by
  intro j b hb
  exact of_decide_eq_true (List.all_eq_true.1 h b (List.mem_of_getElem? hb))
theorem isUTF8_any (w : World) : Calls Tryd.prog 84 #[.string utf8B] w fun e w' => e = .returned (.bool true) ∧ w = w' := by
  go_enter Tryd.func84, Tryd.ntmps84
  go_wp2_with fail
  refine (Tryd.strings_EqualFold _ _ _ (by decide) (asc_of _ (by decide)) (asc_of _ (by decide))).mono ?_
  rintro e w1 ⟨rfl, rfl⟩
  go_wp2
  go_ret
  exact ⟨ret_bool (by decide), rfl⟩

/-- The tables of package utf8, where their blocks are set apart. -/
theorem tabs_fr {K : Nat → Prop} {w w' : World} (h : Lib.Utf8Tabs 0 1 w) (f : Fr K w w') (h0 : K 0) (h1 : K 1) : Lib.Utf8Tabs 0 1 w' := by
  refine ⟨fun c hc => ?_, fun i hi => ⟨?_, ?_⟩⟩
  · rw [f.cell h0]; exact h.1 c hc
  · rw [f.cell h1]; exact (h.2 i hi).1
  · rw [f.cell h1]; exact (h.2 i hi).2

set_option maxHeartbeats 1000000 in
set_option maxRecDepth 100000 in
theorem needsEncoding_any (s : ByteArray) (w : World) :
    Calls Tryd.prog 41 #[.string s] w fun e w' => e = .returned (.bool (!plainL s.data.toList)) ∧ Below w.heap.size w w' := by
  go_enter Tryd.func41, Tryd.ntmps41
  go_wp2
  go_loopw [] (fun wr => ∃ k : Nat, k ≤ s.size ∧ wr.heap[w.heap.size]? = some (.stringIter s k) ∧ plainL (s.data.toList.take k) = true ∧ Below w.heap.size w wr) (fun wr => s.size - wr.iterPos w.heap.size)
  case atStart =>
    refine ⟨0, Nat.zero_le _, ?_, rfl, (Below.refl _ w).alloc (Nat.le_refl _) _⟩
    have := World.iter_heap w s 0
    simpa using this
  case round =>
    obtain ⟨k, hk, hit, hp, hbw⟩ := hrel
    by_cases hlt : k < s.size
    · have hnx : ∀ ty, (Instr.next (.pointer (some ⟨w.heap.size, 0, none⟩)) true ty).run Tryd.prog wr = _ := fun ty => Lib.run_next_any_at wr w.heap.size s k ty hit hlt
      have hit2 := Lib.iterAt_heap wr w.heap.size s k (k + (Utf8.decode s k).2) hit
      have hbw2 := Lib.below_iterAt hbw (k := w.heap.size) (by omega) s (k + (Utf8.decode s k).2)
      by_cases ha : (s[k]'hlt).toNat < 128
      · have hdec := decode_ascii s k hlt ha
        rw [hdec] at hnx hit2 hbw2
        simp only at hnx hit2 hbw2
        by_cases hc : plainB s[k] = true
        · have hp1 := all_take_succ plainB s k hlt hp hc
          have HP := Lib.hid hp1
          have HI := Lib.hid hit; have HI2 := Lib.hid hit2; have HD := Lib.hid hdec
          clear hp hp1 hit hit2 hdec
          have hcases : (32 ≤ s[k].toNat ∧ s[k].toNat ≤ 126) ∨ s[k].toNat = 9 := of_decide_eq_true hc
          clear hc
          rcases hcases with ⟨h1, h2⟩ | h1
          · have h3 : ¬ (s[k].toNat : Int) < 32 := by omega
            have h4 : ¬ (126 : Int) < (s[k].toNat : Int) := by omega
            go_wp2
            go_roundw
            case rel => exact ⟨k + 1, by omega, HI2.out, HP.out, hbw2⟩
            case measure =>
              have e1 := HI.out; have e2 := HI2.out
              simp only [World.iterPos, e1, e2]
              omega
          · have h3 : (s[k].toNat : Int) < 32 := by omega
            have h4 : ((s[k].toNat : Int) != 9) = false := by rw [bne_eq_false_iff_eq]; omega
            go_wp2
            go_roundw
            case rel => exact ⟨k + 1, by omega, HI2.out, HP.out, hbw2⟩
            case measure =>
              have e1 := HI.out; have e2 := HI2.out
              simp only [World.iterPos, e1, e2]
              omega
        · have hc' : plainB s[k] = false := by simpa using hc
          have HF := Lib.hid (all_not plainB s k hlt hc')
          have hcases : ¬ ((32 ≤ s[k].toNat ∧ s[k].toNat ≤ 126) ∨ s[k].toNat = 9) := of_decide_eq_false hc'
          have h9 : ((s[k].toNat : Int) != 9) = true := by rw [bne_iff_ne]; omega
          have HI := Lib.hid hit; have HI2 := Lib.hid hit2; have HD := Lib.hid hdec
          clear hc hc' hit hit2 hdec
          by_cases h1 : (s[k].toNat : Int) < 32
          · go_wp2
            go_ret
            exact ⟨ret_bool (by unfold plainL; rw [HF.out]; rfl), hbw2⟩
          · have h2 : (126 : Int) < (s[k].toNat : Int) := by omega
            go_wp2
            go_ret
            exact ⟨ret_bool (by unfold plainL; rw [HF.out]; rfl), hbw2⟩
      · have hh := (decode_high s k hlt (by omega)).1
        have hc' : plainB s[k] = false := by unfold plainB; rw [decide_eq_false_iff_not]; omega
        have HF := Lib.hid (all_not plainB s k hlt hc')
        generalize hr : (Utf8.decode s k).1 = r at *
        have h1 : ¬ (r : Int) < 32 := by omega
        have h2 : (126 : Int) < (r : Int) := by omega
        have h9 : ((r : Int) != 9) = true := by rw [bne_iff_ne]; omega
        have HR := Lib.hid hr
        have HI := Lib.hid hit; have HI2 := Lib.hid hit2
        clear hc' hr hit hit2 ha
        go_wp2
        go_ret
        exact ⟨ret_bool (by unfold plainL; rw [HF.out]; rfl), hbw2⟩
    · have hnx : ∀ ty, (Instr.next (.pointer (some ⟨w.heap.size, 0, none⟩)) true ty).run Tryd.prog wr = _ := fun ty => Lib.run_next_end_at wr w.heap.size s k ty hit hlt
      go_wp2
      go_ret
      exact ⟨ret_bool (by unfold plainL at hp ⊢; rw [all_whole plainB s k hlt hp]; rfl), hbw⟩
end Go.Proofs.YtciejdaifjbjdaaDoor
