/- Encode, impl.Word: the walks. -/
import Derived.Test.YtciejdaifjbjdaaDoorEnc5
namespace Go.Proofs.YtciejdaifjbjdaaDoor
open Go Go.RowKit

theorem Encode_text (e : UInt8) (he : e = 98 ∨ e = 113) (s : ByteArray) (K : Nat → Prop) (w : World) (hK : ∀ k, K k → k < w.heap.size) (hT : Lib.Utf8Tabs 0 1 w) (hK0 : K 0) (hK1 : K 1)
    (hv : Lib.validD s.data.toList = true) (hp : plainL s.data.toList = false) (hs : s.size ≤ 1099511627776) :
    Calls Tryd.prog 18 #[.int .u8 e.toNat, .string utf8B, .string s] w fun x w' => (∃ l, x = .returned (.string ⟨l.toArray⟩) ∧ Words e s l) ∧ Fr K w w' := by
  have h0 : 0 < s.size := by
    rcases Nat.eq_zero_or_pos s.size with h | h
    · have hl : s.data.toList = [] := List.eq_nil_of_length_eq_zero (by rw [Array.length_toList]; exact h)
      rw [hl] at hp
      exact absurd hp (by decide)
    · exact h
  have HV := Lib.hid hv; have HT := Lib.hid hT; have HK := Lib.hid hK; have HP := Lib.hid hp
  clear hv hT hK hp
  go_enter Tryd.func18, Tryd.ntmps18
  go_wp2_with fail
  refine (needsEncoding_any _ _).mono ?_
  rintro x w1 ⟨rfl, hb1⟩
  rw [HP.out]
  have hF1 := Fr.by_below hb1 HK.out
  have hT1 := tabs_fr HT.out hF1 hK0 hK1
  have HT1 := Lib.hid hT1
  clear hT1
  go_wp2_with fail
  refine (encodeWord_any e he s K _ (fun k hk => Nat.lt_of_lt_of_le (HK.out k hk) hb1.size) HT1.out hK0 hK1 HV.out h0 hs).mono ?_
  rintro x w2 ⟨⟨l, rfl, hl⟩, hF2⟩
  go_wp2
  go_ret
  exact ⟨⟨l, rfl, hl⟩, hF1.trans hF2⟩

def kind (q : Bool) : UInt8 := if q then 98 else 113
theorem Word_text (q : Bool) (s : ByteArray) (K : Nat → Prop) (w : World) (hK : ∀ k, K k → k < w.heap.size) (hT : Lib.Utf8Tabs 0 1 w) (hK0 : K 0) (hK1 : K 1)
    (hv : Lib.validD s.data.toList = true) (hp : plainL s.data.toList = false) (hs : s.size ≤ 1099511627776) :
    Calls Tryd.prog 11 #[.bool q, .string utf8B, .string s] w fun x w' => (∃ l, x = .returned (.string ⟨l.toArray⟩) ∧ Words (kind q) s l) ∧ Fr K w w' := by
  have HV := Lib.hid hv; have HT := Lib.hid hT; have HK := Lib.hid hK; have HP := Lib.hid hp
  clear hv hT hK hp
  go_enter Tryd.func11, Tryd.ntmps11
  cases q
  · go_wp2_with fail
    refine (Encode_text 113 (.inr rfl) s K _ HK.out HT.out hK0 hK1 HV.out HP.out hs).mono ?_
    rintro x w2 ⟨⟨l, rfl, hl⟩, hF2⟩
    go_wp2
    go_ret
    exact ⟨⟨l, rfl, hl⟩, hF2⟩
  · go_wp2_with fail
    refine (Encode_text 98 (.inl rfl) s K _ HK.out HT.out hK0 hK1 HV.out HP.out hs).mono ?_
    rintro x w2 ⟨⟨l, rfl, hl⟩, hF2⟩
    go_wp2
    go_ret
    exact ⟨⟨l, rfl, hl⟩, hF2⟩
end Go.Proofs.YtciejdaifjbjdaaDoor
