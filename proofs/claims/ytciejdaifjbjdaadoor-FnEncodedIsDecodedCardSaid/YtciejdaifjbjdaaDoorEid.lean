/- laws.FnEncodedIsDecoded: the walk. -/
import Derived.Test.YtciejdaifjbjdaaDoorDh
namespace Go.Proofs.YtciejdaifjbjdaaDoor
open Go Go.RowKit

theorem decOk_b (c : List UInt8) (h : bGood c) : DecOk 98 b64 c := fun s w hs _ => decode_b s c hs h.1 (Nat.le_trans h.2.2 (by decide)) w
theorem decOk_q (c : List UInt8) : DecOk 113 qStr c := fun s w hs hz => decode_q s c hs hz w

theorem bMid_eq (e : UInt8) (done : List (List UInt8)) : (done.flatMap fun c => b64 c ++ sepL e) = bMid (sepL e) done := rfl
theorem qMid_eq (e : UInt8) (done : List (List UInt8)) : (done.flatMap fun c => qStr c ++ sepL e) = qMid (sepL e) done := rfl

/-- What impl.Word has written is decoded to the text. -/
theorem Decoded_words (e : UInt8) (s : ByteArray) (l : List UInt8) (hl : Words e s l) (hs : s.size ≤ 4096) (K : Nat → Prop) (w : World) (hK : ∀ k, K k → k < w.heap.size) :
    Calls Tryd.prog 10 #[.string ⟨l.toArray⟩] w fun x w' => x = .returned (.tuple #[.string s, .bool true]) ∧ Fr K w w' := by
  obtain ⟨done, cur, hfl, hw⟩ := hl
  have hflz : (done ++ [cur]).flatten.length = s.size := by rw [hfl, Array.length_toList]; rfl
  have hse : (⟨(done ++ [cur]).flatten.toArray⟩ : ByteArray) = s := by rw [hfl]
  have hzl : (⟨l.toArray⟩ : ByteArray).size = l.length := rfl
  rw [← hse]
  rcases hw with ⟨rfl, hg, rfl⟩ | ⟨rfl, hg, rfl⟩
  · have hr := bRoom hg s.size hflz
    refine DecodedHeader_words 98 b64 b64_no (done ++ [cur]) (by simp) (fun c hc => decOk_b c (hg c hc)) _ (by rw [← words_txt]) ?_ (by omega) K w hK
    rw [hzl]
    unfold wordsL
    rw [bMid_eq]
    simp only [List.length_append, List.length_cons, List.length_nil, show utf8S.length = 5 from rfl]
    omega
  · have hr := qRoom hg s.size hflz
    refine DecodedHeader_words 113 qStr qStr_no (done ++ [cur]) (by simp) (fun c _ => decOk_q c) _ (by rw [← words_txt]) ?_ (by omega) K w hK
    rw [hzl]
    unfold wordsL
    rw [qMid_eq]
    simp only [List.length_append, List.length_cons, List.length_nil, show utf8S.length = 5 from rfl]
    omega

set_option maxHeartbeats 1000000 in
set_option maxRecDepth 100000 in
theorem FnEncodedIsDecoded_true (q : Bool) (s : ByteArray) (K : Nat → Prop) (w : World) (hs : s.size ≤ 9223372036854775807) (hK : ∀ k, K k → k < w.heap.size) (hT : Lib.Utf8Tabs 0 1 w) (hK0 : K 0) (hK1 : K 1) :
    Calls Tryd.prog 4 #[.bool q, .string s] w fun x w' => x = .returned (.bool true) ∧ Fr K w w' := by
  have HT := Lib.hid hT; have HK := Lib.hid hK
  clear hT hK
  by_cases hz : (2147483647 : Int) < (s.size : Int)
  · go_enter Tryd.func4, Tryd.ntmps4
    go_wp2
    go_ret
    exact ⟨rfl, Fr.refl K w⟩
  · cases hv : Lib.validD s.data.toList with
    | false =>
      have HV := Lib.hid hv
      clear hv
      go_enter Tryd.func4, Tryd.ntmps4
      go_wp2_with fail
      refine (Tryd.utf8_ValidString s _ hs HT.out).mono ?_
      rintro x w1 ⟨rfl, hb1⟩
      rw [HV.out]
      go_wp2
      go_ret
      exact ⟨rfl, Fr.by_below hb1 HK.out⟩
    | true =>
      have HV := Lib.hid hv
      clear hv
      by_cases hz2 : (4096 : Int) < (s.size : Int)
      · go_enter Tryd.func4, Tryd.ntmps4
        go_wp2_with fail
        refine (Tryd.utf8_ValidString s _ hs HT.out).mono ?_
        rintro x w1 ⟨rfl, hb1⟩
        rw [HV.out]
        go_wp2
        go_ret
        exact ⟨rfl, Fr.by_below hb1 HK.out⟩
      · have hs4 : s.size ≤ 4096 := by omega
        cases hp : plainL s.data.toList with
        | true =>
          have HP := Lib.hid hp
          clear hp
          go_enter Tryd.func4, Tryd.ntmps4
          go_wp2_with fail
          refine (Tryd.utf8_ValidString s _ hs HT.out).mono ?_
          rintro x w1 ⟨rfl, hb1⟩
          rw [HV.out]
          go_wp2_with fail
          refine (plain_any s _ hs).mono ?_
          rintro x w2 ⟨rfl, rfl⟩
          rw [HP.out]
          go_wp2
          go_ret
          exact ⟨rfl, Fr.by_below hb1 HK.out⟩
        | false =>
          have HP := Lib.hid hp
          clear hp
          go_enter Tryd.func4, Tryd.ntmps4
          go_wp2_with fail
          refine (Tryd.utf8_ValidString s _ hs HT.out).mono ?_
          rintro x w1 ⟨rfl, hb1⟩
          rw [HV.out]
          have hF1 := Fr.by_below hb1 HK.out
          have hT1 := tabs_fr HT.out hF1 hK0 hK1
          have HF1 := Lib.hid hF1; have HT1 := Lib.hid hT1
          have HK1 := Lib.hid (Fr.lt hF1 HK.out)
          clear hF1 hT1
          go_wp2_with fail
          refine (plain_any s _ hs).mono ?_
          rintro x w2 ⟨rfl, rfl⟩
          rw [HP.out]
          go_wp2_with fail
          refine (Word_text q s K _ HK1.out HT1.out hK0 hK1 HV.out HP.out (by omega)).mono ?_
          rintro x w2 ⟨⟨l, rfl, hl⟩, hF2⟩
          have HL := Lib.hid hl; have HF2 := Lib.hid hF2; have HK2 := Lib.hid (Fr.lt hF2 HK1.out)
          clear hl hF2
          go_wp2_with fail
          refine (Decoded_words _ s l HL.out hs4 K _ HK2.out).mono ?_
          rintro x w3 ⟨rfl, hF3⟩
          have HF3 := Lib.hid ((HF1.out.trans HF2.out).trans hF3)
          clear hF3
          go_wp2
          go_ret
          exact ⟨rfl, HF3.out⟩
end Go.Proofs.YtciejdaifjbjdaaDoor
