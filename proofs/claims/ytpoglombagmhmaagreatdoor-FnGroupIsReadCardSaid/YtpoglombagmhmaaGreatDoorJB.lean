/- laws.FnGroupIsRead: for every input the law returns true: the walk. -/
import Derived.Test.YtpoglombagmhmaaGreatDoorJ6
import Derived.Test.YtpoglombagmhmaaGreatDoorJA
namespace Go.Proofs.YtpoglombagmhmaaGreatDoor
open Go Go.RowKit

set_option maxHeartbeats 1000000 in
set_option maxRecDepth 100000 in
theorem FnGroupIsRead_true (N : ByteArray) (v0 : Value) (n : Nat) (f : Nat → ByteArray) (et : TypeId) (ev : Value) (w : World) (hNs : N.size ≤ 9223372036854775807) (h : StrArg v0 n f w.heap.size w) (hT : Lib.Utf8Tabs 0 1 w) (he : w.cell? ⟨2, 0, none⟩ = some (.iface et ev)) :
    Calls Tryz.prog 3 #[.string N, v0] w fun x w' => x = .returned (.bool true) ∧ Below w.heap.size w w' := by
  obtain ⟨p0, c0, rfl, hm⟩ := h.slice
  unfold maxLen at hm
  have H := Lib.hid h; have HT := Lib.hid hT; have HE := Lib.hid he
  clear h hT he
  by_cases z1 : (2147483647 : Int) < (N.size : Int)
  · go_enter Tryz.func3, Tryz.ntmps3
    go_wp2
    go_ret
    exact ⟨rfl, Below.refl _ _⟩
  go_enter Tryz.func3, Tryz.ntmps3
  go_wp2_with fail
  refine (fits_arg H.out).mono ?_
  rintro x w1 ⟨⟨b, rfl, hb⟩, hw1⟩
  subst hw1
  cases b with
  | false =>
    go_wp2
    go_ret
    exact ⟨rfl, Below.refl _ _⟩
  | true =>
    obtain ⟨hn0, hf0⟩ := hb rfl
    have HF := Lib.hid hf0
    clear hb hf0
    go_wp2_with fail
    refine (joined_any _ n f _ H.out HF.out HT.out).mono ?_
    rintro x w2 ⟨⟨T, v1, ok, rfl, hok⟩, hb2⟩
    have HB2 := Lib.hid hb2
    cases ok with
    | false =>
      go_wp2
      go_ret
      exact ⟨rfl, HB2.out⟩
    | true =>
      obtain ⟨aas, hn1, hn100, haasl, hov, hJ, hTl, _⟩ := hok rfl
      have HJ := Lib.hid hJ; have HAL := Lib.hid haasl; have HOV := Lib.hid hov
      have hane : aas ≠ [] := by
        rintro rfl
        have := HAL.out
        simp at this
        omega
      have hal : aas.length ≤ 1048576 := by omega
      clear hok hb2 hJ haasl hov
      go_wp2_with fail
      refine (Dotted_any N _ (by omega)).mono ?_
      rintro x w3 ⟨rfl, hb3⟩
      have HB3 := Lib.hid (HB2.out.trans (hb3.mono HB2.out.size))
      have HOV3 := Lib.hid (HOV.out.below hb3)
      clear hb3
      cases hd : dottedL N.data.toList with
      | false =>
        go_wp2
        go_ret
        exact ⟨rfl, HB3.out⟩
      | true =>
        have HD := Lib.hid hd
        clear hd
        go_wp2_with fail
        refine (Marked_any N _ (by omega)).mono ?_
        rintro x w4 ⟨rfl, hw4⟩
        subst hw4
        cases hmk : markedL N.data.toList with
        | true =>
          go_wp2
          go_ret
          exact ⟨rfl, HB3.out⟩
        | false =>
          have HMK := Lib.hid hmk
          clear hmk
          go_wp2
          go_loopw [4, 37] (fun r0 i wr => r0 = .bool false ∧ wr = w3 ∧ ∃ (k : Nat), i = .int .i64 k ∧ k ≤ N.size ∧ ∀ j (c : UInt8), j < k → N.data.toList[j]? = some c → c ≠ 46) (fun _ i _ => N.size - (intOf i).toNat)
          case atStart => exact ⟨rfl, rfl, 0, rfl, Nat.zero_le _, fun j c h => absurd h (Nat.not_lt_zero j)⟩
          case round =>
            obtain ⟨rfl, hwr, k, rfl, hk, hno⟩ := hrel
            subst hwr
            have HNO := Lib.hid hno
            clear hno
            by_cases hlt : k < N.size
            · obtain ⟨c, hc⟩ : ∃ c, N[k] = c := ⟨_, rfl⟩
              have hcl : N.data.toList[k]? = some c := by
                rw [← hc]
                simp [ByteArray.getElem_eq_getElem_data]
              have HCL := Lib.hid hcl
              clear hcl
              by_cases h46 : c = 46
              · have t46 : ((c.toNat : Int) == 46) = true := ceq h46
                clear h46
                go_wp2
                go_ret
                exact ⟨rfl, HB3.out⟩
              · have t46 : ((c.toNat : Int) == 46) = false := cneq h46
                have H46 := Lib.hid h46
                clear h46
                go_wp2
                go_roundw
                case rel => exact ⟨rfl, by first | trivial | rfl, k + 1, by go_num, by omega, fun j d hj hd => by
                  rcases Nat.lt_succ_iff_lt_or_eq.1 hj with hj | rfl
                  · exact HNO.out j d hj hd
                  · rw [HCL.out] at hd
                    cases hd
                    exact H46.out⟩
                case measure => simp [intOf]; omega
            · have hkn : k = N.size := by omega
              have hno46 : ∀ c ∈ N.data.toList, c ≠ 46 := by
                intro c hc
                obtain ⟨j, hj, e⟩ := List.mem_iff_getElem.1 hc
                have hNl : N.data.toList.length = N.size := Array.length_toList
                exact HNO.out j c (by omega) (by rw [List.getElem?_eq_getElem hj, e])
              have hGT := group_text HD.out hno46 HMK.out HJ.out
              obtain ⟨G, hG⟩ : ∃ G, N.data.toList ++ 58 :: (T ++ [59]) = G := ⟨_, rfl⟩
              rw [hG] at hGT
              have hNl : N.data.toList.length = N.size := Array.length_toList
              have hNe : bs N.data.toList = N := bs_of N
              have hcat : N ++ ⟨#[58]⟩ ++ bs T ++ ⟨#[59]⟩ = bs G := by
                have e1 : N ++ ⟨#[58]⟩ ++ bs T ++ ⟨#[59]⟩ = bs N.data.toList ++ bs [58] ++ bs T ++ bs [59] := by rw [hNe]; rfl
                rw [e1, bs_app, bs_app, bs_app, ← hG]
                simp
              have hGl : G.length ≤ 4294967296 := by
                rw [← hG, List.length_append, List.length_cons, List.length_append, hNl, List.length_singleton]
                omega
              have hTb : (bs T).size ≤ 4097 * n := by rw [bs_size]; exact hTl
              have HLO := Lib.hid (plist_group G N.data.toList T aas hGT hGl hal hane)
              have HTR := Lib.hid (Utf8Tabs_below HT.out HB3.out)
              have HER := Lib.hid ((HB3.out.cell (p := ⟨2, 0, none⟩) (cell_lt HE.out)).trans HE.out)
              clear hno46 hGT hG hNe hNl hGl hkn
              go_wp2_with fail
              refine (iparse_list G aas et ev _ HLO.out hal hane HTR.out HER.out).mono ?_
              rintro x w5 ⟨⟨B3, v3, rfl, hv3⟩, hb5⟩
              have HV3 := Lib.hid hv3
              have HOV5 := Lib.hid (HOV3.out.below hb5)
              have HB5 := Lib.hid (HB3.out.trans (hb5.mono HB3.out.size))
              clear hb5 hv3
              go_wp2_with fail
              refine (same_yes B3 w1.heap.size aas v3 v1 w5 HV3.out HOV5.out hal hane).mono ?_
              rintro x w6 ⟨rfl, hb6⟩
              have HB6 := Lib.hid (HB5.out.trans (hb6.mono HB5.out.size))
              clear hb6
              go_wp2
              go_ret
              exact ⟨by first | rfl | simp, HB6.out⟩
end Go.Proofs.YtpoglombagmhmaaGreatDoor
