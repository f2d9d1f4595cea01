/- laws.FnPrintedIsAnAddress: the walk. -/
import Derived.Test.YtciejdaifjbjdaaDoorY1
namespace Go.Proofs.YtciejdaifjbjdaaDoor
open Go Go.RowKit

set_option maxHeartbeats 4000000 in
set_option maxRecDepth 100000 in
theorem FnPrintedIsAnAddress_true (n l d : ByteArray) (w : World) (hn : n.size ≤ 9223372036854775807) (hl : l.size ≤ 9223372036854775807) (hd : d.size ≤ 9223372036854775807) (hT : Lib.Utf8Tabs 0 1 w) :
    Calls Tryd.prog 3 #[.string n, .string l, .string d] w fun x w' => x = .returned (.bool true) ∧ Below w.heap.size w w' := by
  have HT := Lib.hid hT
  clear hT
  by_cases z0 : (2147483647 : Int) < (n.size : Int)
  · go_enter Tryd.func3, Tryd.ntmps3
    go_wp2
    go_ret
    exact ⟨rfl, Below.refl _ _⟩
  · by_cases z1 : (2147483647 : Int) < (l.size : Int)
    · go_enter Tryd.func3, Tryd.ntmps3
      go_wp2
      go_ret
      exact ⟨rfl, Below.refl _ _⟩
    · by_cases z2 : (2147483647 : Int) < (d.size : Int)
      · go_enter Tryd.func3, Tryd.ntmps3
        go_wp2
        go_ret
        exact ⟨rfl, Below.refl _ _⟩
      · cases hm : madeG n.data.toList l.data.toList d.data.toList with
        | false =>
          have HM := Lib.hid hm
          clear hm
          go_enter Tryd.func3, Tryd.ntmps3
          go_wp2_with fail
          refine (made_any n l d _ (by omega) (by omega) (by omega) HT.out).mono ?_
          rintro x w1 ⟨hx, hb1⟩
          unfold MadeRet at hx
          rw [HM.out] at hx
          subst hx
          have HB1 := Lib.hid hb1
          clear hb1
          go_wp2
          go_ret
          exact ⟨rfl, HB1.out.alloc HB1.out.size _⟩
        | true =>
          have HM := Lib.hid hm
          clear hm
          go_enter Tryd.func3, Tryd.ntmps3
          go_wp2_with fail
          refine (made_any n l d _ (by omega) (by omega) (by omega) HT.out).mono ?_
          rintro x w1 ⟨hx, hb1⟩
          unfold MadeRet at hx
          rw [HM.out] at hx
          subst hx
          have HB1 := Lib.hid hb1
          clear hb1
          have hm := HM.out
          unfold madeG at hm
          rw [Bool.and_eq_true, Bool.and_eq_true, Bool.and_eq_true, Bool.and_eq_true] at hm
          obtain ⟨⟨⟨⟨m1, m2⟩, m3⟩, m4⟩, m5⟩ := hm
          have hll : l.data.toList.length = l.size := Array.length_toList
          have hdl : d.data.toList.length = d.size := Array.length_toList
          have hnl : n.data.toList.length = n.size := Array.length_toList
          have hz : n.size + l.size + d.size ≤ 4096 := by have := of_decide_eq_true m5; omega
          obtain ⟨X, hX⟩ : ∃ X : ByteArray, (l ++ ⟨#[64]⟩ ++ d : ByteArray) = X := ⟨_, rfl⟩
          have hXL : X.data.toList = l.data.toList ++ [64] ++ d.data.toList := by rw [← hX]; simp
          have hXB : bs (l.data.toList ++ [64] ++ d.data.toList) = X := by rw [← hXL, bs_of]
          have HPR := Lib.hid (fun W hT => Print_plain n X l d W hXL m3 m4 hz hT m2 (slash_ok m1))
          have HONE := Lib.hid (fun out W h hT => One_printed n l.data.toList d.data.toList out W h m3 m4 (by omega) hT)
          have HPT := Lib.hid (fun out h => printed_tokens (out := out) h m3 m4 (by omega : n.size + l.data.toList.length + d.data.toList.length ≤ 4096))
          rw [hXB] at HONE
          rw [hX]
          have hA1 := heap_alloc_new w1 (.cells #[.string n, .string X] 23)
          have hB2 := HB1.out.alloc HB1.out.size (.cells #[.string n, .string X] 23)
          have hT2 := Utf8Tabs_below HT.out hB2
          have HB2 := Lib.hid hB2; have HA1 := Lib.hid hA1; have HT2 := Lib.hid hT2
          clear m1 m2 m3 m4 m5 hX hXL hXB hA1 hB2 hT2 hll hdl hnl hz z0 z1 z2 hn hl hd
          go_wp2_with fail
          rw [show (w1.alloc (.cells #[.string n, .string X] 23)) = w1.alloc (.cells #[.string n, .string X] 23) from rfl]
          obtain ⟨ab, hab⟩ : ∃ ab, w1.heap.size = ab := ⟨_, rfl⟩
          have hwab : w.heap.size ≤ ab := by rw [← hab]; exact HB1.out.size
          rw [hab] at HA1
          have HAB := Lib.hid hab
          clear hab
          generalize w1.alloc (.cells #[.string n, .string X] 23) = w2 at HB2 HA1 HT2 ⊢
          rw [HAB.out]
          refine (HPR.out _ HT2.out).mono ?_
          rintro x w3 ⟨⟨out, rfl, hp⟩, hb3⟩
          have hlt : ab < w2.heap.size := (Array.getElem?_eq_some_iff.1 HA1.out).1
          have HA3 := Lib.hid ((hb3.block ab hlt).trans HA1.out)
          have HB3 := Lib.hid (HB2.out.trans (hb3.mono HB2.out.size))
          have HT3 := Lib.hid (Utf8Tabs_below HT.out HB3.out)
          have HP := Lib.hid hp
          obtain ⟨hpl, hol, _⟩ := HPT.out out hp
          clear hb3 hp HPR HPT HA1 HB2 HT2 hlt
          have HPL := Lib.hid hpl
          clear hpl
          go_wp2_with fail
          refine (HONE.out out _ HP.out HT3.out).mono ?_
          rintro x w4 ⟨rfl, hb4⟩
          have hlt : ab < w3.heap.size := (Array.getElem?_eq_some_iff.1 HA3.out).1
          have HA4 := Lib.hid ((hb4.block ab hlt).trans HA3.out)
          have HB4 := Lib.hid (HB3.out.trans (hb4.mono HB3.out.size))
          clear hb4 hlt HA3 HB3 HT3 HONE
          go_wp2_with fail
          obtain ⟨cb, hcb⟩ : ∃ cb, w4.heap.size = cb := ⟨_, rfl⟩
          have hA5 := heap_alloc_new w4 (.cells #[.string n, .string X] 27)
          have hA6 : (w4.alloc (.cells #[.string n, .string X] 27)).heap[ab]? = some (.cells #[.string n, .string X] 23 (0, 0)) := (Below.heap_alloc w4 _ ab (Array.getElem?_eq_some_iff.1 HA4.out).1).trans HA4.out
          have HB5 := Lib.hid (HB4.out.alloc HB4.out.size (.cells #[.string n, .string X] 27))
          rw [hcb] at hA5
          have HCB := Lib.hid hcb
          clear hcb
          rw [HCB.out]
          generalize w4.alloc (.cells #[.string n, .string X] 27) = w5 at hA5 hA6 HB5 ⊢
          refine (plain_any _ _ (by show out.toArray.size ≤ _; simp; omega)).mono ?_
          rintro x w6 ⟨rfl, rfl⟩
          have c0 : w5.cell? ⟨cb, 0, none⟩ = some (.string n) := by rw [Lib.cell_of_heap hA5]; rfl
          have c1 : w5.cell? ⟨cb, 1, none⟩ = some (.string X) := by rw [Lib.cell_of_heap hA5]; rfl
          have c2 : w5.cell? ⟨ab, 1, none⟩ = some (.string X) := by rw [Lib.cell_of_heap hA6]; rfl
          clear hA5 hA6
          rw [show plainL (⟨out.toArray⟩ : ByteArray).data.toList = true from HPL.out]
          go_wp2
          go_ret
          exact ⟨by first | rfl | simp, HB5.out⟩
end Go.Proofs.YtciejdaifjbjdaaDoor
