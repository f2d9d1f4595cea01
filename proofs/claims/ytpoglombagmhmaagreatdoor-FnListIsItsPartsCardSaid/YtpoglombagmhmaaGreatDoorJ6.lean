/- laws.FnListIsItsParts: for every input the law returns true: the walk. -/
import Derived.Test.YtpoglombagmhmaaGreatDoorJ3
import Derived.Test.YtpoglombagmhmaaGreatDoorJ5
namespace Go.Proofs.YtpoglombagmhmaaGreatDoor
open Go Go.RowKit

theorem one_parse {S : ByteArray} {p : List UInt8 × List UInt8} (h : OneOk S p) : ∃ l, AddrT [] l (S.data.toList.dropWhile isSp) p.1 p.2 ∧ GoodS S.data.toList := by
  obtain ⟨ts, l, h1, h2⟩ := h
  obtain ⟨h3, h4⟩ := tokens_good h1
  exact ⟨l, addrT_of (Z := []) (b := false) h2 (by rw [List.append_nil]; exact h3) (fun z r e => by cases e), h4⟩

set_option maxHeartbeats 1000000 in
set_option maxRecDepth 100000 in
theorem FnListIsItsParts_true (v0 : Value) (n : Nat) (f : Nat → ByteArray) (et : TypeId) (ev : Value) (w : World) (h : StrArg v0 n f w.heap.size w) (hT : Lib.Utf8Tabs 0 1 w) (he : w.cell? ⟨2, 0, none⟩ = some (.iface et ev)) :
    Calls Tryz.prog 4 #[v0] w fun x w' => x = .returned (.bool true) ∧ Below w.heap.size w w' := by
  obtain ⟨p0, c0, rfl, hm⟩ := h.slice
  unfold maxLen at hm
  have H := Lib.hid h; have HT := Lib.hid hT; have HE := Lib.hid he
  clear h hT he
  go_enter Tryz.func4, Tryz.ntmps4
  go_wp2_with fail
  refine (fits_arg H.out).mono ?_
  rintro x w1 ⟨⟨b, rfl, hb⟩, hw1⟩
  subst hw1
  cases b with
  | false =>
    go_wp2
    go_ret
    exact ⟨rfl, Below.refl _ _⟩
  | true =>
    obtain ⟨hn0, hf0⟩ := hb rfl
    have HF := Lib.hid hf0
    clear hb hf0
    go_wp2_with fail
    refine (joined_any _ n f _ H.out HF.out HT.out).mono ?_
    rintro x w2 ⟨⟨T, v1, ok, rfl, hok⟩, hb2⟩
    have HB2 := Lib.hid hb2
    cases ok with
    | false =>
      go_wp2
      go_ret
      exact ⟨rfl, HB2.out⟩
    | true =>
      obtain ⟨aas, hn1, hn100, hasl, _, hJ, hTl, heach⟩ := hok rfl
      have HJ := Lib.hid hJ; have HEA := Lib.hid heach; have HAL := Lib.hid hasl
      have hane : aas ≠ [] := by
        rintro rfl
        have := HAL.out
        simp at this
        omega
      have hal : aas.length ≤ 1048576 := by omega
      obtain ⟨a, rfl⟩ : ∃ a, p0 = some a := by
        rcases H.out.form with ⟨h, h2⟩ | ⟨a, cap, h, _⟩
        · exact absurd h2 (by omega)
        · cases h; exact ⟨a, rfl⟩
      have hcs : ∀ j, j < n → w1.cell? (a.add j) = some (.string (f j)) ∧ (a.add j).block < w1.heap.size := by
        rcases H.out.form with ⟨h, h2⟩ | ⟨a', cap, h, _, _, h4⟩
        · exact absurd h2 (by omega)
        · cases h; exact h4
      have HCS := Lib.hid hcs
      clear hok hb2 hJ heach hasl hcs
      go_wp2
      go_loopw [2, 6, 25] (fun r0 o i wr => r0 = .bool false ∧ ∃ (k : Nat) (qa : Option Addr) (qc : Nat), i = .int .i64 k ∧ k ≤ n ∧ o = .slice qa k qc ∧ OwnId w1.heap.size (aas.take k) (.slice qa k qc) wr ∧ Below w1.heap.size w1 wr) (fun _ _ i _ => n - (intOf i).toNat)
      case atStart => exact ⟨rfl, 0, none, 0, rfl, Nat.zero_le _, rfl, OwnId.nil _ _, HB2.out⟩
      case round =>
        obtain ⟨rfl, k, qa, qc, rfl, hk, rfl, hown, hb⟩ := hrel
        have HO := Lib.hid hown; have HB := Lib.hid hb
        have hsz := hb.size
        clear hown hb
        have HTR := Lib.hid (Utf8Tabs_below HT.out HB.out)
        have HER := Lib.hid ((HB.out.cell (p := ⟨2, 0, none⟩) (cell_lt HE.out)).trans HE.out)
        by_cases hlt : k < n
        · obtain ⟨hc, hblk⟩ := HCS.out k hlt
          have hcw : wr.cell? (a.add k) = some (.string (f k)) := by rw [HB.out.cell hblk]; exact hc
          obtain ⟨hs4, p, hp, hone⟩ := HEA.out k hlt
          obtain ⟨S, hS⟩ : ∃ S, f k = S := ⟨_, rfl⟩
          rw [hS] at hcw hs4 hone
          obtain ⟨l, hadr, hgood⟩ := one_parse hone
          obtain ⟨R, hR⟩ : ∃ R, S.data.toList = R := ⟨_, rfl⟩
          have hSR : S = bs R := by rw [← hR, bs_of]
          have hRl : R.length ≤ 4294967296 := by rw [← hR, Array.length_toList]; show S.size ≤ _; omega
          rw [hR] at hadr hgood
          rw [hSR] at hcw
          have HAD := Lib.hid hadr; have HGO := Lib.hid hgood
          have htk : (aas.take k).length = k := by rw [List.length_take, HAL.out]; omega
          have HTK := Lib.hid (take_get hp)
          clear hc hblk hp hone hS hadr hgood hR hSR hs4
          go_wp2_with fail
          refine (parse_one l R p.1 p.2 et ev wr HGO.out hRl HAD.out HTR.out HER.out).mono ?_
          rintro x w3 ⟨rfl, hb3⟩
          have HO3 := Lib.hid (HO.out.below hb3)
          have HB3 := Lib.hid (HB.out.trans (hb3.mono hsz))
          have hsz3 := HB3.out.size
          clear hb3 hcw
          go_upto_region 13 with fail
          obtain ⟨ab, hab⟩ : ∃ ab, w3.heap.size = ab := ⟨_, rfl⟩
          have HA := Lib.hid (heap_alloc_new w3 (.cells #[.string (bs p.1), .string (bs p.2)] 34))
          have hbw := (Below.refl w3.heap.size w3).alloc (Nat.le_refl _) (.cells #[.string (bs p.1), .string (bs p.2)] 34)
          have HO4 := Lib.hid (HO3.out.below hbw)
          have HB4 := Lib.hid (HB3.out.trans (hbw.mono hsz3))
          clear hbw
          rw [hab] at HA ⊢
          clear hab
          generalize w3.alloc (.cells #[.string (bs p.1), .string (bs p.2)] 34) = w4 at HA HO4 HB4 ⊢
          have c0 : w4.cell? ⟨ab, 0, none⟩ = some (.string (bs p.1)) := by rw [Lib.cell_of_heap HA.out]; rfl
          have c1 : w4.cell? ⟨ab, 1, none⟩ = some (.string (bs p.2)) := by rw [Lib.cell_of_heap HA.out]; rfl
          have hsz4 := HB4.out.size
          go_wp2_with (at_builtin; refine wpList_push_Id rfl _ _ rfl w1.heap.size (aas.take k) _ p.1 p.2 w4 HO4.out hsz4 ?c4 rfl rfl ?_)
          case c4 => omega
          intro v' w5 hown' hg' hat'
          obtain ⟨qa', qc', hv'⟩ := hown'.form
          rw [List.length_append, htk, List.length_singleton] at hv'
          have HO5 := Lib.hid hown'
          have HB5 := Lib.hid ((HB4.out.alloc hsz4 _).grown hg' (by simp; omega) (fun j e => (HO4.out.block j e).1))
          subst hv'
          clear hown' hg' hat'
          go_wp2
          go_roundw
          case rel => exact ⟨rfl, k + 1, qa', qc', by go_num, by omega, rfl, by rw [HTK.out]; exact HO5.out, HB5.out⟩
          case measure => simp [intOf]; omega
        · have hkn : k = n := by omega
          have htk : aas.take k = aas := List.take_of_length_le (by rw [HAL.out]; omega)
          rw [htk] at HO
          clear htk hkn
          go_wp2_with fail
          refine (iparse_list T aas et ev wr (listOf_joined HJ.out (by omega) hal) hal hane HTR.out HER.out).mono ?_
          rintro x w3 ⟨⟨B3, v3, rfl, hv3⟩, hb3⟩
          have HO3 := Lib.hid (HO.out.below hb3)
          have HV3 := Lib.hid hv3
          have HB3 := Lib.hid (HB.out.trans (hb3.mono hsz))
          have hsz3 := HB3.out.size
          clear hb3 hv3
          go_wp2_with fail
          refine (told_any w1.heap.size aas _ w3 HO3.out hal hane).mono ?_
          rintro x w4 ⟨⟨v4, rfl, hv4⟩, hb4⟩
          have HV4 := Lib.hid hv4
          have HV34 := Lib.hid (HV3.out.below hb4)
          have HB4 := Lib.hid (HB3.out.trans (hb4.mono hsz3))
          have hsz4 := HB4.out.size
          clear hb4 hv4
          go_wp2_with fail
          refine (same_yes B3 w3.heap.size aas v3 v4 w4 HV34.out HV4.out hal hane).mono ?_
          rintro x w5 ⟨rfl, hb5⟩
          have HB5 := Lib.hid (HB4.out.trans (hb5.mono hsz4))
          clear hb5
          go_wp2
          go_ret
          exact ⟨by first | rfl | simp, HB5.out⟩
end Go.Proofs.YtpoglombagmhmaaGreatDoor
