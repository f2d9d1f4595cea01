/- laws.FnPrintedIsAnAddress: what is printed of an address is by RFC 5322 and RFC 2047 one address, with the same name, in printable signs of ASCII and tabs: for every input the law returns true. Conditions: the package-level variables that the row lists hold what the program's text lays. -/
import Derived.Test.YtciejdaifjbjdaaDoorY2
import Derived.Test.YtciejdaifjbjdaaDoorRows
import Derived.Test.YtciejdaifjbjdaaDoorCards
import Derived.Test.YtciejdaifjbjdaaDoorTie
import Derived.ProofKit
import Derived.PinnedBridge
import Derived.Lib.LaidU8T
import Derived.Lay
import Derived.LaidOnce
import Derived.SevenTiedAt
import Derived.OpenShut
import Derived.ChangeMaps5
namespace Go.Proofs.YtciejdaifjbjdaaDoor
open Go.ChangeMaps
open Go Go.ChangeShapes Go.WideShapes Go.ChangeAt Go.RowKit

theorem u8x : U8Extra Tryd.prog Tryd.lays196_ren := ⟨by kernel_rfl, by kernel_rfl, by kernel_rfl, by kernel_rfl, by kernel_rfl, by kernel_rfl, by kernel_rfl⟩
theorem acceptEq : (Rows.laid_unicode_utf8_acceptRanges : DataW Unit) = Lib.acceptData := by kernel_rfl
theorem firstEq : Rows.laid_unicode_utf8_first = Lib.firstData := Pinned.utf8First_eq
theorem own : ownKnob Tryd.prog.godebug = none := by kernel_rfl

def laidPia : List (String × DataW Unit) := [("unicode/utf8.acceptRanges", Rows.laid_unicode_utf8_acceptRanges), ("unicode.asciiFold", Rows.laid_unicode_asciiFold), ("unicode.caseOrbit", Rows.laid_unicode_caseOrbit), ("unicode.CaseRanges", Rows.laid_unicode_CaseRanges), ("unicode/utf8.first", Rows.laid_unicode_utf8_first)]

theorem tabsPia {W : World} (hL : laidMetH Tryd.prog laidPia W) : Lib.Utf8Tabs 0 1 W := by
  rw [MakeChecks.laidMetH_plain _ _ _ (by kernel_rfl)] at hL
  have h4 : Lib.VarReads Tryd.prog W "unicode/utf8.acceptRanges" Lib.acceptData := acceptEq ▸ Lib.laidMet.reads hL (by unfold laidPia; simp)
  have h3 : Lib.VarReads Tryd.prog W "unicode/utf8.first" Lib.firstData := firstEq ▸ Lib.laidMet.reads hL (by unfold laidPia; simp)
  exact utf8Tabs_of_readsT (U8Types.of196 Tryd.lays196) u8x h3 h4

set_option maxRecDepth 100000 in
theorem liftedPia (os : Os) (started : os.Started) (H : Type) (enc : TypeId × Value → H) :
    ReturnsInHanded {} Tryd.checked os 3 .any (fun w args => (Rows.fnPrintedIsAnAddressSpec.pre enc Tryd.prog Tryd.f3 [] false w args ∧ laidMetH Tryd.prog laidPia w) ∧ sizedMet enc Tryd.prog Tryd.f3 (OpenSpec.ofChange Rows.fnPrintedIsAnAddressSpec) false w args)
      (Rows.fnPrintedIsAnAddressSpec.post enc Tryd.prog Tryd.f3 false true false false) := by
  refine returnsInHanded_of_change_and (C := Tryd.checked) (X := fun w _ => laidMetH Tryd.prog laidPia w) (fun _ _ _ hh h => h.of_heap hh) own started (by kernel_rfl) Tryd.func3
    (ChangeSpec.witness_shaped (enc := enc) (C := Tryd.checked) (os := os) (X := fun w _ => laidMetH Tryd.prog laidPia w) false (World.laidAll Tryd.prog os laidPia) #[.string ⟨#[]⟩, .string ⟨#[]⟩, .string ⟨#[]⟩] 8 (World.laidAll_os _ _ _)
      (World.shaped_of_ZipB (by kernel_rfl) (by kernel_rfl)) (by kernel_rfl) (by kernel_rfl) (by kernel_rfl)
      (by rw [MakeChecks.laidMetH_plain _ _ _ (by kernel_rfl)]; exact laidMet_laidAll _ (by kernel_rfl) (by kernel_rfl))) ?_
  intro W base args ds gs before hval0 hW _ _ hL _
  have hval : ∀ (j : Nat) t v, Tryd.f3.params[j]? = some t → args[j]? = some v → Value.okWide Tryd.prog W .any base t v := hval0
  have hW' := hW
  obtain ⟨p, q, hA0, hV, rfl, _, _⟩ := hW
  have hA : DataW.TrodAll enc Tryd.prog W 0 (fun _ => true) true Tryd.f3.params.toList args.toList ds p := hA0
  rw [Tryd.params3] at hA hval
  obtain ⟨v0, v1, v2, e0, e1, e2, p0, p1, p2, rfl, rfl, rfl, h0, h1, h2⟩ := trodAll_three hA
  obtain ⟨rfl, rfl⟩ := trodVars_none hV
  obtain ⟨s0, rfl, rfl, rfl, hs0⟩ := open_string Tryd.underlying9 (hval 0 9 v0 rfl rfl) h0
  obtain ⟨s1, rfl, rfl, rfl, hs1⟩ := open_string Tryd.underlying9 (hval 1 9 v1 rfl rfl) h1
  obtain ⟨s2, rfl, rfl, rfl, hs2⟩ := open_string Tryd.underlying9 (hval 2 9 v2 rfl rfl) h2
  simp only [List.append_nil] at hW'
  have hT := tabsPia hL
  unfold maxLen at hs0 hs1 hs2
  refine (FnPrintedIsAnAddress_true s0 s1 s2 W (by omega) (by omega) (by omega) hT).mono fun e W' ⟨he, hb⟩ => ?_
  subst he
  exact ⟨_, rfl, _, _, _, [], [], [], hW', trodAll_mk1 (shut_bool Tryd.underlying4 _), trodAll_mk3 (shut_string Tryd.underlying9 (by unfold maxLen; omega)) (shut_string Tryd.underlying9 (by unfold maxLen; omega)) (shut_string Tryd.underlying9 (by unfold maxLen; omega)), rfl, hb.frame _, fun h => by cases h⟩

theorem pia_said : Rows.FnPrintedIsAnAddressSaid :=
  OpenClaim.holds_of_wide 3 Tryd.f3 rfl rfl rfl rfl rfl rfl rfl ⟨rfl, rfl, rfl, rfl, rfl⟩ rfl rfl rfl rfl rfl (by kernel_rfl) Tryd.func3 (by kernel_rfl)
    (of_decide_eq_true (by kernel_rfl)) (by unfold Func.isWrapper; first | (rw [if_pos (by decide +kernel)]; kernel_rfl) | (rw [if_neg (by decide +kernel)]; exact ⟨rfl, rfl⟩))
    (fun os started H enc _ => liftedPia os started H enc)

theorem printedIsAnAddress_holds : Rows.FnPrintedIsAnAddressCardSaid :=
  Claim7.holds_tied_plain_at .later [] [.data, .data, .data, .pinned, .pinned] true (true, "b19000b7177403155025b8bc85fb98c053152054cf42671d04445f383c49471a") true pia_said (fun _ h => by cases h) (by kernel_rfl) (fun _ h => by cases h) fnPrintedIsAnAddress_row_tie rfl ⟨rfl, rfl⟩ (by kernel_rfl) rfl
    (fun f fn hf hfn => by
      obtain rfl : f = 3 := Option.some.inj ((show Tryd.prog.funcNamed "mailtexts/laws.FnPrintedIsAnAddress" = some 3 by kernel_rfl).symm.trans hf) |>.symm
      obtain rfl : fn = Tryd.f3 := (Option.some.inj (Tryd.func3.symm.trans hfn)).symm
      exact ⟨by kernel_rfl, fun j t ht => by
        rw [Tryd.params3] at ht
        have hm : t ∈ [9, 9, 9] := by simpa using Array.mem_of_getElem? ht
        have hall : ([9, 9, 9].all fun u => !Tryd.prog.wantsStandIn u) = true := by kernel_rfl
        exact (show Tryd.prog.wantsStandIn t = false by simpa using List.all_eq_true.1 hall t hm)⟩)
    (by kernel_rfl)
#print axioms printedIsAnAddress_holds
end Go.Proofs.YtciejdaifjbjdaaDoor
