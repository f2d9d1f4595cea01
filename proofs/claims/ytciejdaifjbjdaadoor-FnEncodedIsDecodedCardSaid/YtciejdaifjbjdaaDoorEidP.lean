/- laws.FnEncodedIsDecoded: what is encoded of a text of UTF-8 that isn't plain ASCII is decoded to it: for every input the law returns true. Conditions: the package-level variables that the row lists hold what the program's text lays. -/
import Derived.Test.YtciejdaifjbjdaaDoorEid
import Derived.Test.YtciejdaifjbjdaaDoorRows
import Derived.Test.YtciejdaifjbjdaaDoorCards
import Derived.Test.YtciejdaifjbjdaaDoorTie
import Derived.ProofKit
import Derived.PinnedBridge
import Derived.Lib.LaidU8T
import Derived.Lay
import Derived.LaidOnce
import Derived.SevenTiedAt
import Derived.OpenShut
import Derived.ChangeMaps5
namespace Go.Proofs.YtciejdaifjbjdaaDoor
open Go.ChangeMaps
open Go Go.ChangeShapes Go.WideShapes Go.ChangeAt Go.RowKit

theorem u8x : U8Extra Tryd.prog Tryd.lays196_ren := ⟨by kernel_rfl, by kernel_rfl, by kernel_rfl, by kernel_rfl, by kernel_rfl, by kernel_rfl, by kernel_rfl⟩
theorem acceptEq : (Rows.laid_unicode_utf8_acceptRanges : DataW Unit) = Lib.acceptData := by kernel_rfl
theorem firstEq : Rows.laid_unicode_utf8_first = Lib.firstData := Pinned.utf8First_eq
theorem own : ownKnob Tryd.prog.godebug = none := by kernel_rfl

def laidEid : List (String × DataW Unit) := [("unicode/utf8.acceptRanges", Rows.laid_unicode_utf8_acceptRanges), ("io.ErrShortWrite", Rows.laid_io_ErrShortWrite), ("io.errInvalidWrite", Rows.laid_io_errInvalidWrite), ("io.EOF", Rows.laid_io_EOF), ("unicode.asciiFold", Rows.laid_unicode_asciiFold), ("unicode.caseOrbit", Rows.laid_unicode_caseOrbit), ("mailtexts/pub/gomime.errInvalidWord", Rows.laid_mailtexts_pub_gomime_errInvalidWord), ("unicode.CaseRanges", Rows.laid_unicode_CaseRanges), ("unicode/utf8.first", Rows.laid_unicode_utf8_first)]

theorem tabsEid {W : World} (hL : laidMetH Tryd.prog laidEid W) : Lib.Utf8Tabs 0 1 W := by
  rw [MakeChecks.laidMetH_plain _ _ _ (by kernel_rfl)] at hL
  have h4 : Lib.VarReads Tryd.prog W "unicode/utf8.acceptRanges" Lib.acceptData := acceptEq ▸ Lib.laidMet.reads hL (by unfold laidEid; simp)
  have h3 : Lib.VarReads Tryd.prog W "unicode/utf8.first" Lib.firstData := firstEq ▸ Lib.laidMet.reads hL (by unfold laidEid; simp)
  exact utf8Tabs_of_readsT (U8Types.of196 Tryd.lays196) u8x h3 h4

set_option maxRecDepth 100000 in
theorem liftedEid (os : Os) (started : os.Started) (H : Type) (enc : TypeId × Value → H) :
    ReturnsInHanded {} Tryd.checked os 4 .any (fun w args => (Rows.fnEncodedIsDecodedSpec.pre enc Tryd.prog Tryd.f4 [] false w args ∧ laidMetH Tryd.prog laidEid w) ∧ sizedMet enc Tryd.prog Tryd.f4 (OpenSpec.ofChange Rows.fnEncodedIsDecodedSpec) false w args)
      (Rows.fnEncodedIsDecodedSpec.post enc Tryd.prog Tryd.f4 false true false false) := by
  refine returnsInHanded_of_change_and (C := Tryd.checked) (X := fun w _ => laidMetH Tryd.prog laidEid w) (fun _ _ _ hh h => h.of_heap hh) own started (by kernel_rfl) Tryd.func4
    (ChangeSpec.witness_shaped (enc := enc) (C := Tryd.checked) (os := os) (X := fun w _ => laidMetH Tryd.prog laidEid w) false (World.laidAll Tryd.prog os laidEid) #[.bool false, .string ⟨#[]⟩] 8 (World.laidAll_os _ _ _)
      (World.shaped_of_ZipB (by kernel_rfl) (by kernel_rfl)) (by kernel_rfl) (by kernel_rfl) (by kernel_rfl)
      (by rw [MakeChecks.laidMetH_plain _ _ _ (by kernel_rfl)]; exact laidMet_laidAll _ (by kernel_rfl) (by kernel_rfl))) ?_
  intro W base args ds gs before hval0 hW _ _ hL _
  have hval : ∀ (j : Nat) t v, Tryd.f4.params[j]? = some t → args[j]? = some v → Value.okWide Tryd.prog W .any base t v := hval0
  have hW' := hW
  obtain ⟨p, q, hA0, hV, rfl, _, _⟩ := hW
  have hA : DataW.TrodAll enc Tryd.prog W 0 (fun _ => true) true Tryd.f4.params.toList args.toList ds p := hA0
  rw [Tryd.params4] at hA hval
  obtain ⟨v0, v1, e0, e1, p0, p1, rfl, rfl, rfl, h0, h1⟩ := trodAll_two hA
  obtain ⟨rfl, rfl⟩ := trodVars_none hV
  obtain ⟨x, rfl, rfl, rfl⟩ := open_bool Tryd.underlying4 (hval 0 4 v0 rfl rfl) h0
  obtain ⟨s, rfl, rfl, rfl, hs⟩ := open_string Tryd.underlying9 (hval 1 9 v1 rfl rfl) h1
  simp only [List.append_nil] at hW'
  have hT := tabsEid hL
  unfold maxLen at hs
  have hK0 : 0 < W.heap.size := by
    obtain ⟨h, _⟩ := hT
    have := h 0 (by omega)
    rcases Nat.lt_or_ge 0 W.heap.size with h' | h'
    · exact h'
    · simp [World.cell?, Array.getElem?_eq_none h'] at this
  have hK1 : 1 < W.heap.size := by
    obtain ⟨_, h⟩ := hT
    have := (h 0 (by omega)).1
    rcases Nat.lt_or_ge 1 W.heap.size with h' | h'
    · exact h'
    · simp [World.cell?, Array.getElem?_eq_none h'] at this
  refine (FnEncodedIsDecoded_true x s (· < W.heap.size) W (by omega) (fun _ h => h) hT hK0 hK1).mono fun e W' ⟨he, hb⟩ => ?_
  subst he
  exact ⟨_, rfl, _, _, _, [], [], [], hW', trodAll_mk1 (shut_bool Tryd.underlying4 _), trodAll_mk2 (shut_bool Tryd.underlying4 _) (shut_string Tryd.underlying9 (by unfold maxLen; omega)), rfl, hb.below.frame _, fun h => by cases h⟩

theorem eid_said : Rows.FnEncodedIsDecodedSaid :=
  OpenClaim.holds_of_wide 4 Tryd.f4 rfl rfl rfl rfl rfl rfl rfl ⟨rfl, rfl, rfl, rfl, rfl⟩ rfl rfl rfl rfl rfl (by kernel_rfl) Tryd.func4 (by kernel_rfl)
    (of_decide_eq_true (by kernel_rfl)) (by unfold Func.isWrapper; first | (rw [if_pos (by decide +kernel)]; kernel_rfl) | (rw [if_neg (by decide +kernel)]; exact ⟨rfl, rfl⟩))
    (fun os started H enc _ => liftedEid os started H enc)

theorem encodedIsDecoded_holds : Rows.FnEncodedIsDecodedCardSaid :=
  Claim7.holds_tied_plain_at .later [] [.data, .sentinel, .sentinel, .sentinel, .data, .data, .sentinel, .pinned, .pinned] true (true, "b19000b7177403155025b8bc85fb98c053152054cf42671d04445f383c49471a") true eid_said (fun _ h => by cases h) (by kernel_rfl) (fun _ h => by cases h) fnEncodedIsDecoded_row_tie rfl ⟨rfl, rfl⟩ (by kernel_rfl) rfl
    (fun f fn hf hfn => by
      obtain rfl : f = 4 := Option.some.inj ((show Tryd.prog.funcNamed "mailtexts/laws.FnEncodedIsDecoded" = some 4 by kernel_rfl).symm.trans hf) |>.symm
      obtain rfl : fn = Tryd.f4 := (Option.some.inj (Tryd.func4.symm.trans hfn)).symm
      exact ⟨by kernel_rfl, fun j t ht => by
        rw [Tryd.params4] at ht
        have hm : t ∈ [4, 9] := by simpa using Array.mem_of_getElem? ht
        have hall : ([4, 9].all fun u => !Tryd.prog.wantsStandIn u) = true := by kernel_rfl
        exact (show Tryd.prog.wantsStandIn t = false by simpa using List.all_eq_true.1 hall t hm)⟩)
    (by kernel_rfl)
#print axioms encodedIsDecoded_holds
end Go.Proofs.YtciejdaifjbjdaaDoor
