/- laws.FnPhrase: what the reference reads as the name ahead of an address, the package reads as that phrase, and nothing is left: for every input the law returns true. Conditions: the package-level variables that the row lists hold what the program's text lays. -/
import Derived.Test.YtmcjmmcamelmcaaGreatDoorFQ
import Derived.Test.YtmcjmmcamelmcaaGreatDoorRows
import Derived.Test.YtmcjmmcamelmcaaGreatDoorCards
import Derived.Test.YtmcjmmcamelmcaaGreatDoorTie
import Derived.ProofKit
import Derived.LaidLaws
import Derived.PinnedBridge
import Derived.Lib.LaidU8T
import Derived.Lay
import Derived.LaidOnce
import Derived.SevenTiedAt
import Derived.OpenShut
import Derived.ChangeMaps5
namespace Go.Proofs.YtmcjmmcamelmcaaGreatDoor
open Go.ChangeMaps
open Go Go.ChangeShapes Go.WideShapes Go.ChangeAt Go.RowKit

theorem u8x : U8Extra Tryz.prog Tryz.lays196_ren := ⟨by kernel_rfl, by kernel_rfl, by kernel_rfl, by kernel_rfl, by kernel_rfl, by kernel_rfl, by kernel_rfl⟩
theorem acceptEq : (Rows.laid_unicode_utf8_acceptRanges : DataW Unit) = Lib.acceptData := by kernel_rfl
theorem firstEq : Rows.laid_unicode_utf8_first = Lib.firstData := Pinned.utf8First_eq
theorem own : ownKnob Tryz.prog.godebug = none := by kernel_rfl

def laidPhr : List (String × DataW Unit) := [("unicode/utf8.acceptRanges", Rows.laid_unicode_utf8_acceptRanges), ("io.ErrShortWrite", Rows.laid_io_ErrShortWrite), ("io.errInvalidWrite", Rows.laid_io_errInvalidWrite), ("io.EOF", Rows.laid_io_EOF), ("unicode.asciiFold", Rows.laid_unicode_asciiFold), ("unicode.caseOrbit", Rows.laid_unicode_caseOrbit), ("mailtexts/pub/gomime.errInvalidWord", Rows.laid_mailtexts_pub_gomime_errInvalidWord), ("unicode.CaseRanges", Rows.laid_unicode_CaseRanges), ("unicode/utf8.first", Rows.laid_unicode_utf8_first)]

theorem tabsPhr {W : World} (hL : laidMetH Tryz.prog laidPhr W) : Lib.Utf8Tabs 0 1 W := by
  rw [MakeChecks.laidMetH_plain _ _ _ (by kernel_rfl)] at hL
  have h4 : Lib.VarReads Tryz.prog W "unicode/utf8.acceptRanges" Lib.acceptData := acceptEq ▸ Lib.laidMet.reads hL (by unfold laidPhr; simp)
  have h3 : Lib.VarReads Tryz.prog W "unicode/utf8.first" Lib.firstData := firstEq ▸ Lib.laidMet.reads hL (by unfold laidPhr; simp)
  exact utf8Tabs_of_readsT (U8Types.of196 Tryz.lays196) u8x h3 h4

theorem errPhr {W : World} (hL : laidMetH Tryz.prog laidPhr W) : ∃ et ev, W.cell? ⟨2, 0, none⟩ = some (.iface et ev) := by
  rw [MakeChecks.laidMetH_plain _ _ _ (by kernel_rfl)] at hL
  obtain ⟨g, t, cs, fuel, p, hg, ht, hv, htr⟩ : Lib.VarReads Tryz.prog W "mailtexts/pub/gomime.errInvalidWord" Rows.laid_mailtexts_pub_gomime_errInvalidWord := Lib.laidMet.reads hL (by unfold laidPhr; simp)
  have hg0 : Tryz.prog.globalNamed "mailtexts/pub/gomime.errInvalidWord" = some 2 := by kernel_rfl
  obtain rfl : g = 2 := Option.some.inj (hg.symm.trans hg0)
  have ht0 : (Tryz.prog.globals[2]?).map (·.type) = some 57 := by kernel_rfl
  obtain rfl : t = 57 := Option.some.inj (ht.symm.trans ht0)
  unfold World.var? at hv
  rw [hg0] at hv
  simp only [Option.bind_some] at hv
  obtain ⟨fuel', u, v, hcs, _, _⟩ := iface_of_trod Tryz.underlying57 htr
  refine ⟨u, v, ?_⟩
  cases hh : W.heap[2]? with
  | none => rw [hh] at hv; cases hv
  | some o =>
    rw [hh] at hv
    cases o with
    | cells cs' t' z =>
      simp only [Option.some.injEq] at hv
      subst hv
      rw [Lib.cell_of_heap hh]
      have : cs'[0]? = cs'.toList[0]? := by simp
      rw [this, hcs]; rfl
    | _ => cases hv

set_option maxRecDepth 100000 in
theorem liftedPhr (os : Os) (started : os.Started) (H : Type) (enc : TypeId × Value → H) :
    ReturnsInHanded {} Tryz.checked os 3 .any (fun w args => (Rows.fnPhraseSpec.pre enc Tryz.prog Tryz.f3 [] false w args ∧ laidMetH Tryz.prog laidPhr w) ∧ sizedMet enc Tryz.prog Tryz.f3 (OpenSpec.ofChange Rows.fnPhraseSpec) false w args)
      (Rows.fnPhraseSpec.post enc Tryz.prog Tryz.f3 false true false false) := by
  refine returnsInHanded_of_change_and (C := Tryz.checked) (X := fun w _ => laidMetH Tryz.prog laidPhr w) (fun _ _ _ hh h => h.of_heap hh) own started (by kernel_rfl) Tryz.func3
    (ChangeSpec.witness_shaped (enc := enc) (C := Tryz.checked) (os := os) (X := fun w _ => laidMetH Tryz.prog laidPhr w) false (World.laidAll Tryz.prog os laidPhr) #[.string ⟨#[]⟩] 8 (World.laidAll_os _ _ _)
      (World.shaped_of_ZipB (by kernel_rfl) (by kernel_rfl)) (by kernel_rfl) (by kernel_rfl) (by kernel_rfl)
      (by rw [MakeChecks.laidMetH_plain _ _ _ (by kernel_rfl)]; exact laidMet_laidAll _ (by kernel_rfl) (by kernel_rfl))) ?_
  intro W base args ds gs before hval0 hW _ _ hL _
  have hval : ∀ (j : Nat) t v, Tryz.f3.params[j]? = some t → args[j]? = some v → Value.okWide Tryz.prog W .any base t v := hval0
  have hW' := hW
  obtain ⟨p, q, hA0, hV, rfl, _, _⟩ := hW
  have hA : DataW.TrodAll enc Tryz.prog W 0 (fun _ => true) true Tryz.f3.params.toList args.toList ds p := hA0
  rw [Tryz.params3] at hA hval
  obtain ⟨v0, e0, rfl, rfl, h0⟩ := trodAll_one hA
  obtain ⟨rfl, rfl⟩ := trodVars_none hV
  obtain ⟨s, rfl, rfl, rfl, hs⟩ := open_string Tryz.underlying9 (hval 0 9 v0 rfl rfl) h0
  simp only [List.append_nil] at hW'
  have hT := tabsPhr hL
  obtain ⟨et, ev, he⟩ := errPhr hL
  unfold maxLen at hs
  refine (FnPhrase_true s et ev W (by omega) hT he).mono fun e W' ⟨he, hb⟩ => ?_
  subst he
  exact ⟨_, rfl, _, _, _, [], [], [], hW', trodAll_mk1 (shut_bool Tryz.underlying4 _), trodAll_mk1 (shut_string Tryz.underlying9 (by unfold maxLen; omega)), rfl, hb.frame _, fun h => by cases h⟩

theorem phr_said : Rows.FnPhraseSaid :=
  OpenClaim.holds_of_wide 3 Tryz.f3 rfl rfl rfl rfl rfl rfl rfl ⟨rfl, rfl, rfl, rfl, rfl⟩ rfl rfl rfl rfl rfl (by kernel_rfl) Tryz.func3 (by kernel_rfl)
    (of_decide_eq_true (by kernel_rfl)) (by unfold Func.isWrapper; first | (rw [if_pos (by decide +kernel)]; kernel_rfl) | (rw [if_neg (by decide +kernel)]; exact ⟨rfl, rfl⟩))
    (fun os started H enc _ => liftedPhr os started H enc)

theorem phrase_holds : Rows.FnPhraseCardSaid :=
  Claim7.holds_tied_plain_at .later [] [.data, .sentinel, .sentinel, .sentinel, .data, .data, .sentinel, .pinned, .pinned] true (true, "14d38250a7820b55f87dcf448475700374213f089764aee7c75f20f6198465a5") true phr_said (fun _ h => by cases h) (by kernel_rfl) (fun _ h => by cases h) fnPhrase_row_tie rfl ⟨rfl, rfl⟩ (by kernel_rfl) rfl
    (fun f fn hf hfn => by
      obtain rfl : f = 3 := Option.some.inj ((show Tryz.prog.funcNamed "mailtexts/laws.FnPhrase" = some 3 by kernel_rfl).symm.trans hf) |>.symm
      obtain rfl : fn = Tryz.f3 := (Option.some.inj (Tryz.func3.symm.trans hfn)).symm
      exact ⟨by kernel_rfl, fun j t ht => by
        rw [Tryz.params3] at ht
        have hm : t ∈ [9] := by simpa using Array.mem_of_getElem? ht
        have hall : ([9].all fun u => !Tryz.prog.wantsStandIn u) = true := by kernel_rfl
        exact (show Tryz.prog.wantsStandIn t = false by simpa using List.all_eq_true.1 hall t hm)⟩)
    (by kernel_rfl)
#print axioms phrase_holds
end Go.Proofs.YtmcjmmcamelmcaaGreatDoor
