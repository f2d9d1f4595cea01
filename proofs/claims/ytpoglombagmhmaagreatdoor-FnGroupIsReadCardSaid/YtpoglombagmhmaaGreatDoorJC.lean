/- laws.FnGroupIsRead: a group of addresses, behind a name that is an atom, is read as all its addresses: for every input the law returns true. Conditions: the package-level variables that the row lists hold what the program's text lays. -/
import Derived.Test.YtpoglombagmhmaaGreatDoorJB
import Derived.SliceStrings
import Derived.Carry
import Derived.Test.YtpoglombagmhmaaGreatDoorRows
import Derived.Test.YtpoglombagmhmaaGreatDoorCards
import Derived.Test.YtpoglombagmhmaaGreatDoorTie
import Derived.ProofKit
import Derived.LaidLaws
import Derived.PinnedBridge
import Derived.Lib.LaidU8T
import Derived.Lay
import Derived.LaidOnce
import Derived.SevenTiedAt
import Derived.OpenShut
import Derived.ChangeMaps5
namespace Go.Proofs.YtpoglombagmhmaaGreatDoor
open Go.ChangeMaps
open Go Go.ChangeShapes Go.WideShapes Go.ChangeAt Go.RowKit

theorem u8x : U8Extra Tryz.prog Tryz.lays196_ren := ⟨by kernel_rfl, by kernel_rfl, by kernel_rfl, by kernel_rfl, by kernel_rfl, by kernel_rfl, by kernel_rfl⟩
theorem acceptEq : (Rows.laid_unicode_utf8_acceptRanges : DataW Unit) = Lib.acceptData := by kernel_rfl
theorem firstEq : Rows.laid_unicode_utf8_first = Lib.firstData := Pinned.utf8First_eq
theorem own : ownKnob Tryz.prog.godebug = none := by kernel_rfl

def laidGr : List (String × DataW Unit) := [("unicode/utf8.acceptRanges", Rows.laid_unicode_utf8_acceptRanges), ("io.ErrShortWrite", Rows.laid_io_ErrShortWrite), ("io.errInvalidWrite", Rows.laid_io_errInvalidWrite), ("io.EOF", Rows.laid_io_EOF), ("unicode.asciiFold", Rows.laid_unicode_asciiFold), ("unicode.caseOrbit", Rows.laid_unicode_caseOrbit), ("mailtexts/pub/gomime.errInvalidWord", Rows.laid_mailtexts_pub_gomime_errInvalidWord), ("net/netip.z4", Rows.laid_net_netip_z4), ("net/netip.z6noz", Rows.laid_net_netip_z6noz), ("net/netip.z0", Rows.laid_net_netip_z0), ("unicode.CaseRanges", Rows.laid_unicode_CaseRanges), ("unicode/utf8.first", Rows.laid_unicode_utf8_first)]

theorem tabsGr {W : World} (hL : laidMetH Tryz.prog laidGr W) : Lib.Utf8Tabs 0 1 W := by
  rw [MakeChecks.laidMetH_plain _ _ _ (by kernel_rfl)] at hL
  have h4 : Lib.VarReads Tryz.prog W "unicode/utf8.acceptRanges" Lib.acceptData := acceptEq ▸ Lib.laidMet.reads hL (by unfold laidGr; simp)
  have h3 : Lib.VarReads Tryz.prog W "unicode/utf8.first" Lib.firstData := firstEq ▸ Lib.laidMet.reads hL (by unfold laidGr; simp)
  exact utf8Tabs_of_readsT (U8Types.of196 Tryz.lays196) u8x h3 h4

theorem errGr {W : World} (hL : laidMetH Tryz.prog laidGr W) : ∃ et ev, W.cell? ⟨2, 0, none⟩ = some (.iface et ev) := by
  rw [MakeChecks.laidMetH_plain _ _ _ (by kernel_rfl)] at hL
  obtain ⟨g, t, cs, fuel, p, hg, ht, hv, htr⟩ : Lib.VarReads Tryz.prog W "mailtexts/pub/gomime.errInvalidWord" Rows.laid_mailtexts_pub_gomime_errInvalidWord := Lib.laidMet.reads hL (by unfold laidGr; simp)
  have hg0 : Tryz.prog.globalNamed "mailtexts/pub/gomime.errInvalidWord" = some 2 := by kernel_rfl
  obtain rfl : g = 2 := Option.some.inj (hg.symm.trans hg0)
  have ht0 : (Tryz.prog.globals[2]?).map (·.type) = some 44 := by kernel_rfl
  obtain rfl : t = 44 := Option.some.inj (ht.symm.trans ht0)
  unfold World.var? at hv
  rw [hg0] at hv
  simp only [Option.bind_some] at hv
  obtain ⟨fuel', u, v, hcs, _, _⟩ := iface_of_trod Tryz.underlying44 htr
  refine ⟨u, v, ?_⟩
  cases hh : W.heap[2]? with
  | none => rw [hh] at hv; cases hv
  | some o =>
    rw [hh] at hv
    cases o with
    | cells cs' t' z =>
      simp only [Option.some.injEq] at hv
      subst hv
      rw [Lib.cell_of_heap hh]
      have : cs'[0]? = cs'.toList[0]? := by simp
      rw [this, hcs]; rfl
    | _ => cases hv

theorem laidOutE : laidOutB Tryz.prog = true := by kernel_rfl
set_option maxRecDepth 100000 in
theorem liftedGr (os : Os) (started : os.Started) (H : Type) (enc : TypeId × Value → H) :
    ReturnsInHanded {} Tryz.checked os 3 .any (fun w args => (Rows.fnGroupIsReadSpec.pre enc Tryz.prog Tryz.f3 [] false w args ∧ laidMetH Tryz.prog laidGr w) ∧ sizedMet enc Tryz.prog Tryz.f3 (OpenSpec.ofChange Rows.fnGroupIsReadSpec) false w args)
      (Rows.fnGroupIsReadSpec.post enc Tryz.prog Tryz.f3 false true false false) := by
  refine returnsInHanded_of_change_and (C := Tryz.checked) (X := fun w _ => laidMetH Tryz.prog laidGr w) (fun _ _ _ hh h => h.of_heap hh) own started (by kernel_rfl) Tryz.func3
    (ChangeSpec.witness_shaped (enc := enc) (C := Tryz.checked) (os := os) (X := fun w _ => laidMetH Tryz.prog laidGr w) false (World.laidAll Tryz.prog os laidGr) #[.string ⟨#[]⟩, .slice none 0 0] 8 (World.laidAll_os _ _ _)
      (World.shaped_of_ZipB (by kernel_rfl) (by kernel_rfl)) (by kernel_rfl) (by kernel_rfl) (by kernel_rfl)
      (by rw [MakeChecks.laidMetH_plain _ _ _ (by kernel_rfl)]; exact laidMet_laidAll _ (by kernel_rfl) (by kernel_rfl))) ?_
  intro W base args ds gs before hval0 hW _ _ hL _
  have hval : ∀ (j : Nat) t v, Tryz.f3.params[j]? = some t → args[j]? = some v → Value.okWide Tryz.prog W .any base t v := hval0
  have hW' := hW
  obtain ⟨p, q, hA0, hV, rfl, _, _⟩ := hW
  have hA : DataW.TrodAll enc Tryz.prog W 0 (fun _ => true) true Tryz.f3.params.toList args.toList ds p := hA0
  rw [Tryz.params3] at hA hval
  obtain ⟨v1, v0, e1, e0, p1, p0, rfl, rfl, rfl, h1, h0⟩ := trodAll_two hA
  obtain ⟨rfl, rfl⟩ := trodVars_none hV
  obtain ⟨s1, rfl, rfl, rfl, hs1⟩ := open_string Tryz.underlying9 (hval 0 9 v1 rfl rfl) h1
  obtain ⟨a0, len0, cap0, rfl⟩ := okWide_slice Tryz.underlying22 (hval 1 22 v0 rfl rfl)
  simp only [List.append_nil] at hW'
  have hT := tabsGr hL
  obtain ⟨et, ev, he⟩ := errGr hL
  have hlt0 : ∀ x ∈ p0, x.block < W.heap.size := fun x hx => hW'.lt x (by simp [hx])
  have hargs : ∀ W' : World, Below W.heap.size W W' → DataW.TrodAll enc Tryz.prog W' 0 (fun b => decide (b < W.heap.size)) true [9, 22] [.string s1, .slice a0 len0 cap0] [.lit (.string s1.data.toList), e0] ([] ++ p0) := fun W' hB =>
    trodAll_mk2 (shut_string Tryz.underlying9 hs1) (Below.trod laidOutE (by kernel_rfl) (of_decide_eq_true (by kernel_rfl)) h0 hB hlt0)
  have hS : ∃ f, StrArg (.slice a0 len0 cap0) len0 f W.heap.size W := by
    obtain ⟨fuel, hf⟩ := h0
    rcases open_strings Tryz.underlying22 Tryz.underlying9 (by kernel_rfl) hf with ⟨hcs, _⟩ | ⟨a, len', cap', ss, hcs, _, hl, hm, hz, _, hcell, hsz⟩
    · injection hcs with hcs _
      injection hcs with q1 q2 q3
      subst q1 q2 q3
      exact ⟨fun _ => ⟨#[]⟩, ⟨.inl ⟨rfl, rfl⟩, fun j hj => absurd hj (Nat.not_lt_zero j)⟩⟩
    · injection hcs with hcs _
      injection hcs with q1 q2 q3
      subst q1 q2 q3
      have hz2 : ss.length = cap0 := by rw [hz]; rfl
      refine ⟨fun j => ss.getD j ByteArray.empty, ⟨.inr ⟨a, cap0, rfl, hl, hm, fun j hj => ⟨hcell j (by omega), cell_lt (hcell j (by omega))⟩⟩, fun j hj => ?_⟩⟩
      have hj2 : j < ss.length := by omega
      refine hsz _ ?_
      rw [List.getD_eq_getElem?_getD, List.getElem?_eq_getElem hj2]
      exact List.getElem_mem hj2
  obtain ⟨f, hS⟩ := hS
  have hs1' := hs1
  unfold maxLen at hs1
  refine (FnGroupIsRead_true s1 _ len0 f et ev W (by omega) hS hT he).mono fun e W' ⟨he, hb⟩ => ?_
  subst he
  exact ⟨_, rfl, _, _, _, [], _, [], hW', trodAll_mk1 (shut_bool Tryz.underlying4 _), hargs _ hb, rfl, hb.frame _, fun h => by cases h⟩

theorem gr_said : Rows.FnGroupIsReadSaid :=
  OpenClaim.holds_of_wide 3 Tryz.f3 rfl rfl rfl rfl rfl rfl rfl ⟨rfl, rfl, rfl, rfl, rfl⟩ rfl rfl rfl rfl rfl (by kernel_rfl) Tryz.func3 (by kernel_rfl)
    (of_decide_eq_true (by kernel_rfl)) (by unfold Func.isWrapper; first | (rw [if_pos (by decide +kernel)]; kernel_rfl) | (rw [if_neg (by decide +kernel)]; exact ⟨rfl, rfl⟩))
    (fun os started H enc _ => liftedGr os started H enc)

theorem groupIsRead_holds : Rows.FnGroupIsReadCardSaid :=
  Claim7.holds_tied_plain_at .later [] [.data, .sentinel, .sentinel, .sentinel, .data, .data, .sentinel, .called, .called, .zero, .pinned, .pinned] true (true, "8dcea037f5c496dd77c443c1a28850e599743c3595fedcae7d2a5b878993d9ca") true gr_said (fun _ h => by cases h) (by kernel_rfl) (fun _ h => by cases h) fnGroupIsRead_row_tie rfl ⟨rfl, rfl⟩ (by kernel_rfl) rfl
    (fun f fn hf hfn => by
      obtain rfl : f = 3 := Option.some.inj ((show Tryz.prog.funcNamed "mailtexts/laws.FnGroupIsRead" = some 3 by kernel_rfl).symm.trans hf) |>.symm
      obtain rfl : fn = Tryz.f3 := (Option.some.inj (Tryz.func3.symm.trans hfn)).symm
      exact ⟨by kernel_rfl, fun j t ht => by
        rw [Tryz.params3] at ht
        have hm : t ∈ [9, 22] := by simpa using Array.mem_of_getElem? ht
        have hall : ([9, 22].all fun u => !Tryz.prog.wantsStandIn u) = true := by kernel_rfl
        exact (show Tryz.prog.wantsStandIn t = false by simpa using List.all_eq_true.1 hall t hm)⟩)
    (by kernel_rfl)
#print axioms groupIsRead_holds
end Go.Proofs.YtpoglombagmhmaaGreatDoor
