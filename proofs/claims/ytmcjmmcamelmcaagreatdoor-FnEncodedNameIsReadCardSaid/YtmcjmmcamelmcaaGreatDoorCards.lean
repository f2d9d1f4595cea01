/-
  DERIVED. GIVEN WITH THE SEED: THE CARDS: each row of YtmcjmmcamelmcaaGreatDoorRows.lean that lists a variable, with what it lists TIED to the program's text (the seventh form; the later family's looks); each row that meets fmt, with fmt's text TOLD by the authors' own Lean function (tested against real Go, not proved from fmt's source: count such statements apart). THE CARD IS WHAT COUNTS. Prove the row's statement (the work); the ties are given (YtmcjmmcamelmcaaGreatDoorTie.lean); close each card by the builder's one call (the guide's Derived/Test/ToyasCard.lean, 'card_holds'). Laid BY PROGRAM, IN A SANDBOX (cutbox-door.mjs). By AI agents, Wed Nov 11 2026. No macro, syntax, notation, axiom, sorry.
-/
import Derived.Test.YtmcjmmcamelmcaaGreatDoorRows
import GoSem.ClaimSeven
namespace Go.Proofs.YtmcjmmcamelmcaaGreatDoor
namespace Rows

/-- THE TIED CARD OF 'laws.FnPhrase'. -/
def fnPhraseCard : Claim7 := { stood := { row := fnPhraseRow, standIns := [], harness := (true, "14d38250a7820b55f87dcf448475700374213f089764aee7c75f20f6198465a5"), looks := true }, kinds := [], alts := [], laidByText := true, laidKinds := [.data, .sentinel, .sentinel, .sentinel, .data, .data, .sentinel, .pinned, .pinned], laidTests := true, laidLooks := .later }
def FnPhraseCardSaid : Prop := Claim7.holds Tryz.pinned (.plain (OpenSpec.ofChange fnPhraseSpec)) fnPhraseCard

/-- THE TIED CARD OF 'laws.FnEncodedNameIsRead'. -/
def fnEncodedNameIsReadCard : Claim7 := { stood := { row := fnEncodedNameIsReadRow, standIns := [], harness := (true, "14d38250a7820b55f87dcf448475700374213f089764aee7c75f20f6198465a5"), looks := true }, kinds := [], alts := [], laidByText := true, laidKinds := [.data, .sentinel, .sentinel, .sentinel, .data, .data, .sentinel, .called, .called, .zero, .pinned, .pinned], laidTests := true, laidLooks := .later }
def FnEncodedNameIsReadCardSaid : Prop := Claim7.holds Tryz.pinned (.plain (OpenSpec.ofChange fnEncodedNameIsReadSpec)) fnEncodedNameIsReadCard

/-- THE SECOND FORM's CARD OF 'laws.FnPhrase'. -/
def fnPhraseUptoCard : Claim7 := { stood := { row := fnPhraseUptoRow, standIns := [], harness := (true, "14d38250a7820b55f87dcf448475700374213f089764aee7c75f20f6198465a5"), looks := true }, kinds := [], alts := [], laidByText := true, laidKinds := [.data, .sentinel, .sentinel, .sentinel, .data, .data, .sentinel, .pinned, .pinned], laidTests := true, laidLooks := .later }
def FnPhraseUptoCardSaid : Prop := Claim7.holds Tryz.pinned (.plain (OpenSpec.upto fnPhraseSpec)) fnPhraseUptoCard

/-- THE SECOND FORM's CARD OF 'laws.FnEncodedNameIsRead'. -/
def fnEncodedNameIsReadUptoCard : Claim7 := { stood := { row := fnEncodedNameIsReadUptoRow, standIns := [], harness := (true, "14d38250a7820b55f87dcf448475700374213f089764aee7c75f20f6198465a5"), looks := true }, kinds := [], alts := [], laidByText := true, laidKinds := [.data, .sentinel, .sentinel, .sentinel, .data, .data, .sentinel, .called, .called, .zero, .pinned, .pinned], laidTests := true, laidLooks := .later }
def FnEncodedNameIsReadUptoCardSaid : Prop := Claim7.holds Tryz.pinned (.plain (OpenSpec.upto fnEncodedNameIsReadSpec)) fnEncodedNameIsReadUptoCard
end Rows
end Go.Proofs.YtmcjmmcamelmcaaGreatDoor
