/-
  DERIVED. GIVEN WITH THE SEED: THE CARDS: each row of YtciejdaifjbjdaaDoorRows.lean that lists a variable, with what it lists TIED to the program's text (the seventh form; the later family's looks); each row that meets fmt, with fmt's text TOLD by the authors' own Lean function (tested against real Go, not proved from fmt's source: count such statements apart). THE CARD IS WHAT COUNTS. Prove the row's statement (the work); the ties are given (YtciejdaifjbjdaaDoorTie.lean); close each card by the builder's one call (the guide's Derived/Test/ToyasCard.lean, 'card_holds'). Laid BY PROGRAM, IN A SANDBOX (cutbox-door.mjs). By AI agents, Wed Nov 11 2026. No macro, syntax, notation, axiom, sorry.
-/
import Derived.Test.YtciejdaifjbjdaaDoorRows
import GoSem.ClaimSeven
namespace Go.Proofs.YtciejdaifjbjdaaDoor
namespace Rows

/-- THE TIED CARD OF 'laws.FnPrintedIsAnAddress'. -/
def fnPrintedIsAnAddressCard : Claim7 := { stood := { row := fnPrintedIsAnAddressRow, standIns := [], harness := (true, "b19000b7177403155025b8bc85fb98c053152054cf42671d04445f383c49471a"), looks := true }, kinds := [], alts := [], laidByText := true, laidKinds := [.data, .data, .data, .pinned, .pinned], laidTests := true, laidLooks := .later }
def FnPrintedIsAnAddressCardSaid : Prop := Claim7.holds Tryd.pinned (.plain (OpenSpec.ofChange fnPrintedIsAnAddressSpec)) fnPrintedIsAnAddressCard

/-- THE TIED CARD OF 'laws.FnEncodedIsDecoded'. -/
def fnEncodedIsDecodedCard : Claim7 := { stood := { row := fnEncodedIsDecodedRow, standIns := [], harness := (true, "b19000b7177403155025b8bc85fb98c053152054cf42671d04445f383c49471a"), looks := true }, kinds := [], alts := [], laidByText := true, laidKinds := [.data, .sentinel, .sentinel, .sentinel, .data, .data, .sentinel, .pinned, .pinned], laidTests := true, laidLooks := .later }
def FnEncodedIsDecodedCardSaid : Prop := Claim7.holds Tryd.pinned (.plain (OpenSpec.ofChange fnEncodedIsDecodedSpec)) fnEncodedIsDecodedCard

/-- THE SECOND FORM's CARD OF 'laws.FnPrintedIsAnAddress'. -/
def fnPrintedIsAnAddressUptoCard : Claim7 := { stood := { row := fnPrintedIsAnAddressUptoRow, standIns := [], harness := (true, "b19000b7177403155025b8bc85fb98c053152054cf42671d04445f383c49471a"), looks := true }, kinds := [], alts := [], laidByText := true, laidKinds := [.data, .data, .data, .pinned, .pinned], laidTests := true, laidLooks := .later }
def FnPrintedIsAnAddressUptoCardSaid : Prop := Claim7.holds Tryd.pinned (.plain (OpenSpec.upto fnPrintedIsAnAddressSpec)) fnPrintedIsAnAddressUptoCard

/-- THE SECOND FORM's CARD OF 'laws.FnEncodedIsDecoded'. -/
def fnEncodedIsDecodedUptoCard : Claim7 := { stood := { row := fnEncodedIsDecodedUptoRow, standIns := [], harness := (true, "b19000b7177403155025b8bc85fb98c053152054cf42671d04445f383c49471a"), looks := true }, kinds := [], alts := [], laidByText := true, laidKinds := [.data, .sentinel, .sentinel, .sentinel, .data, .data, .sentinel, .pinned, .pinned], laidTests := true, laidLooks := .later }
def FnEncodedIsDecodedUptoCardSaid : Prop := Claim7.holds Tryd.pinned (.plain (OpenSpec.upto fnEncodedIsDecodedSpec)) fnEncodedIsDecodedUptoCard
end Rows
end Go.Proofs.YtciejdaifjbjdaaDoor
