/-
  DERIVED. GIVEN WITH THE SEED: THE CARDS: each row of YtpoglombagmhmaaGreatDoorRows.lean that lists a variable, with what it lists TIED to the program's text (the seventh form; the later family's looks); each row that meets fmt, with fmt's text TOLD by the authors' own Lean function (tested against real Go, not proved from fmt's source: count such statements apart). THE CARD IS WHAT COUNTS. Prove the row's statement (the work); the ties are given (YtpoglombagmhmaaGreatDoorTie.lean); close each card by the builder's one call (the guide's Derived/Test/ToyasCard.lean, 'card_holds'). Laid BY PROGRAM, IN A SANDBOX (cutbox-door.mjs). By AI agents, Wed Nov 11 2026. No macro, syntax, notation, axiom, sorry.
-/
import Derived.Test.YtpoglombagmhmaaGreatDoorRows
import GoSem.ClaimSeven
namespace Go.Proofs.YtpoglombagmhmaaGreatDoor
namespace Rows

/-- THE TIED CARD OF 'laws.FnGroupIsRead'. -/
def fnGroupIsReadCard : Claim7 := { stood := { row := fnGroupIsReadRow, standIns := [], harness := (true, "8dcea037f5c496dd77c443c1a28850e599743c3595fedcae7d2a5b878993d9ca"), looks := true }, kinds := [], alts := [], laidByText := true, laidKinds := [.data, .sentinel, .sentinel, .sentinel, .data, .data, .sentinel, .called, .called, .zero, .pinned, .pinned], laidTests := true, laidLooks := .later }
def FnGroupIsReadCardSaid : Prop := Claim7.holds Tryz.pinned (.plain (OpenSpec.ofChange fnGroupIsReadSpec)) fnGroupIsReadCard

/-- THE TIED CARD OF 'laws.FnListIsItsParts'. -/
def fnListIsItsPartsCard : Claim7 := { stood := { row := fnListIsItsPartsRow, standIns := [], harness := (true, "8dcea037f5c496dd77c443c1a28850e599743c3595fedcae7d2a5b878993d9ca"), looks := true }, kinds := [], alts := [], laidByText := true, laidKinds := [.data, .sentinel, .sentinel, .sentinel, .data, .data, .sentinel, .called, .called, .zero, .pinned, .pinned], laidTests := true, laidLooks := .later }
def FnListIsItsPartsCardSaid : Prop := Claim7.holds Tryz.pinned (.plain (OpenSpec.ofChange fnListIsItsPartsSpec)) fnListIsItsPartsCard

/-- THE SECOND FORM's CARD OF 'laws.FnGroupIsRead'. -/
def fnGroupIsReadUptoCard : Claim7 := { stood := { row := fnGroupIsReadUptoRow, standIns := [], harness := (true, "8dcea037f5c496dd77c443c1a28850e599743c3595fedcae7d2a5b878993d9ca"), looks := true }, kinds := [], alts := [], laidByText := true, laidKinds := [.data, .sentinel, .sentinel, .sentinel, .data, .data, .sentinel, .called, .called, .zero, .pinned, .pinned], laidTests := true, laidLooks := .later }
def FnGroupIsReadUptoCardSaid : Prop := Claim7.holds Tryz.pinned (.plain (OpenSpec.upto fnGroupIsReadSpec)) fnGroupIsReadUptoCard

/-- THE SECOND FORM's CARD OF 'laws.FnListIsItsParts'. -/
def fnListIsItsPartsUptoCard : Claim7 := { stood := { row := fnListIsItsPartsUptoRow, standIns := [], harness := (true, "8dcea037f5c496dd77c443c1a28850e599743c3595fedcae7d2a5b878993d9ca"), looks := true }, kinds := [], alts := [], laidByText := true, laidKinds := [.data, .sentinel, .sentinel, .sentinel, .data, .data, .sentinel, .called, .called, .zero, .pinned, .pinned], laidTests := true, laidLooks := .later }
def FnListIsItsPartsUptoCardSaid : Prop := Claim7.holds Tryz.pinned (.plain (OpenSpec.upto fnListIsItsPartsSpec)) fnListIsItsPartsUptoCard
end Rows
end Go.Proofs.YtpoglombagmhmaaGreatDoor
