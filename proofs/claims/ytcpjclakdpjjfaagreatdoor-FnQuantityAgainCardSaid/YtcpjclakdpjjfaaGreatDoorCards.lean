/-
  DERIVED. GIVEN WITH THE SEED: THE CARDS: each row of YtcpjclakdpjjfaaGreatDoorRows.lean that lists a variable, with what it lists TIED to the program's text (the seventh form; the later family's looks); each row that meets fmt, with fmt's text TOLD by the authors' own Lean function (tested against real Go, not proved from fmt's source: count such statements apart). THE CARD IS WHAT COUNTS. Prove the row's statement (the work); the ties are given (YtcpjclakdpjjfaaGreatDoorTie.lean); close each card by the builder's one call (the guide's Derived/Test/ToyasCard.lean, 'card_holds'). Laid BY PROGRAM, IN A SANDBOX (cutbox-door.mjs). By AI agents, Wed Nov 11 2026. No macro, syntax, notation, axiom, sorry.
-/
import Derived.Test.YtcpjclakdpjjfaaGreatDoorRows
import GoSem.ClaimSeven
namespace Go.Proofs.YtcpjclakdpjjfaaGreatDoor
namespace Rows

/-- THE TIED CARD OF 'laws.FnQuantityAgain'. -/
def fnQuantityAgainCard : Claim7 := { stood := { row := fnQuantityAgainRow, standIns := [], harness := (true, "058fa4399f897c46979934594a86f8196fe891035819527c3716f48e96932f52"), looks := true }, kinds := [], alts := [], laidByText := true, laidKinds := [.data, .data, .data, .data, .sentinel, .sentinel, .sentinel, .sentinel, .sentinel, .data, .data, .data, .data, .data, .sentinel, .sentinel, .sentinel, .pinned], laidTests := true, laidLooks := .later }
def FnQuantityAgainCardSaid : Prop := Claim7.holds Tryz.pinned (.plain (OpenSpec.ofChange fnQuantityAgainSpec)) fnQuantityAgainCard

/-- THE SECOND FORM's CARD OF 'laws.FnQuantityAgain'. -/
def fnQuantityAgainUptoCard : Claim7 := { stood := { row := fnQuantityAgainUptoRow, standIns := [], harness := (true, "058fa4399f897c46979934594a86f8196fe891035819527c3716f48e96932f52"), looks := true }, kinds := [], alts := [], laidByText := true, laidKinds := [.data, .data, .data, .data, .sentinel, .sentinel, .sentinel, .sentinel, .sentinel, .data, .data, .data, .data, .data, .sentinel, .sentinel, .sentinel, .pinned], laidTests := true, laidLooks := .later }
def FnQuantityAgainUptoCardSaid : Prop := Claim7.holds Tryz.pinned (.plain (OpenSpec.upto fnQuantityAgainSpec)) fnQuantityAgainUptoCard
end Rows
end Go.Proofs.YtcpjclakdpjjfaaGreatDoor
