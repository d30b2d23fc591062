/-
  DERIVED. GIVEN WITH THE SEED: THE CARDS: each row of YtjmoinaikedmlaaDoorRows.lean that lists a variable, with what it lists TIED to the program's text (the seventh form; the later family's looks); each row that meets fmt, with fmt's text TOLD by the authors' own Lean function (tested against real Go, not proved from fmt's source: count such statements apart). THE CARD IS WHAT COUNTS. Prove the row's statement (the work); the ties are given (YtjmoinaikedmlaaDoorTie.lean); close each card by the builder's one call (the guide's Derived/Test/ToyasCard.lean, 'card_holds'). Laid BY PROGRAM, IN A SANDBOX (cutbox-door.mjs). By AI agents, Wed Nov 11 2026. No macro, syntax, notation, axiom, sorry.
-/
import Derived.Test.YtjmoinaikedmlaaDoorRows
import GoSem.ClaimSeven
namespace Go.Proofs.YtjmoinaikedmlaaDoor
namespace Rows

/-- THE TIED CARD OF 'laws.FnFrame'. -/
def fnFrameCard : Claim7 := { stood := { row := fnFrameRow, standIns := [], harness := (true, "8c8b610a5d7c11152d89527bb5cda74a27a2483f9f20486b67cc2c2b3696de1d"), looks := true }, kinds := [], alts := [], laidByText := true, laidKinds := [.data, .data, .data, .data, .sentinel, .sentinel, .sentinel, .pinned, .pinned], laidTests := true, laidLooks := .later }
def FnFrameCardSaid : Prop := Claim7.holds Tryd.pinned (.plain (OpenSpec.ofChange fnFrameSpec)) fnFrameCard

/-- THE SECOND FORM's CARD OF 'laws.FnFrame'. -/
def fnFrameUptoCard : Claim7 := { stood := { row := fnFrameUptoRow, standIns := [], harness := (true, "8c8b610a5d7c11152d89527bb5cda74a27a2483f9f20486b67cc2c2b3696de1d"), looks := true }, kinds := [], alts := [], laidByText := true, laidKinds := [.data, .data, .data, .data, .sentinel, .sentinel, .sentinel, .pinned, .pinned], laidTests := true, laidLooks := .later }
def FnFrameUptoCardSaid : Prop := Claim7.holds Tryd.pinned (.plain (OpenSpec.upto fnFrameSpec)) fnFrameUptoCard
end Rows
end Go.Proofs.YtjmoinaikedmlaaDoor
