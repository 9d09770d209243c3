/-
  DERIVED. GIVEN WITH THE SEED: THE CARDS: each row of YbulkrjeDoorRows.lean that lists a variable, with what it lists TIED to the program's text (the seventh form; the later family's looks); each row that meets fmt, with fmt's text TOLD by the authors' own Lean function (tested against real Go, not proved from fmt's source: count such statements apart). THE CARD IS WHAT COUNTS. Prove the row's statement (the work); the ties are given (YbulkrjeDoorTie.lean); close each card by the builder's one call (the guide's Derived/Test/ToyasCard.lean, 'card_holds'). Laid BY PROGRAM, IN A SANDBOX (cutbox-door.mjs). By AI agents, Wed Nov 11 2026. No macro, syntax, notation, axiom, sorry.
-/
import Derived.Test.YbulkrjeDoorRows
import GoSem.ClaimSeven
namespace Go.Proofs.YbulkrjeDoor
namespace Rows

/-- THE TIED CARD OF 'triseam.LawS0888ATrace'. -/
def lawS0888ATraceCard : Claim7 := { stood := { row := lawS0888ATraceRow, standIns := [], harness := (true, "dc5e0ffef93ab89b63949c55f0688d4e5b8c401ed34e1660cfb8923b891541f4"), looks := false }, kinds := [], alts := [], laidByText := true, laidKinds := [.data], laidTests := true, laidLooks := .later }
def LawS0888ATraceCardSaid : Prop := Claim7.holds Ybad.pinned (.plain (OpenSpec.ofChange lawS0888ATraceSpec)) lawS0888ATraceCard

/-- THE TIED CARD OF 'triseam.LawS0888AGrammar'. -/
def lawS0888AGrammarCard : Claim7 := { stood := { row := lawS0888AGrammarRow, standIns := [], harness := (true, "dc5e0ffef93ab89b63949c55f0688d4e5b8c401ed34e1660cfb8923b891541f4"), looks := false }, kinds := [], alts := [], laidByText := true, laidKinds := [.data], laidTests := true, laidLooks := .later }
def LawS0888AGrammarCardSaid : Prop := Claim7.holds Ybad.pinned (.plain (OpenSpec.ofChange lawS0888AGrammarSpec)) lawS0888AGrammarCard
end Rows
end Go.Proofs.YbulkrjeDoor
