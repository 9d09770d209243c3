/-
  DERIVED. GIVEN WITH THE SEED: THE CARDS: each row of YbulkrooFmtRows.lean that lists a variable, with what it lists TIED to the program's text (the seventh form; the later family's looks); each row that meets fmt, with fmt's text TOLD by the authors' own Lean function (tested against real Go, not proved from fmt's source: count such statements apart). THE CARD IS WHAT COUNTS. Prove the row's statement (the work); the ties are given (YbulkrooFmtTie.lean); close each card by the builder's one call (the guide's Derived/Test/ToyasCard.lean, 'card_holds'). Laid BY PROGRAM, IN A SANDBOX (cutbox-door.mjs). By AI agents, Wed Nov 11 2026. No macro, syntax, notation, axiom, sorry.
-/
import Derived.Test.YbulkrooFmtRows
import GoSem.ClaimSeven
namespace Go.Proofs.YbulkrooFmt
namespace Rows

/-- THE TOLD AND TIED CARD OF 'certowner.LawS0898AModel'. -/
def lawS0898AModelCard : Claim7 := { stood := { row := lawS0898AModelRow, standIns := [], harness := (true, "6e99a8b199a383f70cf4291426d17bccb96d72479ec01c9ede80ae11e36487d3"), looks := true }, told := true, laidByText := true, laidKinds := [.data, .pinned], laidTests := true, laidLooks := .later, goes := false }
def LawS0898AModelToldSaid : Prop := Claim7.holds Ybaf.pinned (.plain (OpenSpec.ofChange lawS0898AModelSpec)) lawS0898AModelCard
/-- ITS FALSE NEIGHBOUR. Refute it at one input. -/
def LawS0898AModelToldWrongFalsely : Prop := Claim7.holds Ybaf.pinned (.plain (OpenSpec.ofChange lawS0898AModelWrong)) lawS0898AModelCard

/-- THE TOLD AND TIED CARD OF 'certowner.LawS0898ADotAtoms'. -/
def lawS0898ADotAtomsCard : Claim7 := { stood := { row := lawS0898ADotAtomsRow, standIns := [], harness := (true, "6e99a8b199a383f70cf4291426d17bccb96d72479ec01c9ede80ae11e36487d3"), looks := true }, told := true, laidByText := true, laidKinds := [.data, .pinned], laidTests := true, laidLooks := .later, goes := false }
def LawS0898ADotAtomsToldSaid : Prop := Claim7.holds Ybaf.pinned (.plain (OpenSpec.ofChange lawS0898ADotAtomsSpec)) lawS0898ADotAtomsCard
/-- ITS FALSE NEIGHBOUR. Refute it at one input. -/
def LawS0898ADotAtomsToldWrongFalsely : Prop := Claim7.holds Ybaf.pinned (.plain (OpenSpec.ofChange lawS0898ADotAtomsWrong)) lawS0898ADotAtomsCard

/-- THE TOLD AND TIED CARD OF 'certowner.LawS0898AQuoted'. -/
def lawS0898AQuotedCard : Claim7 := { stood := { row := lawS0898AQuotedRow, standIns := [], harness := (true, "6e99a8b199a383f70cf4291426d17bccb96d72479ec01c9ede80ae11e36487d3"), looks := true }, told := true, laidByText := true, laidKinds := [.data, .pinned], laidTests := true, laidLooks := .later, goes := false }
def LawS0898AQuotedToldSaid : Prop := Claim7.holds Ybaf.pinned (.plain (OpenSpec.ofChange lawS0898AQuotedSpec)) lawS0898AQuotedCard
/-- ITS FALSE NEIGHBOUR. Refute it at one input. -/
def LawS0898AQuotedToldWrongFalsely : Prop := Claim7.holds Ybaf.pinned (.plain (OpenSpec.ofChange lawS0898AQuotedWrong)) lawS0898AQuotedCard

/-- THE TOLD CARD OF 'tsig.LawS0898BVerdict'. -/
def lawS0898BVerdictCard : Claim7 := { stood := { row := lawS0898BVerdictRow, standIns := [], harness := (true, "6e99a8b199a383f70cf4291426d17bccb96d72479ec01c9ede80ae11e36487d3"), looks := true }, told := true, goes := false }
def LawS0898BVerdictToldSaid : Prop := Claim7.holds Ybaf.pinned (.plain (OpenSpec.ofChange lawS0898BVerdictSpec)) lawS0898BVerdictCard
/-- ITS FALSE NEIGHBOUR. Refute it at one input. -/
def LawS0898BVerdictToldWrongFalsely : Prop := Claim7.holds Ybaf.pinned (.plain (OpenSpec.ofChange lawS0898BVerdictWrong)) lawS0898BVerdictCard

/-- THE TOLD CARD OF 'tsig.LawS0898BFresh'. -/
def lawS0898BFreshCard : Claim7 := { stood := { row := lawS0898BFreshRow, standIns := [], harness := (true, "6e99a8b199a383f70cf4291426d17bccb96d72479ec01c9ede80ae11e36487d3"), looks := true }, told := true, goes := false }
def LawS0898BFreshToldSaid : Prop := Claim7.holds Ybaf.pinned (.plain (OpenSpec.ofChange lawS0898BFreshSpec)) lawS0898BFreshCard
/-- ITS FALSE NEIGHBOUR. Refute it at one input. -/
def LawS0898BFreshToldWrongFalsely : Prop := Claim7.holds Ybaf.pinned (.plain (OpenSpec.ofChange lawS0898BFreshWrong)) lawS0898BFreshCard

/-- THE TOLD CARD OF 'certowner.LawS0898CRoundTrip'. -/
def lawS0898CRoundTripCard : Claim7 := { stood := { row := lawS0898CRoundTripRow, standIns := [], harness := (true, "6e99a8b199a383f70cf4291426d17bccb96d72479ec01c9ede80ae11e36487d3"), looks := true }, told := true, goes := false }
def LawS0898CRoundTripToldSaid : Prop := Claim7.holds Ybaf.pinned (.plain (OpenSpec.ofChange lawS0898CRoundTripSpec)) lawS0898CRoundTripCard
/-- ITS FALSE NEIGHBOUR. Refute it at one input. -/
def LawS0898CRoundTripToldWrongFalsely : Prop := Claim7.holds Ybaf.pinned (.plain (OpenSpec.ofChange lawS0898CRoundTripWrong)) lawS0898CRoundTripCard

/-- THE TOLD CARD OF 'certowner.LawS0898CNoSlash'. -/
def lawS0898CNoSlashCard : Claim7 := { stood := { row := lawS0898CNoSlashRow, standIns := [], harness := (true, "6e99a8b199a383f70cf4291426d17bccb96d72479ec01c9ede80ae11e36487d3"), looks := true }, told := true, goes := false }
def LawS0898CNoSlashToldSaid : Prop := Claim7.holds Ybaf.pinned (.plain (OpenSpec.ofChange lawS0898CNoSlashSpec)) lawS0898CNoSlashCard
/-- ITS FALSE NEIGHBOUR. Refute it at one input. -/
def LawS0898CNoSlashToldWrongFalsely : Prop := Claim7.holds Ybaf.pinned (.plain (OpenSpec.ofChange lawS0898CNoSlashWrong)) lawS0898CNoSlashCard
end Rows
end Go.Proofs.YbulkrooFmt
