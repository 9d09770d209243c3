/-
  NARROWER THAN 'FOR EVERY INPUT', by the rows' own cells (each row's printed sentence says how): LawS0898AModel: laid · LawS0898ADotAtoms: laid · LawS0898AQuoted: laid.
  DERIVED. THE GIVEN ROWS OF THIS SEAT. 7 by the template 'for every input the law returns true; each argument reads behind the call as it read before'; 0 by the template 'total and deterministic' (their statements: YbulkrooFmtTotals.lean).
  GIVEN WITH THE SEED: the statements are not yours to turn. If you find one false, say at which input.
  Laid BY PROGRAM, IN A SANDBOX (cutbox-rows.mjs): the forced cells as the released guide's own fill.sh prints them over the translation 9f1d8cf7cff788fd… (all of the seat's roots in one cut). By AI agents, Wed Nov 11 2026. No macro, syntax, notation, axiom, sorry.
-/
import Derived.Test.YbulkrooFmtChecked
import GoSem.PinnedTables
import GoSem.Claim
import GoSem.ClaimJoined
import GoSem.ClaimMapViews
import Derived.JoinedTies
import Derived.KernelRfl
namespace Go.Proofs.YbulkrooFmt
/- THE CELL 'sum', in the pinned program and in every row, IS THE sha256 OF THE DUMP (.gsa) THAT YbulkrooFmtProg.lean LOADS. Nothing in Lean hashes anything: it is a label: what it is worth is what the hold of that sum in a sandbox is worth. -/
noncomputable def Ybaf.pinned : Pinned := { name := "ybulkroofmt", sum := "9f1d8cf7cff788fddc944c652a8e88a75e4d9453f6ff2412c082ac6ac4b9caac", checked := Ybaf.checked }
namespace Rows
def none {H : Type} : Left H := { results := [], args := [] }

/- WHAT THE LISTED PACKAGE-LEVEL VARIABLES READ AS WHEN THE CALL BEGINS. Each datum BY PROGRAM (the guide's laid-datum.mjs) off the statement by which the dump's own 'gosem.cut.vars' lays the variable. In a bare row this is a premise. The card (YbulkrooFmtCards.lean) ties it to the program's text. -/
def laid_unicode_utf8_acceptRanges {H : Type} : DataW H := .agg [.agg [.lit (.int .u8 128), .lit (.int .u8 191)], .agg [.lit (.int .u8 160), .lit (.int .u8 191)], .agg [.lit (.int .u8 128), .lit (.int .u8 159)], .agg [.lit (.int .u8 144), .lit (.int .u8 191)], .agg [.lit (.int .u8 128), .lit (.int .u8 143)], .agg [.lit (.int .u8 0), .lit (.int .u8 0)], .agg [.lit (.int .u8 0), .lit (.int .u8 0)], .agg [.lit (.int .u8 0), .lit (.int .u8 0)], .agg [.lit (.int .u8 0), .lit (.int .u8 0)], .agg [.lit (.int .u8 0), .lit (.int .u8 0)], .agg [.lit (.int .u8 0), .lit (.int .u8 0)], .agg [.lit (.int .u8 0), .lit (.int .u8 0)], .agg [.lit (.int .u8 0), .lit (.int .u8 0)], .agg [.lit (.int .u8 0), .lit (.int .u8 0)], .agg [.lit (.int .u8 0), .lit (.int .u8 0)], .agg [.lit (.int .u8 0), .lit (.int .u8 0)]]
/-- One of Go's own tables, pinned by name: the form's constant. -/
def laid_unicode_utf8_first : DataW Unit := Go.Pinned.utf8First

/-- 'certowner.LawS0898AModel': WHATEVER THE INPUT: true; the input reads as it did. -/
def lawS0898AModelSpec : ChangeSpec := { name := "lawS0898AModel", fn := fun _ => fun
  | [d] => { results := [.lit (.bool true)], args := [d] }
  | _ => none }
def lawS0898AModelRow : OpenClaim := { program := "ybulkroofmt", sum := "9f1d8cf7cff788fddc944c652a8e88a75e4d9453f6ff2412c082ac6ac4b9caac", func := "example.com/hallmark/hallmark/certowner.LawS0898AModel", spec := "lawS0898AModel", stops := ["fmt.errorf"], inPlace := ["internal/abi.NoEscape", "internal/bytealg.CountString", "internal/bytealg.IndexByteString", "internal/bytealg.IndexString", "fmt.errorf"], named := ["unicode/utf8.first", "unicode/utf8.acceptRanges", "internal/bytealg.MaxLen"], apart := false, laid := [("unicode/utf8.acceptRanges", laid_unicode_utf8_acceptRanges), ("unicode/utf8.first", laid_unicode_utf8_first)] }
/-- NO THEOREM (fmt's text is open here; it may be false): for the released tool's asking of the row's closed facts alone. THE STATEMENT IS 'LawS0898AModelToldSaid' (YbulkrooFmtCards.lean). -/
def LawS0898AModelFormAsk : Prop := lawS0898AModelRow.holds Ybaf.pinned (OpenSpec.ofChange lawS0898AModelSpec)

/-- ITS FALSE NEIGHBOUR: 'it returns false'. Refute it at one input. -/
def lawS0898AModelWrong : ChangeSpec := { name := "lawS0898AModel", fn := fun _ => fun
  | [d] => { results := [.lit (.bool false)], args := [d] }
  | _ => none }
def LawS0898AModelWrongFormAsk : Prop := lawS0898AModelRow.holds Ybaf.pinned (OpenSpec.ofChange lawS0898AModelWrong)

/-- 'certowner.LawS0898ADotAtoms': WHATEVER THE INPUT: true; the input reads as it did. -/
def lawS0898ADotAtomsSpec : ChangeSpec := { name := "lawS0898ADotAtoms", fn := fun _ => fun
  | [d1, d2] => { results := [.lit (.bool true)], args := [d1, d2] }
  | _ => none }
def lawS0898ADotAtomsRow : OpenClaim := { program := "ybulkroofmt", sum := "9f1d8cf7cff788fddc944c652a8e88a75e4d9453f6ff2412c082ac6ac4b9caac", func := "example.com/hallmark/hallmark/certowner.LawS0898ADotAtoms", spec := "lawS0898ADotAtoms", stops := ["fmt.errorf"], inPlace := ["internal/abi.NoEscape", "internal/bytealg.CountString", "internal/bytealg.IndexByteString", "internal/bytealg.IndexString", "fmt.errorf"], named := ["unicode/utf8.first", "unicode/utf8.acceptRanges", "internal/bytealg.MaxLen"], apart := false, laid := [("unicode/utf8.acceptRanges", laid_unicode_utf8_acceptRanges), ("unicode/utf8.first", laid_unicode_utf8_first)] }
/-- NO THEOREM (fmt's text is open here; it may be false): for the released tool's asking of the row's closed facts alone. THE STATEMENT IS 'LawS0898ADotAtomsToldSaid' (YbulkrooFmtCards.lean). -/
def LawS0898ADotAtomsFormAsk : Prop := lawS0898ADotAtomsRow.holds Ybaf.pinned (OpenSpec.ofChange lawS0898ADotAtomsSpec)

/-- ITS FALSE NEIGHBOUR: 'it returns false'. Refute it at one input. -/
def lawS0898ADotAtomsWrong : ChangeSpec := { name := "lawS0898ADotAtoms", fn := fun _ => fun
  | [d1, d2] => { results := [.lit (.bool false)], args := [d1, d2] }
  | _ => none }
def LawS0898ADotAtomsWrongFormAsk : Prop := lawS0898ADotAtomsRow.holds Ybaf.pinned (OpenSpec.ofChange lawS0898ADotAtomsWrong)

/-- 'certowner.LawS0898AQuoted': WHATEVER THE INPUT: true; the input reads as it did. -/
def lawS0898AQuotedSpec : ChangeSpec := { name := "lawS0898AQuoted", fn := fun _ => fun
  | [d1, d2] => { results := [.lit (.bool true)], args := [d1, d2] }
  | _ => none }
def lawS0898AQuotedRow : OpenClaim := { program := "ybulkroofmt", sum := "9f1d8cf7cff788fddc944c652a8e88a75e4d9453f6ff2412c082ac6ac4b9caac", func := "example.com/hallmark/hallmark/certowner.LawS0898AQuoted", spec := "lawS0898AQuoted", stops := ["fmt.errorf"], inPlace := ["internal/abi.NoEscape", "internal/bytealg.CountString", "internal/bytealg.IndexByteString", "internal/bytealg.IndexString", "fmt.errorf"], named := ["unicode/utf8.first", "unicode/utf8.acceptRanges", "internal/bytealg.MaxLen"], apart := false, laid := [("unicode/utf8.acceptRanges", laid_unicode_utf8_acceptRanges), ("unicode/utf8.first", laid_unicode_utf8_first)] }
/-- NO THEOREM (fmt's text is open here; it may be false): for the released tool's asking of the row's closed facts alone. THE STATEMENT IS 'LawS0898AQuotedToldSaid' (YbulkrooFmtCards.lean). -/
def LawS0898AQuotedFormAsk : Prop := lawS0898AQuotedRow.holds Ybaf.pinned (OpenSpec.ofChange lawS0898AQuotedSpec)

/-- ITS FALSE NEIGHBOUR: 'it returns false'. Refute it at one input. -/
def lawS0898AQuotedWrong : ChangeSpec := { name := "lawS0898AQuoted", fn := fun _ => fun
  | [d1, d2] => { results := [.lit (.bool false)], args := [d1, d2] }
  | _ => none }
def LawS0898AQuotedWrongFormAsk : Prop := lawS0898AQuotedRow.holds Ybaf.pinned (OpenSpec.ofChange lawS0898AQuotedWrong)

/-- 'tsig.LawS0898BVerdict': WHATEVER THE INPUT: true; the input reads as it did. -/
def lawS0898BVerdictSpec : ChangeSpec := { name := "lawS0898BVerdict", fn := fun _ => fun
  | [d1, d2, d3, d4] => { results := [.lit (.bool true)], args := [d1, d2, d3, d4] }
  | _ => none }
def lawS0898BVerdictRow : OpenClaim := { program := "ybulkroofmt", sum := "9f1d8cf7cff788fddc944c652a8e88a75e4d9453f6ff2412c082ac6ac4b9caac", func := "example.com/hallmark/hallmark/tsig.LawS0898BVerdict", spec := "lawS0898BVerdict", stops := ["fmt.errorf"], inPlace := ["fmt.errorf"], apart := false }
/-- NO THEOREM (fmt's text is open here; it may be false): for the released tool's asking of the row's closed facts alone. THE STATEMENT IS 'LawS0898BVerdictToldSaid' (YbulkrooFmtCards.lean). -/
def LawS0898BVerdictFormAsk : Prop := lawS0898BVerdictRow.holds Ybaf.pinned (OpenSpec.ofChange lawS0898BVerdictSpec)

/-- ITS FALSE NEIGHBOUR: 'it returns false'. Refute it at one input. -/
def lawS0898BVerdictWrong : ChangeSpec := { name := "lawS0898BVerdict", fn := fun _ => fun
  | [d1, d2, d3, d4] => { results := [.lit (.bool false)], args := [d1, d2, d3, d4] }
  | _ => none }
def LawS0898BVerdictWrongFormAsk : Prop := lawS0898BVerdictRow.holds Ybaf.pinned (OpenSpec.ofChange lawS0898BVerdictWrong)

/-- 'tsig.LawS0898BFresh': WHATEVER THE INPUT: true; the input reads as it did. -/
def lawS0898BFreshSpec : ChangeSpec := { name := "lawS0898BFresh", fn := fun _ => fun
  | [d1, d2] => { results := [.lit (.bool true)], args := [d1, d2] }
  | _ => none }
def lawS0898BFreshRow : OpenClaim := { program := "ybulkroofmt", sum := "9f1d8cf7cff788fddc944c652a8e88a75e4d9453f6ff2412c082ac6ac4b9caac", func := "example.com/hallmark/hallmark/tsig.LawS0898BFresh", spec := "lawS0898BFresh", stops := ["fmt.errorf"], inPlace := ["fmt.errorf"], named := ["encoding/binary.BigEndian"], apart := false }
/-- NO THEOREM (fmt's text is open here; it may be false): for the released tool's asking of the row's closed facts alone. THE STATEMENT IS 'LawS0898BFreshToldSaid' (YbulkrooFmtCards.lean). -/
def LawS0898BFreshFormAsk : Prop := lawS0898BFreshRow.holds Ybaf.pinned (OpenSpec.ofChange lawS0898BFreshSpec)

/-- ITS FALSE NEIGHBOUR: 'it returns false'. Refute it at one input. -/
def lawS0898BFreshWrong : ChangeSpec := { name := "lawS0898BFresh", fn := fun _ => fun
  | [d1, d2] => { results := [.lit (.bool false)], args := [d1, d2] }
  | _ => none }
def LawS0898BFreshWrongFormAsk : Prop := lawS0898BFreshRow.holds Ybaf.pinned (OpenSpec.ofChange lawS0898BFreshWrong)

/-- 'certowner.LawS0898CRoundTrip': WHATEVER THE INPUT: true; the input reads as it did. -/
def lawS0898CRoundTripSpec : ChangeSpec := { name := "lawS0898CRoundTrip", fn := fun _ => fun
  | [d1, d2] => { results := [.lit (.bool true)], args := [d1, d2] }
  | _ => none }
def lawS0898CRoundTripRow : OpenClaim := { program := "ybulkroofmt", sum := "9f1d8cf7cff788fddc944c652a8e88a75e4d9453f6ff2412c082ac6ac4b9caac", func := "example.com/hallmark/hallmark/certowner.LawS0898CRoundTrip", spec := "lawS0898CRoundTrip", stops := ["fmt.errorf"], inPlace := ["internal/abi.NoEscape", "fmt.errorf"], unfollowed := true, recurses := true, apart := false }
/-- NO THEOREM (fmt's text is open here; it may be false): for the released tool's asking of the row's closed facts alone. THE STATEMENT IS 'LawS0898CRoundTripToldSaid' (YbulkrooFmtCards.lean). -/
def LawS0898CRoundTripFormAsk : Prop := lawS0898CRoundTripRow.holds Ybaf.pinned (OpenSpec.ofChange lawS0898CRoundTripSpec)

/-- ITS FALSE NEIGHBOUR: 'it returns false'. Refute it at one input. -/
def lawS0898CRoundTripWrong : ChangeSpec := { name := "lawS0898CRoundTrip", fn := fun _ => fun
  | [d1, d2] => { results := [.lit (.bool false)], args := [d1, d2] }
  | _ => none }
def LawS0898CRoundTripWrongFormAsk : Prop := lawS0898CRoundTripRow.holds Ybaf.pinned (OpenSpec.ofChange lawS0898CRoundTripWrong)

/-- 'certowner.LawS0898CNoSlash': WHATEVER THE INPUT: true; the input reads as it did. -/
def lawS0898CNoSlashSpec : ChangeSpec := { name := "lawS0898CNoSlash", fn := fun _ => fun
  | [d] => { results := [.lit (.bool true)], args := [d] }
  | _ => none }
def lawS0898CNoSlashRow : OpenClaim := { program := "ybulkroofmt", sum := "9f1d8cf7cff788fddc944c652a8e88a75e4d9453f6ff2412c082ac6ac4b9caac", func := "example.com/hallmark/hallmark/certowner.LawS0898CNoSlash", spec := "lawS0898CNoSlash", stops := ["fmt.errorf"], inPlace := ["fmt.errorf", "internal/abi.NoEscape"], unfollowed := true, recurses := true, apart := false }
/-- NO THEOREM (fmt's text is open here; it may be false): for the released tool's asking of the row's closed facts alone. THE STATEMENT IS 'LawS0898CNoSlashToldSaid' (YbulkrooFmtCards.lean). -/
def LawS0898CNoSlashFormAsk : Prop := lawS0898CNoSlashRow.holds Ybaf.pinned (OpenSpec.ofChange lawS0898CNoSlashSpec)

/-- ITS FALSE NEIGHBOUR: 'it returns false'. Refute it at one input. -/
def lawS0898CNoSlashWrong : ChangeSpec := { name := "lawS0898CNoSlash", fn := fun _ => fun
  | [d] => { results := [.lit (.bool false)], args := [d] }
  | _ => none }
def LawS0898CNoSlashWrongFormAsk : Prop := lawS0898CNoSlashRow.holds Ybaf.pinned (OpenSpec.ofChange lawS0898CNoSlashWrong)

end Rows
end Go.Proofs.YbulkrooFmt
