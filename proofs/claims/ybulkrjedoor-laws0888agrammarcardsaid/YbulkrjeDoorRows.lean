/-
  NARROWER THAN 'FOR EVERY INPUT', by the rows' own cells (each row's printed sentence says how): LawS0888ATrace: laid · LawS0888AGrammar: laid.
  DERIVED. THE GIVEN ROWS OF THIS SEAT. 2 by the template 'for every input the law returns true; each argument reads behind the call as it read before'; 0 by the template 'total and deterministic' (their statements: YbulkrjeDoorTotals.lean).
  GIVEN WITH THE SEED: the statements are not yours to turn. If you find one false, say at which input.
  Laid BY PROGRAM, IN A SANDBOX (cutbox-rows.mjs): the forced cells as the released guide's own fill.sh prints them over the translation 77203367bd4346fa… (all of the seat's roots in one cut). By AI agents, Wed Nov 11 2026. No macro, syntax, notation, axiom, sorry.
-/
import Derived.Test.YbulkrjeDoorChecked
import GoSem.Claim
import GoSem.ClaimJoined
import GoSem.ClaimMapViews
import Derived.JoinedTies
import Derived.KernelRfl
namespace Go.Proofs.YbulkrjeDoor
/- THE CELL 'sum', in the pinned program and in every row, IS THE sha256 OF THE DUMP (.gsa) THAT YbulkrjeDoorProg.lean LOADS. Nothing in Lean hashes anything: it is a label: what it is worth is what the hold of that sum in a sandbox is worth. -/
noncomputable def Ybad.pinned : Pinned := { name := "ybulkrjedoor", sum := "77203367bd4346fae8edc5a13db6de93ab3c1d6f517166646c3eb86f4f4bd42d", checked := Ybad.checked }
namespace Rows
def none {H : Type} : Left H := { results := [], args := [] }

/- WHAT THE LISTED PACKAGE-LEVEL VARIABLES READ AS WHEN THE CALL BEGINS. Each datum BY PROGRAM (the guide's laid-datum.mjs) off the statement by which the dump's own 'gosem.cut.vars' lays the variable. In a bare row this is a premise. The card (YbulkrjeDoorCards.lean) ties it to the program's text. -/
def laid_example_com_triseam_triseam_versionSuffixes {H : Type} : DataW H := .agg [.lit (.string [97, 108, 112, 104, 97]), .lit (.string [98, 101, 116, 97]), .lit (.string [112, 114, 101]), .lit (.string [114, 99]), .lit (.string [99, 118, 115]), .lit (.string [115, 118, 110]), .lit (.string [103, 105, 116]), .lit (.string [104, 103]), .lit (.string [112])]

/-- 'triseam.LawS0888ATrace': WHATEVER THE INPUT: true; the input reads as it did. -/
def lawS0888ATraceSpec : ChangeSpec := { name := "lawS0888ATrace", vars := ["example.com/triseam/triseam.versionSuffixes"], fn := fun _ => fun
  | [d, g1] => { results := [.lit (.bool true)], args := [d], vars := [g1] }
  | _ => none }
def lawS0888ATraceRow : OpenClaim := { program := "ybulkrjedoor", sum := "77203367bd4346fae8edc5a13db6de93ab3c1d6f517166646c3eb86f4f4bd42d", func := "example.com/triseam/triseam.LawS0888ATrace", spec := "lawS0888ATrace", unfollowed := true, recurses := true, named := ["example.com/triseam/triseam.versionSuffixes"], apart := false, laid := [("example.com/triseam/triseam.versionSuffixes", laid_example_com_triseam_triseam_versionSuffixes)] }
def LawS0888ATraceSaid : Prop := lawS0888ATraceRow.holds Ybad.pinned (OpenSpec.ofChange lawS0888ATraceSpec)

/-- ITS FALSE NEIGHBOUR: 'it returns false'. Refute it at one input. -/
def lawS0888ATraceWrong : ChangeSpec := { name := "lawS0888ATrace", vars := ["example.com/triseam/triseam.versionSuffixes"], fn := fun _ => fun
  | [d, g1] => { results := [.lit (.bool false)], args := [d], vars := [g1] }
  | _ => none }
def LawS0888ATraceWrongFalsely : Prop := lawS0888ATraceRow.holds Ybad.pinned (OpenSpec.ofChange lawS0888ATraceWrong)

/-- 'triseam.LawS0888AGrammar': WHATEVER THE INPUT: true; the input reads as it did. -/
def lawS0888AGrammarSpec : ChangeSpec := { name := "lawS0888AGrammar", vars := ["example.com/triseam/triseam.versionSuffixes"], fn := fun _ => fun
  | [d1, d2, d3, d4, d5, d6, d7, g1] => { results := [.lit (.bool true)], args := [d1, d2, d3, d4, d5, d6, d7], vars := [g1] }
  | _ => none }
def lawS0888AGrammarRow : OpenClaim := { program := "ybulkrjedoor", sum := "77203367bd4346fae8edc5a13db6de93ab3c1d6f517166646c3eb86f4f4bd42d", func := "example.com/triseam/triseam.LawS0888AGrammar", spec := "lawS0888AGrammar", unfollowed := true, recurses := true, named := ["example.com/triseam/triseam.versionSuffixes"], apart := false, laid := [("example.com/triseam/triseam.versionSuffixes", laid_example_com_triseam_triseam_versionSuffixes)] }
def LawS0888AGrammarSaid : Prop := lawS0888AGrammarRow.holds Ybad.pinned (OpenSpec.ofChange lawS0888AGrammarSpec)

/-- ITS FALSE NEIGHBOUR: 'it returns false'. Refute it at one input. -/
def lawS0888AGrammarWrong : ChangeSpec := { name := "lawS0888AGrammar", vars := ["example.com/triseam/triseam.versionSuffixes"], fn := fun _ => fun
  | [d1, d2, d3, d4, d5, d6, d7, g1] => { results := [.lit (.bool false)], args := [d1, d2, d3, d4, d5, d6, d7], vars := [g1] }
  | _ => none }
def LawS0888AGrammarWrongFalsely : Prop := lawS0888AGrammarRow.holds Ybad.pinned (OpenSpec.ofChange lawS0888AGrammarWrong)

end Rows
end Go.Proofs.YbulkrjeDoor
