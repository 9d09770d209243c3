/-
  No cell of these rows narrows 'for every input' (looked for: loops, veiled, ifaces, maps, wideKeys, modest, calm, conditions, laid).
  DERIVED. THE GIVEN ROWS OF THIS SEAT. 2 by the template 'for every input the law returns true; each argument reads behind the call as it read before'; 0 by the template 'total and deterministic' (their statements: YbulkriqTotals.lean).
  GIVEN WITH THE SEED: the statements are not yours to turn. If you find one false, say at which input.
  Laid BY PROGRAM, IN A SANDBOX (cutbox-rows.mjs): the forced cells as the released guide's own fill.sh prints them over the translation a10193d4b671475e… (all of the seat's roots in one cut). By AI agents, Wed Nov 11 2026. No macro, syntax, notation, axiom, sorry.
-/
import Derived.Test.YbulkriqChecked
import GoSem.Claim
import GoSem.ClaimJoined
import GoSem.ClaimMapViews
import Derived.JoinedTies
import Derived.KernelRfl
namespace Go.Proofs.Ybulkriq
/- THE CELL 'sum', in the pinned program and in every row, IS THE sha256 OF THE DUMP (.gsa) THAT YbulkriqProg.lean LOADS. Nothing in Lean hashes anything: it is a label: what it is worth is what the hold of that sum in a sandbox is worth. -/
noncomputable def Yba.pinned : Pinned := { name := "ybulkriq", sum := "a10193d4b671475eeab7e665ac1a7993e12305370647f22e248eae2bfa731436", checked := Yba.checked }
namespace Rows
def none {H : Type} : Left H := { results := [], args := [] }

/-- 'vakya.LawS0887BSkip': WHATEVER THE INPUT: true; the input reads as it did. -/
def lawS0887BSkipSpec : ChangeSpec := { name := "lawS0887BSkip", fn := fun _ => fun
  | [d1, d2, d3] => { results := [.lit (.bool true)], args := [d1, d2, d3] }
  | _ => none }
def lawS0887BSkipRow : OpenClaim := { program := "ybulkriq", sum := "a10193d4b671475eeab7e665ac1a7993e12305370647f22e248eae2bfa731436", func := "example.com/vakya/vakya.LawS0887BSkip", spec := "lawS0887BSkip", apart := false }
def LawS0887BSkipSaid : Prop := lawS0887BSkipRow.holds Yba.pinned (OpenSpec.ofChange lawS0887BSkipSpec)

/-- ITS FALSE NEIGHBOUR: 'it returns false'. Refute it at one input. -/
def lawS0887BSkipWrong : ChangeSpec := { name := "lawS0887BSkip", fn := fun _ => fun
  | [d1, d2, d3] => { results := [.lit (.bool false)], args := [d1, d2, d3] }
  | _ => none }
def LawS0887BSkipWrongFalsely : Prop := lawS0887BSkipRow.holds Yba.pinned (OpenSpec.ofChange lawS0887BSkipWrong)

/-- 'vakya.LawS0887BMarked': WHATEVER THE INPUT: true; the input reads as it did. -/
def lawS0887BMarkedSpec : ChangeSpec := { name := "lawS0887BMarked", fn := fun _ => fun
  | [d1, d2] => { results := [.lit (.bool true)], args := [d1, d2] }
  | _ => none }
def lawS0887BMarkedRow : OpenClaim := { program := "ybulkriq", sum := "a10193d4b671475eeab7e665ac1a7993e12305370647f22e248eae2bfa731436", func := "example.com/vakya/vakya.LawS0887BMarked", spec := "lawS0887BMarked", apart := false }
def LawS0887BMarkedSaid : Prop := lawS0887BMarkedRow.holds Yba.pinned (OpenSpec.ofChange lawS0887BMarkedSpec)

/-- ITS FALSE NEIGHBOUR: 'it returns false'. Refute it at one input. -/
def lawS0887BMarkedWrong : ChangeSpec := { name := "lawS0887BMarked", fn := fun _ => fun
  | [d1, d2] => { results := [.lit (.bool false)], args := [d1, d2] }
  | _ => none }
def LawS0887BMarkedWrongFalsely : Prop := lawS0887BMarkedRow.holds Yba.pinned (OpenSpec.ofChange lawS0887BMarkedWrong)

end Rows
end Go.Proofs.Ybulkriq
