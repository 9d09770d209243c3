/-
  No cell of these rows narrows 'for every input' (looked for: loops, veiled, ifaces, maps, wideKeys, modest, calm, conditions, laid).
  DERIVED. THE GIVEN ROWS OF THIS SEAT. 2 by the template 'for every input the law returns true; each argument reads behind the call as it read before'; 0 by the template 'total and deterministic' (their statements: YbulkrkgTotals.lean).
  GIVEN WITH THE SEED: the statements are not yours to turn. If you find one false, say at which input.
  Laid BY PROGRAM, IN A SANDBOX (cutbox-rows.mjs): the forced cells as the released guide's own fill.sh prints them over the translation 2de14ef3118a8bb0… (all of the seat's roots in one cut). By AI agents, Wed Nov 11 2026. No macro, syntax, notation, axiom, sorry.
-/
import Derived.Test.YbulkrkgChecked
import GoSem.Claim
import GoSem.ClaimJoined
import GoSem.ClaimMapViews
import Derived.JoinedTies
import Derived.KernelRfl
namespace Go.Proofs.Ybulkrkg
/- THE CELL 'sum', in the pinned program and in every row, IS THE sha256 OF THE DUMP (.gsa) THAT YbulkrkgProg.lean LOADS. Nothing in Lean hashes anything: it is a label: what it is worth is what the hold of that sum in a sandbox is worth. -/
noncomputable def Yba.pinned : Pinned := { name := "ybulkrkg", sum := "2de14ef3118a8bb0f719f4d7675ea1d9b505e0b6d1fda88da5c0d61c347f7e18", checked := Yba.checked }
namespace Rows
def none {H : Type} : Left H := { results := [], args := [] }

/-- 'store.LawS0890BExact': WHATEVER THE INPUT: true; the input reads as it did. -/
def lawS0890BExactSpec : ChangeSpec := { name := "lawS0890BExact", fn := fun _ => fun
  | [d1, d2, d3, d4, d5, d6, d7, d8] => { results := [.lit (.bool true)], args := [d1, d2, d3, d4, d5, d6, d7, d8] }
  | _ => none }
def lawS0890BExactRow : OpenClaim := { program := "ybulkrkg", sum := "2de14ef3118a8bb0f719f4d7675ea1d9b505e0b6d1fda88da5c0d61c347f7e18", func := "example.com/packwell/packwell/internal/store.LawS0890BExact", spec := "lawS0890BExact", apart := false }
def LawS0890BExactSaid : Prop := lawS0890BExactRow.holds Yba.pinned (OpenSpec.ofChange lawS0890BExactSpec)

/-- ITS FALSE NEIGHBOUR: 'it returns false'. Refute it at one input. -/
def lawS0890BExactWrong : ChangeSpec := { name := "lawS0890BExact", fn := fun _ => fun
  | [d1, d2, d3, d4, d5, d6, d7, d8] => { results := [.lit (.bool false)], args := [d1, d2, d3, d4, d5, d6, d7, d8] }
  | _ => none }
def LawS0890BExactWrongFalsely : Prop := lawS0890BExactRow.holds Yba.pinned (OpenSpec.ofChange lawS0890BExactWrong)

/-- 'store.LawS0890BSelf': WHATEVER THE INPUT: true; the input reads as it did. -/
def lawS0890BSelfSpec : ChangeSpec := { name := "lawS0890BSelf", fn := fun _ => fun
  | [d1, d2, d3, d4] => { results := [.lit (.bool true)], args := [d1, d2, d3, d4] }
  | _ => none }
def lawS0890BSelfRow : OpenClaim := { program := "ybulkrkg", sum := "2de14ef3118a8bb0f719f4d7675ea1d9b505e0b6d1fda88da5c0d61c347f7e18", func := "example.com/packwell/packwell/internal/store.LawS0890BSelf", spec := "lawS0890BSelf", apart := false }
def LawS0890BSelfSaid : Prop := lawS0890BSelfRow.holds Yba.pinned (OpenSpec.ofChange lawS0890BSelfSpec)

/-- ITS FALSE NEIGHBOUR: 'it returns false'. Refute it at one input. -/
def lawS0890BSelfWrong : ChangeSpec := { name := "lawS0890BSelf", fn := fun _ => fun
  | [d1, d2, d3, d4] => { results := [.lit (.bool false)], args := [d1, d2, d3, d4] }
  | _ => none }
def LawS0890BSelfWrongFalsely : Prop := lawS0890BSelfRow.holds Yba.pinned (OpenSpec.ofChange lawS0890BSelfWrong)

end Rows
end Go.Proofs.Ybulkrkg
