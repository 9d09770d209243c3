/-
  No cell of these rows narrows 'for every input' (looked for: loops, veiled, ifaces, maps, wideKeys, modest, calm, conditions, laid).
  DERIVED. THE GIVEN ROWS OF THIS SEAT. 2 by the template 'for every input the law returns true; each argument reads behind the call as it read before'; 0 by the template 'total and deterministic' (their statements: YbulkrjeTotals.lean).
  GIVEN WITH THE SEED: the statements are not yours to turn. If you find one false, say at which input.
  Laid BY PROGRAM, IN A SANDBOX (cutbox-rows.mjs): the forced cells as the released guide's own fill.sh prints them over the translation 6f1d8695371b48e4… (all of the seat's roots in one cut). By AI agents, Wed Nov 11 2026. No macro, syntax, notation, axiom, sorry.
-/
import Derived.Test.YbulkrjeChecked
import GoSem.Claim
import GoSem.ClaimJoined
import GoSem.ClaimMapViews
import Derived.JoinedTies
import Derived.KernelRfl
namespace Go.Proofs.Ybulkrje
/- THE CELL 'sum', in the pinned program and in every row, IS THE sha256 OF THE DUMP (.gsa) THAT YbulkrjeProg.lean LOADS. Nothing in Lean hashes anything: it is a label: what it is worth is what the hold of that sum in a sandbox is worth. -/
noncomputable def Yba.pinned : Pinned := { name := "ybulkrje", sum := "6f1d8695371b48e4143c63fac8d97ffce50bdd0fa6c134f2b0db0d32e0fbf522", checked := Yba.checked }
namespace Rows
def none {H : Type} : Left H := { results := [], args := [] }

/-- 'triseam.LawS0888BFilter': WHATEVER THE INPUT: true; the input reads as it did. -/
def lawS0888BFilterSpec : ChangeSpec := { name := "lawS0888BFilter", fn := fun _ => fun
  | [d1, d2] => { results := [.lit (.bool true)], args := [d1, d2] }
  | _ => none }
def lawS0888BFilterRow : OpenClaim := { program := "ybulkrje", sum := "6f1d8695371b48e4143c63fac8d97ffce50bdd0fa6c134f2b0db0d32e0fbf522", func := "example.com/triseam/triseam.LawS0888BFilter", spec := "lawS0888BFilter", unfollowed := true, recurses := true, apart := false }
def LawS0888BFilterSaid : Prop := lawS0888BFilterRow.holds Yba.pinned (OpenSpec.ofChange lawS0888BFilterSpec)

/-- ITS FALSE NEIGHBOUR: 'it returns false'. Refute it at one input. -/
def lawS0888BFilterWrong : ChangeSpec := { name := "lawS0888BFilter", fn := fun _ => fun
  | [d1, d2] => { results := [.lit (.bool false)], args := [d1, d2] }
  | _ => none }
def LawS0888BFilterWrongFalsely : Prop := lawS0888BFilterRow.holds Yba.pinned (OpenSpec.ofChange lawS0888BFilterWrong)

/-- 'triseam.LawS0888BRawFilter': WHATEVER THE INPUT: true; the input reads as it did. -/
def lawS0888BRawFilterSpec : ChangeSpec := { name := "lawS0888BRawFilter", fn := fun _ => fun
  | [d1, d2] => { results := [.lit (.bool true)], args := [d1, d2] }
  | _ => none }
def lawS0888BRawFilterRow : OpenClaim := { program := "ybulkrje", sum := "6f1d8695371b48e4143c63fac8d97ffce50bdd0fa6c134f2b0db0d32e0fbf522", func := "example.com/triseam/triseam.LawS0888BRawFilter", spec := "lawS0888BRawFilter", unfollowed := true, recurses := true, apart := false }
def LawS0888BRawFilterSaid : Prop := lawS0888BRawFilterRow.holds Yba.pinned (OpenSpec.ofChange lawS0888BRawFilterSpec)

/-- ITS FALSE NEIGHBOUR: 'it returns false'. Refute it at one input. -/
def lawS0888BRawFilterWrong : ChangeSpec := { name := "lawS0888BRawFilter", fn := fun _ => fun
  | [d1, d2] => { results := [.lit (.bool false)], args := [d1, d2] }
  | _ => none }
def LawS0888BRawFilterWrongFalsely : Prop := lawS0888BRawFilterRow.holds Yba.pinned (OpenSpec.ofChange lawS0888BRawFilterWrong)

end Rows
end Go.Proofs.Ybulkrje
