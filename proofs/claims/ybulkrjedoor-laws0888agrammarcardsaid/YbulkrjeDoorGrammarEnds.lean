/-
  LawS0888AGrammar at slices that it does not look into: true at once.
-/
import Derived.Test.YbulkrjeDoorDec
namespace Go.Proofs.YbulkrjeDoor
open Go.RowKit

set_option maxRecDepth 100000 in
set_option maxHeartbeats 1000000 in
theorem grammar_long1 (p1 : Option Addr) (n1 c1 : Nat) (letter : Int) (p2 : Option Addr) (n2 c2 : Nat) (hash : Int) (hh : Bool) (rev : Int) (hr : Bool) (w : World) (hn1 : 300 < n1) :
    Calls Ybad.prog 4 #[.slice p1 n1 c1, .int .u8 letter, .slice p2 n2 c2, .int .u32 hash, .bool hh, .int .u16 rev, .bool hr] w fun e w' => e = .returned (.bool true) ∧ Below w.heap.size w w' := by
  have hd1 : decide ((300 : Int) < (n1 : Int)) = true := decide_eq_true (by omega)
  go_enter Ybad.func4, Ybad.ntmps4
  go_wp2
  go_ret
  exact ⟨rfl, Below.refl _ _⟩

set_option maxRecDepth 100000 in
set_option maxHeartbeats 1000000 in
theorem grammar_long2 (p1 : Option Addr) (n1 c1 : Nat) (letter : Int) (p2 : Option Addr) (n2 c2 : Nat) (hash : Int) (hh : Bool) (rev : Int) (hr : Bool) (w : World) (hn1 : n1 ≤ 300) (hn2 : 300 < n2) :
    Calls Ybad.prog 4 #[.slice p1 n1 c1, .int .u8 letter, .slice p2 n2 c2, .int .u32 hash, .bool hh, .int .u16 rev, .bool hr] w fun e w' => e = .returned (.bool true) ∧ Below w.heap.size w w' := by
  have hd1 : decide ((300 : Int) < (n1 : Int)) = false := decide_eq_false (by omega)
  have hd2 : decide ((300 : Int) < (n2 : Int)) = true := decide_eq_true (by omega)
  go_enter Ybad.func4, Ybad.ntmps4
  go_wp2
  go_ret
  exact ⟨rfl, Below.refl _ _⟩

end Go.Proofs.YbulkrjeDoor
