/-
  bytes.Equal and bytes.HasPrefix, walked at the two slices that this seat's law hands them.
-/
import Derived.Test.YbulkriqRows
import Derived.WalkKit
import Derived.WalkSpells
import Derived.WalkLawsBesides
import Derived.Laws.BytesArg
import Derived.Lib.SlBytesConst
namespace Go.Proofs.Ybulkriq
open Go.RowKit

/-- 'string(b)' of a slice of bytes, told by its numbers: no byte at whatever address, or an address with its cells. -/
def Bts (w : World) (p : Option Addr) (n : Nat) (xs : List Int) : Prop :=
  xs.length = n ∧ (0 < n → ∃ b o, p = some ⟨b, o, none⟩ ∧ ∀ i, i < n → w.cell? ⟨b, o + i, none⟩ = some (.int .u8 (xs.getD i 0)))

theorem Bts.toStr {w : World} {p : Option Addr} {n : Nat} {xs : List Int} (h : Bts w p n xs) (c : Nat) :
    (convert 22 9 (.slice p n c)).run Yba.prog w = .ok (.string (strOfNums xs)) w := by
  obtain ⟨hl, hc⟩ := h
  by_cases hn : 0 < n
  · obtain ⟨b, o, rfl, hcell⟩ := hc hn
    exact run_convert_bytes_arg w 22 5 Yba.underlying22 Yba.underlying5 b o n c xs hl hcell 9 Yba.underlying9
  · obtain rfl : n = 0 := by omega
    obtain rfl : xs = [] := List.eq_nil_of_length_eq_zero hl
    rw [run_convert_bytes_string w 22 9 5 _ 0 c Yba.underlying22 Yba.underlying5 Yba.underlying9]
    cases p <;> simp [Conv.bytesToString, loadCells, strOfNums]
    all_goals rfl

set_option maxHeartbeats 400000 in
theorem equal_same (p1 p2 : Option Addr) (n c d : Nat) (xs : List Int) (w : World) (h1 : Bts w p1 n xs) (h2 : Bts w p2 n xs) :
    Calls Yba.prog 8 #[.slice p1 n c, .slice p2 n d] w fun e w' => e = .returned (.bool true) ∧ w' = w := by
  have g1 := h1.toStr c
  have g2 := h2.toStr d
  clear h1 h2
  go_enter Yba.func8, Yba.ntmps8
  go_wp2
  go_ret
  exact ⟨by simp, rfl⟩

theorem map_add_none (p : Option Addr) : Option.map (fun x : Addr => x.add 0) p = p := by
  cases p with
  | none => rfl
  | some a => cases a; simp [Addr.add]

set_option maxHeartbeats 400000 in
theorem hasPrefix_yes (p1 p2 : Option Addr) (n c m d : Nat) (ys : List Int) (w : World) (hmn : m ≤ n) (hnc : n ≤ c) (h1 : Bts w p1 m ys) (h2 : Bts w p2 m ys) :
    Calls Yba.prog 7 #[.slice p1 n c, .slice p2 m d] w fun e w' => e = .returned (.bool true) ∧ w' = w := by
  have hz := map_add_none p1
  have hle : ((m : Int) ≤ (n : Int)) := by omega
  go_enter Yba.func7, Yba.ntmps7
  go_wp2_with (go_at_call 8; refine (equal_same _ _ _ _ _ ys _ h1 h2).mono ?_; rintro e w' ⟨rfl, rfl⟩)
  go_ret
  exact ⟨rfl, rfl⟩

end Go.Proofs.Ybulkriq
