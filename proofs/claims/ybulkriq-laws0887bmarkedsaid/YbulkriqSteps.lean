/-
  The two methods of docReader that this seat's law calls, walked.
-/
import Derived.Test.YbulkriqPre
import Derived.Deep.RegionWith
import Derived.RegionTactic
namespace Go.Proofs.Ybulkriq
open Go.RowKit

/-- The numbers stay where they lay behind a new block. -/
theorem Bts.alloc {w : World} {p : Option Addr} {n : Nat} {xs : List Int} (h : Bts w p n xs) (o : Obj) : Bts (w.alloc o) p n xs := by
  refine ⟨h.1, fun hn => ?_⟩
  obtain ⟨b, q, hp, hc⟩ := h.2 hn
  exact ⟨b, q, hp, fun i hi => by
    have := hc i hi
    rw [World.cell?_alloc_lt w o ⟨b, q + i, none⟩ (World.block_lt_of_cell? w _ this)]
    exact this⟩

theorem Bts.mark3 (w : World) (fz : Nat × Nat) : Bts (w.alloc (.cells #[.int .u8 239, .int .u8 187, .int .u8 191] 5 fz)) (some ⟨w.heap.size, 0, none⟩) 3 [239, 187, 191] := by
  refine ⟨rfl, fun _ => ⟨_, _, rfl, fun i hi => ?_⟩⟩
  rw [World.cell?_alloc_mark]
  match i, hi with
  | 0, _ => rfl
  | 1, _ => rfl
  | 2, _ => rfl

set_option maxHeartbeats 400000 in
theorem skip_yes (rb : Nat) (p : Option Addr) (n c : Nat) (q : Int) (w : World) (h0 : w.cell? ⟨rb, 0, none⟩ = some (.slice p n c)) (h1 : w.cell? ⟨rb, 1, none⟩ = some (.int .i64 q))
    (hf : w.frozen? ⟨rb, 1, none⟩ = false) (hr : rb < w.heap.size) (hn : 3 ≤ n) (hnc : n ≤ c) (hb : Bts w p 3 [239, 187, 191]) :
    Calls Yba.prog 5 #[.pointer (some ⟨rb, 0, none⟩)] w fun e w' => e = .returned (.tuple #[]) ∧ ∃ o, w' = (w.setCell ⟨rb, 1, none⟩ (.int .i64 3)).alloc o := by
  have kc := fun (w : World) (C : Array Value) (n c : Nat) => Lib.run_convert_bytes_const (P := Yba.prog) w 22 5 C n c Yba.underlying22 Yba.underlying5
  go_enter Yba.func5, Yba.ntmps5
  go_wp2_with (go_at_call 7; refine (hasPrefix_yes _ _ _ _ _ _ [239, 187, 191] _ hn hnc (hb.alloc _) (Bts.mark3 _ _)).mono ?_; rintro e w' ⟨rfl, rfl⟩)
  go_end0
  exact ⟨rfl, _, rfl⟩

/-- The numbers of a string's bytes. -/
def nums (s : ByteArray) : List Int := s.data.toList.map fun b => (b.toNat : Int)

theorem nums_length (s : ByteArray) : (nums s).length = s.size := by unfold nums; rw [List.length_map, Array.length_toList]; rfl

theorem Bts.ofString (w : World) (s : ByteArray) (cap : Nat) (fz : Nat × Nat) : Bts (w.alloc (.cells (bytesRow s cap) 5 fz)) (some ⟨w.heap.size, 0, none⟩) s.size (nums s) := by
  refine ⟨nums_length s, fun _ => ⟨_, _, rfl, fun i hi => ?_⟩⟩
  have hi' : i < s.data.size := hi
  rw [World.cell?_alloc_mark, Nat.zero_add, bytesRow_at s cap i hi']
  simp [nums, List.getD, Array.getElem?_eq_getElem hi']

theorem Bts.noByte (w : World) (p : Option Addr) {n : Nat} {xs : List Int} (hn : n = 0) (hx : xs.length = n) : Bts w p n xs := ⟨hx, fun h => by omega⟩

set_option maxHeartbeats 400000 in
theorem looking_more (rb g n c : Nat) (s : ByteArray) (w : World) (h0 : w.cell? ⟨rb, 0, none⟩ = some (.slice (some ⟨g, 0, none⟩) n c)) (h1 : w.cell? ⟨rb, 1, none⟩ = some (.int .i64 3))
    (hr : rb < w.heap.size) (hn : s.size + 3 ≤ n) (hnc : n ≤ c) (hm : c ≤ 100000) (hc3 : ¬ c = 3) (hb : Bts w (some ⟨g, 3, none⟩) s.size (nums s)) :
    Calls Yba.prog 6 #[.pointer (some ⟨rb, 0, none⟩), .string s] w fun e w' => e = .returned (.bool true) ∧ Below w.heap.size w w' := by
  have kb := fun (w : World) => run_bytes_of_string (P := Yba.prog) w 9 22 5 s Yba.underlying9 Yba.underlying22 Yba.underlying5
  go_enter Yba.func6, Yba.ntmps6
  go_wp2
  go_region_with (go_at_call 7; refine (hasPrefix_yes _ _ _ _ _ _ (nums s) _ (by omega) (by omega) (by exact hb.alloc _) (by exact Bts.ofString w s _ _)).mono ?_; rintro e w' ⟨rfl, rfl⟩)
  all_goals
    go_wp2
    go_ret
    exact ⟨rfl, by repeat (first | exact Below.refl _ _ | apply Below.drew | refine Below.alloc ?_ (Nat.le_refl _) _)⟩

set_option maxHeartbeats 400000 in
theorem looking_none (rb g : Nat) (s : ByteArray) (w : World) (h0 : w.cell? ⟨rb, 0, none⟩ = some (.slice (some ⟨g, 0, none⟩) 3 3)) (h1 : w.cell? ⟨rb, 1, none⟩ = some (.int .i64 3))
    (hr : rb < w.heap.size) (hs : s.size = 0) :
    Calls Yba.prog 6 #[.pointer (some ⟨rb, 0, none⟩), .string s] w fun e w' => e = .returned (.bool true) ∧ Below w.heap.size w w' := by
  have HS : Hid (s.size = 0) := hs
  have hs' : s.size ≤ 0 := by omega
  clear hs
  have kb := fun (w : World) => run_bytes_of_string (P := Yba.prog) w 9 22 5 s Yba.underlying9 Yba.underlying22 Yba.underlying5
  go_enter Yba.func6, Yba.ntmps6
  go_wp2
  go_region_with (go_at_call 7; refine (hasPrefix_yes _ _ _ _ _ _ (nums s) _ (by omega) (by omega) (by exact Bts.noByte _ _ HS.out (nums_length s)) (by exact Bts.ofString w s _ _)).mono ?_; rintro e w' ⟨rfl, rfl⟩)
  all_goals
    go_wp2
    go_ret
    exact ⟨rfl, by repeat (first | exact Below.refl _ _ | apply Below.drew | refine Below.alloc ?_ (Nat.le_refl _) _)⟩

end Go.Proofs.Ybulkriq
