/-
  LawS0888BFilter at no record and at more than 1024; and what the reading of its argument gives.
-/
import Derived.Test.YbulkrjeFil
import Derived.ProofKit
import Derived.OpenShut
import Derived.Deep.SlicePairs
namespace Go.Proofs.Ybulkrje
open Go.RowKit

set_option maxRecDepth 100000 in
set_option maxHeartbeats 1000000 in
theorem fil_none (p : Option Addr) (cap : Nat) (sel : Int) (w : World) (hs0 : 0 ≤ sel) (hs1 : sel ≤ 255) :
    Calls Yba.prog 3 #[.slice p 0 cap, .int .u8 sel] w fun e w' => e = .returned (.bool true) ∧ Below w.heap.size w w' := by
  obtain ⟨i0, hi, hz0, hz1, hz2⟩ := info_parts Yba.info26
  go_enter Yba.func3, Yba.ntmps3
  go_wp2_with fail
  refine wp_loop_rounds 1 ?_
  rw [rounds_succ]
  go_wp2_with (at_make; refine wpList_make_own _ rfl _ _ 24 rfl w.heap.size 26 i0 (.slice none 0 0) 1 Yba.underlying24 hi hz0 hz1 _ _ _ 0 rfl rfl rfl (by rw [hz2]; omega) (by unfold maxLen; omega) (Nat.le_refl _) ?_)
  intro w1 own1 gr1
  have hb1 : Below w.heap.size w w1 := (Below.refl _ _).grown gr1 (Nat.le_refl _) (fun k h => by cases h)
  have s1 := hb1.size
  clear gr1 own1
  go_wp2_with fail
  refine wp_loop_rounds 1 ?_
  rw [rounds_succ]
  go_wp2_with fail
  refine (val_any sel hs0 hs1 _).mono ?_
  rintro e w5 ⟨rfl, hw5⟩
  rw [hw5]
  clear hw5
  generalize valueOf sel = name at *
  go_wp2_with fail
  refine (find_any w1.heap.size w.heap.size 0 0 ⟨fun _ => none, fun _ => 0, fun _ => 0, fun _ => ⟨0, fun _ => 0, fun _ => ByteArray.empty⟩⟩ name _ (by omega) (by simp) (fun i hi => by omega)).mono ?_
  rintro e w6 ⟨h6, hb6⟩
  obtain ⟨got, rfl, ⟨ga, gn, gc, rfl⟩, hgot⟩ := got_of_find h6
  clear h6
  have hb6' : Below w1.heap.size w1 w6 := ((Below.refl _ _).alloc (Nat.le_refl _) _).trans (hb6.mono (by simp))
  have HG : Hid (GotAt w6 ⟨fun _ => none, fun _ => 0, fun _ => 0, fun _ => ⟨0, fun _ => 0, fun _ => ByteArray.empty⟩⟩ name 0 (.slice ga gn gc)) := hgot
  have c6 : w6.cell? ⟨w1.heap.size, 2, none⟩ = some (.slice (some ⟨w.heap.size, 0, none⟩) 0 0) := by
    rw [hb6.cell (p := ⟨w1.heap.size, 2, none⟩) (by simp)]
    simp
  clear hgot hb6
  go_wp2_with fail
  refine (check_any w.heap.size 0 0 _ name _ w6 (by omega) (fun i hi => by omega) HG.out).mono ?_
  rintro e w7 ⟨rfl, hb7⟩
  have c7 : w7.cell? ⟨w1.heap.size, 2, none⟩ = some (.slice (some ⟨w.heap.size, 0, none⟩) 0 0) := (hb7.cell (p := ⟨w1.heap.size, 2, none⟩) (World.block_lt_of_cell? w6 _ c6)).trans c6
  go_wp2_with fail
  refine wp_loop_rounds 1 ?_
  rw [rounds_succ]
  go_wp2
  go_ret
  exact ⟨rfl, (hb1.trans (hb6'.mono s1)).trans (hb7.mono (by have := hb6'.size; omega))⟩

set_option maxRecDepth 100000 in
set_option maxHeartbeats 400000 in
theorem fil_long (p : Option Addr) (N cap : Nat) (sel : Int) (w : World) (hN : 1024 < N) (_hm : N ≤ 9223372036854775807) :
    Calls Yba.prog 3 #[.slice p N cap, .int .u8 sel] w fun e w' => e = .returned (.bool true) ∧ Below w.heap.size w w' := by
  go_enter Yba.func3, Yba.ntmps3
  go_wp2
  go_ret
  exact ⟨rfl, Below.refl _ _⟩

open Go.ChangeShapes Go.WideShapes Go.Deep

/-- WHAT THE READING OF THE ARGUMENT GIVES: every record, every field. -/
theorem open_fil {H : Type} {enc : TypeId × Value → H} {w : World} {fuel : Nat} {a0 : Option Addr} {len cap : Nat} {x : DataW H × List MemPlace}
    (h : DataW.trod enc Yba.prog w 0 (fun _ => true) true fuel 22 [.slice a0 len cap] = some x) :
    len ≤ 9223372036854775807 ∧ (0 < len → ∃ b o z, a0 = some ⟨b, o, none⟩ ∧ PrsAt w b o len z) := by
  rcases open_slice1 Yba.underlying22 (by kernel_rfl) h with ⟨hcs, _⟩ | ⟨a, l, c, m, n, V, D, Pl, hcs, _, hl, hm, hmm, _, hV⟩
  · simp at hcs
    obtain ⟨rfl, rfl, rfl⟩ := hcs
    exact ⟨by omega, fun h => by omega⟩
  simp at hcs
  obtain ⟨rfl, rfl, rfl⟩ := hcs
  simp only [if_true] at hmm
  subst hmm
  unfold maxLen at hm
  refine ⟨by omega, fun h0 => ?_⟩
  have each : ∀ i, i < len → ∃ q : Option Addr × Nat × Nat × (Nat → Int) × (Nat → Int), V i = .slice q.1 q.2.1 q.2.2.1 ∧ q.2.1 ≤ 9223372036854775807 ∧ PairsAt w q.1 q.2.1 q.2.2.2.1 q.2.2.2.2 ∧
      ∀ j, j < q.2.1 → (0 ≤ q.2.2.2.1 j ∧ q.2.2.2.1 j ≤ 255) ∧ (0 ≤ q.2.2.2.2 j ∧ q.2.2.2.2 j ≤ 255) := by
    intro i hi
    rcases open_slice_pairs Yba.underlying23 Yba.underlying29 (by kernel_rfl) rfl rfl (by kernel_rfl) (by kernel_rfl) (hV i (by omega)).2 with ⟨hcs, _⟩ | ⟨a', l', c', m', n', V0, V1, D0, D1, P0, P1, hcs, _, hl', hm', hmm', _, hx⟩
    · simp at hcs
      exact ⟨(none, 0, 0, fun _ => 0, fun _ => 0), hcs, by simp, fun h => absurd h (Nat.lt_irrefl 0), fun j hj => absurd hj (Nat.not_lt_zero _)⟩
    · simp at hcs
      simp only [if_true] at hmm'
      subst hmm'
      unfold maxLen at hm'
      have fld : ∀ j, j < l' → ∃ y : Int × Int, V0 j = .int .u8 y.1 ∧ V1 j = .int .u8 y.2 ∧ (0 ≤ y.1 ∧ y.1 ≤ 255) ∧ (0 ≤ y.2 ∧ y.2 ≤ 255) := by
        intro j hj
        obtain ⟨_, _, t0, t1⟩ := hx j (by omega)
        obtain ⟨q0, e0, _, w0⟩ := DataW.trod_int Yba.underlying5 t0
        obtain ⟨q1, e1, _, w1⟩ := DataW.trod_int Yba.underlying5 t1
        exact ⟨(q0, q1), by simpa using e0, by simpa using e1, bounds_u8 w0, bounds_u8 w1⟩
      obtain ⟨y, hy⟩ := choose_lt fld
      refine ⟨(some a', l', m', fun j => (y j).1, fun j => (y j).2), hcs, by show l' ≤ _; omega, fun h1 => ?_, fun j hj => ⟨(hy j hj).2.2.1, (hy j hj).2.2.2⟩⟩
      obtain ⟨b', o', spot⟩ := a'
      have h1' : 0 < l' := h1
      have hs : spot = none := by
        have := World.cell?_spot (hx 0 (by omega)).1
        simpa [Addr.add] using this
      subst hs
      refine ⟨b', o', rfl, fun j hj => ?_⟩
      have hj' : j < l' := hj
      obtain ⟨e0, e1, _, _⟩ := hx j (by omega)
      rw [add_plain] at e0 e1
      refine ⟨?_, ?_⟩
      · show w.cell? ⟨b', o' + j * 2, none⟩ = some (.int .u8 (y j).1)
        rw [e0, (hy j hj').1]
      · show w.cell? ⟨b', o' + j * 2 + 1, none⟩ = some (.int .u8 (y j).2)
        rw [Nat.add_assoc, e1, (hy j hj').2.1]
  obtain ⟨q, hq⟩ := choose_lt each
  obtain ⟨b, o, spot⟩ := a
  have hs : spot = none := by
    have := World.cell?_spot (hV 0 (by omega)).1
    simpa [Addr.add] using this
  subst hs
  refine ⟨b, o, ⟨fun i => (q i).1, fun i => (q i).2.1, fun i => (q i).2.2.1, fun i => (q i).2.2.2.1, fun i => (q i).2.2.2.2⟩, rfl, fun i hi => ?_⟩
  obtain ⟨e1, e2, e3, e4⟩ := hq i hi
  refine ⟨?_, e2, e3, e4⟩
  rw [← add_plain, (hV i (by omega)).1, e1]

end Go.Proofs.Ybulkrje
