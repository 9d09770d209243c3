/-
  (*versionReader).next, walked.
-/
import Derived.Test.YbulkrjeDoorRvpAny
import Derived.Deep.RegionHeld3
import Derived.Deep.RegionWith
import Derived.Deep.DrawnRows
import Derived.BigRegion
import Derived.Deep.DeepCutAuto
namespace Go.RowKit

theorem Below.setSame {B : Nat} {w w1 : World} (h : Below B w w1) (a : Addr) (v : Value) : Below B (w.setCell a v) (w1.setCell a v) := by
  refine ⟨h.os, h.tape, h.output, ?_, fun k hk => ?_⟩
  · have := h.size
    simpa [World.setCell] using this
  · by_cases hka : k = a.block
    · subst hka
      simp only [World.setCell, Array.getElem?_modify, if_true]
      rw [h.block _ hk]
    · rw [Below.heap_setCell _ _ _ _ hka, Below.heap_setCell _ _ _ _ hka]
      exact h.block k hk

theorem Below.undrew {B : Nat} {w w1 : World} (h : Below B w.drew w1) : Below B w w1 := ⟨h.os, h.tape, h.output, h.size, h.block⟩

end Go.RowKit
namespace Go.Proofs.YbulkrjeDoor
open Go.RowKit
attribute [local go_sem] ext_list at_head tk1

/-- What next hands out, what is left to read, and the kind that it keeps. -/
def nxt (c : UInt8) (t : List UInt8) (prev : Nat) : Tok × List UInt8 :=
  if (rvp c t prev).2 = 0 then (⟨6, c :: t, 0⟩, []) else ((rvp c t prev).1, (c :: t).drop (rvp c t prev).2)

theorem bcell {W w1 : World} (hb : Below W.heap.size W w1) : (∀ b o, b < W.heap.size → w1.cell? ⟨b, o, none⟩ = W.cell? ⟨b, o, none⟩) ∧ (∀ b o, b < W.heap.size → w1.frozen? ⟨b, o, none⟩ = W.frozen? ⟨b, o, none⟩) :=
  ⟨fun b o h => hb.cell (p := ⟨b, o, none⟩) h, fun b o h => hb.frozen (p := ⟨b, o, none⟩) h⟩

set_option maxHeartbeats 400000 in
theorem next_end (rb : Nat) (prev : Int) (w : World) (c0 : w.cell? ⟨rb, 0, none⟩ = some (.string ⟨#[]⟩)) (_c1 : w.cell? ⟨rb, 1, none⟩ = some (.int .u8 prev)) :
    Calls Ybad.prog 6 #[.pointer (some ⟨rb, 0, none⟩)] w fun e w' => e = .returned (.agg #[.int .u8 7, .string ⟨#[]⟩, .int .i64 0]) ∧ Below w.heap.size w w' := by
  have hr := World.block_lt_of_cell? w _ c0
  go_enter Ybad.func6, Ybad.ntmps6
  go_wp2
  exact bodyPost_ret (v := .agg #[.int .u8 7, .string ⟨#[]⟩, .int .i64 0]) (by simp [results, Ybad.results6, go_sem]) rfl ⟨rfl, (Below.refl _ _).alloc (Nat.le_refl _) _⟩

theorem SufAt.alloc {w : World} (h : SufAt w) (o : Obj) : SufAt (w.alloc o) := h.below ((Below.refl _ _).alloc (Nat.le_refl _) o) (Nat.le_refl _)

/-- What stands behind the first statement of next: the part lies at block g, the result's room as it was made. -/
def Mid (w : World) (p rk : Nat) (tx : List UInt8) (g : Nat) (W : World) : Prop :=
  w.heap.size < g ∧ Below w.heap.size w W ∧
    (W.cell? ⟨g, 0, none⟩ = some (.int .u8 (p : Nat)) ∧ W.cell? ⟨g, 1, none⟩ = some (.string ⟨tx.toArray⟩) ∧ W.cell? ⟨g, 2, none⟩ = some (.int .i64 (rk : Nat))) ∧
    (W.cell? ⟨w.heap.size, 0, none⟩ = some (.int .u8 0) ∧ W.cell? ⟨w.heap.size, 1, none⟩ = some (.string ⟨#[]⟩) ∧ W.cell? ⟨w.heap.size, 2, none⟩ = some (.int .i64 0)) ∧
    (W.frozen? ⟨w.heap.size, 0, none⟩ = false ∧ W.frozen? ⟨w.heap.size, 1, none⟩ = false ∧ W.frozen? ⟨w.heap.size, 2, none⟩ = false) ∧
    (W.frozen? ⟨g, 0, none⟩ = false ∧ W.frozen? ⟨g, 1, none⟩ = false ∧ W.frozen? ⟨g, 2, none⟩ = false)

theorem mid_late {w w1 : World} {p rk : Nat} {tx : List UInt8} (hb : Below (w.alloc (.cells #[.int .u8 0, .string ⟨#[]⟩, .int .i64 0] 27)).heap.size (w.alloc (.cells #[.int .u8 0, .string ⟨#[]⟩, .int .i64 0] 27)) w1) :
    Mid w p rk tx w1.heap.size (w1.alloc (.cells #[.int .u8 p, .string ⟨tx.toArray⟩, .int .i64 rk] 27)) := by
  obtain ⟨hc, hf⟩ := bcell hb
  have hz := hb.size
  simp only [World.size_alloc] at hz hc hf
  refine ⟨by omega, (((Below.refl _ _).alloc (Nat.le_refl _) _).trans (hb.mono (by simp))).alloc (by omega) _, by simp, ?_, ?_, by simp⟩
  · refine ⟨?_, ?_, ?_⟩
    all_goals
      rw [World.cell?_alloc_lt _ _ _ (by show w.heap.size < _; omega), hc _ _ (by omega)]
      simp
  · refine ⟨?_, ?_, ?_⟩
    all_goals
      rw [World.frozen?_alloc_past _ _ _ (by omega), hf _ _ (by omega)]
      simp

theorem mid_early {w w1 : World} {p rk : Nat} {tx : List UInt8}
    (hb : Below ((w.alloc (.cells #[.int .u8 0, .string ⟨#[]⟩, .int .i64 0] 27)).alloc (.cells #[.int .u8 0, .string ⟨#[]⟩, .int .i64 0] 27)).heap.size ((w.alloc (.cells #[.int .u8 0, .string ⟨#[]⟩, .int .i64 0] 27)).alloc (.cells #[.int .u8 0, .string ⟨#[]⟩, .int .i64 0] 27)) w1) :
    Mid w p rk tx (w.heap.size + 1) (((w1.setCell ⟨w.heap.size + 1, 0, none⟩ (.int .u8 p)).setCell ⟨w.heap.size + 1, 1, none⟩ (.string ⟨tx.toArray⟩)).setCell ⟨w.heap.size + 1, 2, none⟩ (.int .i64 rk)) := by
  obtain ⟨hc, hf⟩ := bcell hb
  have hz := hb.size
  simp only [World.size_alloc] at hz hc hf
  have g0 : w1.cell? ⟨w.heap.size + 1, 0, none⟩ = some (.int .u8 0) := by rw [hc _ _ (by omega)]; simp
  have g1 : w1.cell? ⟨w.heap.size + 1, 1, none⟩ = some (.string ⟨#[]⟩) := by rw [hc _ _ (by omega)]; simp
  have g2 : w1.cell? ⟨w.heap.size + 1, 2, none⟩ = some (.int .i64 0) := by rw [hc _ _ (by omega)]; simp
  have q0 : w1.cell? ⟨w.heap.size, 0, none⟩ = some (.int .u8 0) := by rw [hc _ _ (by omega)]; simp
  have q1 : w1.cell? ⟨w.heap.size, 1, none⟩ = some (.string ⟨#[]⟩) := by rw [hc _ _ (by omega)]; simp
  have q2 : w1.cell? ⟨w.heap.size, 2, none⟩ = some (.int .i64 0) := by rw [hc _ _ (by omega)]; simp
  have fr : ∀ o, w1.frozen? ⟨w.heap.size, o, none⟩ = false := fun o => by rw [hf _ _ (by omega)]; simp
  have fg : ∀ o, w1.frozen? ⟨w.heap.size + 1, o, none⟩ = false := fun o => by rw [hf _ _ (by omega)]; simp
  refine ⟨by omega, ?_, by simp [g0, g1, g2, go_sem], by simp [q0, q1, q2, go_sem], by simp [fr, go_sem], by simp [fg, go_sem]⟩
  exact ((((((Below.refl _ _).alloc (Nat.le_refl _) _).alloc (by simp) _).trans (hb.mono (by simp; omega))).setCell (by simp) _).setCell (by simp) _).setCell (by simp) _

set_option maxRecDepth 100000 in
set_option maxHeartbeats 2000000 in
theorem next_go (rb : Nat) (c : UInt8) (t : List UInt8) (prev : Nat) (w : World) (hl : (c :: t).length ≤ 100000) (hp : prev ≤ 6 ∨ prev = 8) (hsuf : Hid (SufAt w))
    (c0 : w.cell? ⟨rb, 0, none⟩ = some (.string ⟨(c :: t).toArray⟩)) (c1 : w.cell? ⟨rb, 1, none⟩ = some (.int .u8 (prev : Nat)))
    (f0 : w.frozen? ⟨rb, 0, none⟩ = false) (f1 : w.frozen? ⟨rb, 1, none⟩ = false) (p n : Nat) (tx : List UInt8) (rk : Nat) (hrv : Hid (rvp c t prev = (⟨p, tx, rk⟩, n))) (hn : 0 < n) (hn1 : n ≤ t.length + 1) :
    Calls Ybad.prog 6 #[.pointer (some ⟨rb, 0, none⟩)] w fun e w' => e = .returned (.agg #[.int .u8 p, .string ⟨tx.toArray⟩, .int .i64 rk]) ∧
      Below w.heap.size ((w.setCell ⟨rb, 0, none⟩ (.string ⟨((c :: t).drop n).toArray⟩)).setCell ⟨rb, 1, none⟩ (.int .u8 p)) w' := by
  have hr := World.block_lt_of_cell? w _ c0
  go_enter Ybad.func6, Ybad.ntmps6
  go_wp2
  go_cut [3, 4] (fun s3 s4 W => s4 = .int .i64 n ∧ ∃ g, s3 = .pointer (some ⟨g, 0, none⟩) ∧ Mid w p rk tx g W)
  case first =>
    go_region_with (go_at_call 11; refine (rvp_any c t prev _ hl hp ?_).mono ?_; (first | exact (hsuf.out.alloc _ : SufAt _) | exact ((hsuf.out.alloc _).alloc _ : SufAt _)); rintro e w1 ⟨rfl, hb1⟩; rw [hrv.out]; unfold Tok.val; obtain ⟨hc1, hf1⟩ := bcell hb1; have hz1 := hb1.size)
    all_goals go_wp2
    all_goals go_meet
    all_goals first | exact ⟨rfl, _, rfl, mid_late hb1.undrew⟩ | exact ⟨rfl, _, rfl, mid_early hb1.undrew⟩
  case rest =>
    obtain ⟨rfl, g, rfl, hg, hb, ⟨d0, d1, d2⟩, ⟨e0, e1, e2⟩, ⟨k0, k1, k2⟩, _⟩ := hcut
    obtain ⟨hc, hf⟩ := bcell hb
    have hz := hb.size
    have hn0 : ((n : Int) == 0) = false := by
      have : (n : Int) ≠ 0 := by omega
      simpa using this
    go_wp2
    go_region
    all_goals go_wp2
    all_goals refine bodyPost_ret (v := .agg #[.int .u8 p, .string ⟨tx.toArray⟩, .int .i64 rk]) ?_ rfl ⟨rfl, ?_⟩
    · simp [results, Ybad.results6, go_sem, e0, e1, e2]
    · exact (((((hb.setSame _ _).setSame _ _).setCell (p := ⟨w.heap.size, 0, none⟩) (Nat.le_refl _) _).setCell (p := ⟨w.heap.size, 1, none⟩) (Nat.le_refl _) _).setCell (p := ⟨w.heap.size, 2, none⟩) (Nat.le_refl _) _).drew

set_option maxRecDepth 100000 in
set_option maxHeartbeats 2000000 in
theorem next_rest (rb : Nat) (c : UInt8) (t : List UInt8) (prev : Nat) (w : World) (hl : (c :: t).length ≤ 100000) (hp : prev ≤ 6 ∨ prev = 8) (hsuf : Hid (SufAt w))
    (c0 : w.cell? ⟨rb, 0, none⟩ = some (.string ⟨(c :: t).toArray⟩)) (c1 : w.cell? ⟨rb, 1, none⟩ = some (.int .u8 (prev : Nat)))
    (f0 : w.frozen? ⟨rb, 0, none⟩ = false) (f1 : w.frozen? ⟨rb, 1, none⟩ = false) (p : Nat) (tx : List UInt8) (rk : Nat) (hrv : Hid (rvp c t prev = (⟨p, tx, rk⟩, 0))) :
    Calls Ybad.prog 6 #[.pointer (some ⟨rb, 0, none⟩)] w fun e w' => e = .returned (.agg #[.int .u8 6, .string ⟨(c :: t).toArray⟩, .int .i64 0]) ∧
      Below w.heap.size ((w.setCell ⟨rb, 0, none⟩ (.string ⟨#[]⟩)).setCell ⟨rb, 1, none⟩ (.int .u8 6)) w' := by
  have hr := World.block_lt_of_cell? w _ c0
  go_enter Ybad.func6, Ybad.ntmps6
  go_wp2
  go_cut [3, 4] (fun s3 s4 W => s4 = .int .i64 0 ∧ ∃ g, s3 = .pointer (some ⟨g, 0, none⟩) ∧ Mid w p rk tx g W)
  case first =>
    go_region_with (go_at_call 11; refine (rvp_any c t prev _ hl hp ?_).mono ?_; (first | exact (hsuf.out.alloc _ : SufAt _) | exact ((hsuf.out.alloc _).alloc _ : SufAt _)); rintro e w1 ⟨rfl, hb1⟩; rw [hrv.out]; unfold Tok.val; obtain ⟨hc1, hf1⟩ := bcell hb1; have hz1 := hb1.size)
    all_goals go_wp2
    all_goals go_meet
    all_goals first | exact ⟨rfl, _, rfl, mid_late hb1.undrew⟩ | exact ⟨rfl, _, rfl, mid_early hb1.undrew⟩
  case rest =>
    obtain ⟨rfl, g, rfl, hg, hb, ⟨d0, d1, d2⟩, ⟨e0, e1, e2⟩, ⟨k0, k1, k2⟩, ⟨m0, m1, m2⟩⟩ := hcut
    obtain ⟨hc, hf⟩ := bcell hb
    have hz := hb.size
    go_wp2
    go_region
    all_goals go_wp2
    all_goals go_region
    all_goals go_wp2
    all_goals refine bodyPost_ret (v := .agg #[.int .u8 6, .string ⟨(c :: t).toArray⟩, .int .i64 0]) ?_ rfl ⟨rfl, ?_⟩
    · simp [results, Ybad.results6, go_sem, e0, e1, e2]
    · have hgb : w.heap.size ≤ g := by omega
      have b1 := (((hb.setCell (p := ⟨g, 0, none⟩) hgb (.int .u8 6)).setCell (p := ⟨g, 1, none⟩) hgb (.string ⟨(c :: t).toArray⟩)).setCell (p := ⟨g, 2, none⟩) hgb (.int .i64 0))
      have b2 := (b1.setSame ⟨rb, 0, none⟩ (.string ⟨#[]⟩)).setSame ⟨rb, 1, none⟩ (.int .u8 6)
      have b3 := ((b2.setCell (p := ⟨w.heap.size, 0, none⟩) (Nat.le_refl _) (.int .u8 6)).setCell (p := ⟨w.heap.size, 1, none⟩) (Nat.le_refl _) (.string ⟨(c :: t).toArray⟩)).setCell (p := ⟨w.heap.size, 2, none⟩) (Nat.le_refl _) (.int .i64 0)
      exact b3.drew.drew

end Go.Proofs.YbulkrjeDoor
