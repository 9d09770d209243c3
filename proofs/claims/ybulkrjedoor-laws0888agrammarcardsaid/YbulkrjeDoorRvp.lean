/-
  readVersionPart, walked: one theorem a way.
-/
import Derived.Test.YbulkrjeDoorPlain
import Derived.Deep.QuietTactic
import Derived.BigQuiet
namespace Go.Proofs.YbulkrjeDoor
open Go.RowKit

theorem at_head (c : UInt8) (t : List UInt8) (h : 0 < (⟨(c :: t).toArray⟩ : ByteArray).size) : (⟨(c :: t).toArray⟩ : ByteArray)[0]'h = c := rfl

theorem tk1 (c : UInt8) (t : List UInt8) (n : Nat) : (List.take (1 + n) (c :: t)).tail = List.take n t := by rw [Nat.add_comm]; rfl

attribute [local go_sem] ext_list at_head tk1

theorem SufAt.rows {w : World} (h : SufAt w) : ∃ t fr, ∀ o nq, ((w.alloc o).drewN nq).heap[0]? = some (.cells sufCells t fr) := by
  obtain ⟨t, fr, h⟩ := h
  refine ⟨t, fr, fun o nq => ?_⟩
  have : 0 < w.heap.size := by
    obtain ⟨hh, _⟩ := Array.getElem?_eq_some_iff.1 h
    exact hh
  show (w.alloc o).heap[0]? = _
  rw [Below.heap_alloc w o 0 this]
  exact h

theorem spn_le' (p : Int → Bool) (c : UInt8) (t : List UInt8) {n : Nat} (h : Hid (spn p (c :: t) = n)) : n ≤ t.length + 1 := by
  have := spn_le p (c :: t)
  rw [h.out] at this
  simpa using this
theorem spn_le'' (p : Int → Bool) (t : List UInt8) {n : Nat} (h : Hid (spn p t = n)) : n ≤ t.length := by
  have := spn_le p t
  rwa [h.out] at this

set_option maxRecDepth 100000 in
set_option maxHeartbeats 1000000 in
theorem rvp8_yes (c : UInt8) (t : List UInt8) (n : Nat) (w : World) (hl : t.length + 1 ≤ 100000) (hn : Hid (spn dig (c :: t) = n)) (h : 0 < n) :
    Calls Ybad.prog 11 #[.string ⟨(c :: t).toArray⟩, .int .u8 8] w fun e w' => e = .returned (.tuple #[.agg #[.int .u8 0, .string ⟨((c :: t).take n).toArray⟩, .int .i64 0], .int .i64 n]) ∧ Below w.heap.size w w' := by
  have hle := spn_le' dig c t hn
  go_enter Ybad.func11, Ybad.ntmps11
  go_wp2_with (go_at_call 13; refine (span_dig (c :: t) _ hl).mono ?_; rintro e w1 ⟨rfl, hw1⟩; rw [hw1, hn.out]; clear hw1)
  exact bodyPost_ret (v := .tuple #[.agg #[.int .u8 0, .string ⟨((c :: t).take n).toArray⟩, .int .i64 0], .int .i64 n]) (by simp [results, Ybad.results11, go_sem]) rfl ⟨rfl, (Below.refl _ _).alloc (Nat.le_refl _) _⟩

set_option maxRecDepth 100000 in
set_option maxHeartbeats 1000000 in
theorem rvp8_no (c : UInt8) (t : List UInt8) (w : World) (hl : t.length + 1 ≤ 100000) (hn : Hid (spn dig (c :: t) = 0)) :
    Calls Ybad.prog 11 #[.string ⟨(c :: t).toArray⟩, .int .u8 8] w fun e w' => e = .returned (.tuple #[.agg #[.int .u8 0, .string ⟨#[]⟩, .int .i64 0], .int .i64 0]) ∧ Below w.heap.size w w' := by
  go_enter Ybad.func11, Ybad.ntmps11
  go_wp2_with (go_at_call 13; refine (span_dig (c :: t) _ hl).mono ?_; rintro e w1 ⟨rfl, hw1⟩; rw [hw1, hn.out]; clear hw1)
  exact bodyPost_ret (v := .tuple #[.agg #[.int .u8 0, .string ⟨#[]⟩, .int .i64 0], .int .i64 0]) (by simp [results, Ybad.results11, go_sem]) rfl ⟨rfl, (Below.refl _ _).alloc (Nat.le_refl _) _⟩

set_option maxRecDepth 100000 in
set_option maxHeartbeats 1000000 in
theorem rvp0_num (c : UInt8) (t : List UInt8) (n : Nat) (w : World) (hl : t.length + 1 ≤ 100000) (hc : ((c.toNat : Int) == 46) = true) (hn : Hid (spn dig t = n)) (h : 0 < n) :
    Calls Ybad.prog 11 #[.string ⟨(c :: t).toArray⟩, .int .u8 0] w fun e w' => e = .returned (.tuple #[.agg #[.int .u8 0, .string ⟨(t.take n).toArray⟩, .int .i64 0], .int .i64 (1 + n : Nat)]) ∧ Below w.heap.size w w' := by
  have hle := spn_le'' dig t hn
  go_enter Ybad.func11, Ybad.ntmps11
  go_wp2_with (go_at_call 13; refine (span_dig t _ (by omega)).mono ?_; rintro e w1 ⟨rfl, hw1⟩; rw [hw1, hn.out]; clear hw1)
  exact bodyPost_ret (v := .tuple #[.agg #[.int .u8 0, .string ⟨(t.take n).toArray⟩, .int .i64 0], .int .i64 (1 + n : Nat)]) (by simp [results, Ybad.results11, go_sem]) rfl ⟨rfl, (Below.refl _ _).alloc (Nat.le_refl _) _⟩

set_option maxHeartbeats 400000 in
theorem pre_yes (u : List UInt8) (w : World) : Calls Ybad.prog 17 #[.string ⟨(114 :: u).toArray⟩, .string ⟨#[114]⟩] w fun e w' => e = .returned (.bool true) ∧ w' = w := by
  go_enter Ybad.func17, Ybad.ntmps17
  go_wp2
  go_ret
  exact ⟨rfl, rfl⟩

set_option maxHeartbeats 400000 in
theorem pre_no (t : List UInt8) (w : World) (h : t.take 1 ≠ [114]) (_hl : t.length ≤ 100000) : Calls Ybad.prog 17 #[.string ⟨t.toArray⟩, .string ⟨#[114]⟩] w fun e w' => e = .returned (.bool false) ∧ w' = w := by
  have h' : (List.take 1 t == [114]) = false := by simpa using h
  have HL : Hid ((List.take 1 t == [114]) = false) := h'
  clear h' h
  go_enter Ybad.func17, Ybad.ntmps17
  go_wp2
  · go_ret
    exact ⟨by rw [← HL.out]; rfl, rfl⟩
  · go_ret
    exact ⟨rfl, rfl⟩

end Go.Proofs.YbulkrjeDoor
