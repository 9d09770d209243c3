/-
  readVersionPart behind a part of the kind 4, walked: one theorem a way.
-/
import Derived.Test.YbulkrjeDoorRvp
namespace Go.Proofs.YbulkrjeDoor
open Go.RowKit
attribute [local go_sem] ext_list at_head tk1

set_option maxRecDepth 100000 in
set_option maxHeartbeats 1000000 in
theorem rvp4_rev (c : UInt8) (u : List UInt8) (hl : (c :: 114 :: u).length ≤ 100000) (n : Nat) (h95 : ((c.toNat : Int) == 95) = false) (h126 : ((c.toNat : Int) == 126) = false) (h45 : ((c.toNat : Int) == 45) = true) (hn : Hid (spn dig u = n)) (hn0 : 0 < n) (w : World) :
    Calls Ybad.prog 11 #[.string ⟨(c :: 114 :: u).toArray⟩, .int .u8 4] w fun e w' => e = .returned (.tuple #[.agg #[.int .u8 5, .string ⟨(u.take n).toArray⟩, .int .i64 0], .int .i64 (2 + n : Nat)]) ∧ Below w.heap.size w w' := by
  have hle := spn_le'' dig u hn
  have hl' : u.length + 2 ≤ 100000 := by simpa using hl
  have ad : ∀ (W : World) (j : Nat) (o : Obj), (W.drewN j).alloc o = (W.alloc o).drewN j := fun _ _ _ => rfl
  have sd : ∀ (W : World) (j : Nat) (x : Addr) (v : Value), (W.drewN j).setCell x v = (W.setCell x v).drewN j := fun _ _ _ _ => rfl
  go_enter Ybad.func11, Ybad.ntmps11
  go_wp2_with fail
  go_quiet (fail)
  go_wp2_with fail
  refine (pre_yes u _).mono ?_
  rintro e w1 ⟨rfl, hw1⟩
  rw [hw1]
  clear hw1
  go_wp2_with fail
  refine (span_dig u _ (by omega)).mono ?_
  rintro e w1 ⟨rfl, hw1⟩
  rw [hw1, hn.out]
  clear hw1
  go_wp2
  exact bodyPost_ret (v := .tuple #[.agg #[.int .u8 5, .string ⟨(u.take n).toArray⟩, .int .i64 0], .int .i64 (2 + n : Nat)]) (by simp [results, Ybad.results11, go_sem]) rfl ⟨rfl, below_drewN ((Below.refl _ _).alloc (Nat.le_refl _) _) _⟩

set_option maxRecDepth 100000 in
set_option maxHeartbeats 1000000 in
theorem rvp4_norev (c : UInt8) (u : List UInt8) (hl : (c :: 114 :: u).length ≤ 100000) (h95 : ((c.toNat : Int) == 95) = false) (h126 : ((c.toNat : Int) == 126) = false) (h45 : ((c.toNat : Int) == 45) = true) (hn : Hid (spn dig u = 0)) (w : World) :
    Calls Ybad.prog 11 #[.string ⟨(c :: 114 :: u).toArray⟩, .int .u8 4] w fun e w' => e = .returned (.tuple #[.agg #[.int .u8 0, .string ⟨#[]⟩, .int .i64 0], .int .i64 0]) ∧ Below w.heap.size w w' := by
  have hl' : u.length + 2 ≤ 100000 := by simpa using hl
  have ad : ∀ (W : World) (j : Nat) (o : Obj), (W.drewN j).alloc o = (W.alloc o).drewN j := fun _ _ _ => rfl
  have sd : ∀ (W : World) (j : Nat) (x : Addr) (v : Value), (W.drewN j).setCell x v = (W.setCell x v).drewN j := fun _ _ _ _ => rfl
  go_enter Ybad.func11, Ybad.ntmps11
  go_wp2_with fail
  go_quiet (fail)
  go_wp2_with fail
  refine (pre_yes u _).mono ?_
  rintro e w1 ⟨rfl, hw1⟩
  rw [hw1]
  clear hw1
  go_wp2_with fail
  refine (span_dig u _ (by omega)).mono ?_
  rintro e w1 ⟨rfl, hw1⟩
  rw [hw1, hn.out]
  clear hw1
  go_wp2
  exact bodyPost_ret (v := .tuple #[.agg #[.int .u8 0, .string ⟨#[]⟩, .int .i64 0], .int .i64 0]) (by simp [results, Ybad.results11, go_sem]) rfl ⟨rfl, below_drewN ((Below.refl _ _).alloc (Nat.le_refl _) _) _⟩

set_option maxRecDepth 100000 in
set_option maxHeartbeats 1000000 in
theorem rvp4_nor (c : UInt8) (t : List UInt8) (hl : (c :: t).length ≤ 100000) (h95 : ((c.toNat : Int) == 95) = false) (h126 : ((c.toNat : Int) == 126) = false) (h45 : ((c.toNat : Int) == 45) = true) (h114 : Hid (t.take 1 ≠ [114])) (w : World) :
    Calls Ybad.prog 11 #[.string ⟨(c :: t).toArray⟩, .int .u8 4] w fun e w' => e = .returned (.tuple #[.agg #[.int .u8 0, .string ⟨#[]⟩, .int .i64 0], .int .i64 0]) ∧ Below w.heap.size w w' := by
  have hl' : t.length + 1 ≤ 100000 := by simpa using hl
  have ad : ∀ (W : World) (j : Nat) (o : Obj), (W.drewN j).alloc o = (W.alloc o).drewN j := fun _ _ _ => rfl
  have sd : ∀ (W : World) (j : Nat) (x : Addr) (v : Value), (W.drewN j).setCell x v = (W.setCell x v).drewN j := fun _ _ _ _ => rfl
  go_enter Ybad.func11, Ybad.ntmps11
  go_wp2_with fail
  go_quiet (fail)
  go_wp2_with fail
  refine (pre_no t _ h114.out (by omega)).mono ?_
  rintro e w1 ⟨rfl, hw1⟩
  rw [hw1]
  clear hw1
  go_wp2
  exact bodyPost_ret (v := .tuple #[.agg #[.int .u8 0, .string ⟨#[]⟩, .int .i64 0], .int .i64 0]) (by simp [results, Ybad.results11, go_sem]) rfl ⟨rfl, below_drewN ((Below.refl _ _).alloc (Nat.le_refl _) _) _⟩

set_option maxRecDepth 100000 in
set_option maxHeartbeats 1000000 in
theorem rvp4_other (c : UInt8) (t : List UInt8) (hl : (c :: t).length ≤ 100000) (h45 : ((c.toNat : Int) == 45) = false) (w : World) :
    Calls Ybad.prog 11 #[.string ⟨(c :: t).toArray⟩, .int .u8 4] w fun e w' => e = .returned (.tuple #[.agg #[.int .u8 0, .string ⟨#[]⟩, .int .i64 0], .int .i64 0]) ∧ Below w.heap.size w w' := by
  have hl' : t.length + 1 ≤ 100000 := by simpa using hl
  have ad : ∀ (W : World) (j : Nat) (o : Obj), (W.drewN j).alloc o = (W.alloc o).drewN j := fun _ _ _ => rfl
  have sd : ∀ (W : World) (j : Nat) (x : Addr) (v : Value), (W.drewN j).setCell x v = (W.setCell x v).drewN j := fun _ _ _ _ => rfl
  cases h95 : ((c.toNat : Int) == 95) <;> cases h126 : ((c.toNat : Int) == 126)
  all_goals
    go_enter Ybad.func11, Ybad.ntmps11
    go_wp2_with fail
    go_quiet (fail)
    go_wp2
    exact bodyPost_ret (v := .tuple #[.agg #[.int .u8 0, .string ⟨#[]⟩, .int .i64 0], .int .i64 0]) (by simp [results, Ybad.results11, go_sem]) rfl ⟨rfl, below_drewN ((Below.refl _ _).alloc (Nat.le_refl _) _) _⟩

set_option maxRecDepth 100000 in
set_option maxHeartbeats 1000000 in
theorem rvp5_no (c : UInt8) (t : List UInt8) (_hl : (c :: t).length ≤ 100000) (w : World) :
    Calls Ybad.prog 11 #[.string ⟨(c :: t).toArray⟩, .int .u8 5] w fun e w' => e = .returned (.tuple #[.agg #[.int .u8 0, .string ⟨#[]⟩, .int .i64 0], .int .i64 0]) ∧ Below w.heap.size w w' := by
  go_enter Ybad.func11, Ybad.ntmps11
  go_wp2
  exact bodyPost_ret (v := .tuple #[.agg #[.int .u8 0, .string ⟨#[]⟩, .int .i64 0], .int .i64 0]) (by simp [results, Ybad.results11, go_sem]) rfl ⟨rfl, (Below.refl _ _).alloc (Nat.le_refl _) _⟩

set_option maxRecDepth 100000 in
set_option maxHeartbeats 1000000 in
theorem rvp6_no (c : UInt8) (t : List UInt8) (_hl : (c :: t).length ≤ 100000) (w : World) :
    Calls Ybad.prog 11 #[.string ⟨(c :: t).toArray⟩, .int .u8 6] w fun e w' => e = .returned (.tuple #[.agg #[.int .u8 0, .string ⟨#[]⟩, .int .i64 0], .int .i64 0]) ∧ Below w.heap.size w w' := by
  go_enter Ybad.func11, Ybad.ntmps11
  go_wp2
  exact bodyPost_ret (v := .tuple #[.agg #[.int .u8 0, .string ⟨#[]⟩, .int .i64 0], .int .i64 0]) (by simp [results, Ybad.results11, go_sem]) rfl ⟨rfl, (Below.refl _ _).alloc (Nat.le_refl _) _⟩

end Go.Proofs.YbulkrjeDoor
