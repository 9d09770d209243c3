/-
  readVersionPart behind a part of the kind 3, walked: one theorem a way.
-/
import Derived.Test.YbulkrjeDoorRvp
namespace Go.Proofs.YbulkrjeDoor
open Go.RowKit
attribute [local go_sem] ext_list at_head tk1

set_option maxRecDepth 100000 in
set_option maxHeartbeats 1000000 in
theorem rvp3_suf (c : UInt8) (t : List UInt8) (hl : (c :: t).length ≤ 100000) (n : Nat) (k : Nat) (h95 : ((c.toNat : Int) == 95) = true) (hn : Hid (spn low t = n)) (hr : Hid (rankTo (t.take n) 9 = some k)) (w : World) (hsuf : Hid (SufAt w)) :
    Calls Ybad.prog 11 #[.string ⟨(c :: t).toArray⟩, .int .u8 3] w fun e w' => e = .returned (.tuple #[.agg #[.int .u8 2, .string ⟨(t.take n).toArray⟩, .int .i64 k], .int .i64 (1 + n : Nat)]) ∧ Below w.heap.size w w' := by
  have hle := spn_le'' low t hn
  have hl' : t.length + 1 ≤ 100000 := by simpa using hl
  have ad : ∀ (W : World) (j : Nat) (o : Obj), (W.drewN j).alloc o = (W.alloc o).drewN j := fun _ _ _ => rfl
  have sd : ∀ (W : World) (j : Nat) (x : Addr) (v : Value), (W.drewN j).setCell x v = (W.setCell x v).drewN j := fun _ _ _ _ => rfl
  go_enter Ybad.func11, Ybad.ntmps11
  go_wp2_with fail
  go_quiet (fail)
  go_wp2_with fail
  refine (span_low t _ (by omega)).mono ?_
  rintro e w1 ⟨rfl, hw1⟩
  rw [hw1, hn.out]
  clear hw1
  obtain ⟨tt, fr, hrow⟩ := hsuf.out.rows
  have hrw := fun nq => hrow (Obj.cells #[Value.int IntKind.u8 0, Value.string { data := #[] }, Value.int IntKind.i64 0] 27) nq
  have HR : Hid (∀ nq, ((w.alloc (Obj.cells #[Value.int IntKind.u8 0, Value.string { data := #[] }, Value.int IntKind.i64 0] 27)).drewN nq).heap[0]? = some (.cells sufCells tt fr)) := hrw
  clear hrow hrw
  go_wp2_with (refine wpList_load_row rfl 47 _ rfl 0 rfl tt _ fr _ (HR.out _) Ybad.underlying47 rfl (by kernel_rfl) ?_)
  go_loop [84] (fun i => ∃ j : Nat, j ≤ 9 ∧ i = .int .i64 j ∧ Hid (∀ q, q < j → t.take n ≠ sufs.getD q [])) (fun i => 9 - (intOf i).toNat)
  case atStart => exact ⟨0, by omega, rfl, fun q hq => by omega⟩
  case round =>
    obtain ⟨j, hj, rfl, hno⟩ := hrel
    by_cases hj9 : j < 9
    · have hix := idx_suf j hj9
      by_cases he : t.take n = sufs.getD j []
      · have hjk : Hid (k = j) := by
          have h1 := hr.out
          rw [rankTo_at hno.out he hj9] at h1
          exact (Option.some.inj h1).symm
        have hb : (List.take n t == sufs.getD j []) = true := by rw [he]; simp
        clear he hr
        generalize sufs.getD j [] = sf at *
        go_wp2
        have hk := hjk.out
        subst hk
        exact bodyPost_ret (v := .tuple #[.agg #[.int .u8 2, .string ⟨(t.take n).toArray⟩, .int .i64 k], .int .i64 (1 + n : Nat)]) (by simp [results, Ybad.results11, go_sem]) rfl ⟨rfl, below_drewN ((Below.refl _ _).alloc (Nat.le_refl _) _) _⟩
      · have hb : (List.take n t == sufs.getD j []) = false := by simpa using he
        have hno' : Hid (∀ q, q < j + 1 → t.take n ≠ sufs.getD q []) := fun q hq => by
          by_cases hq' : q < j
          · exact hno.out q hq'
          · obtain rfl : q = j := by omega
            exact he
        clear he hno
        generalize sufs.getD j [] = sf at *
        go_wp2
        go_round
        case rel => exact ⟨j + 1, by omega, by go_num, hno'⟩
        case measure => simp [intOf]; omega
    · obtain rfl : j = 9 := by omega
      have := rankTo_none.2 hno.out
      rw [hr.out] at this
      cases this

set_option maxRecDepth 100000 in
set_option maxHeartbeats 1000000 in
theorem rvp3_nosuf (c : UInt8) (t : List UInt8) (hl : (c :: t).length ≤ 100000) (n : Nat) (h95 : ((c.toNat : Int) == 95) = true) (hn : Hid (spn low t = n)) (hr : Hid (rankTo (t.take n) 9 = none)) (w : World) (hsuf : Hid (SufAt w)) :
    Calls Ybad.prog 11 #[.string ⟨(c :: t).toArray⟩, .int .u8 3] w fun e w' => e = .returned (.tuple #[.agg #[.int .u8 0, .string ⟨#[]⟩, .int .i64 0], .int .i64 0]) ∧ Below w.heap.size w w' := by
  have hle := spn_le'' low t hn
  have hl' : t.length + 1 ≤ 100000 := by simpa using hl
  have ad : ∀ (W : World) (j : Nat) (o : Obj), (W.drewN j).alloc o = (W.alloc o).drewN j := fun _ _ _ => rfl
  have sd : ∀ (W : World) (j : Nat) (x : Addr) (v : Value), (W.drewN j).setCell x v = (W.setCell x v).drewN j := fun _ _ _ _ => rfl
  go_enter Ybad.func11, Ybad.ntmps11
  go_wp2_with fail
  go_quiet (fail)
  go_wp2_with fail
  refine (span_low t _ (by omega)).mono ?_
  rintro e w1 ⟨rfl, hw1⟩
  rw [hw1, hn.out]
  clear hw1
  obtain ⟨tt, fr, hrow⟩ := hsuf.out.rows
  have hrw := fun nq => hrow (Obj.cells #[Value.int IntKind.u8 0, Value.string { data := #[] }, Value.int IntKind.i64 0] 27) nq
  have HR : Hid (∀ nq, ((w.alloc (Obj.cells #[Value.int IntKind.u8 0, Value.string { data := #[] }, Value.int IntKind.i64 0] 27)).drewN nq).heap[0]? = some (.cells sufCells tt fr)) := hrw
  clear hrow hrw
  go_wp2_with (refine wpList_load_row rfl 47 _ rfl 0 rfl tt _ fr _ (HR.out _) Ybad.underlying47 rfl (by kernel_rfl) ?_)
  go_loop [84] (fun i => ∃ j : Nat, j ≤ 9 ∧ i = .int .i64 j ∧ Hid (∀ q, q < j → t.take n ≠ sufs.getD q [])) (fun i => 9 - (intOf i).toNat)
  case atStart => exact ⟨0, by omega, rfl, fun q hq => by omega⟩
  case round =>
    obtain ⟨j, hj, rfl, hno⟩ := hrel
    by_cases hj9 : j < 9
    · have hix := idx_suf j hj9
      by_cases he : t.take n = sufs.getD j []
      · have := rankTo_at hno.out he hj9
        rw [hr.out] at this
        cases this
      · have hb : (List.take n t == sufs.getD j []) = false := by simpa using he
        have hno' : Hid (∀ q, q < j + 1 → t.take n ≠ sufs.getD q []) := fun q hq => by
          by_cases hq' : q < j
          · exact hno.out q hq'
          · obtain rfl : q = j := by omega
            exact he
        clear he hno
        generalize sufs.getD j [] = sf at *
        go_wp2
        go_round
        case rel => exact ⟨j + 1, by omega, by go_num, hno'⟩
        case measure => simp [intOf]; omega
    · obtain rfl : j = 9 := by omega
      go_wp2
      exact bodyPost_ret (v := .tuple #[.agg #[.int .u8 0, .string ⟨#[]⟩, .int .i64 0], .int .i64 0]) (by simp [results, Ybad.results11, go_sem]) rfl ⟨rfl, below_drewN ((Below.refl _ _).alloc (Nat.le_refl _) _) _⟩

set_option maxRecDepth 100000 in
set_option maxHeartbeats 1000000 in
theorem rvp3_hash (c : UInt8) (t : List UInt8) (hl : (c :: t).length ≤ 100000) (n : Nat) (h95 : ((c.toNat : Int) == 95) = false) (h126 : ((c.toNat : Int) == 126) = true) (hn : Hid (spn hxd t = n)) (hn0 : 0 < n) (w : World) :
    Calls Ybad.prog 11 #[.string ⟨(c :: t).toArray⟩, .int .u8 3] w fun e w' => e = .returned (.tuple #[.agg #[.int .u8 4, .string ⟨(t.take n).toArray⟩, .int .i64 0], .int .i64 (1 + n : Nat)]) ∧ Below w.heap.size w w' := by
  have hle := spn_le'' hxd t hn
  have hl' : t.length + 1 ≤ 100000 := by simpa using hl
  have ad : ∀ (W : World) (j : Nat) (o : Obj), (W.drewN j).alloc o = (W.alloc o).drewN j := fun _ _ _ => rfl
  have sd : ∀ (W : World) (j : Nat) (x : Addr) (v : Value), (W.drewN j).setCell x v = (W.setCell x v).drewN j := fun _ _ _ _ => rfl
  go_enter Ybad.func11, Ybad.ntmps11
  go_wp2_with fail
  go_quiet (fail)
  go_wp2_with fail
  refine (span_hxd t _ (by omega)).mono ?_
  rintro e w1 ⟨rfl, hw1⟩
  rw [hw1, hn.out]
  clear hw1
  go_wp2
  exact bodyPost_ret (v := .tuple #[.agg #[.int .u8 4, .string ⟨(t.take n).toArray⟩, .int .i64 0], .int .i64 (1 + n : Nat)]) (by simp [results, Ybad.results11, go_sem]) rfl ⟨rfl, below_drewN ((Below.refl _ _).alloc (Nat.le_refl _) _) _⟩

set_option maxRecDepth 100000 in
set_option maxHeartbeats 1000000 in
theorem rvp3_nohash (c : UInt8) (t : List UInt8) (hl : (c :: t).length ≤ 100000) (h95 : ((c.toNat : Int) == 95) = false) (h126 : ((c.toNat : Int) == 126) = true) (hn : Hid (spn hxd t = 0)) (w : World) :
    Calls Ybad.prog 11 #[.string ⟨(c :: t).toArray⟩, .int .u8 3] w fun e w' => e = .returned (.tuple #[.agg #[.int .u8 0, .string ⟨#[]⟩, .int .i64 0], .int .i64 0]) ∧ Below w.heap.size w w' := by
  have hl' : t.length + 1 ≤ 100000 := by simpa using hl
  have ad : ∀ (W : World) (j : Nat) (o : Obj), (W.drewN j).alloc o = (W.alloc o).drewN j := fun _ _ _ => rfl
  have sd : ∀ (W : World) (j : Nat) (x : Addr) (v : Value), (W.drewN j).setCell x v = (W.setCell x v).drewN j := fun _ _ _ _ => rfl
  go_enter Ybad.func11, Ybad.ntmps11
  go_wp2_with fail
  go_quiet (fail)
  go_wp2_with fail
  refine (span_hxd t _ (by omega)).mono ?_
  rintro e w1 ⟨rfl, hw1⟩
  rw [hw1, hn.out]
  clear hw1
  go_wp2
  exact bodyPost_ret (v := .tuple #[.agg #[.int .u8 0, .string ⟨#[]⟩, .int .i64 0], .int .i64 0]) (by simp [results, Ybad.results11, go_sem]) rfl ⟨rfl, below_drewN ((Below.refl _ _).alloc (Nat.le_refl _) _) _⟩

set_option maxRecDepth 100000 in
set_option maxHeartbeats 1000000 in
theorem rvp3_rev (c : UInt8) (u : List UInt8) (hl : (c :: 114 :: u).length ≤ 100000) (n : Nat) (h95 : ((c.toNat : Int) == 95) = false) (h126 : ((c.toNat : Int) == 126) = false) (h45 : ((c.toNat : Int) == 45) = true) (hn : Hid (spn dig u = n)) (hn0 : 0 < n) (w : World) :
    Calls Ybad.prog 11 #[.string ⟨(c :: 114 :: u).toArray⟩, .int .u8 3] w fun e w' => e = .returned (.tuple #[.agg #[.int .u8 5, .string ⟨(u.take n).toArray⟩, .int .i64 0], .int .i64 (2 + n : Nat)]) ∧ Below w.heap.size w w' := by
  have hle := spn_le'' dig u hn
  have hl' : u.length + 2 ≤ 100000 := by simpa using hl
  have ad : ∀ (W : World) (j : Nat) (o : Obj), (W.drewN j).alloc o = (W.alloc o).drewN j := fun _ _ _ => rfl
  have sd : ∀ (W : World) (j : Nat) (x : Addr) (v : Value), (W.drewN j).setCell x v = (W.setCell x v).drewN j := fun _ _ _ _ => rfl
  go_enter Ybad.func11, Ybad.ntmps11
  go_wp2_with fail
  go_quiet (fail)
  go_wp2_with fail
  refine (pre_yes u _).mono ?_
  rintro e w1 ⟨rfl, hw1⟩
  rw [hw1]
  clear hw1
  go_wp2_with fail
  refine (span_dig u _ (by omega)).mono ?_
  rintro e w1 ⟨rfl, hw1⟩
  rw [hw1, hn.out]
  clear hw1
  go_wp2
  exact bodyPost_ret (v := .tuple #[.agg #[.int .u8 5, .string ⟨(u.take n).toArray⟩, .int .i64 0], .int .i64 (2 + n : Nat)]) (by simp [results, Ybad.results11, go_sem]) rfl ⟨rfl, below_drewN ((Below.refl _ _).alloc (Nat.le_refl _) _) _⟩

set_option maxRecDepth 100000 in
set_option maxHeartbeats 1000000 in
theorem rvp3_norev (c : UInt8) (u : List UInt8) (hl : (c :: 114 :: u).length ≤ 100000) (h95 : ((c.toNat : Int) == 95) = false) (h126 : ((c.toNat : Int) == 126) = false) (h45 : ((c.toNat : Int) == 45) = true) (hn : Hid (spn dig u = 0)) (w : World) :
    Calls Ybad.prog 11 #[.string ⟨(c :: 114 :: u).toArray⟩, .int .u8 3] w fun e w' => e = .returned (.tuple #[.agg #[.int .u8 0, .string ⟨#[]⟩, .int .i64 0], .int .i64 0]) ∧ Below w.heap.size w w' := by
  have hl' : u.length + 2 ≤ 100000 := by simpa using hl
  have ad : ∀ (W : World) (j : Nat) (o : Obj), (W.drewN j).alloc o = (W.alloc o).drewN j := fun _ _ _ => rfl
  have sd : ∀ (W : World) (j : Nat) (x : Addr) (v : Value), (W.drewN j).setCell x v = (W.setCell x v).drewN j := fun _ _ _ _ => rfl
  go_enter Ybad.func11, Ybad.ntmps11
  go_wp2_with fail
  go_quiet (fail)
  go_wp2_with fail
  refine (pre_yes u _).mono ?_
  rintro e w1 ⟨rfl, hw1⟩
  rw [hw1]
  clear hw1
  go_wp2_with fail
  refine (span_dig u _ (by omega)).mono ?_
  rintro e w1 ⟨rfl, hw1⟩
  rw [hw1, hn.out]
  clear hw1
  go_wp2
  exact bodyPost_ret (v := .tuple #[.agg #[.int .u8 0, .string ⟨#[]⟩, .int .i64 0], .int .i64 0]) (by simp [results, Ybad.results11, go_sem]) rfl ⟨rfl, below_drewN ((Below.refl _ _).alloc (Nat.le_refl _) _) _⟩

set_option maxRecDepth 100000 in
set_option maxHeartbeats 1000000 in
theorem rvp3_nor (c : UInt8) (t : List UInt8) (hl : (c :: t).length ≤ 100000) (h95 : ((c.toNat : Int) == 95) = false) (h126 : ((c.toNat : Int) == 126) = false) (h45 : ((c.toNat : Int) == 45) = true) (h114 : Hid (t.take 1 ≠ [114])) (w : World) :
    Calls Ybad.prog 11 #[.string ⟨(c :: t).toArray⟩, .int .u8 3] w fun e w' => e = .returned (.tuple #[.agg #[.int .u8 0, .string ⟨#[]⟩, .int .i64 0], .int .i64 0]) ∧ Below w.heap.size w w' := by
  have hl' : t.length + 1 ≤ 100000 := by simpa using hl
  have ad : ∀ (W : World) (j : Nat) (o : Obj), (W.drewN j).alloc o = (W.alloc o).drewN j := fun _ _ _ => rfl
  have sd : ∀ (W : World) (j : Nat) (x : Addr) (v : Value), (W.drewN j).setCell x v = (W.setCell x v).drewN j := fun _ _ _ _ => rfl
  go_enter Ybad.func11, Ybad.ntmps11
  go_wp2_with fail
  go_quiet (fail)
  go_wp2_with fail
  refine (pre_no t _ h114.out (by omega)).mono ?_
  rintro e w1 ⟨rfl, hw1⟩
  rw [hw1]
  clear hw1
  go_wp2
  exact bodyPost_ret (v := .tuple #[.agg #[.int .u8 0, .string ⟨#[]⟩, .int .i64 0], .int .i64 0]) (by simp [results, Ybad.results11, go_sem]) rfl ⟨rfl, below_drewN ((Below.refl _ _).alloc (Nat.le_refl _) _) _⟩

set_option maxRecDepth 100000 in
set_option maxHeartbeats 1000000 in
theorem rvp3_other (c : UInt8) (t : List UInt8) (hl : (c :: t).length ≤ 100000) (h95 : ((c.toNat : Int) == 95) = false) (h126 : ((c.toNat : Int) == 126) = false) (h45 : ((c.toNat : Int) == 45) = false) (w : World) :
    Calls Ybad.prog 11 #[.string ⟨(c :: t).toArray⟩, .int .u8 3] w fun e w' => e = .returned (.tuple #[.agg #[.int .u8 0, .string ⟨#[]⟩, .int .i64 0], .int .i64 0]) ∧ Below w.heap.size w w' := by
  have hl' : t.length + 1 ≤ 100000 := by simpa using hl
  have ad : ∀ (W : World) (j : Nat) (o : Obj), (W.drewN j).alloc o = (W.alloc o).drewN j := fun _ _ _ => rfl
  have sd : ∀ (W : World) (j : Nat) (x : Addr) (v : Value), (W.drewN j).setCell x v = (W.setCell x v).drewN j := fun _ _ _ _ => rfl
  go_enter Ybad.func11, Ybad.ntmps11
  go_wp2_with fail
  go_quiet (fail)
  go_wp2
  exact bodyPost_ret (v := .tuple #[.agg #[.int .u8 0, .string ⟨#[]⟩, .int .i64 0], .int .i64 0]) (by simp [results, Ybad.results11, go_sem]) rfl ⟨rfl, below_drewN ((Below.refl _ _).alloc (Nat.le_refl _) _) _⟩

end Go.Proofs.YbulkrjeDoor
