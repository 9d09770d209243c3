/-
  zzs0888aall, zzs0888aname and zzs0888arender, walked.
-/
import Derived.Test.YbulkrjeDoorRend
namespace Go.Proofs.YbulkrjeDoor
open Go.RowKit
attribute [local go_sem] ext_list at_head tk1

theorem cat_list (a : Array UInt8) (b : List UInt8) : ((⟨a⟩ : ByteArray) ++ ⟨b.toArray⟩).toList = a.toList ++ b := by
  rw [Lib.toList_data]
  simp

theorem alls_at {p : Int → Bool} {l : List UInt8} (h : Alls p l) (k : Nat) (hk : k < l.length) : p (l[k].toNat : Int) = true := h.2 _ (List.getElem_mem hk)

theorem dig_iff {c : Int} (h : dig c = true) : 48 ≤ c ∧ c ≤ 57 := by simpa [dig] using h

set_option maxHeartbeats 400000 in
theorem all_dig (l : List UInt8) (w : World) (hl : l.length ≤ 100000) (h : Alls dig l) (b : Bool) :
    Calls Ybad.prog 12 #[.string ⟨l.toArray⟩, .bool b] w fun e w' => e = .returned (.bool true) ∧ w' = w := by
  have HA : Hid (Alls dig l) := h
  have he : l.isEmpty = false := by
    have := h.1
    simpa using this
  clear h
  go_enter Ybad.func12, Ybad.ntmps12
  go_wp2
  go_loop [5] (fun i => ∃ k : Nat, k ≤ l.length ∧ i = .int .i64 k) (fun i => l.length - (intOf i).toNat)
  case atStart => exact ⟨0, Nat.zero_le _, rfl⟩
  case round =>
    obtain ⟨k, hk, rfl⟩ := hrel
    by_cases hlk : k < l.length
    · have hkz : k < (⟨l.toArray⟩ : ByteArray).size := hlk
      obtain ⟨h1, h2⟩ : 48 ≤ (((⟨l.toArray⟩ : ByteArray)[k]'hkz).toNat : Int) ∧ (((⟨l.toArray⟩ : ByteArray)[k]'hkz).toNat : Int) ≤ 57 := dig_iff (alls_at HA.out k hlk)
      go_wp2
      go_round
      case rel => exact ⟨k + 1, by omega, by go_num⟩
      case measure => simp [intOf]; omega
    · go_wp2
      go_ret
      exact ⟨rfl, rfl⟩

set_option maxHeartbeats 400000 in
theorem all_hex (l : List UInt8) (w : World) (hl : l.length ≤ 100000) (h : Alls hxd l) :
    Calls Ybad.prog 12 #[.string ⟨l.toArray⟩, .bool true] w fun e w' => e = .returned (.bool true) ∧ w' = w := by
  have HA : Hid (Alls hxd l) := h
  have he : l.isEmpty = false := by
    have := h.1
    simpa using this
  clear h
  go_enter Ybad.func12, Ybad.ntmps12
  go_wp2
  go_loop [5] (fun i => ∃ k : Nat, k ≤ l.length ∧ i = .int .i64 k) (fun i => l.length - (intOf i).toNat)
  case atStart => exact ⟨0, Nat.zero_le _, rfl⟩
  case round =>
    obtain ⟨k, hk, rfl⟩ := hrel
    by_cases hlk : k < l.length
    · have hkz : k < (⟨l.toArray⟩ : ByteArray).size := hlk
      have hx : hxd (((⟨l.toArray⟩ : ByteArray)[k]'hkz).toNat : Int) = true := alls_at HA.out k hlk
      have hx' : (48 ≤ (((⟨l.toArray⟩ : ByteArray)[k]'hkz).toNat : Int) ∧ (((⟨l.toArray⟩ : ByteArray)[k]'hkz).toNat : Int) ≤ 57) ∨ (97 ≤ (((⟨l.toArray⟩ : ByteArray)[k]'hkz).toNat : Int) ∧ (((⟨l.toArray⟩ : ByteArray)[k]'hkz).toNat : Int) ≤ 102) := by
        simpa [hxd, dig] using hx
      clear hx
      rcases hx' with ⟨h1, h2⟩ | ⟨h1, h2⟩
      all_goals
        go_wp2
        go_round
        case rel => exact ⟨k + 1, by omega, by go_num⟩
        case measure => simp [intOf]; omega
    · go_wp2
      go_ret
      exact ⟨rfl, rfl⟩

set_option maxHeartbeats 1000000 in
theorem name_any (k : Nat) (hk : k < 9) (w : World) :
    Calls Ybad.prog 9 #[.int .i64 (k : Nat)] w fun e w' => e = .returned (.string ⟨(sufs.getD k []).toArray⟩) ∧ Below w.heap.size w w' := by
  rcases (show k = 0 ∨ k = 1 ∨ k = 2 ∨ k = 3 ∨ k = 4 ∨ k = 5 ∨ k = 6 ∨ k = 7 ∨ k = 8 from by omega) with rfl | rfl | rfl | rfl | rfl | rfl | rfl | rfl | rfl
  all_goals
    go_enter Ybad.func9, Ybad.ntmps9
    go_wp2
    go_ret
    exact ⟨rfl, (Below.refl _ _).alloc (Nat.le_refl _) _⟩

set_option maxRecDepth 100000 in
set_option maxHeartbeats 1000000 in
theorem rend_num8 (tx bf af : List UInt8) (hl : tx.length ≤ 100000) (h : Hid (Alls dig tx)) (w : World) :
    Calls Ybad.prog 7 #[.int .u8 8, .agg #[.int .u8 0, .string ⟨tx.toArray⟩, .int .i64 0], .string ⟨tx.toArray⟩, .string ⟨bf.toArray⟩, .string ⟨af.toArray⟩] w fun e w' => e = .returned (.bool true) ∧ Below w.heap.size w w' := by
  go_enter Ybad.func7, Ybad.ntmps7
  go_wp2_with (go_at_call 12; refine (all_dig tx _ hl h.out false).mono ?_; rintro e w' ⟨rfl, rfl⟩)
  go_ret
  exact ⟨by simp, by repeat (first | exact Below.refl _ _ | apply Below.drew | refine Below.alloc ?_ (Nat.le_refl _) _)⟩

set_option maxRecDepth 100000 in
set_option maxHeartbeats 1000000 in
theorem rend_num1 (tx bf af : List UInt8) (hl : tx.length ≤ 100000) (h : Hid (Alls dig tx)) (w : World) :
    Calls Ybad.prog 7 #[.int .u8 1, .agg #[.int .u8 0, .string ⟨tx.toArray⟩, .int .i64 0], .string ⟨tx.toArray⟩, .string ⟨bf.toArray⟩, .string ⟨af.toArray⟩] w fun e w' => e = .returned (.bool true) ∧ Below w.heap.size w w' := by
  go_enter Ybad.func7, Ybad.ntmps7
  go_wp2_with (go_at_call 12; refine (all_dig tx _ hl h.out false).mono ?_; rintro e w' ⟨rfl, rfl⟩)
  go_ret
  exact ⟨by simp, by repeat (first | exact Below.refl _ _ | apply Below.drew | refine Below.alloc ?_ (Nat.le_refl _) _)⟩

set_option maxRecDepth 100000 in
set_option maxHeartbeats 1000000 in
theorem rend_dot (tx bf af : List UInt8) (hl : tx.length ≤ 100000) (h : Hid (Alls dig tx)) (w : World) :
    Calls Ybad.prog 7 #[.int .u8 0, .agg #[.int .u8 0, .string ⟨tx.toArray⟩, .int .i64 0], .string ⟨(46 :: tx).toArray⟩, .string ⟨bf.toArray⟩, .string ⟨af.toArray⟩] w fun e w' => e = .returned (.bool true) ∧ Below w.heap.size w w' := by
  go_enter Ybad.func7, Ybad.ntmps7
  go_wp2_with (go_at_call 12; refine (all_dig tx _ hl h.out false).mono ?_; rintro e w' ⟨rfl, rfl⟩)
  go_ret
  exact ⟨by simp [cat_list], by repeat (first | exact Below.refl _ _ | apply Below.drew | refine Below.alloc ?_ (Nat.le_refl _) _)⟩

set_option maxRecDepth 100000 in
set_option maxHeartbeats 1000000 in
theorem rend_letter (x : UInt8) (bf af : List UInt8) (h1 : 97 ≤ (x.toNat : Int)) (h2 : (x.toNat : Int) ≤ 122) (w : World) :
    Calls Ybad.prog 7 #[.int .u8 0, .agg #[.int .u8 1, .string ⟨[x].toArray⟩, .int .i64 0], .string ⟨[x].toArray⟩, .string ⟨bf.toArray⟩, .string ⟨af.toArray⟩] w fun e w' => e = .returned (.bool true) ∧ Below w.heap.size w w' := by
  go_enter Ybad.func7, Ybad.ntmps7
  go_wp2
  go_ret
  exact ⟨by simp, by repeat (first | exact Below.refl _ _ | apply Below.drew | refine Below.alloc ?_ (Nat.le_refl _) _)⟩

set_option maxRecDepth 100000 in
set_option maxHeartbeats 1000000 in
theorem rend_sufnum (tx bf af : List UInt8) (hl : tx.length ≤ 100000) (h : Hid (Alls dig tx)) (w : World) :
    Calls Ybad.prog 7 #[.int .u8 2, .agg #[.int .u8 3, .string ⟨tx.toArray⟩, .int .i64 0], .string ⟨tx.toArray⟩, .string ⟨bf.toArray⟩, .string ⟨af.toArray⟩] w fun e w' => e = .returned (.bool true) ∧ Below w.heap.size w w' := by
  go_enter Ybad.func7, Ybad.ntmps7
  go_wp2_with (go_at_call 12; refine (all_dig tx _ hl h.out false).mono ?_; rintro e w' ⟨rfl, rfl⟩)
  go_ret
  exact ⟨by simp, by repeat (first | exact Below.refl _ _ | apply Below.drew | refine Below.alloc ?_ (Nat.le_refl _) _)⟩

set_option maxRecDepth 100000 in
set_option maxHeartbeats 1000000 in
theorem rend_hash (prev : Nat) (hp : (prev : Int) ≤ 3) (tx bf af : List UInt8) (hl : tx.length ≤ 100000) (h : Hid (Alls hxd tx)) (w : World) :
    Calls Ybad.prog 7 #[.int .u8 (prev : Nat), .agg #[.int .u8 4, .string ⟨tx.toArray⟩, .int .i64 0], .string ⟨(126 :: tx).toArray⟩, .string ⟨bf.toArray⟩, .string ⟨af.toArray⟩] w fun e w' => e = .returned (.bool true) ∧ Below w.heap.size w w' := by
  go_enter Ybad.func7, Ybad.ntmps7
  go_wp2_with (go_at_call 12; refine (all_hex tx _ hl h.out).mono ?_; rintro e w' ⟨rfl, rfl⟩)
  go_ret
  exact ⟨by simp [cat_list], by repeat (first | exact Below.refl _ _ | apply Below.drew | refine Below.alloc ?_ (Nat.le_refl _) _)⟩

set_option maxRecDepth 100000 in
set_option maxHeartbeats 1000000 in
theorem rend_rev (prev : Nat) (hp : (prev : Int) ≤ 4) (tx bf af : List UInt8) (hl : tx.length ≤ 100000) (h : Hid (Alls dig tx)) (w : World) :
    Calls Ybad.prog 7 #[.int .u8 (prev : Nat), .agg #[.int .u8 5, .string ⟨tx.toArray⟩, .int .i64 0], .string ⟨(45 :: 114 :: tx).toArray⟩, .string ⟨bf.toArray⟩, .string ⟨af.toArray⟩] w fun e w' => e = .returned (.bool true) ∧ Below w.heap.size w w' := by
  go_enter Ybad.func7, Ybad.ntmps7
  go_wp2_with (go_at_call 12; refine (all_dig tx _ hl h.out false).mono ?_; rintro e w' ⟨rfl, rfl⟩)
  go_ret
  exact ⟨by simp [cat_list], by repeat (first | exact Below.refl _ _ | apply Below.drew | refine Below.alloc ?_ (Nat.le_refl _) _)⟩

set_option maxRecDepth 100000 in
set_option maxHeartbeats 1000000 in
theorem rend_rest (prev : Nat) (bf : List UInt8) (w : World) :
    Calls Ybad.prog 7 #[.int .u8 (prev : Nat), .agg #[.int .u8 6, .string ⟨bf.toArray⟩, .int .i64 0], .string ⟨bf.toArray⟩, .string ⟨bf.toArray⟩, .string ⟨#[]⟩] w fun e w' => e = .returned (.bool true) ∧ Below w.heap.size w w' := by
  go_enter Ybad.func7, Ybad.ntmps7
  go_wp2
  go_ret
  exact ⟨by simp, by repeat (first | exact Below.refl _ _ | apply Below.drew | refine Below.alloc ?_ (Nat.le_refl _) _)⟩

set_option maxRecDepth 100000 in
set_option maxHeartbeats 1000000 in
theorem rend_suf (prev : Nat) (hp : (prev : Int) ≤ 3) (k : Nat) (hk : k < 9) (tx bf af : List UInt8) (hl : tx.length ≤ 100000) (he : tx.isEmpty = false) (h : Hid (tx = sufs.getD k [])) (w : World) :
    Calls Ybad.prog 7 #[.int .u8 (prev : Nat), .agg #[.int .u8 2, .string ⟨tx.toArray⟩, .int .i64 (k : Nat)], .string ⟨(95 :: tx).toArray⟩, .string ⟨bf.toArray⟩, .string ⟨af.toArray⟩] w fun e w' => e = .returned (.bool true) ∧ Below w.heap.size w w' := by
  go_enter Ybad.func7, Ybad.ntmps7
  go_wp2
  go_region_with (go_at_call 9; refine (name_any k hk _).mono ?_; rintro e w1 ⟨rfl, hb1⟩; rw [← h.out]; obtain ⟨hc1, hf1⟩ := bcell hb1; have hz1 := hb1.size)
  all_goals
    go_wp2
    go_ret
    refine ⟨by simp [cat_list]; rfl, ?_⟩
    repeat (first | exact ((Below.refl _ _).alloc (Nat.le_refl _) _).trans (hb1.undrew.mono (by simp)) | apply Below.drew)

end Go.Proofs.YbulkrjeDoor
