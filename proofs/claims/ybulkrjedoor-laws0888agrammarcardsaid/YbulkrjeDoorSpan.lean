/-
  span, and the three tests on a byte, walked.
-/
import Derived.Test.YbulkrjeDoorRows
import Derived.WalkKit
import Derived.WalkSpells
import Derived.WalkLawsBesides
import Derived.Lib.Strings
namespace Go.Proofs.YbulkrjeDoor
open Go.RowKit

/-- A cut of a string that is told by a list. -/
theorem ext_list (l : List UInt8) (a b : Nat) : (⟨l.toArray⟩ : ByteArray).extract a b = ⟨((l.take b).drop a).toArray⟩ := by
  rw [List.drop_take]
  show (⟨⟨l⟩⟩ : ByteArray).extract a b = _
  rw [ByteArray.extract_mk]

/-- Its bytes. -/
theorem at_list (l : List UInt8) (k : Nat) (h : k < (⟨l.toArray⟩ : ByteArray).size) : (⟨l.toArray⟩ : ByteArray)[k] = l[k]'h := rfl

def dig (c : Int) : Bool := decide (48 ≤ c) && decide (c ≤ 57)
def low (c : Int) : Bool := decide (97 ≤ c) && decide (c ≤ 122)
def hxd (c : Int) : Bool := dig c || (decide (97 ≤ c) && decide (c ≤ 102))

set_option maxHeartbeats 400000 in
theorem dig_any (c : Int) (w : World) : Calls Ybad.prog 14 #[.int .u8 c] w fun e w' => e = .returned (.bool (dig c)) ∧ w' = w := by
  by_cases h1 : 48 ≤ c
  · have HL : Hid (dig c = decide (c ≤ 57)) := by show dig c = _; simp [dig, h1]
    go_enter Ybad.func14, Ybad.ntmps14
    go_wp2
    go_ret
    exact ⟨by rw [HL.out]; rfl, rfl⟩
  · have HL : Hid (dig c = false) := by show dig c = _; simp [dig, h1]
    have hd : decide (48 ≤ c) = false := decide_eq_false h1
    go_enter Ybad.func14, Ybad.ntmps14
    go_wp2
    go_ret
    exact ⟨by rw [HL.out]; rfl, rfl⟩

set_option maxHeartbeats 400000 in
theorem low_any (c : Int) (w : World) : Calls Ybad.prog 15 #[.int .u8 c] w fun e w' => e = .returned (.bool (low c)) ∧ w' = w := by
  by_cases h1 : 97 ≤ c
  · have HL : Hid (low c = decide (c ≤ 122)) := by show low c = _; simp [low, h1]
    go_enter Ybad.func15, Ybad.ntmps15
    go_wp2
    go_ret
    exact ⟨by rw [HL.out]; rfl, rfl⟩
  · have HL : Hid (low c = false) := by show low c = _; simp [low, h1]
    have hd : decide (97 ≤ c) = false := decide_eq_false h1
    go_enter Ybad.func15, Ybad.ntmps15
    go_wp2
    go_ret
    exact ⟨by rw [HL.out]; rfl, rfl⟩

set_option maxHeartbeats 400000 in
theorem hxd_any (c : Int) (w : World) : Calls Ybad.prog 16 #[.int .u8 c] w fun e w' => e = .returned (.bool (hxd c)) ∧ w' = w := by
  cases hd : dig c with
  | true =>
    have HL : Hid (hxd c = true) := by show hxd c = _; simp [hxd, hd]
    go_enter Ybad.func16, Ybad.ntmps16
    go_wp2_with (go_at_call 14; refine (dig_any _ _).mono ?_; rintro e w' ⟨rfl, rfl⟩)
    go_ret
    exact ⟨by rw [HL.out]; rfl, rfl⟩
  | false =>
    by_cases h1 : 97 ≤ c
    · have HL : Hid (hxd c = decide (c ≤ 102)) := by show hxd c = _; simp [hxd, hd, h1]
      go_enter Ybad.func16, Ybad.ntmps16
      go_wp2_with (go_at_call 14; refine (dig_any _ _).mono ?_; rintro e w' ⟨rfl, rfl⟩)
      go_ret
      exact ⟨by rw [HL.out]; rfl, rfl⟩
    · have HL : Hid (hxd c = false) := by show hxd c = _; simp [hxd, hd, h1]
      have hd1 : decide (97 ≤ c) = false := decide_eq_false h1
      go_enter Ybad.func16, Ybad.ntmps16
      go_wp2_with (go_at_call 14; refine (dig_any _ _).mono ?_; rintro e w' ⟨rfl, rfl⟩)
      go_ret
      exact ⟨by rw [HL.out]; rfl, rfl⟩

/-- How many bytes at the head of l the test lets. -/
def spn (p : Int → Bool) (l : List UInt8) : Nat := (l.takeWhile fun x => p (x.toNat : Int)).length

theorem spn_le (p : Int → Bool) (l : List UInt8) : spn p l ≤ l.length := by
  unfold spn
  exact (List.takeWhile_prefix _).length_le

theorem spn_step (p : Int → Bool) : ∀ {l : List UInt8} {k : Nat} (_ : k ≤ spn p l) (hk : k < l.length), (p (l[k].toNat : Int) = true → k + 1 ≤ spn p l) ∧ (p (l[k].toNat : Int) = false → spn p l = k)
  | [], _, _, hk => absurd hk (Nat.not_lt_zero _)
  | x :: l, 0, _, _ => by
    constructor
    · intro h
      have h' : p (x.toNat : Int) = true := h
      simp [spn, h']
    · intro h
      have h' : p (x.toNat : Int) = false := h
      simp [spn, h']
  | x :: l, k + 1, h, hk => by
    have hx : p (x.toNat : Int) = true := by
      cases hp : p (x.toNat : Int) with
      | true => rfl
      | false => simp [spn, hp] at h
    have e : spn p (x :: l) = spn p l + 1 := by simp [spn, hx]
    have ih := spn_step p (l := l) (k := k) (by omega) (by simpa using hk)
    rw [e]
    constructor
    · intro h1
      have := ih.1 h1
      omega
    · intro h1
      have := ih.2 h1
      omega

set_option maxHeartbeats 400000 in
theorem span_dig (l : List UInt8) (w : World) (hl : l.length ≤ 100000) :
    Calls Ybad.prog 13 #[.string ⟨l.toArray⟩, .func (.func 14) #[] #[]] w fun e w' => e = .returned (.int .i64 (spn dig l : Nat)) ∧ w' = w := by
  have hsl := spn_le dig l
  go_enter Ybad.func13, Ybad.ntmps13
  go_wp2
  go_loop [5] (fun i => ∃ k : Nat, k ≤ l.length ∧ i = .int .i64 k ∧ Hid (k ≤ spn dig l)) (fun i => l.length - (intOf i).toNat)
  case atStart => exact ⟨0, Nat.zero_le _, rfl, Nat.zero_le _⟩
  case round =>
    obtain ⟨k, hk, rfl, hle⟩ := hrel
    by_cases hlk : k < l.length
    · have hst := spn_step dig hle.out hlk
      have hkz : k < (⟨l.toArray⟩ : ByteArray).size := hlk
      cases hd : dig (((⟨l.toArray⟩ : ByteArray)[k]'hkz).toNat : Int) with
      | true =>
        have h1 : Hid (k + 1 ≤ spn dig l) := hst.1 hd
        clear hst
        go_wp2_with (go_at_call 14; refine (dig_any _ _).mono ?_; rintro e w' ⟨rfl, rfl⟩)
        go_round
        case rel => exact ⟨k + 1, by omega, by go_num, h1⟩
        case measure => simp [intOf]; omega
      | false =>
        have h1 : Hid (spn dig l = k) := hst.2 hd
        clear hst
        go_wp2_with (go_at_call 14; refine (dig_any _ _).mono ?_; rintro e w' ⟨rfl, rfl⟩)
        go_ret
        exact ⟨by rw [h1.out]; rfl, rfl⟩
    · have h1 : Hid (spn dig l = k) := by
        have := hle.out
        show spn dig l = k
        omega
      clear hsl
      go_wp2
      go_ret
      exact ⟨by rw [h1.out]; rfl, rfl⟩

set_option maxHeartbeats 400000 in
theorem span_low (l : List UInt8) (w : World) (hl : l.length ≤ 100000) :
    Calls Ybad.prog 13 #[.string ⟨l.toArray⟩, .func (.func 15) #[] #[]] w fun e w' => e = .returned (.int .i64 (spn low l : Nat)) ∧ w' = w := by
  have hsl := spn_le low l
  go_enter Ybad.func13, Ybad.ntmps13
  go_wp2
  go_loop [5] (fun i => ∃ k : Nat, k ≤ l.length ∧ i = .int .i64 k ∧ Hid (k ≤ spn low l)) (fun i => l.length - (intOf i).toNat)
  case atStart => exact ⟨0, Nat.zero_le _, rfl, Nat.zero_le _⟩
  case round =>
    obtain ⟨k, hk, rfl, hle⟩ := hrel
    by_cases hlk : k < l.length
    · have hst := spn_step low hle.out hlk
      have hkz : k < (⟨l.toArray⟩ : ByteArray).size := hlk
      cases hd : low (((⟨l.toArray⟩ : ByteArray)[k]'hkz).toNat : Int) with
      | true =>
        have h1 : Hid (k + 1 ≤ spn low l) := hst.1 hd
        clear hst
        go_wp2_with (go_at_call 15; refine (low_any _ _).mono ?_; rintro e w' ⟨rfl, rfl⟩)
        go_round
        case rel => exact ⟨k + 1, by omega, by go_num, h1⟩
        case measure => simp [intOf]; omega
      | false =>
        have h1 : Hid (spn low l = k) := hst.2 hd
        clear hst
        go_wp2_with (go_at_call 15; refine (low_any _ _).mono ?_; rintro e w' ⟨rfl, rfl⟩)
        go_ret
        exact ⟨by rw [h1.out]; rfl, rfl⟩
    · have h1 : Hid (spn low l = k) := by
        have := hle.out
        show spn low l = k
        omega
      clear hsl
      go_wp2
      go_ret
      exact ⟨by rw [h1.out]; rfl, rfl⟩

set_option maxHeartbeats 400000 in
theorem span_hxd (l : List UInt8) (w : World) (hl : l.length ≤ 100000) :
    Calls Ybad.prog 13 #[.string ⟨l.toArray⟩, .func (.func 16) #[] #[]] w fun e w' => e = .returned (.int .i64 (spn hxd l : Nat)) ∧ w' = w := by
  have hsl := spn_le hxd l
  go_enter Ybad.func13, Ybad.ntmps13
  go_wp2
  go_loop [5] (fun i => ∃ k : Nat, k ≤ l.length ∧ i = .int .i64 k ∧ Hid (k ≤ spn hxd l)) (fun i => l.length - (intOf i).toNat)
  case atStart => exact ⟨0, Nat.zero_le _, rfl, Nat.zero_le _⟩
  case round =>
    obtain ⟨k, hk, rfl, hle⟩ := hrel
    by_cases hlk : k < l.length
    · have hst := spn_step hxd hle.out hlk
      have hkz : k < (⟨l.toArray⟩ : ByteArray).size := hlk
      cases hd : hxd (((⟨l.toArray⟩ : ByteArray)[k]'hkz).toNat : Int) with
      | true =>
        have h1 : Hid (k + 1 ≤ spn hxd l) := hst.1 hd
        clear hst
        go_wp2_with (go_at_call 16; refine (hxd_any _ _).mono ?_; rintro e w' ⟨rfl, rfl⟩)
        go_round
        case rel => exact ⟨k + 1, by omega, by go_num, h1⟩
        case measure => simp [intOf]; omega
      | false =>
        have h1 : Hid (spn hxd l = k) := hst.2 hd
        clear hst
        go_wp2_with (go_at_call 16; refine (hxd_any _ _).mono ?_; rintro e w' ⟨rfl, rfl⟩)
        go_ret
        exact ⟨by rw [h1.out]; rfl, rfl⟩
    · have h1 : Hid (spn hxd l = k) := by
        have := hle.out
        show spn hxd l = k
        omega
      clear hsl
      go_wp2
      go_ret
      exact ⟨by rw [h1.out]; rfl, rfl⟩

end Go.Proofs.YbulkrjeDoor
