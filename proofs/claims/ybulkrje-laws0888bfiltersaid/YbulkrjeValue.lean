/-
  Record.Value and the closure of Index.Find, walked.
-/
import Derived.Test.YbulkrjeRows
import Derived.WalkKit
import Derived.WalkSpells
import Derived.WalkLawsBesides
namespace Go.Proofs.Ybulkrje
open Go.RowKit

/-- What a record holds: how many fields; of each its letter and its value. -/
structure Rcd where
  n : Nat
  f : Nat → Int
  s : Nat → ByteArray

/-- The first field below k whose letter is 'P'. -/
def pfind (f : Nat → Int) : Nat → Option Nat
  | 0 => none
  | k + 1 => match pfind f k with
    | some i => some i
    | none => if f k = 80 then some k else none

/-- Has the record the name? -/
def Rcd.hit (r : Rcd) (name : ByteArray) : Bool := match pfind r.f r.n with
  | some i => (r.s i).toList == name.toList
  | none => false

theorem pfind_none {f : Nat → Int} : ∀ {k : Nat}, pfind f k = none ↔ ∀ j, j < k → f j ≠ 80
  | 0 => by simp [pfind]
  | k + 1 => by
    have ih := pfind_none (f := f) (k := k)
    constructor
    · intro h j hj
      unfold pfind at h
      cases hp : pfind f k with
      | some i => rw [hp] at h; cases h
      | none =>
        rw [hp] at h
        by_cases hj' : j < k
        · exact ih.1 hp j hj'
        · obtain rfl : j = k := by omega
          intro he
          simp [he] at h
    · intro h
      unfold pfind
      rw [ih.2 (fun j hj => h j (by omega))]
      simp [h k (by omega)]

theorem pfind_mono {f : Nat → Int} {k i : Nat} (h : pfind f k = some i) : ∀ d, pfind f (k + d) = some i
  | 0 => h
  | d + 1 => by
    show pfind f (k + d + 1) = some i
    unfold pfind
    rw [pfind_mono h d]

theorem pfind_at {f : Nat → Int} {k n : Nat} (h : ∀ j, j < k → f j ≠ 80) (hk : f k = 80) (hn : k < n) : pfind f n = some k := by
  have h1 : pfind f (k + 1) = some k := by
    unfold pfind
    rw [pfind_none.2 h]
    simp [hk]
  have := pfind_mono h1 (n - (k + 1))
  rwa [show k + 1 + (n - (k + 1)) = n from by omega] at this

theorem pfind_lt {f : Nat → Int} : ∀ {n i : Nat}, pfind f n = some i → i < n ∧ f i = 80
  | 0, _, h => by simp [pfind] at h
  | n + 1, i, h => by
    unfold pfind at h
    cases hp : pfind f n with
    | some j =>
      rw [hp] at h
      cases h
      have := pfind_lt hp
      exact ⟨by omega, this.2⟩
    | none =>
      rw [hp] at h
      by_cases he : f n = 80
      · simp [he] at h
        subst h
        exact ⟨by omega, he⟩
      · simp [he] at h

/-- The slice of fields (p, n, c) lies in memory as the record r. -/
def FieldsAt (w : World) (p : Option Addr) (n : Nat) (r : Rcd) : Prop :=
  r.n = n ∧ (0 < n → ∃ b o, p = some ⟨b, o, none⟩ ∧ ∀ i, i < n → w.cell? ⟨b, o + i * 2, none⟩ = some (.int .u8 (r.f i)) ∧ w.cell? ⟨b, o + i * 2 + 1, none⟩ = some (.string (r.s i)))

theorem FieldsAt.below {B : Nat} {w w' : World} {p : Option Addr} {n : Nat} {r : Rcd} (h : FieldsAt w p n r) (hb : Below B w w') (hB : w.heap.size ≤ B) : FieldsAt w' p n r := by
  refine ⟨h.1, fun hn => ?_⟩
  obtain ⟨b, o, hp, hc⟩ := h.2 hn
  refine ⟨b, o, hp, fun i hi => ?_⟩
  obtain ⟨h1, h2⟩ := hc i hi
  exact ⟨by rw [hb.cell (p := ⟨b, o + i * 2, none⟩) (Nat.lt_of_lt_of_le (World.block_lt_of_cell? w _ h1) hB)]; exact h1,
    by rw [hb.cell (p := ⟨b, o + i * 2 + 1, none⟩) (Nat.lt_of_lt_of_le (World.block_lt_of_cell? w _ h2) hB)]; exact h2⟩

set_option maxHeartbeats 400000 in
theorem value_none (p : Option Addr) (c : Nat) (w : World) :
    Calls Yba.prog 10 #[.slice p 0 c, .int .u8 80] w fun e w' => e = .returned (.tuple #[.string ByteArray.empty, .bool false]) ∧ w' = w := by
  go_enter Yba.func10, Yba.ntmps10
  go_wp2
  refine wp_loop_rounds 1 ?_
  rw [rounds_succ]
  go_wp2
  go_ret2
  exact ⟨rfl, rfl⟩

set_option maxHeartbeats 400000 in
theorem value_some (b o n c : Nat) (r : Rcd) (w : World) (hn : n ≤ 1024) (hc : ∀ i, i < n → w.cell? ⟨b, o + i * 2, none⟩ = some (.int .u8 (r.f i)) ∧ w.cell? ⟨b, o + i * 2 + 1, none⟩ = some (.string (r.s i))) :
    Calls Yba.prog 10 #[.slice (some ⟨b, o, none⟩) n c, .int .u8 80] w fun e w' =>
      ((∃ i, pfind r.f n = some i ∧ e = .returned (.tuple #[.string (r.s i), .bool true])) ∨ (pfind r.f n = none ∧ e = .returned (.tuple #[.string ByteArray.empty, .bool false]))) ∧ Below w.heap.size w w' := by
  have HC := hc
  have HC' : Hid (∀ i, i < n → w.cell? ⟨b, o + i * 2, none⟩ = some (.int .u8 (r.f i)) ∧ w.cell? ⟨b, o + i * 2 + 1, none⟩ = some (.string (r.s i))) := hc
  clear HC hc
  go_enter Yba.func10, Yba.ntmps10
  go_wp2
  go_loopw [10] (fun i wr => ∃ k : Nat, k ≤ n ∧ i = .int .i64 k ∧ Hid (∀ j, j < k → r.f j ≠ 80) ∧ Below w.heap.size w wr) (fun i _ => n - (intOf i).toNat)
  case atStart => exact ⟨0, Nat.zero_le _, rfl, fun j hj => by omega, Below.refl _ _⟩
  case round =>
    obtain ⟨k, hk, rfl, hno, hb⟩ := hrel
    by_cases hlt : k < n
    · obtain ⟨h1, h2⟩ := HC'.out k hlt
      have g1 : wr.cell? ⟨b, o + k * 2, none⟩ = some (.int .u8 (r.f k)) := (hb.cell (p := ⟨b, o + k * 2, none⟩) (World.block_lt_of_cell? w _ h1)).trans h1
      have g2 : wr.cell? ⟨b, o + k * 2 + 1, none⟩ = some (.string (r.s k)) := (hb.cell (p := ⟨b, o + k * 2 + 1, none⟩) (World.block_lt_of_cell? w _ h2)).trans h2
      clear h1 h2
      go_wp2
      · have h80 : (r.f k == 80) = true := by assumption
        go_ret2
        exact ⟨.inl ⟨k, pfind_at hno.out (by simpa using h80) hlt, rfl⟩, hb.alloc hb.size _⟩
      · have h80 : (r.f k == 80) = false := by assumption
        go_roundw
        case rel => exact ⟨k + 1, by omega, by go_num, fun j hj => by
          by_cases hj' : j < k
          · exact hno.out j hj'
          · obtain rfl : j = k := by omega
            simpa using h80, hb.alloc hb.size _⟩
        case measure => simp [intOf]; omega
    · go_wp2
      go_ret2
      exact ⟨.inr ⟨pfind_none.2 (fun j hj => hno.out j (by omega)), rfl⟩, hb⟩

/-- Record.Value at the letter 'P', whatever the slice. -/
theorem value_any (p : Option Addr) (n c : Nat) (r : Rcd) (w : World) (hn : n ≤ 1024) (h : FieldsAt w p n r) :
    Calls Yba.prog 10 #[.slice p n c, .int .u8 80] w fun e w' =>
      ((∃ i, pfind r.f n = some i ∧ e = .returned (.tuple #[.string (r.s i), .bool true])) ∨ (pfind r.f n = none ∧ e = .returned (.tuple #[.string ByteArray.empty, .bool false]))) ∧ Below w.heap.size w w' := by
  by_cases h0 : 0 < n
  · obtain ⟨b, o, rfl, hc⟩ := h.2 h0
    exact value_some b o n c r w hn hc
  · obtain rfl : n = 0 := by omega
    exact (value_none p c w).mono fun e w' ⟨he, hw⟩ => ⟨.inr ⟨rfl, he⟩, by rw [hw]; exact Below.refl _ _⟩

set_option maxHeartbeats 400000 in
/-- The closure of Find: has this record the name? -/
theorem named_any (p : Option Addr) (n c nb : Nat) (name : ByteArray) (r : Rcd) (w : World) (hn : n ≤ 1024) (h : FieldsAt w p n r) (hnm : w.cell? ⟨nb, 0, none⟩ = some (.string name)) :
    Calls Yba.prog 9 #[.slice p n c, .pointer (some ⟨nb, 0, none⟩)] w fun e w' => e = .returned (.bool (r.hit name)) ∧ Below w.heap.size w w' := by
  have hr : r.n = n := h.1
  have HR : Hid (r.n = n) := hr
  clear hr
  go_enter Yba.func9, Yba.ntmps9
  go_wp2_with fail
  refine (value_any p n c r w hn h).mono ?_
  rintro e w1 ⟨h1, hb⟩
  have hnm1 : w1.cell? ⟨nb, 0, none⟩ = some (.string name) := (hb.cell (p := ⟨nb, 0, none⟩) (World.block_lt_of_cell? w _ hnm)).trans hnm
  rcases h1 with ⟨i, hi, rfl⟩ | ⟨hi, rfl⟩
  · have HI : Hid (pfind r.f n = some i) := hi
    clear hi
    go_wp2
    go_ret
    exact ⟨by unfold Rcd.hit; rw [HR.out, HI.out]; rfl, hb⟩
  · have HI : Hid (pfind r.f n = none) := hi
    clear hi
    go_wp2
    go_ret
    exact ⟨by unfold Rcd.hit; rw [HR.out, HI.out]; rfl, hb⟩

end Go.Proofs.Ybulkrje
