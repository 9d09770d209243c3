/-
  What readVersionPart and next compute, as plain functions on lists of bytes.
-/
import Derived.Test.YbulkrjeDoorSpan
namespace Go.Proofs.YbulkrjeDoor

/-- The suffixes' names, in their order. -/
def sufs : List (List UInt8) := [[97, 108, 112, 104, 97], [98, 101, 116, 97], [112, 114, 101], [114, 99], [99, 118, 115], [115, 118, 110], [103, 105, 116], [104, 103], [112]]

/-- The first of the first k suffixes whose name it is. -/
def rankTo (name : List UInt8) : Nat → Option Nat
  | 0 => none
  | k + 1 => match rankTo name k with
    | some i => some i
    | none => if name = sufs.getD k [] then some k else none

/-- One part of a version. -/
structure Tok where
  part : Nat
  text : List UInt8
  rank : Nat

def tok0 : Tok := ⟨0, [], 0⟩

/-- A part that begins with '_', '~' or '-r', behind a part of the kind prev. -/
def tailPart (c : UInt8) (t : List UInt8) (prev : Nat) : Tok × Nat :=
  if c.toNat = 95 ∧ prev ≤ 3 then
    (match rankTo (t.take (spn low t)) 9 with
    | some k => (⟨2, t.take (spn low t), k⟩, 1 + spn low t)
    | none => (tok0, 0))
  else if c.toNat = 126 ∧ prev ≤ 3 then (if 0 < spn hxd t then (⟨4, t.take (spn hxd t), 0⟩, 1 + spn hxd t) else (tok0, 0))
  else if c.toNat = 45 ∧ t.take 1 = [114] then (if 0 < spn dig t.tail then (⟨5, t.tail.take (spn dig t.tail), 0⟩, 2 + spn dig t.tail) else (tok0, 0))
  else (tok0, 0)

/-- readVersionPart at a string that is not empty. -/
def rvp (c : UInt8) (t : List UInt8) (prev : Nat) : Tok × Nat :=
  if prev = 8 then (if 0 < spn dig (c :: t) then (⟨0, (c :: t).take (spn dig (c :: t)), 0⟩, spn dig (c :: t)) else (tok0, 0))
  else if prev = 1 then (if 0 < spn dig (c :: t) then (⟨0, (c :: t).take (spn dig (c :: t)), 0⟩, spn dig (c :: t)) else tailPart c t 1)
  else if prev = 0 then (if c.toNat = 46 ∧ 0 < spn dig t then (⟨0, t.take (spn dig t), 0⟩, 1 + spn dig t) else if low (c.toNat : Int) = true then (⟨1, [c], 0⟩, 1) else tailPart c t 0)
  else if prev = 2 then (if 0 < spn dig (c :: t) then (⟨3, (c :: t).take (spn dig (c :: t)), 0⟩, spn dig (c :: t)) else tailPart c t 2)
  else if prev ≤ 4 then tailPart c t prev
  else (tok0, 0)

/-- A token as a value. -/
def Tok.val (k : Tok) : Value := .agg #[.int .u8 k.part, .string ⟨k.text.toArray⟩, .int .i64 k.rank]

/-- The suffixes' names as they lie in memory. -/
def sufCells : Array Value := #[.string ⟨#[97, 108, 112, 104, 97]⟩, .string ⟨#[98, 101, 116, 97]⟩, .string ⟨#[112, 114, 101]⟩, .string ⟨#[114, 99]⟩, .string ⟨#[99, 118, 115]⟩, .string ⟨#[115, 118, 110]⟩, .string ⟨#[103, 105, 116]⟩, .string ⟨#[104, 103]⟩, .string ⟨#[112]⟩]

/-- The variable versionSuffixes holds them. -/
def SufAt (w : World) : Prop := ∃ t fr, w.heap[0]? = some (.cells sufCells t fr)

theorem SufAt.below {B : Nat} {w w' : World} (h : SufAt w) (hb : RowKit.Below B w w') (hB : w.heap.size ≤ B) : SufAt w' := by
  obtain ⟨t, fr, h⟩ := h
  refine ⟨t, fr, ?_⟩
  have : 0 < w.heap.size := by
    obtain ⟨hh, _⟩ := Array.getElem?_eq_some_iff.1 h
    exact hh
  rw [hb.block 0 (by omega)]
  exact h

theorem idx_suf (k : Nat) (hk : k < 9) (w : World) : (Instr.index 47 (.agg sufCells) (.int .i64 k)).run Ybad.prog w = .ok (.string ⟨(sufs.getD k []).toArray⟩) w := by
  rcases (show k = 0 ∨ k = 1 ∨ k = 2 ∨ k = 3 ∨ k = 4 ∨ k = 5 ∨ k = 6 ∨ k = 7 ∨ k = 8 from by omega) with rfl | rfl | rfl | rfl | rfl | rfl | rfl | rfl | rfl
  all_goals kernel_rfl

theorem rankTo_none {name : List UInt8} : ∀ {k : Nat}, rankTo name k = none ↔ ∀ j, j < k → name ≠ sufs.getD j []
  | 0 => by simp [rankTo]
  | k + 1 => by
    have ih := rankTo_none (name := name) (k := k)
    constructor
    · intro h j hj
      unfold rankTo at h
      cases hp : rankTo name k with
      | some i => rw [hp] at h; cases h
      | none =>
        rw [hp] at h
        by_cases hj' : j < k
        · exact ih.1 hp j hj'
        · obtain rfl : j = k := by omega
          intro he
          have h' : (if name = sufs.getD j [] then some j else none) = none := h
          rw [if_pos he] at h'
          cases h'
    · intro h
      unfold rankTo
      rw [ih.2 (fun j hj => h j (by omega))]
      have := h k (by omega)
      simp only [this, if_false]

theorem rankTo_mono {name : List UInt8} {k i : Nat} (h : rankTo name k = some i) : ∀ d, rankTo name (k + d) = some i
  | 0 => h
  | d + 1 => by
    show rankTo name (k + d + 1) = some i
    unfold rankTo
    rw [rankTo_mono h d]

theorem rankTo_at {name : List UInt8} {k n : Nat} (h : ∀ j, j < k → name ≠ sufs.getD j []) (hk : name = sufs.getD k []) (hn : k < n) : rankTo name n = some k := by
  have h1 : rankTo name (k + 1) = some k := by
    unfold rankTo
    rw [rankTo_none.2 h]
    simp only [hk, if_true]
  have := rankTo_mono h1 (n - (k + 1))
  rwa [show k + 1 + (n - (k + 1)) = n from by omega] at this

end Go.Proofs.YbulkrjeDoor
