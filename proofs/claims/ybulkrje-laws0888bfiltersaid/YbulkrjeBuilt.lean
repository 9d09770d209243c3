/-
  What the two laws build: a row of records, each a row of fields; stated of memory, with no walk.
-/
import Derived.Test.YbulkrjeCheck
namespace Go.Proofs.Ybulkrje
open Go.RowKit

/-- The cells of the first n fields. -/
def rcells (F S : Nat → Value) : Nat → List Value
  | 0 => []
  | n + 1 => rcells F S n ++ [F n, S n]

theorem rcells_length (F S : Nat → Value) : ∀ n, (rcells F S n).length = n * 2
  | 0 => rfl
  | n + 1 => by simp [rcells, rcells_length F S n]; omega

theorem rcells_at (F S : Nat → Value) : ∀ {n q : Nat}, q < n → (rcells F S n)[q * 2]? = some (F q) ∧ (rcells F S n)[q * 2 + 1]? = some (S q)
  | 0, _, h => absurd h (Nat.not_lt_zero _)
  | n + 1, q, h => by
    have hl := rcells_length F S n
    by_cases hq : q < n
    · obtain ⟨h1, h2⟩ := rcells_at F S hq
      unfold rcells
      rw [List.getElem?_append_left (by omega), List.getElem?_append_left (by omega)]
      exact ⟨h1, h2⟩
    · obtain rfl : q = n := by omega
      unfold rcells
      rw [List.getElem?_append_right (by omega), List.getElem?_append_right (by omega), hl]
      simp

/-- A record out of the row that the call has made for it. -/
theorem fields_of_own {w : World} {base n cp : Nat} {a : Option Addr} {r : Rcd} (hn : r.n = n) (h : w.ownsRow base 32 2 (.slice a n cp) n (rcells (fun q => .int .u8 (r.f q)) (fun q => .string (r.s q)) n)) :
    FieldsAt w a n r ∧ (0 < n → ∀ ad, a = some ad → base ≤ ad.block) := by
  rcases h.2 with ⟨h', h0⟩ | ⟨g, cp', cur, h', hb, _⟩
  · subst h0
    exact ⟨⟨hn, fun h => absurd h (Nat.lt_irrefl 0)⟩, fun h => absurd h (Nat.lt_irrefl 0)⟩
  · simp only [Value.slice.injEq] at h'
    obtain ⟨rfl, _, _⟩ := h'
    refine ⟨⟨hn, fun _ => ⟨g, 0, rfl, fun i hi => ?_⟩⟩, fun _ ad had => ?_⟩
    · obtain ⟨e1, e2⟩ := rcells_at (fun q => .int .u8 (r.f q)) (fun q => .string (r.s q)) hi
      rw [Nat.zero_add, h.cellAt (i * 2) (by omega), h.cellAt (i * 2 + 1) (by omega)]
      exact ⟨e1, e2⟩
    · cases had
      exact hb

theorem FieldsAt.grown {w w' : World} {p : Option Addr} {n G : Nat} {r : Rcd} (h : FieldsAt w p n r) (hg : w.grownBy w' (some G)) (hne : 0 < n → ∀ ad, p = some ad → ad.block ≠ G) : FieldsAt w' p n r := by
  refine ⟨h.1, fun hn => ?_⟩
  obtain ⟨b, o, hp, hc⟩ := h.2 hn
  have hb : b ≠ G := hne hn _ hp
  refine ⟨b, o, hp, fun i hi => ?_⟩
  obtain ⟨h1, h2⟩ := hc i hi
  exact ⟨hg.cell h1 (by simpa using hb), hg.cell h2 (by simpa using hb)⟩

/-- k records built so far: their slices in the row at block G, their fields in rows of their own. -/
structure Built (w wr : World) (G N k : Nat) (P : Nat → Option Addr) (C L : Nat → Nat) (R : Nat → Rcd) : Prop where
  own : wr.ownsRow w.heap.size 26 1 (.slice (some ⟨G, 0, none⟩) k N) k ((List.range k).map fun i => .slice (P i) (L i) (C i))
  recs : ∀ i, i < k → L i ≤ 1024 ∧ FieldsAt wr (P i) (L i) (R i) ∧ (0 < L i → ∀ ad, P i = some ad → ad.block ≠ G)
  below : Below w.heap.size w wr

def upd {α : Type} (f : Nat → α) (k : Nat) (x : α) (i : Nat) : α := if i = k then x else f i

theorem Built.step {w wq w2 w3 : World} {G N k : Nat} {P : Nat → Option Addr} {C L : Nat → Nat} {R : Nat → Rcd} {a : Option Addr} {cp : Nat} {o : Obj} (h : Built w wq G N k P C L R)
    (hL : L k ≤ 1024) (hn : (R k).n = L k) (hb : Below wq.heap.size wq w2) (own2 : w2.ownsRow wq.heap.size 32 2 (.slice a (L k) cp) (L k) (rcells (fun q => .int .u8 ((R k).f q)) (fun q => .string ((R k).s q)) (L k)))
    (own3 : w3.ownsRow w.heap.size 26 1 (.slice (some ⟨G, 0, none⟩) (k + 1) N) (k + 1) (((List.range k).map fun i => .slice (P i) (L i) (C i)) ++ [.slice a (L k) cp])) (gr : (w2.alloc o).grownBy w3 (some G)) :
    Built w w3 G N (k + 1) (upd P k a) (upd C k cp) L R := by
  have hG := h.own.lt G rfl
  have s1 := h.below.size
  have s2 := hb.size
  obtain ⟨f2, f3⟩ := fields_of_own hn own2
  refine ⟨?_, fun i hi => ?_, ?_⟩
  · have e : ((List.range (k + 1)).map fun i => Value.slice (upd P k a i) (L i) (upd C k cp i)) = ((List.range k).map fun i => .slice (P i) (L i) (C i)) ++ [.slice a (L k) cp] := by
      rw [List.range_succ, List.map_append]
      congr 1
      · refine List.map_congr_left fun i hi => ?_
        have : i ≠ k := by have := List.mem_range.1 hi; omega
        simp [upd, this]
      · simp [upd]
    rw [e]
    exact own3
  · by_cases hik : i = k
    · subst hik
      have hne : 0 < L i → ∀ ad, a = some ad → ad.block ≠ G := fun h0 ad had => by have := f3 h0 ad had; omega
      refine ⟨hL, ?_, ?_⟩
      · have : upd P i a i = a := by simp [upd]
        rw [this]
        exact (f2.below (B := w2.heap.size) ((Below.refl _ _).alloc (Nat.le_refl _) o) (Nat.le_refl _)).grown gr hne
      · have : upd P i a i = a := by simp [upd]
        rw [this]
        exact hne
    · obtain ⟨g1, g2, g3⟩ := h.recs i (by omega)
      have : upd P k a i = P i := by simp [upd, hik]
      rw [this]
      exact ⟨g1, ((g2.below hb (Nat.le_refl _)).below (B := w2.heap.size) ((Below.refl _ _).alloc (Nat.le_refl _) o) (Nat.le_refl _)).grown gr g3, g3⟩
  · exact ((h.below.trans (hb.mono s1)).alloc (by omega) o).grown gr (by simp; omega) (fun q hq => by cases hq; exact hG.1)

/-- The row of records, whole. -/
theorem Built.recsAt {w wr : World} {G N k : Nat} {P : Nat → Option Addr} {C L : Nat → Nat} {R : Nat → Rcd} (h : Built w wr G N k P C L R) : RecsAt wr G k ⟨P, L, C, R⟩ := by
  intro i hi
  obtain ⟨g1, g2, _⟩ := h.recs i hi
  refine ⟨?_, g1, g2⟩
  rw [h.own.cellAt i (by omega)]
  simp [hi]

/-- What Find leaves is what the check asks for. -/
theorem got_of_find {w' : World} {z : Rcs} {name : ByteArray} {N base : Nat} {e : Ending}
    (h : (z.hits name N = [] ∧ e = .returned (.slice none 0 0)) ∨
        ∃ gb cp, z.hits name N ≠ [] ∧ e = .returned (.slice (some ⟨gb, 0, none⟩) (z.hits name N).length cp) ∧ w'.ownsRow base 26 1 (.slice (some ⟨gb, 0, none⟩) (z.hits name N).length cp) (z.hits name N).length ((z.hits name N).map z.val)) :
    ∃ got, e = .returned got ∧ (∃ a n c, got = .slice a n c) ∧ GotAt w' z name N got := by
  rcases h with ⟨h1, rfl⟩ | ⟨gb, cp, h1, rfl, own⟩
  · exact ⟨_, rfl, ⟨_, _, _, rfl⟩, .inl ⟨h1, rfl⟩⟩
  · refine ⟨_, rfl, ⟨_, _, _, rfl⟩, .inr ⟨gb, cp, h1, rfl, fun q hq => ?_⟩⟩
    rw [own.cellAt q (by omega)]
    simp [List.getD, hq]

end Go.Proofs.Ybulkrje
