/-
  What next hands out is what it has taken: plain laws, no walk.
-/
import Derived.Test.YbulkrjeDoorNext
namespace Go.Proofs.YbulkrjeDoor
open Go.RowKit

/-- One byte or more, each let by the test. -/
def Alls (p : Int → Bool) (l : List UInt8) : Prop := l ≠ [] ∧ ∀ x ∈ l, p (x.toNat : Int) = true

theorem take_spn (p : Int → Bool) (l : List UInt8) : l.take (spn p l) = l.takeWhile fun x => p (x.toNat : Int) := by
  unfold spn
  exact (List.prefix_iff_eq_take.1 (List.takeWhile_prefix _)).symm

theorem mem_tw (q : UInt8 → Bool) : ∀ (l : List UInt8) (x : UInt8), x ∈ l.takeWhile q → q x = true
  | [], _, h => by simp at h
  | y :: l, x, h => by
    cases hy : q y with
    | false => simp [hy] at h
    | true =>
      simp [hy] at h
      rcases h with rfl | h
      · exact hy
      · exact mem_tw q l x h

theorem alls_spn {p : Int → Bool} {l : List UInt8} (h : 0 < spn p l) : Alls p (l.take (spn p l)) := by
  refine ⟨fun he => ?_, fun x hx => ?_⟩
  · have h1 := congrArg List.length he
    have := spn_le p l
    simp at h1
    rcases h1 with h1 | h1
    · omega
    · rw [h1] at h; simp [spn] at h
  · rw [take_spn] at hx
    exact mem_tw _ _ _ hx

/-- A part as it stands in the text: behind which kind, and written how. -/
def Rend (prev : Nat) (k : Tok) (cons before after : List UInt8) : Prop :=
  (k.part = 0 ∧ k.rank = 0 ∧ (prev = 8 ∨ prev = 1) ∧ Alls dig k.text ∧ cons = k.text) ∨
  (k.part = 0 ∧ k.rank = 0 ∧ prev = 0 ∧ Alls dig k.text ∧ cons = 46 :: k.text) ∨
  (k.part = 1 ∧ k.rank = 0 ∧ prev = 0 ∧ ∃ x : UInt8, k.text = [x] ∧ low (x.toNat : Int) = true ∧ cons = [x]) ∨
  (k.part = 2 ∧ prev ≤ 3 ∧ k.rank < 9 ∧ k.text = sufs.getD k.rank [] ∧ cons = 95 :: k.text) ∨
  (k.part = 3 ∧ k.rank = 0 ∧ prev = 2 ∧ Alls dig k.text ∧ cons = k.text) ∨
  (k.part = 4 ∧ k.rank = 0 ∧ prev ≤ 3 ∧ Alls hxd k.text ∧ cons = 126 :: k.text) ∨
  (k.part = 5 ∧ k.rank = 0 ∧ prev ≤ 4 ∧ Alls dig k.text ∧ cons = 45 :: 114 :: k.text) ∨
  (k.part = 6 ∧ k.rank = 0 ∧ k.text = before ∧ cons = before ∧ after = [])

theorem rank_some {name : List UInt8} : ∀ {n k : Nat}, rankTo name n = some k → k < n ∧ name = sufs.getD k []
  | 0, _, h => by simp [rankTo] at h
  | n + 1, k, h => by
    unfold rankTo at h
    cases hp : rankTo name n with
    | some j =>
      rw [hp] at h
      cases h
      have := rank_some hp
      exact ⟨by omega, this.2⟩
    | none =>
      rw [hp] at h
      by_cases he : name = sufs.getD n []
      · have h' : (if name = sufs.getD n [] then some n else none) = some k := h
        rw [if_pos he] at h'
        cases h'
        exact ⟨by omega, he⟩
      · have h' : (if name = sufs.getD n [] then some n else none) = some k := h
        rw [if_neg he] at h'
        cases h'

theorem byte_eq {c : UInt8} {v : Nat} (h : c.toNat = v) : c = UInt8.ofNat v := by
  rw [← h]
  simp

/-- What a part that is read takes: not nothing, not more than there is, and in its written form. -/
def Reads (c : UInt8) (t : List UInt8) (prev : Nat) (r : Tok × Nat) : Prop :=
  r.2 = 0 ∨ (0 < r.2 ∧ r.2 ≤ t.length + 1 ∧ r.1.part ≤ 5 ∧ ∀ after, Rend prev r.1 ((c :: t).take r.2) (c :: t) after)

theorem tail_reads (c : UInt8) (t : List UInt8) (prev : Nat) (hp : prev ≤ 4) : Reads c t prev (tailPart c t prev) := by
  unfold tailPart
  split
  · rename_i h
    split
    · rename_i k hk
      have hr := rank_some hk
      have hle := spn_le low t
      refine .inr ⟨by show 0 < 1 + _; omega, by show 1 + _ ≤ _; omega, by show 2 ≤ 5; omega, fun after => .inr (.inr (.inr (.inl ⟨rfl, h.2, hr.1, hr.2, ?_⟩)))⟩
      show (c :: t).take (1 + spn low t) = 95 :: t.take (spn low t)
      rw [Nat.add_comm, List.take_succ_cons, byte_eq h.1]
      rfl
    · exact .inl rfl
  split
  · rename_i h
    split
    · rename_i hn
      have hle := spn_le hxd t
      refine .inr ⟨by show 0 < 1 + _; omega, by show 1 + _ ≤ _; omega, by show 4 ≤ 5; omega, fun after => .inr (.inr (.inr (.inr (.inr (.inl ⟨rfl, rfl, h.2, alls_spn hn, ?_⟩)))))⟩
      show (c :: t).take (1 + spn hxd t) = 126 :: t.take (spn hxd t)
      rw [Nat.add_comm, List.take_succ_cons, byte_eq h.1]
      rfl
    · exact .inl rfl
  split
  · rename_i h
    split
    · rename_i hn
      obtain ⟨u, rfl⟩ := take1 h.2
      have hle := spn_le dig u
      have hn' : 0 < spn dig u := hn
      refine .inr ⟨by show 0 < 2 + _; omega, by show 2 + spn dig u ≤ (114 :: u).length + 1; simp; omega, by show 5 ≤ 5; omega, fun after => .inr (.inr (.inr (.inr (.inr (.inr (.inl ⟨rfl, rfl, hp, alls_spn hn', ?_⟩))))))⟩
      show (c :: 114 :: u).take (2 + spn dig u) = 45 :: 114 :: u.take (spn dig u)
      rw [Nat.add_comm, List.take_succ_cons, List.take_succ_cons, byte_eq h.1]
      rfl
    · exact .inl rfl
  · exact .inl rfl

theorem rvp_reads (c : UInt8) (t : List UInt8) (prev : Nat) : Reads c t prev (rvp c t prev) := by
  unfold rvp
  have hle := spn_le dig (c :: t)
  have hlt := spn_le dig t
  simp only [List.length_cons] at hle
  split
  · rename_i h8
    split
    · rename_i hn
      exact .inr ⟨hn, hle, by show 0 ≤ 5; omega, fun after => .inl ⟨rfl, rfl, .inl h8, alls_spn hn, rfl⟩⟩
    · exact .inl rfl
  split
  · rename_i h1
    split
    · rename_i hn
      exact .inr ⟨hn, hle, by show 0 ≤ 5; omega, fun after => .inl ⟨rfl, rfl, .inr h1, alls_spn hn, rfl⟩⟩
    · subst h1
      exact tail_reads c t 1 (by omega)
  split
  · rename_i h0
    split
    · rename_i hn
      refine .inr ⟨by show 0 < 1 + _; omega, by show 1 + _ ≤ _; omega, by show 0 ≤ 5; omega, fun after => .inr (.inl ⟨rfl, rfl, h0, alls_spn hn.2, ?_⟩)⟩
      show (c :: t).take (1 + spn dig t) = 46 :: t.take (spn dig t)
      rw [Nat.add_comm, List.take_succ_cons, byte_eq hn.1]
      rfl
    · split
      · rename_i hlow
        exact .inr ⟨by show 0 < 1; omega, by show 1 ≤ _; omega, by show 1 ≤ 5; omega, fun after => .inr (.inr (.inl ⟨rfl, rfl, h0, c, rfl, hlow, rfl⟩))⟩
      · subst h0
        exact tail_reads c t 0 (by omega)
  split
  · rename_i h2
    split
    · rename_i hn
      exact .inr ⟨hn, hle, by show 3 ≤ 5; omega, fun after => .inr (.inr (.inr (.inr (.inl ⟨rfl, rfl, h2, alls_spn hn, rfl⟩))))⟩
    · subst h2
      exact tail_reads c t 2 (by omega)
  split
  · rename_i h4
    exact tail_reads c t prev h4
  · exact .inl rfl

/-- What next takes and leaves. -/
theorem nxt_laws (c : UInt8) (t : List UInt8) (prev : Nat) : (nxt c t prev).1.part ≤ 6 ∧ (nxt c t prev).2.length < t.length + 1 ∧
    (nxt c t prev).2 = (c :: t).drop (t.length + 1 - (nxt c t prev).2.length) ∧ Rend prev (nxt c t prev).1 ((c :: t).take (t.length + 1 - (nxt c t prev).2.length)) (c :: t) (nxt c t prev).2 := by
  have hr := rvp_reads c t prev
  unfold nxt
  split
  · refine ⟨by show 6 ≤ 6; omega, by show 0 < _; omega, ?_, ?_⟩
    · show [] = (c :: t).drop (t.length + 1 - 0)
      rw [Nat.sub_zero, List.drop_eq_nil_of_le (by simp)]
    · refine .inr (.inr (.inr (.inr (.inr (.inr (.inr ⟨rfl, rfl, rfl, ?_, rfl⟩))))))
      show (c :: t).take (t.length + 1 - 0) = c :: t
      rw [Nat.sub_zero, List.take_of_length_le (by simp)]
  · rename_i hn
    rcases hr with hr | ⟨h1, h2, h3, h4⟩
    · exact absurd hr hn
    · have hd : ((c :: t).drop (rvp c t prev).2).length = t.length + 1 - (rvp c t prev).2 := by simp
      have he : t.length + 1 - ((c :: t).drop (rvp c t prev).2).length = (rvp c t prev).2 := by rw [hd]; omega
      refine ⟨by show (rvp c t prev).1.part ≤ 6; omega, by show ((c :: t).drop (rvp c t prev).2).length < _; rw [hd]; omega, ?_, ?_⟩
      · show (c :: t).drop (rvp c t prev).2 = (c :: t).drop (t.length + 1 - ((c :: t).drop (rvp c t prev).2).length)
        rw [he]
      · show Rend prev (rvp c t prev).1 ((c :: t).take (t.length + 1 - ((c :: t).drop (rvp c t prev).2).length)) (c :: t) _
        rw [he]
        exact h4 _

/-- (*VERSIONREADER).NEXT, at a string that is not empty. -/
theorem next_any (rb : Nat) (c : UInt8) (t : List UInt8) (prev : Nat) (w : World) (hl : (c :: t).length ≤ 100000) (hp : prev ≤ 6 ∨ prev = 8) (hsuf : Hid (SufAt w))
    (c0 : w.cell? ⟨rb, 0, none⟩ = some (.string ⟨(c :: t).toArray⟩)) (c1 : w.cell? ⟨rb, 1, none⟩ = some (.int .u8 (prev : Nat)))
    (f0 : w.frozen? ⟨rb, 0, none⟩ = false) (f1 : w.frozen? ⟨rb, 1, none⟩ = false) :
    Calls Ybad.prog 6 #[.pointer (some ⟨rb, 0, none⟩)] w fun e w' => e = .returned (nxt c t prev).1.val ∧
      Below w.heap.size ((w.setCell ⟨rb, 0, none⟩ (.string ⟨(nxt c t prev).2.toArray⟩)).setCell ⟨rb, 1, none⟩ (.int .u8 ((nxt c t prev).1.part : Nat))) w' := by
  have hr := rvp_reads c t prev
  by_cases hn : (rvp c t prev).2 = 0
  · have e : nxt c t prev = (⟨6, c :: t, 0⟩, []) := by unfold nxt; rw [if_pos hn]
    rw [e]
    exact next_rest rb c t prev w hl hp hsuf c0 c1 f0 f1 (rvp c t prev).1.part (rvp c t prev).1.text (rvp c t prev).1.rank (show rvp c t prev = _ from by rw [← hn])
  · have e : nxt c t prev = ((rvp c t prev).1, (c :: t).drop (rvp c t prev).2) := by unfold nxt; rw [if_neg hn]
    rw [e]
    rcases hr with hr | ⟨h1, h2, _, _⟩
    · exact absurd hr hn
    · exact next_go rb c t prev w hl hp hsuf c0 c1 f0 f1 (rvp c t prev).1.part (rvp c t prev).2 (rvp c t prev).1.text (rvp c t prev).1.rank rfl h1 h2

end Go.Proofs.YbulkrjeDoor
