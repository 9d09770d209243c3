/-
  The grammar, read back: plain laws, no walk.
-/
import Derived.Test.YbulkrjeDoorRend
namespace Go.Proofs.YbulkrjeDoor

/-- What follows does not begin with a byte that the test lets. -/
def Halts (p : Int → Bool) (r : List UInt8) : Prop := ∀ c t, r = c :: t → p (c.toNat : Int) = false

theorem spn_app {p : Int → Bool} {r : List UInt8} (hr : Halts p r) : ∀ {d : List UInt8}, (∀ x ∈ d, p (x.toNat : Int) = true) → spn p (d ++ r) = d.length
  | [], _ => by
    cases r with
    | nil => simp [spn]
    | cons c t => simp [spn, hr c t rfl]
  | x :: d, hd => by
    have h1 := spn_app hr (d := d) (fun y hy => hd y (List.mem_cons_of_mem _ hy))
    have h2 := hd x List.mem_cons_self
    simp only [spn, List.cons_append, List.takeWhile_cons, h2, if_true, List.length_cons] at h1 ⊢
    omega

/-- What would lengthen a part of this kind. -/
def cls : Nat → Int → Bool
  | 0 => dig
  | 2 => low
  | 3 => dig
  | 4 => hxd
  | 5 => dig
  | _ => fun _ => false

/-- Reading from (s, p) gives these parts, and comes to (r, p'). -/
def Yields : List Tok → Nat → List UInt8 → Nat → List UInt8 → Prop
  | [], p, s, p', r => p = p' ∧ s = r
  | k :: ks, p, s, p', r => ∃ c t s', s = c :: t ∧ nxt c t p = (k, s') ∧ Yields ks k.part s' p' r

theorem Yields.snoc {k : Tok} {r : List UInt8} : ∀ {ts : List Tok} {p : Nat} {s : List UInt8} {p' : Nat} {c : UInt8} {t : List UInt8}, Yields ts p s p' (c :: t) → nxt c t p' = (k, r) → Yields (ts ++ [k]) p s k.part r
  | [], _, _, _, _, _, ⟨h1, h2⟩, hn => by
    subst h1 h2
    exact ⟨_, _, _, rfl, hn, rfl, rfl⟩
  | q :: ts, _, _, _, _, _, ⟨a, b, s', h1, h2, h3⟩, hn => ⟨a, b, s', h1, h2, Yields.snoc h3 hn⟩

/-- The text so far reads as the parts so far, whatever comes behind it that does not lengthen the last part. -/
def Goes (bs : List UInt8) (ts : List Tok) (p : Nat) : Prop := ∀ r, Halts (cls p) r → Yields ts 8 (bs ++ r) p r

theorem goes_nil : Goes [] [] 8 := fun _ _ => ⟨rfl, rfl⟩

theorem Goes.step {bs : List UInt8} {ts : List Tok} {p : Nat} (h : Goes bs ts p) (c : UInt8) (x : List UInt8) (k : Tok) (hc : cls p (c.toNat : Int) = false) (hx : ∀ r, Halts (cls k.part) r → nxt c (x ++ r) p = (k, r)) :
    Goes (bs ++ c :: x) (ts ++ [k]) k.part := by
  intro r hr
  have h1 := h (c :: (x ++ r)) (fun a b e => by cases e; exact hc)
  have h2 := h1.snoc (hx r hr)
  rw [List.append_assoc]
  exact h2

theorem nxt_of {c : UInt8} {t : List UInt8} {p : Nat} {k : Tok} {d r : List UInt8} {n : Nat} (h : rvp c t p = (k, n)) (hn : n = d.length) (hp : 0 < n) (e : c :: t = d ++ r) : nxt c t p = (k, r) := by
  unfold nxt
  rw [h]
  simp only
  rw [if_neg (by omega), e, hn, List.drop_left]

theorem dig_not_low {c : Int} (h : dig c = true) : low c = false := by
  simp only [dig, low, Bool.and_eq_true, decide_eq_true_eq, Bool.and_eq_false_iff, decide_eq_false_iff_not] at *
  omega
theorem low_not_dig {c : Int} (h : low c = true) : dig c = false := by
  simp only [dig, low, Bool.and_eq_true, decide_eq_true_eq, Bool.and_eq_false_iff, decide_eq_false_iff_not] at *
  omega

/-- The first number. -/
theorem Goes.num8 {c : UInt8} {x : List UInt8} (hd : ∀ y ∈ c :: x, dig (y.toNat : Int) = true) : Goes (c :: x) [⟨0, c :: x, 0⟩] 0 := by
  refine Goes.step goes_nil c x ⟨0, c :: x, 0⟩ rfl fun r hr => ?_
  have hs : spn dig (c :: (x ++ r)) = (c :: x).length := spn_app (d := c :: x) (r := r) hr hd
  refine nxt_of (d := c :: x) (n := (c :: x).length) ?_ rfl (by simp) rfl
  unfold rvp
  rw [if_pos rfl, hs, if_pos (by simp)]
  have : (c :: (x ++ r)).take (c :: x).length = c :: x := by
    show ((c :: x) ++ r).take _ = _
    exact List.take_left
  rw [this]

/-- A further number. -/
theorem Goes.num0 {bs : List UInt8} {ts : List Tok} (h : Goes bs ts 0) {d : List UInt8} (hd : Alls dig d) : Goes (bs ++ 46 :: d) (ts ++ [⟨0, d, 0⟩]) 0 := by
  refine h.step 46 d ⟨0, d, 0⟩ (by decide) fun r hr => ?_
  have hs : spn dig (d ++ r) = d.length := spn_app (r := r) hr hd.2
  have hl : 0 < d.length := List.length_pos_iff.2 hd.1
  refine nxt_of (d := 46 :: d) (n := 1 + d.length) ?_ (by simp; omega) (by omega) rfl
  unfold rvp
  rw [if_neg (by decide), if_neg (by decide), if_pos rfl, hs, if_pos ⟨rfl, hl⟩, List.take_left]

/-- The letter. -/
theorem Goes.letter {bs : List UInt8} {ts : List Tok} (h : Goes bs ts 0) {c : UInt8} (hc : low (c.toNat : Int) = true) : Goes (bs ++ [c]) (ts ++ [⟨1, [c], 0⟩]) 1 := by
  refine h.step c [] ⟨1, [c], 0⟩ (low_not_dig hc) fun r hr => ?_
  have h46 : ¬ c.toNat = 46 := by
    simp only [low, Bool.and_eq_true, decide_eq_true_eq] at hc
    omega
  refine nxt_of (d := [c]) (n := 1) ?_ rfl (by omega) rfl
  unfold rvp
  rw [if_neg (by decide), if_neg (by decide), if_pos rfl, if_neg (fun e => h46 e.1), if_pos hc]

theorem sufs_low : ∀ k < 9, ∀ x ∈ sufs.getD k [], low (x.toNat : Int) = true := by decide
theorem sufs_distinct : ∀ k < 9, ∀ j < k, sufs.getD k [] ≠ sufs.getD j [] := by decide
theorem sufs_len : ∀ k < 9, (sufs.getD k []).length ≤ 5 := by decide

theorem rvp_tail {c : UInt8} {t : List UInt8} {p : Nat} (hp : p ≤ 4) (h1 : dig (c.toNat : Int) = false) (h2 : low (c.toNat : Int) = false) (h3 : c.toNat ≠ 46) : rvp c t p = tailPart c t p := by
  have hz : spn dig (c :: t) = 0 := by simp [spn, h1]
  unfold rvp
  rcases (show p = 0 ∨ p = 1 ∨ p = 2 ∨ p = 3 ∨ p = 4 from by omega) with rfl | rfl | rfl | rfl | rfl
  · rw [if_neg (by decide), if_neg (by decide), if_pos rfl, if_neg (fun e => h3 e.1), if_neg (by rw [h2]; decide)]
  · rw [if_neg (by decide), if_pos rfl, hz, if_neg (by decide)]
  · rw [if_neg (by decide), if_neg (by decide), if_neg (by decide), if_pos rfl, hz, if_neg (by decide)]
  · rw [if_neg (by decide), if_neg (by decide), if_neg (by decide), if_neg (by decide), if_pos (by decide)]
  · rw [if_neg (by decide), if_neg (by decide), if_neg (by decide), if_neg (by decide), if_pos (by decide)]

theorem cls_off {p : Nat} {c : Int} (hp : p ≤ 4) (h1 : dig c = false) (h2 : low c = false) : cls p c = false := by
  rcases (show p = 0 ∨ p = 1 ∨ p = 2 ∨ p = 3 ∨ p = 4 from by omega) with rfl | rfl | rfl | rfl | rfl
  · exact h1
  · rfl
  · exact h2
  · exact h1
  · show hxd c = false
    simp only [hxd, dig, low, Bool.or_eq_false_iff, Bool.and_eq_false_iff, decide_eq_false_iff_not] at *
    omega

/-- A suffix. -/
theorem Goes.suf {bs : List UInt8} {ts : List Tok} {p : Nat} (h : Goes bs ts p) (hp : p ≤ 3) {k : Nat} (hk : k < 9) : Goes (bs ++ 95 :: sufs.getD k []) (ts ++ [⟨2, sufs.getD k [], k⟩]) 2 := by
  refine h.step 95 (sufs.getD k []) ⟨2, sufs.getD k [], k⟩ (cls_off (by omega) (by decide) (by decide)) fun r hr => ?_
  have hs : spn low (sufs.getD k [] ++ r) = (sufs.getD k []).length := spn_app (r := r) hr (sufs_low k hk)
  refine nxt_of (d := 95 :: sufs.getD k []) (n := 1 + (sufs.getD k []).length) ?_ (by rw [List.length_cons]; omega) (by omega) rfl
  rw [rvp_tail (by omega) (by decide) (by decide) (by decide)]
  unfold tailPart
  rw [if_pos ⟨rfl, hp⟩, hs, List.take_left, rankTo_at (fun j hj => sufs_distinct k hk j hj) rfl hk]

/-- A suffix's number. -/
theorem Goes.sufnum {bs : List UInt8} {ts : List Tok} (h : Goes bs ts 2) {d : List UInt8} (hd : Alls dig d) : Goes (bs ++ d) (ts ++ [⟨3, d, 0⟩]) 3 := by
  obtain ⟨hne, hd⟩ := hd
  cases d with
  | nil => exact absurd rfl hne
  | cons c x =>
    refine h.step c x ⟨3, c :: x, 0⟩ (dig_not_low (hd c List.mem_cons_self)) fun r hr => ?_
    have hs : spn dig (c :: (x ++ r)) = (c :: x).length := spn_app (d := c :: x) (r := r) hr hd
    refine nxt_of (d := c :: x) (n := (c :: x).length) ?_ rfl (by simp) rfl
    unfold rvp
    rw [if_neg (by decide), if_neg (by decide), if_neg (by decide), if_pos rfl, hs, if_pos (by simp)]
    have : (c :: (x ++ r)).take (c :: x).length = c :: x := by
      show ((c :: x) ++ r).take _ = _
      exact List.take_left
    rw [this]

/-- The hash. -/
theorem Goes.hash {bs : List UInt8} {ts : List Tok} {p : Nat} (h : Goes bs ts p) (hp : p ≤ 3) {d : List UInt8} (hd : Alls hxd d) : Goes (bs ++ 126 :: d) (ts ++ [⟨4, d, 0⟩]) 4 := by
  refine h.step 126 d ⟨4, d, 0⟩ (cls_off (by omega) (by decide) (by decide)) fun r hr => ?_
  have hs : spn hxd (d ++ r) = d.length := spn_app (r := r) hr hd.2
  have hl : 0 < d.length := List.length_pos_iff.2 hd.1
  refine nxt_of (d := 126 :: d) (n := 1 + d.length) ?_ (by rw [List.length_cons]; omega) (by omega) rfl
  rw [rvp_tail (by omega) (by decide) (by decide) (by decide)]
  unfold tailPart
  rw [if_neg (fun e => absurd e.1 (by decide)), if_pos ⟨rfl, hp⟩, hs, if_pos hl, List.take_left]

/-- The revision. -/
theorem Goes.rev {bs : List UInt8} {ts : List Tok} {p : Nat} (h : Goes bs ts p) (hp : p ≤ 4) {d : List UInt8} (hd : Alls dig d) : Goes (bs ++ 45 :: 114 :: d) (ts ++ [⟨5, d, 0⟩]) 5 := by
  refine h.step 45 (114 :: d) ⟨5, d, 0⟩ (cls_off (by omega) (by decide) (by decide)) fun r hr => ?_
  have hs : spn dig (d ++ r) = d.length := spn_app (r := r) hr hd.2
  have hl : 0 < d.length := List.length_pos_iff.2 hd.1
  refine nxt_of (d := 45 :: 114 :: d) (n := 2 + d.length) ?_ (by rw [List.length_cons, List.length_cons]; omega) (by omega) rfl
  rw [rvp_tail (by omega) (by decide) (by decide) (by decide)]
  unfold tailPart
  rw [if_neg (fun e => absurd e.1 (by decide)), if_neg (fun e => absurd e.1 (by decide)), if_pos ⟨rfl, by simp⟩]
  have hs' : spn dig (114 :: d ++ r).tail = d.length := hs
  rw [hs', if_pos hl]
  show ((⟨5, (d ++ r).take d.length, 0⟩ : Tok), 2 + d.length) = _
  rw [List.take_left]

/-- The whole text, read to its end. -/
theorem Goes.whole {bs : List UInt8} {ts : List Tok} {p : Nat} (h : Goes bs ts p) : Yields ts 8 bs p [] := by
  have := h [] (fun c t e => by cases e)
  rwa [List.append_nil] at this

end Go.Proofs.YbulkrjeDoor
