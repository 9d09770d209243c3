/-
  LawS0888ATrace, walked.
-/
import Derived.Test.YbulkrjeDoorRender
namespace Go.RowKit

theorem Below.undrewN {B n : Nat} {w w1 : World} (h : Below B (w.drewN n) w1) : Below B w w1 := ⟨h.os, h.tape, h.output, h.size, h.block⟩

end Go.RowKit
namespace Go.Proofs.YbulkrjeDoor
open Go.RowKit
attribute [local go_sem] ext_list at_head tk1

/-- zzs0888arender answers true at what next hands out. -/
theorem render_any (prev : Nat) (k : Tok) (cons before after : List UInt8) (w : World) (hl : before.length ≤ 100000) (hc : cons.length ≤ 100000) (h : Rend prev k cons before after) :
    Calls Ybad.prog 7 #[.int .u8 (prev : Nat), k.val, .string ⟨cons.toArray⟩, .string ⟨before.toArray⟩, .string ⟨after.toArray⟩] w fun e w' => e = .returned (.bool true) ∧ Below w.heap.size w w' := by
  obtain ⟨part, text, rank⟩ := k
  rcases h with ⟨h1, h2, h3, h4, h5⟩ | ⟨h1, h2, h3, h4, h5⟩ | ⟨h1, h2, h3, x, h4, h5, h6⟩ | ⟨h1, h2, h3, h4, h5⟩ | ⟨h1, h2, h3, h4, h5⟩ | ⟨h1, h2, h3, h4, h5⟩ | ⟨h1, h2, h3, h4, h5⟩ | ⟨h1, h2, h3, h4, h5⟩
  · simp only at h1 h2 h4 h5
    subst h1 h2 h5
    rcases h3 with rfl | rfl
    · exact rend_num8 _ before after hc h4 w
    · exact rend_num1 _ before after hc h4 w
  · simp only at h1 h2 h4 h5
    subst h1 h2 h5 h3
    exact rend_dot text before after (by simp at hc; omega) h4 w
  · simp only at h1 h2 h4
    subst h1 h2 h4 h3 h6
    have : 97 ≤ (x.toNat : Int) ∧ (x.toNat : Int) ≤ 122 := by simpa [low] using h5
    exact rend_letter x before after this.1 this.2 w
  · simp only at h1 h3 h4 h5
    subst h1 h5
    refine rend_suf prev (by omega) rank h3 text before after (by simp at hc; omega) ?_ h4 w
    rw [h4]
    rcases (show rank = 0 ∨ rank = 1 ∨ rank = 2 ∨ rank = 3 ∨ rank = 4 ∨ rank = 5 ∨ rank = 6 ∨ rank = 7 ∨ rank = 8 from by omega) with rfl | rfl | rfl | rfl | rfl | rfl | rfl | rfl | rfl <;> rfl
  · simp only at h1 h2 h4 h5
    subst h1 h2 h5 h3
    exact rend_sufnum _ before after hc h4 w
  · simp only at h1 h2 h4 h5
    subst h1 h2 h5
    exact rend_hash prev (by omega) text before after (by simp at hc; omega) h4 w
  · simp only at h1 h2 h4 h5
    subst h1 h2 h5
    exact rend_rev prev (by omega) text before after (by simp at hc; omega) h4 w
  · simp only at h1 h2 h3
    subst h1 h2 h3 h4 h5
    exact rend_rest prev _ w

/-- The reader at block rb: what is left to read, the kind that it keeps. -/
def RdAt (W : World) (rb : Nat) (s : List UInt8) (p : Nat) : Prop :=
  W.cell? ⟨rb, 0, none⟩ = some (.string ⟨s.toArray⟩) ∧ W.cell? ⟨rb, 1, none⟩ = some (.int .u8 (p : Nat)) ∧ W.frozen? ⟨rb, 0, none⟩ = false ∧ W.frozen? ⟨rb, 1, none⟩ = false

theorem RdAt.below {B : Nat} {w w' : World} {rb : Nat} {s : List UInt8} {p : Nat} (h : RdAt w rb s p) (hb : Below B w w') (hB : w.heap.size ≤ B) : RdAt w' rb s p := by
  obtain ⟨h1, h2, h3, h4⟩ := h
  have hr := World.block_lt_of_cell? w _ h1
  exact ⟨(hb.cell (p := ⟨rb, 0, none⟩) (Nat.lt_of_lt_of_le hr hB)).trans h1, (hb.cell (p := ⟨rb, 1, none⟩) (Nat.lt_of_lt_of_le hr hB)).trans h2,
    (hb.frozen (p := ⟨rb, 0, none⟩) (Nat.lt_of_lt_of_le hr hB)).trans h3, (hb.frozen (p := ⟨rb, 1, none⟩) (Nat.lt_of_lt_of_le hr hB)).trans h4⟩

/-- Behind next: the reader turned, all else as it was. -/
theorem rd_step {B rb p p' : Nat} {w0 w w' : World} {s s' : List UInt8} (h : RdAt w rb s p) (hsuf : SufAt w) (hB : B ≤ rb) (hB0 : 0 < B) (hw : Below B w0 w)
    (hb : Below w.heap.size ((w.setCell ⟨rb, 0, none⟩ (.string ⟨s'.toArray⟩)).setCell ⟨rb, 1, none⟩ (.int .u8 (p' : Nat))) w') : RdAt w' rb s' p' ∧ SufAt w' ∧ Below B w0 w' := by
  obtain ⟨h1, h2, h3, h4⟩ := h
  have hr := World.block_lt_of_cell? w _ h1
  have hr' : rb < w.heap.size := hr
  have hs : ((w.setCell ⟨rb, 0, none⟩ (.string ⟨s'.toArray⟩)).setCell ⟨rb, 1, none⟩ (.int .u8 (p' : Nat))).heap.size = w.heap.size := by simp [World.setCell]
  have e0 : ((w.setCell ⟨rb, 0, none⟩ (.string ⟨s'.toArray⟩)).setCell ⟨rb, 1, none⟩ (.int .u8 (p' : Nat))).cell? ⟨rb, 0, none⟩ = some (.string ⟨s'.toArray⟩) := by
    simp [go_sem, h1]
  have e1 : ((w.setCell ⟨rb, 0, none⟩ (.string ⟨s'.toArray⟩)).setCell ⟨rb, 1, none⟩ (.int .u8 (p' : Nat))).cell? ⟨rb, 1, none⟩ = some (.int .u8 (p' : Nat)) := by
    simp [go_sem, h2]
  refine ⟨⟨(hb.cell (p := ⟨rb, 0, none⟩) hr').trans e0, (hb.cell (p := ⟨rb, 1, none⟩) hr').trans e1, (hb.frozen (p := ⟨rb, 0, none⟩) hr').trans (by simpa using h3), (hb.frozen (p := ⟨rb, 1, none⟩) hr').trans (by simpa using h4)⟩, ?_, ?_⟩
  · have b0 : Below B w ((w.setCell ⟨rb, 0, none⟩ (.string ⟨s'.toArray⟩)).setCell ⟨rb, 1, none⟩ (.int .u8 (p' : Nat))) := ((Below.refl _ _).setCell (p := ⟨rb, 0, none⟩) hB _).setCell (p := ⟨rb, 1, none⟩) hB _
    obtain ⟨t, fr, hh⟩ := hsuf
    exact ⟨t, fr, by rw [hb.block 0 (by omega), b0.block 0 hB0]; exact hh⟩
  · exact ((hw.setCell (p := ⟨rb, 0, none⟩) hB _).setCell (p := ⟨rb, 1, none⟩) hB _).trans (hb.mono (by omega))

set_option maxHeartbeats 400000 in
theorem nvr_any (s : ByteArray) (w : World) : Calls Ybad.prog 5 #[.string s] w fun e w' => e = .returned (.agg #[.string s, .int .u8 8]) ∧ Below w.heap.size w w' := by
  go_enter Ybad.func5, Ybad.ntmps5
  go_wp2
  exact bodyPost_ret (v := .agg #[.string s, .int .u8 8]) (by simp [results, Ybad.results5, go_sem]) rfl ⟨rfl, (Below.refl _ _).alloc (Nat.le_refl _) _⟩

set_option maxRecDepth 100000 in
set_option maxHeartbeats 4000000 in
theorem trace_any (l : List UInt8) (w : World) (hl : l.length ≤ 1024) (hsuf : Hid (SufAt w)) :
    Calls Ybad.prog 3 #[.string ⟨l.toArray⟩] w fun e w' => e = .returned (.bool true) ∧ Below w.heap.size w w' := by
  have hd : decide ((1024 : Int) < (l.length : Int)) = false := decide_eq_false (by omega)
  go_enter Ybad.func3, Ybad.ntmps3
  go_wp2_with fail
  refine (nvr_any _ _).mono ?_
  rintro e w1 ⟨rfl, hb1⟩
  have hsuf1 : Hid (SufAt w1) := hsuf.out.below hb1 (Nat.le_refl _)
  go_wp2_with fail
  have s1 := hb1.size
  have hw0 : 0 < w.heap.size := by
    obtain ⟨t, fr, hh⟩ := hsuf.out
    obtain ⟨hh', _⟩ := Array.getElem?_eq_some_iff.1 hh
    exact hh'
  have hrd : RdAt (w1.alloc (Obj.cells #[Value.string { data := l.toArray }, Value.int IntKind.u8 8] 24)) w1.heap.size l 8 := ⟨by simp, by simp, by simp, by simp⟩
  have hsA : SufAt (w1.alloc (Obj.cells #[Value.string { data := l.toArray }, Value.int IntKind.u8 8] 24)) := hsuf1.out.alloc _
  have hbA : Below w.heap.size w (w1.alloc (Obj.cells #[Value.string { data := l.toArray }, Value.int IntKind.u8 8] 24)) := hb1.alloc s1 _
  generalize w1.alloc (Obj.cells #[Value.string { data := l.toArray }, Value.int IntKind.u8 8] 24) = wA at *
  generalize w1.heap.size = rb at *
  have HRd : Hid (RdAt wA rb l 8) := hrd
  have HS : Hid (SufAt wA) := hsA
  clear hrd hsA hsuf1 hb1
  go_loopw [4] (fun i wr => ∃ (j : Nat) (rest : List UInt8) (prev : Nat), i = .int .i64 j ∧ rest.length + j ≤ l.length ∧ Hid (prev ≤ 6 ∨ prev = 8) ∧ Hid (RdAt wr rb rest prev) ∧ Hid (SufAt wr) ∧ Below w.heap.size w wr) (fun i _ => l.length + 1 - (intOf i).toNat)
  case atStart => exact ⟨0, l, 8, rfl, by omega, .inr rfl, HRd, HS, hbA⟩
  case round =>
    clear HRd HS hbA
    obtain ⟨j, rest, prev, rfl, hj, hprev, hrd, hs, hb⟩ := hrel
    obtain ⟨r0, r1, f0, f1⟩ := hrd.out
    rcases rest with _ | ⟨c, t⟩
    · go_wp2_with fail
      refine (next_end rb (prev : Nat) wr r0 r1).mono ?_
      rintro e w2 ⟨rfl, hb2⟩
      obtain ⟨q0, q1, _, _⟩ := hrd.out.below hb2 (Nat.le_refl _)
      have hr2 : rb < w2.heap.size := World.block_lt_of_cell? w2 _ q0
      go_wp2_with fail
      have hA : Below w2.heap.size w2 (w2.alloc (Obj.cells #[Value.int IntKind.u8 7, Value.string { data := #[] }, Value.int IntKind.i64 0] 27)) := (Below.refl _ _).alloc (Nat.le_refl _) _
      have hbw : Below w.heap.size w (w2.alloc (Obj.cells #[Value.int IntKind.u8 7, Value.string { data := #[] }, Value.int IntKind.i64 0] 27)) := (hb.trans (hb2.mono hb.size)).alloc (by have := hb2.size; have := hb.size; omega) _
      have hrA := (hrd.out.below hb2 (Nat.le_refl _)).below hA (Nat.le_refl _)
      generalize w2.alloc (Obj.cells #[Value.int IntKind.u8 7, Value.string { data := #[] }, Value.int IntKind.i64 0] 27) = w3 at *
      refine (next_end rb (prev : Nat) w3 hrA.1 hrA.2.1).mono ?_
      rintro e w4 ⟨rfl, hb4⟩
      obtain ⟨v0, v1, _, _⟩ := hrA.below hb4 (Nat.le_refl _)
      have hr4 : rb < w4.heap.size := World.block_lt_of_cell? w4 _ v0
      clear q0 q1 r0 r1
      go_wp2
      go_ret
      exact ⟨rfl, (hbw.trans (hb4.mono hbw.size)).alloc (by have := hb4.size; have := hbw.size; omega) _⟩
    · simp only [List.length_cons] at hj
      go_wp2_with fail
      refine (next_any rb c t prev wr (by simp; omega) hprev.out hs r0 r1 f0 f1).mono ?_
      rintro e w2 ⟨rfl, hb2⟩
      obtain ⟨hrd2, hs2, hbb2⟩ := rd_step hrd.out hs.out s1 hw0 hb hb2
      have laws := nxt_laws c t prev
      generalize nxt c t prev = kr at *
      obtain ⟨⟨part, tx, rk⟩, rest'⟩ := kr
      obtain ⟨l1, l2, l3, l4⟩ := laws
      unfold Tok.val
      simp only at l1 l2 l3 l4 hrd2 hb2 ⊢
      have HL3 : Hid (rest' = (c :: t).drop (t.length + 1 - rest'.length)) := l3
      have HL4 : Hid (Rend prev ⟨part, tx, rk⟩ ((c :: t).take (t.length + 1 - rest'.length)) (c :: t) rest') := l4
      have HB2 : Hid (Below w.heap.size w w2) := hbb2
      have HS2 : Hid (SufAt w2) := hs2
      have HR2 : Hid (RdAt w2 rb rest' part) := hrd2
      clear l3 l4 hb2 hbb2 hs2 r0 r1 f0 f1 hb hs hrd
      obtain ⟨q0, q1, _, _⟩ := hrd2
      have hr2 : rb < w2.heap.size := World.block_lt_of_cell? w2 _ q0
      have h7 : ((part : Int) == 7) = false := by
        have : (part : Int) ≠ 7 := by omega
        simpa using this
      go_wp2_with fail
      obtain ⟨K, hK⟩ : ∃ K : Nat, K = t.length + 1 - rest'.length := ⟨_, rfl⟩
      have hKi : ((t.length : Int) + 1 - (rest'.length : Int)) = (K : Int) := by omega
      have hK1 : (K : Int) ≤ (t.length : Int) + 1 := by omega
      have hK0 : (0 : Int) ≤ (K : Int) := Int.natCast_nonneg _
      have hdrop : List.drop K (c :: t) = rest' := by rw [hK]; exact HL3.out.symm
      have HL5 : Hid (Rend prev ⟨part, tx, rk⟩ ((c :: t).take K) (c :: t) rest') := by rw [hK]; exact HL4.out
      rw [hKi]
      clear hK hKi HL4
      go_quiet (fail)
      go_wp2_with fail
      go_region_with (go_at_call 7; refine (render_any prev ⟨part, tx, rk⟩ ((c :: t).take K) (c :: t) rest' _ (by simp; omega) (by simp; omega) HL5.out).mono ?_; rintro e w5 ⟨rfl, hb5⟩)
      all_goals
        go_wp2
        have b5 : Below w2.heap.size w2 w5 := ((Below.refl _ _).alloc (Nat.le_refl _) _).trans (hb5.undrew.undrewN.mono (by simp))
        go_roundw
        case rel => exact ⟨j + 1, rest', part, by go_num, by omega, .inl l1, HR2.out.below b5 (Nat.le_refl _), HS2.out.below b5 (Nat.le_refl _), HB2.out.trans (b5.mono HB2.out.size)⟩
        case measure => simp [intOf]; omega

set_option maxHeartbeats 400000 in
theorem trace_long (s : ByteArray) (w : World) (hl : 1024 < s.size) (_hm : s.size ≤ 9223372036854775807) :
    Calls Ybad.prog 3 #[.string s] w fun e w' => e = .returned (.bool true) ∧ Below w.heap.size w w' := by
  go_enter Ybad.func3, Ybad.ntmps3
  go_wp2
  go_ret
  exact ⟨rfl, Below.refl _ _⟩

end Go.Proofs.YbulkrjeDoor
