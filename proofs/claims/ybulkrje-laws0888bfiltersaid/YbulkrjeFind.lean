/-
  Index.Find, walked: the records that have the name, in their order.
-/
import Derived.Test.YbulkrjeValue
namespace Go.Proofs.Ybulkrje
open Go.RowKit

/-- A list of records in memory: of each its slice (address, length, capacity) and what it holds. -/
structure Rcs where
  P : Nat → Option Addr
  L : Nat → Nat
  C : Nat → Nat
  R : Nat → Rcd

/-- Record i's slice value. -/
def Rcs.val (z : Rcs) (i : Nat) : Value := .slice (z.P i) (z.L i) (z.C i)

/-- N records lie in memory from block g's head on. -/
def RecsAt (w : World) (g N : Nat) (z : Rcs) : Prop :=
  ∀ i, i < N → w.cell? ⟨g, i, none⟩ = some (.slice (z.P i) (z.L i) (z.C i)) ∧ z.L i ≤ 1024 ∧ FieldsAt w (z.P i) (z.L i) (z.R i)

theorem RecsAt.below {B : Nat} {w w' : World} {g N : Nat} {z : Rcs} (h : RecsAt w g N z) (hb : Below B w w') (hB : w.heap.size ≤ B) : RecsAt w' g N z := by
  intro i hi
  obtain ⟨h1, h2, h3⟩ := h i hi
  exact ⟨by rw [hb.cell (p := ⟨g, i, none⟩) (Nat.lt_of_lt_of_le (World.block_lt_of_cell? w _ h1) hB)]; exact h1, h2, h3.below hb hB⟩

/-- Of the first k records those that have the name. -/
def Rcs.hits (z : Rcs) (name : ByteArray) (k : Nat) : List Nat := (List.range k).filter fun i => (z.R i).hit name

theorem hits_yes {z : Rcs} {name : ByteArray} {k : Nat} (h : (z.R k).hit name = true) : z.hits name (k + 1) = z.hits name k ++ [k] := by
  simp [Rcs.hits, List.range_succ, h]
theorem hits_no {z : Rcs} {name : ByteArray} {k : Nat} (h : (z.R k).hit name = false) : z.hits name (k + 1) = z.hits name k := by
  simp [Rcs.hits, List.range_succ, h]
theorem hits_le (z : Rcs) (name : ByteArray) (k : Nat) : (z.hits name k).length ≤ k := by
  have := List.length_filter_le (fun i => (z.R i).hit name) (List.range k)
  simpa [Rcs.hits] using this
theorem hits_mono (z : Rcs) (name : ByteArray) (k : Nat) : ∀ d, (z.hits name k).length ≤ (z.hits name (k + d)).length
  | 0 => Nat.le_refl _
  | d + 1 => by
    have := hits_mono z name k d
    show _ ≤ (z.hits name (k + d + 1)).length
    cases h : (z.R (k + d)).hit name with
    | true => rw [hits_yes h]; simp; omega
    | false => rw [hits_no h]; exact this
theorem hits_lt {z : Rcs} {name : ByteArray} {k N : Nat} (h : (z.R k).hit name = true) (hk : k < N) : (z.hits name k).length + 1 ≤ (z.hits name N).length := by
  have := hits_mono z name (k + 1) (N - (k + 1))
  rw [show k + 1 + (N - (k + 1)) = N from by omega, hits_yes h] at this
  simpa using this

theorem own_below {w w' : World} {B base size n : Nat} {e : TypeId} {v : Value} {xs : List Value} (h : w.ownsRow base e size v n xs) (hb : Below B w w') (hB : w.heap.size ≤ B) : w'.ownsRow base e size v n xs :=
  h.kept (row := none) ⟨hb.os, hb.tape, hb.output, hb.size, fun k hk _ => hb.block k (by omega)⟩ (by cases hv : v.ownBlock <;> simp)

theorem Yba.info26 : (Yba.prog.info? 26).map (fun i => (i.zero, i.size, i.bytes)) = some (some (.slice none 0 0), 1, 24) := by kernel_rfl

set_option maxHeartbeats 1000000 in
theorem find_any (ib g N cap : Nat) (z : Rcs) (name : ByteArray) (w : World) (hN : N ≤ 1024) (hib : w.cell? ⟨ib, 2, none⟩ = some (.slice (some ⟨g, 0, none⟩) N cap)) (hz : RecsAt w g N z) :
    Calls Yba.prog 7 #[.pointer (some ⟨ib, 0, none⟩), .string name] w fun e w' =>
      ((z.hits name N = [] ∧ e = .returned (.slice none 0 0)) ∨
        ∃ gb cp, z.hits name N ≠ [] ∧ e = .returned (.slice (some ⟨gb, 0, none⟩) (z.hits name N).length cp) ∧ w'.ownsRow w.heap.size 26 1 (.slice (some ⟨gb, 0, none⟩) (z.hits name N).length cp) (z.hits name N).length ((z.hits name N).map z.val)) ∧ Below w.heap.size w w' := by
  obtain ⟨i0, hi, hz0, hz1, hz2⟩ := info_parts Yba.info26
  have HZ : Hid (RecsAt w g N z) := hz
  clear hz
  have hlt := World.block_lt_of_cell? w _ hib
  go_enter Yba.func7, Yba.ntmps7
  go_wp2_with fail
  have hbA : Below w.heap.size w (w.alloc (Obj.cells #[Value.string name] 9)) := (Below.refl _ _).alloc (Nat.le_refl _) _
  have cA : (w.alloc (Obj.cells #[Value.string name] 9)).cell? ⟨w.heap.size, 0, none⟩ = some (.string name) := by simp
  have iA : (w.alloc (Obj.cells #[Value.string name] 9)).cell? ⟨ib, 2, none⟩ = some (.slice (some ⟨g, 0, none⟩) N cap) := (hbA.cell (p := ⟨ib, 2, none⟩) hlt).trans hib
  have sA : w.heap.size < (w.alloc (Obj.cells #[Value.string name] 9)).heap.size := by simp
  have zA : RecsAt (w.alloc (Obj.cells #[Value.string name] 9)) g N z := HZ.out.below hbA (Nat.le_refl _)
  generalize w.alloc (Obj.cells #[Value.string name] 9) = wA at *
  have HZA : Hid (RecsAt wA g N z) := zA
  clear zA HZ hib
  go_loopw [6, 18] (fun c i wr => ∃ k : Nat, k ≤ N ∧ i = .int .i64 k ∧ c = .int .i64 ((z.hits name k).length : Nat) ∧ Below wA.heap.size wA wr) (fun _ i _ => N - (intOf i).toNat)
  case atStart => exact ⟨0, Nat.zero_le _, rfl, rfl, Below.refl _ _⟩
  case round =>
    obtain ⟨k, hk, rfl, rfl, hb⟩ := hrel
    have hle := hits_le z name k
    by_cases hlk : k < N
    · obtain ⟨g1, g2, g3⟩ := (HZA.out.below hb (Nat.le_refl _)) k hlk
      have cr : wr.cell? ⟨w.heap.size, 0, none⟩ = some (.string name) := (hb.cell (p := ⟨w.heap.size, 0, none⟩) sA).trans cA
      have HG : Hid (FieldsAt wr (z.P k) (z.L k) (z.R k)) := g3
      clear g3
      cases hh : (z.R k).hit name with
      | true =>
        have hy : Hid (z.hits name (k + 1) = z.hits name k ++ [k]) := hits_yes hh
        go_wp2_with (go_at_call 9; refine (named_any _ _ _ _ name (z.R k) _ g2 HG.out cr).mono ?_; rintro e w' ⟨rfl, hb'⟩)
        go_roundw
        case rel => exact ⟨k + 1, by omega, by go_num, by rw [hy.out]; simp, hb.trans (hb'.mono hb.size)⟩
        case measure => simp [intOf]; omega
      | false =>
        have hy : Hid (z.hits name (k + 1) = z.hits name k) := hits_no hh
        go_wp2_with (go_at_call 9; refine (named_any _ _ _ _ name (z.R k) _ g2 HG.out cr).mono ?_; rintro e w' ⟨rfl, hb'⟩)
        go_roundw
        case rel => exact ⟨k + 1, by omega, by go_num, by rw [hy.out], hb.trans (hb'.mono hb.size)⟩
        case measure => simp [intOf]; omega
    · obtain rfl : k = N := by omega
      rename World => wq
      by_cases he : z.hits name k = []
      · have h0 : (((z.hits name k).length : Int) == 0) = true := by simp [he]
        have HE : Hid (z.hits name k = []) := he
        clear he
        go_wp2
        go_ret
        exact ⟨.inl ⟨HE.out, rfl⟩, hbA.trans (hb.mono hbA.size)⟩
      · have h0 : (((z.hits name k).length : Int) == 0) = false := by simp [he]
        have HE : Hid (z.hits name k ≠ []) := he
        clear he
        have ir : wq.cell? ⟨ib, 2, none⟩ = some (.slice (some ⟨g, 0, none⟩) k cap) := (hb.cell (p := ⟨ib, 2, none⟩) (World.block_lt_of_cell? wA _ iA)).trans iA
        have cr : wq.cell? ⟨w.heap.size, 0, none⟩ = some (.string name) := (hb.cell (p := ⟨w.heap.size, 0, none⟩) sA).trans cA
        have hbr : Below w.heap.size w wq := hbA.trans (hb.mono hbA.size)
        have HZR : Hid (RecsAt wq g k z) := HZA.out.below hb (Nat.le_refl _)
        have sr : w.heap.size < wq.heap.size := Nat.lt_of_lt_of_le sA hb.size
        clear HZA iA cA hbA hb sA
        generalize hM : (z.hits name k).length = M at *
        have HM : Hid ((z.hits name k).length = M) := hM
        clear hM
        go_wp2_with (at_make; refine wpList_make_own _ rfl _ _ 24 rfl w.heap.size 26 i0 (.slice none 0 0) 1 Yba.underlying24 hi hz0 hz1 _ _ _ M rfl rfl rfl (by rw [hz2]; omega) (by unfold maxLen; omega) (by omega) ?_)
        intro w1 own1 gr1
        have hb1 : Below wq.heap.size wq w1 := (Below.refl _ _).grown gr1 (Nat.le_refl _) (fun k h => by cases h)
        have i1 : w1.cell? ⟨ib, 2, none⟩ = some (.slice (some ⟨g, 0, none⟩) k cap) := (hb1.cell (p := ⟨ib, 2, none⟩) (World.block_lt_of_cell? wq _ ir)).trans ir
        clear gr1
        go_wp2_with fail
        go_loopw [9, 37] (fun v i w2 => ∃ j : Nat, j ≤ k ∧ i = .int .i64 j ∧ v = .slice (some ⟨wq.heap.size, 0, none⟩) (z.hits name j).length M ∧
          w2.ownsRow w.heap.size 26 1 (.slice (some ⟨wq.heap.size, 0, none⟩) (z.hits name j).length M) (z.hits name j).length ((z.hits name j).map z.val) ∧ Below wq.heap.size wq w2) (fun _ i _ => k - (intOf i).toNat)
        case atStart => exact ⟨0, Nat.zero_le _, rfl, rfl, own1, hb1⟩
        case round =>
          obtain ⟨j, hj, rfl, rfl, own2, hb2⟩ := hrel
          have hle := hits_le z name j
          by_cases hlj : j < k
          · obtain ⟨g1, g2, g3⟩ := (HZR.out.below hb2 (Nat.le_refl _)) j hlj
            have c2 : wr.cell? ⟨w.heap.size, 0, none⟩ = some (.string name) := (hb2.cell (p := ⟨w.heap.size, 0, none⟩) sr).trans cr
            have HG : Hid (FieldsAt wr (z.P j) (z.L j) (z.R j)) := g3
            have s2 := hb2.size
            clear g3
            cases hh : (z.R j).hit name with
            | true =>
              have hy : Hid (z.hits name (j + 1) = z.hits name j ++ [j]) := hits_yes hh
              have hl := hits_lt hh hlj
              rw [HM.out] at hl
              go_wp2_with (first
                | (go_at_call 9; refine (named_any _ _ _ _ name (z.R j) _ g2 HG.out c2).mono ?_; rintro e w3 ⟨rfl, hb3⟩)
                | (at_builtin; refine wpList_append_fits _ rfl (.tmp 44) (.tmp 46) 24 rfl w.heap.size 26 i0 1 Yba.underlying24 hi hz1 wq.heap.size (z.hits name j).length M _ rfl ((own_below own2 hb3 (Nat.le_refl _)).alloc _) ⟨w3.heap.size, 0, none⟩ 1 1 [z.val j] rfl rfl ?c1 ?c2 (by omega) ?_))
              case c1 =>
                intro q u hq
                match q, hq with
                | 0, hq => simp at hq; subst hq; simp [Addr.add, Rcs.val]
              case c2 => intro u hu; simp at hu; subst hu; rfl
              intro w4 own4 gr4
              have s3 := hb3.size
              have hb4 : Below wq.heap.size wq w4 := ((hb2.trans (hb3.mono s2)).alloc (by omega) _).grown gr4 (by simp; omega) (fun k h => by cases h; exact Nat.le_refl _)
              clear own2 gr4
              go_wp2
              go_roundw
              case rel => exact ⟨j + 1, by omega, by go_num, by rw [hy.out]; simp, by rw [hy.out]; simpa using own4, hb4⟩
              case measure => simp [intOf]; omega
            | false =>
              have hy : Hid (z.hits name (j + 1) = z.hits name j) := hits_no hh
              go_wp2_with (go_at_call 9; refine (named_any _ _ _ _ name (z.R j) _ g2 HG.out c2).mono ?_; rintro e w3 ⟨rfl, hb3⟩)
              go_roundw
              case rel => exact ⟨j + 1, by omega, by go_num, by rw [hy.out], by rw [hy.out]; exact own_below own2 hb3 (Nat.le_refl _), hb2.trans (hb3.mono s2)⟩
              case measure => simp [intOf]; omega
          · obtain rfl : j = k := by omega
            go_wp2
            go_ret
            exact ⟨.inr ⟨wq.heap.size, M, HE.out, rfl, own2⟩, hbr.trans (hb2.mono hbr.size)⟩

end Go.Proofs.Ybulkrje
