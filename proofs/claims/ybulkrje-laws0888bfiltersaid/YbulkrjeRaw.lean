/-
  LawS0888BRawFilter, walked.
-/
import Derived.Test.YbulkrjeBuilt
import Derived.Deep.RegionHeld3
import Derived.Deep.AppendLies
import Derived.Deep.DrawnRows
import Derived.StillTactics
namespace Go.Proofs.Ybulkrje
open Go.RowKit

/-- The letter that the law makes of a byte. -/
def letterOf (x : Int) : Int := if x % 4 = 0 then 80 else if x % 4 = 1 then 86 else if x % 4 = 2 then 65 else 112

set_option maxHeartbeats 400000 in
theorem letter_any (x : Int) (h0 : 0 ≤ x) (h1 : x ≤ 255) (w : World) :
    Calls Yba.prog 5 #[.int .u8 x] w fun e w' => e = .returned (.int .u8 (letterOf x)) ∧ w' = w := by
  rcases (show x % 4 = 0 ∨ x % 4 = 1 ∨ x % 4 = 2 ∨ x % 4 = 3 from by omega) with h | h | h | h
  · have HL : Hid (letterOf x = 80) := by show letterOf x = 80; simp [letterOf, h]
    go_enter Yba.func5, Yba.ntmps5
    go_wp2
    go_ret
    exact ⟨by rw [HL.out]; rfl, rfl⟩
  · have HL : Hid (letterOf x = 86) := by show letterOf x = 86; simp [letterOf, h]
    go_enter Yba.func5, Yba.ntmps5
    go_wp2
    go_ret
    exact ⟨by rw [HL.out]; rfl, rfl⟩
  · have HL : Hid (letterOf x = 65) := by show letterOf x = 65; simp [letterOf, h]
    go_enter Yba.func5, Yba.ntmps5
    go_wp2
    go_ret
    exact ⟨by rw [HL.out]; rfl, rfl⟩
  · have HL : Hid (letterOf x = 112) := by show letterOf x = 112; simp [letterOf, h]
    go_enter Yba.func5, Yba.ntmps5
    go_wp2
    go_ret
    exact ⟨by rw [HL.out]; rfl, rfl⟩

/-- The records that come in: of each its slice and its fields (a letter and a value each). -/
def RawAt (w : World) (b o N : Nat) (z : Rcs) : Prop :=
  ∀ i, i < N → w.cell? ⟨b, o + i, none⟩ = some (.slice (z.P i) (z.L i) (z.C i)) ∧ z.L i ≤ 9223372036854775807 ∧ FieldsAt w (z.P i) (z.L i) (z.R i) ∧ ∀ j, j < z.L i → 0 ≤ (z.R i).f j ∧ (z.R i).f j ≤ 255

theorem Yba.info32 : (Yba.prog.info? 32).map (fun i => (i.zero, i.size, i.bytes)) = some (some (.agg #[.int .u8 0, .string ByteArray.empty]), 2, 24) := by kernel_rfl

/-- A record as the law builds it. -/
def bldRaw (r : Rcd) : Rcd := ⟨r.n, fun q => letterOf (r.f q), r.s⟩

set_option maxHeartbeats 2000000 in
theorem raw_some (b o N cap : Nat) (z : Rcs) (name : ByteArray) (w : World) (hN0 : 0 < N) (hN : N ≤ 1024) (hz : RawAt w b o N z) :
    Calls Yba.prog 4 #[.slice (some ⟨b, o, none⟩) N cap, .string name] w fun e w' => e = .returned (.bool true) ∧ Below w.heap.size w w' := by
  obtain ⟨i0, hi, hz0, hz1, hz2⟩ := info_parts Yba.info26
  obtain ⟨i1, hi1, hy0, hy1, hy2⟩ := info_parts Yba.info32
  have HZ : Hid (RawAt w b o N z) := hz
  clear hz
  have hd : decide ((1024 : Int) < (N : Int)) = false := decide_eq_false (by omega)
  go_enter Yba.func4, Yba.ntmps4
  go_wp2_with fail
  go_loop [5] (fun i => ∃ k : Nat, k ≤ N ∧ i = .int .i64 k ∧ Hid (∀ q, q < k → z.L q ≤ 1024)) (fun i => N - (intOf i).toNat)
  case atStart => exact ⟨0, Nat.zero_le _, rfl, fun q hq => by omega⟩
  case round =>
    obtain ⟨k, hk, rfl, hlen⟩ := hrel
    by_cases hlk : k < N
    · obtain ⟨g1, g2, _, _⟩ := HZ.out k hlk
      by_cases h10 : z.L k ≤ 1024
      · go_wp2
        go_round
        case rel => exact ⟨k + 1, by omega, by go_num, fun q hq => by
          by_cases hq' : q < k
          · exact hlen.out q hq'
          · obtain rfl : q = k := by omega
            exact h10⟩
        case measure => simp [intOf]; omega
      · go_wp2
        go_ret
        exact ⟨rfl, Below.refl _ _⟩
    · obtain rfl : k = N := by omega
      go_wp2_with (at_make; refine wpList_make_own _ rfl _ _ 24 rfl w.heap.size 26 i0 (.slice none 0 0) 1 Yba.underlying24 hi hz0 hz1 _ _ _ k rfl rfl rfl (by rw [hz2]; omega) (by unfold maxLen; omega) (Nat.le_refl _) ?_)
      intro w1 own1 gr1
      have hb1 : Below w.heap.size w w1 := (Below.refl _ _).grown gr1 (Nat.le_refl _) (fun k h => by cases h)
      clear gr1
      have hBt : Hid (Built w w1 w.heap.size k 0 (fun _ => none) (fun _ => 0) z.L (fun i => bldRaw (z.R i))) := ⟨own1, fun i hi => by omega, hb1⟩
      clear own1 hb1
      go_wp2_with fail
      go_loopw [6, 7] (fun v i wr => ∃ (m : Nat) (P : Nat → Option Addr) (C : Nat → Nat), m ≤ k ∧ i = .int .i64 m ∧ v = .slice (some ⟨w.heap.size, 0, none⟩) m k ∧
        Hid (Built w wr w.heap.size k m P C z.L (fun i => bldRaw (z.R i)))) (fun _ i _ => k - (intOf i).toNat)
      case atStart => exact ⟨0, _, _, Nat.zero_le _, rfl, rfl, hBt⟩
      case round =>
        clear hBt
        obtain ⟨m, P, C, hm, rfl, rfl, hB⟩ := hrel
        rename World => wq
        by_cases hlm : m < k
        · have hbq := hB.out.below
          have sq := hbq.size
          have hGq := (hB.out.own.lt _ rfl).2
          have hl10 := hlen.out m hlm
          obtain ⟨g1, _, g3, g4⟩ := HZ.out m hlm
          have hrn : Hid ((z.R m).n = z.L m) := g3.1
          have bb := World.block_lt_of_cell? w _ g1
          have q1 : wq.cell? ⟨b, o + m, none⟩ = some (.slice (z.P m) (z.L m) (z.C m)) := (hbq.cell (p := ⟨b, o + m, none⟩) bb).trans g1
          have q3 : Hid (FieldsAt wq (z.P m) (z.L m) (z.R m)) := g3.below hbq (Nat.le_refl _)
          have G4 : Hid (∀ j, j < z.L m → 0 ≤ (z.R m).f j ∧ (z.R m).f j ≤ 255) := g4
          have hpb : Hid (0 < z.L m → ∀ ad, z.P m = some ad → ad.block < w.heap.size) := fun h0 ad had => by
            obtain ⟨b', o', hp, hc⟩ := g3.2 h0
            rw [had] at hp
            cases hp
            exact World.block_lt_of_cell? w _ (hc 0 h0).1
          clear g1 g3 g4
          obtain ⟨l, hl⟩ : ∃ l, z.L m = l := ⟨_, rfl⟩
          have HLm : Hid (z.L m = l) := hl
          rw [hl] at q1 hl10 q3 G4 hrn hpb
          clear hl
          generalize z.C m = c at *
          generalize z.P m = p at *
          go_wp2_with (at_make; refine wpList_make_own _ rfl _ _ 26 rfl wq.heap.size 32 i1 _ 2 Yba.underlying26 hi1 hy0 hy1 _ _ _ l rfl rfl rfl (by rw [hy2]; omega) (by unfold maxLen; omega) (Nat.le_refl _) ?_)
          intro w2 own2 gr2
          have hb2 : Below wq.heap.size wq w2 := (Below.refl _ _).grown gr2 (Nat.le_refl _) (fun k h => by cases h)
          clear gr2
          go_wp2_with fail
          go_loopw [8, 9] (fun v i wr => ∃ (j : Nat) (a : Option Addr) (cp : Nat), j ≤ l ∧ i = .int .i64 j ∧ v = .slice a j cp ∧
            wr.ownsRow wq.heap.size 32 2 (.slice a j cp) j (rcells (fun q => .int .u8 (letterOf ((z.R m).f q))) (fun q => .string ((z.R m).s q)) j) ∧ Below wq.heap.size wq wr) (fun _ i _ => l - (intOf i).toNat)
          case atStart => exact ⟨0, _, _, Nat.zero_le _, rfl, rfl, own2, hb2⟩
          case round =>
            clear own2 hb2
            obtain ⟨j, a, cp, hj, rfl, rfl, own3, hb3⟩ := hrel
            have s3 := hb3.size
            have r1 : wr.cell? ⟨b, o + m, none⟩ = some (.slice p l c) := (hb3.cell (p := ⟨b, o + m, none⟩) (by show b < _; omega)).trans q1
            by_cases hlj : j < l
            · have hl0 : 0 < l := by omega
              obtain ⟨ib, io, hp, hc⟩ := q3.out.2 hl0
              have bi : ib < w.heap.size := hpb.out hl0 _ hp
              rw [hp] at r1
              obtain ⟨c1, c2⟩ := hc j hlj
              obtain ⟨x0, x1⟩ := G4.out j hlj
              have r2 : wr.cell? ⟨ib, io + j * 2, none⟩ = some (.int .u8 ((z.R m).f j)) := (hb3.cell (p := ⟨ib, io + j * 2, none⟩) (by show ib < _; omega)).trans c1
              have r3 : wr.cell? ⟨ib, io + j * 2 + 1, none⟩ = some (.string ((z.R m).s j)) := (hb3.cell (p := ⟨ib, io + j * 2 + 1, none⟩) (by show ib < _; omega)).trans c2
              clear c1 c2 q1 hc hp hpb q3
              have hlo := own3.lt
              have ag : (Value.slice a j cp).ownBlock ≠ some b := fun h => by have := (hlo b h).1; omega
              have ai : (Value.slice a j cp).ownBlock ≠ some ib := fun h => by have := (hlo ib h).1; omega
              have hmk0 : (0 : Int) ≤ (m : Int) := Int.natCast_nonneg _
              have hmk1 : (m : Int) < (k : Int) := by omega
              have hjl0 : (0 : Int) ≤ (j : Int) := Int.natCast_nonneg _
              have hjl1 : (j : Int) < (l : Int) := by omega
              have HLO : Hid (∀ q, (Value.slice a j cp).ownBlock = some q → wq.heap.size ≤ q ∧ q < wr.heap.size) := hlo
              clear hlo
              go_wp2_with fail
              go_region_held3 (fun w' => w'.cell? ⟨b, o + m, none⟩ = some (.slice (some ⟨ib, io, none⟩) l c) ∧ w'.cell? ⟨ib, io + j * 2, none⟩ = some (.int .u8 ((z.R m).f j)) ∧ w'.cell? ⟨ib, io + j * 2 + 1, none⟩ = some (.string ((z.R m).s j)))
                (first
                  | go_keep
                  | (go_split_ands
                     refine ⟨?_, ?_, ?_⟩
                     · (rw [hgrow.cell_far _ (by simp; omega) (Ne.symm ag)]; assumption)
                     · (rw [hgrow.cell_far _ (by simp; omega) (Ne.symm ai)]; assumption)
                     · (rw [hgrow.cell_far _ (by simp; omega) (Ne.symm ai)]; assumption)))
                (first
                  | (go_at_call 5; refine (letter_any _ x0 x1 _).mono ?_; rintro e w' ⟨rfl, rfl⟩)
                  | (refine step_append_lies _ (by rfl) _ _ _ (by rfl) wq.heap.size 32 i1 _ 2 24 Yba.underlying26 hi1 hy0 hy1 hy2 rfl (by omega) (.slice a j cp) j _ (by rfl) ((own3.alloc _).drew) ⟨wr.heap.size, 0, none⟩ 1 1 [.int .u8 (letterOf ((z.R m).f j)), .string ((z.R m).s j)] (by rfl) (by rfl) (World.news_of_block (cs := #[.int .u8 (letterOf ((z.R m).f j)), .string ((z.R m).s j)]) (t := 32) (fr := (0, 0)) (heap_alloc_new wr _)) (by simp [Value.oneCell']) (by omega) (by unfold maxLen; omega) (by omega) (by simp; omega) (wr.heap.size + 1) (by simp) ?_; intro gg cap' w4 own4 hgrow hat hlt))
              have hb4 : Below wq.heap.size wq w4 := ((hb3.alloc s3 _).drew).grown hgrow (by simp; omega) (fun q hq => (HLO.out q hq).1)
              clear hgrow hat hlt own3 HLO r1 r2 r3 ag ai
              go_wp2
              go_roundw
              case rel => exact ⟨j + 1, some ⟨gg, 0, none⟩, cap', by omega, by go_num, rfl, own4, hb4⟩
              case measure => simp [intOf]; omega
            · obtain rfl : j = l := by omega
              have ownG := own_below hB.out.own hb3 (Nat.le_refl _)
              go_wp2_with (at_builtin; refine wpList_append_fits _ rfl (.tmp 72) (.tmp 74) 24 rfl w.heap.size 26 i0 1 Yba.underlying24 hi hz1 w.heap.size m k _ rfl (ownG.alloc _) ⟨wr.heap.size, 0, none⟩ 1 1 [.slice a j cp] rfl rfl ?e1 ?e2 (by omega) ?_)
              case e1 =>
                intro q u hq
                match q, hq with
                | 0, hq => simp at hq; subst hq; simp [Addr.add]
              case e2 => intro u hu; simp at hu; subst hu; rfl
              intro w5 own5 gr5
              have hBn : Hid (Built w w5 w.heap.size k (m + 1) (upd P m a) (upd C m cp) z.L (fun i => bldRaw (z.R i))) :=
                Built.step hB.out (by rw [HLm.out]; exact hl10) (by rw [HLm.out]; exact hrn.out) hb3 (by rw [HLm.out]; exact own3) (by rw [HLm.out]; exact own5) gr5
              clear own5 gr5 own3 ownG
              go_wp2
              go_roundw
              case rel => exact ⟨m + 1, _, _, by omega, by go_num, by simp, hBn⟩
              case measure => simp [intOf]; omega
        · obtain rfl : m = k := by omega
          have hbq := hB.out.below
          have sq := hbq.size
          have HR : Hid (RecsAt wq w.heap.size m ⟨P, z.L, C, fun i => bldRaw (z.R i)⟩) := hB.out.recsAt
          clear hB HZ hlen
          go_wp2_with fail
          refine (find_any wq.heap.size w.heap.size m m _ name _ hN (by simp) (HR.out.below ((Below.refl wq.heap.size _).alloc (Nat.le_refl _) _) (Nat.le_refl _))).mono ?_
          rintro e w6 ⟨h6, hb6⟩
          obtain ⟨got, rfl, ⟨ga, gn, gc, rfl⟩, hgot⟩ := got_of_find h6
          clear h6
          have hb6' : Below wq.heap.size wq w6 := ((Below.refl _ _).alloc (Nat.le_refl _) _).trans (hb6.mono (by simp))
          have HG : Hid (GotAt w6 ⟨P, z.L, C, fun i => bldRaw (z.R i)⟩ name m (.slice ga gn gc)) := hgot
          clear hgot hb6
          go_wp2_with fail
          refine (check_any w.heap.size m m _ name _ w6 hN (HR.out.below hb6' (Nat.le_refl _)) HG.out).mono ?_
          rintro e w7 ⟨rfl, hb7⟩
          go_wp2
          go_ret
          exact ⟨rfl, (hbq.trans (hb6'.mono sq)).trans (hb7.mono (by have := hb6'.size; omega))⟩

end Go.Proofs.Ybulkrje
