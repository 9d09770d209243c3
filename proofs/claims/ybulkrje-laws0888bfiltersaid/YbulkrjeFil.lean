/-
  LawS0888BFilter, walked.
-/
import Derived.Test.YbulkrjeRaw
namespace Go.Proofs.Ybulkrje
open Go.RowKit

/-- The value that the law makes of a byte. -/
def valueOf (x : Int) : ByteArray := if x % 4 = 0 then ⟨#[]⟩ else if x % 4 = 1 then ⟨#[97]⟩ else if x % 4 = 2 then ⟨#[98]⟩ else ⟨#[97, 98]⟩

set_option maxHeartbeats 400000 in
theorem val_any (x : Int) (h0 : 0 ≤ x) (h1 : x ≤ 255) (w : World) :
    Calls Yba.prog 6 #[.int .u8 x] w fun e w' => e = .returned (.string (valueOf x)) ∧ w' = w := by
  rcases (show x % 4 = 0 ∨ x % 4 = 1 ∨ x % 4 = 2 ∨ x % 4 = 3 from by omega) with h | h | h | h
  · have HL : Hid (valueOf x = ⟨#[]⟩) := by show valueOf x = ⟨#[]⟩; simp [valueOf, h]
    go_enter Yba.func6, Yba.ntmps6
    go_wp2
    go_ret
    exact ⟨by rw [HL.out]; rfl, rfl⟩
  · have HL : Hid (valueOf x = ⟨#[97]⟩) := by show valueOf x = ⟨#[97]⟩; simp [valueOf, h]
    go_enter Yba.func6, Yba.ntmps6
    go_wp2
    go_ret
    exact ⟨by rw [HL.out]; rfl, rfl⟩
  · have HL : Hid (valueOf x = ⟨#[98]⟩) := by show valueOf x = ⟨#[98]⟩; simp [valueOf, h]
    go_enter Yba.func6, Yba.ntmps6
    go_wp2
    go_ret
    exact ⟨by rw [HL.out]; rfl, rfl⟩
  · have HL : Hid (valueOf x = ⟨#[97, 98]⟩) := by show valueOf x = ⟨#[97, 98]⟩; simp [valueOf, h]
    go_enter Yba.func6, Yba.ntmps6
    go_wp2
    go_ret
    exact ⟨by rw [HL.out]; rfl, rfl⟩

/-- The records that come in: of each its slice and its fields (two bytes each). -/
structure Prs where
  P : Nat → Option Addr
  L : Nat → Nat
  C : Nat → Nat
  f : Nat → Nat → Int
  g : Nat → Nat → Int

/-- The slice of pairs (p, n) lies in memory as the bytes f, g. -/
def PairsAt (w : World) (p : Option Addr) (n : Nat) (f g : Nat → Int) : Prop :=
  0 < n → ∃ b o, p = some ⟨b, o, none⟩ ∧ ∀ i, i < n → w.cell? ⟨b, o + i * 2, none⟩ = some (.int .u8 (f i)) ∧ w.cell? ⟨b, o + i * 2 + 1, none⟩ = some (.int .u8 (g i))

theorem PairsAt.below {B : Nat} {w w' : World} {p : Option Addr} {n : Nat} {f g : Nat → Int} (h : PairsAt w p n f g) (hb : Below B w w') (hB : w.heap.size ≤ B) : PairsAt w' p n f g := by
  intro hn
  obtain ⟨b, o, hp, hc⟩ := h hn
  refine ⟨b, o, hp, fun i hi => ?_⟩
  obtain ⟨h1, h2⟩ := hc i hi
  exact ⟨by rw [hb.cell (p := ⟨b, o + i * 2, none⟩) (Nat.lt_of_lt_of_le (World.block_lt_of_cell? w _ h1) hB)]; exact h1,
    by rw [hb.cell (p := ⟨b, o + i * 2 + 1, none⟩) (Nat.lt_of_lt_of_le (World.block_lt_of_cell? w _ h2) hB)]; exact h2⟩

def PrsAt (w : World) (b o N : Nat) (z : Prs) : Prop :=
  ∀ i, i < N → w.cell? ⟨b, o + i, none⟩ = some (.slice (z.P i) (z.L i) (z.C i)) ∧ z.L i ≤ 9223372036854775807 ∧ PairsAt w (z.P i) (z.L i) (z.f i) (z.g i) ∧ ∀ j, j < z.L i → (0 ≤ z.f i j ∧ z.f i j ≤ 255) ∧ (0 ≤ z.g i j ∧ z.g i j ≤ 255)

theorem PrsAt.below {B : Nat} {w w' : World} {b o N : Nat} {z : Prs} (h : PrsAt w b o N z) (hb : Below B w w') (hB : w.heap.size ≤ B) : PrsAt w' b o N z := by
  intro i hi
  obtain ⟨h1, h2, h3, h4⟩ := h i hi
  exact ⟨by rw [hb.cell (p := ⟨b, o + i, none⟩) (Nat.lt_of_lt_of_le (World.block_lt_of_cell? w _ h1) hB)]; exact h1, h2, h3.below hb hB, h4⟩

/-- Record i as the law builds it. -/
def Prs.bld (z : Prs) (i : Nat) : Rcd := ⟨z.L i, fun q => letterOf (z.f i q), fun q => valueOf (z.g i q)⟩

set_option maxRecDepth 100000 in
set_option maxHeartbeats 4000000 in
theorem fil_some (b o N cap : Nat) (z : Prs) (sel : Int) (w : World) (hs0 : 0 ≤ sel) (hs1 : sel ≤ 255) (hN0 : 0 < N) (hN : N ≤ 1024) (hz : PrsAt w b o N z) :
    Calls Yba.prog 3 #[.slice (some ⟨b, o, none⟩) N cap, .int .u8 sel] w fun e w' => e = .returned (.bool true) ∧ Below w.heap.size w w' := by
  obtain ⟨i0, hi, hz0, hz1, hz2⟩ := info_parts Yba.info26
  obtain ⟨i1, hi1, hy0, hy1, hy2⟩ := info_parts Yba.info32
  have HZ : Hid (PrsAt w b o N z) := hz
  clear hz
  have hd : decide ((1024 : Int) < (N : Int)) = false := decide_eq_false (by omega)
  go_enter Yba.func3, Yba.ntmps3
  go_wp2_with fail
  go_loop [5] (fun i => ∃ k : Nat, k ≤ N ∧ i = .int .i64 k ∧ Hid (∀ q, q < k → z.L q ≤ 1024)) (fun i => N - (intOf i).toNat)
  case atStart => exact ⟨0, Nat.zero_le _, rfl, fun q hq => by omega⟩
  case round =>
    obtain ⟨k, hk, rfl, hlen⟩ := hrel
    by_cases hlk : k < N
    · obtain ⟨g1, g2, _, _⟩ := HZ.out k hlk
      by_cases h10 : z.L k ≤ 1024
      · go_wp2
        go_round
        case rel => exact ⟨k + 1, by omega, by go_num, fun q hq => by
          by_cases hq' : q < k
          · exact hlen.out q hq'
          · obtain rfl : q = k := by omega
            exact h10⟩
        case measure => simp [intOf]; omega
      · go_wp2
        go_ret
        exact ⟨rfl, Below.refl _ _⟩
    · obtain rfl : k = N := by omega
      go_wp2_with (at_make; refine wpList_make_own _ rfl _ _ 24 rfl w.heap.size 26 i0 (.slice none 0 0) 1 Yba.underlying24 hi hz0 hz1 _ _ _ k rfl rfl rfl (by rw [hz2]; omega) (by unfold maxLen; omega) (Nat.le_refl _) ?_)
      intro w1 own1 gr1
      have hb1 : Below w.heap.size w w1 := (Below.refl _ _).grown gr1 (Nat.le_refl _) (fun k h => by cases h)
      clear gr1
      have hBt : Hid (Built w w1 w.heap.size k 0 (fun _ => none) (fun _ => 0) z.L z.bld) := ⟨own1, fun i hi => by omega, hb1⟩
      clear own1 hb1
      go_wp2_with fail
      go_loopw [6, 7] (fun v i wr => ∃ (m : Nat) (P : Nat → Option Addr) (C : Nat → Nat), m ≤ k ∧ i = .int .i64 m ∧ v = .slice (some ⟨w.heap.size, 0, none⟩) m k ∧
        Hid (Built w wr w.heap.size k m P C z.L z.bld)) (fun _ i _ => k - (intOf i).toNat)
      case atStart => exact ⟨0, _, _, Nat.zero_le _, rfl, rfl, hBt⟩
      case round =>
        clear hBt
        obtain ⟨m, P, C, hm, rfl, rfl, hB⟩ := hrel
        rename World => wq
        by_cases hlm : m < k
        · have hbq := hB.out.below
          have sq := hbq.size
          have hGq := (hB.out.own.lt _ rfl).2
          have hl10 := hlen.out m hlm
          obtain ⟨g1, _, g3, g4⟩ := HZ.out m hlm
          have bb := World.block_lt_of_cell? w _ g1
          have q1 : wq.cell? ⟨b, o + m, none⟩ = some (.slice (z.P m) (z.L m) (z.C m)) := (hbq.cell (p := ⟨b, o + m, none⟩) bb).trans g1
          have q3 : Hid (PairsAt wq (z.P m) (z.L m) (z.f m) (z.g m)) := g3.below hbq (Nat.le_refl _)
          have G4 : Hid (∀ j, j < z.L m → (0 ≤ z.f m j ∧ z.f m j ≤ 255) ∧ (0 ≤ z.g m j ∧ z.g m j ≤ 255)) := g4
          have hpb : Hid (0 < z.L m → ∀ ad, z.P m = some ad → ad.block < w.heap.size) := fun h0 ad had => by
            obtain ⟨b', o', hp, hc⟩ := g3 h0
            rw [had] at hp
            cases hp
            exact World.block_lt_of_cell? w _ (hc 0 h0).1
          clear g1 g3 g4
          obtain ⟨l, hl⟩ : ∃ l, z.L m = l := ⟨_, rfl⟩
          have HLm : Hid (z.L m = l) := hl
          rw [hl] at q1 hl10 q3 G4 hpb
          clear hl
          generalize z.C m = c at *
          generalize z.P m = p at *
          go_wp2_with (at_make; refine wpList_make_own _ rfl _ _ 26 rfl wq.heap.size 32 i1 _ 2 Yba.underlying26 hi1 hy0 hy1 _ _ _ l rfl rfl rfl (by rw [hy2]; omega) (by unfold maxLen; omega) (Nat.le_refl _) ?_)
          intro w2 own2 gr2
          have hb2 : Below wq.heap.size wq w2 := (Below.refl _ _).grown gr2 (Nat.le_refl _) (fun k h => by cases h)
          clear gr2
          go_wp2_with fail
          go_loopw [8, 9] (fun v i wr => ∃ (j : Nat) (a : Option Addr) (cp : Nat), j ≤ l ∧ i = .int .i64 j ∧ v = .slice a j cp ∧
            wr.ownsRow wq.heap.size 32 2 (.slice a j cp) j (rcells (fun q => .int .u8 (letterOf (z.f m q))) (fun q => .string (valueOf (z.g m q))) j) ∧ Below wq.heap.size wq wr) (fun _ i _ => l - (intOf i).toNat)
          case atStart => exact ⟨0, _, _, Nat.zero_le _, rfl, rfl, own2, hb2⟩
          case round =>
            clear own2 hb2
            obtain ⟨j, a, cp, hj, rfl, rfl, own3, hb3⟩ := hrel
            have s3 := hb3.size
            have r1 : wr.cell? ⟨b, o + m, none⟩ = some (.slice p l c) := (hb3.cell (p := ⟨b, o + m, none⟩) (by show b < _; omega)).trans q1
            by_cases hlj : j < l
            · have hl0 : 0 < l := by omega
              obtain ⟨ib, io, hp, hc⟩ := q3.out hl0
              have bi : ib < w.heap.size := hpb.out hl0 _ hp
              rw [hp] at r1
              obtain ⟨c1, c2⟩ := hc j hlj
              obtain ⟨⟨x0, x1⟩, ⟨x2, x3⟩⟩ := G4.out j hlj
              have r2 : wr.cell? ⟨ib, io + j * 2, none⟩ = some (.int .u8 (z.f m j)) := (hb3.cell (p := ⟨ib, io + j * 2, none⟩) (by show ib < _; omega)).trans c1
              have r3 : wr.cell? ⟨ib, io + j * 2 + 1, none⟩ = some (.int .u8 (z.g m j)) := (hb3.cell (p := ⟨ib, io + j * 2 + 1, none⟩) (by show ib < _; omega)).trans c2
              clear c1 c2 q1 hc hp hpb q3
              have hlo := own3.lt
              have ag : (Value.slice a j cp).ownBlock ≠ some b := fun h => by have := (hlo b h).1; omega
              have ai : (Value.slice a j cp).ownBlock ≠ some ib := fun h => by have := (hlo ib h).1; omega
              have hmk0 : (0 : Int) ≤ (m : Int) := Int.natCast_nonneg _
              have hmk1 : (m : Int) < (k : Int) := by omega
              have hjl0 : (0 : Int) ≤ (j : Int) := Int.natCast_nonneg _
              have hjl1 : (j : Int) < (l : Int) := by omega
              have HLO : Hid (∀ q, (Value.slice a j cp).ownBlock = some q → wq.heap.size ≤ q ∧ q < wr.heap.size) := hlo
              clear hlo
              go_wp2_with fail
              go_region_held3 (fun w' => w'.cell? ⟨b, o + m, none⟩ = some (.slice (some ⟨ib, io, none⟩) l c) ∧ w'.cell? ⟨ib, io + j * 2, none⟩ = some (.int .u8 (z.f m j)) ∧ w'.cell? ⟨ib, io + j * 2 + 1, none⟩ = some (.int .u8 (z.g m j)))
                (first
                  | go_keep
                  | (go_split_ands
                     refine ⟨?_, ?_, ?_⟩
                     · (rw [hgrow.cell_far _ (by simp; omega) (Ne.symm ag)]; assumption)
                     · (rw [hgrow.cell_far _ (by simp; omega) (Ne.symm ai)]; assumption)
                     · (rw [hgrow.cell_far _ (by simp; omega) (Ne.symm ai)]; assumption)))
                (first
                  | (go_at_call 5; refine (letter_any _ x0 x1 _).mono ?_; rintro e w' ⟨rfl, rfl⟩)
                  | (go_at_call 6; refine (val_any _ x2 x3 _).mono ?_; rintro e w' ⟨rfl, rfl⟩)
                  | (refine step_append_lies _ (by rfl) _ _ _ (by rfl) wq.heap.size 32 i1 _ 2 24 Yba.underlying26 hi1 hy0 hy1 hy2 rfl (by omega) (.slice a j cp) j _ (by rfl) ((own3.alloc _).drew) ⟨wr.heap.size, 0, none⟩ 1 1 [.int .u8 (letterOf (z.f m j)), .string (valueOf (z.g m j))] (by rfl) (by rfl) (World.news_of_block (cs := #[.int .u8 (letterOf (z.f m j)), .string (valueOf (z.g m j))]) (t := 32) (fr := (0, 0)) (heap_alloc_new wr _)) (by simp [Value.oneCell']) (by omega) (by unfold maxLen; omega) (by omega) (by simp; omega) (wr.heap.size + 1) (by simp) ?_; intro gg cap' w4 own4 hgrow hat hlt))
              have hb4 : Below wq.heap.size wq w4 := ((hb3.alloc s3 _).drew).grown hgrow (by simp; omega) (fun q hq => (HLO.out q hq).1)
              clear hgrow hat hlt own3 HLO r1 r2 r3 ag ai
              go_wp2
              go_roundw
              case rel => exact ⟨j + 1, some ⟨gg, 0, none⟩, cap', by omega, by go_num, rfl, own4, hb4⟩
              case measure => simp [intOf]; omega
            · obtain rfl : j = l := by omega
              have ownG := own_below hB.out.own hb3 (Nat.le_refl _)
              go_wp2_with (at_builtin; refine wpList_append_fits _ rfl (.tmp 76) (.tmp 78) 24 rfl w.heap.size 26 i0 1 Yba.underlying24 hi hz1 w.heap.size m k _ rfl (ownG.alloc _) ⟨wr.heap.size, 0, none⟩ 1 1 [.slice a j cp] rfl rfl ?e1 ?e2 (by omega) ?_)
              case e1 =>
                intro q u hq
                match q, hq with
                | 0, hq => simp at hq; subst hq; simp [Addr.add]
              case e2 => intro u hu; simp at hu; subst hu; rfl
              intro w5 own5 gr5
              have hBn : Hid (Built w w5 w.heap.size k (m + 1) (upd P m a) (upd C m cp) z.L z.bld) :=
                Built.step hB.out (by rw [HLm.out]; exact hl10) rfl hb3 (by rw [HLm.out]; exact own3) (by rw [HLm.out]; exact own5) gr5
              clear own5 gr5 own3 ownG
              go_wp2
              go_roundw
              case rel => exact ⟨m + 1, _, _, by omega, by go_num, by simp, hBn⟩
              case measure => simp [intOf]; omega
        · obtain rfl : m = k := by omega
          have hbq := hB.out.below
          have sq := hbq.size
          have HR : Hid (RecsAt wq w.heap.size m ⟨P, z.L, C, z.bld⟩) := hB.out.recsAt
          have HZq : Hid (PrsAt wq b o m z) := HZ.out.below hbq (Nat.le_refl _)
          clear hB HZ hlen
          go_wp2_with fail
          refine (val_any sel hs0 hs1 _).mono ?_
          rintro e w5 ⟨rfl, hw5⟩
          rw [hw5]
          clear hw5
          generalize valueOf sel = name at *
          go_wp2_with fail
          refine (find_any wq.heap.size w.heap.size m m _ name _ hN (by simp) (HR.out.below ((Below.refl wq.heap.size _).alloc (Nat.le_refl _) _) (Nat.le_refl _))).mono ?_
          rintro e w6 ⟨h6, hb6⟩
          obtain ⟨got, rfl, ⟨ga, gn, gc, rfl⟩, hgot⟩ := got_of_find h6
          clear h6
          have hb6' : Below wq.heap.size wq w6 := ((Below.refl _ _).alloc (Nat.le_refl _) _).trans (hb6.mono (by simp))
          have c6 : w6.cell? ⟨wq.heap.size, 2, none⟩ = some (.slice (some ⟨w.heap.size, 0, none⟩) m m) := by
            rw [hb6.cell (p := ⟨wq.heap.size, 2, none⟩) (by simp)]
            simp
          have HG : Hid (GotAt w6 ⟨P, z.L, C, z.bld⟩ name m (.slice ga gn gc)) := hgot
          clear hgot hb6
          go_wp2_with fail
          refine (check_any w.heap.size m m _ name _ w6 hN (HR.out.below hb6' (Nat.le_refl _)) HG.out).mono ?_
          rintro e w7 ⟨rfl, hb7⟩
          have s6 := hb6'.size
          have hb67 : Below wq.heap.size wq w7 := hb6'.trans (hb7.mono s6)
          have c7 : w7.cell? ⟨wq.heap.size, 2, none⟩ = some (.slice (some ⟨w.heap.size, 0, none⟩) m m) := (hb7.cell (p := ⟨wq.heap.size, 2, none⟩) (World.block_lt_of_cell? w6 _ c6)).trans c6
          have HR7 : Hid (RecsAt w7 w.heap.size m ⟨P, z.L, C, z.bld⟩) := HR.out.below hb67 (Nat.le_refl _)
          have HZ7 : Hid (PrsAt w7 b o m z) := HZq.out.below hb67 (Nat.le_refl _)
          have hw7 : Below w.heap.size w w7 := hbq.trans (hb67.mono sq)
          clear HR HZq HG hb6' hb7 hb67 c6
          go_wp2_with fail
          go_loopw [13] (fun i wr => ∃ q : Nat, q ≤ m ∧ i = .int .i64 q ∧ Below w7.heap.size w7 wr) (fun i _ => m - (intOf i).toNat)
          case atStart => exact ⟨0, Nat.zero_le _, rfl, Below.refl _ _⟩
          case round =>
            obtain ⟨q, hq, rfl, hb8⟩ := hrel
            rename World => w8
            by_cases hlq : q < m
            · obtain ⟨x1, x2, x3⟩ := (HR7.out.below hb8 (Nat.le_refl _)) q hlq
              obtain ⟨y1, _, y3, y4⟩ := (HZ7.out.below hb8 (Nat.le_refl _)) q hlq
              have c8 : w8.cell? ⟨wq.heap.size, 2, none⟩ = some (.slice (some ⟨w.heap.size, 0, none⟩) m m) := (hb8.cell (p := ⟨wq.heap.size, 2, none⟩) (World.block_lt_of_cell? w7 _ c7)).trans c7
              simp only at x1 x2 x3
              have X3 : Hid (FieldsAt w8 (P q) (z.L q) (z.bld q)) := x3
              have Y3 : Hid (PairsAt w8 (z.P q) (z.L q) (z.f q) (z.g q)) := y3
              have Y4 : Hid (∀ j, j < z.L q → (0 ≤ z.f q j ∧ z.f q j ≤ 255) ∧ (0 ≤ z.g q j ∧ z.g q j ≤ 255)) := y4
              clear x3 y3 y4 HR7 HZ7
              generalize z.L q = l at *
              generalize z.C q = c at *
              generalize z.P q = p at *
              generalize P q = p' at *
              generalize C q = c' at *
              have hq0 : (0 : Int) ≤ (q : Int) := Int.natCast_nonneg _
              have hq1 : (q : Int) < (m : Int) := by omega
              go_wp2_with fail
              go_quiet (fail)
              go_wp2_with fail
              go_loopw [14] (fun i wr => ∃ j : Nat, j ≤ l ∧ i = .int .i64 j ∧ Below w8.heap.size w8 wr) (fun i _ => l - (intOf i).toNat)
              case atStart => exact ⟨0, Nat.zero_le _, rfl, below_drewN (Below.refl _ _) _⟩
              case round =>
                obtain ⟨j, hj, rfl, hb9⟩ := hrel
                have c9 : wr.cell? ⟨wq.heap.size, 2, none⟩ = some (.slice (some ⟨w.heap.size, 0, none⟩) m m) := (hb9.cell (p := ⟨wq.heap.size, 2, none⟩) (World.block_lt_of_cell? w8 _ c8)).trans c8
                have x9 : wr.cell? ⟨w.heap.size, q, none⟩ = some (.slice p' l c') := (hb9.cell (p := ⟨w.heap.size, q, none⟩) (World.block_lt_of_cell? w8 _ x1)).trans x1
                have y9 : wr.cell? ⟨b, o + q, none⟩ = some (.slice p l c) := (hb9.cell (p := ⟨b, o + q, none⟩) (World.block_lt_of_cell? w8 _ y1)).trans y1
                by_cases hlj : j < l
                · have hl0 : 0 < l := by omega
                  obtain ⟨pb, po, hp, hc⟩ := Y3.out hl0
                  obtain ⟨pb', po', hp', hc'⟩ := X3.out.2 hl0
                  obtain ⟨c1, c2⟩ := hc j hlj
                  obtain ⟨d1, d2⟩ := hc' j hlj
                  obtain ⟨⟨k0, k1⟩, ⟨k2, k3⟩⟩ := Y4.out j hlj
                  have e1 : wr.cell? ⟨pb, po + j * 2, none⟩ = some (.int .u8 (z.f q j)) := (hb9.cell (p := ⟨pb, po + j * 2, none⟩) (World.block_lt_of_cell? w8 _ c1)).trans c1
                  have e2 : wr.cell? ⟨pb, po + j * 2 + 1, none⟩ = some (.int .u8 (z.g q j)) := (hb9.cell (p := ⟨pb, po + j * 2 + 1, none⟩) (World.block_lt_of_cell? w8 _ c2)).trans c2
                  have e3 : wr.cell? ⟨pb', po' + j * 2, none⟩ = some (.int .u8 (letterOf (z.f q j))) := (hb9.cell (p := ⟨pb', po' + j * 2, none⟩) (World.block_lt_of_cell? w8 _ d1)).trans d1
                  have e4 : wr.cell? ⟨pb', po' + j * 2 + 1, none⟩ = some (.string (valueOf (z.g q j))) := (hb9.cell (p := ⟨pb', po' + j * 2 + 1, none⟩) (World.block_lt_of_cell? w8 _ d2)).trans d2
                  rw [hp] at y9
                  rw [hp'] at x9
                  clear hp hp' hc hc' c1 c2 d1 d2 X3 Y3 Y4 c8 x1 y1
                  have hj0 : (0 : Int) ≤ (j : Int) := Int.natCast_nonneg _
                  have hj1 : (j : Int) < (l : Int) := by omega
                  go_wp2_with fail
                  go_quiet ((first | (go_at_call 5; exact Calls.quiet_of_same (letter_any _ k0 k1 _)) | (go_at_call 6; exact Calls.quiet_of_same (val_any _ k2 k3 _))))
                  go_wp2
                  go_roundw
                  case rel => exact ⟨j + 1, by omega, by go_num, below_drewN hb9 _⟩
                  case measure => simp [intOf]; omega
                · clear X3 Y3 Y4
                  go_wp2
                  go_roundw
                  case rel => exact ⟨q + 1, by omega, by go_num, hb8.trans (hb9.mono hb8.size)⟩
                  case measure => simp [intOf]; omega
            · go_wp2
              go_ret
              exact ⟨rfl, hw7.trans (hb8.mono hw7.size)⟩

end Go.Proofs.Ybulkrje
