/-
  zzs0888bcheck, walked: what Find gave is what a plain filter gives.
-/
import Derived.Test.YbulkrjeFind
import Derived.Deep.QuietTactic
import Derived.BigQuiet
namespace Go.Proofs.Ybulkrje
open Go.RowKit

theorem Yba.info3 : (Yba.prog.info? 3).map (fun i => (i.zero, i.size, i.bytes)) = some (some (.int .i64 0), 1, 8) := by kernel_rfl

theorem own_shape {w : World} {base size n : Nat} {e : TypeId} {v : Value} {xs : List Value} (h : w.ownsRow base e size v n xs) : ∃ a cap, v = .slice a n cap := by
  rcases h.2 with ⟨rfl, rfl⟩ | ⟨g, cap, cur, rfl, _⟩
  · exact ⟨_, _, rfl⟩
  · exact ⟨_, _, rfl⟩

/-- What Find gives for the first N records: nil where none has the name; else a row of their slices. -/
def GotAt (w : World) (z : Rcs) (name : ByteArray) (N : Nat) (got : Value) : Prop :=
  (z.hits name N = [] ∧ got = .slice none 0 0) ∨
  ∃ gb cp, z.hits name N ≠ [] ∧ got = .slice (some ⟨gb, 0, none⟩) (z.hits name N).length cp ∧ ∀ q, q < (z.hits name N).length → w.cell? ⟨gb, q, none⟩ = some (z.val ((z.hits name N).getD q 0))

theorem GotAt.below {B : Nat} {w w' : World} {z : Rcs} {name : ByteArray} {N : Nat} {got : Value} (h : GotAt w z name N got) (hb : Below B w w') (hB : w.heap.size ≤ B) : GotAt w' z name N got := by
  rcases h with h | ⟨gb, cp, h1, h2, h3⟩
  · exact .inl h
  · exact .inr ⟨gb, cp, h1, h2, fun q hq => by
      rw [hb.cell (p := ⟨gb, q, none⟩) (Nat.lt_of_lt_of_le (World.block_lt_of_cell? w _ (h3 q hq)) hB)]
      exact h3 q hq⟩

set_option maxHeartbeats 1000000 in
theorem check_any (g N cap : Nat) (z : Rcs) (name : ByteArray) (got : Value) (w : World) (hN : N ≤ 1024) (hz : RecsAt w g N z) (hgot : GotAt w z name N got) :
    Calls Yba.prog 8 #[.slice (some ⟨g, 0, none⟩) N cap, .string name, got] w fun e w' => e = .returned (.bool true) ∧ Below w.heap.size w w' := by
  obtain ⟨i0, hi, hz0, hz1, hz2⟩ := info_parts Yba.info3
  have HZ : Hid (RecsAt w g N z) := hz
  have HG : Hid (GotAt w z name N got) := hgot
  clear hz hgot
  go_enter Yba.func8, Yba.ntmps8
  go_wp2_with fail
  go_loopw [7, 8] (fun v i wr => ∃ (k : Nat) (a : Option Addr) (cp : Nat), k ≤ N ∧ i = .int .i64 k ∧ v = .slice a (z.hits name k).length cp ∧
      wr.ownsRow w.heap.size 3 1 (.slice a (z.hits name k).length cp) (z.hits name k).length ((z.hits name k).map fun (q : Nat) => .int .i64 q) ∧ Below w.heap.size w wr) (fun _ i _ => N - (intOf i).toNat)
  case atStart => exact ⟨0, _, _, Nat.zero_le _, rfl, rfl, World.ownsRow_lit w #[] 0 (Nat.le_refl _) (Nat.zero_le _) rfl, (Below.refl _ _).alloc (Nat.le_refl _) _⟩
  case round =>
    obtain ⟨k, a, cp, hk, rfl, rfl, own, hb⟩ := hrel
    have hle := hits_le z name k
    by_cases hlk : k < N
    · obtain ⟨g1, g2, g3⟩ := (HZ.out.below hb (Nat.le_refl _)) k hlk
      have hrn : Hid ((z.R k).n = z.L k) := g3.1
      have hyes : Hid ((z.R k).hit name = true → z.hits name (k + 1) = z.hits name k ++ [k]) := hits_yes
      have hno : Hid ((z.R k).hit name = false → z.hits name (k + 1) = z.hits name k) := hits_no
      rename World => wq
      by_cases hl0 : 0 < z.L k
      · obtain ⟨b, o, hp, hc⟩ := g3.2 hl0
        rw [hp] at g1
        generalize z.L k = l at *
        generalize z.C k = c at *
        have HC : Hid (∀ i, i < l → wq.cell? ⟨b, o + i * 2, none⟩ = some (.int .u8 ((z.R k).f i)) ∧ wq.cell? ⟨b, o + i * 2 + 1, none⟩ = some (.string ((z.R k).s i))) := hc
        clear hc g3 hp
        generalize hR : z.R k = r at *
        clear hR
        go_wp2_with fail
        go_loop [7, 10] (fun v i => v = .slice a (z.hits name k).length cp ∧ ∃ j : Nat, j ≤ l ∧ i = .int .i64 j ∧ Hid (∀ q, q < j → r.f q ≠ 80)) (fun _ i => l - (intOf i).toNat)
        case atStart => exact ⟨rfl, 0, Nat.zero_le _, rfl, fun q hq => by omega⟩
        case round =>
          obtain ⟨rfl, j, hj, rfl, hnp⟩ := hrel
          by_cases hlj : j < l
          · obtain ⟨c1, c2⟩ := HC.out j hlj
            by_cases h80 : r.f j = 80
            · have hpf : pfind r.f l = some j := pfind_at hnp.out h80 hlj
              have hhit : r.hit name = ((r.s j).toList == name.toList) := by unfold Rcd.hit; rw [hrn.out, hpf]
              have e80 : (r.f j == 80) = true := by simp [h80]
              clear h80 hpf
              cases hs : ((r.s j).toList == name.toList) with
              | true =>
                rw [hs] at hhit
                have hy : Hid (z.hits name (k + 1) = z.hits name k ++ [k]) := hyes.out hhit
                clear hhit
                go_wp2_with (at_builtin; refine wpList_append_own _ rfl (.tmp 45) (.tmp 47) 47 rfl w.heap.size 3 i0 (.int .i64 0) 1 8 Yba.underlying47 hi hz0 hz1 hz2 rfl (by decide) _ _ _ rfl (own.alloc _) ⟨wq.heap.size, 0, none⟩ 1 1 [.int .i64 k] rfl rfl ?e1 ?e2 ?e3 ?e4 ?e5 ?_)
                case e2 => rfl
                case e3 => unfold maxLen; omega
                case e4 => omega
                case e5 => have := hb.size; omega
                intro v' w1 own1 gr1 _
                obtain ⟨a', cp', rfl⟩ := own_shape own1
                have hlo := own.lt
                have sb := hb.size
                have hb1 : Below w.heap.size w w1 := (hb.alloc sb _).grown gr1 (by simp; omega) (fun q hq => (hlo q hq).1)
                clear gr1 hlo
                go_wp2
                go_roundw
                case rel => exact ⟨k + 1, a', cp', by omega, by go_num, by rw [hy.out]; simp, by rw [hy.out]; simpa using own1, hb1⟩
                case measure => simp [intOf]; omega
              | false =>
                rw [hs] at hhit
                have hy : Hid (z.hits name (k + 1) = z.hits name k) := hno.out hhit
                clear hhit
                go_wp2
                go_roundw
                case rel => exact ⟨k + 1, a, cp, by omega, by go_num, by rw [hy.out], by rw [hy.out]; exact own, hb⟩
                case measure => simp [intOf]; omega
            · have e80 : (r.f j == 80) = false := by simp [h80]
              have h80' : Hid (r.f j ≠ 80) := h80
              clear h80
              go_wp2
              go_round
              case rel => exact ⟨rfl, j + 1, by omega, by go_num, fun q hq => by
                by_cases hq' : q < j
                · exact hnp.out q hq'
                · obtain rfl : q = j := by omega
                  exact h80'.out⟩
              case measure => simp [intOf]; omega
          · have hy : Hid (z.hits name (k + 1) = z.hits name k) := hno.out (by unfold Rcd.hit; rw [hrn.out, pfind_none.2 (fun q hq => hnp.out q (by omega))])
            go_wp2
            go_roundw
            case rel => exact ⟨k + 1, a, cp, by omega, by go_num, by rw [hy.out], by rw [hy.out]; exact own, hb⟩
            case measure => simp [intOf]; omega
      · have hL : z.L k = 0 := by omega
        rw [hL] at g1
        have hy : Hid (z.hits name (k + 1) = z.hits name k) := hno.out (by unfold Rcd.hit; rw [hrn.out, hL]; rfl)
        generalize z.P k = p at *
        generalize z.C k = c at *
        clear g3 g2 hl0 hL hrn hyes hno
        go_wp2_with fail
        refine wp_loop_rounds 1 ?_
        rw [rounds_succ]
        go_wp2
        go_roundw
        case rel => exact ⟨k + 1, a, cp, by omega, by go_num, by rw [hy.out], by rw [hy.out]; exact own, hb⟩
        case measure => simp [intOf]; omega
    · obtain rfl : k = N := by omega
      rename World => wq
      rcases HG.out.below hb (Nat.le_refl _) with ⟨he, rfl⟩ | ⟨gb, cpg, hne, rfl, hcg⟩
      · have h0 : (((z.hits name k).length : Int) == 0) = true := by simp [he]
        have q24 : ∀ (w : World) (a : Option Addr) (n c n' c' : Nat), (binOp .eql 24 (.slice a n c) (.slice none n' c')).run Yba.prog w = .ok (.bool a.isNone) w := fun w a n c n' c' => Lib.run_eql_slice_nil w _ _ a n c n' c' Yba.underlying24
        clear he
        go_wp2
        go_ret
        exact ⟨rfl, hb⟩
      · have hM0 : 0 < (z.hits name k).length := List.length_pos_iff.2 hne
        have h0 : (((z.hits name k).length : Int) == 0) = false := by
          have : ((z.hits name k).length : Int) ≠ 0 := by omega
          simpa using this
        have hlt : ∀ q, q < (z.hits name k).length → (z.hits name k).getD q 0 < k := by
          intro q hq
          have : (z.hits name k).getD q 0 ∈ z.hits name k := by simp [List.getD, hq]
          have := List.mem_filter.1 this
          simpa using this.1
        rcases own.2 with ⟨_, h'⟩ | ⟨wb, cp', cur, h', _⟩
        · omega
        simp only [Value.slice.injEq] at h'
        obtain ⟨rfl, _, _⟩ := h'
        have hcw : ∀ q, q < (z.hits name k).length → wq.cell? ⟨wb, q, none⟩ = some (.int .i64 ((z.hits name k).getD q 0 : Nat)) := by
          intro q hq
          rw [own.cellAt q (by omega)]
          simp [List.getD, hq]
        clear hne own
        have HL : Hid (∀ q, q < (z.hits name k).length → (z.hits name k).getD q 0 < k) := hlt
        have HW : Hid (∀ q, q < (z.hits name k).length → wq.cell? ⟨wb, q, none⟩ = some (.int .i64 ((z.hits name k).getD q 0 : Nat))) := hcw
        have HGc : Hid (∀ q, q < (z.hits name k).length → wq.cell? ⟨gb, q, none⟩ = some (z.val ((z.hits name k).getD q 0))) := hcg
        clear hlt hcw hcg
        have HZq : Hid (RecsAt wq g k z) := HZ.out.below hb (Nat.le_refl _)
        clear HZ HG
        generalize z.hits name k = hs at *
        go_wp2_with fail
        go_loopw [11] (fun i wr => ∃ q : Nat, q ≤ hs.length ∧ i = .int .i64 q ∧ Below wq.heap.size wq wr) (fun i _ => hs.length - (intOf i).toNat)
        case atStart => exact ⟨0, Nat.zero_le _, rfl, Below.refl _ _⟩
        case round =>
          obtain ⟨q, hq, rfl, hb2⟩ := hrel
          rename World => wp
          by_cases hlq : q < hs.length
          · have x1 := HL.out q hlq
            have x2 := HW.out q hlq
            have x3 := HGc.out q hlq
            obtain ⟨x4, x5, x6⟩ := HZq.out (hs.getD q 0) x1
            unfold Rcs.val at x3
            generalize hs.getD q 0 = h at *
            have y2 : wp.cell? ⟨wb, q, none⟩ = some (.int .i64 (h : Nat)) := (hb2.cell (p := ⟨wb, q, none⟩) (World.block_lt_of_cell? wq _ x2)).trans x2
            have y3 : wp.cell? ⟨gb, q, none⟩ = some (.slice (z.P h) (z.L h) (z.C h)) := (hb2.cell (p := ⟨gb, q, none⟩) (World.block_lt_of_cell? wq _ x3)).trans x3
            have y4 : wp.cell? ⟨g, h, none⟩ = some (.slice (z.P h) (z.L h) (z.C h)) := (hb2.cell (p := ⟨g, h, none⟩) (World.block_lt_of_cell? wq _ x4)).trans x4
            have y6 := x6.below hb2 (Nat.le_refl _)
            clear x2 x3 x4 x6
            generalize z.P h = p at *
            generalize z.C h = c at *
            by_cases hl0 : 0 < z.L h
            · obtain ⟨b, o, rfl, hc⟩ := y6.2 hl0
              generalize z.L h = l at *
              have HC : Hid (∀ i, i < l → wp.cell? ⟨b, o + i * 2, none⟩ = some (.int .u8 ((z.R h).f i)) ∧ wp.cell? ⟨b, o + i * 2 + 1, none⟩ = some (.string ((z.R h).s i))) := hc
              clear hc y6
              generalize z.R h = r at *
              go_wp2_with fail
              go_loopw [14] (fun i wr => ∃ j : Nat, j ≤ l ∧ i = .int .i64 j ∧ Below wp.heap.size wp wr) (fun i _ => l - (intOf i).toNat)
              case atStart => exact ⟨0, Nat.zero_le _, rfl, Below.refl _ _⟩
              case round =>
                obtain ⟨j, hj, rfl, hb3⟩ := hrel
                by_cases hlj : j < l
                · obtain ⟨c1, c2⟩ := HC.out j hlj
                  have d1 : wr.cell? ⟨b, o + j * 2, none⟩ = some (.int .u8 (r.f j)) := (hb3.cell (p := ⟨b, o + j * 2, none⟩) (World.block_lt_of_cell? wp _ c1)).trans c1
                  have d2 : wr.cell? ⟨b, o + j * 2 + 1, none⟩ = some (.string (r.s j)) := (hb3.cell (p := ⟨b, o + j * 2 + 1, none⟩) (World.block_lt_of_cell? wp _ c2)).trans c2
                  clear c1 c2 y2 y3 y4
                  go_wp2
                  go_quiet (fail)
                  go_wp2
                  go_roundw
                  case rel => exact ⟨j + 1, by omega, by go_num, by first | exact hb3 | exact hb3.drew | exact below_drewN hb3 _⟩
                  case measure => simp [intOf]; omega
                · go_wp2
                  go_roundw
                  case rel => exact ⟨q + 1, by omega, by go_num, hb2.trans (hb3.mono hb2.size)⟩
                  case measure => simp [intOf]; omega
            · have hL : z.L h = 0 := by omega
              rw [hL] at y3 y4
              clear hL hl0 y6 x5
              go_wp2_with fail
              refine wp_loop_rounds 1 ?_
              rw [rounds_succ]
              go_wp2
              go_roundw
              case rel => exact ⟨q + 1, by omega, by go_num, hb2⟩
              case measure => simp [intOf]; omega
          · go_wp2
            go_ret
            exact ⟨rfl, hb.trans (hb2.mono hb.size)⟩

end Go.Proofs.Ybulkrje
