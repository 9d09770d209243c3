/-
  zzs0890bmk and (sample).progressed, walked; then the two laws.
-/
import Derived.Test.YbulkrkgTime
namespace Go.Proofs.Ybulkrkg
open Go.RowKit

set_option maxRecDepth 100000 in
set_option maxHeartbeats 1000000 in
theorem mk_any (a q ns sc : Int) (p : ByteArray) (c i : Int) (w : World) (hq : a.tdiv 4 = q) (hq0 : -2305843009213693952 ≤ q) (hq1 : q ≤ 2305843009213693952) (hc0 : -2147483648 ≤ c) (hc1 : c ≤ 2147483647)
    (hns : Hid (q % 1000000000 = ns)) (hsc : Hid (q / 1000000000 = sc)) :
    Calls Yba.prog 5 #[.int .i64 a, .string p, .int .i32 c, .int .i64 i] w fun e w' => e = .returned (.agg #[.int .u64 ns, .int .i64 sc, .pointer none, .string p, .int .i64 c, .int .i64 i]) ∧ Below w.heap.size w w' := by
  go_enter Yba.func5, Yba.ntmps5
  go_wp2_with fail
  refine (add_any 0 0 q _ (by omega) (by omega) (by omega) (by omega) (by omega) (by omega)).mono ?_
  rintro e w1 ⟨rfl, hb1⟩
  obtain ⟨hc1', hf1⟩ := bcell hb1
  have hz1 := hb1.size
  rw [Int.zero_add, Int.zero_add, hns.out, hsc.out]
  go_wp2
  refine bodyPost_ret (v := .agg #[.int .u64 ns, .int .i64 sc, .pointer none, .string p, .int .i64 c, .int .i64 i]) ?_ rfl ⟨rfl, ?_⟩
  · simp [results, Yba.results5, go_sem, hc1']
  · exact ((((((((Below.refl _ _).alloc (Nat.le_refl _) _).trans (hb1.mono (by simp))).setCell (p := ⟨w.heap.size, 0, none⟩) (Nat.le_refl _) _).setCell (p := ⟨w.heap.size, 1, none⟩) (Nat.le_refl _) _).setCell (p := ⟨w.heap.size, 2, none⟩) (Nat.le_refl _) _).setCell (p := ⟨w.heap.size, 3, none⟩) (Nat.le_refl _) _).setCell (p := ⟨w.heap.size, 4, none⟩) (Nat.le_refl _) _).setCell (p := ⟨w.heap.size, 5, none⟩) (Nat.le_refl _) _

theorem tick (x : Int) : (x * 1000000000).tdiv 100 = x * 10000000 := by
  rw [show x * 1000000000 = (x * 10000000) * 100 from by omega]
  exact Int.mul_tdiv_cancel _ (by omega)

set_option maxRecDepth 100000 in
set_option maxHeartbeats 1000000 in
theorem prog_same (n1 s1 n2 s2 : Int) (p1 p2 : ByteArray) (c1 c2 i1 i2 : Int) (w : World) (h0 : 0 ≤ n1) (h1 : n1 < 1000000000) (h2 : 0 ≤ n2) (h3 : n2 < 1000000000) (a0 : -2400000000 ≤ s1) (a1 : s1 ≤ 2400000000) (b0 : -2400000000 ≤ s2) (b1 : s2 ≤ 2400000000)
    (hd0 : -4700000000000000000 ≤ (s1 - s2) * 1000000000 + (n1 - n2)) (hd1 : (s1 - s2) * 1000000000 + (n1 - n2) ≤ 4700000000000000000)
    (x0 : -2147483648 ≤ c1) (x1 : c1 ≤ 2147483647) (y0 : -2147483648 ≤ c2) (y1 : c2 ≤ 2147483647) (hp : (p1.toList == p2.toList) = true) (hi : (i1 == i2) = true) :
    Calls Yba.prog 6 #[.agg #[.int .u64 n1, .int .i64 s1, .pointer none, .string p1, .int .i64 c1, .int .i64 i1], .agg #[.int .u64 n2, .int .i64 s2, .pointer none, .string p2, .int .i64 c2, .int .i64 i2]] w fun e w' =>
      e = .returned (.bool (decide ((s1 - s2) * 1000000000 + (n1 - n2) ≤ (c1 - c2) * 10000000 * 10))) ∧ Below w.heap.size w w' := by
  have ht := tick (c1 - c2)
  go_enter Yba.func6, Yba.ntmps6
  go_wp2_with fail
  refine (sub_any n1 s1 n2 s2 _ h0 h1 h2 h3 a0 a1 b0 b1 hd0 hd1).mono ?_
  rintro e w1 ⟨rfl, hb1⟩
  go_wp2
  go_ret
  exact ⟨rfl, (((Below.refl _ _).alloc (Nat.le_refl _) _).alloc (by simp) _).trans (hb1.mono (by simp; omega))⟩

set_option maxRecDepth 100000 in
set_option maxHeartbeats 1000000 in
theorem prog_procs (n1 s1 n2 s2 : Int) (p1 p2 : ByteArray) (c1 c2 i1 i2 : Int) (w : World) (hp : (p1.toList == p2.toList) = false) :
    Calls Yba.prog 6 #[.agg #[.int .u64 n1, .int .i64 s1, .pointer none, .string p1, .int .i64 c1, .int .i64 i1], .agg #[.int .u64 n2, .int .i64 s2, .pointer none, .string p2, .int .i64 c2, .int .i64 i2]] w fun e w' =>
      e = .returned (.bool true) ∧ Below w.heap.size w w' := by
  go_enter Yba.func6, Yba.ntmps6
  go_wp2
  go_ret
  exact ⟨rfl, ((Below.refl _ _).alloc (Nat.le_refl _) _).alloc (by simp) _⟩

set_option maxRecDepth 100000 in
set_option maxHeartbeats 1000000 in
theorem prog_io (n1 s1 n2 s2 : Int) (p1 p2 : ByteArray) (c1 c2 i1 i2 : Int) (w : World) (hp : (p1.toList == p2.toList) = true) (hi : (i1 == i2) = false) :
    Calls Yba.prog 6 #[.agg #[.int .u64 n1, .int .i64 s1, .pointer none, .string p1, .int .i64 c1, .int .i64 i1], .agg #[.int .u64 n2, .int .i64 s2, .pointer none, .string p2, .int .i64 c2, .int .i64 i2]] w fun e w' =>
      e = .returned (.bool true) ∧ Below w.heap.size w w' := by
  go_enter Yba.func6, Yba.ntmps6
  go_wp2
  go_ret
  exact ⟨rfl, ((Below.refl _ _).alloc (Nat.le_refl _) _).alloc (by simp) _⟩

theorem six {w1 w2 : World} {v0 v1 v2 v3 v4 v5 : Value} (hb : Below (w1.alloc (.cells #[v0, v1, v2, v3, v4, v5] 27)).heap.size (w1.alloc (.cells #[v0, v1, v2, v3, v4, v5] 27)) w2) :
    w1.heap.size < w2.heap.size ∧ w2.cell? ⟨w1.heap.size, 0, none⟩ = some v0 ∧ w2.cell? ⟨w1.heap.size, 1, none⟩ = some v1 ∧ w2.cell? ⟨w1.heap.size, 2, none⟩ = some v2 ∧ w2.cell? ⟨w1.heap.size, 3, none⟩ = some v3 ∧ w2.cell? ⟨w1.heap.size, 4, none⟩ = some v4 ∧ w2.cell? ⟨w1.heap.size, 5, none⟩ = some v5 := by
  have hz := hb.size
  obtain ⟨k2, _⟩ := bcell hb
  simp only [World.size_alloc] at hz k2
  refine ⟨by omega, ?_, ?_, ?_, ?_, ?_, ?_⟩
  all_goals
    rw [k2 _ _ (by omega)]
    simp

theorem quarter {a : Int} (h0 : -9223372036854775808 ≤ a) (h1 : a ≤ 9223372036854775807) : -2305843009213693952 ≤ a.tdiv 4 ∧ a.tdiv 4 ≤ 2305843009213693952 := by
  have e := Int.tdiv_mul_add_tmod a 4
  have b1 := Int.tmod_lt_of_pos a (show (0 : Int) < 4 by omega)
  have b2 := Int.lt_tmod_of_pos a (show (0 : Int) < 4 by omega)
  omega

set_option maxRecDepth 100000 in
set_option maxHeartbeats 1000000 in
theorem self_any (a : Int) (p : ByteArray) (c i : Int) (w : World) (ha0 : -9223372036854775808 ≤ a) (ha1 : a ≤ 9223372036854775807) (hc0 : -2147483648 ≤ c) (hc1 : c ≤ 2147483647) :
    Calls Yba.prog 4 #[.int .i64 a, .string p, .int .i32 c, .int .i64 i] w fun e w' => e = .returned (.bool true) ∧ Below w.heap.size w w' := by
  obtain ⟨q0, q1⟩ := quarter ha0 ha1
  obtain ⟨q, hq⟩ : ∃ q, a.tdiv 4 = q := ⟨_, rfl⟩
  rw [hq] at q0 q1
  obtain ⟨ns, hns⟩ : ∃ ns, q % 1000000000 = ns := ⟨_, rfl⟩
  obtain ⟨sc, hsc⟩ : ∃ sc, q / 1000000000 = sc := ⟨_, rfl⟩
  have n0 : 0 ≤ ns ∧ ns < 1000000000 := by omega
  have s0 : -2400000000 ≤ sc ∧ sc ≤ 2400000000 := by omega
  have HQ : Hid (a.tdiv 4 = q) := hq
  have HN : Hid (q % 1000000000 = ns) := hns
  have HS : Hid (q / 1000000000 = sc) := hsc
  clear hq hns hsc ha0 ha1
  go_enter Yba.func4, Yba.ntmps4
  go_wp2_with fail
  refine (mk_any a q ns sc p c i _ HQ.out q0 q1 hc0 hc1 HN HS).mono ?_
  rintro e w1 ⟨rfl, hb1⟩
  go_wp2_with fail
  refine (prog_same ns sc ns sc p p c c i i _ n0.1 n0.2 n0.1 n0.2 s0.1 s0.2 s0.1 s0.2 (by omega) (by omega) hc0 hc1 hc0 hc1 (by simp) (by simp)).mono ?_
  rintro e w2 ⟨rfl, hb2⟩
  go_wp2
  go_ret
  exact ⟨by simp, (hb1.alloc hb1.size _).trans (hb2.mono (by have := hb1.size; simp; omega))⟩

set_option maxRecDepth 100000 in
set_option maxHeartbeats 2000000 in
theorem exact_any (a1 : Int) (p1 : ByteArray) (c1 i1 a2 : Int) (p2 : ByteArray) (c2 i2 : Int) (w : World) (ha0 : -9223372036854775808 ≤ a1) (ha1 : a1 ≤ 9223372036854775807) (hb0 : -9223372036854775808 ≤ a2) (hb1 : a2 ≤ 9223372036854775807)
    (x0 : -2147483648 ≤ c1) (x1 : c1 ≤ 2147483647) (y0 : -2147483648 ≤ c2) (y1 : c2 ≤ 2147483647) :
    Calls Yba.prog 3 #[.int .i64 a1, .string p1, .int .i32 c1, .int .i64 i1, .int .i64 a2, .string p2, .int .i32 c2, .int .i64 i2] w fun e w' => e = .returned (.bool true) ∧ Below w.heap.size w w' := by
  obtain ⟨q0, q1⟩ := quarter ha0 ha1
  obtain ⟨r0, r1⟩ := quarter hb0 hb1
  obtain ⟨q, hq⟩ : ∃ q, a1.tdiv 4 = q := ⟨_, rfl⟩
  obtain ⟨r, hr⟩ : ∃ r, a2.tdiv 4 = r := ⟨_, rfl⟩
  rw [hq] at q0 q1
  rw [hr] at r0 r1
  obtain ⟨ns, hns⟩ : ∃ ns, q % 1000000000 = ns := ⟨_, rfl⟩
  obtain ⟨sc, hsc⟩ : ∃ sc, q / 1000000000 = sc := ⟨_, rfl⟩
  obtain ⟨ms, hms⟩ : ∃ ms, r % 1000000000 = ms := ⟨_, rfl⟩
  obtain ⟨tc, htc⟩ : ∃ tc, r / 1000000000 = tc := ⟨_, rfl⟩
  have n0 : 0 ≤ ns ∧ ns < 1000000000 := by omega
  have s0 : -2400000000 ≤ sc ∧ sc ≤ 2400000000 := by omega
  have m0 : 0 ≤ ms ∧ ms < 1000000000 := by omega
  have t0 : -2400000000 ≤ tc ∧ tc ≤ 2400000000 := by omega
  have hD : (sc - tc) * 1000000000 + (ns - ms) = q - r := by omega
  have HD : Hid ((sc - tc) * 1000000000 + (ns - ms) = q - r) := hD
  have HN : Hid (q % 1000000000 = ns) := hns
  have HS : Hid (q / 1000000000 = sc) := hsc
  have HM : Hid (r % 1000000000 = ms) := hms
  have HT : Hid (r / 1000000000 = tc) := htc
  clear hns hsc hms htc hD ha0 ha1 hb0 hb1
  cases hp : (p1.toList == p2.toList) with
  | false =>
    go_enter Yba.func3, Yba.ntmps3
    go_wp2_with fail
    refine (mk_any a1 q ns sc p1 c1 i1 _ hq q0 q1 x0 x1 HN HS).mono ?_
    rintro e w1 ⟨rfl, hb1⟩
    have z1 := hb1.size
    go_wp2_with fail
    refine (mk_any a2 r ms tc p2 c2 i2 _ hr r0 r1 y0 y1 HM HT).mono ?_
    rintro e w2 ⟨rfl, hb2⟩
    obtain ⟨z2, d0, d1, d2, d3, d4, d5⟩ := six hb2
    have b2 : Below w.heap.size w w2 := (hb1.alloc z1 _).trans (hb2.mono (by simp; omega))
    have HB2 : Hid (Below w.heap.size w w2) := b2
    clear hb1 hb2 b2
    go_wp2_with fail
    refine (prog_procs ns sc ms tc p1 p2 c1 c2 i1 i2 _ hp).mono ?_
    rintro e w3 ⟨rfl, hb3⟩
    have b3 : Below w.heap.size w w3 := (HB2.out.alloc HB2.out.size _).trans (hb3.mono (by simp; omega))
    clear hb3
    go_wp2
    go_ret
    exact ⟨rfl, b3⟩
  | true =>
    cases hi : (i1 == i2) with
    | false =>
      go_enter Yba.func3, Yba.ntmps3
      go_wp2_with fail
      refine (mk_any a1 q ns sc p1 c1 i1 _ hq q0 q1 x0 x1 HN HS).mono ?_
      rintro e w1 ⟨rfl, hb1⟩
      have z1 := hb1.size
      go_wp2_with fail
      refine (mk_any a2 r ms tc p2 c2 i2 _ hr r0 r1 y0 y1 HM HT).mono ?_
      rintro e w2 ⟨rfl, hb2⟩
      obtain ⟨z2, d0, d1, d2, d3, d4, d5⟩ := six hb2
      have b2 : Below w.heap.size w w2 := (hb1.alloc z1 _).trans (hb2.mono (by simp; omega))
      have HB2 : Hid (Below w.heap.size w w2) := b2
      clear hb1 hb2 b2
      go_wp2_with fail
      refine (prog_io ns sc ms tc p1 p2 c1 c2 i1 i2 _ hp hi).mono ?_
      rintro e w3 ⟨rfl, hb3⟩
      have b3 : Below w.heap.size w w3 := (HB2.out.alloc HB2.out.size _).trans (hb3.mono (by simp; omega))
      clear hb3
      go_wp2
      go_ret
      exact ⟨rfl, b3⟩
    | true =>
      go_enter Yba.func3, Yba.ntmps3
      go_wp2_with fail
      refine (mk_any a1 q ns sc p1 c1 i1 _ hq q0 q1 x0 x1 HN HS).mono ?_
      rintro e w1 ⟨rfl, hb1⟩
      have z1 := hb1.size
      go_wp2_with fail
      refine (mk_any a2 r ms tc p2 c2 i2 _ hr r0 r1 y0 y1 HM HT).mono ?_
      rintro e w2 ⟨rfl, hb2⟩
      obtain ⟨z2, d0, d1, d2, d3, d4, d5⟩ := six hb2
      have b2 : Below w.heap.size w w2 := (hb1.alloc z1 _).trans (hb2.mono (by simp; omega))
      have HB2 : Hid (Below w.heap.size w w2) := b2
      clear hb1 hb2 b2
      go_wp2_with fail
      refine (prog_same ns sc ms tc p1 p2 c1 c2 i1 i2 _ n0.1 n0.2 m0.1 m0.2 s0.1 s0.2 t0.1 t0.2 (by have := HD.out; omega) (by have := HD.out; omega) x0 x1 y0 y1 hp hi).mono ?_
      rintro e w3 ⟨rfl, hb3⟩
      have b3 : Below w.heap.size w w3 := (HB2.out.alloc HB2.out.size _).trans (hb3.mono (by simp; omega))
      clear hb3
      go_wp2
      go_ret
      refine ⟨?_, b3⟩
      have hfin : (decide ((sc - tc) * 1000000000 + (ns - ms) ≤ (c1 - c2) * 10000000 * 10) == decide (q - r ≤ (c1 - c2) * 100000000)) = true := by
        rw [HD.out, show (c1 - c2) * 10000000 * 10 = (c1 - c2) * 100000000 from by omega]
        simp
      show Ending.returned (.bool (decide ((sc - tc) * 1000000000 + (ns - ms) ≤ (c1 - c2) * 10000000 * 10) == decide (q - r ≤ (c1 - c2) * 100000000))) = _
      rw [hfin]

end Go.Proofs.Ybulkrkg
