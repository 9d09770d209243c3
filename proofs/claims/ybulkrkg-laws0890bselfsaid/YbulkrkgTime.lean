/-
  package time's small functions, walked at times without a monotonic reading.
-/
import Derived.Test.YbulkrkgRows
import Derived.Test.YbulkrkgBits
import Derived.WalkKit
import Derived.WalkSpells
import Derived.WalkLawsBesides
import Derived.Deep.RegionWith
namespace Go.RowKit

theorem Below.undrew {B : Nat} {w w1 : World} (h : Below B w.drew w1) : Below B w w1 := ⟨h.os, h.tape, h.output, h.size, h.block⟩

end Go.RowKit
namespace Go.Proofs.Ybulkrkg
open Go.RowKit

theorem bcell {W w1 : World} (hb : Below W.heap.size W w1) : (∀ b o, b < W.heap.size → w1.cell? ⟨b, o, none⟩ = W.cell? ⟨b, o, none⟩) ∧ (∀ b o, b < W.heap.size → w1.frozen? ⟨b, o, none⟩ = W.frozen? ⟨b, o, none⟩) :=
  ⟨fun b o h => hb.cell (p := ⟨b, o, none⟩) h, fun b o h => hb.frozen (p := ⟨b, o, none⟩) h⟩

set_option maxHeartbeats 400000 in
theorem nsec_any (b : Nat) (ns : Int) (w : World) (h0 : 0 ≤ ns) (h1 : ns < 1000000000) (hc : w.cell? ⟨b, 0, none⟩ = some (.int .u64 ns)) :
    Calls Yba.prog 10 #[.pointer (some ⟨b, 0, none⟩)] w fun e w' => e = .returned (.int .i32 ns) ∧ w' = w := by
  have hm := mask30 h0 h1
  go_enter Yba.func10, Yba.ntmps10
  go_wp2
  go_ret
  exact ⟨rfl, rfl⟩

set_option maxHeartbeats 400000 in
theorem sec_any (b : Nat) (ns s : Int) (w : World) (h0 : 0 ≤ ns) (h1 : ns < 1000000000) (hc : w.cell? ⟨b, 0, none⟩ = some (.int .u64 ns)) (hs : w.cell? ⟨b, 1, none⟩ = some (.int .i64 s)) :
    Calls Yba.prog 14 #[.pointer (some ⟨b, 0, none⟩)] w fun e w' => e = .returned (.int .i64 s) ∧ w' = w := by
  have hm := noMono h0 h1
  go_enter Yba.func14, Yba.ntmps14
  go_wp2
  go_ret
  exact ⟨rfl, rfl⟩

set_option maxHeartbeats 400000 in
theorem addSec_any (b : Nat) (ns s d : Int) (w : World) (h0 : 0 ≤ ns) (h1 : ns < 1000000000) (hs0 : -10000000000 ≤ s) (hs1 : s ≤ 10000000000) (hd0 : -10000000000 ≤ d) (hd1 : d ≤ 10000000000)
    (hc : w.cell? ⟨b, 0, none⟩ = some (.int .u64 ns)) (hs : w.cell? ⟨b, 1, none⟩ = some (.int .i64 s)) (hf : w.frozen? ⟨b, 1, none⟩ = false) :
    Calls Yba.prog 11 #[.pointer (some ⟨b, 0, none⟩), .int .i64 d] w fun e w' => e = .returned (.tuple #[]) ∧ w' = w.setCell ⟨b, 1, none⟩ (.int .i64 (s + d)) := by
  have hm := noMono h0 h1
  by_cases hd : 0 < d
  · have hx : s < s + d := by omega
    go_enter Yba.func11, Yba.ntmps11
    go_wp2
    go_end0
    exact ⟨rfl, rfl⟩
  · have hx : ¬ s < s + d := by omega
    have hx' : decide (s < s + d) = false := decide_eq_false hx
    have hd' : decide (0 < d) = false := decide_eq_false hd
    go_enter Yba.func11, Yba.ntmps11
    go_wp2
    go_end0
    exact ⟨rfl, rfl⟩

/-- A time as a value: its nanoseconds, its seconds; no monotonic reading, no location. -/
def T (ns s : Int) : Value := .agg #[.int .u64 ns, .int .i64 s, .pointer none]

set_option maxRecDepth 100000 in
set_option maxHeartbeats 1000000 in
theorem add_dn (ns s d q r : Int) (w : World) (h0 : 0 ≤ ns) (h1 : ns < 1000000000) (hs0 : -5000000000 ≤ s) (hs1 : s ≤ 5000000000) (hq : d.tdiv 1000000000 = q) (hr : d.tmod 1000000000 = r)
    (hq0 : -4700000000 ≤ q) (hq1 : q ≤ 4700000000) (hr0 : -1000000000 < r) (hr1 : r < 1000000000) (hc : ns + r < 0) :
    Calls Yba.prog 7 #[.agg #[.int .u64 ns, .int .i64 s, .pointer none], .int .i64 d] w fun e w' => e = .returned (.agg #[.int .u64 (ns + r + 1000000000), .int .i64 (s + (q - 1)), .pointer none]) ∧ Below w.heap.size w w' := by
  have hm1 := clear30 h0 h1
  have hm2 := orZero (x := ns + r + 1000000000) (by omega) (by omega)
  have hm3 := noMono (x := ns + r + 1000000000) (by omega) (by omega)
  go_enter Yba.func7, Yba.ntmps7
  go_wp2_with (first
    | (go_at_call 10; refine (nsec_any _ ns _ h0 h1 (by simp)).mono ?_; rintro e w' ⟨rfl, rfl⟩)
    | (go_at_call 11; refine (addSec_any _ (ns + r + 1000000000) s (q - 1) _ (by omega) (by omega) (by omega) (by omega) (by omega) (by omega) (by simp) (by simp) (by simp)).mono ?_; rintro e w' ⟨rfl, rfl⟩))
  refine bodyPost_ret (v := .agg #[.int .u64 (ns + r + 1000000000), .int .i64 (s + (q - 1)), .pointer none]) ?_ rfl ⟨rfl, ?_⟩
  · simp [results, Yba.results7, go_sem]
  · exact ((Below.refl _ _).alloc (Nat.le_refl _) _).alloc (by simp) _

set_option maxRecDepth 100000 in
set_option maxHeartbeats 1000000 in
theorem add_eq (ns s d q r : Int) (w : World) (h0 : 0 ≤ ns) (h1 : ns < 1000000000) (hs0 : -5000000000 ≤ s) (hs1 : s ≤ 5000000000) (hq : d.tdiv 1000000000 = q) (hr : d.tmod 1000000000 = r)
    (hq0 : -4700000000 ≤ q) (hq1 : q ≤ 4700000000) (hr0 : -1000000000 < r) (hr1 : r < 1000000000) (hc : 0 ≤ ns + r) (hc' : ns + r < 1000000000) :
    Calls Yba.prog 7 #[.agg #[.int .u64 ns, .int .i64 s, .pointer none], .int .i64 d] w fun e w' => e = .returned (.agg #[.int .u64 (ns + r), .int .i64 (s + q), .pointer none]) ∧ Below w.heap.size w w' := by
  have hm1 := clear30 h0 h1
  have hm2 := orZero (x := ns + r) (by omega) (by omega)
  have hm3 := noMono (x := ns + r) (by omega) (by omega)
  go_enter Yba.func7, Yba.ntmps7
  go_wp2_with (first
    | (go_at_call 10; refine (nsec_any _ ns _ h0 h1 (by simp)).mono ?_; rintro e w' ⟨rfl, rfl⟩)
    | (go_at_call 11; refine (addSec_any _ (ns + r) s (q) _ (by omega) (by omega) (by omega) (by omega) (by omega) (by omega) (by simp) (by simp) (by simp)).mono ?_; rintro e w' ⟨rfl, rfl⟩))
  refine bodyPost_ret (v := .agg #[.int .u64 (ns + r), .int .i64 (s + q), .pointer none]) ?_ rfl ⟨rfl, ?_⟩
  · simp [results, Yba.results7, go_sem]
  · exact ((Below.refl _ _).alloc (Nat.le_refl _) _).alloc (by simp) _

set_option maxRecDepth 100000 in
set_option maxHeartbeats 1000000 in
theorem add_up (ns s d q r : Int) (w : World) (h0 : 0 ≤ ns) (h1 : ns < 1000000000) (hs0 : -5000000000 ≤ s) (hs1 : s ≤ 5000000000) (hq : d.tdiv 1000000000 = q) (hr : d.tmod 1000000000 = r)
    (hq0 : -4700000000 ≤ q) (hq1 : q ≤ 4700000000) (hr0 : -1000000000 < r) (hr1 : r < 1000000000) (hc : 1000000000 ≤ ns + r) :
    Calls Yba.prog 7 #[.agg #[.int .u64 ns, .int .i64 s, .pointer none], .int .i64 d] w fun e w' => e = .returned (.agg #[.int .u64 (ns + r - 1000000000), .int .i64 (s + (q + 1)), .pointer none]) ∧ Below w.heap.size w w' := by
  have hm1 := clear30 h0 h1
  have hm2 := orZero (x := ns + r - 1000000000) (by omega) (by omega)
  have hm3 := noMono (x := ns + r - 1000000000) (by omega) (by omega)
  go_enter Yba.func7, Yba.ntmps7
  go_wp2_with (first
    | (go_at_call 10; refine (nsec_any _ ns _ h0 h1 (by simp)).mono ?_; rintro e w' ⟨rfl, rfl⟩)
    | (go_at_call 11; refine (addSec_any _ (ns + r - 1000000000) s (q + 1) _ (by omega) (by omega) (by omega) (by omega) (by omega) (by omega) (by simp) (by simp) (by simp)).mono ?_; rintro e w' ⟨rfl, rfl⟩))
  refine bodyPost_ret (v := .agg #[.int .u64 (ns + r - 1000000000), .int .i64 (s + (q + 1)), .pointer none]) ?_ rfl ⟨rfl, ?_⟩
  · simp [results, Yba.results7, go_sem]
  · exact ((Below.refl _ _).alloc (Nat.le_refl _) _).alloc (by simp) _

theorem tdm (d : Int) (h0 : -4700000000000000000 ≤ d) (h1 : d ≤ 4700000000000000000) : d.tdiv 1000000000 * 1000000000 + d.tmod 1000000000 = d ∧ -1000000000 < d.tmod 1000000000 ∧ d.tmod 1000000000 < 1000000000 ∧
    -4700000000 ≤ d.tdiv 1000000000 ∧ d.tdiv 1000000000 ≤ 4700000000 := by
  have e := Int.tdiv_mul_add_tmod d 1000000000
  have b1 := Int.tmod_lt_of_pos d (show (0 : Int) < 1000000000 by omega)
  have b2 := Int.lt_tmod_of_pos d (show (0 : Int) < 1000000000 by omega)
  refine ⟨e, by omega, b1, by omega, by omega⟩

/-- (Time).Add. -/
theorem add_any (ns s d : Int) (w : World) (h0 : 0 ≤ ns) (h1 : ns < 1000000000) (hs0 : -5000000000 ≤ s) (hs1 : s ≤ 5000000000) (hd0 : -4700000000000000000 ≤ d) (hd1 : d ≤ 4700000000000000000) :
    Calls Yba.prog 7 #[.agg #[.int .u64 ns, .int .i64 s, .pointer none], .int .i64 d] w fun e w' => e = .returned (.agg #[.int .u64 ((ns + d) % 1000000000), .int .i64 (s + (ns + d) / 1000000000), .pointer none]) ∧ Below w.heap.size w w' := by
  obtain ⟨e, r0, r1, q0, q1⟩ := tdm d hd0 hd1
  by_cases hc : ns + d.tmod 1000000000 < 0
  · have := add_dn ns s d _ _ w h0 h1 hs0 hs1 rfl rfl q0 q1 r0 r1 hc
    rw [show (ns + d) % 1000000000 = ns + d.tmod 1000000000 + 1000000000 from by omega, show s + (ns + d) / 1000000000 = s + (d.tdiv 1000000000 - 1) from by omega]
    exact this
  by_cases hc' : ns + d.tmod 1000000000 < 1000000000
  · have := add_eq ns s d _ _ w h0 h1 hs0 hs1 rfl rfl q0 q1 r0 r1 (by omega) hc'
    rw [show (ns + d) % 1000000000 = ns + d.tmod 1000000000 from by omega, show s + (ns + d) / 1000000000 = s + d.tdiv 1000000000 from by omega]
    exact this
  · have := add_up ns s d _ _ w h0 h1 hs0 hs1 rfl rfl q0 q1 r0 r1 (by omega)
    rw [show (ns + d) % 1000000000 = ns + d.tmod 1000000000 - 1000000000 from by omega, show s + (ns + d) / 1000000000 = s + (d.tdiv 1000000000 + 1) from by omega]
    exact this

set_option maxRecDepth 100000 in
set_option maxHeartbeats 1000000 in
theorem equal_same (ns s : Int) (w : World) (h0 : 0 ≤ ns) (h1 : ns < 1000000000) :
    Calls Yba.prog 15 #[.agg #[.int .u64 ns, .int .i64 s, .pointer none], .agg #[.int .u64 ns, .int .i64 s, .pointer none]] w fun e w' => e = .returned (.bool true) ∧ Below w.heap.size w w' := by
  have hm := noMono2 h0 h1 h0 h1
  go_enter Yba.func15, Yba.ntmps15
  go_wp2_with (first
    | (go_at_call 10; refine (nsec_any _ ns _ h0 h1 (by simp)).mono ?_; rintro e w' ⟨rfl, rfl⟩)
    | (go_at_call 14; refine (sec_any _ ns s _ h0 h1 (by simp) (by simp)).mono ?_; rintro e w' ⟨rfl, rfl⟩))
  go_ret
  exact ⟨rfl, ((Below.refl _ _).alloc (Nat.le_refl _) _).alloc (by simp) _⟩

set_option maxRecDepth 100000 in
set_option maxHeartbeats 1000000 in
theorem sub_any (n1 s1 n2 s2 : Int) (w : World) (h0 : 0 ≤ n1) (h1 : n1 < 1000000000) (h2 : 0 ≤ n2) (h3 : n2 < 1000000000) (_a0 : -2400000000 ≤ s1) (_a1 : s1 ≤ 2400000000) (b0 : -2400000000 ≤ s2) (b1 : s2 ≤ 2400000000)
    (hd0 : -4700000000000000000 ≤ (s1 - s2) * 1000000000 + (n1 - n2)) (hd1 : (s1 - s2) * 1000000000 + (n1 - n2) ≤ 4700000000000000000) :
    Calls Yba.prog 8 #[.agg #[.int .u64 n1, .int .i64 s1, .pointer none], .agg #[.int .u64 n2, .int .i64 s2, .pointer none]] w fun e w' => e = .returned (.int .i64 ((s1 - s2) * 1000000000 + (n1 - n2))) ∧ Below w.heap.size w w' := by
  have hm := noMono2 h0 h1 h2 h3
  have ea : (n2 + ((s1 - s2) * 1000000000 + (n1 - n2))) % 1000000000 = n1 := by omega
  have eb : s2 + (n2 + ((s1 - s2) * 1000000000 + (n1 - n2))) / 1000000000 = s1 := by omega
  have EA : Hid ((n2 + ((s1 - s2) * 1000000000 + (n1 - n2))) % 1000000000 = n1) := ea
  have EB : Hid (s2 + (n2 + ((s1 - s2) * 1000000000 + (n1 - n2))) / 1000000000 = s1) := eb
  clear ea eb
  go_enter Yba.func8, Yba.ntmps8
  go_wp2_with fail
  refine (sec_any _ n1 s1 _ h0 h1 (by simp) (by simp)).mono ?_
  rintro e w' ⟨rfl, rfl⟩
  go_wp2_with fail
  refine (sec_any _ n2 s2 _ h2 h3 (by simp) (by simp)).mono ?_
  rintro e w' ⟨rfl, rfl⟩
  go_wp2_with fail
  refine (nsec_any _ n1 _ h0 h1 (by simp)).mono ?_
  rintro e w' ⟨rfl, rfl⟩
  go_wp2_with fail
  refine (nsec_any _ n2 _ h2 h3 (by simp)).mono ?_
  rintro e w' ⟨rfl, rfl⟩
  go_wp2_with fail
  go_region_with (first | (go_at_call 7; refine (add_any n2 s2 _ _ h2 h3 (by omega) (by omega) hd0 hd1).mono ?_; rintro e w1 ⟨rfl, hb1⟩; rw [EA.out, EB.out]; obtain ⟨hc1, hf1⟩ := bcell hb1; have hz1 := hb1.size) | (go_at_call 15; refine (equal_same n1 s1 _ h0 h1).mono ?_; rintro e w2 ⟨rfl, hb2⟩))
  all_goals
    go_wp2
    go_ret
    refine ⟨rfl, ?_⟩
    exact ((((Below.refl _ _).alloc (Nat.le_refl _) _).alloc (by simp) _).trans (hb1.undrew.mono (by simp; omega))).trans (hb2.mono (by have := hb1.size; simp at this; omega))

end Go.Proofs.Ybulkrkg
