/-
  LawS0887BMarked, walked: the mark and the rest laid behind one another, the mark skipped, the rest looked at.
-/
import Derived.Test.YbulkriqSteps
namespace Go.Proofs.Ybulkriq
open Go.RowKit

theorem Yba.info5 : (Yba.prog.info? 5).map (fun i => (i.zero, i.size, i.bytes)) = some (some (.int .u8 0), 1, 1) := by kernel_rfl

theorem nums_str (xs : List Int) (hx : ∀ n ∈ xs, 0 ≤ n ∧ n ≤ 255) : nums (strOfNums xs) = xs := by
  unfold nums
  rw [strOfNums_data, List.map_map]
  refine (List.map_congr_left (g := id) fun n hn => ?_).trans (List.map_id _)
  have := hx n hn
  simp
  omega

theorem Bts.below {w w' : World} {p : Option Addr} {n : Nat} {xs : List Int} (h : Bts w p n xs) (hb : Below w.heap.size w w') : Bts w' p n xs := by
  refine ⟨h.1, fun hn => ?_⟩
  obtain ⟨b, q, hp, hc⟩ := h.2 hn
  exact ⟨b, q, hp, fun i hi => by
    have := hc i hi
    rw [hb.cell (p := ⟨b, q + i, none⟩) (World.block_lt_of_cell? w _ this)]
    exact this⟩

/-- The cells of a slice that came in, as the law on append asks them. -/
theorem Bts.news {w : World} {p : Option Addr} {n : Nat} {xs : List Int} (h : Bts w p n xs) : ∀ ad, p = some ad → ∀ j u, (xs.map (Value.int .u8))[j]? = some u → w.cell? (ad.add j) = some u := by
  intro ad had j u hu
  have hj : j < xs.length := by
    have := (List.getElem?_eq_some_iff.1 hu).1
    simpa using this
  obtain ⟨hl, hc⟩ := h
  obtain ⟨b, o, hp, hcell⟩ := hc (by omega)
  rw [had] at hp
  obtain rfl := Option.some.inj hp
  rw [Addr.add_lit, hcell j (by omega)]
  rw [← hu]
  simp [List.getD, hj]

/-- A part of an owned row, as numbers. -/
theorem Bts.ofOwn {w : World} {base g n cap k m : Nat} {zs : List Int} (h : w.ownsRow base 5 1 (.slice (some ⟨g, 0, none⟩) n cap) n (zs.map (Value.int .u8))) (hk : k + m ≤ n) (hz : zs.length = n) :
    Bts w (some ⟨g, k, none⟩) m ((zs.drop k).take m) := by
  refine ⟨by simp; omega, fun _ => ⟨_, _, rfl, fun i hi => ?_⟩⟩
  rw [h.cellAt (k + i) (by omega)]
  have h1 : k + i < zs.length := by omega
  simp [List.getD, h1, hi]

set_option maxHeartbeats 1000000 in
theorem marked_any (a0 : Option Addr) (len0 cap0 : Nat) (xs : List Int) (a1 : Int) (w : World) (hs : Bts w a0 len0 xs) (hx : ∀ n ∈ xs, 0 ≤ n ∧ n ≤ 255) (hlen : len0 ≤ 1024)
    (hnone : a0 = none → len0 = 0 ∧ cap0 = 0) :
    Calls Yba.prog 4 #[.slice a0 len0 cap0, .int .i64 a1] w fun e w' => e = .returned (.bool true) ∧ Below w.heap.size w w' := by
  obtain ⟨i0, hi, hz0, hz1, hz2⟩ := info_parts Yba.info5
  have hl : xs.length = len0 := hs.1
  have HL : Hid (xs.length = len0) := hl
  clear hl
  go_enter Yba.func4, Yba.ntmps4
  go_wp2_with (at_make; refine wpList_make_own _ rfl _ _ 22 rfl w.heap.size 5 i0 (.int .u8 0) 1 Yba.underlying22 hi hz0 hz1 _ _ _ (len0 + 3) rfl rfl (by omega) (by rw [hz2]; omega) (by unfold maxLen; omega) (Nat.le_refl _) ?_)
  intro w1 own1 gr1
  have hb1 : Below w.heap.size w w1 := (Below.refl _ _).grown gr1 (Nat.le_refl _) (fun k h => by cases h)
  go_wp2_with (at_builtin; refine wpList_append_fits _ rfl (.tmp 14) (.tmp 15) 22 rfl w.heap.size 5 i0 1 Yba.underlying22 hi hz1 w.heap.size 0 (len0 + 3) [] rfl (own1.alloc _) ⟨w1.heap.size, 0, none⟩ 3 3 [.int .u8 239, .int .u8 187, .int .u8 191] rfl rfl ?c1 ?c2 (by omega) ?_)
  case c1 =>
    intro j u hj
    match j, hj with
    | 0, hj => simp at hj; subst hj; simp [Addr.add]
    | 1, hj => simp at hj; subst hj; simp [Addr.add]
    | 2, hj => simp at hj; subst hj; simp [Addr.add]
  case c2 => intro u hu; simp at hu; rcases hu with rfl | rfl | rfl <;> rfl
  intro w2 own2 gr2
  have hs1 := hb1.size
  have hb2 : Below w.heap.size w w2 := (hb1.alloc hs1 _).grown gr2 (by simp; omega) (fun k h => by cases h; exact Nat.le_refl _)
  have hs2 := hb2.size
  go_wp2_with (at_builtin; refine wpList_append_fits_any _ rfl (.tmp 17) (.tmp 18) 22 rfl w.heap.size 5 i0 1 Yba.underlying22 hi hz1 w.heap.size 3 (len0 + 3) _ rfl own2 a0 len0 cap0 (xs.map (Value.int .u8)) rfl ?d1 hnone ?d2 (ints_oneCell _ _) (by omega) ?_)
  case d1 => simp; exact HL.out
  case d2 => exact (hs.below hb2).news
  intro w3 own3 gr3
  have hb3 : Below w.heap.size w w3 := hb2.grown gr3 hs2 (fun k h => by cases h; exact Nat.le_refl _)
  have hs3 := hb3.size
  have own4 : w3.ownsRow w.heap.size 5 1 (.slice (some ⟨w.heap.size, 0, none⟩) (3 + len0) (len0 + 3)) (3 + len0) (([239, 187, 191] ++ xs).map (Value.int .u8)) := own3
  have k1 : Bts w3 (some ⟨w.heap.size, 0, none⟩) 3 [239, 187, 191] := by
    have := Bts.ofOwn (k := 0) (m := 3) own4 (by omega) (by simp [HL.out]; omega)
    simpa using this
  have k2 : Bts w3 (some ⟨w.heap.size, 3, none⟩) len0 xs := by
    have := Bts.ofOwn (k := 3) (m := len0) own4 (by omega) (by simp [HL.out]; omega)
    simpa [← HL.out] using this
  clear own1 own2 own3 gr1 gr2 gr3
  go_wp2_with fail
  refine (skip_yes w3.heap.size (some ⟨w.heap.size, 0, none⟩) (3 + len0) (len0 + 3) a1 _ (by simp) (by simp) (by simp) (by simp) (by omega) (by omega) (k1.alloc _)).mono ?_
  rintro e w4 ⟨rfl, o, hw4⟩
  have hb4 : Below w.heap.size w w4 := by
    rw [hw4]
    exact ((hb3.alloc hs3 _).setCell (by simpa using hs3) _).alloc (by simp; omega) _
  have hb34 : Below w3.heap.size w3 w4 := by
    rw [hw4]
    exact (((Below.refl _ _).alloc (Nat.le_refl _) _).setCell (by simp) _).alloc (by simp) _
  have c40 : w4.cell? ⟨w3.heap.size, 0, none⟩ = some (.slice (some ⟨w.heap.size, 0, none⟩) (3 + len0) (len0 + 3)) := by
    rw [hw4]
    simp [go_sem]
  have c41 : w4.cell? ⟨w3.heap.size, 1, none⟩ = some (.int .i64 3) := by
    rw [hw4]
    simp [go_sem]
  have hr4 : w3.heap.size < w4.heap.size := by
    rw [hw4]
    simp
    omega
  have k4 := k2.below hb34
  have cv := (hs.below hb4).toStr cap0
  clear hw4 hb34 k1 k2 own4
  go_wp2_with fail
  have hsz : (strOfNums xs).size = len0 := by rw [strOfNums_size]; exact HL.out
  by_cases h3 : len0 = 0
  · have hsz0 : (strOfNums xs).size = 0 := by omega
    have c40' : w4.cell? ⟨w3.heap.size, 0, none⟩ = some (.slice (some ⟨w.heap.size, 0, none⟩) 3 3) := by rw [c40, h3]
    refine (looking_none w3.heap.size w.heap.size (strOfNums xs) w4 c40' c41 hr4 hsz0).mono ?_
    rintro e w5 ⟨rfl, hb5⟩
    clear hsz hsz0 h3 c40'
    go_wp2
    go_ret
    exact ⟨rfl, hb4.trans (hb5.mono hb4.size)⟩
  · refine (looking_more w3.heap.size w.heap.size (3 + len0) (len0 + 3) (strOfNums xs) w4 c40 c41 hr4 (by omega) (by omega) (by omega) (by omega) (by rw [hsz, nums_str xs hx]; exact k4)).mono ?_
    rintro e w5 ⟨rfl, hb5⟩
    clear hsz h3
    go_wp2
    go_ret
    exact ⟨rfl, hb4.trans (hb5.mono hb4.size)⟩

set_option maxHeartbeats 400000 in
theorem marked_long (a0 : Option Addr) (len0 cap0 : Nat) (a1 : Int) (w : World) (hlen : 1024 < len0) (_hm : len0 ≤ 9223372036854775807) :
    Calls Yba.prog 4 #[.slice a0 len0 cap0, .int .i64 a1] w fun e w' => e = .returned (.bool true) ∧ Below w.heap.size w w' := by
  go_enter Yba.func4, Yba.ntmps4
  go_wp2
  go_ret
  exact ⟨rfl, Below.refl _ _⟩

end Go.Proofs.Ybulkriq
