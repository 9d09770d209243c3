/-
  zzs0888adec and zzs0888ahex, walked.
-/
import Derived.Test.YbulkrjeDoorTrace
import Derived.Laws.BytesArg
namespace Go.Proofs.YbulkrjeDoor
open Go.RowKit

/-- An array of bytes at block g: cell j holds f j. -/
def Arr (W : World) (g N : Nat) (f : Nat → Int) : Prop := (∀ j, j < N → W.cell? ⟨g, j, none⟩ = some (.int .u8 (f j))) ∧ ∀ j, W.frozen? ⟨g, j, none⟩ = false

theorem Arr.set {W : World} {g N : Nat} {f : Nat → Int} (h : Arr W g N f) (k : Nat) (v : Int) : Arr (W.setCell ⟨g, k, none⟩ (.int .u8 v)) g N (fun j => if j = k then v else f j) := by
  refine ⟨fun j hj => ?_, fun j => ?_⟩
  · have := h.1 j hj
    by_cases hjk : j = k
    · subst hjk
      simp [go_sem, this]
    · simp [go_sem, this, hjk]
  · have := h.2 j
    simpa using this

theorem dig_bounds (c : Int) (h : dig c = true) : 0 ≤ c ∧ c ≤ 255 := by
  simp only [dig, Bool.and_eq_true, decide_eq_true_eq] at h
  omega
theorem hxd_bounds (c : Int) (h : hxd c = true) : 0 ≤ c ∧ c ≤ 255 := by
  simp only [hxd, dig, Bool.or_eq_true, Bool.and_eq_true, decide_eq_true_eq] at h
  omega

/-- What is read out of it as a string. -/
def outOf (f : Nat → Int) (k N : Nat) : List UInt8 := ((List.range (N - k)).map fun j => f (k + j)).map fun n => UInt8.ofNat n.toNat

theorem outOf_length (f : Nat → Int) (k N : Nat) : (outOf f k N).length = N - k := by simp [outOf]

theorem outOf_all {p : Int → Bool} {f : Nat → Int} {k N : Nat} (hk : k < N) (hp : ∀ c, p c = true → 0 ≤ c ∧ c ≤ 255) (h : ∀ j, k ≤ j → j < N → p (f j) = true) : Alls p (outOf f k N) := by
  refine ⟨fun e => ?_, fun x hx => ?_⟩
  · have := congrArg List.length e
    rw [outOf_length] at this
    simp at this
    omega
  · simp only [outOf, List.mem_map, List.mem_range] at hx
    obtain ⟨n, ⟨j, hj, rfl⟩, rfl⟩ := hx
    have hd := h (k + j) (by omega) (by omega)
    have hr := hp _ hd
    have e : ((UInt8.ofNat (f (k + j)).toNat).toNat : Int) = f (k + j) := by
      have : (f (k + j)).toNat < 256 := by omega
      simp [Nat.mod_eq_of_lt this]
      omega
    rw [e]
    exact hd

theorem run_out {W : World} {g N : Nat} {f : Nat → Int} (h : Arr W g N f) (k : Nat) (c : Nat) : (convert 34 9 (.slice (some ⟨g, k, none⟩) (N - k) c)).run Ybad.prog W = .ok (.string ⟨(outOf f k N).toArray⟩) W := by
  have := run_convert_bytes_arg (P := Ybad.prog) W 34 5 Ybad.underlying34 Ybad.underlying5 g k (N - k) c ((List.range (N - k)).map fun j => f (k + j)) (by simp) (fun i hi => by
    rw [h.1 (k + i) (by omega)]
    simp [List.getD, hi]) 9 Ybad.underlying9
  exact this

theorem Ybad.len46 : Ybad.prog.arrayLen 46 = 24 := by kernel_rfl
theorem Ybad.len48 : Ybad.prog.arrayLen 48 = 8 := by kernel_rfl
theorem Ybad.elem46 : Ybad.prog.elem 46 = 5 := by kernel_rfl
theorem Ybad.elem48 : Ybad.prog.elem 48 = 5 := by kernel_rfl
theorem Ybad.info5 : (Ybad.prog.info? 5).map (fun i => (i.zero, i.size, i.bytes)) = some (some (.int .u8 0), 1, 1) := by kernel_rfl
theorem size5 (W : World) : (Go.sizeOf 5).run Ybad.prog W = .ok 1 W := by
  obtain ⟨i0, hi, hz0, hz1, hz2⟩ := info_parts Ybad.info5
  simp [Go.sizeOf, typeInfo, hi, hz1]

theorem run_cut46 (W : World) (g k : Nat) (hk : k < 24) : (Instr.sliceAt 46 (.pointer (some ⟨g, 0, none⟩)) (some (.int .i64 (k : Int))) none none).run Ybad.prog W = .ok (.slice (some ⟨g, k, none⟩) (24 - k) (24 - k)) W := by
  have ht : Ybad.prog.underlying 46 = some (.array (Ybad.prog.arrayLen 46) (Ybad.prog.elem 46)) := by rw [Ybad.len46, Ybad.elem46]; exact Ybad.underlying46
  rw [run_sliceAt_array_l W 46 _ ht .i64 _ (by omega) (by rw [Ybad.len46]; omega), Ybad.elem46, size5, Ybad.len46]
  have : ¬ 24 = k := by omega
  simp [Result.andThen, slicedAt, Addr.add, this]
  exact fun h => h.symm

theorem run_cut48 (W : World) (g k : Nat) (hk : k < 8) : (Instr.sliceAt 48 (.pointer (some ⟨g, 0, none⟩)) (some (.int .i64 (k : Int))) none none).run Ybad.prog W = .ok (.slice (some ⟨g, k, none⟩) (8 - k) (8 - k)) W := by
  have ht : Ybad.prog.underlying 48 = some (.array (Ybad.prog.arrayLen 48) (Ybad.prog.elem 48)) := by rw [Ybad.len48, Ybad.elem48]; exact Ybad.underlying48
  rw [run_sliceAt_array_l W 48 _ ht .i64 _ (by omega) (by rw [Ybad.len48]; omega), Ybad.elem48, size5, Ybad.len48]
  have : ¬ 8 = k := by omega
  simp [Result.andThen, slicedAt, Addr.add, this]
  exact fun h => h.symm

set_option maxRecDepth 100000 in
set_option maxHeartbeats 1000000 in
theorem dec_any (n : Nat) (w : World) (hn : n ≤ 65535) :
    Calls Ybad.prog 8 #[.int .u64 (n : Int)] w fun e w' => (∃ l, e = .returned (.string ⟨l.toArray⟩) ∧ l.length ≤ 24 ∧ Alls dig l) ∧ Below w.heap.size w w' := by
  rcases Nat.eq_zero_or_pos n with rfl | hpos
  · go_enter Ybad.func8, Ybad.ntmps8
    go_wp2
    go_ret
    exact ⟨⟨[48], rfl, by decide, by simp, by simp [dig]⟩, Below.refl _ _⟩
  · have hz : ((n : Int) == 0) = false := by
      have : (n : Int) ≠ 0 := by omega
      simpa using this
    go_enter Ybad.func8, Ybad.ntmps8
    go_wp2_with fail
    go_loopw [0, 4] (fun s0 s4 wr => ∃ (a k m : Nat) (f : Nat → Int), s0 = .int .u64 (a : Int) ∧ s4 = .int .i64 (k : Int) ∧ Hid (k = 19 + m) ∧ m ≤ 5 ∧ Hid (a < 10 ^ m) ∧ Hid (k = 24 → 0 < a) ∧ Hid (Arr wr w.heap.size 24 f) ∧ Hid (∀ j, k ≤ j → j < 24 → dig (f j) = true) ∧ Below w.heap.size w wr) (fun s0 _ _ => (intOf s0).toNat)
    case atStart =>
      refine ⟨n, 24, 5, fun _ => 0, rfl, rfl, rfl, by omega, (by show n < 10 ^ 5; omega), (fun _ => hpos), ⟨?_, fun j => by simp⟩, (fun j h1 h2 => by omega), (Below.refl _ _).alloc (Nat.le_refl _) _⟩
      intro j hj
      rcases (show j = 0 ∨ j = 1 ∨ j = 2 ∨ j = 3 ∨ j = 4 ∨ j = 5 ∨ j = 6 ∨ j = 7 ∨ j = 8 ∨ j = 9 ∨ j = 10 ∨ j = 11 ∨ j = 12 ∨ j = 13 ∨ j = 14 ∨ j = 15 ∨ j = 16 ∨ j = 17 ∨ j = 18 ∨ j = 19 ∨ j = 20 ∨ j = 21 ∨ j = 22 ∨ j = 23 from by omega) with rfl | rfl | rfl | rfl | rfl | rfl | rfl | rfl | rfl | rfl | rfl | rfl | rfl | rfl | rfl | rfl | rfl | rfl | rfl | rfl | rfl | rfl | rfl | rfl <;> simp
    case round =>
      obtain ⟨a, k, m, f, rfl, rfl, hkm, hm, ham, hk24, harr, hdg, hb⟩ := hrel
      rcases Nat.eq_zero_or_pos a with rfl | hap
      · have hkk : k < 24 := by
          rcases Nat.lt_or_ge k 24 with h | h
          · exact h
          · exact absurd (hk24.out (by have := hkm.out; omega)) (by omega)
        have hout := run_out harr.out k (24 - k)
        have hcut := run_cut46 wr w.heap.size k hkk
        go_wp2
        go_ret
        exact ⟨⟨_, rfl, by rw [outOf_length]; omega, outOf_all hkk dig_bounds hdg.out⟩, hb⟩
      · obtain ⟨m, rfl⟩ : ∃ q, m = q + 1 := by
          cases m with
          | zero => exact absurd ham.out (by simp; omega)
          | succ q => exact ⟨q, rfl⟩
        obtain ⟨q, rfl⟩ : ∃ q, k = q + 1 := ⟨k - 1, by have := hkm.out; omega⟩
        have hq24 : q < 24 := by have := hkm.out; omega
        have hc := harr.out.1 q hq24
        have hf := harr.out.2 q
        have hgt : decide ((0 : Int) < (a : Int)) = true := decide_eq_true (by omega)
        have hw10 : IntKind.u64.wrap ((a : Int) / 10) = ((a / 10 : Nat) : Int) := by
          have h1 : a < 10 ^ 5 := Nat.lt_of_lt_of_le ham.out (Nat.pow_le_pow_right (by decide) hm)
          simp [IntKind.wrap, IntKind.bits, IntKind.signed]
          omega
        go_wp2
        go_roundw
        case rel =>
          refine ⟨a / 10, q, m, _, rfl, rfl, (by have := hkm.out; show q = 19 + m; omega), by omega, ?_, ?_, harr.out.set q _, ?_, hb.setCell (p := ⟨w.heap.size, q, none⟩) (Nat.le_refl _) _⟩
          · have := ham.out
            show a / 10 < 10 ^ m
            rw [Nat.pow_succ] at this
            omega
          · intro h
            exact absurd h (by omega)
          · intro j h1 h2
            show dig (if j = q then _ else f j) = true
            split
            · simp only [dig, Bool.and_eq_true, decide_eq_true_eq]
              omega
            · exact hdg.out j (by omega) h2
        case measure => simp [intOf]; omega

/-- The hex digits. -/
def hexs : List Int := [48, 49, 50, 51, 52, 53, 54, 55, 56, 57, 97, 98, 99, 100, 101, 102]

theorem hexs_ok : ∀ r < 16, hxd (hexs.getD r 0) = true := by decide

theorem idx_hex (r : Nat) (hr : r < 16) (W : World) : (Instr.index 9 (.string ⟨#[48, 49, 50, 51, 52, 53, 54, 55, 56, 57, 97, 98, 99, 100, 101, 102]⟩) (.int .u32 (r : Nat))).run Ybad.prog W = .ok (.int .u8 (hexs.getD r 0)) W := by
  rcases (show r = 0 ∨ r = 1 ∨ r = 2 ∨ r = 3 ∨ r = 4 ∨ r = 5 ∨ r = 6 ∨ r = 7 ∨ r = 8 ∨ r = 9 ∨ r = 10 ∨ r = 11 ∨ r = 12 ∨ r = 13 ∨ r = 14 ∨ r = 15 from by omega) with rfl | rfl | rfl | rfl | rfl | rfl | rfl | rfl | rfl | rfl | rfl | rfl | rfl | rfl | rfl | rfl
  all_goals kernel_rfl

set_option maxRecDepth 100000 in
set_option maxHeartbeats 1000000 in
theorem hex_any (n : Nat) (w : World) (hn : n ≤ 4294967295) :
    Calls Ybad.prog 10 #[.int .u32 (n : Int)] w fun e w' => (∃ l, e = .returned (.string ⟨l.toArray⟩) ∧ l.length ≤ 24 ∧ Alls hxd l) ∧ Below w.heap.size w w' := by
  rcases Nat.eq_zero_or_pos n with rfl | hpos
  · go_enter Ybad.func10, Ybad.ntmps10
    go_wp2
    go_ret
    exact ⟨⟨[48], rfl, by decide, by simp, by simp [hxd, dig]⟩, Below.refl _ _⟩
  · have hz : ((n : Int) == 0) = false := by
      have : (n : Int) ≠ 0 := by omega
      simpa using this
    go_enter Ybad.func10, Ybad.ntmps10
    go_wp2_with fail
    go_loopw [0, 5] (fun s0 s4 wr => ∃ (a k : Nat) (f : Nat → Int), s0 = .int .u32 (a : Int) ∧ s4 = .int .i64 (k : Int) ∧ k ≤ 8 ∧ Hid (a < 16 ^ k) ∧ Hid (k = 8 → 0 < a) ∧ Hid (Arr wr w.heap.size 8 f) ∧ Hid (∀ j, k ≤ j → j < 8 → hxd (f j) = true) ∧ Below w.heap.size w wr) (fun s0 _ _ => (intOf s0).toNat)
    case atStart =>
      refine ⟨n, 8, fun _ => 0, rfl, rfl, by omega, (by show n < 16 ^ 8; omega), (fun _ => hpos), ⟨?_, fun j => by simp⟩, (fun j h1 h2 => by omega), (Below.refl _ _).alloc (Nat.le_refl _) _⟩
      intro j hj
      rcases (show j = 0 ∨ j = 1 ∨ j = 2 ∨ j = 3 ∨ j = 4 ∨ j = 5 ∨ j = 6 ∨ j = 7 from by omega) with rfl | rfl | rfl | rfl | rfl | rfl | rfl | rfl <;> simp
    case round =>
      obtain ⟨a, k, f, rfl, rfl, hkm, ham, hk24, harr, hdg, hb⟩ := hrel
      rcases Nat.eq_zero_or_pos a with rfl | hap
      · have hkk : k < 8 := by
          rcases Nat.lt_or_ge k 8 with h | h
          · exact h
          · exact absurd (hk24.out (by omega)) (by omega)
        have hout := run_out harr.out k (8 - k)
        have hcut := run_cut48 wr w.heap.size k hkk
        go_wp2
        go_ret
        exact ⟨⟨_, rfl, by rw [outOf_length]; omega, outOf_all hkk hxd_bounds hdg.out⟩, hb⟩
      · obtain ⟨q, rfl⟩ : ∃ q, k = q + 1 := by
          cases k with
          | zero => exact absurd ham.out (by simp; omega)
          | succ q => exact ⟨q, rfl⟩
        have hq8 : q < 8 := by omega
        have hc := harr.out.1 q hq8
        have hf := harr.out.2 q
        have hgt : decide ((0 : Int) < (a : Int)) = true := decide_eq_true (by omega)
        have hlt : a < 16 ^ 8 := Nat.lt_of_lt_of_le ham.out (Nat.pow_le_pow_right (by decide) hkm)
        have hw16 : IntKind.u32.wrap ((a : Int) / 16) = ((a / 16 : Nat) : Int) := by
          simp [IntKind.wrap, IntKind.bits, IntKind.signed]
          omega
        obtain ⟨r, hr, hr16⟩ : ∃ r : Nat, (a : Int) % 16 = (r : Int) ∧ r < 16 := ⟨a % 16, by omega, by omega⟩
        have hidx := idx_hex r hr16
        have hxr := hexs_ok r hr16
        have HX : Hid (hxd (hexs.getD r 0) = true) := hxr
        clear hlt hxr
        go_wp2
        go_roundw
        case rel =>
          refine ⟨a / 16, q, _, rfl, rfl, by omega, ?_, ?_, harr.out.set q _, ?_, hb.setCell (p := ⟨w.heap.size, q, none⟩) (Nat.le_refl _) _⟩
          · have := ham.out
            show a / 16 < 16 ^ q
            rw [Nat.pow_succ] at this
            omega
          · intro h
            exact absurd h (by omega)
          · intro j h1 h2
            show hxd (if j = q then _ else f j) = true
            split
            · exact HX.out
            · exact hdg.out j (by omega) h2
        case measure => simp [intOf]; omega

end Go.Proofs.YbulkrjeDoor
