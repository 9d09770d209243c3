/-
  LawS0898BFresh, walked: on no way does it come to fmt.
-/
import Derived.Test.YbulkrooFmtRows
import Derived.WalkKit
import Derived.WalkSpells
import Derived.WalkLawsBesides
import Derived.Deep.RegionWith
namespace Go.RowKit

theorem Below.undrew {B : Nat} {w w1 : World} (h : Below B w.drew w1) : Below B w w1 := ⟨h.os, h.tape, h.output, h.size, h.block⟩

end Go.RowKit
namespace Go.Proofs.YbulkrooFmt
open Go.RowKit

theorem Ybaf.info5 : (Ybaf.prog.info? 5).map (fun i => (i.zero, i.size, i.bytes)) = some (some (.int .u8 0), 1, 1) := by kernel_rfl

set_option maxHeartbeats 400000 in
theorem errNew_any (s : ByteArray) (w : World) : Calls Ybaf.prog 13 #[.string s] w fun e w' => e = .returned (.iface 68 (.pointer (some ⟨w.heap.size, 0, none⟩))) ∧ Below w.heap.size w w' := by
  go_enter Ybaf.func13, Ybaf.ntmps13
  go_wp2
  go_ret
  exact ⟨rfl, (Below.refl _ _).alloc (Nat.le_refl _) _⟩

set_option maxHeartbeats 400000 in
theorem end_any (b : Nat) (w : World) (h5 : w.cell? ⟨b, 5, none⟩ = some .nilIface) (h2 : w.cell? ⟨b, 2, none⟩ = some (.int .i64 0)) :
    Calls Ybaf.prog 14 #[.pointer (some ⟨b, 0, none⟩)] w fun e w' => (∃ a, e = .returned (.tuple #[.int .i64 2, .iface 68 (.pointer (some a))])) ∧ Below w.heap.size w w' := by
  go_enter Ybaf.func14, Ybaf.ntmps14
  go_wp2_with (go_at_call 13; refine (errNew_any _ _).mono ?_; rintro e w' ⟨rfl, hb⟩)
  go_ret2
  exact ⟨⟨_, rfl⟩, hb⟩

set_option maxRecDepth 100000 in
set_option maxHeartbeats 1000000 in
theorem append16_any (g cap base : Nat) (v : Int) (w : World) (hv0 : 0 ≤ v) (hv1 : v ≤ 65535) (hcap : 2 ≤ cap) (hbase : base ≤ w.heap.size) (own : w.ownsRow base 5 1 (.slice (some ⟨g, 0, none⟩) 0 cap) 0 []) :
    Calls Ybaf.prog 44 #[.agg #[], .slice (some ⟨g, 0, none⟩) 0 cap, .int .u16 v] w fun e w' => e = .returned (.slice (some ⟨g, 0, none⟩) 2 cap) ∧ (∃ xs, w'.ownsRow base 5 1 (.slice (some ⟨g, 0, none⟩) 2 cap) 2 xs) ∧ Below base w w' := by
  obtain ⟨i0, hi, hz0, hz1, hz2⟩ := info_parts Ybaf.info5
  go_enter Ybaf.func44, Ybaf.ntmps44
  go_wp2_with (at_builtin; refine wpList_append_fits _ rfl (.tmp 7) (.tmp 13) 29 rfl base 5 i0 1 Ybaf.underlying29 hi hz1 g 0 cap [] rfl ((own.alloc _).alloc _) ⟨w.heap.size + 1, 0, none⟩ 2 2 [.int .u8 (v / 256), .int .u8 (v % 256)] rfl rfl ?c1 ?c2 (by omega) ?_)
  case c1 =>
    intro j u hj
    match j, hj with
    | 0, hj => simp at hj; subst hj; simp [Addr.add]
    | 1, hj => simp at hj; subst hj; simp [Addr.add]
  case c2 => intro u hu; simp at hu; rcases hu with rfl | rfl <;> rfl
  intro w1 own1 gr1
  have hg := own.lt g rfl
  have hb1 : Below base w w1 := (((Below.refl _ _).alloc hbase _).alloc (by simp; omega) _).grown gr1 (by simp; omega) (fun k h => by cases h; exact hg.1)
  clear gr1
  go_wp2
  go_ret
  exact ⟨rfl, ⟨_, own1⟩, hb1⟩

/-- The bytes that came in, as the law on append asks them. -/
def Bts (w : World) (p : Option Addr) (n : Nat) (xs : List Int) : Prop :=
  xs.length = n ∧ ∀ ad, p = some ad → ∀ j u, (xs.map (Value.int .u8))[j]? = some u → w.cell? (ad.add j) = some u

theorem Bts.below {B : Nat} {w w' : World} {p : Option Addr} {n : Nat} {xs : List Int} (h : Bts w p n xs) (hb : Below B w w') (hB : w.heap.size ≤ B) : Bts w' p n xs := by
  refine ⟨h.1, fun ad had j u hu => ?_⟩
  have := h.2 ad had j u hu
  rw [hb.cell (Nat.lt_of_lt_of_le (World.block_lt_of_cell? w _ this) hB)]
  exact this

/-- The new array's cells. -/
def made (n : Nat) : Array Value := madeCells (Value.int .u8 0).cells (2 + n)

theorem run_made (n : Nat) (hn : n ≤ 1024) (W : World) : (Instr.makeSlice 29 (.int .i64 0) (.int .i64 (2 + (n : Int)))).run Ybaf.prog W = .ok (.slice (some ⟨W.heap.size, 0, none⟩) 0 (2 + n)) (W.alloc (.cells (made n) 5)) := by
  obtain ⟨i0, hi, hz0, hz1, hz2⟩ := info_parts Ybaf.info5
  have h := run_make (P := Ybaf.prog) W 29 5 i0 (.int .u8 0) Ybaf.underlying29 hi hz0 .i64 .i64 0 (2 + (n : Int)) (by omega) (by omega) (by rw [hz2]; omega) (by omega)
  rw [h, hz1]
  have e : (2 + (n : Int)).toNat = 2 + n := by omega
  rw [e, Nat.mul_one]
  rfl

theorem made_own (n : Nat) (hn : n ≤ 1024) (w : World) : (w.alloc (.cells (made n) 5)).ownsRow w.heap.size 5 1 (.slice (some ⟨w.heap.size, 0, none⟩) 0 (2 + n)) 0 [] :=
  World.ownsRow_made w (made n) (2 + n) (Nat.le_refl _) (by unfold maxLen; omega) (by unfold made; rw [size_madeCells, Nat.mul_one])

set_option maxRecDepth 100000 in
set_option maxHeartbeats 1000000 in
theorem chain_any (p : Option Addr) (n c : Nat) (xs : List Int) (w : World) (hn : n ≤ 1024) (hx : Bts w p n xs) (hnone : p = none → n = 0 ∧ c = 0) :
    Calls Ybaf.prog 40 #[.slice p n c] w fun e w' => (∃ g m d, e = .returned (.tuple #[.slice (some ⟨g, 0, none⟩) m d, .nilIface])) ∧ Below w.heap.size w w' := by
  obtain ⟨i0, hi, hz0, hz1, hz2⟩ := info_parts Ybaf.info5
  have hd : decide ((65535 : Int) < (n : Int)) = false := decide_eq_false (by omega)
  go_enter Ybaf.func40, Ybaf.ntmps40
  go_wp2_with fail
  have hmk := run_made n hn
  have hw1 : IntKind.i64.wrap (2 + (n : Int)) = 2 + (n : Int) := by rw [IntKind.wrap_i64]; omega
  have hw2 : IntKind.u16.wrap (n : Int) = (n : Int) := by simp [IntKind.wrap, IntKind.bits, IntKind.signed]; omega
  go_region_with (go_at_call 44; refine (append16_any w.heap.size (2 + n) w.heap.size n _ (by omega) (by omega) (by omega) (by simp) (by exact made_own n hn w)).mono ?_; rintro e w1 ⟨rfl, ⟨xs1, own1⟩, hb1⟩)
  all_goals
    have b1 : Below w.heap.size w w1 := ((Below.refl _ _).alloc (Nat.le_refl _) _).trans hb1.undrew
    have hx1 := hx.below b1 (Nat.le_refl _)
    have hxl : xs.length = n := hx.1
    have HX : Hid (xs.length = n) := hxl
    clear hxl hmk hw1 hw2
    go_wp2_with (at_builtin; refine wpList_append_fits_any _ rfl (.tmp 22) (.tmp 23) 29 rfl w.heap.size 5 i0 1 Ybaf.underlying29 hi hz1 w.heap.size 2 (2 + n) _ rfl own1 p n c (xs.map (Value.int .u8)) rfl (by rw [List.length_map, Nat.mul_one]; exact HX.out) hnone hx1.2 (ints_oneCell _ _) (Nat.le_refl _) ?_)
    intro w2 own2 gr2
    have b2 : Below w.heap.size w w2 := b1.grown gr2 b1.size (fun k h => by cases h; exact Nat.le_refl _)
    clear gr2 own2
    go_wp2
    go_ret2
    exact ⟨⟨_, _, _, rfl⟩, b2⟩

theorem bcell {W w1 : World} (hb : Below W.heap.size W w1) : (∀ b o, b < W.heap.size → w1.cell? ⟨b, o, none⟩ = W.cell? ⟨b, o, none⟩) ∧ (∀ b o, b < W.heap.size → w1.frozen? ⟨b, o, none⟩ = W.frozen? ⟨b, o, none⟩) :=
  ⟨fun b o h => hb.cell (p := ⟨b, o, none⟩) h, fun b o h => hb.frozen (p := ⟨b, o, none⟩) h⟩

set_option maxRecDepth 100000 in
set_option maxHeartbeats 1000000 in
theorem chainReq_any (p : Option Addr) (n c : Nat) (xs : List Int) (w : World) (hn : n ≤ 1024) (hx : Bts w p n xs) (hnone : p = none → n = 0 ∧ c = 0) :
    Calls Ybaf.prog 29 #[.slice p n c] w fun e w' => (∃ g m d, e = .returned (.tuple #[.slice (some ⟨g, 0, none⟩) m d, .nilIface])) ∧ Below w.heap.size w w' := by
  have HX : Hid (Bts w p n xs) := hx
  clear hx
  go_enter Ybaf.func29, Ybaf.ntmps29
  go_wp2_with fail
  refine (chain_any p n c xs w hn HX.out hnone).mono ?_
  rintro e w1 ⟨⟨g, m, d, rfl⟩, hb1⟩
  clear hnone
  go_wp2
  go_ret2
  exact ⟨⟨_, _, _, rfl⟩, hb1⟩

set_option maxRecDepth 100000 in
set_option maxHeartbeats 1000000 in
theorem reply_any (p : Option Addr) (n c : Nat) (xs : List Int) (w : World) (hn : n ≤ 1024) (hx : Bts w p n xs) (hnone : p = none → n = 0 ∧ c = 0) :
    Calls Ybaf.prog 15 #[.slice p n c, .slice none 0 0] w fun e w' => e = .returned (.pointer (some ⟨w.heap.size, 0, none⟩)) ∧ w'.cell? ⟨w.heap.size, 5, none⟩ = some .nilIface ∧ w'.cell? ⟨w.heap.size, 2, none⟩ = some (.int .i64 0) ∧ Below w.heap.size w w' := by
  have HX : Hid (Bts w p n xs) := hx
  clear hx
  go_enter Ybaf.func15, Ybaf.ntmps15
  go_wp2_with fail
  refine (chainReq_any p n c xs _ hn (HX.out.below ((Below.refl w.heap.size _).alloc (Nat.le_refl _) _) (Nat.le_refl _)) hnone).mono ?_
  rintro e w1 ⟨⟨g, m, d, rfl⟩, hb1⟩
  obtain ⟨hc1, hf1⟩ := bcell hb1
  have hz1 := hb1.size
  clear hnone
  go_wp2
  go_ret
  refine ⟨rfl, ?_, ?_, ?_⟩
  · simp [go_sem, hc1]
  · simp [go_sem, hc1]
  · exact (((Below.refl _ _).alloc (Nat.le_refl _) _).trans (hb1.mono (by simp))).setCell (p := ⟨w.heap.size, 1, none⟩) (Nat.le_refl _) _

set_option maxHeartbeats 400000 in
theorem stream_any (w : World) :
    Calls Ybaf.prog 16 #[.slice none 0 0] w fun e w' => e = .returned (.pointer (some ⟨w.heap.size, 0, none⟩)) ∧ w'.cell? ⟨w.heap.size, 5, none⟩ = some .nilIface ∧ w'.cell? ⟨w.heap.size, 2, none⟩ = some (.int .i64 0) ∧ Below w.heap.size w w' := by
  go_enter Ybaf.func16, Ybaf.ntmps16
  go_wp2
  go_ret
  exact ⟨rfl, by simp, by simp, (Below.refl _ _).alloc (Nat.le_refl _) _⟩

set_option maxRecDepth 100000 in
set_option maxHeartbeats 1000000 in
theorem fresh_any (p : Option Addr) (n c : Nat) (xs : List Int) (r : Bool) (w : World) (hn : n ≤ 1024) (hx : Bts w p n xs) (hnone : p = none → n = 0 ∧ c = 0) :
    Calls Ybaf.prog 7 #[.slice p n c, .bool r] w fun e w' => e = .returned (.bool true) ∧ Below w.heap.size w w' := by
  have HX : Hid (Bts w p n xs) := hx
  have HN : Hid (p = none → n = 0 ∧ c = 0) := hnone
  have hd : decide ((1024 : Int) < (n : Int)) = false := decide_eq_false (by omega)
  clear hx hnone
  cases r with
  | true =>
    go_enter Ybaf.func7, Ybaf.ntmps7
    go_wp2_with fail
    refine (reply_any p n c xs _ hn HX.out HN.out).mono ?_
    rintro e w1 ⟨rfl, h5, h2, hb1⟩
    go_wp2_with fail
    refine (end_any w.heap.size w1 h5 h2).mono ?_
    rintro e w2 ⟨⟨a, rfl⟩, hb2⟩
    go_wp2
    go_ret
    exact ⟨rfl, hb1.trans (hb2.mono hb1.size)⟩
  | false =>
    go_enter Ybaf.func7, Ybaf.ntmps7
    go_wp2_with fail
    refine (stream_any _).mono ?_
    rintro e w1 ⟨rfl, h5, h2, hb1⟩
    go_wp2_with fail
    refine (end_any w.heap.size w1 h5 h2).mono ?_
    rintro e w2 ⟨⟨a, rfl⟩, hb2⟩
    go_wp2
    go_ret
    exact ⟨rfl, hb1.trans (hb2.mono hb1.size)⟩

set_option maxHeartbeats 400000 in
theorem fresh_long (p : Option Addr) (n c : Nat) (r : Bool) (w : World) (hn : 1024 < n) (_hm : n ≤ 9223372036854775807) :
    Calls Ybaf.prog 7 #[.slice p n c, .bool r] w fun e w' => e = .returned (.bool true) ∧ Below w.heap.size w w' := by
  go_enter Ybaf.func7, Ybaf.ntmps7
  go_wp2
  go_ret
  exact ⟨rfl, Below.refl _ _⟩

end Go.Proofs.YbulkrooFmt
