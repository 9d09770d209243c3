/-
  LawS0888AGrammar, walked.
-/
import Derived.Test.YbulkrjeDoorGrow
import Derived.Deep.CutBlock
namespace Go.Proofs.YbulkrjeDoor
open Go.RowKit
attribute [local go_sem] ext_list at_head tk1

/-- A slice of numbers that came in. -/
def Nums (w : World) (p : Option Addr) (n : Nat) (xs : List Int) : Prop :=
  xs.length = n ∧ (∀ x ∈ xs, 0 ≤ x ∧ x ≤ 65535) ∧ (0 < n → ∃ b o, p = some ⟨b, o, none⟩ ∧ ∀ i, i < n → w.cell? ⟨b, o + i, none⟩ = some (.int .u16 (xs.getD i 0)))

/-- Behind the first 'if'. -/
def Cut1 (n1 : Nat) (bs : List UInt8) (ts : List Tok) : Prop := (n1 = 0 ∧ Goes bs ts 0 ∧ bs.length ≤ 1 ∧ ts.length ≤ 1) ∨ (0 < n1 ∧ bs = [] ∧ ts = [])

/-- In the first loop. -/
def Inv1 (n1 j : Nat) (bs : List UInt8) (ts : List Tok) : Prop := ((n1 = 0 ∨ 0 < j) → Goes bs ts 0) ∧ (0 < n1 ∧ j = 0 → bs = [] ∧ ts = []) ∧ bs.length ≤ 1 + 25 * j ∧ ts.length ≤ 1 + j

theorem Inv1.start {n1 : Nat} {bs : List UInt8} {ts : List Tok} (h : Cut1 n1 bs ts) : Inv1 n1 0 bs ts := by
  rcases h with ⟨h1, h2, h3, h4⟩ | ⟨h1, rfl, rfl⟩
  · exact ⟨fun _ => h2, fun h => by omega, by omega, by omega⟩
  · exact ⟨fun h => by omega, fun _ => ⟨rfl, rfl⟩, by simp, by simp⟩

theorem nums_at {w wr : World} {p : Option Addr} {n : Nat} {xs : List Int} (h : Nums w p n xs) (hb : Below w.heap.size w wr) {j : Nat} (hj : j < n) :
    ∃ b o y, p = some ⟨b, o, none⟩ ∧ wr.cell? ⟨b, o + j, none⟩ = some (.int .u16 ((y : Nat) : Int)) ∧ y ≤ 65535 := by
  obtain ⟨hl, hx, hc0⟩ := h
  obtain ⟨b, o, rfl, hc⟩ := hc0 (by omega)
  have h1 := hc j hj
  have hm : xs.getD j 0 ∈ xs := by
    rw [List.getD_eq_getElem?_getD, List.getElem?_eq_getElem (by omega)]
    exact List.getElem_mem _
  have h2 := hx _ hm
  refine ⟨b, o, (xs.getD j 0).toNat, rfl, ?_, by omega⟩
  rw [hb.cell (World.block_lt_of_cell? w _ h1), h1, Int.toNat_of_nonneg h2.1]

theorem letter_at (k : Nat) (h0 : 0 < k) (h1 : k < 27) : ∃ c : UInt8, 97 + (k : Int) - 1 = (c.toNat : Int) ∧ low (c.toNat : Int) = true := by
  have e : ((UInt8.ofNat (96 + k)).toNat : Int) = 97 + (k : Int) - 1 := by
    have : 96 + k < 256 := by omega
    simp [Nat.mod_eq_of_lt this]
    omega
  refine ⟨UInt8.ofNat (96 + k), e.symm, ?_⟩
  rw [e]
  simp only [low, Bool.and_eq_true, decide_eq_true_eq]
  omega

theorem conv1 (W : World) (z : Int) (c : UInt8) (hz : z = (c.toNat : Int)) : (convert 34 9 (.slice (some ⟨W.heap.size, 0, none⟩) 1 1)).run Ybad.prog (W.alloc (.cells #[.int .u8 z] 5)) = .ok (.string ⟨#[c]⟩) (W.alloc (.cells #[.int .u8 z] 5)) := by
  subst hz
  have := run_convert_bytes_arg (P := Ybad.prog) (W.alloc (.cells #[.int .u8 (c.toNat : Int)] 5)) 34 5 Ybad.underlying34 Ybad.underlying5 W.heap.size 0 1 1 [(c.toNat : Int)] rfl (fun i hi => by
    obtain rfl : i = 0 := by omega
    simp) 9 Ybad.underlying9
  rw [this]
  simp [strOfNums]

theorem yields_ne {ts : List Tok} {bs : List UInt8} {p : Nat} (h : Yields ts 8 bs p []) (hp : p ≠ 8) : bs ≠ [] := by
  rintro rfl
  cases ts with
  | nil => exact hp h.1.symm
  | cons k ts =>
    obtain ⟨c, t, s', h1, _⟩ := h
    cases h1

theorem yields_ne' {ts : List Tok} {bs : List UInt8} {p : Nat} (h : Yields ts 8 bs p []) (hp : p ≠ 8) : ts ≠ [] := by
  rintro rfl
  exact hp h.1.symm

theorem yields_at {k : Tok} {p : Nat} : ∀ {ts : List Tok} {j : Nat} {prev : Nat} {s : List UInt8}, ts[j]? = some k → Yields (ts.drop j) prev s p [] → ∃ c t s', s = c :: t ∧ nxt c t prev = (k, s') ∧ Yields (ts.drop (j + 1)) k.part s' p []
  | [], j, _, _, h, _ => by simp at h
  | q :: ts, 0, _, _, h, hY => by
    simp at h
    subst h
    exact hY
  | q :: ts, j + 1, _, _, h, hY => yields_at (ts := ts) (j := j) (by simpa using h) hY

theorem after_next {W w' : World} {rb g : Nat} {v0 v1 : Value} (hb : Below W.heap.size ((W.setCell ⟨rb, 0, none⟩ v0).setCell ⟨rb, 1, none⟩ v1) w') (hg : g < W.heap.size) (hne : g ≠ rb) (o : Nat) : w'.cell? ⟨g, o, none⟩ = W.cell? ⟨g, o, none⟩ := by
  rw [hb.cell (p := ⟨g, o, none⟩) hg]
  refine World.cell?_of_block (a := ⟨g, o, none⟩) ?_
  rw [Below.heap_setCell _ _ _ _ hne, Below.heap_setCell _ _ _ _ hne]

/-- One part is read. -/
theorem next_tok {wA wB : World} {rb g : Nat} {c : UInt8} {t : List UInt8} {prev part rk : Nat} {tx s' : List UInt8} (hl : (c :: t).length ≤ 100000) (hp : prev ≤ 6 ∨ prev = 8) (hs : SufAt wB) (hrd : RdAt wB rb (c :: t) prev) (h0 : 0 < rb) (hn : nxt c t prev = (⟨part, tx, rk⟩, s')) (hg : g < wB.heap.size) (hne : g ≠ rb)
    (z : wB.cell? ⟨g, 0, none⟩ = some (.int .u8 (part : Nat)) ∧ wB.cell? ⟨g, 1, none⟩ = some (.string ⟨tx.toArray⟩) ∧ wB.cell? ⟨g, 2, none⟩ = some (.int .i64 (rk : Nat))) (W : World) (hW : W.heap = wB.heap) (hb : Below rb wA W) :
    Calls Ybad.prog 6 #[.pointer (some ⟨rb, 0, none⟩)] W fun e w' => e = .returned (.agg #[.int .u8 part, .string ⟨tx.toArray⟩, .int .i64 rk]) ∧ (RdAt w' rb s' part ∧ SufAt w' ∧ Below rb wA w') ∧
      w'.cell? ⟨g, 0, none⟩ = some (.int .u8 (part : Nat)) ∧ w'.cell? ⟨g, 1, none⟩ = some (.string ⟨tx.toArray⟩) ∧ w'.cell? ⟨g, 2, none⟩ = some (.int .i64 (rk : Nat)) := by
  have hrd' : RdAt W rb (c :: t) prev := by
    unfold RdAt World.cell? World.frozen? at *
    rw [hW]
    exact hrd
  have hs' : SufAt W := by
    unfold SufAt at *
    rw [hW]
    exact hs
  have hz : ∀ o, W.cell? ⟨g, o, none⟩ = wB.cell? ⟨g, o, none⟩ := fun o => by
    unfold World.cell?
    rw [hW]
  have hg' : g < W.heap.size := by rw [hW]; exact hg
  refine (next_any rb c t prev W hl hp hs' hrd'.1 hrd'.2.1 hrd'.2.2.1 hrd'.2.2.2).mono ?_
  rintro e w2 ⟨rfl, hb2⟩
  rw [hn] at hb2 ⊢
  refine ⟨rfl, rd_step hrd' hs' (Nat.le_refl _) h0 hb hb2, ?_⟩
  exact ⟨(after_next hb2 hg' hne 0).trans ((hz 0).trans z.1), (after_next hb2 hg' hne 1).trans ((hz 1).trans z.2.1), (after_next hb2 hg' hne 2).trans ((hz 2).trans z.2.2)⟩

theorem bytes_of {W : World} {B : Nat} {v : Value} {bs : List UInt8} (h : W.ownsRow B 5 1 v bs.length (byteCells bs)) (hne : bs ≠ []) :
    ∃ g c, v = .slice (some ⟨g, 0, none⟩) bs.length c ∧ (convert 34 9 (.slice (some ⟨g, 0, none⟩) bs.length c)).run Ybad.prog W = .ok (.string ⟨bs.toArray⟩) W := by
  have hpos : 0 < bs.length := List.length_pos_iff.2 hne
  have hc : ∀ g, v.ownBlock = some g → ∀ j u, (byteCells bs)[j]? = some u → W.cell? ((⟨g, 0, none⟩ : Addr).add j) = some u := fun g hg => h.cells hg
  rcases h.2 with ⟨_, h0⟩ | ⟨g, cap, cur, rfl, _⟩
  · omega
  · refine ⟨g, cap, rfl, ?_⟩
    have := run_convert_bytes_arg (P := Ybad.prog) W 34 5 Ybad.underlying34 Ybad.underlying5 g 0 bs.length cap (bs.map fun b => (b.toNat : Int)) (by simp) (fun i hi => by
      have e : (byteCells bs)[i]? = some (.int .u8 (bs[i].toNat : Int)) := by simp [byteCells, hi]
      have h1 := hc g rfl i _ e
      have hadd : (⟨g, 0, none⟩ : Addr).add i = ⟨g, 0 + i, none⟩ := by unfold Addr.add; split <;> simp_all
      rw [hadd] at h1
      rw [h1]
      simp [List.getD, hi]) 9 Ybad.underlying9
    rw [this]
    have e : ((bs.map fun b => (b.toNat : Int)).map fun n => UInt8.ofNat n.toNat) = bs := by
      rw [List.map_map]
      have : (fun n : Int => UInt8.ofNat n.toNat) ∘ (fun b : UInt8 => (b.toNat : Int)) = id := by
        funext b
        simp
      rw [this, List.map_id]
    unfold strOfNums
    rw [e]

theorem toksCells_at : ∀ (ts : List Tok) (j : Nat) (k : Tok), ts[j]? = some k → (toksCells ts)[j * 3]? = some (.int .u8 (k.part : Nat)) ∧ (toksCells ts)[j * 3 + 1]? = some (.string ⟨k.text.toArray⟩) ∧ (toksCells ts)[j * 3 + 2]? = some (.int .i64 (k.rank : Nat))
  | [], j, k, h => by simp at h
  | q :: ts, 0, k, h => by
    simp at h
    subst h
    exact ⟨rfl, rfl, rfl⟩
  | q :: ts, j + 1, k, h => by
    have h' : ts[j]? = some k := by simpa using h
    have ih := toksCells_at ts j k h'
    have e : ∀ i, (toksCells (q :: ts))[3 + i]? = (toksCells ts)[i]? := fun i => by
      show (tokCells q ++ toksCells ts)[3 + i]? = _
      rw [List.getElem?_append_right (by show 3 ≤ 3 + i; omega)]
      congr 1
      show 3 + i - 3 = i
      omega
    rw [show (j + 1) * 3 = 3 + j * 3 from by omega, show 3 + j * 3 + 1 = 3 + (j * 3 + 1) from by omega, show 3 + j * 3 + 2 = 3 + (j * 3 + 2) from by omega, e, e, e]
    exact ih

theorem toks_of {W : World} {B : Nat} {v : Value} {ts : List Tok} (h : W.ownsRow B 27 3 v ts.length (toksCells ts)) (hne : ts ≠ []) :
    ∃ g c, v = .slice (some ⟨g, 0, none⟩) ts.length c ∧ g < W.heap.size ∧ ∀ j k, ts[j]? = some k → W.cell? ⟨g, j * 3, none⟩ = some (.int .u8 (k.part : Nat)) ∧ W.cell? ⟨g, j * 3 + 1, none⟩ = some (.string ⟨k.text.toArray⟩) ∧ W.cell? ⟨g, j * 3 + 2, none⟩ = some (.int .i64 (k.rank : Nat)) := by
  have hpos : 0 < ts.length := List.length_pos_iff.2 hne
  have hc : ∀ g, v.ownBlock = some g → ∀ j u, (toksCells ts)[j]? = some u → W.cell? ((⟨g, 0, none⟩ : Addr).add j) = some u := fun g hg => h.cells hg
  have hlt := h.lt
  rcases h.2 with ⟨_, h0⟩ | ⟨g, cap, cur, rfl, _⟩
  · omega
  · refine ⟨g, cap, rfl, (hlt g rfl).2, fun j k hk => ?_⟩
    obtain ⟨e0, e1, e2⟩ := toksCells_at ts j k hk
    have hadd : ∀ i, (⟨g, 0, none⟩ : Addr).add i = ⟨g, i, none⟩ := fun i => by unfold Addr.add; split <;> simp_all
    have f0 := hc g rfl _ _ e0
    have f1 := hc g rfl _ _ e1
    have f2 := hc g rfl _ _ e2
    rw [hadd] at f0 f1 f2
    exact ⟨f0, f1, f2⟩

set_option maxRecDepth 100000 in
set_option maxHeartbeats 4000000 in
theorem grammar_any (p1 : Option Addr) (n1 c1 : Nat) (xs1 : List Int) (letter : Nat) (p2 : Option Addr) (n2 c2 : Nat) (xs2 : List Int) (hash : Nat) (hh : Bool) (rev : Nat) (hr : Bool) (w : World)
    (hn1 : n1 ≤ 300) (hn2 : n2 ≤ 300) (hx1 : Hid (Nums w p1 n1 xs1)) (hx2 : Hid (Nums w p2 n2 xs2)) (hl : letter ≤ 255) (hhash : hash ≤ 4294967295) (hrev : rev ≤ 65535) (hsuf : Hid (SufAt w)) :
    Calls Ybad.prog 4 #[.slice p1 n1 c1, .int .u8 (letter : Nat), .slice p2 n2 c2, .int .u32 (hash : Nat), .bool hh, .int .u16 (rev : Nat), .bool hr] w fun e w' => e = .returned (.bool true) ∧ Below w.heap.size w w' := by
  have hd1 : decide ((300 : Int) < (n1 : Int)) = false := decide_eq_false (by omega)
  have hd2 : decide ((300 : Int) < (n2 : Int)) = false := decide_eq_false (by omega)
  go_enter Ybad.func4, Ybad.ntmps4
  go_upto_region 5 with fail
  go_cut [15, 16, 42] (fun s15 s16 s42 W => s42 = .bool ((n1 : Int) == 0) ∧ Hid (St w W s15 s16 [] []))
  case first =>
    go_wp2_with fail
    go_meet
    exact ⟨rfl, st_nil w⟩
  case rest =>
    obtain ⟨rfl, HS0⟩ := hcut
    go_upto_if 42 with fail
    go_cut [15, 16] (fun s15 s16 W => ∃ bs ts, Hid (St w W s15 s16 bs ts) ∧ Hid (Cut1 n1 bs ts))
    case first =>
      rcases Nat.eq_zero_or_pos n1 with rfl | hpos
      · go_wp2_with (at_builtin; refine wp_byte HS0 48 rfl rfl (.tmp 43) (.tmp 44) rfl rfl rfl (by decide) ?_)
        intro v1 w1 HS1
        go_wp2_with (at_builtin; refine wp_part HS1 ⟨0, [48], 0⟩ rfl rfl rfl rfl (.tmp 46) (.tmp 48) rfl rfl rfl (by decide) ?_)
        intro v2 w2 HS2
        go_wp2_with fail
        go_meet
        exact ⟨_, _, HS2, .inl ⟨rfl, Goes.num8 (by simp [dig]), by simp, by simp⟩⟩
      · have hz : ((n1 : Int) == 0) = false := by
          have : (n1 : Int) ≠ 0 := by omega
          simpa using this
        go_wp2_with fail
        go_meet
        exact ⟨_, _, HS0, .inr ⟨hpos, rfl, rfl⟩⟩
    case rest =>
      clear HS0
      obtain ⟨bs, ts, HS, HC⟩ := hcut
      go_upto_block 0 with fail
      go_cut [15, 16] (fun s15 s16 W => ∃ bs ts, Hid (St w W s15 s16 bs ts) ∧ Hid (Goes bs ts 0) ∧ Hid (bs.length ≤ 7501 ∧ ts.length ≤ 301))
      case first =>
        go_wp2_with fail
        go_loopw [15, 16, 52] (fun s15 s16 s52 wr => ∃ (j : Nat) (bs : List UInt8) (ts : List Tok), s52 = .int .i64 (j : Int) ∧ j ≤ n1 ∧ Hid (St w wr s15 s16 bs ts) ∧ Hid (Inv1 n1 j bs ts)) (fun _ _ s52 _ => n1 - (intOf s52).toNat)
        case atStart => exact ⟨0, bs, ts, rfl, Nat.zero_le _, HS, Inv1.start HC.out⟩
        case round =>
          clear HS HC
          obtain ⟨j, bs, ts, rfl, hj, HS, HI⟩ := hrel
          rcases Nat.lt_or_ge j n1 with hlt | hge
          · obtain ⟨b, o, y, rfl, hc, hy⟩ := nums_at hx1.out HS.out.k hlt
            have hlt' : decide ((j : Int) < (n1 : Int)) = true := decide_eq_true (by omega)
            go_wp2_with fail
            refine (dec_any y _ hy).mono ?_
            rintro e w1 ⟨⟨d, rfl, hdl, hda⟩, hb1⟩
            have HS1 : Hid (St w w1 u15 u16 bs ts) := HS.out.below hb1
            have HD : Hid (Alls dig d) := hda
            obtain ⟨i1, i2, i3, i4⟩ := HI.out
            clear HS hda HI
            rcases Nat.eq_zero_or_pos j with rfl | hpos
            · obtain ⟨rfl, rfl⟩ := i2 ⟨by omega, rfl⟩
              clear i1 i2 i3 i4
              go_wp2_with (at_builtin; refine wp_str HS1 d rfl (.tmp 65) (.tmp 66) rfl rfl rfl (by simp; omega) ?_)
              intro v2 w2 HS2
              go_wp2_with (at_builtin; refine wp_part HS2 ⟨0, d, 0⟩ rfl rfl rfl rfl (.tmp 68) (.tmp 71) rfl rfl rfl (by decide) ?_)
              intro v3 w3 HS3
              go_wp2
              go_roundw
              case rel =>
                refine ⟨1, _, _, rfl, by omega, HS3, fun _ => ?_, fun h => absurd h.2 (by decide), by simp; omega, by simp⟩
                have HDo := HD.out
                cases d with
                | nil => exact absurd rfl HDo.1
                | cons c x => exact Goes.num8 HDo.2
              case measure => simp [intOf]; omega
            · have hpos' : decide ((0 : Int) < (j : Int)) = true := decide_eq_true (by omega)
              have HG : Hid (Goes bs ts 0) := i1 (.inr hpos)
              clear i1 i2
              go_wp2_with (at_builtin; refine wp_byte HS1 46 rfl rfl (.tmp 62) (.tmp 63) rfl rfl rfl (by omega) ?_)
              intro v4 w4 HS4
              go_wp2_with (at_builtin; refine wp_str HS4 d rfl (.tmp 65) (.tmp 66) rfl rfl rfl (by simp; omega) ?_)
              intro v2 w2 HS2
              go_wp2_with (at_builtin; refine wp_part HS2 ⟨0, d, 0⟩ rfl rfl rfl rfl (.tmp 68) (.tmp 71) rfl rfl rfl (by omega) ?_)
              intro v3 w3 HS3
              go_wp2
              go_roundw
              case rel =>
                refine ⟨j + 1, _, _, by go_num, by omega, HS3, fun _ => ?_, fun h => absurd h.2 (by omega), by simp; omega, by simp; omega⟩
                exact HG.out.num0 HD.out
              case measure => simp [intOf]; omega
          · obtain rfl : j = n1 := by omega
            go_wp2_with fail
            go_meet
            obtain ⟨i1, i2, i3, i4⟩ := HI.out
            exact ⟨bs, ts, HS, i1 (by omega), (by omega : bs.length ≤ 7501 ∧ ts.length ≤ 301)⟩
      case rest =>
        clear HS HC
        obtain ⟨bs, ts, HS, HG, HL⟩ := hcut
        obtain ⟨k, hk, hk27⟩ : ∃ k : Nat, (letter : Int) % 27 = (k : Int) ∧ k < 27 := ⟨letter % 27, by omega, by omega⟩
        go_upto_if 77 with fail
        go_cut [15, 16, 20] (fun s15 s16 _ W => ∃ bs ts p, Hid (St w W s15 s16 bs ts) ∧ Hid (Goes bs ts p) ∧ Hid (p ≤ 1 ∧ bs.length ≤ 7502 ∧ ts.length ≤ 302))
        case first =>
          rcases Nat.eq_zero_or_pos k with rfl | hpos
          · go_wp2_with fail
            go_meet
            obtain ⟨l1, l2⟩ := HL.out
            exact ⟨bs, ts, 0, HS, HG, (by omega : 0 ≤ 1 ∧ bs.length ≤ 7502 ∧ ts.length ≤ 302)⟩
          · have hz : ((k : Int) != 0) = true := by
              have : (k : Int) ≠ 0 := by omega
              simpa using this
            obtain ⟨c, hc, hlow⟩ := letter_at k hpos hk27
            have hconv := fun W => conv1 W (97 + (k : Int) - 1) c hc
            have HCc : Hid (97 + (k : Int) - 1 = (c.toNat : Int)) := hc
            have HLow : Hid (low (c.toNat : Int) = true) := hlow
            obtain ⟨l1, l2⟩ := HL.out
            clear hc hlow HL
            go_wp2_with (at_builtin; refine wp_byte HS c HCc.out rfl (.tmp 81) (.tmp 83) rfl rfl rfl (by omega) ?_)
            intro v1 w1 HS1
            have HS1' : Hid (St w (w1.alloc (Obj.cells #[Value.int IntKind.u8 (97 + (k : Int) - 1)] 5)) v1 u16 (bs ++ [c]) ts) := HS1.out.alloc _
            go_wp2_with (at_builtin; refine wp_part' HS1' ⟨1, [c], 0⟩ (w1.heap.size + 1) (by simp) rfl rfl rfl rfl (.tmp 85) (.tmp 90) rfl rfl rfl (by omega) ?_)
            intro v2 w2 HS2
            go_wp2_with fail
            go_meet
            exact ⟨_, _, 1, HS2, HG.out.letter HLow.out, ⟨by omega, by simp; omega, by simp; omega⟩⟩
        case rest =>
          clear HS HG HL
          obtain ⟨bs, ts, p, HS, HG, HL⟩ := hcut
          go_upto_block 2 with fail
          go_cut [15, 16] (fun s15 s16 W => ∃ bs ts p, Hid (St w W s15 s16 bs ts) ∧ Hid (Goes bs ts p) ∧ Hid (p ≤ 3 ∧ bs.length ≤ 7502 + 9000 ∧ ts.length ≤ 302 + 600))
          case first =>
            go_wp2_with fail
            go_loopw [15, 16, 94] (fun s15 s16 s94 wr => ∃ (j : Nat) (bs : List UInt8) (ts : List Tok) (p : Nat), s94 = .int .i64 (j : Int) ∧ j ≤ n2 ∧ Hid (St w wr s15 s16 bs ts) ∧ Hid (Goes bs ts p) ∧ Hid (p ≤ 3 ∧ bs.length ≤ 7502 + 30 * j ∧ ts.length ≤ 302 + 2 * j)) (fun _ _ s94 _ => n2 - (intOf s94).toNat)
            case atStart =>
              obtain ⟨l1, l2, l3⟩ := HL.out
              exact ⟨0, bs, ts, p, rfl, Nat.zero_le _, HS, HG, (by omega : p ≤ 3 ∧ bs.length ≤ 7502 + 30 * 0 ∧ ts.length ≤ 302 + 2 * 0)⟩
            case round =>
              clear HS HG HL
              obtain ⟨j, bs, ts, p, rfl, hj, HS, HG, HL⟩ := hrel
              rcases Nat.lt_or_ge j n2 with hlt | hge
              · obtain ⟨b, o, y, rfl, hc, hy⟩ := nums_at hx2.out HS.out.k hlt
                have hlt' : decide ((j : Int) < (n2 : Int)) = true := decide_eq_true (by omega)
                obtain ⟨m, hm, hm9⟩ : ∃ m : Nat, (y : Int) % 9 = (m : Int) ∧ m < 9 := ⟨y % 9, by omega, by omega⟩
                go_wp2_with fail
                refine (name_any m hm9 _).mono ?_
                rintro e w1 ⟨rfl, hb1⟩
                have HS1 : Hid (St w w1 u15 u16 bs ts) := HS.out.below hb1
                obtain ⟨l1, l2, l3⟩ := HL.out
                have hnl := sufs_len m hm9
                have HG2 := HG.out.suf l1 hm9
                obtain ⟨nm, hnm⟩ : ∃ nm, nm = sufs.getD m [] := ⟨_, rfl⟩
                rw [← hnm] at hnl HG2 ⊢
                have HGs : Hid (Goes (bs ++ 95 :: nm) (ts ++ [⟨2, nm, m⟩]) 2) := HG2
                clear HS HG HL hnm HG2
                obtain ⟨q, hq⟩ : ∃ q : Int, bits .and .u16 (y : Int) 256 = q := ⟨_, rfl⟩
                go_wp2_with (at_builtin; refine wp_byte HS1 95 rfl rfl (.tmp 103) (.tmp 104) rfl rfl rfl (by omega) ?_)
                intro v2 w2 HS2
                go_wp2_with (at_builtin; refine wp_str HS2 nm rfl (.tmp 106) (.tmp 107) rfl rfl rfl (by simp; omega) ?_)
                intro v3 w3 HS3
                go_wp2_with (at_builtin; refine wp_part HS3 ⟨2, nm, m⟩ rfl rfl rfl rfl (.tmp 109) (.tmp 113) rfl rfl rfl (by omega) ?_)
                intro v4 w4 HS4
                by_cases hq0 : q = 0
                · have hqb : (q != 0) = false := by simp [hq0]
                  subst hq0
                  go_wp2
                  go_roundw
                  case rel => exact ⟨j + 1, _, _, 2, by go_num, by omega, HS4, HGs, ⟨by omega, by simp; omega, by simp; omega⟩⟩
                  case measure => simp [intOf]; omega
                · have hqb : (q != 0) = true := by simp [hq0]
                  obtain ⟨y2, hy2, hy2b⟩ : ∃ y2 : Nat, (y : Int) / 512 = (y2 : Int) ∧ y2 ≤ 65535 := ⟨y / 512, by omega, by omega⟩
                  go_wp2_with fail
                  refine (dec_any y2 _ hy2b).mono ?_
                  rintro e w5 ⟨⟨d, rfl, hdl, hda⟩, hb5⟩
                  have HS5 : Hid (St w w5 v3 v4 (bs ++ 95 :: nm) (ts ++ [⟨2, nm, m⟩])) := HS4.out.below hb5
                  have hgn : Goes (bs ++ 95 :: (nm ++ d)) (ts ++ [⟨2, nm, m⟩, ⟨3, d, 0⟩]) 3 := by simpa using HGs.out.sufnum hda
                  have HGn : Hid (Goes (bs ++ 95 :: (nm ++ d)) (ts ++ [⟨2, nm, m⟩, ⟨3, d, 0⟩]) 3) := hgn
                  clear hgn
                  clear hda HS4 HGs
                  go_wp2_with (at_builtin; refine wp_str HS5 d rfl (.tmp 122) (.tmp 123) rfl rfl rfl (by simp; omega) ?_)
                  intro v6 w6 HS6
                  go_wp2_with (at_builtin; refine wp_part HS6 ⟨3, d, 0⟩ rfl rfl rfl rfl (.tmp 125) (.tmp 128) rfl rfl rfl (by simp; omega) ?_)
                  intro v7 w7 HS7
                  go_wp2
                  go_roundw
                  case rel => exact ⟨j + 1, _, _, 3, by go_num, by omega, HS7, HGn, ⟨by omega, by simp; omega, by simp; omega⟩⟩
                  case measure => simp [intOf]; omega
              · obtain rfl : j = n2 := by omega
                go_wp2_with fail
                go_meet
                obtain ⟨l1, l2, l3⟩ := HL.out
                exact ⟨bs, ts, p, HS, HG, (by omega : p ≤ 3 ∧ bs.length ≤ 7502 + 9000 ∧ ts.length ≤ 302 + 600)⟩
          case rest =>
            clear HS HG HL
            obtain ⟨bs, ts, p, HS, HG, HL⟩ := hcut
            go_upto_if 131 with fail
            go_cut [15, 16] (fun s15 s16 W => ∃ bs ts p, Hid (St w W s15 s16 bs ts) ∧ Hid (Goes bs ts p) ∧ Hid (p ≤ 4 ∧ bs.length ≤ 16600 ∧ ts.length ≤ 903))
            case first =>
              obtain ⟨l1, l2, l3⟩ := HL.out
              cases hh with
              | false =>
                go_wp2_with fail
                go_meet
                exact ⟨bs, ts, p, HS, HG, (by omega : p ≤ 4 ∧ bs.length ≤ 16600 ∧ ts.length ≤ 903)⟩
              | true =>
                go_wp2_with fail
                refine (hex_any hash _ hhash).mono ?_
                rintro e w1 ⟨⟨d, rfl, hdl, hda⟩, hb1⟩
                have HS1 : Hid (St w w1 u15 u16 bs ts) := HS.out.below hb1
                have HGh : Hid (Goes (bs ++ 126 :: d) (ts ++ [⟨4, d, 0⟩]) 4) := HG.out.hash l1 hda
                clear HS HG hda
                go_wp2_with (at_builtin; refine wp_byte HS1 126 rfl rfl (.tmp 134) (.tmp 135) rfl rfl rfl (by omega) ?_)
                intro v2 w2 HS2
                go_wp2_with (at_builtin; refine wp_str HS2 d rfl (.tmp 137) (.tmp 138) rfl rfl rfl (by simp; omega) ?_)
                intro v3 w3 HS3
                go_wp2_with (at_builtin; refine wp_part HS3 ⟨4, d, 0⟩ rfl rfl rfl rfl (.tmp 140) (.tmp 143) rfl rfl rfl (by omega) ?_)
                intro v4 w4 HS4
                go_wp2_with fail
                go_meet
                exact ⟨_, _, 4, HS4, HGh, ⟨by omega, by simp; omega, by simp; omega⟩⟩
            case rest =>
              clear HS HG HL
              obtain ⟨bs, ts, p, HS, HG, HL⟩ := hcut
              go_upto_if 145 with fail
              go_cut [15, 16] (fun s15 s16 W => ∃ bs ts p, Hid (St w W s15 s16 bs ts) ∧ Hid (Goes bs ts p) ∧ Hid (p ≤ 5 ∧ bs.length ≤ 16700 ∧ ts.length ≤ 904))
              case first =>
                obtain ⟨l1, l2, l3⟩ := HL.out
                cases hr with
                | false =>
                  go_wp2_with fail
                  go_meet
                  exact ⟨bs, ts, p, HS, HG, (by omega : p ≤ 5 ∧ bs.length ≤ 16700 ∧ ts.length ≤ 904)⟩
                | true =>
                  go_wp2_with fail
                  refine (dec_any rev _ hrev).mono ?_
                  rintro e w1 ⟨⟨d, rfl, hdl, hda⟩, hb1⟩
                  have HS1 : Hid (St w w1 u15 u16 bs ts) := HS.out.below hb1
                  have HGh : Hid (Goes (bs ++ 45 :: 114 :: d) (ts ++ [⟨5, d, 0⟩]) 5) := HG.out.rev l1 hda
                  clear HS HG hda
                  go_wp2_with (at_builtin; refine wp_byte2 HS1 45 114 rfl rfl rfl (.tmp 149) (.tmp 150) rfl rfl rfl (by omega) ?_)
                  intro v2 w2 HS2
                  go_wp2_with (at_builtin; refine wp_str HS2 d rfl (.tmp 152) (.tmp 153) rfl rfl rfl (by simp; omega) ?_)
                  intro v3 w3 HS3
                  go_wp2_with (at_builtin; refine wp_part HS3 ⟨5, d, 0⟩ rfl rfl rfl rfl (.tmp 155) (.tmp 158) rfl rfl rfl (by omega) ?_)
                  intro v4 w4 HS4
                  go_wp2_with fail
                  go_meet
                  exact ⟨_, _, 5, HS4, HGh, ⟨by omega, by simp; omega, by simp; omega⟩⟩
              case rest =>
                clear HS HG HL
                obtain ⟨bs, ts, p, HS, HG, HL⟩ := hcut
                obtain ⟨l1, l2, l3⟩ := HL.out
                have hY := HG.out.whole
                have hne : bs ≠ [] := yields_ne hY (by omega)
                obtain ⟨gb, cb, rfl, hconv⟩ := bytes_of HS.out.b hne
                obtain ⟨gw, cw, rfl, hgw, hcells⟩ := toks_of HS.out.t (yields_ne' hY (by omega))
                have HY : Hid (Yields ts 8 bs p []) := hY
                have HT : Hid (∀ j k, ts[j]? = some k → wc.cell? ⟨gw, j * 3, none⟩ = some (.int .u8 (k.part : Nat)) ∧ wc.cell? ⟨gw, j * 3 + 1, none⟩ = some (.string ⟨k.text.toArray⟩) ∧ wc.cell? ⟨gw, j * 3 + 2, none⟩ = some (.int .i64 (k.rank : Nat))) := hcells
                have HB : Hid (Below w.heap.size w wc) := HS.out.k
                have HSuf : Hid (SufAt wc) := hsuf.out.below HS.out.k (Nat.le_refl _)
                clear HS HG HL hY hcells
                go_wp2_with fail
                refine (nvr_any _ _).mono ?_
                rintro e w1 ⟨rfl, hb1⟩
                go_wp2_with fail
                have s1 := hb1.size
                have hrd : RdAt (w1.alloc (Obj.cells #[Value.string { data := bs.toArray }, Value.int IntKind.u8 8] 24)) w1.heap.size bs 8 := ⟨by simp, by simp, by simp, by simp⟩
                have hbA : Below wc.heap.size wc (w1.alloc (Obj.cells #[Value.string { data := bs.toArray }, Value.int IntKind.u8 8] 24)) := hb1.alloc s1 _
                have hsA : SufAt (w1.alloc (Obj.cells #[Value.string { data := bs.toArray }, Value.int IntKind.u8 8] 24)) := HSuf.out.below hbA (Nat.le_refl _)
                have hgr : gw < w1.heap.size := by omega
                have hw0 : 0 < w1.heap.size := by omega
                have hwr : w.heap.size ≤ w1.heap.size := Nat.le_trans HB.out.size s1
                have hTA := HT.out
                have hTA' : ∀ j k, ts[j]? = some k → (w1.alloc (Obj.cells #[Value.string { data := bs.toArray }, Value.int IntKind.u8 8] 24)).cell? ⟨gw, j * 3, none⟩ = some (.int .u8 (k.part : Nat)) ∧ (w1.alloc (Obj.cells #[Value.string { data := bs.toArray }, Value.int IntKind.u8 8] 24)).cell? ⟨gw, j * 3 + 1, none⟩ = some (.string ⟨k.text.toArray⟩) ∧ (w1.alloc (Obj.cells #[Value.string { data := bs.toArray }, Value.int IntKind.u8 8] 24)).cell? ⟨gw, j * 3 + 2, none⟩ = some (.int .i64 (k.rank : Nat)) := fun j k h => by
                  obtain ⟨e0, e1, e2⟩ := hTA j k h
                  exact ⟨(hbA.cell (p := ⟨gw, _, none⟩) hgw).trans e0, (hbA.cell (p := ⟨gw, _, none⟩) hgw).trans e1, (hbA.cell (p := ⟨gw, _, none⟩) hgw).trans e2⟩
                have hbw : Below w.heap.size w (w1.alloc (Obj.cells #[Value.string { data := bs.toArray }, Value.int IntKind.u8 8] 24)) := HB.out.trans (hbA.mono HB.out.size)
                have hsz : (w1.alloc (Obj.cells #[Value.string { data := bs.toArray }, Value.int IntKind.u8 8] 24)).heap.size = w1.heap.size + 1 := by simp
                generalize w1.alloc (Obj.cells #[Value.string { data := bs.toArray }, Value.int IntKind.u8 8] 24) = wA at *
                generalize w1.heap.size = rb at *
                have HRd : Hid (RdAt wA rb bs 8) := hrd
                have HSA : Hid (SufAt wA) := hsA
                have HTA : Hid (∀ j k, ts[j]? = some k → wA.cell? ⟨gw, j * 3, none⟩ = some (.int .u8 (k.part : Nat)) ∧ wA.cell? ⟨gw, j * 3 + 1, none⟩ = some (.string ⟨k.text.toArray⟩) ∧ wA.cell? ⟨gw, j * 3 + 2, none⟩ = some (.int .i64 (k.rank : Nat))) := hTA'
                have HBw : Hid (Below w.heap.size w wA) := hbw
                clear hrd hsA hTA hTA' hbw hbA hb1 hconv HT HB HSuf s1 hgw
                go_loopw [165] (fun s165 wr => ∃ (j : Nat) (rest : List UInt8) (prev : Nat), s165 = .int .i64 (j : Int) ∧ j ≤ ts.length ∧ rest.length ≤ bs.length ∧ Hid (prev ≤ 6 ∨ prev = 8) ∧ Hid (Yields (ts.drop j) prev rest p []) ∧ Hid (RdAt wr rb rest prev) ∧ Hid (SufAt wr) ∧ Hid (Below rb wA wr)) (fun s165 _ => ts.length - (intOf s165).toNat)
                case atStart => exact ⟨0, bs, 8, rfl, Nat.zero_le _, Nat.le_refl _, .inr rfl, HY, HRd, HSA, Below.refl _ _⟩
                case round =>
                  clear HRd HY
                  obtain ⟨j, rest, prev, rfl, hj, hrl, hprev, HY, hrd, hs, hb⟩ := hrel
                  obtain ⟨r0, r1, f0, f1⟩ := hrd.out
                  rcases Nat.lt_or_ge j ts.length with hlt | hge
                  · have hlt' : decide ((j : Int) < (ts.length : Int)) = true := decide_eq_true (by omega)
                    obtain ⟨k, hk⟩ : ∃ k, ts[j]? = some k := ⟨ts[j], List.getElem?_eq_getElem hlt⟩
                    obtain ⟨c, t, s', rfl, hnx, hY'⟩ := yields_at hk HY.out
                    have hrl1 : t.length + 1 ≤ bs.length := hrl
                    have HL5 : Hid ((c :: t).length ≤ 100000) := (show t.length + 1 ≤ 100000 by omega)
                    clear hrl
                    obtain ⟨e0, e1, e2⟩ := HTA.out j k hk
                    have d0 : wr.cell? ⟨gw, j * 3, none⟩ = _ := (hb.out.cell (p := ⟨gw, j * 3, none⟩) hgr).trans e0
                    have d1 : wr.cell? ⟨gw, j * 3 + 1, none⟩ = _ := (hb.out.cell (p := ⟨gw, j * 3 + 1, none⟩) hgr).trans e1
                    have d2 : wr.cell? ⟨gw, j * 3 + 2, none⟩ = _ := (hb.out.cell (p := ⟨gw, j * 3 + 2, none⟩) hgr).trans e2
                    clear e0 e1 e2 hk
                    go_wp2_with fail
                    have HN : Hid (nxt c t prev = (k, s')) := hnx
                    have HY2 : Hid (Yields (ts.drop (j + 1)) k.part s' p []) := hY'
                    obtain ⟨part, tx, rk⟩ := k
                    clear hnx hY' d0 d1 d2
                    have hrA : RdAt (wr.alloc (Obj.cells #[Value.int IntKind.u8 part, Value.string { data := tx.toArray }, Value.int IntKind.i64 rk] 27)) rb (c :: t) prev := hrd.out.below ((Below.refl wr.heap.size wr).alloc (Nat.le_refl _) _) (Nat.le_refl _)
                    have hsA : Hid (SufAt (wr.alloc (Obj.cells #[Value.int IntKind.u8 part, Value.string { data := tx.toArray }, Value.int IntKind.i64 rk] 27))) := hs.out.alloc _
                    have hbA : Below rb wA (wr.alloc (Obj.cells #[Value.int IntKind.u8 part, Value.string { data := tx.toArray }, Value.int IntKind.i64 rk] 27)) := hb.out.alloc (by have := hb.out.size; omega) _
                    have hwA : 0 < rb ∧ rb < wr.heap.size := ⟨hw0, World.block_lt_of_cell? wr _ r0⟩
                    have z0 : (wr.alloc (Obj.cells #[Value.int IntKind.u8 part, Value.string { data := tx.toArray }, Value.int IntKind.i64 rk] 27)).cell? ⟨wr.heap.size, 0, none⟩ = some (.int .u8 part) := by simp
                    have z1 : (wr.alloc (Obj.cells #[Value.int IntKind.u8 part, Value.string { data := tx.toArray }, Value.int IntKind.i64 rk] 27)).cell? ⟨wr.heap.size, 1, none⟩ = some (.string ⟨tx.toArray⟩) := by simp
                    have z2 : (wr.alloc (Obj.cells #[Value.int IntKind.u8 part, Value.string { data := tx.toArray }, Value.int IntKind.i64 rk] 27)).cell? ⟨wr.heap.size, 2, none⟩ = some (.int .i64 rk) := by simp
                    have hzs : wr.heap.size < (wr.alloc (Obj.cells #[Value.int IntKind.u8 part, Value.string { data := tx.toArray }, Value.int IntKind.i64 rk] 27)).heap.size := by simp
                    generalize wr.alloc (Obj.cells #[Value.int IntKind.u8 part, Value.string { data := tx.toArray }, Value.int IntKind.i64 rk] 27) = wB at *
                    generalize wr.heap.size = g at *
                    have hgne : g ≠ rb := by omega
                    have HBA : Hid (Below rb wA wB) := hbA
                    have HCall : Hid (∀ W, W.heap = wB.heap → Below rb wA W → Calls Ybad.prog 6 #[.pointer (some ⟨rb, 0, none⟩)] W fun e w' => e = .returned (.agg #[.int .u8 part, .string ⟨tx.toArray⟩, .int .i64 rk]) ∧ (RdAt w' rb s' part ∧ SufAt w' ∧ Below rb wA w') ∧ w'.cell? ⟨g, 0, none⟩ = some (.int .u8 (part : Nat)) ∧ w'.cell? ⟨g, 1, none⟩ = some (.string ⟨tx.toArray⟩) ∧ w'.cell? ⟨g, 2, none⟩ = some (.int .i64 (rk : Nat))) := next_tok HL5.out hprev.out hsA.out hrA hw0 HN.out hzs hgne ⟨z0, z1, z2⟩
                    clear hrA hbA r0 r1 f0 f1 hrd hs hb
                    go_cut [171] (fun s171 wx => s171 = .bool false ∧ Hid (RdAt wx rb s' part) ∧ Hid (SufAt wx) ∧ Hid (Below rb wA wx))
                    case first =>
                      go_region_with (go_at_call 6; (first | refine (HCall.out wB rfl HBA.out).mono ?_ | refine (HCall.out wB.drew rfl HBA.out.drew).mono ?_ | refine (HCall.out wB.drew.drew rfl HBA.out.drew.drew).mono ?_); rintro e w2 ⟨rfl, hR2, y0, y1, y2⟩)
                      all_goals go_wp2
                      all_goals go_meet
                      all_goals exact ⟨rfl, hR2.1, hR2.2.1, hR2.2.2⟩
                    case rest =>
                      obtain ⟨rfl, HR2, HSu2, HB2⟩ := hcut
                      have hsl : s'.length ≤ t.length := by
                        have := (nxt_laws c t prev).2.1
                        rw [HN.out] at this
                        exact Nat.le_of_lt_succ this
                      go_wp2
                      go_roundw
                      case rel => exact ⟨j + 1, s', part, by go_num, by omega, by omega, .inl (by have := (nxt_laws c t prev).1; rw [HN.out] at this; exact this), HY2, HR2, HSu2, HB2⟩
                      case measure => simp [intOf]; omega
                  · obtain rfl : j = ts.length := by omega
                    have hYe : Yields [] prev rest p [] := by
                      have := HY.out
                      rwa [List.drop_length] at this
                    obtain ⟨rfl, rfl⟩ := hYe
                    go_wp2_with fail
                    refine (next_end rb (prev : Nat) wr r0 r1).mono ?_
                    rintro e w2 ⟨rfl, hb2⟩
                    obtain ⟨q0, q1, _, _⟩ := hrd.out.below hb2 (Nat.le_refl _)
                    have hr2 : rb < w2.heap.size := World.block_lt_of_cell? w2 _ q0
                    have hfield : ∀ W, (Instr.field 27 (.agg #[.int .u8 7, .string ⟨#[]⟩, .int .i64 0]) 0).run Ybad.prog W = .ok (.int .u8 7) W := fun W => by kernel_rfl
                    clear r0 r1
                    go_wp2
                    go_ret
                    exact ⟨rfl, HBw.out.trans ((hb.out.trans (hb2.mono (by have := hb.out.size; omega))).mono hwr)⟩

end Go.Proofs.YbulkrjeDoor
