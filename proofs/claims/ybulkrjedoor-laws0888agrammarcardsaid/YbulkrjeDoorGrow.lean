/-
  The two slices that LawS0888AGrammar builds, and what one append makes of them.
-/
import Derived.Test.YbulkrjeDoorDec
import Derived.Test.YbulkrjeDoorGoes
import Derived.Lib.AppendStr
namespace Go.Proofs.YbulkrjeDoor
open Go.RowKit

def byteCells (bs : List UInt8) : List Value := bs.map fun b => Value.int .u8 b.toNat
def tokCells (k : Tok) : List Value := [.int .u8 (k.part : Nat), .string ⟨k.text.toArray⟩, .int .i64 (k.rank : Nat)]
def toksCells (ts : List Tok) : List Value := ts.flatMap tokCells

theorem strCells_list (l : List UInt8) : Lib.strCells ⟨l.toArray⟩ = byteCells l := rfl
theorem byteCells_length (l : List UInt8) : (byteCells l).length = l.length := by simp [byteCells]
theorem byteCells_app (a b : List UInt8) : byteCells (a ++ b) = byteCells a ++ byteCells b := by simp [byteCells]
theorem toksCells_snoc (ts : List Tok) (k : Tok) : toksCells (ts ++ [k]) = toksCells ts ++ tokCells k := by simp [toksCells]
theorem toksCells_length : ∀ (ts : List Tok), (toksCells ts).length = ts.length * 3
  | [] => rfl
  | k :: ts => by
    have := toksCells_length ts
    show (tokCells k ++ toksCells ts).length = (ts.length + 1) * 3
    rw [List.length_append, this]
    show 3 + _ = _
    omega

/-- The bytes and the parts so far: each slice owns its row; all that was there is as it was. -/
structure St (w W : World) (vb vw : Value) (bs : List UInt8) (ts : List Tok) : Prop where
  b : W.ownsRow w.heap.size 5 1 vb bs.length (byteCells bs)
  t : W.ownsRow w.heap.size 27 3 vw ts.length (toksCells ts)
  k : Below w.heap.size w W

theorem st_nil (w : World) : St w w (.slice none 0 0) (.slice none 0 0) [] [] := ⟨World.ownsRow_nil _ _ _ _, World.ownsRow_nil _ _ _ _, Below.refl _ _⟩

theorem St.alloc {w W : World} {vb vw : Value} {bs : List UInt8} {ts : List Tok} (h : St w W vb vw bs ts) (o : Obj) : St w (W.alloc o) vb vw bs ts := ⟨h.b.alloc o, h.t.alloc o, h.k.alloc h.k.size o⟩

theorem ownsRow_below {w W W' : World} {e : TypeId} {size n : Nat} {v : Value} {xs : List Value} (h : W.ownsRow w.heap.size e size v n xs) (hb : Below W.heap.size W W') : W'.ownsRow w.heap.size e size v n xs := by
  refine ⟨h.1, ?_⟩
  rcases h.2 with hn | ⟨g, cap, cur, rfl, h1, hg, rest⟩
  · exact .inl hn
  · exact .inr ⟨g, cap, cur, rfl, h1, by rw [hb.block g (Array.getElem?_eq_some_iff.1 hg).1]; exact hg, rest⟩

theorem St.below {w W W' : World} {vb vw : Value} {bs : List UInt8} {ts : List Tok} (h : St w W vb vw bs ts) (hb : Below W.heap.size W W') : St w W' vb vw bs ts :=
  ⟨ownsRow_below h.b hb, ownsRow_below h.t hb, h.k.trans (hb.mono h.k.size)⟩

/-- A row of bytes and a row of parts never share a block. -/
theorem St.apart {w W : World} {vb vw : Value} {bs : List UInt8} {ts : List Tok} (h : St w W vb vw bs ts) : vb.ownBlock = none ∨ vb.ownBlock ≠ vw.ownBlock := by
  rcases h.b.2 with ⟨rfl, _⟩ | ⟨g, cap, cur, rfl, h1, hg, _⟩
  · exact .inl rfl
  · rcases h.t.2 with ⟨rfl, _⟩ | ⟨g', cap', cur', rfl, h1', hg', _⟩
    · exact .inr (by simp [Value.ownBlock])
    · refine .inr fun e => ?_
      simp only [Value.ownBlock, Option.some.injEq] at e
      subst e
      rw [hg] at hg'
      simp at hg'

theorem St.apart' {w W : World} {vb vw : Value} {bs : List UInt8} {ts : List Tok} (h : St w W vb vw bs ts) : vw.ownBlock = none ∨ vw.ownBlock ≠ vb.ownBlock := by
  rcases h.apart with h1 | h1
  · cases hv : vw.ownBlock with
    | none => exact .inl rfl
    | some k => exact .inr (by rw [h1]; simp)
  · exact .inr fun e => h1 e.symm

theorem Ybad.info27 : (Ybad.prog.info? 27).map (fun i => (i.zero, i.size, i.bytes)) = some (some (.agg #[.int .u8 0, .string ⟨#[]⟩, .int .i64 0]), 3, 32) := by kernel_rfl

section
variable {w W : World} {vb vw : Value} {bs : List UInt8} {ts : List Tok} {ops : Array Oper} {rest : List Oper} {o : Oper} {a : Act} {Q : Exit → Act → World → Prop}

/-- append(b, bytes...). -/
theorem wp_bytes (h : St w W vb vw bs ts) (hgd : o.guard = none) (s x : Operand) (ho : o.op = .call { callee := .builtin .append, args := #[s, x], argTypes := #[34, 34] }) (hs : a.eval s = vb)
    (ad : Addr) (m c : Nat) (ext : List UInt8) (hx : a.eval x = .slice (some ad) m c) (hl : ext.length = m) (hnews : ∀ j u, (byteCells ext)[j]? = some u → W.cell? (ad.add j) = some u) (hlen : bs.length + m ≤ 100000)
    (hk : ∀ v' w', St w w' v' vw (bs ++ ext) ts → wpList Ybad.prog ops Q rest (a.put o.dst v') w') : wpList Ybad.prog ops Q (o :: rest) a W := by
  obtain ⟨i0, hi, hz0, hz1, hz2⟩ := info_parts Ybad.info5
  refine wpList_append_own W hgd s x 34 ho w.heap.size 5 i0 (.int .u8 0) 1 1 Ybad.underlying34 hi hz0 hz1 hz2 rfl (by decide) vb bs.length (byteCells bs) hs h.b ad m c (byteCells ext) hx (by rw [byteCells_length]; omega) hnews
    (fun u hu => by simp only [byteCells, List.mem_map] at hu; obtain ⟨_, _, rfl⟩ := hu; rfl) (by unfold maxLen; omega) (by omega) h.k.size fun v' w' own gr _ => hk v' w' ⟨?_, ?_, ?_⟩
  · rw [byteCells_app, List.length_append, hl]; exact own
  · exact h.t.kept gr h.apart'
  · exact h.k.grown gr h.k.size (fun k hk => (h.b.lt k hk).1)

/-- append(b, text...). -/
theorem wp_text (h : St w W vb vw bs ts) (hgd : o.guard = none) (s x : Operand) (ho : o.op = .call { callee := .builtin .append, args := #[s, x], argTypes := #[34, 9] }) (hs : a.eval s = vb)
    (ext : List UInt8) (hx : a.eval x = .string ⟨ext.toArray⟩) (hlen : bs.length + ext.length ≤ 100000)
    (hk : ∀ v' w', St w w' v' vw (bs ++ ext) ts → wpList Ybad.prog ops Q rest (a.put o.dst v') w') : wpList Ybad.prog ops Q (o :: rest) a W := by
  obtain ⟨i0, hi, hz0, hz1, hz2⟩ := info_parts Ybad.info5
  have hsz : (⟨ext.toArray⟩ : ByteArray).size = ext.length := by simp [ByteArray.size]
  refine Lib.wpList_append_own_string W hgd s x 34 9 ho w.heap.size 5 i0 Ybad.underlying34 Ybad.underlying9 hi hz0 hz1 hz2 vb bs.length (byteCells bs) hs h.b ⟨ext.toArray⟩ hx (by rw [hsz]; unfold maxLen; omega) (by rw [hsz]; omega) h.k.size fun v' w' own gr _ => hk v' w' ⟨?_, ?_, ?_⟩
  · rw [byteCells_app, List.length_append]; rw [hsz, strCells_list] at own; exact own
  · exact h.t.kept gr h.apart'
  · exact h.k.grown gr h.k.size (fun k hk => (h.b.lt k hk).1)

/-- append(want, part). -/
theorem wp_tok (h : St w W vb vw bs ts) (hgd : o.guard = none) (s x : Operand) (ho : o.op = .call { callee := .builtin .append, args := #[s, x], argTypes := #[35, 35] }) (hs : a.eval s = vw)
    (ad : Addr) (c : Nat) (k : Tok) (hx : a.eval x = .slice (some ad) 1 c) (h0 : W.cell? (ad.add 0) = some (.int .u8 (k.part : Nat))) (h1 : W.cell? (ad.add 1) = some (.string ⟨k.text.toArray⟩)) (h2 : W.cell? (ad.add 2) = some (.int .i64 (k.rank : Nat))) (hlen : ts.length ≤ 100000)
    (hk : ∀ v' w', St w w' vb v' bs (ts ++ [k]) → wpList Ybad.prog ops Q rest (a.put o.dst v') w') : wpList Ybad.prog ops Q (o :: rest) a W := by
  obtain ⟨i0, hi, hz0, hz1, hz2⟩ := info_parts Ybad.info27
  refine wpList_append_own W hgd s x 35 ho w.heap.size 27 i0 _ 3 32 Ybad.underlying35 hi hz0 hz1 hz2 rfl (by decide) vw ts.length (toksCells ts) hs h.t ad 1 c (tokCells k) hx rfl ?_
    (fun u hu => by simp only [tokCells, List.mem_cons, List.not_mem_nil, or_false] at hu; rcases hu with rfl | rfl | rfl <;> rfl) (by unfold maxLen; omega) (by omega) h.k.size fun v' w' own gr _ => hk v' w' ⟨?_, ?_, ?_⟩
  · intro j u hu
    match j, hu with
    | 0, hu => simp [tokCells] at hu; subst hu; exact h0
    | 1, hu => simp [tokCells] at hu; subst hu; exact h1
    | 2, hu => simp [tokCells] at hu; subst hu; exact h2
    | j + 3, hu => simp [tokCells] at hu
  · exact h.b.kept gr h.apart
  · rw [toksCells_snoc, List.length_append]; exact own
  · exact h.k.grown gr h.k.size (fun k hk => (h.t.lt k hk).1)

theorem news1 (W : World) (z : Int) (x : UInt8) (hz : z = (x.toNat : Int)) : ∀ j u, (byteCells [x])[j]? = some u → (W.alloc (.cells #[.int .u8 z] 5)).cell? ((⟨W.heap.size, 0, none⟩ : Addr).add j) = some u := by
  subst hz
  intro j u hu
  match j, hu with
  | 0, hu => simp [byteCells] at hu; subst hu; simp [Addr.add]
  | j + 1, hu => simp [byteCells] at hu

theorem news2 (W : World) (z1 z2 : Int) (x y : UInt8) (hz : z1 = (x.toNat : Int)) (hy : z2 = (y.toNat : Int)) : ∀ j u, (byteCells [x, y])[j]? = some u → (W.alloc (.cells #[.int .u8 z1, .int .u8 z2] 5)).cell? ((⟨W.heap.size, 0, none⟩ : Addr).add j) = some u := by
  subst hz hy
  intro j u hu
  match j, hu with
  | 0, hu => simp [byteCells] at hu; subst hu; simp [Addr.add]
  | 1, hu => simp [byteCells] at hu; subst hu; simp [Addr.add]
  | j + 2, hu => simp [byteCells] at hu

/-- append(b, c). -/
theorem wp_byte (h : Hid (St w W vb vw bs ts)) (c : UInt8) {z : Int} (hz : z = (c.toNat : Int)) (hgd : o.guard = none) (s x : Operand) (ho : o.op = .call { callee := .builtin .append, args := #[s, x], argTypes := #[34, 34] }) (hs : a.eval s = vb)
    (hx : a.eval x = .slice (some ⟨W.heap.size, 0, none⟩) 1 1) (hlen : bs.length < 100000)
    (hk : ∀ v' w', Hid (St w w' v' vw (bs ++ [c]) ts) → wpList Ybad.prog ops Q rest (a.put o.dst v') w') : wpList Ybad.prog ops Q (o :: rest) a (W.alloc (.cells #[.int .u8 z] 5)) :=
  wp_bytes (h.out.alloc _) hgd s x ho hs _ 1 1 [c] hx rfl (news1 W z c hz) (by omega) fun v' w' hst => hk v' w' hst

/-- append(b, c, d). -/
theorem wp_byte2 (h : Hid (St w W vb vw bs ts)) (c d : UInt8) {z1 z2 : Int} (hz1 : z1 = (c.toNat : Int)) (hz2 : z2 = (d.toNat : Int)) (hgd : o.guard = none) (s x : Operand) (ho : o.op = .call { callee := .builtin .append, args := #[s, x], argTypes := #[34, 34] }) (hs : a.eval s = vb)
    (hx : a.eval x = .slice (some ⟨W.heap.size, 0, none⟩) 2 2) (hlen : bs.length + 1 < 100000)
    (hk : ∀ v' w', Hid (St w w' v' vw (bs ++ [c, d]) ts) → wpList Ybad.prog ops Q rest (a.put o.dst v') w') : wpList Ybad.prog ops Q (o :: rest) a (W.alloc (.cells #[.int .u8 z1, .int .u8 z2] 5)) :=
  wp_bytes (h.out.alloc _) hgd s x ho hs _ 2 2 [c, d] hx rfl (news2 W z1 z2 c d hz1 hz2) (by omega) fun v' w' hst => hk v' w' hst

/-- append(b, text...). -/
theorem wp_str (h : Hid (St w W vb vw bs ts)) (ext : List UInt8) (hgd : o.guard = none) (s x : Operand) (ho : o.op = .call { callee := .builtin .append, args := #[s, x], argTypes := #[34, 9] }) (hs : a.eval s = vb)
    (hx : a.eval x = .string ⟨ext.toArray⟩) (hlen : bs.length + ext.length ≤ 100000)
    (hk : ∀ v' w', Hid (St w w' v' vw (bs ++ ext) ts) → wpList Ybad.prog ops Q rest (a.put o.dst v') w') : wpList Ybad.prog ops Q (o :: rest) a W :=
  wp_text h.out hgd s x ho hs ext hx hlen fun v' w' hst => hk v' w' hst

/-- append(want, versionToken{..}). -/
theorem wp_part (h : Hid (St w W vb vw bs ts)) (k : Tok) {z r : Int} {t : ByteArray} (hz : z = (k.part : Nat)) (ht : t = ⟨k.text.toArray⟩) (hr : r = (k.rank : Nat)) (hgd : o.guard = none) (s x : Operand) (ho : o.op = .call { callee := .builtin .append, args := #[s, x], argTypes := #[35, 35] }) (hs : a.eval s = vw)
    (hx : a.eval x = .slice (some ⟨W.heap.size, 0, none⟩) 1 1) (hlen : ts.length ≤ 100000)
    (hk : ∀ v' w', Hid (St w w' vb v' bs (ts ++ [k])) → wpList Ybad.prog ops Q rest (a.put o.dst v') w') : wpList Ybad.prog ops Q (o :: rest) a (W.alloc (.cells #[.int .u8 z, .string t, .int .i64 r] 27)) := by
  subst hz ht hr
  exact wp_tok (h.out.alloc _) hgd s x ho hs _ 1 k hx (by simp [Addr.add]) (by simp [Addr.add]) (by simp [Addr.add]) hlen fun v' w' hst => hk v' w' hst

/-- The same, the new block's number said another way. -/
theorem wp_part' (h : Hid (St w W vb vw bs ts)) (k : Tok) {z r : Int} {t : ByteArray} (g : Nat) (hg : g = W.heap.size) (hz : z = (k.part : Nat)) (ht : t = ⟨k.text.toArray⟩) (hr : r = (k.rank : Nat)) (hgd : o.guard = none) (s x : Operand) (ho : o.op = .call { callee := .builtin .append, args := #[s, x], argTypes := #[35, 35] }) (hs : a.eval s = vw)
    (hx : a.eval x = .slice (some ⟨g, 0, none⟩) 1 1) (hlen : ts.length ≤ 100000)
    (hk : ∀ v' w', Hid (St w w' vb v' bs (ts ++ [k])) → wpList Ybad.prog ops Q rest (a.put o.dst v') w') : wpList Ybad.prog ops Q (o :: rest) a (W.alloc (.cells #[.int .u8 z, .string t, .int .i64 r] 27)) := by
  subst hg
  exact wp_part h k hz ht hr hgd s x ho hs hx hlen hk
end

end Go.Proofs.YbulkrjeDoor
