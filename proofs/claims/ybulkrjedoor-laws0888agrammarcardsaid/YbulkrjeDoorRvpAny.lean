/-
  readVersionPart computes 'rvp'; put together out of its ways.
-/
import Derived.Test.YbulkrjeDoorRvp0
import Derived.Test.YbulkrjeDoorRvp1
import Derived.Test.YbulkrjeDoorRvp2
import Derived.Test.YbulkrjeDoorRvp3
import Derived.Test.YbulkrjeDoorRvp4
namespace Go.Proofs.YbulkrjeDoor
open Go.RowKit

theorem isB {c : UInt8} {v : Nat} (h : c.toNat = v) : ((c.toNat : Int) == (v : Int)) = true := by rw [h]; simp
theorem noB {c : UInt8} {v : Nat} (h : ¬ c.toNat = v) : ((c.toNat : Int) == (v : Int)) = false := by
  simp
  omega

theorem take1 {t : List UInt8} (h : t.take 1 = [114]) : ∃ u, t = 114 :: u := by
  match t, h with
  | x :: u, h => simp at h; exact ⟨u, by rw [h]⟩

/-- What the call returns and leaves. -/
def Gives (w : World) (r : Tok × Nat) (e : Ending) (w' : World) : Prop := e = .returned (.tuple #[r.1.val, .int .i64 (r.2 : Nat)]) ∧ Below w.heap.size w w'

theorem tail0 (c : UInt8) (t : List UInt8) (w : World) (hl : (c :: t).length ≤ 100000) (h46 : ((c.toNat : Int) == 46) = false) (hlow : low (c.toNat : Int) = false) (hsuf : Hid (SufAt w)) :
    Calls Ybad.prog 11 #[.string ⟨(c :: t).toArray⟩, .int .u8 0] w (Gives w (tailPart c t 0)) := by
  by_cases h95 : c.toNat = 95
  · cases hr : rankTo (t.take (spn low t)) 9 with
    | some k =>
      have e : tailPart c t 0 = (⟨2, t.take (spn low t), k⟩, 1 + spn low t) := by simp [tailPart, h95, hr]
      rw [e]
      exact rvp0_suf c t hl (spn dig t) rfl h46 hlow (spn low t) k (isB h95) rfl hr w hsuf
    | none =>
      have e : tailPart c t 0 = (tok0, 0) := by simp [tailPart, h95, hr]
      rw [e]
      exact rvp0_nosuf c t hl (spn dig t) rfl h46 hlow (spn low t) (isB h95) rfl hr w hsuf
  by_cases h126 : c.toNat = 126
  · by_cases hn : 0 < spn hxd t
    · have e : tailPart c t 0 = (⟨4, t.take (spn hxd t), 0⟩, 1 + spn hxd t) := by simp [tailPart, h126, hn]
      rw [e]
      exact rvp0_hash c t hl (spn dig t) rfl h46 hlow (spn hxd t) (noB h95) (isB h126) rfl hn w
    · have hn' : spn hxd t = 0 := by omega
      have e : tailPart c t 0 = (tok0, 0) := by simp [tailPart, h126, hn']
      rw [e]
      exact rvp0_nohash c t hl (spn dig t) rfl h46 hlow (noB h95) (isB h126) hn' w
  by_cases h45 : c.toNat = 45
  · by_cases h1 : t.take 1 = [114]
    · obtain ⟨u, rfl⟩ := take1 h1
      by_cases hn : 0 < spn dig u
      · have e : tailPart c (114 :: u) 0 = (⟨5, u.take (spn dig u), 0⟩, 2 + spn dig u) := by simp [tailPart, h45, hn]
        rw [e]
        exact rvp0_rev c u hl (spn dig (114 :: u)) rfl h46 hlow (spn dig u) (noB h95) (noB h126) (isB h45) rfl hn w
      · have hn' : spn dig u = 0 := by omega
        have e : tailPart c (114 :: u) 0 = (tok0, 0) := by simp [tailPart, h45, hn']
        rw [e]
        exact rvp0_norev c u hl (spn dig (114 :: u)) rfl h46 hlow (noB h95) (noB h126) (isB h45) hn' w
    · have e : tailPart c t 0 = (tok0, 0) := by simp [tailPart, h45, h1]
      rw [e]
      exact rvp0_nor c t hl (spn dig t) rfl h46 hlow (noB h95) (noB h126) (isB h45) h1 w
  · have e : tailPart c t 0 = (tok0, 0) := by simp [tailPart, h95, h126, h45]
    rw [e]
    exact rvp0_other c t hl (spn dig t) rfl h46 hlow (noB h95) (noB h126) (noB h45) w

theorem tail1 (c : UInt8) (t : List UInt8) (w : World) (hl : (c :: t).length ≤ 100000) (h0 : Hid (spn dig (c :: t) = 0)) (hsuf : Hid (SufAt w)) :
    Calls Ybad.prog 11 #[.string ⟨(c :: t).toArray⟩, .int .u8 1] w (Gives w (tailPart c t 1)) := by
  by_cases h95 : c.toNat = 95
  · cases hr : rankTo (t.take (spn low t)) 9 with
    | some k =>
      have e : tailPart c t 1 = (⟨2, t.take (spn low t), k⟩, 1 + spn low t) := by simp [tailPart, h95, hr]
      rw [e]
      exact rvp1_suf c t hl h0 (spn low t) k (isB h95) rfl hr w hsuf
    | none =>
      have e : tailPart c t 1 = (tok0, 0) := by simp [tailPart, h95, hr]
      rw [e]
      exact rvp1_nosuf c t hl h0 (spn low t) (isB h95) rfl hr w hsuf
  by_cases h126 : c.toNat = 126
  · by_cases hn : 0 < spn hxd t
    · have e : tailPart c t 1 = (⟨4, t.take (spn hxd t), 0⟩, 1 + spn hxd t) := by simp [tailPart, h126, hn]
      rw [e]
      exact rvp1_hash c t hl h0 (spn hxd t) (noB h95) (isB h126) rfl hn w
    · have hn' : spn hxd t = 0 := by omega
      have e : tailPart c t 1 = (tok0, 0) := by simp [tailPart, h126, hn']
      rw [e]
      exact rvp1_nohash c t hl h0 (noB h95) (isB h126) hn' w
  by_cases h45 : c.toNat = 45
  · by_cases h1 : t.take 1 = [114]
    · obtain ⟨u, rfl⟩ := take1 h1
      by_cases hn : 0 < spn dig u
      · have e : tailPart c (114 :: u) 1 = (⟨5, u.take (spn dig u), 0⟩, 2 + spn dig u) := by simp [tailPart, h45, hn]
        rw [e]
        exact rvp1_rev c u hl h0 (spn dig u) (noB h95) (noB h126) (isB h45) rfl hn w
      · have hn' : spn dig u = 0 := by omega
        have e : tailPart c (114 :: u) 1 = (tok0, 0) := by simp [tailPart, h45, hn']
        rw [e]
        exact rvp1_norev c u hl h0 (noB h95) (noB h126) (isB h45) hn' w
    · have e : tailPart c t 1 = (tok0, 0) := by simp [tailPart, h45, h1]
      rw [e]
      exact rvp1_nor c t hl h0 (noB h95) (noB h126) (isB h45) h1 w
  · have e : tailPart c t 1 = (tok0, 0) := by simp [tailPart, h95, h126, h45]
    rw [e]
    exact rvp1_other c t hl h0 (noB h95) (noB h126) (noB h45) w

theorem tail2 (c : UInt8) (t : List UInt8) (w : World) (hl : (c :: t).length ≤ 100000) (h0 : Hid (spn dig (c :: t) = 0)) (hsuf : Hid (SufAt w)) :
    Calls Ybad.prog 11 #[.string ⟨(c :: t).toArray⟩, .int .u8 2] w (Gives w (tailPart c t 2)) := by
  by_cases h95 : c.toNat = 95
  · cases hr : rankTo (t.take (spn low t)) 9 with
    | some k =>
      have e : tailPart c t 2 = (⟨2, t.take (spn low t), k⟩, 1 + spn low t) := by simp [tailPart, h95, hr]
      rw [e]
      exact rvp2_suf c t hl h0 (spn low t) k (isB h95) rfl hr w hsuf
    | none =>
      have e : tailPart c t 2 = (tok0, 0) := by simp [tailPart, h95, hr]
      rw [e]
      exact rvp2_nosuf c t hl h0 (spn low t) (isB h95) rfl hr w hsuf
  by_cases h126 : c.toNat = 126
  · by_cases hn : 0 < spn hxd t
    · have e : tailPart c t 2 = (⟨4, t.take (spn hxd t), 0⟩, 1 + spn hxd t) := by simp [tailPart, h126, hn]
      rw [e]
      exact rvp2_hash c t hl h0 (spn hxd t) (noB h95) (isB h126) rfl hn w
    · have hn' : spn hxd t = 0 := by omega
      have e : tailPart c t 2 = (tok0, 0) := by simp [tailPart, h126, hn']
      rw [e]
      exact rvp2_nohash c t hl h0 (noB h95) (isB h126) hn' w
  by_cases h45 : c.toNat = 45
  · by_cases h1 : t.take 1 = [114]
    · obtain ⟨u, rfl⟩ := take1 h1
      by_cases hn : 0 < spn dig u
      · have e : tailPart c (114 :: u) 2 = (⟨5, u.take (spn dig u), 0⟩, 2 + spn dig u) := by simp [tailPart, h45, hn]
        rw [e]
        exact rvp2_rev c u hl h0 (spn dig u) (noB h95) (noB h126) (isB h45) rfl hn w
      · have hn' : spn dig u = 0 := by omega
        have e : tailPart c (114 :: u) 2 = (tok0, 0) := by simp [tailPart, h45, hn']
        rw [e]
        exact rvp2_norev c u hl h0 (noB h95) (noB h126) (isB h45) hn' w
    · have e : tailPart c t 2 = (tok0, 0) := by simp [tailPart, h45, h1]
      rw [e]
      exact rvp2_nor c t hl h0 (noB h95) (noB h126) (isB h45) h1 w
  · have e : tailPart c t 2 = (tok0, 0) := by simp [tailPart, h95, h126, h45]
    rw [e]
    exact rvp2_other c t hl h0 (noB h95) (noB h126) (noB h45) w

theorem tail3 (c : UInt8) (t : List UInt8) (w : World) (hl : (c :: t).length ≤ 100000) (hsuf : Hid (SufAt w)) :
    Calls Ybad.prog 11 #[.string ⟨(c :: t).toArray⟩, .int .u8 3] w (Gives w (tailPart c t 3)) := by
  by_cases h95 : c.toNat = 95
  · cases hr : rankTo (t.take (spn low t)) 9 with
    | some k =>
      have e : tailPart c t 3 = (⟨2, t.take (spn low t), k⟩, 1 + spn low t) := by simp [tailPart, h95, hr]
      rw [e]
      exact rvp3_suf c t hl (spn low t) k (isB h95) rfl hr w hsuf
    | none =>
      have e : tailPart c t 3 = (tok0, 0) := by simp [tailPart, h95, hr]
      rw [e]
      exact rvp3_nosuf c t hl (spn low t) (isB h95) rfl hr w hsuf
  by_cases h126 : c.toNat = 126
  · by_cases hn : 0 < spn hxd t
    · have e : tailPart c t 3 = (⟨4, t.take (spn hxd t), 0⟩, 1 + spn hxd t) := by simp [tailPart, h126, hn]
      rw [e]
      exact rvp3_hash c t hl (spn hxd t) (noB h95) (isB h126) rfl hn w
    · have hn' : spn hxd t = 0 := by omega
      have e : tailPart c t 3 = (tok0, 0) := by simp [tailPart, h126, hn']
      rw [e]
      exact rvp3_nohash c t hl (noB h95) (isB h126) hn' w
  by_cases h45 : c.toNat = 45
  · by_cases h1 : t.take 1 = [114]
    · obtain ⟨u, rfl⟩ := take1 h1
      by_cases hn : 0 < spn dig u
      · have e : tailPart c (114 :: u) 3 = (⟨5, u.take (spn dig u), 0⟩, 2 + spn dig u) := by simp [tailPart, h45, hn]
        rw [e]
        exact rvp3_rev c u hl (spn dig u) (noB h95) (noB h126) (isB h45) rfl hn w
      · have hn' : spn dig u = 0 := by omega
        have e : tailPart c (114 :: u) 3 = (tok0, 0) := by simp [tailPart, h45, hn']
        rw [e]
        exact rvp3_norev c u hl (noB h95) (noB h126) (isB h45) hn' w
    · have e : tailPart c t 3 = (tok0, 0) := by simp [tailPart, h45, h1]
      rw [e]
      exact rvp3_nor c t hl (noB h95) (noB h126) (isB h45) h1 w
  · have e : tailPart c t 3 = (tok0, 0) := by simp [tailPart, h95, h126, h45]
    rw [e]
    exact rvp3_other c t hl (noB h95) (noB h126) (noB h45) w

theorem tail4 (c : UInt8) (t : List UInt8) (w : World) (hl : (c :: t).length ≤ 100000) :
    Calls Ybad.prog 11 #[.string ⟨(c :: t).toArray⟩, .int .u8 4] w (Gives w (tailPart c t 4)) := by
  by_cases h45 : c.toNat = 45
  · by_cases h1 : t.take 1 = [114]
    · obtain ⟨u, rfl⟩ := take1 h1
      by_cases hn : 0 < spn dig u
      · have e : tailPart c (114 :: u) 4 = (⟨5, u.take (spn dig u), 0⟩, 2 + spn dig u) := by simp [tailPart, h45, hn]
        rw [e]
        exact rvp4_rev c u hl (spn dig u) (by rw [h45]; rfl) (by rw [h45]; rfl) (isB h45) rfl hn w
      · have hn' : spn dig u = 0 := by omega
        have e : tailPart c (114 :: u) 4 = (tok0, 0) := by simp [tailPart, h45, hn']
        rw [e]
        exact rvp4_norev c u hl (by rw [h45]; rfl) (by rw [h45]; rfl) (isB h45) hn' w
    · have e : tailPart c t 4 = (tok0, 0) := by simp [tailPart, h45, h1]
      rw [e]
      exact rvp4_nor c t hl (by rw [h45]; rfl) (by rw [h45]; rfl) (isB h45) h1 w
  · have e : tailPart c t 4 = (tok0, 0) := by simp [tailPart, h45]
    rw [e]
    exact rvp4_other c t hl (noB h45) w

/-- READVERSIONPART, at every kind that a reader holds. -/
theorem rvp_any (c : UInt8) (t : List UInt8) (prev : Nat) (w : World) (hl : (c :: t).length ≤ 100000) (hp : prev ≤ 6 ∨ prev = 8) (hsuf : Hid (SufAt w)) :
    Calls Ybad.prog 11 #[.string ⟨(c :: t).toArray⟩, .int .u8 (prev : Nat)] w (Gives w (rvp c t prev)) := by
  rcases (show prev = 0 ∨ prev = 1 ∨ prev = 2 ∨ prev = 3 ∨ prev = 4 ∨ prev = 5 ∨ prev = 6 ∨ prev = 8 from by omega) with rfl | rfl | rfl | rfl | rfl | rfl | rfl | rfl
  · by_cases h46 : c.toNat = 46
    · by_cases hn : 0 < spn dig t
      · have e : rvp c t 0 = (⟨0, t.take (spn dig t), 0⟩, 1 + spn dig t) := by simp [rvp, h46, hn]
        rw [e]
        exact rvp0_num c t (spn dig t) w (by simpa using hl) (isB h46) rfl hn
      · have hn' : spn dig t = 0 := by omega
        have hlow : low (c.toNat : Int) = false := by rw [h46]; rfl
        have e : rvp c t 0 = (tok0, 0) := by simp [rvp, hn', tailPart, h46, show low 46 = false from rfl]
        rw [e]
        exact rvp0_dot c t hl hn' (isB h46) (by rw [h46]; rfl) (by rw [h46]; rfl) (by rw [h46]; rfl) hlow w
    · cases hlow : low (c.toNat : Int) with
      | true =>
        have e : rvp c t 0 = (⟨1, [c], 0⟩, 1) := by simp [rvp, h46, hlow]
        rw [e]
        exact rvp0_letter c t hl (spn dig t) rfl (noB h46) hlow w
      | false =>
        have e : rvp c t 0 = tailPart c t 0 := by simp [rvp, h46, hlow]
        rw [e]
        exact tail0 c t w hl (noB h46) hlow hsuf
  · by_cases hn : 0 < spn dig (c :: t)
    · have e : rvp c t 1 = (⟨0, (c :: t).take (spn dig (c :: t)), 0⟩, spn dig (c :: t)) := by unfold rvp; rw [if_neg (by omega), if_pos rfl, if_pos hn]
      rw [e]
      exact rvp1_num c t hl (spn dig (c :: t)) rfl hn w
    · have e : rvp c t 1 = tailPart c t 1 := by unfold rvp; rw [if_neg (by omega), if_pos rfl, if_neg hn]
      rw [e]
      exact tail1 c t w hl (show _ = _ from by omega) hsuf
  · by_cases hn : 0 < spn dig (c :: t)
    · have e : rvp c t 2 = (⟨3, (c :: t).take (spn dig (c :: t)), 0⟩, spn dig (c :: t)) := by unfold rvp; rw [if_neg (by omega), if_neg (by omega), if_neg (by omega), if_pos rfl, if_pos hn]
      rw [e]
      exact rvp2_num c t hl (spn dig (c :: t)) rfl hn w
    · have e : rvp c t 2 = tailPart c t 2 := by unfold rvp; rw [if_neg (by omega), if_neg (by omega), if_neg (by omega), if_pos rfl, if_neg hn]
      rw [e]
      exact tail2 c t w hl (show _ = _ from by omega) hsuf
  · exact tail3 c t w hl hsuf
  · exact tail4 c t w hl
  · exact rvp5_no c t hl w
  · exact rvp6_no c t hl w
  · by_cases hn : 0 < spn dig (c :: t)
    · have e : rvp c t 8 = (⟨0, (c :: t).take (spn dig (c :: t)), 0⟩, spn dig (c :: t)) := by unfold rvp; rw [if_pos rfl, if_pos hn]
      rw [e]
      exact rvp8_yes c t (spn dig (c :: t)) w (by simpa using hl) rfl hn
    · have e : rvp c t 8 = (tok0, 0) := by unfold rvp; rw [if_pos rfl, if_neg hn]
      rw [e]
      exact rvp8_no c t w (by simpa using hl) (show _ = _ from by omega)

end Go.Proofs.YbulkrjeDoor
