/-
  What the listed variable gives the walks: versionSuffixes holds the nine names.
-/
import Derived.Test.YbulkrjeDoorTrace
import Derived.ProofKit
import Derived.LaidMore
import Derived.OpenShut
import Derived.Stop.Joined
import Derived.OpenVars
namespace Go.Proofs.YbulkrjeDoor
open Go.ChangeShapes Go.WideShapes Go.ChangeAt Go.RowKit

theorem Ybad.own : ownKnob Ybad.prog.godebug = none := by kernel_rfl
theorem Ybad.laidOut : laidOutB Ybad.prog = true := by kernel_rfl

/-- The variable's name. -/
def vname : String := Rows.lawS0888ATraceSpec.vars.headD ""
theorem gVar : Ybad.prog.globalNamed vname = some 0 := by kernel_rfl
theorem tVar : (Ybad.prog.globals[0]?).map (·.type) = some 47 := by kernel_rfl

/-- What both rows list. -/
def laid1 : List (String × DataW Unit) := [(vname, Rows.laid_example_com_triseam_triseam_versionSuffixes)]

theorem door_met (os : Os) (args : Array Value) : laidMetH Ybad.prog laid1 ((World.doorLaid Ybad.prog 400 os).forCall (fun _ _ => 0) ⟨#[], args, []⟩).memory :=
  laidMetH_of_parts3 (fuel := 8) (laidMet_of_run' 8 (by kernel_rfl) (by kernel_rfl)) (by kernel_rfl) (by kernel_rfl)

theorem suf_of_laid {W : World} (h : laidMetH Ybad.prog laid1 W) : SufAt W := by
  rw [MakeChecks.laidMetH_plain _ _ _ (by kernel_rfl)] at h
  obtain ⟨ps, ⟨g0, t0, cs0, f0, p0, q0, hg0, ht0, hv0, hd0, _⟩, _, _⟩ := h
  obtain rfl := Option.some.inj (gVar.symm.trans hg0)
  obtain rfl := Option.some.inj (tVar.symm.trans ht0)
  obtain ⟨xs, m1, rfl, hx1, hlen, hn9, hel⟩ := DataW.trod_array Ybad.underlying47 hd0
  have c9 : Ybad.prog.cellsOf 9 = 1 := by kernel_rfl
  have c47 : Ybad.prog.cellsOf 47 = 9 := by kernel_rfl
  rw [c47] at hlen
  simp only [c9, Nat.mul_one] at hel
  simp only [Prod.mk.injEq, Rows.laid_example_com_triseam_triseam_versionSuffixes, DataW.agg.injEq] at hx1
  have hmap := hx1.1
  have hcs : cs0 = sufCells := by
    obtain ⟨l⟩ := cs0
    have hl9 : l.length = 9 := hlen
    have each : ∀ i (hi : i < 9), l[i]? = sufCells.toList[i]? := by
      intro i hi
      have h1 := hel i hi
      have hxi : ∃ x, xs[i]? = some x := ⟨xs[i]'(by omega), List.getElem?_eq_getElem (by omega)⟩
      obtain ⟨x, hx⟩ := hxi
      rw [hx] at h1
      obtain ⟨s, e1, e2, _⟩ := DataW.trod_string Ybad.underlying9 h1
      have hl : l[i]? = some (.string s) := by
        have := congrArg (fun q : List Value => q[0]?) e1
        simpa using this
      have hm := congrArg (fun q => q[i]?) hmap
      simp only [List.getElem?_map, hx, Option.map_some, e2] at hm
      rw [hl]
      rcases (show i = 0 ∨ i = 1 ∨ i = 2 ∨ i = 3 ∨ i = 4 ∨ i = 5 ∨ i = 6 ∨ i = 7 ∨ i = 8 from by omega) with rfl | rfl | rfl | rfl | rfl | rfl | rfl | rfl | rfl
      all_goals
        simp at hm
        obtain ⟨⟨d⟩⟩ := s
        simp at hm
        subst hm
        rfl
    have : l = sufCells.toList := by
      apply List.ext_getElem?
      intro i
      by_cases hi : i < 9
      · exact each i hi
      · rw [List.getElem?_eq_none (by omega), List.getElem?_eq_none (by show 9 ≤ i; omega)]
    rw [this]
  subst hcs
  simp only [World.var?, hg0, Option.bind_some] at hv0
  split at hv0
  · rename_i cs t fr hh
    cases hv0
    exact ⟨t, fr, hh⟩
  · cases hv0

end Go.Proofs.YbulkrjeDoor
