import Derived.Test.Qxb6608758aDoorOpen
import Derived.LaidMore
import Derived.OpenShut
import Derived.Stop.Joined
import Derived.OpenVars
namespace Go.Proofs.Qxb6608758aDoor
open Go.ChangeShapes Go.WideShapes Go.ChangeAt Go.RowKit

theorem Tryd.own : ownKnob Tryd.prog.godebug = none := by kernel_rfl
theorem Tryd.laidOut : laidOutB Tryd.pinned.checked.prog = true := by kernel_rfl
/-- The one listed variable's name. -/
def vName : String := Rows.fnWithLinksLastWinsRow.named.headD ""
theorem gName : Tryd.prog.globalNamed vName = some 0 := by kernel_rfl
theorem tName : (Tryd.prog.globals[0]?).map (·.type) = some 37 := by kernel_rfl
theorem Tryd.cells35 : Tryd.prog.cellsOf 35 = 2 := by kernel_rfl
theorem Tryd.cells37 : Tryd.prog.cellsOf 37 = 3 := by kernel_rfl
def theLaid : List (String × DataW Unit) := Rows.fnWithLinksLastWinsRow.laid

theorem list2 {α : Type} {cs : List α} (h : cs.length = 2) : ∃ c0 c1, cs = [c0, c1] := by
  match cs, h with
  | [c0, c1], _ => exact ⟨c0, c1, rfl⟩
theorem list3 {α : Type} {cs : List α} (h : cs.length = 3) : ∃ c0 c1 c2, cs = [c0, c1, c2] := by
  match cs, h with
  | [c0, c1, c2], _ => exact ⟨c0, c1, c2, rfl⟩
theorem bytes_eq {s : ByteArray} {l : List UInt8} (h : s.data.toList = l) : s = ⟨l.toArray⟩ := by
  cases s
  subst h
  rfl

theorem of_laid {W : World} (h : laidMetH Tryd.prog theLaid W) : Laid W := by
  rw [MakeChecks.laidMetH_plain _ _ _ (by kernel_rfl)] at h
  obtain ⟨ps, ⟨g0, t0, cs0, f0, p0, q0, hg0, ht0, hv0, hd0, _, _⟩, _, _⟩ := h
  obtain rfl := Option.some.inj (gName.symm.trans hg0)
  obtain rfl := Option.some.inj (tName.symm.trans ht0)
  have hcell := fun j => World.var?_cell hg0 hv0 j
  obtain ⟨xs, n', _, hd, hlc, hlx, hff⟩ := DataW.trod_struct Tryd.underlying37 hd0
  rw [Tryd.cells37] at hlc
  obtain ⟨c0, c1, c2, hcs⟩ := list3 hlc
  obtain ⟨y0, y1, rfl⟩ := list2 (show xs.length = 2 from hlx)
  have k0 := hff 0 _ rfl
  have k1 := hff 1 _ rfl
  rw [hcs] at k0 k1
  simp [Tryd.cells9] at k0
  simp [Tryd.cells35] at k1
  obtain ⟨xs', n'', _, hd', _, hlx', hff'⟩ := DataW.trod_struct Tryd.underlying35 k1
  obtain ⟨z0, z1, rfl⟩ := list2 (show xs'.length = 2 from hlx')
  have m0 := hff' 0 _ rfl
  have m1 := hff' 1 _ rfl
  simp [Tryd.cells9] at m0 m1
  obtain ⟨s0, e0, x0, _⟩ := DataW.trod_string Tryd.underlying9 k0
  obtain ⟨s1, e1, x1, _⟩ := DataW.trod_string Tryd.underlying9 m0
  obtain ⟨s2, e2, x2, _⟩ := DataW.trod_string Tryd.underlying9 m1
  simp at e0 e1 e2
  subst e0 e1 e2 x0 x1 x2 hd'
  simp [Rows.laid_example_com_bravais_bravais_document_jsonapi] at hd
  obtain ⟨⟨q0', q1', q2'⟩, _⟩ := hd
  have e0 := bytes_eq q0'.symm
  have e1 := bytes_eq q1'.symm
  have e2 := bytes_eq q2'.symm
  subst e0 e1 e2
  have c0 := hcell 0
  have c1 := hcell 1
  have c2 := hcell 2
  rw [← Array.getElem?_toList, hcs] at c0 c1 c2
  simp at c0 c1 c2
  exact ⟨c0, c1, c2, cell_lt c0⟩

/-- The door's own heap meets the condition. -/
theorem door_met (os : Os) (args : Array Value) : laidMetH Tryd.prog theLaid ((World.doorLaid Tryd.prog 400 os).forCall (fun _ _ => 0) ⟨#[], args, []⟩).memory :=
  laidMetH_of_parts3 (fuel := 8) (laidMet_of_run' 8 (by kernel_rfl) (by kernel_rfl)) (by kernel_rfl) (by kernel_rfl)
end Go.Proofs.Qxb6608758aDoor
