/-
  The listed variable: what the row's condition gives the walk; a world that meets it.
-/
import Derived.Test.YbulkijmDoorRows
import Derived.WalkKit
import Derived.ProofKit
import Derived.LaidMore
import Derived.LaidLaws
import Derived.LaidEql
import Derived.OpenShut
import Derived.OpenVars
import Derived.Stop.Joined
namespace Go.Proofs.YbulkijmDoor
open Go.ChangeShapes Go.WideShapes Go.ChangeAt Go.RowKit
set_option linter.unusedVariables false

theorem own : ownKnob Ybad.prog.godebug = none := by kernel_rfl
theorem Ybad.laidOut : laidOutB Ybad.prog = true := by kernel_rfl
/-- The listed variable's name, off the given row. -/
def Ybad.nE : String := Rows.lawS0454BEffectSpec.vars.headD ""
theorem Ybad.gE : Ybad.prog.globalNamed Ybad.nE = some 0 := by kernel_rfl
theorem Ybad.tE : (Ybad.prog.globals[0]?).map (·.type) = some 81 := by kernel_rfl
theorem Ybad.cells148 : Ybad.prog.cellsOf 148 = 1 := by kernel_rfl
theorem Ybad.cells9 : Ybad.prog.cellsOf 9 = 1 := by kernel_rfl
theorem Ybad.varsRow : varsRowed Ybad.prog Rows.lawS0454BEffectSpec.vars = true := by kernel_rfl

abbrev laid1 : List (String × DataW Unit) := [(Ybad.nE, Rows.laid_example_com_rookery_rookery_ErrPoolClosed)]

set_option maxRecDepth 100000 in
theorem of_laid {W : World} (h : laidMetH Ybad.prog laid1 W) : ∃ a, W.cell? ⟨0, 0, none⟩ = some (.iface 121 (.pointer (some a))) := by
  rw [MakeChecks.laidMetH_plain _ _ _ (by kernel_rfl)] at h
  obtain ⟨ps, ⟨g0, t0, cs0, f0, p0, q0, hg0, ht0, hv0, hd0, hq, e0⟩, hnd, hrows⟩ := h
  obtain rfl := Option.some.inj (Ybad.gE.symm.trans hg0)
  obtain rfl := Option.some.inj (Ybad.tE.symm.trans ht0)
  have hq' : q0 = [] := hq
  subst hq'
  subst e0
  obtain ⟨l0⟩ := cs0
  have ok0 : ∀ u v, l0 = [.iface u v] → Value.okWide Ybad.prog W .any 0 u v := fun u v e => by
    subst e
    exact (hrows 0 0 (by simp [MemPlace.row])).2 u v (by simpa using World.var?_cell hg0 hv0 0)
  obtain ⟨a0, s0, rfl, hc0, hs0, hz0, rfl⟩ := errorString_of_trod Ybad.underlying81 (fun u h => typeName_ptr_named (nm := "errors.errorString") (tp := 121) (by kernel_rfl) (by kernel_rfl) (by decide) u (h.trans (congrArg some (by decide)))) Ybad.underlying121 Ybad.underlying148 rfl rfl Ybad.underlying9 Ybad.cells148 Ybad.cells9 hd0 ok0
  exact ⟨a0, by simpa using World.var?_cell hg0 hv0 0⟩

/-- The door's own heap meets the condition. -/
theorem door_met (os : Os) (args : Array Value) : laidMetH Ybad.prog laid1 ((World.doorLaid Ybad.prog 400 os).forCall (fun _ _ => 0) ⟨#[], args, []⟩).memory :=
  laidMetH_of_parts3 (fuel := 8) (laidMet_of_run' 8 (by kernel_rfl) (by kernel_rfl)) (by kernel_rfl) (by kernel_rfl)

theorem Ybad.info121 : (Ybad.prog.info? 121).map (·.comparable) = some true := by kernel_rfl
theorem Ybad.info148 : (Ybad.prog.info? 148).isSome = true := by kernel_rfl
theorem neqE (a : Addr) (w : World) : (binOp .neq 81 (.iface 121 (.pointer (some a))) (.iface 121 (.pointer (some a)))).run Ybad.prog w = .ok (.bool false) w := by
  obtain ⟨i, hi, hc⟩ := Option.map_eq_some_iff.1 Ybad.info121
  obtain ⟨j, hj⟩ := Option.isSome_iff_exists.1 Ybad.info148
  simp only [binOp]
  simp [Op.equal, Op.maxDepth, run_equalIn_iface_ptr_same w 9998 a Ybad.underlying81 Ybad.underlying121 hi hc hj]
theorem guardE (x y : Operand) (a : Addr) (w : World) : (eqGuard .neq 81 x y (.iface 121 (.pointer (some a))) (.iface 121 (.pointer (some a)))).run Ybad.prog w = .ok () w := by
  simp [eqGuard]
end Go.Proofs.YbulkijmDoor
