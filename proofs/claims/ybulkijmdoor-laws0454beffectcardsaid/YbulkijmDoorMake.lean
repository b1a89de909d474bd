/-
  Facts for the walk of LawS0454BEffect.
-/
import Derived.Test.YbulkijmDoorPrep
import Derived.Deep.DeepCutAuto
import Derived.Deep.CutBlock
import Derived.Conc.SmallLaws
import Derived.Outline
namespace Go.Proofs.YbulkijmDoor
open Go.RowKit Go.Conc Go.MuLone
set_option linter.unusedVariables false

theorem mkC0 (w : World) : (Instr.makeChan 29 (.int .i64 0)).run Ybad.prog w = .ok (.chan (some w.heap.size)) (w.alloc (.chan 0 #[] false 0 0 false)) := by
  obtain ⟨i, hi, hb⟩ := Option.map_eq_some_iff.1 (show (Ybad.prog.info? 35).map (·.bytes) = some 0 by kernel_rfl)
  simpa using run_makeChan (P := Ybad.prog) (w := w) Ybad.underlying29 hi .i64 0 (by omega) (by rw [hb]; omega)
theorem mkC1 (w : World) : (Instr.makeChan 29 (.int .i64 1)).run Ybad.prog w = .ok (.chan (some w.heap.size)) (w.alloc (.chan 1 #[] false 0 0 false)) := by
  obtain ⟨i, hi, hb⟩ := Option.map_eq_some_iff.1 (show (Ybad.prog.info? 35).map (·.bytes) = some 0 by kernel_rfl)
  simpa using run_makeChan (P := Ybad.prog) (w := w) Ybad.underlying29 hi .i64 1 (by omega) (by rw [hb]; omega)
theorem mkC2 (w : World) : (Instr.makeChan 69 (.int .i64 1)).run Ybad.prog w = .ok (.chan (some w.heap.size)) (w.alloc (.chan 1 #[] false 0 0 false)) := by
  obtain ⟨i, hi, hb⟩ := Option.map_eq_some_iff.1 (show (Ybad.prog.info? 81).map (·.bytes) = some 16 by kernel_rfl)
  simpa using run_makeChan (P := Ybad.prog) (w := w) Ybad.underlying69 hi .i64 1 (by omega) (by rw [hb]; omega)
theorem Ybad.info55 : (Ybad.prog.info? 55).map (fun i => (i.zero, i.size, i.bytes)) = some (some (.pointer none), 1, 8) := by kernel_rfl

/-- The state word that the law begins with. -/
def S0 (c r : Int) (pc : Bool) : Int := if pc then bits .or .u64 (word (capOf c) r) CL else word (capOf c) r

theorem setCell_alloc (w : World) (o : Obj) (p : Addr) (v : Value) (h : p.block < w.heap.size) : (w.alloc o).setCell p v = (w.setCell p v).alloc o := by
  simp only [World.setCell, World.alloc]
  congr 1
  apply Array.ext_getElem?
  intro i
  simp only [Array.getElem?_modify, Array.getElem?_push, Array.size_modify]
  split
  · rename_i e
    subst e
    rw [if_neg (by omega), if_neg (by omega)]
  · rfl

/-- The world behind worker j's making. -/
def w3 (w wr : World) (j : Nat) : World := ((wr.alloc (.chan 1 #[] false 0 0 false)).alloc (.cells #[.pointer (some ⟨w.heap.size + 1, 0, none⟩), .chan (some (w.heap.size + 3 + 3 * j)), .bool false, .int .u64 0, .int .i64 0, .pointer none] 67)).alloc
  (.cells #[.pointer (some ⟨w.heap.size + 3 + 3 * j + 1, 0, none⟩)] 62)
theorem w3_old {w wr : World} {j b : Nat} {o : Obj} (h : b < wr.heap.size) (e : wr.heap[b]? = some o) : (w3 w wr j).heap[b]? = some o := by
  unfold w3
  rw [heap_alloc_ne _ _ _ (by simp; omega), heap_alloc_ne _ _ _ (by simp; omega), heap_alloc_ne _ _ _ (by omega)]; exact e


end Go.Proofs.YbulkijmDoor
