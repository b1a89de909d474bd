/-
  The contract of slices.Delete at the whole of a list of workers.
-/
import Derived.Test.YbulkijmDoorLeaf
import Derived.Lib.SliceRun
import Derived.Deep.Upon
import Derived.BigRegion
namespace Go.Proofs.YbulkijmDoor
open Go.RowKit
set_option linter.unusedVariables false

theorem Ybad.info62 : (Ybad.prog.info? 62).map (fun i => (i.zero, i.size, i.bytes)) = some (some (.pointer none), 1, 8) := by kernel_rfl

theorem append_nothing (w : World) (ty : TypeId) (a : Addr) (p : Option Addr) (cap c' : Nat) :
    (Builtin.append_ #[54, 54] ty #[.slice (some a) 0 cap, .slice p 0 c']).run Ybad.prog w = .ok (.slice (some a) 0 cap) w := by
  obtain ⟨i0, hi, hz0, hz1, hz2⟩ := info_parts Ybad.info62
  cases p with
  | none => simp [Builtin.append_, run_underlying Ybad.underlying54, sizeOf, typeInfo, hi, Builtin.lenOf, Builtin.firstCells, storeCells]
  | some b => simp [Builtin.append_, run_underlying Ybad.underlying54, sizeOf, typeInfo, hi, Builtin.lenOf, Builtin.firstCells, storeCells, loadCells, loadCellsFrom]

set_option maxHeartbeats 800000 in
set_option maxRecDepth 100000 in
theorem delete_none (sa : Option Addr) (cap : Nat) (w : World) :
    Calls Ybad.prog 29 #[.slice sa 0 cap, .int .i64 0, .int .i64 0] w fun e w' => e = .returned (.slice sa 0 cap) ∧ w = w' := by
  go_enter Ybad.func29, Ybad.ntmps29
  go_wp2
  go_ret
  exact ⟨rfl, rfl⟩

set_option maxHeartbeats 800000 in
set_option maxRecDepth 100000 in
theorem delete_all (I n cap : Nat) (w : World) (hn : 0 < n) (hn1 : n < 5000) (hcap : n ≤ cap) (hc : ∀ j, j < n → (w.cell? ⟨I, j, none⟩).isSome = true) (hf : ∀ j, w.frozen? ⟨I, j, none⟩ = false) :
    Calls Ybad.prog 29 #[.slice (some ⟨I, 0, none⟩) n cap, .int .i64 0, .int .i64 n] w fun e w' => e = .returned (.slice (some ⟨I, 0, none⟩) 0 cap) ∧ w.drew.setCells I 0 (List.replicate n (.pointer none)) = w' := by
  have h0 : ((0 : Int) == (n : Int)) = false := by simp; omega
  have hnI : (n : Int) < 5000 := by omega
  have hap := append_nothing
  have hcl := fun ty => Lib.run_clear_slice (P := Ybad.prog) w.drew 54 62 ty (.pointer none) Ybad.underlying54 (fun w => Ybad.zeroValue62 w) rfl rfl I 0 n cap hn (by simpa using hc) (by simpa using fun j _ => hf j)
  clear hf
  by_cases hcn : cap = n
  · subst hcn
    go_enter Ybad.func29, Ybad.ntmps29
    go_wp2
    go_region
    go_wp2
    go_ret
    exact ⟨rfl, rfl⟩
  · go_enter Ybad.func29, Ybad.ntmps29
    go_wp2
    go_region
    go_wp2
    go_ret
    exact ⟨rfl, rfl⟩
end Go.Proofs.YbulkijmDoor
