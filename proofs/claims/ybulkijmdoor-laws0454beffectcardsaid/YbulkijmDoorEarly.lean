/-
  LawS0454BEffect at inputs that it passes over.
-/
import Derived.Test.YbulkijmDoorChecked
import Derived.WalkKit
import Derived.ProofKit
namespace Go.Proofs.YbulkijmDoor
open Go.RowKit
set_option linter.unusedVariables false

set_option maxHeartbeats 800000 in
set_option maxRecDepth 100000 in
theorem law_early (r c : Int) (n x m : Nat) (pc tw : Bool) (w : World) (h : 1024 < n ∨ 1024 < m ∨ 1024 < x) :
    Calls Ybad.prog 3 #[.int .u32 r, .int .i32 c, .int .u16 n, .int .u16 x, .int .u16 m, .bool pc, .bool tw] w fun e w' => e = .returned (.bool true) ∧ Below w.heap.size w w' := by
  by_cases h1 : 1024 < n
  · have d1 : decide ((1024 : Int) < n) = true := by simp; omega
    clear h h1
    go_enter Ybad.func3, Ybad.ntmps3
    go_wp2
    go_ret
    exact ⟨rfl, Below.refl _ _⟩
  · have d1 : decide ((1024 : Int) < n) = false := by simp; omega
    by_cases h2 : 1024 < m
    · have d2 : decide ((1024 : Int) < m) = true := by simp; omega
      clear h h1 h2
      go_enter Ybad.func3, Ybad.ntmps3
      go_wp2
      go_ret
      exact ⟨rfl, Below.refl _ _⟩
    · have d2 : decide ((1024 : Int) < m) = false := by simp; omega
      have d3 : decide ((1024 : Int) < x) = true := by simp; omega
      clear h h1 h2
      go_enter Ybad.func3, Ybad.ntmps3
      go_wp2
      go_ret
      exact ⟨rfl, Below.refl _ _⟩
end Go.Proofs.YbulkijmDoor
