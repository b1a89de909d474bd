/-
  slices.SortFunc at no element.
-/
import Derived.Test.YbulkingDoorLeaf
namespace Go.Proofs.YbulkingDoor
open Go.RowKit
set_option linter.unusedVariables false
set_option linter.unusedSimpArgs false

theorem ins_none (p : Option Addr) (cap : Nat) (fv : Value) (w : World) : Calls Ybad.prog 38 #[.slice p 0 cap, .int .i64 0, .int .i64 0, fv] w fun e w' => e = .returned (.tuple #[]) ∧ w' = w := by
  go_enter Ybad.func38, Ybad.ntmps38
  go_wp2
  refine wp_loop_rounds 1 ?_
  rw [rounds_succ]
  go_wp2
  go_end0
  exact ⟨rfl, rfl⟩

set_option maxRecDepth 100000 in
theorem len64_none (w : World) : Calls Ybad.prog 47 #[.int .u64 0] w fun e w' => ∃ l : Int, e = .returned (.int .i64 l) ∧ w' = w := by
  go_enter Ybad.func47, Ybad.ntmps47
  go_wp2
  go_ret
  exact ⟨_, rfl, rfl⟩

theorem len_none (w : World) : Calls Ybad.prog 27 #[.int .u64 0] w fun e w' => ∃ l : Int, e = .returned (.int .i64 l) ∧ w' = w := by
  go_enter Ybad.func27, Ybad.ntmps27
  go_wp2_with (go_at_call 47; refine (len64_none _).mono ?_; rintro e w' ⟨l, rfl, rfl⟩)
  go_ret
  exact ⟨_, rfl, rfl⟩

theorem pdq_none (p : Option Addr) (cap : Nat) (l : Int) (fv : Value) (w : World) : Calls Ybad.prog 26 #[.slice p 0 cap, .int .i64 0, .int .i64 0, .int .i64 l, fv] w fun e w' => e = .returned (.tuple #[]) ∧ w' = w := by
  go_enter Ybad.func26, Ybad.ntmps26
  go_wp2
  refine wp_loop_rounds 1 ?_
  rw [rounds_succ]
  go_wp2_with (go_at_call 38; refine (ins_none _ _ _ _).mono ?_; rintro e w' ⟨rfl, rfl⟩)
  (try simp only [Exit.inBlock, Exit.then]); refine bodyPost_ret (results_none rfl _ _ _) rfl ?_
  exact ⟨rfl, rfl⟩

theorem sort17_none (p : Option Addr) (cap : Nat) (fv : Value) (w : World) : Calls Ybad.prog 17 #[.slice p 0 cap, fv] w fun e w' => e = .returned (.tuple #[]) ∧ w' = w := by
  go_enter Ybad.func17, Ybad.ntmps17
  go_wp2_with (first | (go_at_call 27; refine (len_none _).mono ?_; rintro e w' ⟨l, rfl, rfl⟩) | (go_at_call 26; refine (pdq_none _ _ _ _ _).mono ?_; rintro e w' ⟨rfl, rfl⟩))
  go_end0
  exact ⟨rfl, rfl⟩
end Go.Proofs.YbulkingDoor
