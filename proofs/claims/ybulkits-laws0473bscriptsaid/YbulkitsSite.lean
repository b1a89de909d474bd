/-
  The small functions: the sites' names, the closure, New.
-/
import Derived.Test.YbulkitsHeap
namespace Go.Proofs.Ybulkits
open Go.RowKit
set_option linter.unusedVariables false
set_option linter.unusedSimpArgs false

variable {w : World}

theorem site5 (i : Nat) (w : World) (hi : i < 3) : Calls Yba.prog 5 #[.int .i64 i] w fun e w' => e = .returned (.string (site i)) ∧ w' = w := by
  rcases (show i = 0 ∨ i = 1 ∨ i = 2 by omega) with rfl | rfl | rfl
  · go_enter Yba.func5, Yba.ntmps5
    go_wp2_with fail
    go_ret
    exact ⟨rfl, rfl⟩
  · go_enter Yba.func5, Yba.ntmps5
    go_wp2_with fail
    go_ret
    exact ⟨rfl, rfl⟩
  · go_enter Yba.func5, Yba.ntmps5
    go_wp2_with fail
    go_ret
    exact ⟨rfl, rfl⟩

set_option maxRecDepth 100000 in
set_option maxHeartbeats 1600000 in
theorem ends14 (p id : Nat) (w : World) (hp : p < 9) : Calls Yba.prog 14 #[.agg #[.int .i64 p, .int .i64 id]] w fun e w' => e = .returned (.tuple #[.string (site (p / 3)), .string (site (p % 3))]) ∧ ∃ m, w' = (w.alloc (.cells #[.int .i64 p, .int .i64 id] 31)).drewN m := by
  have hI : (p : Int) < 9 := by omega
  have h0 : (0 : Int) ≤ (p : Int) := by omega
  obtain ⟨a, ha⟩ : ∃ a, p / 3 = a := ⟨_, rfl⟩
  obtain ⟨b, hb⟩ : ∃ b, p % 3 = b := ⟨_, rfl⟩
  have hq : (p : Int) / 3 = (a : Int) := by omega
  have hr : (p : Int).tmod 3 = (b : Int) := by rw [Int.tmod_eq_emod_of_nonneg h0]; omega
  have hwa : IntKind.i64.wrap (a : Int) = (a : Int) := by rw [IntKind.wrap_i64]; omega
  rw [ha, hb]
  go_enter Yba.func14, Yba.ntmps14
  go_wp2_with fail
  go_region_held3 (fun wx => wx.cell? ⟨w.heap.size, 0, none⟩ = some (.int .i64 p) ∧ ∃ m, wx = (w.alloc (.cells #[.int .i64 p, .int .i64 id] 31)).drewN m)
    (first | exact ⟨by simp [go_sem], 1, rfl⟩ | fail)
    (first
      | (go_at_call 5; with_reducible refine Calls.mono (site5 a _ (by omega)) ?_; rintro e1 w1 ⟨rfl, rfl⟩)
      | (go_at_call 5; with_reducible refine Calls.mono (site5 b _ (by omega)) ?_; rintro e1 w1 ⟨rfl, rfl⟩)
      | fail)
  all_goals (go_wp2_with fail; go_ret2; exact ⟨rfl, _, rfl⟩)

theorem new4 (w : World) : Calls Yba.prog 4 #[] w fun e w' => e = .returned (.pointer (some ⟨w.heap.size + 1, 0, none⟩)) ∧ w' = (w.alloc (.map #[] 0)).alloc (.cells #[.func (.func 14) #[] #[], .map (some w.heap.size), .int .i64 0, .slice none 0 0] 49) := by
  have h13 : Calls Yba.prog 13 #[.func (.func 14) #[] #[]] w fun e w' => e = .returned (.pointer (some ⟨w.heap.size + 1, 0, none⟩)) ∧ w' = (w.alloc (.map #[] 0)).alloc (.cells #[.func (.func 14) #[] #[], .map (some w.heap.size), .int .i64 0, .slice none 0 0] 49) := by
    have hmk : ∀ W : World, (Instr.makeMap 45 none).run Yba.prog W = .ok (.map (some W.heap.size)) (W.alloc (.map #[] 0)) := fun W => by kernel_rfl
    go_enter Yba.func13, Yba.ntmps13
    go_wp2_with fail
    go_ret
    exact ⟨rfl, rfl⟩
  go_enter Yba.func4, Yba.ntmps4
  go_wp2_with fail
  refine h13.mono ?_
  rintro e1 w1 ⟨rfl, rfl⟩
  go_wp2
  go_ret
  exact ⟨rfl, rfl⟩
end Go.Proofs.Ybulkits
