/-
  Contracts of the leaves: atomic.Uint64's Store, Load, CompareAndSwap; sleeper.claim; the queue's push, remove, pop.
-/
import Derived.Test.YbulkimsRows
import Derived.WalkKit
import Derived.WalkLawsBesides
import Derived.WalkSpells
import Derived.Laws.LoneSync
import Derived.Lib.Builder
import Derived.Deep.RegionHeld3
namespace Go.Proofs.Ybulkims
open Go.RowKit

set_option maxHeartbeats 800000 in
set_option maxRecDepth 100000 in
theorem store_any (b off : Nat) (u : Value) (v : Int) (w : World) (hc : w.cell? ⟨b, off, none⟩ = some u) (hz : w.frozen? ⟨b, off, none⟩ = false) :
    Calls Yba.prog 4 #[.pointer (some ⟨b, off, none⟩), .int .u64 v] w fun e w' => e = .returned (.tuple #[]) ∧ w.setCell ⟨b, off, none⟩ (.int .u64 v) = w' := by
  have hst := run_call_store (P := Yba.prog) Yba.func8 (by kernel_rfl) (by kernel_rfl) (by kernel_rfl) (by kernel_rfl) (k := .u64) (y := v) hc hz
  go_enter Yba.func4, Yba.ntmps4
  go_wp2
  go_end0
  exact ⟨rfl, rfl⟩

set_option maxHeartbeats 800000 in
set_option maxRecDepth 100000 in
theorem load_any (b off : Nat) (v : Int) (w : World) (hc : w.cell? ⟨b, off, none⟩ = some (.int .u64 v)) :
    Calls Yba.prog 7 #[.pointer (some ⟨b, off, none⟩)] w fun e w' => e = .returned (.int .u64 v) ∧ w = w' := by
  have hst := run_call_load (P := Yba.prog) Yba.func11 (by kernel_rfl) (by kernel_rfl) (by kernel_rfl) .u64 (by kernel_rfl) hc
  go_enter Yba.func7, Yba.ntmps7
  go_wp2
  go_ret
  exact ⟨rfl, rfl⟩

set_option maxHeartbeats 800000 in
set_option maxRecDepth 100000 in
theorem cas_hit (b off : Nat) (x y : Int) (w : World) (hc : w.cell? ⟨b, off, none⟩ = some (.int .u64 x)) (hz : w.frozen? ⟨b, off, none⟩ = false) :
    Calls Yba.prog 13 #[.pointer (some ⟨b, off, none⟩), .int .u64 x, .int .u64 y] w fun e w' => e = .returned (.bool true) ∧ w.setCell ⟨b, off, none⟩ (.int .u64 y) = w' := by
  have hst := run_call_cas_hit (P := Yba.prog) Yba.func14 (by kernel_rfl) (by kernel_rfl) (by kernel_rfl) .u64 (by kernel_rfl) (y := y) hc hz
  go_enter Yba.func13, Yba.ntmps13
  go_wp2
  go_ret
  exact ⟨rfl, rfl⟩

set_option maxHeartbeats 800000 in
set_option maxRecDepth 100000 in
theorem cas_miss (b off : Nat) (x o y : Int) (w : World) (hc : w.cell? ⟨b, off, none⟩ = some (.int .u64 x)) (hz : w.frozen? ⟨b, off, none⟩ = false) (hne : ¬ x = o) :
    Calls Yba.prog 13 #[.pointer (some ⟨b, off, none⟩), .int .u64 o, .int .u64 y] w fun e w' => e = .returned (.bool false) ∧ w = w' := by
  have hst := run_call_cas_miss (P := Yba.prog) Yba.func14 (by kernel_rfl) (by kernel_rfl) (by kernel_rfl) .u64 (by kernel_rfl) (y := y) hc hz hne
  go_enter Yba.func13, Yba.ntmps13
  go_wp2
  go_ret
  exact ⟨rfl, rfl⟩

set_option maxHeartbeats 800000 in
set_option maxRecDepth 100000 in
/-- 'claim' at a sleeper that is not shared: taken. -/
theorem claim_own (b : Nat) (t i : Int) (u : Value) (w : World) (h3 : w.cell? ⟨b, 3, none⟩ = some (.bool false)) (h2 : w.cell? ⟨b, 2, none⟩ = some u) (f2 : w.frozen? ⟨b, 2, none⟩ = false) :
    Calls Yba.prog 10 #[.pointer (some ⟨b, 0, none⟩), .int .u64 t, .int .i64 i] w fun e w' => e = .returned (.bool true) ∧ w.setCell ⟨b, 2, none⟩ (.int .i64 i) = w' := by
  go_enter Yba.func10, Yba.ntmps10
  go_wp2
  go_ret
  exact ⟨rfl, rfl⟩

set_option maxHeartbeats 800000 in
set_option maxRecDepth 100000 in
theorem claim_hit (b : Nat) (t i : Int) (u : Value) (w : World) (h3 : w.cell? ⟨b, 3, none⟩ = some (.bool true)) (h2 : w.cell? ⟨b, 2, none⟩ = some u) (f2 : w.frozen? ⟨b, 2, none⟩ = false)
    (h0 : w.cell? ⟨b, 0, none⟩ = some (.int .u64 t)) (f0 : w.frozen? ⟨b, 0, none⟩ = false) :
    Calls Yba.prog 10 #[.pointer (some ⟨b, 0, none⟩), .int .u64 t, .int .i64 i] w fun e w' => e = .returned (.bool true) ∧ (w.setCell ⟨b, 0, none⟩ (.int .u64 (IntKind.u64.wrap (t + 1)))).setCell ⟨b, 2, none⟩ (.int .i64 i) = w' := by
  go_enter Yba.func10, Yba.ntmps10
  go_wp2_with fail
  refine (cas_hit b 0 t _ _ h0 f0).mono ?_
  rintro e w' ⟨rfl, rfl⟩
  go_wp2
  go_ret
  exact ⟨rfl, rfl⟩

set_option maxHeartbeats 800000 in
set_option maxRecDepth 100000 in
theorem claim_miss (b : Nat) (x t i : Int) (w : World) (h3 : w.cell? ⟨b, 3, none⟩ = some (.bool true))
    (h0 : w.cell? ⟨b, 0, none⟩ = some (.int .u64 x)) (f0 : w.frozen? ⟨b, 0, none⟩ = false) (hne : ¬ x = t) :
    Calls Yba.prog 10 #[.pointer (some ⟨b, 0, none⟩), .int .u64 t, .int .i64 i] w fun e w' => e = .returned (.bool false) ∧ w = w' := by
  go_enter Yba.func10, Yba.ntmps10
  go_wp2_with fail
  refine (cas_miss b 0 x t _ _ h0 f0 hne).mono ?_
  rintro e w' ⟨rfl, rfl⟩
  go_wp2
  go_ret
  exact ⟨rfl, rfl⟩
theorem Yba.info56 : (Yba.prog.info? 56).isSome = true := by kernel_rfl
/-- A pointer to a waiter held against itself by '!='. -/
theorem neq_same (a : Addr) (w : World) : (binOp .neq 24 (.pointer (some a)) (.pointer (some a))).run Yba.prog w = .ok (.bool false) w := by
  obtain ⟨j, hj⟩ := Option.isSome_iff_exists.1 Yba.info56
  exact Lib.run_neq_ptr_same w a Yba.underlying24 hj

/-- A pointer to the head of block e. -/
abbrev pt (e : Nat) : Value := .pointer (some ⟨e, 0, none⟩)

set_option maxHeartbeats 800000 in
set_option maxRecDepth 100000 in
theorem push_first (q e : Nat) (u v : Value) (n : Int) (w : World) (_hne : e ≠ q) (hn0 : 0 ≤ n) (hn1 : n < 1000) (h0 : w.cell? ⟨q, 0, none⟩ = some u) (h1 : w.cell? ⟨q, 1, none⟩ = some (.pointer none)) (h2 : w.cell? ⟨q, 2, none⟩ = some (.int .i64 n))
    (fq : ∀ j, w.frozen? ⟨q, j, none⟩ = false) (he : w.cell? ⟨e, 0, none⟩ = some v) (fe : ∀ j, w.frozen? ⟨e, j, none⟩ = false) :
    Calls Yba.prog 5 #[pt q, pt e] w fun r w' => r = .returned (.tuple #[]) ∧ (((w.setCell ⟨e, 0, none⟩ (.pointer none)).setCell ⟨q, 0, none⟩ (pt e)).setCell ⟨q, 1, none⟩ (pt e)).setCell ⟨q, 2, none⟩ (.int .i64 (n + 1)) = w' := by
  go_enter Yba.func5, Yba.ntmps5
  go_wp2
  go_end0
  exact ⟨rfl, rfl⟩

set_option maxHeartbeats 800000 in
set_option maxRecDepth 100000 in
theorem push_more (q e t : Nat) (u v : Value) (n : Int) (w : World) (_hne : e ≠ q) (htq : t ≠ q) (hte : t ≠ e) (hn0 : 0 ≤ n) (hn1 : n < 1000) (h1 : w.cell? ⟨q, 1, none⟩ = some (pt t)) (h2 : w.cell? ⟨q, 2, none⟩ = some (.int .i64 n))
    (fq : ∀ j, w.frozen? ⟨q, j, none⟩ = false) (he : w.cell? ⟨e, 0, none⟩ = some v) (fe : ∀ j, w.frozen? ⟨e, j, none⟩ = false) (ht : w.cell? ⟨t, 1, none⟩ = some u) (ft : ∀ j, w.frozen? ⟨t, j, none⟩ = false) :
    Calls Yba.prog 5 #[pt q, pt e] w fun r w' => r = .returned (.tuple #[]) ∧ (((w.setCell ⟨e, 0, none⟩ (pt t)).setCell ⟨t, 1, none⟩ (pt e)).setCell ⟨q, 1, none⟩ (pt e)).setCell ⟨q, 2, none⟩ (.int .i64 (n + 1)) = w' := by
  go_enter Yba.func5, Yba.ntmps5
  go_wp2
  go_end0
  exact ⟨rfl, rfl⟩

set_option maxHeartbeats 800000 in
set_option maxRecDepth 100000 in
theorem pop_none (q : Nat) (w : World) (h0 : w.cell? ⟨q, 0, none⟩ = some (.pointer none)) :
    Calls Yba.prog 9 #[pt q] w fun r w' => r = .returned (.pointer none) ∧ w = w' := by
  go_enter Yba.func9, Yba.ntmps9
  go_wp2
  go_ret
  exact ⟨rfl, rfl⟩

set_option maxHeartbeats 800000 in
set_option maxRecDepth 100000 in
/-- 'remove' of the head, the only one. -/
theorem remove_last (q e : Nat) (u : Value) (n : Int) (w : World) (hne : e ≠ q) (hn0 : 0 < n) (hn1 : n < 1000) (h0 : w.cell? ⟨q, 0, none⟩ = some (pt e)) (h1 : w.cell? ⟨q, 1, none⟩ = some u) (h2 : w.cell? ⟨q, 2, none⟩ = some (.int .i64 n))
    (fq : ∀ j, w.frozen? ⟨q, j, none⟩ = false) (he : w.cell? ⟨e, 0, none⟩ = some (.pointer none)) (he1 : w.cell? ⟨e, 1, none⟩ = some (.pointer none)) (fe : ∀ j, w.frozen? ⟨e, j, none⟩ = false) :
    Calls Yba.prog 12 #[pt q, pt e] w fun r w' => r = .returned (.tuple #[]) ∧ ((((w.setCell ⟨q, 0, none⟩ (.pointer none)).setCell ⟨q, 1, none⟩ (.pointer none)).setCell ⟨e, 0, none⟩ (.pointer none)).setCell ⟨e, 1, none⟩ (.pointer none)).setCell ⟨q, 2, none⟩ (.int .i64 (n - 1)) = w' := by
  have hnq := neq_same
  go_enter Yba.func12, Yba.ntmps12
  go_wp2
  go_end0
  exact ⟨rfl, rfl⟩

set_option maxHeartbeats 800000 in
set_option maxRecDepth 100000 in
/-- 'remove' of the head, another behind it. -/
theorem remove_head (q e f : Nat) (u : Value) (n : Int) (w : World) (hne : e ≠ q) (hfq : f ≠ q) (hfe : f ≠ e) (hn0 : 0 < n) (hn1 : n < 1000) (h0 : w.cell? ⟨q, 0, none⟩ = some (pt e)) (h2 : w.cell? ⟨q, 2, none⟩ = some (.int .i64 n))
    (fq : ∀ j, w.frozen? ⟨q, j, none⟩ = false) (he : w.cell? ⟨e, 0, none⟩ = some (.pointer none)) (he1 : w.cell? ⟨e, 1, none⟩ = some (pt f)) (fe : ∀ j, w.frozen? ⟨e, j, none⟩ = false)
    (hf : w.cell? ⟨f, 0, none⟩ = some u) (ff : ∀ j, w.frozen? ⟨f, j, none⟩ = false) :
    Calls Yba.prog 12 #[pt q, pt e] w fun r w' => r = .returned (.tuple #[]) ∧ (((((w.setCell ⟨q, 0, none⟩ (pt f)).setCell ⟨f, 0, none⟩ (.pointer none)).setCell ⟨e, 0, none⟩ (.pointer none)).setCell ⟨e, 1, none⟩ (.pointer none)).setCell ⟨q, 2, none⟩ (.int .i64 (n - 1))).drew = w' := by
  have hnq := neq_same
  go_enter Yba.func12, Yba.ntmps12
  go_wp2
  go_region
  go_wp2
  go_end0
  exact ⟨rfl, rfl⟩

set_option maxHeartbeats 800000 in
set_option maxRecDepth 100000 in
theorem pop_last (q e : Nat) (u : Value) (n : Int) (w : World) (hne : e ≠ q) (hn0 : 0 < n) (hn1 : n < 1000) (h0 : w.cell? ⟨q, 0, none⟩ = some (pt e)) (h1 : w.cell? ⟨q, 1, none⟩ = some u) (h2 : w.cell? ⟨q, 2, none⟩ = some (.int .i64 n))
    (fq : ∀ j, w.frozen? ⟨q, j, none⟩ = false) (he : w.cell? ⟨e, 0, none⟩ = some (.pointer none)) (he1 : w.cell? ⟨e, 1, none⟩ = some (.pointer none)) (fe : ∀ j, w.frozen? ⟨e, j, none⟩ = false) :
    Calls Yba.prog 9 #[pt q] w fun r w' => r = .returned (pt e) ∧ ((((w.setCell ⟨q, 0, none⟩ (.pointer none)).setCell ⟨q, 1, none⟩ (.pointer none)).setCell ⟨e, 0, none⟩ (.pointer none)).setCell ⟨e, 1, none⟩ (.pointer none)).setCell ⟨q, 2, none⟩ (.int .i64 (n - 1)) = w' := by
  go_enter Yba.func9, Yba.ntmps9
  go_wp2_with fail
  refine (remove_last q e u n _ hne hn0 hn1 h0 h1 h2 fq he he1 fe).mono ?_
  rintro r w' ⟨rfl, rfl⟩
  go_wp2
  go_ret
  exact ⟨rfl, rfl⟩

set_option maxHeartbeats 800000 in
set_option maxRecDepth 100000 in
theorem pop_head (q e f : Nat) (u : Value) (n : Int) (w : World) (hne : e ≠ q) (hfq : f ≠ q) (hfe : f ≠ e) (hn0 : 0 < n) (hn1 : n < 1000) (h0 : w.cell? ⟨q, 0, none⟩ = some (pt e)) (h2 : w.cell? ⟨q, 2, none⟩ = some (.int .i64 n))
    (fq : ∀ j, w.frozen? ⟨q, j, none⟩ = false) (he : w.cell? ⟨e, 0, none⟩ = some (.pointer none)) (he1 : w.cell? ⟨e, 1, none⟩ = some (pt f)) (fe : ∀ j, w.frozen? ⟨e, j, none⟩ = false)
    (hf : w.cell? ⟨f, 0, none⟩ = some u) (ff : ∀ j, w.frozen? ⟨f, j, none⟩ = false) :
    Calls Yba.prog 9 #[pt q] w fun r w' => r = .returned (pt e) ∧ (((((w.setCell ⟨q, 0, none⟩ (pt f)).setCell ⟨f, 0, none⟩ (.pointer none)).setCell ⟨e, 0, none⟩ (.pointer none)).setCell ⟨e, 1, none⟩ (.pointer none)).setCell ⟨q, 2, none⟩ (.int .i64 (n - 1))).drew = w' := by
  go_enter Yba.func9, Yba.ntmps9
  go_wp2_with fail
  refine (remove_head q e f u n _ hne hfq hfe hn0 hn1 h0 h2 fq he he1 fe hf ff).mono ?_
  rintro r w' ⟨rfl, rfl⟩
  go_wp2
  go_ret
  exact ⟨rfl, rfl⟩
end Go.Proofs.Ybulkims
