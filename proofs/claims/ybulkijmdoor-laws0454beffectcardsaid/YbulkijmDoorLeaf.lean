/-
  Contracts of the leaves: sync/atomic's Uint64 and Int64; poolState's closed and running; the pool's small methods; the waiting callers' push, remove, pop.
-/
import Derived.Test.YbulkijmDoorRows
import Derived.Test.YbulkijmDoorLocks
import Derived.Conc.MuLone
import Derived.WalkKit
import Derived.WalkLawsBesides
import Derived.WalkSpells
import Derived.Laws.LoneSync
import Derived.Lib.Builder
namespace Go.Proofs.YbulkijmDoor
open Go.RowKit
set_option linter.unusedVariables false

abbrev pt (e : Nat) : Value := .pointer (some ⟨e, 0, none⟩)

set_option maxHeartbeats 800000 in
set_option maxRecDepth 100000 in
theorem store64 (b off : Nat) (u : Value) (v : Int) (w : World) (hc : w.cell? ⟨b, off, none⟩ = some u) (hz : w.frozen? ⟨b, off, none⟩ = false) :
    Calls Ybad.prog 6 #[.pointer (some ⟨b, off, none⟩), .int .u64 v] w fun e w' => e = .returned (.tuple #[]) ∧ w.setCell ⟨b, off, none⟩ (.int .u64 v) = w' := by
  have hst := run_call_store (P := Ybad.prog) Ybad.func15 (by kernel_rfl) (by kernel_rfl) (by kernel_rfl) (by kernel_rfl) (k := .u64) (y := v) hc hz
  go_enter Ybad.func6, Ybad.ntmps6
  go_wp2
  go_end0
  exact ⟨rfl, rfl⟩

set_option maxHeartbeats 800000 in
set_option maxRecDepth 100000 in
theorem storeI (b off : Nat) (u : Value) (v : Int) (w : World) (hc : w.cell? ⟨b, off, none⟩ = some u) (hz : w.frozen? ⟨b, off, none⟩ = false) :
    Calls Ybad.prog 8 #[.pointer (some ⟨b, off, none⟩), .int .i64 v] w fun e w' => e = .returned (.tuple #[]) ∧ w.setCell ⟨b, off, none⟩ (.int .i64 v) = w' := by
  have hst := run_call_store (P := Ybad.prog) Ybad.func16 (by kernel_rfl) (by kernel_rfl) (by kernel_rfl) (by kernel_rfl) (k := .i64) (y := v) hc hz
  go_enter Ybad.func8, Ybad.ntmps8
  go_wp2
  go_end0
  exact ⟨rfl, rfl⟩

set_option maxHeartbeats 800000 in
set_option maxRecDepth 100000 in
theorem load64 (b off : Nat) (v : Int) (w : World) (hc : w.cell? ⟨b, off, none⟩ = some (.int .u64 v)) :
    Calls Ybad.prog 10 #[.pointer (some ⟨b, off, none⟩)] w fun e w' => e = .returned (.int .u64 v) ∧ w = w' := by
  have hst := run_call_load (P := Ybad.prog) Ybad.func24 (by kernel_rfl) (by kernel_rfl) (by kernel_rfl) .u64 (by kernel_rfl) hc
  go_enter Ybad.func10, Ybad.ntmps10
  go_wp2
  go_ret
  exact ⟨rfl, rfl⟩

set_option maxHeartbeats 800000 in
set_option maxRecDepth 100000 in
theorem loadI (b off : Nat) (v : Int) (w : World) (hc : w.cell? ⟨b, off, none⟩ = some (.int .i64 v)) :
    Calls Ybad.prog 12 #[.pointer (some ⟨b, off, none⟩)] w fun e w' => e = .returned (.int .i64 v) ∧ w = w' := by
  have hst := run_call_load (P := Ybad.prog) Ybad.func25 (by kernel_rfl) (by kernel_rfl) (by kernel_rfl) .i64 (by kernel_rfl) hc
  go_enter Ybad.func12, Ybad.ntmps12
  go_wp2
  go_ret
  exact ⟨rfl, rfl⟩

theorem run_call_or {P : Program} {f : FuncId} {fn : Func} (hf : P.funcs[f]? = some fn) (hname : (fn.name == "runtime.NumGoroutine") = false) (hb : fn.body.isNone = true) (hn : Extern.findNext fn = none) (k : IntKind)
    (he : Extern.find fn = some (Extern.Atomic.update (Op.intBits .or) k false)) {a : Addr} {x y : Int} {w : World} (hc : w.cell? a = some (.int k x)) (hz : w.frozen? a = false) :
    (callFunc f #[.pointer (some a), .int k y]).run P w = .ok (.value (.int k x)) (w.setCell a (.int k (bits .or k x y))) := by
  rw [run_callFunc_extern hf hname hb hn he]
  change (Sem.run P (do
    let a' ← asAddr (.pointer (some a))
    let old ← Extern.Atomic.read (.int k) a'
    let new ← Op.intBits .or k (← asInt old) (← asInt (.int k y))
    store a' new .atomic
    pure (if false = true then new else old)) w).andThen _ = _
  simp [Extern.Atomic.read, asAddr, asInt, asIntOf, hc, hz, intBits_or, run_store P w a (.int k _) .atomic rfl, Result.andThen]

set_option maxHeartbeats 800000 in
set_option maxRecDepth 100000 in
theorem or64 (b off : Nat) (x y : Int) (w : World) (hc : w.cell? ⟨b, off, none⟩ = some (.int .u64 x)) (hz : w.frozen? ⟨b, off, none⟩ = false) :
    Calls Ybad.prog 19 #[.pointer (some ⟨b, off, none⟩), .int .u64 y] w fun e w' => e = .returned (.int .u64 x) ∧ w.setCell ⟨b, off, none⟩ (.int .u64 (bits .or .u64 x y)) = w' := by
  have hst := run_call_or (P := Ybad.prog) Ybad.func28 (by kernel_rfl) (by kernel_rfl) (by kernel_rfl) .u64 (by kernel_rfl) (y := y) hc hz
  go_enter Ybad.func19, Ybad.ntmps19
  go_wp2
  go_ret
  exact ⟨rfl, rfl⟩

set_option maxHeartbeats 800000 in
set_option maxRecDepth 100000 in
theorem addI (b off : Nat) (x y : Int) (w : World) (h1 : -9223372036854775808 ≤ x + y) (h2 : x + y ≤ 9223372036854775807) (hc : w.cell? ⟨b, off, none⟩ = some (.int .i64 x)) (hz : w.frozen? ⟨b, off, none⟩ = false) :
    Calls Ybad.prog 33 #[.pointer (some ⟨b, off, none⟩), .int .i64 y] w fun e w' => e = .returned (.int .i64 (x + y)) ∧ w.setCell ⟨b, off, none⟩ (.int .i64 (x + y)) = w' := by
  have hst := run_call_add (P := Ybad.prog) Ybad.func45 (by kernel_rfl) (by kernel_rfl) (by kernel_rfl) .i64 (by kernel_rfl) (y := y) (s := x + y) hc hz (by
    have e : IntKind.i64.wrap (x + y) = x + y := by rw [IntKind.wrap_i64]; omega
    simp [go_sem, e])
  go_enter Ybad.func33, Ybad.ntmps33
  go_wp2
  go_ret
  exact ⟨rfl, rfl⟩

set_option maxHeartbeats 800000 in
set_option maxRecDepth 100000 in
theorem closed_any (s : Int) (w : World) :
    Calls Ybad.prog 11 #[.int .u64 s] w fun e w' => e = .returned (.bool (bits .and .u64 s 9223372036854775808 != 0)) ∧ w = w' := by
  go_enter Ybad.func11, Ybad.ntmps11
  go_wp2
  go_ret
  exact ⟨rfl, rfl⟩

set_option maxHeartbeats 800000 in
set_option maxRecDepth 100000 in
theorem running_any (s : Int) (w : World) (h0 : 0 ≤ bits .and .u64 s 2147483647) (h1 : bits .and .u64 s 2147483647 ≤ 2147483647) :
    Calls Ybad.prog 34 #[.int .u64 s] w fun e w' => e = .returned (.int .i64 (bits .and .u64 s 2147483647)) ∧ w = w' := by
  go_enter Ybad.func34, Ybad.ntmps34
  go_wp2
  go_ret
  exact ⟨rfl, rfl⟩

set_option maxHeartbeats 800000 in
set_option maxRecDepth 100000 in
theorem gorout_any (p : Nat) (n : Int) (w : World) (h22 : w.cell? ⟨p, 22, none⟩ = some (.bool false)) (h17 : w.cell? ⟨p, 17, none⟩ = some (.int .i64 n)) :
    Calls Ybad.prog 35 #[pt p] w fun e w' => e = .returned (.int .i64 n) ∧ w = w' := by
  go_enter Ybad.func35, Ybad.ntmps35
  go_wp2
  go_ret
  exact ⟨rfl, rfl⟩

theorem Ybad.info73 : (Ybad.prog.info? 73).isSome = true := by kernel_rfl
theorem neq_same (a : Addr) (w : World) : (binOp .neq 55 (.pointer (some a)) (.pointer (some a))).run Ybad.prog w = .ok (.bool false) w := by
  obtain ⟨j, hj⟩ := Option.isSome_iff_exists.1 Ybad.info73
  exact Lib.run_neq_ptr_same w a Ybad.underlying55 hj

set_option maxHeartbeats 800000 in
set_option maxRecDepth 100000 in
theorem push_first (p e : Nat) (u v : Value) (n : Int) (w : World) (_hne : e ≠ p) (hn0 : 0 ≤ n) (hn1 : n < 5000) (h0 : w.cell? ⟨p, 19, none⟩ = some u) (h1 : w.cell? ⟨p, 20, none⟩ = some (.pointer none)) (h2 : w.cell? ⟨p, 21, none⟩ = some (.int .i64 n))
    (fq : ∀ j, w.frozen? ⟨p, j, none⟩ = false) (he : w.cell? ⟨e, 2, none⟩ = some v) (fe : ∀ j, w.frozen? ⟨e, j, none⟩ = false) :
    Calls Ybad.prog 7 #[.pointer (some ⟨p, 19, none⟩), pt e] w fun r w' => r = .returned (.tuple #[]) ∧ (((w.setCell ⟨e, 2, none⟩ (.pointer none)).setCell ⟨p, 19, none⟩ (pt e)).setCell ⟨p, 20, none⟩ (pt e)).setCell ⟨p, 21, none⟩ (.int .i64 (n + 1)) = w' := by
  go_enter Ybad.func7, Ybad.ntmps7
  go_wp2
  go_end0
  exact ⟨rfl, rfl⟩

set_option maxHeartbeats 800000 in
set_option maxRecDepth 100000 in
theorem push_more (p e t : Nat) (u v : Value) (n : Int) (w : World) (_hne : e ≠ p) (htq : t ≠ p) (hte : t ≠ e) (hn0 : 0 ≤ n) (hn1 : n < 5000) (h1 : w.cell? ⟨p, 20, none⟩ = some (pt t)) (h2 : w.cell? ⟨p, 21, none⟩ = some (.int .i64 n))
    (fq : ∀ j, w.frozen? ⟨p, j, none⟩ = false) (he : w.cell? ⟨e, 2, none⟩ = some v) (fe : ∀ j, w.frozen? ⟨e, j, none⟩ = false) (ht : w.cell? ⟨t, 3, none⟩ = some u) (ft : ∀ j, w.frozen? ⟨t, j, none⟩ = false) :
    Calls Ybad.prog 7 #[.pointer (some ⟨p, 19, none⟩), pt e] w fun r w' => r = .returned (.tuple #[]) ∧ (((w.setCell ⟨e, 2, none⟩ (pt t)).setCell ⟨t, 3, none⟩ (pt e)).setCell ⟨p, 20, none⟩ (pt e)).setCell ⟨p, 21, none⟩ (.int .i64 (n + 1)) = w' := by
  go_enter Ybad.func7, Ybad.ntmps7
  go_wp2
  go_end0
  exact ⟨rfl, rfl⟩

set_option maxHeartbeats 800000 in
set_option maxRecDepth 100000 in
theorem pop_none (p : Nat) (w : World) (h0 : w.cell? ⟨p, 19, none⟩ = some (.pointer none)) :
    Calls Ybad.prog 32 #[.pointer (some ⟨p, 19, none⟩)] w fun r w' => r = .returned (.pointer none) ∧ w = w' := by
  go_enter Ybad.func32, Ybad.ntmps32
  go_wp2
  go_ret
  exact ⟨rfl, rfl⟩

set_option maxHeartbeats 800000 in
set_option maxRecDepth 100000 in
theorem remove_last (q e : Nat) (u : Value) (n : Int) (w : World) (hne : e ≠ q) (hn0 : 0 < n) (hn1 : n < 5000) (h0 : w.cell? ⟨q, 19, none⟩ = some (pt e)) (h1 : w.cell? ⟨q, 20, none⟩ = some u) (h2 : w.cell? ⟨q, 21, none⟩ = some (.int .i64 n))
    (fq : ∀ j, w.frozen? ⟨q, j, none⟩ = false) (he : w.cell? ⟨e, 2, none⟩ = some (.pointer none)) (he1 : w.cell? ⟨e, 3, none⟩ = some (.pointer none)) (fe : ∀ j, w.frozen? ⟨e, j, none⟩ = false) :
    Calls Ybad.prog 44 #[.pointer (some ⟨q, 19, none⟩), pt e] w fun r w' => r = .returned (.bool true) ∧ ((((w.setCell ⟨q, 19, none⟩ (.pointer none)).setCell ⟨q, 20, none⟩ (.pointer none)).setCell ⟨e, 2, none⟩ (.pointer none)).setCell ⟨e, 3, none⟩ (.pointer none)).setCell ⟨q, 21, none⟩ (.int .i64 (n - 1)) = w' := by
  have hnq := neq_same
  go_enter Ybad.func44, Ybad.ntmps44
  go_wp2
  go_ret
  exact ⟨rfl, rfl⟩

set_option maxHeartbeats 800000 in
set_option maxRecDepth 100000 in
theorem remove_head (q e f : Nat) (u : Value) (n : Int) (w : World) (hne : e ≠ q) (hfq : f ≠ q) (hfe : f ≠ e) (hn0 : 0 < n) (hn1 : n < 5000) (h0 : w.cell? ⟨q, 19, none⟩ = some (pt e)) (h2 : w.cell? ⟨q, 21, none⟩ = some (.int .i64 n))
    (fq : ∀ j, w.frozen? ⟨q, j, none⟩ = false) (he : w.cell? ⟨e, 2, none⟩ = some (.pointer none)) (he1 : w.cell? ⟨e, 3, none⟩ = some (pt f)) (fe : ∀ j, w.frozen? ⟨e, j, none⟩ = false)
    (hf : w.cell? ⟨f, 2, none⟩ = some u) (ff : ∀ j, w.frozen? ⟨f, j, none⟩ = false) :
    Calls Ybad.prog 44 #[.pointer (some ⟨q, 19, none⟩), pt e] w fun r w' => r = .returned (.bool true) ∧ (((((w.setCell ⟨q, 19, none⟩ (pt f)).setCell ⟨f, 2, none⟩ (.pointer none)).setCell ⟨e, 2, none⟩ (.pointer none)).setCell ⟨e, 3, none⟩ (.pointer none)).setCell ⟨q, 21, none⟩ (.int .i64 (n - 1))).drew = w' := by
  have hnq := neq_same
  go_enter Ybad.func44, Ybad.ntmps44
  go_wp2
  go_region
  go_wp2
  go_ret
  exact ⟨rfl, rfl⟩

set_option maxHeartbeats 800000 in
set_option maxRecDepth 100000 in
theorem pop_last (q e : Nat) (u : Value) (n : Int) (w : World) (hne : e ≠ q) (hn0 : 0 < n) (hn1 : n < 5000) (h0 : w.cell? ⟨q, 19, none⟩ = some (pt e)) (h1 : w.cell? ⟨q, 20, none⟩ = some u) (h2 : w.cell? ⟨q, 21, none⟩ = some (.int .i64 n))
    (fq : ∀ j, w.frozen? ⟨q, j, none⟩ = false) (he : w.cell? ⟨e, 2, none⟩ = some (.pointer none)) (he1 : w.cell? ⟨e, 3, none⟩ = some (.pointer none)) (fe : ∀ j, w.frozen? ⟨e, j, none⟩ = false) :
    Calls Ybad.prog 32 #[.pointer (some ⟨q, 19, none⟩)] w fun r w' => r = .returned (pt e) ∧ ((((w.setCell ⟨q, 19, none⟩ (.pointer none)).setCell ⟨q, 20, none⟩ (.pointer none)).setCell ⟨e, 2, none⟩ (.pointer none)).setCell ⟨e, 3, none⟩ (.pointer none)).setCell ⟨q, 21, none⟩ (.int .i64 (n - 1)) = w' := by
  go_enter Ybad.func32, Ybad.ntmps32
  go_wp2_with fail
  refine (remove_last q e u n _ hne hn0 hn1 h0 h1 h2 fq he he1 fe).mono ?_
  rintro r w' ⟨rfl, rfl⟩
  go_wp2
  go_ret
  exact ⟨rfl, rfl⟩

set_option maxHeartbeats 800000 in
set_option maxRecDepth 100000 in
theorem pop_head (q e f : Nat) (u : Value) (n : Int) (w : World) (hne : e ≠ q) (hfq : f ≠ q) (hfe : f ≠ e) (hn0 : 0 < n) (hn1 : n < 5000) (h0 : w.cell? ⟨q, 19, none⟩ = some (pt e)) (h2 : w.cell? ⟨q, 21, none⟩ = some (.int .i64 n))
    (fq : ∀ j, w.frozen? ⟨q, j, none⟩ = false) (he : w.cell? ⟨e, 2, none⟩ = some (.pointer none)) (he1 : w.cell? ⟨e, 3, none⟩ = some (pt f)) (fe : ∀ j, w.frozen? ⟨e, j, none⟩ = false)
    (hf : w.cell? ⟨f, 2, none⟩ = some u) (ff : ∀ j, w.frozen? ⟨f, j, none⟩ = false) :
    Calls Ybad.prog 32 #[.pointer (some ⟨q, 19, none⟩)] w fun r w' => r = .returned (pt e) ∧ (((((w.setCell ⟨q, 19, none⟩ (pt f)).setCell ⟨f, 2, none⟩ (.pointer none)).setCell ⟨e, 2, none⟩ (.pointer none)).setCell ⟨e, 3, none⟩ (.pointer none)).setCell ⟨q, 21, none⟩ (.int .i64 (n - 1))).drew = w' := by
  go_enter Ybad.func32, Ybad.ntmps32
  go_wp2_with fail
  refine (remove_head q e f u n _ hne hfq hfe hn0 hn1 h0 h2 fq he he1 fe hf ff).mono ?_
  rintro r w' ⟨rfl, rfl⟩
  go_wp2
  go_ret
  exact ⟨rfl, rfl⟩
end Go.Proofs.YbulkijmDoor
