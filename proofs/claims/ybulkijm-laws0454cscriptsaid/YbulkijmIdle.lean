/-
  Contracts of (*Pool).Idle and (*sync.Mutex).TryLock, one goroutine, the lock free.
-/
import Derived.Test.YbulkijmRows
import Derived.Test.YbulkijmLocks
import Derived.Conc.MuLone
import Derived.WalkKit
import Derived.WalkLawsBesides
namespace Go.Proofs.Ybulkijm
open Go.RowKit Go.MuLone

/-- A cell that is turned and turned back: the world as it was. -/
theorem setCell_back (w : World) (a : Addr) (u v : Value) (h : w.cell? a = some v) : (w.setCell a u).setCell a v = w := by
  obtain ⟨b, o, sp⟩ := a
  cases w with
  | mk heap tape drawn os output =>
  simp only [World.setCell]
  congr 1
  apply Array.ext
  · simp
  intro i h1 h2
  simp only [Array.getElem_modify]
  by_cases e : b = i
  · subst e
    simp only [if_true]
    simp only [World.cell?] at h
    have h2' : heap[b]? = some heap[b] := Array.getElem?_eq_getElem h2
    rw [h2'] at h
    cases hb : heap[b] with
    | cells c t f =>
      rw [hb] at h
      simp only at h
      by_cases hs : sp.isSome
      · simp [hs] at h
      · simp [hs] at h ⊢
        apply Array.ext
        · simp
        intro j k1 k2
        by_cases hj : o = j
        · subst hj
          rw [Array.getElem?_eq_getElem k2] at h
          rw [Array.getElem_setIfInBounds_self]
          exact (Option.some.inj h).symm
        · rw [Array.getElem_setIfInBounds_ne k2 hj]
    | _ => rfl
  · simp [e]

set_option maxRecDepth 100000 in
/-- The conversion ahead of race.Acquire, of a pointer at a cell: the same pointer; the world as it was. -/
theorem conv_same {a : Addr} {v : Value} {w : World} (hc : w.cell? a = some v) : (convert 78 82 (.pointer (some a))).run Yba.prog w = .ok (.pointer (some a)) w := by
  have hs := run_underlying Yba.underlying78
  have hd := run_underlying Yba.underlying82
  obtain ⟨e, n, hsh, hlt, hsp⟩ := World.shape?_of_cell? hc
  obtain ⟨i, hi, hz0⟩ := Option.map_eq_some_iff.1 Yba.muLib.room_tIMutex
  have hz : i.size ≠ 0 := by simpa using hz0
  have hge : ¬ (n ≤ a.off) := by omega
  simp [convert, hs, hd, Result.andThen]
  change Sem.run Yba.prog (underlying 78 >>= _) w = _
  simp [Conv.seenAt, viewAt, cellsIn, sizeOf, typeInfo, hs, hd, hi, hz, hsh, hge, Result.andThen]

set_option maxHeartbeats 800000 in
set_option maxRecDepth 100000 in
theorem itry_free (a : Addr) (w : World) (hc : w.cell? a = some (.int .i32 0)) (hz : w.frozen? a = false) :
    Calls Yba.prog 14 #[.pointer (some a)] w fun e w' => e = .returned (.bool true) ∧ w' = w.setCell a (.int .i32 1) := by
  have hd : ∀ w, (callFunc 17 #[]).run Yba.prog w = .ok (.value (.tuple #[])) w := disable Yba.muLib
  have he : ∀ w, (callFunc 18 #[]).run Yba.prog w = .ok (.value (.tuple #[])) w := enable Yba.muLib
  have ha : ∀ a w, (callFunc 20 #[.pointer (some a)]).run Yba.prog w = .ok (.value (.tuple #[])) w := acquire Yba.muLib
  have hcas := run_call_cas_hit (P := Yba.prog) Yba.func19 (by kernel_rfl) (by kernel_rfl) (by kernel_rfl) .i32 (by kernel_rfl) (y := 1) hc hz
  have hc' : (w.setCell a (.int .i32 1)).cell? a = some (.int .i32 1) := by simp [go_sem, hc]
  have hcv := conv_same hc'
  go_enter Yba.func14, Yba.ntmps14
  go_wp2
  go_ret
  exact ⟨rfl, rfl⟩

set_option maxHeartbeats 800000 in
set_option maxRecDepth 100000 in
theorem try_free (a : Addr) (w : World) (hc : w.cell? a = some (.int .i32 0)) (hz : w.frozen? a = false) :
    Calls Yba.prog 9 #[.pointer (some a)] w fun e w' => e = .returned (.bool true) ∧ w' = w.setCell a (.int .i32 1) := by
  go_enter Yba.func9, Yba.ntmps9
  go_wp2_with (go_at_call 14; refine (itry_free a _ hc hz).mono ?_; rintro e w' ⟨rfl, rfl⟩)
  go_ret
  exact ⟨rfl, rfl⟩

set_option maxHeartbeats 800000 in
set_option maxRecDepth 100000 in
/-- '(*Pool).Idle' at a pool that lies at the head of a block, its lock free: the length of the list; the world as it was. -/
theorem idle_any (b : Nat) (sa : Option Addr) (n c : Nat) (w : World) (h15 : w.cell? ⟨b, 15, none⟩ = some (.int .i32 0)) (f15 : w.frozen? ⟨b, 15, none⟩ = false)
    (h18 : w.cell? ⟨b, 18, none⟩ = some (.slice sa n c)) :
    Calls Yba.prog 8 #[.pointer (some ⟨b, 0, none⟩)] w fun e w' => e = .returned (.int .i64 n) ∧ w = w' := by
  go_enter_defers Yba.func8, Yba.ntmps8
  go_wp2_with (go_at_call 11; refine (lock_free Yba.muLib ⟨b, 15, none⟩ _ h15 f15).mono ?_; rintro e w' ⟨rfl, rfl⟩)
  refine leaves_cons (f := 10) (args := #[.pointer (some ⟨b, 15, none⟩)]) (by simp) (by simp [go_sem]) ?_
  refine (unlock_deferred Yba.muLib ⟨b, 15, none⟩ .returning _ ?_ ?_).mono ?_
  · exact World.cell?_setCell_same w ⟨b, 15, none⟩ (.int .i32 1) h15
  · simp [f15]
  rintro e u' w'' ⟨rfl, rfl, rfl⟩
  exact ⟨_, results_tmp rfl _ _ _, rfl, (setCell_back w _ _ _ h15).symm⟩
end Go.Proofs.Ybulkijm
