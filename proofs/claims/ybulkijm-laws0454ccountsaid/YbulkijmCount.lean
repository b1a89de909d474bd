/-
  The walk of LawS0454CCount.
-/
import Derived.Test.YbulkijmIdle
import Derived.ProofKit
import Derived.WalkSpells
namespace Go.Proofs.Ybulkijm
open Go.RowKit Go.MuLone

theorem Yba.info35 : (Yba.prog.info? 35).map (fun i => (i.zero, i.size, i.bytes)) = some (some (.pointer none), 1, 8) := by kernel_rfl

def RowAt (w : World) (B c : Nat) : Prop := ∃ cur, w.heap[B]? = some (.cells cur 35 (0, 0)) ∧ cur.size = c

theorem RowAt.cell {w : World} {B c : Nat} (h : RowAt w B c) (j : Nat) (hj : j < c) : ∃ v, w.cell? ⟨B, j, none⟩ = some v := by
  obtain ⟨cur, hc, hs⟩ := h
  exact ⟨cur[j]'(by omega), by simp [World.cell?, hc, hs, hj]⟩
theorem RowAt.frozen {w : World} {B c : Nat} (h : RowAt w B c) (j : Nat) : w.frozen? ⟨B, j, none⟩ = false := by
  obtain ⟨cur, hc, hs⟩ := h
  simp [World.frozen?, hc]

theorem RowAt.store {w : World} {B c : Nat} (h : RowAt w B c) (j : Nat) (v : Value) : RowAt (w.setCell ⟨B, j, none⟩ v) B c := by
  obtain ⟨cur, hc, hs⟩ := h
  exact ⟨cur.setIfInBounds j v, by simp only [World.setCell, Array.getElem?_modify, if_true, hc]; rfl, by simpa using hs⟩
theorem RowAt.alloc {w : World} {B c : Nat} (h : RowAt w B c) (o : Obj) : RowAt (w.alloc o) B c := by
  obtain ⟨cur, hc, hs⟩ := h
  exact ⟨cur, by rw [Below.heap_alloc _ _ _ (Array.getElem?_eq_some_iff.1 hc).1]; exact hc, hs⟩

set_option maxHeartbeats 800000 in
set_option maxRecDepth 100000 in
theorem count_walk (n m : Nat) (hn : n < 256) (hm : m < 256) (w : World) :
    Calls Yba.prog 5 #[.int .u8 n, .int .u8 m] w fun e w' => e = .returned (.bool true) ∧ Grown w w' := by
  obtain ⟨i0, hi, hz0, hz1, hz2⟩ := info_parts Yba.info35
  have hmk := fun wx => run_make (P := Yba.prog) wx 34 35 i0 (.pointer none) Yba.underlying34 hi hz0 .i64 .i64 n ((n : Int) + m) (by omega) (by omega) (by rw [hz2]; omega) (by omega)
  have hn' : (n : Int) < 256 := by omega
  have hm' : (m : Int) < 256 := by omega
  go_enter Yba.func5, Yba.ntmps5
  go_wp2
  go_loopw [21] (fun i wr => ∃ k : Nat, k ≤ n ∧ i = .int .i64 k ∧ Grown w wr ∧ RowAt wr w.heap.size (n + m)) (fun i _ => n - (intOf i).toNat)
  case atStart => exact ⟨0, Nat.zero_le _, rfl, (Grown.refl _).alloc _ _, _, heap_alloc_new w _, by simp [size_madeCells]⟩
  case round =>
    obtain ⟨k, hk, rfl, hg, hrow⟩ := hrel
    clear hmk
    by_cases hlt : k < n
    · obtain ⟨v0, hc⟩ := hrow.cell k (by omega)
      have hf := hrow.frozen k
      have hB : w.heap.size < wr.heap.size := by
        obtain ⟨cur, h1, h2⟩ := hrow
        exact (Array.getElem?_eq_some_iff.1 h1).1
      go_wp2
      go_roundw
      case rel => exact ⟨k + 1, by omega, by go_num, (hg.setCell (Nat.le_refl _) _).alloc _ _, (hrow.store k _).alloc _⟩
      case measure => simp [intOf]; omega
    · go_wp2_with fail
      refine (idle_any wr.heap.size (some ⟨w.heap.size, 0, none⟩) n (n + m) _ (by simp [go_sem]) (by simp [go_sem]) (by simp [go_sem])).mono ?_
      rintro e w1 ⟨rfl, rfl⟩
      go_wp2_with fail
      refine (try_free ⟨wr.heap.size, 15, none⟩ _ (by simp [go_sem]) (by simp [go_sem])).mono ?_
      rintro e w1 ⟨rfl, rfl⟩
      go_wp2_with fail
      refine (unlock_held Yba.muLib ⟨wr.heap.size, 15, none⟩ _ (by simp [go_sem]) (by simp [go_sem])).mono ?_
      rintro e w1 ⟨rfl, rfl⟩
      go_wp2
      go_ret
      refine ⟨rfl, hg.alloc _ _⟩
end Go.Proofs.Ybulkijm
