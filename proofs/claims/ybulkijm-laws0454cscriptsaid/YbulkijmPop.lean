/-
  The contract of (*Pool).popIdleLocked, and what a script's step does to the pool.
-/
import Derived.Test.YbulkijmIdle
import Derived.ProofKit
import Derived.WalkSpells
import Derived.OneCell
namespace Go.Proofs.Ybulkijm
open Go.RowKit Go.MuLone

theorem Yba.info35 : (Yba.prog.info? 35).map (fun i => (i.zero, i.size, i.bytes)) = some (some (.pointer none), 1, 8) := by kernel_rfl

set_option maxHeartbeats 800000 in
set_option maxRecDepth 100000 in
theorem pop_empty (b : Nat) (sa : Option Addr) (c : Nat) (w : World) (h18 : w.cell? ⟨b, 18, none⟩ = some (.slice sa 0 c)) :
    Calls Yba.prog 12 #[.pointer (some ⟨b, 0, none⟩)] w fun e w' => e = .returned (.pointer none) ∧ w = w' := by
  go_enter Yba.func12, Yba.ntmps12
  go_wp2
  go_ret
  exact ⟨rfl, rfl⟩

set_option maxHeartbeats 800000 in
set_option maxRecDepth 100000 in
theorem pop_some (b g n c : Nat) (v : Value) (w : World) (hne : g ≠ b) (hnb : n < 2000) (hnc : n < c) (h18 : w.cell? ⟨b, 18, none⟩ = some (.slice (some ⟨g, 0, none⟩) (n + 1) c)) (f18 : w.frozen? ⟨b, 18, none⟩ = false)
    (hv : w.cell? ⟨g, n, none⟩ = some v) (fv : w.frozen? ⟨g, n, none⟩ = false) :
    Calls Yba.prog 12 #[.pointer (some ⟨b, 0, none⟩)] w fun e w' => e = .returned v ∧ (w.setCell ⟨g, n, none⟩ (.pointer none)).setCell ⟨b, 18, none⟩ (.slice (some ⟨g, 0, none⟩) n c) = w' := by
  have hs : ((n : Int) + 1 == 0) = false := by simp; omega
  have hnb' : (n : Int) < 2000 := by omega
  go_enter Yba.func12, Yba.ntmps12
  go_wp2
  go_ret
  exact ⟨rfl, rfl⟩

/-- The pool of block B in the round's world: its lock is free, its list owns n workers; below B all is as it was. -/
structure PInv (B : Nat) (w wr : World) (sa : Option Addr) (n c : Nat) : Prop where
  c15 : wr.cell? ⟨B, 15, none⟩ = some (.int .i32 0)
  fz : ∀ j, wr.frozen? ⟨B, j, none⟩ = false
  c18 : wr.cell? ⟨B, 18, none⟩ = some (.slice sa n c)
  row : ∃ xs, wr.ownsRow (B + 1) 35 1 (.slice sa n c) n xs ∧ ∀ x ∈ xs, ∃ a, x = .pointer (some a)
  below : Below B w wr
  lt : B < wr.heap.size

theorem PInv.push {B : Nat} {w wr : World} {sa : Option Addr} {n c : Nat} (h : PInv B w wr sa n c) {xs : List Value} (hxs : ∀ x ∈ xs, ∃ a, x = .pointer (some a))
    {o1 o2 : Obj} {w1 : World} {sa' : Option Addr} {c' : Nat} {a : Addr}
    (hown : w1.ownsRow (B + 1) 35 1 (.slice sa' (n + 1) c') (n + 1) (xs ++ [.pointer (some a)]))
    (hg : (((wr.setCell ⟨B, 15, none⟩ (.int .i32 1)).alloc o1).alloc o2).grownBy w1 (Value.slice sa n c).ownBlock) (hne : ∀ k, (Value.slice sa n c).ownBlock = some k → B + 1 ≤ k) :
    PInv B w ((w1.setCell ⟨B, 18, none⟩ (.slice sa' (n + 1) c')).setCell ⟨B, 15, none⟩ (.int .i32 0)) sa' (n + 1) c' ∧ w1.cell? ⟨B, 18, none⟩ = some (.slice sa n c) ∧ w1.cell? ⟨B, 15, none⟩ = some (.int .i32 1) ∧ (∀ j, w1.frozen? ⟨B, j, none⟩ = false) := by
  have hlt := h.lt
  have hB : w1.heap[B]? = (wr.setCell ⟨B, 15, none⟩ (.int .i32 1)).heap[B]? := by
    rw [hg.block B (by simp; omega) (fun e => by have := hne B e.symm; omega)]
    rw [Below.heap_alloc _ _ _ (by simp; omega), Below.heap_alloc _ _ _ (by simp; omega)]
  have e18 : w1.cell? ⟨B, 18, none⟩ = some (.slice sa n c) := by
    rw [World.cell?_of_block (w := wr.setCell ⟨B, 15, none⟩ (.int .i32 1)) hB, World.cell?_setCell_other _ _ _ _ (by simp)]
    exact h.c18
  have e15 : w1.cell? ⟨B, 15, none⟩ = some (.int .i32 1) := by
    rw [World.cell?_of_block (w := wr.setCell ⟨B, 15, none⟩ (.int .i32 1)) hB]
    exact World.cell?_setCell_same _ _ _ h.c15
  have ef : ∀ j, w1.frozen? ⟨B, j, none⟩ = false := by
    intro j
    rw [World.frozen?_of_block (w := wr.setCell ⟨B, 15, none⟩ (.int .i32 1)) hB, World.frozen?_setCell]
    exact h.fz j
  have hob : ∀ k, (Value.slice sa' (n + 1) c').ownBlock = some k → B + 1 ≤ k := fun k hk => (hown.lt k hk).1
  have hs : wr.heap.size + 2 ≤ w1.heap.size := by have := hg.size; simp at this; omega
  refine ⟨⟨?_, ?_, ?_, ?_, ?_, ?_⟩, e18, e15, ef⟩
  · refine World.cell?_setCell_same _ _ _ (u := .int .i32 1) ?_
    rw [World.cell?_setCell_other _ _ _ _ (by simp)]
    exact e15
  · intro j
    rw [World.frozen?_setCell, World.frozen?_setCell]
    exact ef j
  · rw [World.cell?_setCell_other _ _ _ _ (by simp)]
    exact World.cell?_setCell_same _ _ _ e18
  · refine ⟨_, ownsRow_setCell_below (ownsRow_setCell_below hown (by simp) _) (by simp) _, ?_⟩
    intro x hx
    rcases List.mem_append.1 hx with h1 | h1
    · exact hxs x h1
    · exact ⟨a, by simpa using h1⟩
  · have b1 : Below B w ((wr.setCell ⟨B, 15, none⟩ (.int .i32 1)).alloc o1 |>.alloc o2) :=
      ((h.below.setCell (Nat.le_refl _) _).alloc (by simp; omega) _).alloc (by simp; omega) _
    exact ((b1.grown hg (by simp; omega) (fun k hk => by have := hne k hk; omega)).setCell (Nat.le_refl _) _).setCell (Nat.le_refl _) _
  · simp; omega

theorem PInv.pop {B : Nat} {w wr : World} {g n c : Nat} (h : PInv B w wr (some ⟨g, 0, none⟩) (n + 1) c) :
    ∃ a, wr.cell? ⟨g, n, none⟩ = some (.pointer (some a)) ∧ wr.frozen? ⟨g, n, none⟩ = false ∧ g ≠ B ∧ n < c ∧
      PInv B w ((((wr.setCell ⟨B, 15, none⟩ (.int .i32 1)).setCell ⟨g, n, none⟩ (.pointer none)).setCell ⟨B, 18, none⟩ (.slice (some ⟨g, 0, none⟩) n c)).setCell ⟨B, 15, none⟩ (.int .i32 0)) (some ⟨g, 0, none⟩) n c := by
  obtain ⟨xs, hown, hxs⟩ := h.row
  have hlen : xs.length = n + 1 := by simpa using hown.1
  have hlt := h.lt
  have hgl := (hown.lt g rfl)
  have hgB : g ≠ B := by omega
  have hc : wr.cell? ⟨g, n, none⟩ = some xs[n] := by rw [hown.cellAt n (by omega)]; simp [hlen]
  obtain ⟨a, ha⟩ := hxs xs[n] (List.getElem_mem _)
  have hnc : n < c := by
    rcases hown.2 with ⟨h0, _⟩ | ⟨g', cap', cur, hv, _, _, hn, _⟩
    · cases h0
    · cases hv; omega
  refine ⟨a, by rw [hc, ha], hown.frozenAt n, hgB, hnc, ?_⟩
  have hx : xs = xs.take n ++ [xs[n]] := by
    have := List.take_succ_eq_append_getElem (l := xs) (i := n) (by omega)
    rw [← this, List.take_of_length_le (by omega)]
  have o1 : (wr.setCell ⟨B, 15, none⟩ (.int .i32 1)).ownsRow (B + 1) 35 1 (.slice (some ⟨g, 0, none⟩) (n + 1) c) (n + 1) (xs.take n ++ [xs[n]]) := by
    rw [← hx]
    exact ownsRow_setCell_below hown (by simp) _
  have o2 := (o1.stored n (.pointer none)).1
  have hset : (xs.take n ++ [xs[n]]).set n (.pointer none) = xs.take n ++ [.pointer none] := by
    rw [List.set_append]
    simp [hlen]
  rw [hset] at o2
  have o3 := ownsRow_pop (by simp [hlen]) o2
  have e18 : (((wr.setCell ⟨B, 15, none⟩ (.int .i32 1)).setCell ⟨g, n, none⟩ (.pointer none))).cell? ⟨B, 18, none⟩ = some (.slice (some ⟨g, 0, none⟩) (n + 1) c) := by
    rw [World.cell?_setCell_other _ _ _ _ (by simp), World.cell?_setCell_other _ _ _ _ (by simp)]
    exact h.c18
  refine ⟨?_, ?_, ?_, ?_, ?_, ?_⟩
  · refine World.cell?_setCell_same _ _ _ (u := .int .i32 1) ?_
    rw [World.cell?_setCell_other _ _ _ _ (by simp), World.cell?_setCell_other _ _ _ _ (by simp)]
    exact World.cell?_setCell_same _ _ _ h.c15
  · intro j
    simp only [World.frozen?_setCell]
    exact h.fz j
  · rw [World.cell?_setCell_other _ _ _ _ (by simp)]
    exact World.cell?_setCell_same _ _ _ e18
  · refine ⟨_, ownsRow_setCell_below (ownsRow_setCell_below o3 (by simp) _) (by simp) _, ?_⟩
    intro x hx
    exact hxs x (List.mem_of_mem_take hx)
  · exact (((h.below.setCell (Nat.le_refl _) _).setCell (by simp; omega) _).setCell (Nat.le_refl _) _).setCell (Nat.le_refl _) _
  · simp; omega
end Go.Proofs.Ybulkijm
