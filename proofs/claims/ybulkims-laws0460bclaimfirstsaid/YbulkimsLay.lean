/-
  How the queue, its waiters and their sleepers lie in memory, and what push, pop and claim do to that.
-/
import Derived.Test.YbulkimsLeaf
import Derived.ProofKit
namespace Go.Proofs.Ybulkims
open Go.RowKit

theorem cell_set (w : World) (b o b' o' : Nat) (v u : Value) (h : w.cell? ⟨b', o', none⟩ = some u) :
    (w.setCell ⟨b, o, none⟩ v).cell? ⟨b', o', none⟩ = some (if b = b' ∧ o = o' then v else u) := by
  by_cases e : b = b' ∧ o = o'
  · obtain ⟨rfl, rfl⟩ := e
    rw [World.cell?_setCell_same _ _ _ h]; simp
  · rw [World.cell?_setCell_other _ _ _ _ (by intro e'; injection e' with e1 e2; exact e ⟨e1, e2⟩), h]; simp [e]

theorem cell_alloc (w : World) (o : Obj) (b i : Nat) (u : Value) (h : w.cell? ⟨b, i, none⟩ = some u) : (w.alloc o).cell? ⟨b, i, none⟩ = some u := by
  rw [World.cell?_alloc_lt _ _ _ (World.block_lt_of_cell? w _ h)]; exact h

structure Dat where
  sh : Nat → Bool
  off : Nat → Int
  T : Nat → Int
  I : Nat → Int

/-- The state word that spec i begins with. -/
def Dat.st (d : Dat) (i : Nat) : Int := IntKind.u64.wrap (d.T i + d.off i % 3)

/-- What the queue's cells and the waiters' and sleepers' own cells hold. -/
structure Shape where
  head : Value
  tail : Value
  cnt : Int
  prev : Nat → Value
  next : Nat → Value
  state : Nat → Int
  chosen : Nat → Int

/-- Q: the queue's block; Q + 1, Q + 2: the rows ws, st; waiter i: block Q + 5 + 3 i, its sleeper: block Q + 4 + 3 i. N waiters have been made. -/
structure Lay (w0 : World) (Q L N : Nat) (d : Dat) (s : Shape) (w : World) : Prop where
  bel : Below Q w0 w
  sz : w.heap.size = Q + 3 + 3 * N
  q0 : w.cell? ⟨Q, 0, none⟩ = some s.head
  q1 : w.cell? ⟨Q, 1, none⟩ = some s.tail
  q2 : w.cell? ⟨Q, 2, none⟩ = some (.int .i64 s.cnt)
  ws : ∀ i, i < L → w.cell? ⟨Q + 1, i, none⟩ = some (if i < N then pt (Q + 5 + 3 * i) else .pointer none)
  st : ∀ i, i < L → w.cell? ⟨Q + 2, i, none⟩ = some (.int .u64 (if i < N then d.st i else 0))
  n0 : ∀ i, i < N → w.cell? ⟨Q + 5 + 3 * i, 0, none⟩ = some (s.prev i)
  n1 : ∀ i, i < N → w.cell? ⟨Q + 5 + 3 * i, 1, none⟩ = some (s.next i)
  n4 : ∀ i, i < N → w.cell? ⟨Q + 5 + 3 * i, 4, none⟩ = some (pt (Q + 4 + 3 * i))
  n5 : ∀ i, i < N → w.cell? ⟨Q + 5 + 3 * i, 5, none⟩ = some (.int .u64 (d.T i))
  n6 : ∀ i, i < N → w.cell? ⟨Q + 5 + 3 * i, 6, none⟩ = some (.int .i64 (d.I i))
  s0 : ∀ i, i < N → w.cell? ⟨Q + 4 + 3 * i, 0, none⟩ = some (.int .u64 (s.state i))
  s2 : ∀ i, i < N → w.cell? ⟨Q + 4 + 3 * i, 2, none⟩ = some (.int .i64 (s.chosen i))
  s3 : ∀ i, i < N → w.cell? ⟨Q + 4 + 3 * i, 3, none⟩ = some (.bool (d.sh i))
  fz : ∀ b o, Q ≤ b → w.frozen? ⟨b, o, none⟩ = false

variable {w0 w : World} {Q L N : Nat} {d : Dat} {s : Shape}

theorem Lay.drew (h : Lay w0 Q L N d s w) : Lay w0 Q L N d s w.drew :=
  ⟨h.bel.drew, h.sz, h.q0, h.q1, h.q2, h.ws, h.st, h.n0, h.n1, h.n4, h.n5, h.n6, h.s0, h.s2, h.s3, h.fz⟩

theorem some_if {α : Type} {c : Prop} [Decidable c] {v u x : α} (h1 : c → v = x) (h2 : ¬ c → u = x) : some (if c then v else u) = some x := by
  split
  · rw [h1 ‹_›]
  · rw [h2 ‹_›]

/-- The shape is asked after at the waiters that there are alone. -/
theorem Lay.turn {s' : Shape} (h : Lay w0 Q L N d s w) (e1 : s.head = s'.head) (e2 : s.tail = s'.tail) (e3 : s.cnt = s'.cnt) (e4 : ∀ i, i < N → s.prev i = s'.prev i) (e5 : ∀ i, i < N → s.next i = s'.next i)
    (e6 : ∀ i, i < N → s.state i = s'.state i) (e7 : ∀ i, i < N → s.chosen i = s'.chosen i) : Lay w0 Q L N d s' w :=
  ⟨h.bel, h.sz, e1 ▸ h.q0, e2 ▸ h.q1, e3 ▸ h.q2, h.ws, h.st, fun i hi => e4 i hi ▸ h.n0 i hi, fun i hi => e5 i hi ▸ h.n1 i hi, h.n4, h.n5, h.n6, fun i hi => e6 i hi ▸ h.s0 i hi, fun i hi => e7 i hi ▸ h.s2 i hi, h.s3, h.fz⟩

theorem Lay.setHead (h : Lay w0 Q L N d s w) (v : Value) : Lay w0 Q L N d { s with head := v } (w.setCell ⟨Q, 0, none⟩ v) := by
  refine ⟨h.bel.setCell (by simp; try omega) _, by simpa using h.sz, ?_, ?_, ?_, ?_, ?_, ?_, ?_, ?_, ?_, ?_, ?_, ?_, ?_, fun b o hb => by rw [World.frozen?_setCell]; exact h.fz b o hb⟩
  · rw [cell_set _ _ _ _ _ _ _ (h.q0)]; simp
  · rw [cell_set _ _ _ _ _ _ _ (h.q1)]; exact some_if (fun e => by exfalso; omega) (fun _ => rfl)
  · rw [cell_set _ _ _ _ _ _ _ (h.q2)]; exact some_if (fun e => by exfalso; omega) (fun _ => rfl)
  · intro i hi; rw [cell_set _ _ _ _ _ _ _ (h.ws i hi)]; exact some_if (fun e => by exfalso; omega) (fun _ => rfl)
  · intro i hi; rw [cell_set _ _ _ _ _ _ _ (h.st i hi)]; exact some_if (fun e => by exfalso; omega) (fun _ => rfl)
  · intro i hi; rw [cell_set _ _ _ _ _ _ _ (h.n0 i hi)]; exact some_if (fun e => by exfalso; omega) (fun _ => rfl)
  · intro i hi; rw [cell_set _ _ _ _ _ _ _ (h.n1 i hi)]; exact some_if (fun e => by exfalso; omega) (fun _ => rfl)
  · intro i hi; rw [cell_set _ _ _ _ _ _ _ (h.n4 i hi)]; exact some_if (fun e => by exfalso; omega) (fun _ => rfl)
  · intro i hi; rw [cell_set _ _ _ _ _ _ _ (h.n5 i hi)]; exact some_if (fun e => by exfalso; omega) (fun _ => rfl)
  · intro i hi; rw [cell_set _ _ _ _ _ _ _ (h.n6 i hi)]; exact some_if (fun e => by exfalso; omega) (fun _ => rfl)
  · intro i hi; rw [cell_set _ _ _ _ _ _ _ (h.s0 i hi)]; exact some_if (fun e => by exfalso; omega) (fun _ => rfl)
  · intro i hi; rw [cell_set _ _ _ _ _ _ _ (h.s2 i hi)]; exact some_if (fun e => by exfalso; omega) (fun _ => rfl)
  · intro i hi; rw [cell_set _ _ _ _ _ _ _ (h.s3 i hi)]; exact some_if (fun e => by exfalso; omega) (fun _ => rfl)

theorem Lay.setTail (h : Lay w0 Q L N d s w) (v : Value) : Lay w0 Q L N d { s with tail := v } (w.setCell ⟨Q, 1, none⟩ v) := by
  refine ⟨h.bel.setCell (by simp; try omega) _, by simpa using h.sz, ?_, ?_, ?_, ?_, ?_, ?_, ?_, ?_, ?_, ?_, ?_, ?_, ?_, fun b o hb => by rw [World.frozen?_setCell]; exact h.fz b o hb⟩
  · rw [cell_set _ _ _ _ _ _ _ (h.q0)]; exact some_if (fun e => by exfalso; omega) (fun _ => rfl)
  · rw [cell_set _ _ _ _ _ _ _ (h.q1)]; simp
  · rw [cell_set _ _ _ _ _ _ _ (h.q2)]; exact some_if (fun e => by exfalso; omega) (fun _ => rfl)
  · intro i hi; rw [cell_set _ _ _ _ _ _ _ (h.ws i hi)]; exact some_if (fun e => by exfalso; omega) (fun _ => rfl)
  · intro i hi; rw [cell_set _ _ _ _ _ _ _ (h.st i hi)]; exact some_if (fun e => by exfalso; omega) (fun _ => rfl)
  · intro i hi; rw [cell_set _ _ _ _ _ _ _ (h.n0 i hi)]; exact some_if (fun e => by exfalso; omega) (fun _ => rfl)
  · intro i hi; rw [cell_set _ _ _ _ _ _ _ (h.n1 i hi)]; exact some_if (fun e => by exfalso; omega) (fun _ => rfl)
  · intro i hi; rw [cell_set _ _ _ _ _ _ _ (h.n4 i hi)]; exact some_if (fun e => by exfalso; omega) (fun _ => rfl)
  · intro i hi; rw [cell_set _ _ _ _ _ _ _ (h.n5 i hi)]; exact some_if (fun e => by exfalso; omega) (fun _ => rfl)
  · intro i hi; rw [cell_set _ _ _ _ _ _ _ (h.n6 i hi)]; exact some_if (fun e => by exfalso; omega) (fun _ => rfl)
  · intro i hi; rw [cell_set _ _ _ _ _ _ _ (h.s0 i hi)]; exact some_if (fun e => by exfalso; omega) (fun _ => rfl)
  · intro i hi; rw [cell_set _ _ _ _ _ _ _ (h.s2 i hi)]; exact some_if (fun e => by exfalso; omega) (fun _ => rfl)
  · intro i hi; rw [cell_set _ _ _ _ _ _ _ (h.s3 i hi)]; exact some_if (fun e => by exfalso; omega) (fun _ => rfl)

theorem Lay.setCnt (h : Lay w0 Q L N d s w) (c : Int) : Lay w0 Q L N d { s with cnt := c } (w.setCell ⟨Q, 2, none⟩ (.int .i64 c)) := by
  refine ⟨h.bel.setCell (by simp; try omega) _, by simpa using h.sz, ?_, ?_, ?_, ?_, ?_, ?_, ?_, ?_, ?_, ?_, ?_, ?_, ?_, fun b o hb => by rw [World.frozen?_setCell]; exact h.fz b o hb⟩
  · rw [cell_set _ _ _ _ _ _ _ (h.q0)]; exact some_if (fun e => by exfalso; omega) (fun _ => rfl)
  · rw [cell_set _ _ _ _ _ _ _ (h.q1)]; exact some_if (fun e => by exfalso; omega) (fun _ => rfl)
  · rw [cell_set _ _ _ _ _ _ _ (h.q2)]; simp
  · intro i hi; rw [cell_set _ _ _ _ _ _ _ (h.ws i hi)]; exact some_if (fun e => by exfalso; omega) (fun _ => rfl)
  · intro i hi; rw [cell_set _ _ _ _ _ _ _ (h.st i hi)]; exact some_if (fun e => by exfalso; omega) (fun _ => rfl)
  · intro i hi; rw [cell_set _ _ _ _ _ _ _ (h.n0 i hi)]; exact some_if (fun e => by exfalso; omega) (fun _ => rfl)
  · intro i hi; rw [cell_set _ _ _ _ _ _ _ (h.n1 i hi)]; exact some_if (fun e => by exfalso; omega) (fun _ => rfl)
  · intro i hi; rw [cell_set _ _ _ _ _ _ _ (h.n4 i hi)]; exact some_if (fun e => by exfalso; omega) (fun _ => rfl)
  · intro i hi; rw [cell_set _ _ _ _ _ _ _ (h.n5 i hi)]; exact some_if (fun e => by exfalso; omega) (fun _ => rfl)
  · intro i hi; rw [cell_set _ _ _ _ _ _ _ (h.n6 i hi)]; exact some_if (fun e => by exfalso; omega) (fun _ => rfl)
  · intro i hi; rw [cell_set _ _ _ _ _ _ _ (h.s0 i hi)]; exact some_if (fun e => by exfalso; omega) (fun _ => rfl)
  · intro i hi; rw [cell_set _ _ _ _ _ _ _ (h.s2 i hi)]; exact some_if (fun e => by exfalso; omega) (fun _ => rfl)
  · intro i hi; rw [cell_set _ _ _ _ _ _ _ (h.s3 i hi)]; exact some_if (fun e => by exfalso; omega) (fun _ => rfl)

theorem Lay.setPrev (h : Lay w0 Q L N d s w) (k : Nat) (v : Value) : Lay w0 Q L N d { s with prev := fun i => if i = k then v else s.prev i } (w.setCell ⟨Q + 5 + 3 * k, 0, none⟩ v) := by
  refine ⟨h.bel.setCell (by simp; try omega) _, by simpa using h.sz, ?_, ?_, ?_, ?_, ?_, ?_, ?_, ?_, ?_, ?_, ?_, ?_, ?_, fun b o hb => by rw [World.frozen?_setCell]; exact h.fz b o hb⟩
  · rw [cell_set _ _ _ _ _ _ _ (h.q0)]; exact some_if (fun e => by exfalso; omega) (fun _ => rfl)
  · rw [cell_set _ _ _ _ _ _ _ (h.q1)]; exact some_if (fun e => by exfalso; omega) (fun _ => rfl)
  · rw [cell_set _ _ _ _ _ _ _ (h.q2)]; exact some_if (fun e => by exfalso; omega) (fun _ => rfl)
  · intro i hi; rw [cell_set _ _ _ _ _ _ _ (h.ws i hi)]; exact some_if (fun e => by exfalso; omega) (fun _ => rfl)
  · intro i hi; rw [cell_set _ _ _ _ _ _ _ (h.st i hi)]; exact some_if (fun e => by exfalso; omega) (fun _ => rfl)
  · intro i hi; rw [cell_set _ _ _ _ _ _ _ (h.n0 i hi)]; exact some_if (fun e => by simp [show i = k by omega]) (fun e => by simp [show i ≠ k by omega])
  · intro i hi; rw [cell_set _ _ _ _ _ _ _ (h.n1 i hi)]; exact some_if (fun e => by exfalso; omega) (fun _ => rfl)
  · intro i hi; rw [cell_set _ _ _ _ _ _ _ (h.n4 i hi)]; exact some_if (fun e => by exfalso; omega) (fun _ => rfl)
  · intro i hi; rw [cell_set _ _ _ _ _ _ _ (h.n5 i hi)]; exact some_if (fun e => by exfalso; omega) (fun _ => rfl)
  · intro i hi; rw [cell_set _ _ _ _ _ _ _ (h.n6 i hi)]; exact some_if (fun e => by exfalso; omega) (fun _ => rfl)
  · intro i hi; rw [cell_set _ _ _ _ _ _ _ (h.s0 i hi)]; exact some_if (fun e => by exfalso; omega) (fun _ => rfl)
  · intro i hi; rw [cell_set _ _ _ _ _ _ _ (h.s2 i hi)]; exact some_if (fun e => by exfalso; omega) (fun _ => rfl)
  · intro i hi; rw [cell_set _ _ _ _ _ _ _ (h.s3 i hi)]; exact some_if (fun e => by exfalso; omega) (fun _ => rfl)

theorem Lay.setNext (h : Lay w0 Q L N d s w) (k : Nat) (v : Value) : Lay w0 Q L N d { s with next := fun i => if i = k then v else s.next i } (w.setCell ⟨Q + 5 + 3 * k, 1, none⟩ v) := by
  refine ⟨h.bel.setCell (by simp; try omega) _, by simpa using h.sz, ?_, ?_, ?_, ?_, ?_, ?_, ?_, ?_, ?_, ?_, ?_, ?_, ?_, fun b o hb => by rw [World.frozen?_setCell]; exact h.fz b o hb⟩
  · rw [cell_set _ _ _ _ _ _ _ (h.q0)]; exact some_if (fun e => by exfalso; omega) (fun _ => rfl)
  · rw [cell_set _ _ _ _ _ _ _ (h.q1)]; exact some_if (fun e => by exfalso; omega) (fun _ => rfl)
  · rw [cell_set _ _ _ _ _ _ _ (h.q2)]; exact some_if (fun e => by exfalso; omega) (fun _ => rfl)
  · intro i hi; rw [cell_set _ _ _ _ _ _ _ (h.ws i hi)]; exact some_if (fun e => by exfalso; omega) (fun _ => rfl)
  · intro i hi; rw [cell_set _ _ _ _ _ _ _ (h.st i hi)]; exact some_if (fun e => by exfalso; omega) (fun _ => rfl)
  · intro i hi; rw [cell_set _ _ _ _ _ _ _ (h.n0 i hi)]; exact some_if (fun e => by exfalso; omega) (fun _ => rfl)
  · intro i hi; rw [cell_set _ _ _ _ _ _ _ (h.n1 i hi)]; exact some_if (fun e => by simp [show i = k by omega]) (fun e => by simp [show i ≠ k by omega])
  · intro i hi; rw [cell_set _ _ _ _ _ _ _ (h.n4 i hi)]; exact some_if (fun e => by exfalso; omega) (fun _ => rfl)
  · intro i hi; rw [cell_set _ _ _ _ _ _ _ (h.n5 i hi)]; exact some_if (fun e => by exfalso; omega) (fun _ => rfl)
  · intro i hi; rw [cell_set _ _ _ _ _ _ _ (h.n6 i hi)]; exact some_if (fun e => by exfalso; omega) (fun _ => rfl)
  · intro i hi; rw [cell_set _ _ _ _ _ _ _ (h.s0 i hi)]; exact some_if (fun e => by exfalso; omega) (fun _ => rfl)
  · intro i hi; rw [cell_set _ _ _ _ _ _ _ (h.s2 i hi)]; exact some_if (fun e => by exfalso; omega) (fun _ => rfl)
  · intro i hi; rw [cell_set _ _ _ _ _ _ _ (h.s3 i hi)]; exact some_if (fun e => by exfalso; omega) (fun _ => rfl)

theorem Lay.setState (h : Lay w0 Q L N d s w) (k : Nat) (c : Int) : Lay w0 Q L N d { s with state := fun i => if i = k then c else s.state i } (w.setCell ⟨Q + 4 + 3 * k, 0, none⟩ (.int .u64 c)) := by
  refine ⟨h.bel.setCell (by simp; try omega) _, by simpa using h.sz, ?_, ?_, ?_, ?_, ?_, ?_, ?_, ?_, ?_, ?_, ?_, ?_, ?_, fun b o hb => by rw [World.frozen?_setCell]; exact h.fz b o hb⟩
  · rw [cell_set _ _ _ _ _ _ _ (h.q0)]; exact some_if (fun e => by exfalso; omega) (fun _ => rfl)
  · rw [cell_set _ _ _ _ _ _ _ (h.q1)]; exact some_if (fun e => by exfalso; omega) (fun _ => rfl)
  · rw [cell_set _ _ _ _ _ _ _ (h.q2)]; exact some_if (fun e => by exfalso; omega) (fun _ => rfl)
  · intro i hi; rw [cell_set _ _ _ _ _ _ _ (h.ws i hi)]; exact some_if (fun e => by exfalso; omega) (fun _ => rfl)
  · intro i hi; rw [cell_set _ _ _ _ _ _ _ (h.st i hi)]; exact some_if (fun e => by exfalso; omega) (fun _ => rfl)
  · intro i hi; rw [cell_set _ _ _ _ _ _ _ (h.n0 i hi)]; exact some_if (fun e => by exfalso; omega) (fun _ => rfl)
  · intro i hi; rw [cell_set _ _ _ _ _ _ _ (h.n1 i hi)]; exact some_if (fun e => by exfalso; omega) (fun _ => rfl)
  · intro i hi; rw [cell_set _ _ _ _ _ _ _ (h.n4 i hi)]; exact some_if (fun e => by exfalso; omega) (fun _ => rfl)
  · intro i hi; rw [cell_set _ _ _ _ _ _ _ (h.n5 i hi)]; exact some_if (fun e => by exfalso; omega) (fun _ => rfl)
  · intro i hi; rw [cell_set _ _ _ _ _ _ _ (h.n6 i hi)]; exact some_if (fun e => by exfalso; omega) (fun _ => rfl)
  · intro i hi; rw [cell_set _ _ _ _ _ _ _ (h.s0 i hi)]; exact some_if (fun e => by simp [show i = k by omega]) (fun e => by simp [show i ≠ k by omega])
  · intro i hi; rw [cell_set _ _ _ _ _ _ _ (h.s2 i hi)]; exact some_if (fun e => by exfalso; omega) (fun _ => rfl)
  · intro i hi; rw [cell_set _ _ _ _ _ _ _ (h.s3 i hi)]; exact some_if (fun e => by exfalso; omega) (fun _ => rfl)

theorem Lay.setChosen (h : Lay w0 Q L N d s w) (k : Nat) (c : Int) : Lay w0 Q L N d { s with chosen := fun i => if i = k then c else s.chosen i } (w.setCell ⟨Q + 4 + 3 * k, 2, none⟩ (.int .i64 c)) := by
  refine ⟨h.bel.setCell (by simp; try omega) _, by simpa using h.sz, ?_, ?_, ?_, ?_, ?_, ?_, ?_, ?_, ?_, ?_, ?_, ?_, ?_, fun b o hb => by rw [World.frozen?_setCell]; exact h.fz b o hb⟩
  · rw [cell_set _ _ _ _ _ _ _ (h.q0)]; exact some_if (fun e => by exfalso; omega) (fun _ => rfl)
  · rw [cell_set _ _ _ _ _ _ _ (h.q1)]; exact some_if (fun e => by exfalso; omega) (fun _ => rfl)
  · rw [cell_set _ _ _ _ _ _ _ (h.q2)]; exact some_if (fun e => by exfalso; omega) (fun _ => rfl)
  · intro i hi; rw [cell_set _ _ _ _ _ _ _ (h.ws i hi)]; exact some_if (fun e => by exfalso; omega) (fun _ => rfl)
  · intro i hi; rw [cell_set _ _ _ _ _ _ _ (h.st i hi)]; exact some_if (fun e => by exfalso; omega) (fun _ => rfl)
  · intro i hi; rw [cell_set _ _ _ _ _ _ _ (h.n0 i hi)]; exact some_if (fun e => by exfalso; omega) (fun _ => rfl)
  · intro i hi; rw [cell_set _ _ _ _ _ _ _ (h.n1 i hi)]; exact some_if (fun e => by exfalso; omega) (fun _ => rfl)
  · intro i hi; rw [cell_set _ _ _ _ _ _ _ (h.n4 i hi)]; exact some_if (fun e => by exfalso; omega) (fun _ => rfl)
  · intro i hi; rw [cell_set _ _ _ _ _ _ _ (h.n5 i hi)]; exact some_if (fun e => by exfalso; omega) (fun _ => rfl)
  · intro i hi; rw [cell_set _ _ _ _ _ _ _ (h.n6 i hi)]; exact some_if (fun e => by exfalso; omega) (fun _ => rfl)
  · intro i hi; rw [cell_set _ _ _ _ _ _ _ (h.s0 i hi)]; exact some_if (fun e => by exfalso; omega) (fun _ => rfl)
  · intro i hi; rw [cell_set _ _ _ _ _ _ _ (h.s2 i hi)]; exact some_if (fun e => by simp [show i = k by omega]) (fun e => by simp [show i ≠ k by omega])
  · intro i hi; rw [cell_set _ _ _ _ _ _ _ (h.s3 i hi)]; exact some_if (fun e => by exfalso; omega) (fun _ => rfl)

/-- The queue holds the waiters a .. n-1, in that order; the others are in no queue. -/
def chain (Q a n : Nat) (state chosen : Nat → Int) : Shape where
  head := if a < n then pt (Q + 5 + 3 * a) else .pointer none
  tail := if a < n then pt (Q + 5 + 3 * (n - 1)) else .pointer none
  cnt := (n : Int) - a
  prev := fun i => if a < i ∧ i < n then pt (Q + 5 + 3 * (i - 1)) else .pointer none
  next := fun i => if a ≤ i ∧ i + 1 < n then pt (Q + 5 + 3 * (i + 1)) else .pointer none
  state := state
  chosen := chosen

variable {state chosen : Nat → Int}

theorem push_lay (j : Nat) (hj : j < 1000) (h : Lay w0 Q L (j + 1) d (chain Q 0 j state chosen) w) :
    Calls Yba.prog 5 #[pt Q, pt (Q + 5 + 3 * j)] w fun r w' => r = .returned (.tuple #[]) ∧ Lay w0 Q L (j + 1) d (chain Q 0 (j + 1) state chosen) w' := by
  have q0 := h.q0
  have q1 := h.q1
  have q2 := h.q2
  have e0 := h.n0 j (by omega)
  have fq := fun o => h.fz Q o (Nat.le_refl _)
  have fe := fun o => h.fz (Q + 5 + 3 * j) o (by omega)
  by_cases hz : j = 0
  · subst hz
    refine (push_first Q (Q + 5 + 3 * 0) _ _ 0 w (by omega) (by omega) (by omega) q0 (by simpa [chain] using q1) (by simpa [chain] using q2) fq e0 fe).mono ?_
    rintro r w' ⟨rfl, rfl⟩
    refine ⟨rfl, ((((h.setPrev 0 (.pointer none)).setHead (pt (Q + 5 + 3 * 0))).setTail (pt (Q + 5 + 3 * 0))).setCnt (0 + 1)).turn rfl rfl rfl ?_ ?_ (fun _ _ => rfl) (fun _ _ => rfl)⟩
    · intro i hi
      have : i = 0 := by omega
      subst this; simp [chain]
    · intro i hi
      have : i = 0 := by omega
      subst this; simp [chain]
  · have ht := h.n1 (j - 1) (by omega)
    have ft := fun o => h.fz (Q + 5 + 3 * (j - 1)) o (by omega)
    refine (push_more Q (Q + 5 + 3 * j) (Q + 5 + 3 * (j - 1)) _ _ j w (by omega) (by omega) (by omega) (by omega) (by omega) (by simpa [chain, show 0 < j by omega] using q1) (by simpa [chain] using q2) fq e0 fe ht ft).mono ?_
    rintro r w' ⟨rfl, rfl⟩
    refine ⟨rfl, ((((h.setPrev j _).setNext (j - 1) _).setTail _).setCnt _).turn ?_ ?_ ?_ ?_ ?_ (fun _ _ => rfl) (fun _ _ => rfl)⟩
    · simp [chain, show 0 < j by omega]
    · simp [chain]
    · simp [chain]
    · intro i hi
      by_cases e : i = j
      · subst e; simp [chain, show 0 < i by omega]
      · simp only [chain, if_neg e]
        by_cases e2 : 0 < i ∧ i < j
        · rw [if_pos e2, if_pos (by omega)]
        · rw [if_neg e2, if_neg (by omega)]
    · intro i hi
      by_cases e : i = j - 1
      · subst e
        simp only [chain, if_true]
        rw [if_pos (by omega), show j - 1 + 1 = j by omega]
      · simp only [chain, if_neg e]
        by_cases e2 : 0 ≤ i ∧ i + 1 < j
        · rw [if_pos e2, if_pos (by omega)]
        · rw [if_neg e2, if_neg (by omega)]

theorem pop_lay_none {a n : Nat} (han : n ≤ a) (h : Lay w0 Q L N d (chain Q a n state chosen) w) :
    Calls Yba.prog 9 #[pt Q] w fun r w' => r = .returned (.pointer none) ∧ w = w' := by
  have q0 := h.q0
  simp only [chain] at q0
  rw [if_neg (by omega)] at q0
  exact pop_none Q w q0

theorem pop_lay {a n : Nat} (han : a < n) (hnN : n ≤ N) (hn : n < 1000) (h : Lay w0 Q L N d (chain Q a n state chosen) w) :
    Calls Yba.prog 9 #[pt Q] w fun r w' => r = .returned (pt (Q + 5 + 3 * a)) ∧ Lay w0 Q L N d (chain Q (a + 1) n state chosen) w' := by
  have q0 := h.q0
  have q1 := h.q1
  have q2 := h.q2
  have e0 := h.n0 a (by omega)
  have e1 := h.n1 a (by omega)
  have fq := fun o => h.fz Q o (Nat.le_refl _)
  have fe := fun o => h.fz (Q + 5 + 3 * a) o (by omega)
  simp only [chain] at q0 q2 e0 e1
  rw [if_pos han] at q0
  rw [if_neg (by omega)] at e0
  by_cases hm : a + 1 < n
  · rw [if_pos ⟨Nat.le_refl _, hm⟩] at e1
    have hf := h.n0 (a + 1) (by omega)
    have ff := fun o => h.fz (Q + 5 + 3 * (a + 1)) o (by omega)
    refine (pop_head Q (Q + 5 + 3 * a) (Q + 5 + 3 * (a + 1)) _ _ w (by omega) (by omega) (by omega) (by omega) (by omega) q0 q2 fq e0 e1 fe hf ff).mono ?_
    rintro r w' ⟨rfl, rfl⟩
    refine ⟨rfl, (((((h.setHead _).setPrev (a + 1) _).setPrev a _).setNext a _).setCnt _).drew.turn ?_ ?_ ?_ ?_ ?_ (fun _ _ => rfl) (fun _ _ => rfl)⟩
    · simp [chain, hm]
    · simp [chain, hm, han]
    · simp [chain]; omega
    · intro i hi
      simp only [chain]
      by_cases e2 : i = a
      · rw [if_pos e2, if_neg (by omega)]
      · rw [if_neg e2]
        by_cases e3 : i = a + 1
        · rw [if_pos e3, if_neg (by omega)]
        · rw [if_neg e3]
          by_cases e4 : a < i ∧ i < n
          · rw [if_pos e4, if_pos (by omega)]
          · rw [if_neg e4, if_neg (by omega)]
    · intro i hi
      simp only [chain]
      by_cases e2 : i = a
      · rw [if_pos e2, if_neg (by omega)]
      · rw [if_neg e2]
        by_cases e4 : a ≤ i ∧ i + 1 < n
        · rw [if_pos e4, if_pos (by omega)]
        · rw [if_neg e4, if_neg (by omega)]
  · rw [if_neg (by omega)] at e1
    refine (pop_last Q (Q + 5 + 3 * a) _ _ w (by omega) (by omega) (by omega) q0 q1 q2 fq e0 e1 fe).mono ?_
    rintro r w' ⟨rfl, rfl⟩
    refine ⟨rfl, (((((h.setHead _).setTail _).setPrev a _).setNext a _).setCnt _).turn ?_ ?_ ?_ ?_ ?_ (fun _ _ => rfl) (fun _ _ => rfl)⟩
    · simp [chain, hm]
    · simp [chain, hm]
    · simp [chain]; omega
    · intro i hi
      simp only [chain]
      by_cases e2 : i = a
      · rw [if_pos e2, if_neg (by omega)]
      · rw [if_neg e2, if_neg (by omega), if_neg (by omega)]
    · intro i hi
      simp only [chain]
      by_cases e2 : i = a
      · rw [if_pos e2, if_neg (by omega)]
      · rw [if_neg e2, if_neg (by omega), if_neg (by omega)]

theorem claim_lay_own {a n i : Nat} (hi : i < N) (hs : d.sh i = false) (h : Lay w0 Q L N d (chain Q a n state chosen) w) :
    Calls Yba.prog 10 #[pt (Q + 4 + 3 * i), .int .u64 (d.T i), .int .i64 (d.I i)] w fun r w' => r = .returned (.bool true) ∧ Lay w0 Q L N d (chain Q a n state (fun k => if k = i then d.I i else chosen k)) w' := by
  refine (claim_own (Q + 4 + 3 * i) _ _ _ w (hs ▸ h.s3 i hi) (h.s2 i hi) (h.fz _ _ (by omega))).mono ?_
  rintro r w' ⟨rfl, rfl⟩
  exact ⟨rfl, (h.setChosen i _).turn rfl rfl rfl (fun _ _ => rfl) (fun _ _ => rfl) (fun _ _ => rfl) (fun _ _ => rfl)⟩

theorem claim_lay_hit {a n i : Nat} (hi : i < N) (hs : d.sh i = true) (ht : state i = d.T i) (h : Lay w0 Q L N d (chain Q a n state chosen) w) :
    Calls Yba.prog 10 #[pt (Q + 4 + 3 * i), .int .u64 (d.T i), .int .i64 (d.I i)] w fun r w' => r = .returned (.bool true) ∧ Lay w0 Q L N d (chain Q a n (fun k => if k = i then IntKind.u64.wrap (d.T i + 1) else state k) (fun k => if k = i then d.I i else chosen k)) w' := by
  have h0 := h.s0 i hi
  simp only [chain] at h0
  rw [ht] at h0
  refine (claim_hit (Q + 4 + 3 * i) _ _ _ w (hs ▸ h.s3 i hi) (h.s2 i hi) (h.fz _ _ (by omega)) h0 (h.fz _ _ (by omega))).mono ?_
  rintro r w' ⟨rfl, rfl⟩
  exact ⟨rfl, ((h.setState i _).setChosen i _).turn rfl rfl rfl (fun _ _ => rfl) (fun _ _ => rfl) (fun _ _ => rfl) (fun _ _ => rfl)⟩

theorem claim_lay_miss {a n i : Nat} (hi : i < N) (hs : d.sh i = true) (ht : ¬ state i = d.T i) (h : Lay w0 Q L N d (chain Q a n state chosen) w) :
    Calls Yba.prog 10 #[pt (Q + 4 + 3 * i), .int .u64 (d.T i), .int .i64 (d.I i)] w fun r w' => r = .returned (.bool false) ∧ w = w' :=
  claim_miss (Q + 4 + 3 * i) _ _ _ w (hs ▸ h.s3 i hi) (h.s0 i hi) (h.fz _ _ (by omega)) ht
end Go.Proofs.Ybulkims
