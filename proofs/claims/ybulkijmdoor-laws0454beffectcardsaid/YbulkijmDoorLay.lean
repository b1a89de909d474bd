/-
  How the law's pool lies in memory: its channels, workers and waiting callers; and what one write does to that.
-/
import Derived.Test.YbulkijmDoorLeaf
import Derived.Conc.LoneCalls
import Derived.ProofKit
import Derived.Deep.Upon
namespace Go.Proofs.YbulkijmDoor
open Go.RowKit Go.Conc

/-- w' is w but for block b, which holds o. -/
structure Upd (w w' : World) (b : Nat) (o : Obj) : Prop where
  os : w'.os = w.os
  tape : w'.tape = w.tape
  output : w'.output = w.output
  size : w'.heap.size = w.heap.size
  here : w'.heap[b]? = some o
  other : ∀ k, k ≠ b → w'.heap[k]? = w.heap[k]?

theorem Upd.setCell {w : World} {b : Nat} {c : Array Value} {t : TypeId} {fr : Nat × Nat} (h : w.heap[b]? = some (.cells c t fr)) (o : Nat) (v : Value) :
    Upd w (w.setCell ⟨b, o, none⟩ v) b (.cells (c.setIfInBounds o v) t fr) := by
  refine ⟨rfl, rfl, rfl, by simp [World.setCell], ?_, fun k hk => Below.heap_setCell _ _ _ _ hk⟩
  simp only [World.setCell, Array.getElem?_modify, if_true, h]
  rfl

theorem Upd.setChan {w : World} {b : Nat} {o : Obj} (h : w.heap[b]? = some o) (cap : Nat) (buf : Array Value) (cl : Bool) (s r : Nat) (tm : Bool) :
    Upd w (w.setChan b cap buf cl s r tm) b (.chan cap buf cl s r tm) := by
  have hb := (Array.getElem?_eq_some_iff.1 h).1
  refine ⟨rfl, rfl, rfl, by simp [World.setChan], heap_setChan _ _ _ _ _ _ _ _ hb, fun k hk => ?_⟩
  simp only [World.setChan]
  rw [Array.getElem?_setIfInBounds_ne (by omega)]

theorem Upd.below {w0 w w' : World} {B b : Nat} {o : Obj} (u : Upd w w' b o) (h : Below B w0 w) (hb : B ≤ b) : Below B w0 w' :=
  h.trans ⟨u.os, u.tape, u.output, by rw [u.size]; exact Nat.le_refl _, fun k hk => u.other k (by omega)⟩

theorem cell_of {w : World} {b : Nat} {c : Array Value} {t : TypeId} {fr : Nat × Nat} (h : w.heap[b]? = some (.cells c t fr)) (o : Nat) : w.cell? ⟨b, o, none⟩ = c[o]? := by
  simp [World.cell?, h]
theorem frozen_of {w : World} {b : Nat} {c : Array Value} {t : TypeId} (h : w.heap[b]? = some (.cells c t (0, 0))) (o : Nat) : w.frozen? ⟨b, o, none⟩ = false := by
  simp [World.frozen?, h]

/-- The pool's cells that turn. -/
structure PS where
  st : Int
  wt : Int
  mu : Int
  wk : Int
  idle : Value
  head : Value
  tail : Value
  cnt : Int

def poolCells (X : Nat) (s : PS) : Array Value :=
  #[.int .i64 (-1), .nilFunc, .nilIface, .int .i64 0, .slice none 0 0, .int .u64 0, .int .u64 0, .int .u64 0, .int .i64 0, .int .i32 0, .int .u32 0, .slice none 0 0, .int .u64 s.st, .int .u32 0, .int .i64 s.wt, .int .i32 s.mu, .int .u32 0, .int .i64 s.wk, s.idle, s.head, s.tail, .int .i64 s.cnt, .bool false, .pointer none, .chan (some X)]

/-- All that turns. -/
structure Dsc where
  p : PS
  ex : Bool
  cl : Nat → Bool
  prev : Nat → Value
  next : Nat → Value
  buf : Nat → Array Value
  sn : Nat → Nat
  rc : Nat → Nat
  rw : Option Obj
  rq : Option Obj

/-- B: the channel 'exited'; B + 1: the pool; B + 2: the row ws; worker i: block B + 4 + 3 i, its channel B + 3 + 3 i; K: the row qs; waiting caller i: block K + 2 + 3 i, its channel K + 1 + 3 i. -/
structure Lay (w0 : World) (B K N M : Nat) (s : Dsc) (w : World) : Prop where
  bel : Below B w0 w
  hX : w.heap[B]? = some (.chan 0 #[] s.ex 0 0 false)
  hP : w.heap[B + 1]? = some (.cells (poolCells B s.p) 60 (0, 0))
  hcw : ∀ i, i < N → w.heap[B + 3 + 3 * i]? = some (.chan 1 #[] (s.cl i) 0 0 false)
  hwk : ∀ i, i < N → w.heap[B + 4 + 3 * i]? = some (.cells #[pt (B + 1), .chan (some (B + 3 + 3 * i)), .bool false, .int .u64 0, .int .i64 0, .pointer none] 67 (0, 0))
  hdc : ∀ i, i < M → w.heap[K + 1 + 3 * i]? = some (.chan 1 (s.buf i) false (s.sn i) (s.rc i) false)
  hnd : ∀ i, i < M → w.heap[K + 2 + 3 * i]? = some (.cells #[.nilFunc, .chan (some (K + 1 + 3 * i)), s.prev i, s.next i] 73 (0, 0))
  eW : w.heap[B + 2]? = s.rw
  eR : w.heap[K]? = s.rq

/-- A row of cells. -/
def RowIs (o : Option Obj) (t : TypeId) (len : Nat) (f : Nat → Value) : Prop := ∃ cur, o = some (.cells cur t (0, 0)) ∧ ∀ i, i < len → cur[i]? = some (f i)

theorem RowIs.cell {w : World} {g : Nat} {t : TypeId} {len : Nat} {f : Nat → Value} {o : Option Obj} (h : RowIs o t len f) (e : w.heap[g]? = o) (i : Nat) (hi : i < len) : w.cell? ⟨g, i, none⟩ = some (f i) := by
  obtain ⟨cur, h1, h2⟩ := h
  rw [h1] at e
  rw [cell_of e]; exact h2 i hi

variable {w0 w w' : World} {B K N M : Nat} {s : Dsc}

theorem Lay.drew (h : Lay w0 B K N M s w) : Lay w0 B K N M s w.drew := ⟨h.bel.drew, h.hX, h.hP, h.hcw, h.hwk, h.hdc, h.hnd, h.eW, h.eR⟩

theorem Lay.turn {s' : Dsc} (h : Lay w0 B K N M s w) (e1 : s.p = s'.p) (e2 : s.ex = s'.ex) (e3 : ∀ i, i < N → s.cl i = s'.cl i) (e4 : ∀ i, i < M → s.prev i = s'.prev i) (e5 : ∀ i, i < M → s.next i = s'.next i)
    (e6 : ∀ i, i < M → s.buf i = s'.buf i) (e7 : ∀ i, i < M → s.sn i = s'.sn i) (e8 : ∀ i, i < M → s.rc i = s'.rc i) (e9 : s.rw = s'.rw) (e10 : s.rq = s'.rq) : Lay w0 B K N M s' w :=
  ⟨h.bel, e2 ▸ h.hX, e1 ▸ h.hP, fun i hi => e3 i hi ▸ h.hcw i hi, h.hwk, fun i hi => by rw [← e6 i hi, ← e7 i hi, ← e8 i hi]; exact h.hdc i hi, fun i hi => by rw [← e4 i hi, ← e5 i hi]; exact h.hnd i hi, e9 ▸ h.eW, e10 ▸ h.eR⟩

theorem Lay.pool (h : Lay w0 B K N M s w) (hK : B + 3 + 3 * N ≤ K) {p : PS} (u : Upd w w' (B + 1) (.cells (poolCells B p) 60 (0, 0))) : Lay w0 B K N M { s with p := p } w' := by
  refine ⟨u.below h.bel (by omega), ?_, ?_, ?_, ?_, ?_, ?_, by rw [u.other _ (by omega)]; exact h.eW, by rw [u.other _ (by omega)]; exact h.eR⟩
  · rw [u.other _ (by omega)]; exact h.hX
  · exact u.here
  · intro i hi; rw [u.other _ (by omega)]; exact h.hcw i hi
  · intro i hi; rw [u.other _ (by omega)]; exact h.hwk i hi
  · intro i hi; rw [u.other _ (by omega)]; exact h.hdc i hi
  · intro i hi; rw [u.other _ (by omega)]; exact h.hnd i hi

theorem Lay.exi (h : Lay w0 B K N M s w) (hK : B + 3 + 3 * N ≤ K) {x : Bool} (u : Upd w w' (B) (.chan 0 #[] x 0 0 false)) : Lay w0 B K N M { s with ex := x } w' := by
  refine ⟨u.below h.bel (by omega), ?_, ?_, ?_, ?_, ?_, ?_, by rw [u.other _ (by omega)]; exact h.eW, by rw [u.other _ (by omega)]; exact h.eR⟩
  · exact u.here
  · rw [u.other _ (by omega)]; exact h.hP
  · intro i hi; rw [u.other _ (by omega)]; exact h.hcw i hi
  · intro i hi; rw [u.other _ (by omega)]; exact h.hwk i hi
  · intro i hi; rw [u.other _ (by omega)]; exact h.hdc i hi
  · intro i hi; rw [u.other _ (by omega)]; exact h.hnd i hi

theorem Lay.cw (h : Lay w0 B K N M s w) (hK : B + 3 + 3 * N ≤ K) (k : Nat) (hk : k < N) {x : Bool} (u : Upd w w' (B + 3 + 3 * k) (.chan 1 #[] x 0 0 false)) : Lay w0 B K N M { s with cl := fun i => if i = k then x else s.cl i } w' := by
  refine ⟨u.below h.bel (by omega), ?_, ?_, ?_, ?_, ?_, ?_, by rw [u.other _ (by omega)]; exact h.eW, by rw [u.other _ (by omega)]; exact h.eR⟩
  · rw [u.other _ (by omega)]; exact h.hX
  · rw [u.other _ (by omega)]; exact h.hP
  · intro i hi
    by_cases e : i = k
    · subst e; simp only [if_true]; exact u.here
    · simp only [if_neg e]; rw [u.other _ (by omega)]; exact h.hcw i hi
  · intro i hi; rw [u.other _ (by omega)]; exact h.hwk i hi
  · intro i hi; rw [u.other _ (by omega)]; exact h.hdc i hi
  · intro i hi; rw [u.other _ (by omega)]; exact h.hnd i hi

theorem Lay.dc (h : Lay w0 B K N M s w) (hK : B + 3 + 3 * N ≤ K) (k : Nat) {bf : Array Value} {a b : Nat} (u : Upd w w' (K + 1 + 3 * k) (.chan 1 bf false a b false)) : Lay w0 B K N M { s with buf := fun i => if i = k then bf else s.buf i, sn := fun i => if i = k then a else s.sn i, rc := fun i => if i = k then b else s.rc i } w' := by
  refine ⟨u.below h.bel (by omega), ?_, ?_, ?_, ?_, ?_, ?_, by rw [u.other _ (by omega)]; exact h.eW, by rw [u.other _ (by omega)]; exact h.eR⟩
  · rw [u.other _ (by omega)]; exact h.hX
  · rw [u.other _ (by omega)]; exact h.hP
  · intro i hi; rw [u.other _ (by omega)]; exact h.hcw i hi
  · intro i hi; rw [u.other _ (by omega)]; exact h.hwk i hi
  · intro i hi
    by_cases e : i = k
    · subst e; simp only [if_true]; exact u.here
    · simp only [if_neg e]; rw [u.other _ (by omega)]; exact h.hdc i hi
  · intro i hi; rw [u.other _ (by omega)]; exact h.hnd i hi

theorem Lay.nd (h : Lay w0 B K N M s w) (hK : B + 3 + 3 * N ≤ K) (k : Nat) {pv nx : Value} (u : Upd w w' (K + 2 + 3 * k) (.cells #[.nilFunc, .chan (some (K + 1 + 3 * k)), pv, nx] 73 (0, 0))) : Lay w0 B K N M { s with prev := fun i => if i = k then pv else s.prev i, next := fun i => if i = k then nx else s.next i } w' := by
  refine ⟨u.below h.bel (by omega), ?_, ?_, ?_, ?_, ?_, ?_, by rw [u.other _ (by omega)]; exact h.eW, by rw [u.other _ (by omega)]; exact h.eR⟩
  · rw [u.other _ (by omega)]; exact h.hX
  · rw [u.other _ (by omega)]; exact h.hP
  · intro i hi; rw [u.other _ (by omega)]; exact h.hcw i hi
  · intro i hi; rw [u.other _ (by omega)]; exact h.hwk i hi
  · intro i hi; rw [u.other _ (by omega)]; exact h.hdc i hi
  · intro i hi
    by_cases e : i = k
    · subst e; simp only [if_true]; exact u.here
    · simp only [if_neg e]; rw [u.other _ (by omega)]; exact h.hnd i hi

/-- A write to a block of the call's that is none of these. -/
theorem Lay.aside {b : Nat} {o : Obj} (h : Lay w0 B K N M s w) (u : Upd w w' b o) (hb : B ≤ b) (h0 : b ≠ B) (h1 : b ≠ B + 1) (h2 : ∀ i, i < N → b ≠ B + 3 + 3 * i ∧ b ≠ B + 4 + 3 * i) (h3 : ∀ i, i < M → b ≠ K + 1 + 3 * i ∧ b ≠ K + 2 + 3 * i) (h4 : b ≠ B + 2) (h5 : b ≠ K) : Lay w0 B K N M s w' :=
  ⟨u.below h.bel hb, by rw [u.other _ (by omega)]; exact h.hX, by rw [u.other _ (by omega)]; exact h.hP, fun i hi => by rw [u.other _ (by have := h2 i hi; omega)]; exact h.hcw i hi,
    fun i hi => by rw [u.other _ (by have := h2 i hi; omega)]; exact h.hwk i hi, fun i hi => by rw [u.other _ (by have := h3 i hi; omega)]; exact h.hdc i hi, fun i hi => by rw [u.other _ (by have := h3 i hi; omega)]; exact h.hnd i hi, by rw [u.other _ (by omega)]; exact h.eW, by rw [u.other _ (by omega)]; exact h.eR⟩

/-- What is there stays there while blocks are laid behind it. -/
theorem Lay.later (h : Lay w0 B K N M s w) (hb : Below B w w') (e : ∀ k, B ≤ k → k < w.heap.size → w'.heap[k]? = w.heap[k]?) (f1 : w'.heap[B + 2]? = w.heap[B + 2]?) (f2 : w'.heap[K]? = w.heap[K]?) : Lay w0 B K N M s w' := by
  have lt : ∀ {k : Nat} {o : Obj}, w.heap[k]? = some o → k < w.heap.size := fun h => (Array.getElem?_eq_some_iff.1 h).1
  exact ⟨h.bel.trans hb, by rw [e _ (by omega) (lt h.hX)]; exact h.hX, by rw [e _ (by omega) (lt h.hP)]; exact h.hP, fun i hi => by rw [e _ (by omega) (lt (h.hcw i hi))]; exact h.hcw i hi, fun i hi => by rw [e _ (by omega) (lt (h.hwk i hi))]; exact h.hwk i hi,
    fun i hi => by
      have hl := lt (h.hdc i hi)
      have := lt h.hP
      by_cases hk : B ≤ K + 1 + 3 * i
      · rw [e _ hk hl]; exact h.hdc i hi
      · rw [hb.block _ (by omega)]; exact h.hdc i hi,
    fun i hi => by
      have hl := lt (h.hnd i hi)
      by_cases hk : B ≤ K + 2 + 3 * i
      · rw [e _ hk hl]; exact h.hnd i hi
      · rw [hb.block _ (by omega)]; exact h.hnd i hi,
    by rw [f1]; exact h.eW, by rw [f2]; exact h.eR⟩

theorem heap_alloc_ne (w : World) (o : Obj) (k : Nat) (h : k ≠ w.heap.size) : (w.alloc o).heap[k]? = w.heap[k]? := by
  rcases Nat.lt_or_ge k w.heap.size with hl | hl
  · exact Below.heap_alloc _ _ _ hl
  · rw [Array.getElem?_eq_none (by simp; omega), Array.getElem?_eq_none hl]

theorem Lay.alloc (h : Lay w0 B K N M s w) (o : Obj) (h1 : B + 2 ≠ w.heap.size) (h2 : K ≠ w.heap.size) : Lay w0 B K N M s (w.alloc o) :=
  h.later ((Below.refl _ _).alloc (by have := (Array.getElem?_eq_some_iff.1 h.hX).1; omega) _) (fun k _ hk => Below.heap_alloc _ _ _ hk) (heap_alloc_ne _ _ _ h1) (heap_alloc_ne _ _ _ h2)

/-- The rows ws and qs themselves. -/
theorem Lay.rowW {o : Obj} (h : Lay w0 B K N M s w) (hK : B + 3 + 3 * N ≤ K) (u : Upd w w' (B + 2) o) : Lay w0 B K N M { s with rw := some o } w' :=
  ⟨u.below h.bel (by omega), by rw [u.other _ (by omega)]; exact h.hX, by rw [u.other _ (by omega)]; exact h.hP, fun i hi => by rw [u.other _ (by omega)]; exact h.hcw i hi, fun i hi => by rw [u.other _ (by omega)]; exact h.hwk i hi,
    fun i hi => by rw [u.other _ (by omega)]; exact h.hdc i hi, fun i hi => by rw [u.other _ (by omega)]; exact h.hnd i hi, u.here, by rw [u.other _ (by omega)]; exact h.eR⟩
theorem Lay.rowQ {o : Obj} (h : Lay w0 B K N M s w) (hK : B + 3 + 3 * N ≤ K) (u : Upd w w' K o) : Lay w0 B K N M { s with rq := some o } w' :=
  ⟨u.below h.bel (by omega), by rw [u.other _ (by omega)]; exact h.hX, by rw [u.other _ (by omega)]; exact h.hP, fun i hi => by rw [u.other _ (by omega)]; exact h.hcw i hi, fun i hi => by rw [u.other _ (by omega)]; exact h.hwk i hi,
    fun i hi => by rw [u.other _ (by omega)]; exact h.hdc i hi, fun i hi => by rw [u.other _ (by omega)]; exact h.hnd i hi, by rw [u.other _ (by omega)]; exact h.eW, u.here⟩

theorem Lay.cell (h : Lay w0 B K N M s w) (o : Nat) (v : Value) (hv : (poolCells B s.p)[o]? = some v) : w.cell? ⟨B + 1, o, none⟩ = some v := by rw [cell_of h.hP]; exact hv
theorem Lay.fz (h : Lay w0 B K N M s w) (o : Nat) : w.frozen? ⟨B + 1, o, none⟩ = false := frozen_of h.hP o

theorem Lay.setSt (h : Lay w0 B K N M s w) (hK : B + 3 + 3 * N ≤ K) (x : Int) : Lay w0 B K N M { s with p := { s.p with st := x } } (w.setCell ⟨B + 1, 12, none⟩ (.int .u64 x)) :=
  h.pool hK (by simpa [poolCells] using Upd.setCell h.hP 12 (.int .u64 x))
theorem Lay.setWt (h : Lay w0 B K N M s w) (hK : B + 3 + 3 * N ≤ K) (x : Int) : Lay w0 B K N M { s with p := { s.p with wt := x } } (w.setCell ⟨B + 1, 14, none⟩ (.int .i64 x)) :=
  h.pool hK (by simpa [poolCells] using Upd.setCell h.hP 14 (.int .i64 x))
theorem Lay.setMu (h : Lay w0 B K N M s w) (hK : B + 3 + 3 * N ≤ K) (x : Int) : Lay w0 B K N M { s with p := { s.p with mu := x } } (w.setCell ⟨B + 1, 15, none⟩ (.int .i32 x)) :=
  h.pool hK (by simpa [poolCells] using Upd.setCell h.hP 15 (.int .i32 x))
theorem Lay.setWk (h : Lay w0 B K N M s w) (hK : B + 3 + 3 * N ≤ K) (x : Int) : Lay w0 B K N M { s with p := { s.p with wk := x } } (w.setCell ⟨B + 1, 17, none⟩ (.int .i64 x)) :=
  h.pool hK (by simpa [poolCells] using Upd.setCell h.hP 17 (.int .i64 x))
theorem Lay.setIdle (h : Lay w0 B K N M s w) (hK : B + 3 + 3 * N ≤ K) (x : Value) : Lay w0 B K N M { s with p := { s.p with idle := x } } (w.setCell ⟨B + 1, 18, none⟩ (x)) :=
  h.pool hK (by simpa [poolCells] using Upd.setCell h.hP 18 (x))
theorem Lay.setHead (h : Lay w0 B K N M s w) (hK : B + 3 + 3 * N ≤ K) (x : Value) : Lay w0 B K N M { s with p := { s.p with head := x } } (w.setCell ⟨B + 1, 19, none⟩ (x)) :=
  h.pool hK (by simpa [poolCells] using Upd.setCell h.hP 19 (x))
theorem Lay.setTail (h : Lay w0 B K N M s w) (hK : B + 3 + 3 * N ≤ K) (x : Value) : Lay w0 B K N M { s with p := { s.p with tail := x } } (w.setCell ⟨B + 1, 20, none⟩ (x)) :=
  h.pool hK (by simpa [poolCells] using Upd.setCell h.hP 20 (x))
theorem Lay.setCnt (h : Lay w0 B K N M s w) (hK : B + 3 + 3 * N ≤ K) (x : Int) : Lay w0 B K N M { s with p := { s.p with cnt := x } } (w.setCell ⟨B + 1, 21, none⟩ (.int .i64 x)) :=
  h.pool hK (by simpa [poolCells] using Upd.setCell h.hP 21 (.int .i64 x))

theorem Lay.setPrev (h : Lay w0 B K N M s w) (hK : B + 3 + 3 * N ≤ K) (k : Nat) (hk : k < M) (x : Value) : Lay w0 B K N M { s with prev := fun i => if i = k then x else s.prev i } (w.setCell ⟨K + 2 + 3 * k, 2, none⟩ x) := by
  refine (h.nd hK k (pv := x) (nx := s.next k) (by simpa using Upd.setCell (h.hnd k hk) 2 x)).turn rfl rfl (fun _ _ => rfl) (fun _ _ => rfl) (fun i _ => ?_) (fun _ _ => rfl) (fun _ _ => rfl) (fun _ _ => rfl) rfl rfl
  show (if i = k then s.next k else s.next i) = s.next i
  split
  · rename_i e; rw [e]
  · rfl
theorem Lay.setNext (h : Lay w0 B K N M s w) (hK : B + 3 + 3 * N ≤ K) (k : Nat) (hk : k < M) (x : Value) : Lay w0 B K N M { s with next := fun i => if i = k then x else s.next i } (w.setCell ⟨K + 2 + 3 * k, 3, none⟩ x) := by
  refine (h.nd hK k (pv := s.prev k) (nx := x) (by simpa using Upd.setCell (h.hnd k hk) 3 x)).turn rfl rfl (fun _ _ => rfl) (fun i _ => ?_) (fun _ _ => rfl) (fun _ _ => rfl) (fun _ _ => rfl) (fun _ _ => rfl) rfl rfl
  show (if i = k then s.prev k else s.prev i) = s.prev i
  split
  · rename_i e; rw [e]
  · rfl
theorem Lay.c12 (h : Lay w0 B K N M s w) : w.cell? ⟨B + 1, 12, none⟩ = some (.int .u64 s.p.st) := h.cell 12 _ rfl
theorem Lay.c14 (h : Lay w0 B K N M s w) : w.cell? ⟨B + 1, 14, none⟩ = some (.int .i64 s.p.wt) := h.cell 14 _ rfl
theorem Lay.c15 (h : Lay w0 B K N M s w) : w.cell? ⟨B + 1, 15, none⟩ = some (.int .i32 s.p.mu) := h.cell 15 _ rfl
theorem Lay.c17 (h : Lay w0 B K N M s w) : w.cell? ⟨B + 1, 17, none⟩ = some (.int .i64 s.p.wk) := h.cell 17 _ rfl
theorem Lay.c18 (h : Lay w0 B K N M s w) : w.cell? ⟨B + 1, 18, none⟩ = some s.p.idle := h.cell 18 _ rfl
theorem Lay.c19 (h : Lay w0 B K N M s w) : w.cell? ⟨B + 1, 19, none⟩ = some s.p.head := h.cell 19 _ rfl
theorem Lay.c20 (h : Lay w0 B K N M s w) : w.cell? ⟨B + 1, 20, none⟩ = some s.p.tail := h.cell 20 _ rfl
theorem Lay.c21 (h : Lay w0 B K N M s w) : w.cell? ⟨B + 1, 21, none⟩ = some (.int .i64 s.p.cnt) := h.cell 21 _ rfl
theorem Lay.c22 (h : Lay w0 B K N M s w) : w.cell? ⟨B + 1, 22, none⟩ = some (.bool false) := h.cell 22 _ rfl
theorem Lay.c24 (h : Lay w0 B K N M s w) : w.cell? ⟨B + 1, 24, none⟩ = some (.chan (some B)) := h.cell 24 _ rfl
end Go.Proofs.YbulkijmDoor
