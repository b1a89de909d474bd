/-
  What the law lays: the pool, the workers, the waiting callers.
-/
import Derived.Test.YbulkijmDoorRelease
namespace Go.Proofs.YbulkijmDoor
open Go.RowKit Go.Conc
set_option linter.unusedVariables false

/-- j workers have been made. -/
structure L1 (w0 : World) (B n j : Nat) (p : PS) (w : World) : Prop where
  bel : Below B w0 w
  sz : w.heap.size = B + 3 + 3 * j
  hX : w.heap[B]? = some (.chan 0 #[] false 0 0 false)
  hP : w.heap[B + 1]? = some (.cells (poolCells B p) 60 (0, 0))
  hcw : ∀ i, i < j → w.heap[B + 3 + 3 * i]? = some (.chan 1 #[] false 0 0 false)
  hwk : ∀ i, i < j → w.heap[B + 4 + 3 * i]? = some (.cells #[pt (B + 1), .chan (some (B + 3 + 3 * i)), .bool false, .int .u64 0, .int .i64 0, .pointer none] 67 (0, 0))
  hW : ∃ cur, w.heap[B + 2]? = some (.cells cur 62 (0, 0)) ∧ cur.size = n ∧ ∀ i, i < j → cur[i]? = some (pt (B + 4 + 3 * i))

theorem heap_new (w : World) (o : Obj) (k : Nat) (h : k = w.heap.size) : (w.alloc o).heap[k]? = some o := by subst h; exact heap_alloc_new w o

theorem L1_start (w : World) (n : Nat) (p : PS) (z : Value) :
    L1 w w.heap.size n 0 p (((w.alloc (.chan 0 #[] false 0 0 false)).alloc (.cells (poolCells w.heap.size p) 60)).alloc (.cells (madeCells #[z] n) 62)) := by
  refine ⟨(((Below.refl _ _).alloc (Nat.le_refl _) _).alloc (by simp) _).alloc (by simp; omega) _, by simp, ?_, ?_, fun i hi => by omega, fun i hi => by omega, _, heap_new _ _ _ (by simp), by simp [size_madeCells], fun i hi => by omega⟩
  · rw [heap_alloc_ne _ _ _ (by simp; omega), heap_alloc_ne _ _ _ (by simp)]; exact heap_new _ _ _ rfl
  · rw [heap_alloc_ne _ _ _ (by simp)]; exact heap_new _ _ _ (by simp)

theorem L1.step {w0 w : World} {B n j : Nat} {p : PS} (h : L1 w0 B n j p w) (hj : j < n) (c1 : Array Value) :
    L1 w0 B n (j + 1) p ((((w.setCell ⟨B + 2, j, none⟩ (pt (B + 4 + 3 * j))).alloc (.chan 1 #[] false 0 0 false)).alloc
      (.cells #[pt (B + 1), .chan (some (B + 3 + 3 * j)), .bool false, .int .u64 0, .int .i64 0, .pointer none] 67)).alloc (.cells c1 62)) := by
  obtain ⟨cur, e1, e2, e3⟩ := h.hW
  have u := Upd.setCell e1 j (pt (B + 4 + 3 * j))
  have sz := h.sz
  generalize hW1 : w.setCell ⟨B + 2, j, none⟩ (pt (B + 4 + 3 * j)) = W1 at u
  have z1 : W1.heap.size = B + 3 + 3 * j := by rw [u.size]; exact sz
  have old : ∀ k, k < B + 3 + 3 * j → (((W1.alloc (.chan 1 #[] false 0 0 false)).alloc (.cells #[pt (B + 1), .chan (some (B + 3 + 3 * j)), .bool false, .int .u64 0, .int .i64 0, .pointer none] 67)).alloc (.cells c1 62)).heap[k]? = W1.heap[k]? := fun k hk => by
    rw [heap_alloc_ne _ _ _ (by simp [z1]; omega), heap_alloc_ne _ _ _ (by simp [z1]; omega), heap_alloc_ne _ _ _ (by omega)]
  refine ⟨(((u.below h.bel (by omega)).alloc (by omega) _).alloc (by simp; omega) _).alloc (by simp; omega) _, by simp [z1]; omega, ?_, ?_, ?_, ?_, cur.setIfInBounds j (pt (B + 4 + 3 * j)), ?_, by simpa using e2, ?_⟩
  · rw [old _ (by omega), u.other _ (by omega)]; exact h.hX
  · rw [old _ (by omega), u.other _ (by omega)]; exact h.hP
  · intro i hi
    by_cases e : i = j
    · subst e
      rw [heap_alloc_ne _ _ _ (by simp [z1]; omega), heap_alloc_ne _ _ _ (by simp [z1])]
      exact heap_new _ _ _ (by omega)
    · rw [old _ (by omega), u.other _ (by omega)]; exact h.hcw i (by omega)
  · intro i hi
    by_cases e : i = j
    · subst e
      rw [heap_alloc_ne _ _ _ (by simp [z1]; omega)]
      exact heap_new _ _ _ (by simp [z1]; omega)
    · rw [old _ (by omega), u.other _ (by omega)]; exact h.hwk i (by omega)
  · rw [old _ (by omega)]; exact u.here
  · intro i hi
    by_cases e : i = j
    · subst e; simp [e2, hj]
    · rw [Array.getElem?_setIfInBounds_ne (by omega)]; exact e3 i (by omega)

/-- The pool whole but for its waiting callers, the row qs laid in block K. -/
theorem L1.lay {w0 w w1 : World} {B n K : Nat} {p : PS} {E : Value} (h : L1 w0 B n n p w) (hb : Below B w w1) (he : ∀ k, B ≤ k → k < B + 3 + 3 * n → w1.heap[k]? = w.heap[k]?) (hK : B + 3 + 3 * n ≤ K) (hp1 : p.head = .pointer none) (hp2 : p.tail = .pointer none) (hp3 : p.cnt = 0) :
    Lay w0 B K n 0 (C K 0 E w.heap[B + 2]? w1.heap[K]? p.st p.wt p.mu p.wk p.idle false 0 0 0 0) w1 := by
  refine ⟨h.bel.trans hb, by rw [he _ (by omega) (by omega)]; exact h.hX, ?_, fun i hi => ?_, fun i hi => ?_, fun i hi => by omega, fun i hi => by omega, ?_, rfl⟩
  · rw [he _ (by omega) (by omega), h.hP]
    have : (C K 0 E w.heap[B + 2]? w1.heap[K]? p.st p.wt p.mu p.wk p.idle false 0 0 0 0).p = p := by
      cases p
      simp only at hp1 hp2 hp3
      subst hp1 hp2 hp3
      simp [C]
    rw [this]
  · rw [he _ (by omega) (by omega), h.hcw i hi]; simp [C]
  · rw [he _ (by omega) (by omega)]; exact h.hwk i hi
  · rw [he _ (by omega) (by omega)]; rfl

variable {w0 w : World} {B K n j : Nat} {E : Value} {rw rq : Option Obj} {st wt mu wk : Int} {idle : Value}

/-- The channel and the waiting caller j made: all but its being pushed. -/
theorem Lay.node (h : Lay w0 B K n j (C K j E rw rq st wt mu wk idle false 0 0 0 0) w) (sz : w.heap.size = K + 1 + 3 * j) (hK : B + 3 + 3 * n ≤ K) :
    Lay w0 B K n (j + 1) (link K 0 j (C K j E rw rq st wt mu wk idle false 0 0 0 0)) ((w.alloc (.chan 1 #[] false 0 0 false)).alloc (.cells #[.nilFunc, .chan (some (K + 1 + 3 * j)), .pointer none, .pointer none] 73)) := by
  have h2 := (h.alloc (.chan 1 #[] false 0 0 false) (by omega) (by omega)).alloc (.cells #[.nilFunc, .chan (some (K + 1 + 3 * j)), .pointer none, .pointer none] 73) (by simp; omega) (by simp; omega)
  refine ⟨h2.bel, h2.hX, h2.hP, h2.hcw, h2.hwk, fun i hi => ?_, fun i hi => ?_, h2.eW, h2.eR⟩
  · by_cases e : i = j
    · subst e
      rw [heap_alloc_ne _ _ _ (by simp; omega), heap_new _ _ _ (by omega)]
      simp [link, C]
    · exact h2.hdc i (by omega)
  · by_cases e : i = j
    · subst e
      rw [heap_new _ _ _ (by simp; omega)]
      simp [link]
    · exact h2.hnd i (by omega)
end Go.Proofs.YbulkijmDoor
