/-
  What the law's first half lays: between its two loops, and in its second.
-/
import Derived.Test.YbulkijmDoorBuild
import Derived.Test.YbulkijmDoorBits
import Derived.OwnWalk
namespace Go.Proofs.YbulkijmDoor
open Go.RowKit Go.Conc
set_option linter.unusedVariables false

def p0 (s0 : Int) : PS := ⟨s0, 0, 0, 0, .slice none 0 0, .pointer none, .pointer none, 0⟩

def rowOf (B n : Nat) : List Value := (List.range n).map fun i => pt (B + 4 + 3 * i)

theorem rowOf_get (B n i : Nat) (hi : i < n) : (rowOf B n)[i]? = some (pt (B + 4 + 3 * i)) := by simp [rowOf, hi]

/-- j waiting callers have been made. -/
def Inv2 (w : World) (K n m : Nat) (E : Value) (s0 wk : Int) (v : Value) (rw : Option Obj) (j : Nat) (wr : World) : Prop :=
  IdleIs wr w.heap.size K n m v ∧ wr.heap.size = K + 1 + 3 * j ∧ ∃ cur, cur.size = m ∧ (∀ i, i < j → cur[i]? = some (pt (K + 2 + 3 * i))) ∧
    Lay w w.heap.size K n j (C K j E rw (some (.cells cur 55 (0, 0))) s0 0 0 wk v false 0 0 0 0) wr

theorem lt_some {w : World} {k : Nat} {o : Obj} (h : w.heap[k]? = some o) : k < w.heap.size := (Array.getElem?_eq_some_iff.1 h).1

theorem Lay.rowNew {w0 w : World} {B K n : Nat} {s : Dsc} {o : Obj} (h : Lay w0 B K n 0 s w) (hK : K = w.heap.size) (h2 : B + 2 < K) : Lay w0 B K n 0 { s with rq := some o } (w.alloc o) := by
  refine ⟨h.bel.alloc (by omega) _, ?_, ?_, fun i hi => ?_, fun i hi => ?_, fun i hi => by omega, fun i hi => by omega, ?_, ?_⟩
  · rw [heap_alloc_ne _ _ _ (by have := lt_some h.hX; omega)]; exact h.hX
  · rw [heap_alloc_ne _ _ _ (by have := lt_some h.hP; omega)]; exact h.hP
  · rw [heap_alloc_ne _ _ _ (by have := lt_some (h.hcw i hi); omega)]; exact h.hcw i hi
  · rw [heap_alloc_ne _ _ _ (by have := lt_some (h.hwk i hi); omega)]; exact h.hwk i hi
  · rw [heap_alloc_ne _ _ _ (by omega)]; exact h.eW
  · exact heap_new _ _ _ hK

theorem stage {w wr w4 : World} {n m : Nat} {E v : Value} {s0 wk : Int} (hl : L1 w w.heap.size n n (p0 s0) wr)
    (hown : w4.ownsRow (w.heap.size + 3 + 3 * n) 62 1 v (0 + n) ([] ++ rowOf w.heap.size n)) (hg : wr.grownBy w4 none) (hnil : v = .slice none 0 0 ↔ n = 0) :
    Inv2 w w4.heap.size n m E s0 wk v wr.heap[w.heap.size + 2]? 0 (((w4.setCell ⟨w.heap.size + 1, 18, none⟩ v).setCell ⟨w.heap.size + 1, 17, none⟩ (.int .i64 wk)).alloc (.cells (madeCells #[.pointer none] m) 55)) := by
  have sz := hl.sz
  have szg := hg.size
  have hb : Below w.heap.size wr w4 := ⟨hg.os, hg.tape, hg.output, hg.size, fun k hk => hg.block k (by omega) (by simp)⟩
  have hL := L1.lay (E := E) (K := w4.heap.size) hl hb (fun k h1 h2 => hg.block k (by omega) (by simp)) (by omega) rfl rfl rfl
  have hK : w.heap.size + 3 + 3 * n ≤ w4.heap.size := by omega
  have h2 := ((hL.setIdle hK v).setWk hK wk)
  have h3 := h2.rowNew (o := .cells (madeCells #[.pointer none] m) 55) (by simp [World.setCell]) (by omega)
  refine ⟨?_, by simp [World.setCell], madeCells #[.pointer none] m, by simp [size_madeCells], fun i hi => by omega, h3⟩
  rcases hown.2 with ⟨e1, e2⟩ | ⟨g, cap, cur, e1, e2, e3, e4, e5, e6, e7⟩
  · exact .inl ⟨by omega, e1⟩
  · by_cases hn : n = 0
    · exact .inl ⟨hn, hnil.2 hn⟩
    · have hlt := lt_some e3
      refine .inr ⟨by omega, g, cap, by rw [e1]; simp, by omega, by omega, hlt, cur, ?_, fun i hi => ?_⟩
      · rw [heap_alloc_ne _ _ _ (by simp [World.setCell]; omega), Below.heap_setCell _ _ _ _ (by simp; omega), Below.heap_setCell _ _ _ _ (by simp; omega)]; exact e3
      · have := congrArg (fun l => l[i]?) e7
        simp only [List.nil_append] at this
        rw [List.getElem?_take_of_lt (by omega), rowOf_get _ _ _ hi] at this
        simpa using this

/-- Node j made and pushed, and put into its row. -/
theorem Inv2.node {w wr : World} {K n m j : Nat} {E v : Value} {s0 wk : Int} {rw : Option Obj} (h : Inv2 w K n m E s0 wk v rw j wr) (hK : w.heap.size + 3 + 3 * n ≤ K) :
    ∃ cur, cur.size = m ∧ (∀ i, i < j → cur[i]? = some (pt (K + 2 + 3 * i))) ∧ wr.heap[K]? = some (.cells cur 55 (0, 0)) ∧
    Lay w w.heap.size K n (j + 1) (link K 0 j (C K j E rw (some (.cells cur 55 (0, 0))) s0 0 0 wk v false 0 0 0 0)) ((wr.alloc (.chan 1 #[] false 0 0 false)).alloc (.cells #[.nilFunc, .chan (some (K + 1 + 3 * j)), .pointer none, .pointer none] 73)) := by
  obtain ⟨h1, h2, cur, h3, h4, h5⟩ := h
  exact ⟨cur, h3, h4, h5.eR, h5.node h2 hK⟩

theorem Inv2.step {w wr w5 : World} {K n m j : Nat} {E v : Value} {s0 wk : Int} {rw : Option Obj} {cur : Array Value} {c1 : Array Value} (h : Inv2 w K n m E s0 wk v rw j wr) (hK : w.heap.size + 3 + 3 * n ≤ K) (hj : j < m) (e1 : cur.size = m) (e2 : ∀ i, i < j → cur[i]? = some (pt (K + 2 + 3 * i)))
    (h5 : Lay w w.heap.size K n (j + 1) (link K 0 (j + 1) (C K j E rw (some (.cells cur 55 (0, 0))) s0 0 0 wk v false 0 0 0 0)) w5)
    (hs : w5.heap.size = ((wr.alloc (.chan 1 #[] false 0 0 false)).alloc (.cells #[.nilFunc, .chan (some (K + 1 + 3 * j)), .pointer none, .pointer none] 73)).heap.size)
    (hk : ∀ k, k ≤ K → k ≠ w.heap.size + 1 → w5.heap[k]? = ((wr.alloc (.chan 1 #[] false 0 0 false)).alloc (.cells #[.nilFunc, .chan (some (K + 1 + 3 * j)), .pointer none, .pointer none] 73)).heap[k]?) :
    Inv2 w K n m E s0 wk v rw (j + 1) ((w5.setCell ⟨K, j, none⟩ (pt (K + 2 + 3 * j))).alloc (.cells c1 55)) := by
  obtain ⟨hi, sz, _, _, _, _⟩ := h
  have s5 : w5.heap.size = K + 3 + 3 * j := by rw [hs]; simp [sz]; omega
  have u := Upd.setCell h5.eR j (pt (K + 2 + 3 * j))
  have l6 := h5.rowQ hK u
  refine ⟨?_, by simp [World.setCell, s5]; omega, cur.setIfInBounds j (pt (K + 2 + 3 * j)), by simpa using e1, fun i hi' => ?_, ?_⟩
  · rcases hi with h' | ⟨hp, I, cap, i1, i2, i3, i4, i5⟩
    · exact .inl h'
    · refine .inr ⟨hp, I, cap, i1, i2, i3, i4, ?_⟩
      rw [heap_alloc_ne _ _ _ (by rw [u.size, s5]; omega), u.other _ (by omega), hk _ (by omega) (by omega), heap_alloc_ne _ _ _ (by simp [sz]; omega), heap_alloc_ne _ _ _ (by omega)]; exact i5
  · by_cases e : i = j
    · subst e; simp [e1, hj]
    · rw [Array.getElem?_setIfInBounds_ne (by omega)]; exact e2 i (by omega)
  · refine Lay.turn (l6.alloc (.cells c1 55) (by rw [u.size, s5]; omega) (by rw [u.size, s5]; omega)) ?_ rfl (fun _ _ => rfl) (fun _ _ => rfl) (fun _ _ => rfl) (fun _ _ => rfl) (fun _ _ => rfl) (fun _ _ => rfl) rfl rfl
    simp [link, C]

/-- The answer of waiting caller k taken out. -/
theorem Lay.took {w0 w : World} {B K n m k kc a : Nat} {E : Value} {rw rq : Option Obj} {st wt mu wk : Int} {idle : Value} {ex : Bool} (h : Lay w0 B K n m (C K m E rw rq st wt mu wk idle ex kc a m k) w) (hK : B + 3 + 3 * n ≤ K) (hk : k < m) (hh : w.heap[K + 1 + 3 * k]? = some (.chan 1 #[E] false 1 0 false)) :
    Lay w0 B K n m (C K m E rw rq st wt mu wk idle ex kc a m (k + 1)) (w.setChan (K + 1 + 3 * k) 1 #[] false 1 (0 + 1) false) := by
  refine (h.dc hK k (Upd.setChan hh 1 #[] false 1 (0 + 1) false)).turn rfl rfl (fun _ _ => rfl) (fun _ _ => rfl) (fun _ _ => rfl) ?_ ?_ ?_ rfl rfl
  · intro i hi
    simp only [C]
    by_cases e : i = k
    · rw [if_pos e, if_neg (by omega)]
    · rw [if_neg e]
      by_cases e2 : k ≤ i ∧ i < m
      · rw [if_pos e2, if_pos (by omega)]
      · rw [if_neg e2, if_neg (by omega)]
  · intro i hi
    simp only [C]
    by_cases e : i = k
    · rw [if_pos e, if_pos (by omega)]
    · rw [if_neg e]
  · intro i hi
    simp only [C]
    by_cases e : i = k
    · rw [if_pos e, if_pos (by omega)]
    · rw [if_neg e]
      by_cases e2 : i < k
      · rw [if_pos e2, if_pos (by omega)]
      · rw [if_neg e2, if_neg (by omega)]

theorem or_or_same (x c : BitVec 64) : (x ||| c) ||| c = x ||| c := by
  rw [BitVec.or_assoc, BitVec.or_self]
theorem or_twice (x : Int) : bits .or .u64 (bits .or .u64 x 9223372036854775808) 9223372036854775808 = bits .or .u64 x 9223372036854775808 := by
  rw [bits_eq .or, bits_eq .or, ofInt_toNat]
  simp only
  rw [or_or_same]

/-- What holds before Release. -/
def Inv3 (w : World) (K n m : Nat) (E : Value) (s0 wk : Int) (v : Value) (rw rq : Option Obj) (wr : World) : Prop :=
  IdleIs wr w.heap.size K n m v ∧ Lay w w.heap.size K n m (C K m E rw rq s0 m 0 wk v false 0 0 0 0) wr

theorem Inv2.done {w wr : World} {K n m : Nat} {E v : Value} {s0 wk : Int} {rw : Option Obj} (h : Inv2 w K n m E s0 wk v rw m wr) (hK : w.heap.size + 3 + 3 * n ≤ K) :
    ∃ rq, RowIs rq 55 m (fun i => pt (K + 2 + 3 * i)) ∧ Inv3 w K n m E s0 wk v rw rq (wr.setCell ⟨w.heap.size + 1, 14, none⟩ (.int .i64 m)) ∧ wr.cell? ⟨w.heap.size + 1, 14, none⟩ = some (.int .i64 0) ∧ wr.frozen? ⟨w.heap.size + 1, 14, none⟩ = false := by
  obtain ⟨hi, sz, cur, e1, e2, hl⟩ := h
  refine ⟨_, ⟨cur, rfl, e2⟩, ⟨?_, hl.setWt hK m⟩, hl.c14, hl.fz 14⟩
  rcases hi with h' | ⟨hp, I, cap, i1, i2, i3, i4, i5⟩
  · exact .inl h'
  · refine .inr ⟨hp, I, cap, i1, i2, i3, i4, ?_⟩
    rw [Below.heap_setCell _ _ _ _ (by simp; omega)]; exact i5
end Go.Proofs.YbulkijmDoor
