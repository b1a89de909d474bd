/-
  The methods, at the heap as a whole.
-/
import Derived.Test.YbulkitsHp
namespace Go.Proofs.Ybulkits
open Go.RowKit
set_option linter.unusedVariables false
set_option linter.unusedSimpArgs false

variable {w : World} {base B : Nat} {n0 n1 n2 rdy : Value} {A : List Nat}

theorem Hp.cell (h : Hp w base B n0 n1 n2 rdy A) : w.cell? ⟨B, 3, none⟩ = some rdy := (ob h.net 3).1
theorem Hp.rowAt (h : Hp w base B n0 n1 n2 rdy A) (hA : A ≠ []) : ∃ R cap cur, rdy = .slice (some ⟨R, 0, none⟩) A.length cap ∧ base ≤ R ∧ w.heap[R]? = some (.cells cur 50 (0, 0)) ∧ A.length ≤ cap ∧ cap ≤ maxLen ∧ cur.size = cap ∧ cur.toList.take A.length = A.map ptr := by
  rcases h.row.2 with ⟨_, h0⟩ | ⟨R, cap, cur, e, hb, hc, h1, h2, h3, h4⟩
  · exact absurd (List.eq_nil_of_length_eq_zero h0) hA
  · exact ⟨R, cap, cur, e, hb, hc, h1, h2, by simpa using h3, by simpa using h4⟩
theorem rowGet {cur : Array Value} (h : cur.toList.take A.length = A.map ptr) {i x : Nat} (hx : A[i]? = some x) : cur[i]? = some (ptr x) := by
  have hi := (List.getElem?_eq_some_iff.1 hx).1
  have : (cur.toList.take A.length)[i]? = some (ptr x) := by rw [h, List.getElem?_map, hx]; rfl
  rw [List.getElem?_take_of_lt hi] at this
  simpa using this
theorem Hp.drewN (h : Hp w base B n0 n1 n2 rdy A) (m : Nat) : Hp (w.drewN m) base B n0 n1 n2 rdy A := ⟨h.net, h.hB, h.row, h.link, h.few⟩
theorem Hp.inj (h : Hp w base B n0 n1 n2 rdy A) {i j x : Nat} (hi : A[i]? = some x) (hj : A[j]? = some x) : i = j := by
  obtain ⟨_, a, b, q, c, e⟩ := h.link i x hi
  obtain ⟨_, a', b', q', c', e'⟩ := h.link j x hj
  rw [e] at e'
  simp at e'
  omega

theorem below_drew {base : Nat} {w w' : World} (h : Below base w w') (m : Nat) : Below base w (w'.drewN m) := ⟨h.os, h.tape, h.output, h.size, h.block⟩

/-- Two places exchanged. -/
def swL (A : List Nat) (i j : Nat) : List Nat := (A.set i (A.getD j 0)).set j (A.getD i 0)
theorem swL_len (A : List Nat) (i j : Nat) : (swL A i j).length = A.length := by simp [swL]
theorem swL_get {i j x y : Nat} (hx : A[i]? = some x) (hy : A[j]? = some y) (k : Nat) : (swL A i j)[k]? = if k = j then some x else if k = i then some y else A[k]? := by
  have hi := (List.getElem?_eq_some_iff.1 hx).1
  have hj := (List.getElem?_eq_some_iff.1 hy).1
  simp only [swL, List.getElem?_set, List.length_set]
  have e1 : A.getD i 0 = x := by simp [List.getD, hx]
  have e2 : A.getD j 0 = y := by simp [List.getD, hy]
  rw [e1, e2]
  by_cases h1 : k = j
  · subst h1; simp [hj]
  · by_cases h2 : k = i
    · subst h2; simp [hi, h1, Ne.symm h1]
    · simp [h1, h2, Ne.symm h1, Ne.symm h2]
theorem swL_mem {i j x y : Nat} (hx : A[i]? = some x) (hy : A[j]? = some y) (hij : i ≠ j) (z : Nat) : z ∈ swL A i j ↔ z ∈ A := by
  simp only [List.mem_iff_getElem?, swL_get hx hy]
  constructor
  · rintro ⟨k, hk⟩
    split at hk
    · exact ⟨i, by rw [hx]; exact hk⟩
    · split at hk
      · exact ⟨j, by rw [hy]; exact hk⟩
      · exact ⟨k, hk⟩
  · rintro ⟨k, hk⟩
    by_cases h1 : k = j
    · subst h1
      exact ⟨i, by rw [if_neg hij, if_pos rfl, ← hk, hy]⟩
    · by_cases h2 : k = i
      · subst h2
        exact ⟨j, by rw [if_pos rfl, ← hk, hx]⟩
      · exact ⟨k, by rw [if_neg h1, if_neg h2]; exact hk⟩

theorem lessH (h : Hp w base B n0 n1 n2 rdy A) {i j x y k k' : Nat} (hx : A[i]? = some x) (hy : A[j]? = some y) (kx : KeyAt w x k) (ky : KeyAt w y k') :
    Calls Yba.prog 39 #[rdy, .int .i64 i, .int .i64 j] w fun e w' => e = .returned (.bool (decide (k < k'))) ∧ ∃ m, w' = w.drewN m := by
  have hi := (List.getElem?_eq_some_iff.1 hx).1
  have hj := (List.getElem?_eq_some_iff.1 hy).1
  obtain ⟨R, cap, cur, rfl, hR, hc, h1, h2, h3, h4⟩ := h.rowAt (by rintro rfl; simp at hi)
  obtain ⟨a, b, g, o, len, c, hh, ii, cu, e1, e2, e3, e4⟩ := kx
  obtain ⟨a', b', g', o', len', c', hh', ii', cu', f1, f2, f3, f4⟩ := ky
  exact less39 R i j x y g o len c g' o' len' c' A.length cap k k' hi hj ((ob hc i).1.trans (rowGet h4 hx)) ((ob hc j).1.trans (rowGet h4 hy)) (ob e1 2).1 (ob f1 2).1 e2 f2 ((ob e3 _).1.trans e4) ((ob f3 _).1.trans f4)

theorem swapH (h : Hp w base B n0 n1 n2 rdy A) {i j x y : Nat} (hx : A[i]? = some x) (hy : A[j]? = some y) (hij : i ≠ j) :
    Calls Yba.prog 40 #[rdy, .int .i64 i, .int .i64 j] w fun e w' => e = .returned (.tuple #[]) ∧ Hp w' base B n0 n1 n2 rdy (swL A i j) ∧ To base w w' B rdy A := by
  have hi := (List.getElem?_eq_some_iff.1 hx).1
  have hj := (List.getElem?_eq_some_iff.1 hy).1
  obtain ⟨R, cap, cur, rfl, hR, hc, h1, h2, h3, h4⟩ := h.rowAt (by rintro rfl; simp at hi)
  obtain ⟨bx, a, b, q, hh, e1⟩ := h.link i x hx
  obtain ⟨by', a', b', q', hh', f1⟩ := h.link j y hy
  have hxy : x ≠ y := fun e => hij (h.inj hx (e ▸ hy))
  have hxR : x ≠ R := ne_tag e1 hc (by decide)
  have hyR : y ≠ R := ne_tag f1 hc (by decide)
  have hBR : B ≠ R := ne_tag h.net hc (by decide)
  have hBx : B ≠ x := ne_tag h.net e1 (by decide)
  have hBy : B ≠ y := ne_tag h.net f1 (by decide)
  refine (swap40 R i j x y A.length cap hi hj ((ob hc i).1.trans (rowGet h4 hx)) ((ob hc j).1.trans (rowGet h4 hy)) (fun o => (ob hc o).2) (ob e1 4).2 (ob f1 4).2 _ _ (ob e1 4).1 (ob f1 4).1 hxR hyR hxy hij).mono ?_
  rintro e w' ⟨rfl, m, rfl⟩
  have o1 : ∀ b, b ≠ R → b ≠ x → b ≠ y → (((((w.drewN m).setCell ⟨R, i, none⟩ (.pointer (some ⟨y, 0, none⟩))).setCell ⟨R, j, none⟩ (.pointer (some ⟨x, 0, none⟩))).setCell ⟨y, 4, none⟩ (.int .i64 i)).setCell ⟨x, 4, none⟩ (.int .i64 j)).heap[b]? = w.heap[b]? := fun b g1 g2 g3 =>
    (Below.heap_setCell _ _ _ _ g2).trans ((Below.heap_setCell _ _ _ _ g3).trans ((Below.heap_setCell _ _ _ _ g1).trans (Below.heap_setCell _ _ _ _ g1)))
  have oR : (((((w.drewN m).setCell ⟨R, i, none⟩ (.pointer (some ⟨y, 0, none⟩))).setCell ⟨R, j, none⟩ (.pointer (some ⟨x, 0, none⟩))).setCell ⟨y, 4, none⟩ (.int .i64 i)).setCell ⟨x, 4, none⟩ (.int .i64 j)).heap[R]? = some (.cells ((cur.setIfInBounds i (.pointer (some ⟨y, 0, none⟩))).setIfInBounds j (.pointer (some ⟨x, 0, none⟩))) 50 (0, 0)) := by
    rw [Below.heap_setCell _ _ _ _ (Ne.symm hxR), Below.heap_setCell _ _ _ _ (Ne.symm hyR)]
    exact set_same _ _ (set_same _ _ hc)
  have ox : (((((w.drewN m).setCell ⟨R, i, none⟩ (.pointer (some ⟨y, 0, none⟩))).setCell ⟨R, j, none⟩ (.pointer (some ⟨x, 0, none⟩))).setCell ⟨y, 4, none⟩ (.int .i64 i)).setCell ⟨x, 4, none⟩ (.int .i64 j)).heap[x]? = some (.cells #[a, b, q, hh, .int .i64 j] 56 (0, 0)) := by
    refine (set_same 4 (.int .i64 j) (cs := #[a, b, q, hh, .int .i64 i]) ?_).trans (by rfl)
    rw [Below.heap_setCell _ _ _ _ hxy, Below.heap_setCell _ _ _ _ hxR, Below.heap_setCell _ _ _ _ hxR]
    exact e1
  have oy : (((((w.drewN m).setCell ⟨R, i, none⟩ (.pointer (some ⟨y, 0, none⟩))).setCell ⟨R, j, none⟩ (.pointer (some ⟨x, 0, none⟩))).setCell ⟨y, 4, none⟩ (.int .i64 i)).setCell ⟨x, 4, none⟩ (.int .i64 j)).heap[y]? = some (.cells #[a', b', q', hh', .int .i64 i] 56 (0, 0)) := by
    rw [Below.heap_setCell _ _ _ _ (Ne.symm hxy)]
    refine (set_same 4 (.int .i64 i) (cs := #[a', b', q', hh', .int .i64 j]) ?_).trans (by rfl)
    rw [Below.heap_setCell _ _ _ _ hyR, Below.heap_setCell _ _ _ _ hyR]
    exact f1
  refine ⟨rfl, ⟨(o1 B hBR hBx hBy).trans h.net, h.hB, ⟨by simp [swL_len], .inr ⟨R, cap, _, by rw [swL_len], hR, oR, by rw [swL_len]; exact h1, h2, by simpa using h3, ?_⟩⟩, fun k z hz => ?_, by rw [swL_len]; exact h.few⟩, ⟨?_, by simp [World.setCell], fun b g1 g2 g3 _ => ?_, fun z hz a2 b2 q2 h2' i2 e2 => ?_⟩⟩
  · have ei : A.getD i 0 = x := by simp [List.getD, hx]
    have ej : A.getD j 0 = y := by simp [List.getD, hy]
    simp only [Nat.mul_one, Array.toList_setIfInBounds, swL, List.map_set, List.length_set, ei, ej]
    rw [List.take_set, List.take_set, h4]
    rfl
  · rw [swL_get hx hy] at hz
    split at hz
    · rename_i hk; subst hk
      obtain rfl := Option.some.inj hz
      exact ⟨bx, a, b, q, hh, ox⟩
    · split at hz
      · rename_i hk; subst hk
        obtain rfl := Option.some.inj hz
        exact ⟨by', a', b', q', hh', oy⟩
      · rename_i k1 k2
        obtain ⟨bz, a2, b2, q2, h2', e2⟩ := h.link k z hz
        exact ⟨bz, a2, b2, q2, h2', (o1 z (ne_tag e2 hc (by decide)) (fun e => k2 (h.inj hz (e ▸ hx))) (fun e => k1 (h.inj hz (e ▸ hy)))).trans e2⟩
  · exact ((((((below_drew (Below.refl _ w) m)).setCell hR _).setCell hR _).setCell by' _).setCell bx _)
  · exact o1 b (fun e => g2 cur (e ▸ hc)) (fun e => g3 (e ▸ List.mem_of_getElem? hx)) (fun e => g3 (e ▸ List.mem_of_getElem? hy))
  · by_cases zx : z = x
    · subst zx
      rw [e1] at e2
      simp at e2
      obtain ⟨rfl, rfl, rfl, rfl, rfl⟩ := e2
      exact ⟨_, ox⟩
    · by_cases zy : z = y
      · subst zy
        rw [f1] at e2
        simp at e2
        obtain ⟨rfl, rfl, rfl, rfl, rfl⟩ := e2
        exact ⟨_, oy⟩
      · exact ⟨i2, (o1 z (ne_tag e2 hc (by decide)) zx zy).trans e2⟩

theorem popH {x : Nat} (h : Hp w base B n0 n1 n2 rdy (A ++ [x])) :
    Calls Yba.prog 41 #[.pointer (some ⟨B, 3, none⟩)] w fun e w' => e = .returned (.iface 50 (.pointer (some ⟨x, 0, none⟩))) ∧ ∃ rdy', Hp w' base B n0 n1 n2 rdy' A ∧ To base w w' B rdy (A ++ [x]) := by
  have hx : (A ++ [x])[A.length]? = some x := by simp
  obtain ⟨R, cap, cur, rfl, hR, hc, h1, h2, h3, h4⟩ := h.rowAt (by simp)
  obtain ⟨bx, a, b, q, hh, e1⟩ := h.link _ x hx
  have hf := h.few
  simp only [List.length_append, List.length_singleton] at h1 hf
  have hcB := h.cell
  rw [show (A ++ [x]).length = A.length + 1 by simp] at hcB
  have hBR : B ≠ R := ne_tag h.net hc (by decide)
  have hxR : x ≠ R := ne_tag e1 hc (by decide)
  have hBx : B ≠ x := ne_tag h.net e1 (by decide)
  refine (pop41 B R x A.length cap hcB ((ob hc _).1.trans (rowGet h4 hx)) h1 (by omega) (fun o => (ob hc o).2) (ob h.net 3).2 hBR).mono ?_
  rintro e w' ⟨rfl, m, rfl⟩
  have o1 : ∀ b, b ≠ R → b ≠ B → (((w.drewN m).setCell ⟨R, A.length, none⟩ (.pointer none)).setCell ⟨B, 3, none⟩ (.slice (some ⟨R, 0, none⟩) A.length cap)).heap[b]? = w.heap[b]? := fun b g1 g2 =>
    (Below.heap_setCell _ _ _ _ g2).trans (Below.heap_setCell _ _ _ _ g1)
  have oR : (((w.drewN m).setCell ⟨R, A.length, none⟩ (.pointer none)).setCell ⟨B, 3, none⟩ (.slice (some ⟨R, 0, none⟩) A.length cap)).heap[R]? = some (.cells (cur.setIfInBounds A.length (.pointer none)) 50 (0, 0)) := by
    rw [Below.heap_setCell _ _ _ _ (Ne.symm hBR)]
    exact set_same _ _ hc
  have oB : (((w.drewN m).setCell ⟨R, A.length, none⟩ (.pointer none)).setCell ⟨B, 3, none⟩ (.slice (some ⟨R, 0, none⟩) A.length cap)).heap[B]? = some (.cells #[n0, n1, n2, .slice (some ⟨R, 0, none⟩) A.length cap] 49 (0, 0)) := by
    refine (set_same 3 _ (cs := #[n0, n1, n2, .slice (some ⟨R, 0, none⟩) (A ++ [x]).length cap]) ?_).trans (by rfl)
    rw [Below.heap_setCell _ _ _ _ hBR]
    exact h.net
  refine ⟨rfl, _, ⟨oB, h.hB, ⟨by simp, .inr ⟨R, cap, _, rfl, hR, oR, by omega, h2, by simpa using h3, ?_⟩⟩, fun k z hz => ?_, by omega⟩, ⟨((below_drew (Below.refl _ w) m).setCell hR _).setCell h.hB _, by simp [World.setCell], fun b g1 g2 g3 _ => ?_, fun z hz a2 b2 q2 h2' i2 e2 => ?_⟩⟩
  · have h5 := congrArg (List.take A.length) h4
    rw [List.take_take, Nat.min_eq_left (by simp)] at h5
    simp only [Nat.mul_one, Array.toList_setIfInBounds]
    rw [List.take_set_of_le (Nat.le_refl _), h5]
    simp
  · obtain ⟨bz, a2, b2, q2, h2', e2⟩ := h.link k z (by rw [List.getElem?_append_left (List.getElem?_eq_some_iff.1 hz).1]; exact hz)
    exact ⟨bz, a2, b2, q2, h2', (o1 z (ne_tag e2 hc (by decide)) (ne_tag e2 h.net (by decide))).trans e2⟩
  · exact o1 b (fun e => g2 cur (e ▸ hc)) g1
  · exact ⟨i2, (o1 z (ne_tag e2 hc (by decide)) (ne_tag e2 h.net (by decide))).trans e2⟩

theorem Yba.info50 : (Yba.prog.info? 50).map (fun i => (i.zero, i.size, i.bytes)) = some (some (.pointer none), 1, 8) := by kernel_rfl

theorem slice_of {wr : World} {b0 k : Nat} {v : Value} {xs : List Value} {t : TypeId} {s : Nat} (h : wr.ownsRow b0 t s v k xs) : ∃ p c, v = .slice p k c := by
  rcases h.2 with ⟨e, h0⟩ | ⟨R, cap, cur, e, _⟩
  · exact ⟨_, _, by rw [e, h0]⟩
  · exact ⟨_, _, e⟩
theorem own_set {wr : World} {b0 k : Nat} {v : Value} {xs : List Value} {t : TypeId} {s : Nat} (h : wr.ownsRow b0 t s v k xs) {a : Addr} (ha : v.ownBlock ≠ some a.block) (u : Value) : (wr.setCell a u).ownsRow b0 t s v k xs := by
  refine ⟨h.1, ?_⟩
  rcases h.2 with h' | ⟨g, cap, cur, rfl, e2, e3, e4⟩
  · exact .inl h'
  · exact .inr ⟨g, cap, cur, rfl, e2, (Below.heap_setCell _ _ _ _ (fun e => ha (by rw [← e]; rfl))).trans e3, e4⟩

set_option maxRecDepth 100000 in
set_option maxHeartbeats 1600000 in
theorem pushH {x : Nat} {a b q hh : Value} {i : Int} (h : Hp w base B n0 n1 n2 rdy A) (hx : w.heap[x]? = some (.cells #[a, b, q, hh, .int .i64 i] 56 (0, 0))) (hxA : x ∉ A) (bx : base ≤ x) (hf : A.length < 9) :
    Calls Yba.prog 42 #[.pointer (some ⟨B, 3, none⟩), .iface 50 (.pointer (some ⟨x, 0, none⟩))] w fun e w' => e = .returned (.tuple #[]) ∧ ∃ rdy', Hp w' base B n0 n1 n2 rdy' (A ++ [x]) ∧ To base w w' B rdy (x :: A) := by
  obtain ⟨i0, hi, hz0, hz1, hz2⟩ := info_parts Yba.info50
  obtain ⟨p, c, hrd⟩ : ∃ p c, rdy = .slice p A.length c := by
    rcases h.row.2 with ⟨e, h0⟩ | ⟨R, cap, cur, e, _⟩
    · exact ⟨_, _, by rw [e, h0]⟩
    · exact ⟨_, _, e⟩
  have hBx : B ≠ x := ne_tag h.net hx (by decide)
  have hcB := h.cell
  have fB := (ob h.net 3).2
  have cx := (ob hx 4).1
  have fx := (ob hx 4).2
  have hnr : rdy.ownBlock ≠ some x := by
    rcases h.row.2 with ⟨e, h0⟩ | ⟨R, cap, cur, e, _, hc, _⟩
    · rw [e]; simp [Value.ownBlock]
    · rw [e]; simp only [Value.ownBlock, ne_eq, Option.some.injEq]; exact fun e => ne_tag hc hx (by decide) e
  have hrow := h.row
  rw [hrd] at hcB hnr hrow
  have hta : ∀ W : World, (Instr.typeAssert (.iface 50 (.pointer (some ⟨x, 0, none⟩))) 20 50 false).run Yba.prog W = .ok (.pointer (some ⟨x, 0, none⟩)) W := fun W => by kernel_rfl
  have own1 : ∀ o : Obj, ((w.setCell ⟨x, 4, none⟩ (.int .i64 A.length)).alloc o).ownsRow base 50 1 (.slice p A.length c) A.length (A.map ptr) := fun o => (own_set hrow hnr _).alloc o
  have hxl := (Array.getElem?_eq_some_iff.1 hx).1
  have hBl := (Array.getElem?_eq_some_iff.1 h.net).1
  have hBr : (Value.slice p A.length c).ownBlock ≠ some B := by
    rcases hrow.2 with ⟨e, h0⟩ | ⟨R, cap, cur, e, _, hc, _⟩
    · rw [e]; simp [Value.ownBlock]
    · rw [e]; simp only [Value.ownBlock, ne_eq, Option.some.injEq]; exact fun e => ne_tag hc h.net (by decide) e
  have oth : ∀ (W w3 : World) (o : Obj), W = w.setCell ⟨x, 4, none⟩ (.int .i64 A.length) → (W.alloc o).grownBy w3 (Value.slice p A.length c).ownBlock → ∀ b, b < w.heap.size → (Value.slice p A.length c).ownBlock ≠ some b → b ≠ x → w3.heap[b]? = w.heap[b]? := by
    rintro W w3 o rfl hg b hb hr hbx
    exact (hg.block b (by simp [World.setCell]; omega) (Ne.symm hr)).trans ((Below.heap_alloc _ _ _ (by simp [World.setCell]; omega)).trans (Below.heap_setCell _ _ _ _ hbx))
  have othx : ∀ (W w3 : World) (o : Obj), W = w.setCell ⟨x, 4, none⟩ (.int .i64 A.length) → (W.alloc o).grownBy w3 (Value.slice p A.length c).ownBlock → w3.heap[x]? = some (.cells #[a, b, q, hh, .int .i64 A.length] 56 (0, 0)) := by
    rintro W w3 o rfl hg
    exact (hg.block x (by simp [World.setCell]; omega) (Ne.symm hnr)).trans ((Below.heap_alloc _ _ _ (by simp [World.setCell]; omega)).trans (set_same _ _ hx))
  have hbw : base ≤ w.heap.size := by omega
  go_enter Yba.func42, Yba.ntmps42
  go_wp2_with (first
    | (at_builtin
       refine wpList_append_own _ rfl _ _ 47 rfl base 50 i0 _ 1 8 Yba.underlying47 hi hz0 hz1 hz2 rfl (by decide) (.slice p A.length c) A.length (A.map ptr) rfl (own1 _) ⟨w.heap.size, 0, none⟩ 1 1 [.pointer (some ⟨x, 0, none⟩)] rfl rfl (fun k u hu => ?_) (by simp [Value.oneCell']) (by unfold maxLen; omega) (by omega) (by simp [World.setCell]; omega) ?_
       · (have hk : k = 0 := by
            have := (List.getElem?_eq_some_iff.1 hu).1
            simp at this
            exact this
          subst hk
          obtain rfl : u = .pointer (some ⟨x, 0, none⟩) := by simpa using hu.symm
          simp [go_sem, Addr.add, World.setCell])
       intro v' w3 hown' hgrow hnil
       obtain ⟨p2, c2, hv2⟩ := slice_of hown'
       subst hv2
       have hB3 : w3.heap[B]? = some (.cells #[n0, n1, n2, rdy] 49 (0, 0)) := (oth _ _ _ rfl hgrow B hBl hBr hBx).trans h.net
       have oth3 := oth _ _ _ rfl hgrow
       have hx3 := othx _ _ _ rfl hgrow
       have cB3 := (ob hB3 3).1
       have fB3 := (ob hB3 3).2
       have hbl3 : Below base w w3 := Below.grown (((Below.refl base w).setCell (show base ≤ (⟨x, 4, none⟩ : Addr).block from bx) (.int .i64 A.length)).alloc (by simp [World.setCell]; omega) _) hgrow (by simp [World.setCell]; omega) (fun j hj => (hrow.lt _ hj).1)
       have hs3 : w.heap.size ≤ w3.heap.size := by have := hgrow.size; simp [World.setCell] at this; omega
       clear hnil hgrow oth othx))
  go_end0
  have hvB : (Value.slice p2 (A.length + 1) c2).ownBlock ≠ some B := by
    rcases hown'.2 with ⟨e, h0⟩ | ⟨R, cap, cur, e, _, hc, _⟩
    · rw [e]; simp [Value.ownBlock]
    · rw [e]; simp only [Value.ownBlock, ne_eq, Option.some.injEq]; exact fun e => ne_tag hc hB3 (by decide) e
  have o4 : ∀ b', b' < w.heap.size → (Value.slice p A.length c).ownBlock ≠ some b' → b' ≠ x → b' ≠ B → (w3.setCell ⟨B, 3, none⟩ (.slice p2 (A.length + 1) c2)).heap[b']? = w.heap[b']? := fun b' g1 g2 g3 g4 => (Below.heap_setCell _ _ _ _ g4).trans (oth3 b' g1 g2 g3)
  have x4 : (w3.setCell ⟨B, 3, none⟩ (.slice p2 (A.length + 1) c2)).heap[x]? = some (.cells #[a, b, q, hh, .int .i64 A.length] 56 (0, 0)) := (Below.heap_setCell _ _ _ _ (Ne.symm hBx)).trans hx3
  have tagr : ∀ {z : Nat} {cs : Array Value}, w.heap[z]? = some (.cells cs 56 (0, 0)) → (Value.slice p A.length c).ownBlock ≠ some z := by
    intro z cs hz
    rcases hrow.2 with ⟨e, h0⟩ | ⟨R, cap, cur, e, _, hc, _⟩
    · rw [e]; simp [Value.ownBlock]
    · rw [e]; simp only [Value.ownBlock, ne_eq, Option.some.injEq]; exact fun e => ne_tag hc hz (by decide) e
  refine ⟨rfl, _, ⟨set_same 3 _ hB3, h.hB, ?_, fun k z hz => ?_, by simp; omega⟩, ⟨hbl3.setCell h.hB _, by simpa [World.setCell] using hs3, fun b' g1 g2 g3 g4 => ?_, fun z hz a2 b2 q2 h2' i2 e2 => ?_⟩⟩
  · have := own_set hown' (a := ⟨B, 3, none⟩) hvB (.slice p2 (A.length + 1) c2)
    simpa [ptr] using this
  · by_cases hk : k < A.length
    · rw [List.getElem?_append_left hk] at hz
      obtain ⟨bz, a2, b2, q2, h2', e2⟩ := h.link k z hz
      exact ⟨bz, a2, b2, q2, h2', (o4 z (Array.getElem?_eq_some_iff.1 e2).1 (tagr e2) (fun e => hxA (e ▸ List.mem_of_getElem? hz)) (ne_tag e2 h.net (by decide))).trans e2⟩
    · have hk' : k = A.length := by
        have := (List.getElem?_eq_some_iff.1 hz).1
        simp at this; omega
      subst hk'
      obtain rfl : x = z := by simpa using hz
      exact ⟨bx, a, b, q, hh, x4⟩
  · refine o4 b' g4 ?_ (fun e => g3 (by simp [e])) g1
    rcases hrow.2 with ⟨e, h0⟩ | ⟨R, cap, cur, e, _, hc, _⟩
    · rw [e]; simp [Value.ownBlock]
    · rw [e]; simp only [Value.ownBlock, ne_eq, Option.some.injEq]; exact fun e => g2 cur (e ▸ hc)
  · by_cases zx : z = x
    · subst zx
      rw [hx] at e2
      simp at e2
      obtain ⟨rfl, rfl, rfl, rfl, rfl⟩ := e2
      exact ⟨_, x4⟩
    · exact ⟨i2, (o4 z (Array.getElem?_eq_some_iff.1 e2).1 (tagr e2) zx (ne_tag e2 h.net (by decide))).trans e2⟩
end Go.Proofs.Ybulkits
