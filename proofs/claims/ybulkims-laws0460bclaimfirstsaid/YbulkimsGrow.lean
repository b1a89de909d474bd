/-
  What a round of the law's first loop lays: the copy of the spec, the sleeper, the waiter.
-/
import Derived.Test.YbulkimsFirst
namespace Go.Proofs.Ybulkims
open Go.RowKit

/-- The world behind 's.state.Store(st[j])' in round j: the sleeper lies in block wr.heap.size + 1, the spec's copy ahead of it. -/
structure Mid (w0 : World) (Q L j : Nat) (d : Dat) (wr w : World) : Prop where
  bel : Below Q w0 w
  sz : w.heap.size = Q + 5 + 3 * j
  old : ∀ b o u, wr.cell? ⟨b, o, none⟩ = some u → ¬ (b = Q + 2 ∧ o = j) → w.cell? ⟨b, o, none⟩ = some u
  st : w.cell? ⟨Q + 2, j, none⟩ = some (.int .u64 (d.st j))
  sp2 : w.cell? ⟨Q + 3 + 3 * j, 2, none⟩ = some (.int .u64 (d.T j))
  sp3 : w.cell? ⟨Q + 3 + 3 * j, 3, none⟩ = some (.int .i64 (d.I j))
  s0 : w.cell? ⟨Q + 4 + 3 * j, 0, none⟩ = some (.int .u64 (d.st j))
  s2 : w.cell? ⟨Q + 4 + 3 * j, 2, none⟩ = some (.int .i64 (-7))
  s3 : w.cell? ⟨Q + 4 + 3 * j, 3, none⟩ = some (.bool (d.sh j))
  fz : ∀ b o, Q ≤ b → w.frozen? ⟨b, o, none⟩ = false

theorem frozen_alloc (w : World) (c : Array Value) (t : TypeId) (a : Addr) : (w.alloc (.cells c t)).frozen? a = w.frozen? a := frozen?_alloc_cells w c t a

theorem cell_new (W : World) (c : Array Value) (t : TypeId) (n i : Nat) (u : Value) (hn : n = W.heap.size) (h : c[i]? = some u) : (W.alloc (.cells c t)).cell? ⟨n, i, none⟩ = some u := by
  rw [World.cell?_alloc_at c t n i hn]; exact h

theorem mid_of {w0 wr : World} {Q L j : Nat} {d : Dat} (hj : j < L) (hl : Lay w0 Q L j d (chain Q 0 j d.st (fun _ => -7)) wr) (A B : Array Value) (u0 : Value)
    (a2 : A[2]? = some (.int .u64 (d.T j))) (a3 : A[3]? = some (.int .i64 (d.I j))) (b0 : B[0]? = some u0) (b2 : B[2]? = some (.int .i64 (-7))) (b3 : B[3]? = some (.bool (d.sh j)))
    (w : World) (hw : (((wr.setCell ⟨Q + 2, j, none⟩ (.int .u64 (d.st j))).alloc (.cells A 31)).alloc (.cells B 53)).drew.setCell ⟨wr.heap.size + 1, 0, none⟩ (.int .u64 (d.st j)) = w) : Mid w0 Q L j d wr w := by
  have hsz := hl.sz
  have hst := hl.st j hj
  subst hw
  generalize hW1 : wr.setCell ⟨Q + 2, j, none⟩ (.int .u64 (d.st j)) = W1
  have z1 : W1.heap.size = Q + 3 + 3 * j := by rw [← hW1]; simpa using hsz
  have f1 : ∀ b o, Q ≤ b → W1.frozen? ⟨b, o, none⟩ = false := fun b o hb => by rw [← hW1, World.frozen?_setCell]; exact hl.fz b o hb
  have bl1 : Below Q w0 W1 := by rw [← hW1]; exact hl.bel.setCell (by simp) _
  have o1 : ∀ b o u, wr.cell? ⟨b, o, none⟩ = some u → W1.cell? ⟨b, o, none⟩ = some (if Q + 2 = b ∧ j = o then .int .u64 (d.st j) else u) := fun b o u h => by rw [← hW1]; exact cell_set _ _ _ _ _ _ _ h
  clear hW1
  have z2 : (W1.alloc (.cells A 31)).heap.size = Q + 4 + 3 * j := by simp [z1]; omega
  have z3 : ((W1.alloc (.cells A 31)).alloc (.cells B 53)).heap.size = Q + 5 + 3 * j := by simp [z1]; omega
  have lift : ∀ b o u, W1.cell? ⟨b, o, none⟩ = some u → ((W1.alloc (.cells A 31)).alloc (.cells B 53)).cell? ⟨b, o, none⟩ = some u := fun b o u h => cell_alloc _ _ _ _ _ (cell_alloc _ _ _ _ _ h)
  have sp : ∀ o u, A[o]? = some u → ((W1.alloc (.cells A 31)).alloc (.cells B 53)).cell? ⟨Q + 3 + 3 * j, o, none⟩ = some u := fun o u h => cell_alloc _ _ _ _ _ (cell_new _ _ _ _ _ _ (by omega) h)
  have sl : ∀ o u, B[o]? = some u → ((W1.alloc (.cells A 31)).alloc (.cells B 53)).cell? ⟨Q + 4 + 3 * j, o, none⟩ = some u := fun o u h => cell_new _ _ _ _ _ _ (by omega) h
  have fz3 : ∀ b o, Q ≤ b → ((W1.alloc (.cells A 31)).alloc (.cells B 53)).frozen? ⟨b, o, none⟩ = false := fun b o hb => by rw [frozen_alloc, frozen_alloc]; exact f1 b o hb
  have bl3 : Below Q w0 ((W1.alloc (.cells A 31)).alloc (.cells B 53)) := (bl1.alloc (by omega) _).alloc (by omega) _
  generalize (W1.alloc (.cells A 31)).alloc (.cells B 53) = W3 at *
  have e1 : wr.heap.size + 1 = Q + 4 + 3 * j := by omega
  rw [e1]
  have tr : ∀ b o u, W3.cell? ⟨b, o, none⟩ = some u → (W3.drew.setCell ⟨Q + 4 + 3 * j, 0, none⟩ (.int .u64 (d.st j))).cell? ⟨b, o, none⟩ = some (if Q + 4 + 3 * j = b ∧ 0 = o then .int .u64 (d.st j) else u) := fun b o u h => cell_set W3.drew _ _ _ _ _ _ h
  refine ⟨bl3.drew.setCell (by simp; omega) _, ?_, ?_, ?_, ?_, ?_, ?_, ?_, ?_, ?_⟩
  · rw [← z3]; simp [World.setCell]
  · intro b o u h hne
    have hb : b < Q + 3 + 3 * j := by rw [← hsz]; exact World.block_lt_of_cell? wr _ h
    rw [tr _ _ _ (lift _ _ _ (o1 _ _ _ h))]
    refine some_if (fun e => by exfalso; omega) (fun _ => ?_)
    rw [if_neg (by omega)]
  · rw [tr _ _ _ (lift _ _ _ (o1 _ _ _ hst))]
    refine some_if (fun e => by exfalso; omega) (fun _ => ?_)
    rw [if_pos ⟨rfl, rfl⟩]
  · rw [tr _ _ _ (sp _ _ a2)]
    exact some_if (fun e => by exfalso; omega) (fun _ => rfl)
  · rw [tr _ _ _ (sp _ _ a3)]
    exact some_if (fun e => by exfalso; omega) (fun _ => rfl)
  · rw [tr _ _ _ (sl _ _ b0)]; simp
  · rw [tr _ _ _ (sl _ _ b2)]
    exact some_if (fun e => by exfalso; omega) (fun _ => rfl)
  · rw [tr _ _ _ (sl _ _ b3)]
    exact some_if (fun e => by exfalso; omega) (fun _ => rfl)
  · intro b o hb
    rw [World.frozen?_setCell]
    exact fz3 b o hb

/-- The waiter made and laid into ws: all but its being pushed. -/
theorem Mid.grow {w0 wr w : World} {Q L j : Nat} {d : Dat} (hj : j < L) (hl : Lay w0 Q L j d (chain Q 0 j d.st (fun _ => -7)) wr) (m : Mid w0 Q L j d wr w) (C : Array Value)
    (c0 : C[0]? = some (.pointer none)) (c1 : C[1]? = some (.pointer none)) (c4 : C[4]? = some (pt (Q + 4 + 3 * j))) (c5 : C[5]? = some (.int .u64 (d.T j))) (c6 : C[6]? = some (.int .i64 (d.I j))) :
    Lay w0 Q L (j + 1) d (chain Q 0 j d.st (fun _ => -7)) ((w.setCell ⟨Q + 1, j, none⟩ (pt (Q + 5 + 3 * j))).alloc (.cells C 56)) := by
  have hsz := m.sz
  have tr : ∀ b o u, w.cell? ⟨b, o, none⟩ = some u → ((w.setCell ⟨Q + 1, j, none⟩ (pt (Q + 5 + 3 * j))).alloc (.cells C 56)).cell? ⟨b, o, none⟩ = some (if Q + 1 = b ∧ j = o then pt (Q + 5 + 3 * j) else u) := fun b o u h =>
    cell_alloc _ _ _ _ _ (cell_set _ _ _ _ _ _ _ h)
  have nw : ∀ o u, C[o]? = some u → ((w.setCell ⟨Q + 1, j, none⟩ (pt (Q + 5 + 3 * j))).alloc (.cells C 56)).cell? ⟨Q + 5 + 3 * j, o, none⟩ = some u := fun o u h => cell_new _ _ _ _ _ _ (by simp [hsz]) h
  have ol : ∀ b o u, wr.cell? ⟨b, o, none⟩ = some u → ¬ (b = Q + 2 ∧ o = j) → ¬ (b = Q + 1 ∧ o = j) → ((w.setCell ⟨Q + 1, j, none⟩ (pt (Q + 5 + 3 * j))).alloc (.cells C 56)).cell? ⟨b, o, none⟩ = some u := fun b o u h h1 h2 => by
    rw [tr _ _ _ (m.old b o u h h1), if_neg (by omega)]
  have pvn : ∀ i, i < j → (chain Q 0 j d.st (fun _ => -7)).prev i = (chain Q 0 j d.st (fun _ => -7)).prev i := fun _ _ => rfl
  clear pvn
  refine ⟨(m.bel.setCell (by simp) _).alloc (by simp; omega) _, by simp [hsz]; omega, ol _ _ _ hl.q0 (by omega) (by omega), ol _ _ _ hl.q1 (by omega) (by omega), ol _ _ _ hl.q2 (by omega) (by omega), ?_, ?_, ?_, ?_, ?_, ?_, ?_, ?_, ?_, ?_, ?_⟩
  · intro i hi
    rw [tr _ _ _ (m.old _ _ _ (hl.ws i hi) (by omega))]
    refine some_if (fun e => by rw [if_pos (by omega), show i = j by omega]) (fun e => ?_)
    by_cases hij : i < j
    · rw [if_pos hij, if_pos (by omega)]
    · rw [if_neg hij, if_neg (by omega)]
  · intro i hi
    by_cases hij : i = j
    · subst hij
      rw [tr _ _ _ m.st, if_neg (by omega), if_pos (by omega)]
    · rw [ol _ _ _ (hl.st i hi) (by omega) (by omega)]
      by_cases hlt : i < j
      · rw [if_pos hlt, if_pos (by omega)]
      · rw [if_neg hlt, if_neg (by omega)]
  · intro i hi
    by_cases hij : i = j
    · subst hij
      rw [nw _ _ c0]; simp [chain]
    · exact ol _ _ _ (hl.n0 i (by omega)) (by omega) (by omega)
  · intro i hi
    by_cases hij : i = j
    · subst hij
      rw [nw _ _ c1]; simp [chain]
    · exact ol _ _ _ (hl.n1 i (by omega)) (by omega) (by omega)
  · intro i hi
    by_cases hij : i = j
    · subst hij; exact nw _ _ c4
    · exact ol _ _ _ (hl.n4 i (by omega)) (by omega) (by omega)
  · intro i hi
    by_cases hij : i = j
    · subst hij; exact nw _ _ c5
    · exact ol _ _ _ (hl.n5 i (by omega)) (by omega) (by omega)
  · intro i hi
    by_cases hij : i = j
    · subst hij; exact nw _ _ c6
    · exact ol _ _ _ (hl.n6 i (by omega)) (by omega) (by omega)
  · intro i hi
    by_cases hij : i = j
    · subst hij; rw [tr _ _ _ m.s0, if_neg (by omega)]; rfl
    · exact ol _ _ _ (hl.s0 i (by omega)) (by omega) (by omega)
  · intro i hi
    by_cases hij : i = j
    · subst hij; rw [tr _ _ _ m.s2, if_neg (by omega)]; rfl
    · exact ol _ _ _ (hl.s2 i (by omega)) (by omega) (by omega)
  · intro i hi
    by_cases hij : i = j
    · subst hij; rw [tr _ _ _ m.s3, if_neg (by omega)]
    · exact ol _ _ _ (hl.s3 i (by omega)) (by omega) (by omega)
  · intro b o hb
    rw [frozen_alloc, World.frozen?_setCell]
    exact m.fz b o hb

/-- The three blocks that the law lays ahead of its loop. -/
theorem lay_start (w : World) (L : Nat) (d : Dat) :
    Lay w w.heap.size L 0 d (chain w.heap.size 0 0 d.st (fun _ => -7)) (((w.alloc (.cells #[.pointer none, .pointer none, .int .i64 0] 26)).alloc (.cells (madeCells #[.pointer none] L) 24)).alloc (.cells (madeCells #[.int .u64 0] L) 29)) := by
  have q : ∀ o u, (#[Value.pointer none, .pointer none, .int .i64 0] : Array Value)[o]? = some u → (((w.alloc (.cells #[.pointer none, .pointer none, .int .i64 0] 26)).alloc (.cells (madeCells #[.pointer none] L) 24)).alloc (.cells (madeCells #[.int .u64 0] L) 29)).cell? ⟨w.heap.size, o, none⟩ = some u := fun o u h =>
    cell_alloc _ _ _ _ _ (cell_alloc _ _ _ _ _ (cell_new _ _ _ _ _ _ rfl h))
  have mk : ∀ (z : Value) (i : Nat), i < L → (madeCells #[z] L)[i]? = some z := fun z i hi => by
    rw [← Array.getElem?_toList, toList_madeCells_one]; simp [hi]
  refine ⟨(((Below.refl _ _).alloc (Nat.le_refl _) _).alloc (by simp) _).alloc (by simp; omega) _, by simp, q 0 _ rfl, q 1 _ rfl, q 2 _ rfl, ?_, ?_, ?_, ?_, ?_, ?_, ?_, ?_, ?_, ?_, ?_⟩
  · intro i hi
    rw [cell_alloc _ _ _ _ _ (cell_new _ _ _ _ _ _ (by simp) (mk (.pointer none) i hi))]; simp
  · intro i hi
    rw [cell_new _ _ _ _ _ _ (by simp) (mk (.int .u64 0) i hi)]; simp
  all_goals first | (intro i hi; omega) | skip
  intro b o hb
  rw [frozen_alloc, frozen_alloc, frozen_alloc]
  unfold World.frozen?
  have : w.heap[b]? = none := by simp; omega
  rw [this]
end Go.Proofs.Ybulkims
