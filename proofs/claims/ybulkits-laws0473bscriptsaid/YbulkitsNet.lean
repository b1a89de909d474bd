/-
  The network in memory.
-/
import Derived.Test.YbulkitsSite
namespace Go.Proofs.Ybulkits
open Go.RowKit
set_option linter.unusedVariables false
set_option linter.unusedSimpArgs false

/-- A link: its block, its queue's row (block, first element, room), the numbers queued, held back or not. -/
structure Lk where
  x : Nat
  g : Nat
  o : Nat
  cap : Nat
  q : List Nat
  held : Bool

def qv (k : Lk) : Value := if k.cap = 0 then .slice none 0 0 else .slice (some ⟨k.g, 3 * k.o, none⟩) k.q.length k.cap
/-- The cells of a queue's row. -/
def RowIs (w : World) (base p : Nat) (k : Lk) : Prop := base ≤ k.g ∧ ∃ cur : Array Value, w.heap[k.g]? = some (.cells cur 58 (0, 0)) ∧ cur.size = 3 * (k.o + k.cap) ∧
  ∀ (j id : Nat), k.q[j]? = some id → cur[3 * (k.o + j)]? = some (.int .i64 (p : Nat)) ∧ cur[3 * (k.o + j) + 1]? = some (.int .i64 (id : Nat)) ∧ cur[3 * (k.o + j) + 2]? = some (.int .i64 (id : Nat))
structure LkIs (w : World) (base p : Nat) (k : Lk) : Prop where
  bx : base ≤ k.x
  cells : ∃ i : Int, w.heap[k.x]? = some (.cells #[.string (site (p / 3)), .string (site (p % 3)), qv k, .bool k.held, .int .i64 i] 56 (0, 0))
  nil : k.cap = 0 → k.q = []
  len : k.q.length ≤ k.cap
  capm : k.cap ≤ maxLen
  row : 0 < k.cap → RowIs w base p k

structure NetIs (w : World) (base B Bm sent : Nat) (S : Nat → Option Lk) (A : List Nat) : Prop where
  hp : ∃ rdy, Hp w base B (.func (.func 14) #[] #[]) (.map (some Bm)) (.int .i64 sent) rdy A
  good : ∃ K, Good w K A ∧ ∀ (p : Nat) (k : Lk) (n : Nat) (r : List Nat), p < 9 → S p = some k → k.q = n :: r → K k.x = n
  map : ∃ l clock, w.heap[Bm]? = some (.map (ents l).toArray clock) ∧ Nine l ∧ (l.map (·.1)).Nodup ∧ ∀ p, p < 9 → (findL l p 0).map (·.2) = (S p).map (·.x)
  bm : base ≤ Bm
  link : ∀ (p : Nat) (k : Lk), p < 9 → S p = some k → LkIs w base p k
  rinj : ∀ (p : Nat) (k : Lk) (p' : Nat) (k' : Lk), p < 9 → p' < 9 → S p = some k → S p' = some k' → 0 < k.cap → 0 < k'.cap → k.g = k'.g → p = p'
  mem : ∀ x, x ∈ A ↔ ∃ (p : Nat) (k : Lk), p < 9 ∧ S p = some k ∧ k.x = x ∧ k.held = false ∧ k.q ≠ []

/-- Blocks of other kinds stay. -/
def Kept (w w' : World) : Prop := ∀ (b : Nat) (cs : Array Value) (ty : TypeId), w.heap[b]? = some (.cells cs ty (0, 0)) → ty ≠ 49 → ty ≠ 50 → ty ≠ 56 → ty ≠ 58 → w'.heap[b]? = some (.cells cs ty (0, 0))
/-- Nothing that lay there has turned. -/
structure Gr (w w' : World) : Prop where
  size : w.heap.size ≤ w'.heap.size
  same : ∀ b, b < w.heap.size → w'.heap[b]? = w.heap[b]?

variable {w : World} {base B Bm sent : Nat} {S : Nat → Option Lk} {A : List Nat}

theorem Gr.at {w w' : World} (g : Gr w w') {b : Nat} {o : Obj} (h : w.heap[b]? = some o) : w'.heap[b]? = some o := (g.same b (Array.getElem?_eq_some_iff.1 h).1).trans h
theorem Gr.refl (w : World) : Gr w w := ⟨Nat.le_refl _, fun _ _ => rfl⟩
theorem Gr.alloc {w w1 : World} (g : Gr w w1) (o : Obj) : Gr w (w1.alloc o) := ⟨by have := g.size; simp; omega, fun b hb => (Below.heap_alloc _ _ _ (Nat.lt_of_lt_of_le hb g.size)).trans (g.same b hb)⟩
theorem Gr.drewN {w w1 : World} (g : Gr w w1) (m : Nat) : Gr w (w1.drewN m) := ⟨g.size, g.same⟩
theorem Gr.kept {w w' : World} (g : Gr w w') : Kept w w' := fun b cs ty h _ _ _ _ => g.at h
theorem Kept.trans {w w1 w2 : World} (h : Kept w w1) (k : Kept w1 w2) : Kept w w2 := fun b cs ty e a1 a2 a3 a4 => k b cs ty (h b cs ty e a1 a2 a3 a4) a1 a2 a3 a4
theorem Kept.refl (w : World) : Kept w w := fun _ _ _ h _ _ _ _ => h

/-- Every block of cells stays. -/
def Gc (w w' : World) : Prop := ∀ (b : Nat) (cs : Array Value) (ty : TypeId), w.heap[b]? = some (.cells cs ty (0, 0)) → w'.heap[b]? = some (.cells cs ty (0, 0))
theorem Gr.gc {w w' : World} (g : Gr w w') : Gc w w' := fun b cs ty h => g.at h
theorem ownsRow_gc {w w' : World} {b0 k : Nat} {v : Value} {xs : List Value} {t : TypeId} {s : Nat} (h : w.ownsRow b0 t s v k xs) (g : Gc w w') : w'.ownsRow b0 t s v k xs := by
  refine ⟨h.1, ?_⟩
  rcases h.2 with h' | ⟨r, cap, cur, e1, e2, e3, e4⟩
  · exact .inl h'
  · exact .inr ⟨r, cap, cur, e1, e2, g _ _ _ e3, e4⟩
theorem Hp.gc {w' : World} {n0 n1 n2 rdy : Value} (h : Hp w base B n0 n1 n2 rdy A) (g : Gc w w') : Hp w' base B n0 n1 n2 rdy A :=
  ⟨g _ _ _ h.net, h.hB, ownsRow_gc h.row g, fun i x hx => by obtain ⟨b, a, c, q, hh, e⟩ := h.link i x hx; exact ⟨b, a, c, q, hh, g _ _ _ e⟩, h.few⟩
theorem KeyAt.gc {w' : World} {x k : Nat} (h : KeyAt w x k) (g : Gc w w') : KeyAt w' x k := by
  obtain ⟨a, b, r, o, len, cap, hh, i, cur, e1, e2, e3, e4⟩ := h
  exact ⟨a, b, r, o, len, cap, hh, i, cur, g _ _ _ e1, e2, g _ _ _ e3, e4⟩
theorem Good.gc {w' : World} {K : Nat → Nat} (h : Good w K A) (g : Gc w w') : Good w' K A := ⟨fun k x hk hx => (h.keys k x hk hx).gc g, h.ord⟩
theorem RowIs.gc {w' : World} {p : Nat} {k : Lk} (h : RowIs w base p k) (g : Gc w w') : RowIs w' base p k := by
  obtain ⟨b, cur, e, r⟩ := h
  exact ⟨b, cur, g _ _ _ e, r⟩
theorem LkIs.gc {w' : World} {p : Nat} {k : Lk} (h : LkIs w base p k) (g : Gc w w') : LkIs w' base p k :=
  ⟨h.bx, by obtain ⟨i, e⟩ := h.cells; exact ⟨i, g _ _ _ e⟩, h.nil, h.len, h.capm, fun c => (h.row c).gc g⟩
/-- The map's block laid anew. -/
theorem Gc.map {w : World} {b : Nat} {es : Array MapEntry} {c : Nat} (hb : w.heap[b]? = some (.map es c)) (o : Obj) : Gc w { w with heap := w.heap.setIfInBounds b o } := fun d cs ty h => by
  have hne : b ≠ d := by rintro rfl; rw [hb] at h; simp at h
  simp [Array.getElem?_setIfInBounds, hne, h]
theorem Gc.trans {w w1 w2 : World} (g : Gc w w1) (k : Gc w1 w2) : Gc w w2 := fun b cs ty h => k _ _ _ (g _ _ _ h)
theorem Gc.kept {w w' : World} (g : Gc w w') : Kept w w' := fun b cs ty h _ _ _ _ => g b cs ty h
theorem below_map {base : Nat} {w w1 : World} (h : Below base w w1) {b : Nat} (hb : base ≤ b) (o : Obj) : Below base w { w1 with heap := w1.heap.setIfInBounds b o } :=
  ⟨h.os, h.tape, h.output, by simpa using h.size, fun k hk => by simp only [Array.getElem?_setIfInBounds]; rw [if_neg (by omega)]; exact h.block k hk⟩
theorem NetIs.gr {w' : World} (h : NetIs w base B Bm sent S A) (g : Gr w w') : NetIs w' base B Bm sent S A :=
  ⟨by obtain ⟨r, e⟩ := h.hp; exact ⟨r, e.gc g.gc⟩, by obtain ⟨K, a, b⟩ := h.good; exact ⟨K, a.gc g.gc, b⟩, by obtain ⟨l, c, e, r⟩ := h.map; exact ⟨l, c, g.at e, r⟩, h.bm, fun p k hp hk => (h.link p k hp hk).gc g.gc, h.rinj, h.mem⟩

/-! ### the list behind the map -/
theorem findL_shift : ∀ (l : List (Nat × Nat × Nat)) (p i : Nat), findL l p (i + 1) = (findL l p i).map fun y => (y.1 + 1, y.2)
  | [], _, _ => rfl
  | x :: r, p, i => by
    unfold findL
    split
    · rfl
    · exact findL_shift r p (i + 1)
theorem findL_snoc {p q L c : Nat} : ∀ (l : List (Nat × Nat × Nat)) (i : Nat), findL l p i = none → (findL (l ++ [(p, L, c)]) q i).map (·.2) = if q = p then some L else (findL l q i).map (·.2)
  | [], i, _ => by
    simp only [List.nil_append, findL]
    split <;> simp_all
  | x :: r, i, h => by
    unfold findL at h
    split at h
    · cases h
    · rename_i hne
      simp only [List.cons_append, findL]
      by_cases hq : q = x.1
      · simp only [if_pos hq, Option.map_some]
        rw [if_neg (by rintro rfl; exact hne hq)]
      · simp only [if_neg hq]
        exact findL_snoc r (i + 1) h
theorem findL_mem {p : Nat} : ∀ (l : List (Nat × Nat × Nat)) (i : Nat), findL l p i = none ↔ p ∉ l.map (·.1)
  | [], i => by simp [findL]
  | x :: r, i => by
    unfold findL
    by_cases h : p = x.1
    · simp [h]
    · rw [if_neg h, findL_mem r (i + 1), List.map_cons, List.mem_cons]
      exact ⟨fun g e => e.elim h g, fun g e => g (.inr e)⟩
theorem findL_erase {p q j L : Nat} : ∀ (l : List (Nat × Nat × Nat)), (l.map (·.1)).Nodup → findL l p 0 = some (j, L) → (findL (l.eraseIdx j) q 0).map (·.2) = if q = p then none else (findL l q 0).map (·.2)
  | [], _, h => by simp [findL] at h
  | x :: r, nd, h => by
    rw [List.map_cons] at nd
    have nd' := List.nodup_cons.1 nd
    unfold findL at h
    split at h
    · rename_i hp
      simp only [Option.some.injEq, Prod.mk.injEq] at h
      obtain ⟨rfl, rfl⟩ := h
      simp only [List.eraseIdx_cons_zero]
      by_cases hq : q = p
      · subst hq
        rw [if_pos rfl, hp]
        have := (findL_mem (p := x.1) r 0).2 nd'.1
        rw [this]; rfl
      · rw [if_neg hq]
        conv => rhs; unfold findL
        rw [if_neg (by rw [← hp]; exact hq), Nat.zero_add, findL_shift, Option.map_map]
        rfl
    · rename_i hp
      rw [findL_shift] at h
      obtain ⟨y, hy, e⟩ := Option.map_eq_some_iff.1 h
      simp only [Prod.mk.injEq] at e
      obtain ⟨rfl, rfl⟩ := e
      have ih := findL_erase (q := q) r nd'.2 (j := y.1) (L := y.2) hy
      simp only [List.eraseIdx_cons_succ, findL]
      by_cases hq : q = x.1
      · simp only [if_pos hq, Option.map_some]
        rw [if_neg (by rintro rfl; exact hp hq)]
      · simp only [if_neg hq, Nat.zero_add, findL_shift, Option.map_map]
        exact ih
theorem nodup_erase {j : Nat} {l : List (Nat × Nat × Nat)} (h : (l.map (·.1)).Nodup) : ((l.eraseIdx j).map (·.1)).Nodup := (List.Sublist.map _ (List.eraseIdx_sublist l j)).nodup h
theorem nine_erase {j : Nat} {l : List (Nat × Nat × Nat)} (h : Nine l) : Nine (l.eraseIdx j) := fun x hx => h x ((List.eraseIdx_sublist l j).mem hx)
/-- Two pairs with one name are one pair. -/
theorem site_inj {p q : Nat} (hp : p < 9) (hq : q < 9) (h1 : site (p / 3) = site (q / 3)) (h2 : site (p % 3) = site (q % 3)) : p = q := by
  have key : ∀ {a b : Nat}, a < 3 → b < 3 → site a = site b → a = b := by
    intro a b ha hb h
    rcases (show a = 0 ∨ a = 1 ∨ a = 2 by omega) with rfl | rfl | rfl <;> rcases (show b = 0 ∨ b = 1 ∨ b = 2 by omega) with rfl | rfl | rfl <;> first | rfl | (exact absurd h (by decide))
  have := key (by omega) (by omega) h1
  have := key (by omega) (by omega) h2
  omega
theorem NetIs.xinj (h : NetIs w base B Bm sent S A) {p q : Nat} {k k' : Lk} (hp : p < 9) (hq : q < 9) (e : S p = some k) (e' : S q = some k') (hx : k.x = k'.x) : p = q := by
  obtain ⟨i, c⟩ := (h.link p k hp e).cells
  obtain ⟨i', c'⟩ := (h.link q k' hq e').cells
  rw [hx, c'] at c
  simp at c
  exact site_inj hp hq c.1.symm c.2.1.symm
end Go.Proofs.Ybulkits
