/-
  One message more in a link's queue: what it does to memory.
-/
import Derived.Test.YbulkitsOldest
namespace Go.Proofs.Ybulkits
open Go.RowKit
set_option linter.unusedVariables false
set_option linter.unusedSimpArgs false

variable {w : World} {base B Bm sent : Nat} {S : Nat → Option Lk} {A : List Nat}

structure App (w wc : World) (base B Bm p sent : Nat) (k k' : Lk) (i : Int) : Prop where
  x : k'.x = k.x
  held : k'.held = k.held
  q : k'.q = k.q ++ [sent]
  pos : 0 < k'.cap
  ck : wc.heap[k.x]? = some (.cells #[.string (site (p / 3)), .string (site (p % 3)), .slice (some ⟨k'.g, 3 * k'.o, none⟩) (k.q.length + 1) k'.cap, .bool k.held, .int .i64 i] 56 (0, 0))
  ap : Apart w wc B k
  net : wc.heap[B]? = w.heap[B]?
  bm : wc.heap[Bm]? = w.heap[Bm]?
  row : RowIs wc base p k'
  len : k'.q.length ≤ k'.cap
  capm : k'.cap ≤ maxLen
  rg : (0 < k.cap ∧ k'.g = k.g) ∨ w.heap.size ≤ k'.g
  below : Below base w wc
  kept : Kept w wc
  size : w.heap.size ≤ wc.heap.size

theorem App.lk {wc : World} {p : Nat} {k k' : Lk} {i : Int} (h : App w wc base B Bm p sent k k' i) (hb : base ≤ k.x) : LkIs wc base p k' := by
  refine ⟨by rw [h.x]; exact hb, ⟨i, ?_⟩, fun e => by have := h.pos; omega, h.len, h.capm, fun _ => h.row⟩
  have : qv k' = .slice (some ⟨k'.g, 3 * k'.o, none⟩) (k.q.length + 1) k'.cap := by
    unfold qv
    rw [if_neg (by have := h.pos; omega), h.q]
    simp
  rw [this, h.x, h.held]
  exact h.ck

theorem set3in {cur : Array Value} {s : Nat} (a b c : Value) (hs : s + 2 < cur.size) : (((cur.setIfInBounds s a).setIfInBounds (s + 1) b).setIfInBounds (s + 2) c)[s]? = some a ∧ (((cur.setIfInBounds s a).setIfInBounds (s + 1) b).setIfInBounds (s + 2) c)[s + 1]? = some b ∧ (((cur.setIfInBounds s a).setIfInBounds (s + 1) b).setIfInBounds (s + 2) c)[s + 2]? = some c := by
  refine ⟨?_, ?_, ?_⟩
  · rw [Array.getElem?_setIfInBounds, if_neg (by omega), Array.getElem?_setIfInBounds, if_neg (by omega), Array.getElem?_setIfInBounds, if_pos rfl, if_pos (by omega)]
  · rw [Array.getElem?_setIfInBounds, if_neg (by omega), Array.getElem?_setIfInBounds, if_pos rfl, if_pos (by simp; omega)]
  · rw [Array.getElem?_setIfInBounds, if_pos rfl, if_pos (by simp; omega)]
theorem set3out {cur : Array Value} {s j : Nat} (a b c : Value) (h : j < s ∨ s + 3 ≤ j) : (((cur.setIfInBounds s a).setIfInBounds (s + 1) b).setIfInBounds (s + 2) c)[j]? = cur[j]? := by
  rw [Array.getElem?_setIfInBounds, if_neg (by omega), Array.getElem?_setIfInBounds, if_neg (by omega), Array.getElem?_setIfInBounds, if_neg (by omega)]

/-- Where there is room. -/
theorem app_room {p : Nat} {k : Lk} {i : Int} {q0 : Value} {E : Obj} {cur : Array Value} (h : NetIs w base B Bm sent S A) (hp : p < 9) (hS : S p = some k) (hb : base ≤ w.heap.size) (hroom : k.q.length + 1 ≤ k.cap)
    (ck : w.heap[k.x]? = some (.cells #[.string (site (p / 3)), .string (site (p % 3)), q0, .bool k.held, .int .i64 i] 56 (0, 0))) :
    App w ((((w.alloc E).drew).setCells k.g (3 * k.o + k.q.length * 3) [.int .i64 p, .int .i64 sent, .int .i64 sent]).setCell ⟨k.x, 2, none⟩ (.slice (some ⟨k.g, 3 * k.o, none⟩) (k.q.length + 1) k.cap)) base B Bm p sent k { k with q := k.q ++ [sent] } i := by
  have hlk := h.link p k hp hS
  obtain ⟨bg, cur, eg, hsz, hrow⟩ := hlk.row (by omega)
  obtain ⟨rdy, hhp⟩ := h.hp
  have hgx : k.g ≠ k.x := ne_tag eg ck (by decide)
  have hxl := (Array.getElem?_eq_some_iff.1 ck).1
  have hgl := (Array.getElem?_eq_some_iff.1 eg).1
  have hBl := (Array.getElem?_eq_some_iff.1 hhp.net).1
  have hBx : B ≠ k.x := ne_tag hhp.net ck (by decide)
  have hBg : B ≠ k.g := ne_tag hhp.net eg (by decide)
  obtain ⟨l0, cl0, em, _⟩ := h.map
  have hml := (Array.getElem?_eq_some_iff.1 em).1
  have hmx : Bm ≠ k.x := by intro e'; rw [e', ck] at em; simp at em
  have hmg : Bm ≠ k.g := by intro e'; rw [e', eg] at em; simp at em
  have al : ∀ b, b < w.heap.size → ((w.alloc E).drew).heap[b]? = w.heap[b]? := fun b hb' => Below.heap_alloc _ _ _ hb'
  have o1 : ∀ b, b < w.heap.size → b ≠ k.x → b ≠ k.g → ((((w.alloc E).drew).setCells k.g (3 * k.o + k.q.length * 3) [.int .i64 p, .int .i64 sent, .int .i64 sent]).setCell ⟨k.x, 2, none⟩ (.slice (some ⟨k.g, 3 * k.o, none⟩) (k.q.length + 1) k.cap)).heap[b]? = w.heap[b]? := fun b hb' g1 g2 =>
    (Below.heap_setCell _ _ _ _ g1).trans ((Below.heap_setCell _ _ _ _ g2).trans ((Below.heap_setCell _ _ _ _ g2).trans ((Below.heap_setCell _ _ _ _ g2).trans (al b hb'))))
  have orow : ((((w.alloc E).drew).setCells k.g (3 * k.o + k.q.length * 3) [.int .i64 p, .int .i64 sent, .int .i64 sent]).setCell ⟨k.x, 2, none⟩ (.slice (some ⟨k.g, 3 * k.o, none⟩) (k.q.length + 1) k.cap)).heap[k.g]? = some (.cells (((cur.setIfInBounds (3 * k.o + k.q.length * 3) (.int .i64 p)).setIfInBounds (3 * k.o + k.q.length * 3 + 1) (.int .i64 sent)).setIfInBounds (3 * k.o + k.q.length * 3 + 2) (.int .i64 sent)) 58 (0, 0)) :=
    (Below.heap_setCell _ _ _ _ hgx).trans (set_same _ _ (set_same _ _ (set_same _ _ ((al _ hgl).trans eg))))
  have ox : ((((w.alloc E).drew).setCells k.g (3 * k.o + k.q.length * 3) [.int .i64 p, .int .i64 sent, .int .i64 sent]).setCell ⟨k.x, 2, none⟩ (.slice (some ⟨k.g, 3 * k.o, none⟩) (k.q.length + 1) k.cap)).heap[k.x]? = some (.cells #[.string (site (p / 3)), .string (site (p % 3)), .slice (some ⟨k.g, 3 * k.o, none⟩) (k.q.length + 1) k.cap, .bool k.held, .int .i64 i] 56 (0, 0)) := by
    refine (set_same 2 _ (cs := #[.string (site (p / 3)), .string (site (p % 3)), q0, .bool k.held, .int .i64 i]) ?_).trans (by rfl)
    exact (Below.heap_setCell _ _ _ _ (Ne.symm hgx)).trans ((Below.heap_setCell _ _ _ _ (Ne.symm hgx)).trans ((Below.heap_setCell _ _ _ _ (Ne.symm hgx)).trans ((al _ hxl).trans ck)))
  refine ⟨rfl, rfl, rfl, by simp only; omega, ox, fun b cs ty e _ g2 g3 => (o1 b (Array.getElem?_eq_some_iff.1 e).1 g2 (g3 (by omega))).trans e, o1 B hBl hBx hBg, o1 Bm hml hmx hmg, ⟨bg, _, orow, ?_, fun j id hj => ?_⟩, by simp; omega, hlk.capm, .inl ⟨by omega, rfl⟩, ?_, fun b cs ty e _ _ a3 a4 => (o1 b (Array.getElem?_eq_some_iff.1 e).1 (ne_tag e ck a3) (ne_tag e eg a4)).trans e, ?_⟩
  · simpa using hsz
  · by_cases hjl : j < k.q.length
    · simp only at hj
      rw [List.getElem?_append_left hjl] at hj
      obtain ⟨a1, a2, a3⟩ := hrow j id hj
      exact ⟨(set3out _ _ _ (by simp only; omega)).trans a1, (set3out _ _ _ (by simp only; omega)).trans a2, (set3out _ _ _ (by simp only; omega)).trans a3⟩
    · have hj' : j = k.q.length := by
        have := (List.getElem?_eq_some_iff.1 hj).1
        simp at this; omega
      subst hj'
      obtain rfl : sent = id := by simpa using hj
      obtain ⟨a1, a2, a3⟩ := set3in (cur := cur) (s := 3 * k.o + k.q.length * 3) (.int .i64 p) (.int .i64 sent) (.int .i64 sent) (by omega)
      simp only [show 3 * (k.o + k.q.length) = 3 * k.o + k.q.length * 3 by omega]
      exact ⟨a1, a2, a3⟩
  · refine (((((Below.refl base w).alloc hb E).drew.setCell (show base ≤ (⟨k.g, 3 * k.o + k.q.length * 3, none⟩ : Addr).block from bg) _).setCell (show base ≤ (⟨k.g, 3 * k.o + k.q.length * 3 + 1, none⟩ : Addr).block from bg) _).setCell (show base ≤ (⟨k.g, 3 * k.o + k.q.length * 3 + 1 + 1, none⟩ : Addr).block from bg) _).setCell (show base ≤ (⟨k.x, 2, none⟩ : Addr).block from hlk.bx) _
  · simp [World.setCells, World.setCell]

/-- Where the row grows. -/
theorem app_grow {p : Nat} {k : Lk} {i : Int} {q0 : Value} {E : Obj} {w5 : World} {v : Value} {olds : List Value} (h : NetIs w base B Bm sent S A) (hp : p < 9) (hS : S p = some k) (hb : base ≤ w.heap.size)
    (ck : w.heap[k.x]? = some (.cells #[.string (site (p / 3)), .string (site (p % 3)), q0, .bool k.held, .int .i64 i] 56 (0, 0)))
    (hol : ∀ (j id : Nat), k.q[j]? = some id → olds[3 * j]? = some (.int .i64 p) ∧ olds[3 * j + 1]? = some (.int .i64 id) ∧ olds[3 * j + 2]? = some (.int .i64 id)) (hoe : olds.length = k.q.length * 3)
    (ho : w5.ownsRow ((w.alloc E).drew).heap.size 58 3 v (k.q.length + 1) (olds ++ [.int .i64 p, .int .i64 sent, .int .i64 sent])) (hg : ((w.alloc E).drew).grownBy w5 none) :
    ∃ g cap, v = .slice (some ⟨g, 0, none⟩) (k.q.length + 1) cap ∧ App w (w5.setCell ⟨k.x, 2, none⟩ (.slice (some ⟨g, 0, none⟩) (k.q.length + 1) cap)) base B Bm p sent k { k with g := g, o := 0, cap := cap, q := k.q ++ [sent] } i := by
  have hlk := h.link p k hp hS
  rcases ho.2 with ⟨_, h0⟩ | ⟨g, cap, cur, rfl, hge, hcu, hcap, hcm, hcs, hck⟩
  · omega
  refine ⟨g, cap, rfl, ?_⟩
  obtain ⟨rdy, hhp⟩ := h.hp
  have hxl := (Array.getElem?_eq_some_iff.1 ck).1
  have hBl := (Array.getElem?_eq_some_iff.1 hhp.net).1
  have hBx : B ≠ k.x := ne_tag hhp.net ck (by decide)
  obtain ⟨l0, cl0, em, _⟩ := h.map
  have hml := (Array.getElem?_eq_some_iff.1 em).1
  have hmx : Bm ≠ k.x := by intro e'; rw [e', ck] at em; simp at em
  have hsz1 : ((w.alloc E).drew).heap.size = w.heap.size + 1 := by show (w.alloc E).heap.size = _; simp
  rw [hsz1] at hge
  have al : ∀ b, b < w.heap.size → w5.heap[b]? = w.heap[b]? := fun b hb' => (hg.block b (by rw [hsz1]; omega) (by simp)).trans (Below.heap_alloc _ _ _ hb')
  have o1 : ∀ b, b < w.heap.size → b ≠ k.x → (w5.setCell ⟨k.x, 2, none⟩ (.slice (some ⟨g, 0, none⟩) (k.q.length + 1) cap)).heap[b]? = w.heap[b]? := fun b hb' g1 => (Below.heap_setCell _ _ _ _ g1).trans (al b hb')
  have hgx : g ≠ k.x := by omega
  have ox : (w5.setCell ⟨k.x, 2, none⟩ (.slice (some ⟨g, 0, none⟩) (k.q.length + 1) cap)).heap[k.x]? = some (.cells #[.string (site (p / 3)), .string (site (p % 3)), .slice (some ⟨g, 0, none⟩) (k.q.length + 1) cap, .bool k.held, .int .i64 i] 56 (0, 0)) :=
    (set_same 2 _ (cs := #[.string (site (p / 3)), .string (site (p % 3)), q0, .bool k.held, .int .i64 i]) ((al _ hxl).trans ck)).trans (by rfl)
  have cg : ∀ t, t < (k.q.length + 1) * 3 → cur[t]? = (olds ++ [.int .i64 p, .int .i64 sent, .int .i64 sent])[t]? := fun t ht => by
    rw [← hck, List.getElem?_take_of_lt ht]; simp
  refine ⟨rfl, rfl, rfl, by simp only; omega, ox, fun b cs ty e _ g2 _ => (o1 b (Array.getElem?_eq_some_iff.1 e).1 g2).trans e, o1 B hBl hBx, o1 Bm hml hmx, ⟨by simp only; omega, cur, (Below.heap_setCell _ _ _ _ hgx).trans hcu, by simp only; omega, fun j id hj => ?_⟩, by simp; omega, hcm, .inr (by simp only; omega), ?_, fun b cs ty e _ _ a3 a4 => (o1 b (Array.getElem?_eq_some_iff.1 e).1 (ne_tag e ck a3)).trans e, ?_⟩
  · simp only [Nat.zero_add]
    by_cases hjl : j < k.q.length
    · simp only at hj
      rw [List.getElem?_append_left hjl] at hj
      obtain ⟨a1, a2, a3⟩ := hol j id hj
      exact ⟨by rw [cg _ (by omega), List.getElem?_append_left (by omega)]; exact a1, by rw [cg _ (by omega), List.getElem?_append_left (by omega)]; exact a2, by rw [cg _ (by omega), List.getElem?_append_left (by omega)]; exact a3⟩
    · have hj' : j = k.q.length := by
        have := (List.getElem?_eq_some_iff.1 hj).1
        simp at this; omega
      subst hj'
      obtain rfl : sent = id := by simpa using hj
      refine ⟨?_, ?_, ?_⟩
      · rw [cg _ (by omega), List.getElem?_append_right (by omega), show 3 * k.q.length - olds.length = 0 by omega]; rfl
      · rw [cg _ (by omega), List.getElem?_append_right (by omega), show 3 * k.q.length + 1 - olds.length = 1 by omega]; rfl
      · rw [cg _ (by omega), List.getElem?_append_right (by omega), show 3 * k.q.length + 2 - olds.length = 2 by omega]; rfl
  · exact (Below.grown (((Below.refl base w).alloc hb E).drew) hg (by rw [hsz1]; omega) (fun j hj => by cases hj)).setCell (show base ≤ (⟨k.x, 2, none⟩ : Addr).block from hlk.bx) _
  · have := hg.size
    rw [hsz1] at this
    simp [World.setCell]
    omega
end Go.Proofs.Ybulkits
