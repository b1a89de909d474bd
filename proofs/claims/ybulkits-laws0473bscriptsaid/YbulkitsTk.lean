/-
  What taking the first message off does to memory.
-/
import Derived.Test.YbulkitsLetGo
namespace Go.Proofs.Ybulkits
open Go.RowKit
set_option linter.unusedVariables false
set_option linter.unusedSimpArgs false

variable {w : World} {base B Bm sent : Nat} {S : Nat → Option Lk} {A : List Nat}

/-- The network's own blocks stay. -/
def Gq (w w' : World) : Prop := ∀ (b : Nat) (cs : Array Value) (ty : TypeId), ty = 49 ∨ ty = 50 ∨ ty = 56 ∨ ty = 58 → w.heap[b]? = some (.cells cs ty (0, 0)) → w'.heap[b]? = some (.cells cs ty (0, 0))
theorem NetIs.gq {w' : World} (h : NetIs w base B Bm sent S A) (g : Gq w w') (hm : w'.heap[Bm]? = w.heap[Bm]?) : NetIs w' base B Bm sent S A := by
  obtain ⟨rdy, hhp⟩ := h.hp
  have hhp' : Hp w' base B (.func (.func 14) #[] #[]) (.map (some Bm)) (.int .i64 sent) rdy A := ⟨g _ _ _ (.inl rfl) hhp.net, hhp.hB, ⟨hhp.row.1, by
    rcases hhp.row.2 with h' | ⟨r, cap, cur, e1, e2, e3, e4⟩
    · exact .inl h'
    · exact .inr ⟨r, cap, cur, e1, e2, g _ _ _ (.inr (.inl rfl)) e3, e4⟩⟩, fun i x hx => by obtain ⟨b, a, c, q, hh, e⟩ := hhp.link i x hx; exact ⟨b, a, c, q, hh, g _ _ _ (.inr (.inr (.inl rfl))) e⟩, hhp.few⟩
  refine ⟨⟨rdy, hhp'⟩, ?_, MapIs.gc h.map hm, h.bm, fun p k hp hk => ?_, h.rinj, h.mem⟩
  · obtain ⟨K, a, b⟩ := h.good
    refine ⟨K, ⟨fun k x hk hx => ?_, a.ord⟩, b⟩
    obtain ⟨a1, a2, a3, a4, a5, a6, a7, a8, a9, e1, e2, e3, e4⟩ := a.keys k x hk hx
    exact ⟨a1, a2, a3, a4, a5, a6, a7, a8, a9, g _ _ _ (.inr (.inr (.inl rfl))) e1, e2, g _ _ _ (.inr (.inr (.inr rfl))) e3, e4⟩
  · have hl := h.link p k hp hk
    exact ⟨hl.bx, by obtain ⟨i, e⟩ := hl.cells; exact ⟨i, g _ _ _ (.inr (.inr (.inl rfl))) e⟩, hl.nil, hl.len, hl.capm, fun c => by
      obtain ⟨bg, cur, e1, e2⟩ := hl.row c
      exact ⟨bg, cur, g _ _ _ (.inr (.inr (.inr rfl))) e1, e2⟩⟩
theorem Gq.set31 {b : Nat} {cs : Array Value} (h : w.heap[b]? = some (.cells cs 31 (0, 0))) (o : Nat) (v : Value) : Gq w (w.setCell ⟨b, o, none⟩ v) := fun d c ty ht e =>
  (Below.heap_setCell _ _ _ _ (ne_tag e h (by rcases ht with rfl | rfl | rfl | rfl <;> decide))).trans e
theorem Gq.trans {w w1 w2 : World} (g : Gq w w1) (k : Gq w1 w2) : Gq w w2 := fun b cs ty ht h => k _ _ _ ht (g _ _ _ ht h)
theorem map_ne31 {b : Nat} {cs : Array Value} (h : MapIs w Bm S) (hb : w.heap[b]? = some (.cells cs 31 (0, 0))) (o : Nat) (v : Value) : (w.setCell ⟨b, o, none⟩ v).heap[Bm]? = w.heap[Bm]? := Below.heap_setCell _ _ _ _ (by
  obtain ⟨l, c, em, _⟩ := h
  intro e
  have e' : Bm = b := e
  rw [e', hb] at em
  simp at em)

/-- The world once the first message has been taken off. -/
abbrev tk (w : World) (g x o p n : Nat) (sl : Value) : World :=
  (((((w.setCell ⟨g, o, none⟩ (.int .i64 0)).setCell ⟨g, o + 1, none⟩ (.int .i64 0)).setCell ⟨g, o + 2, none⟩ (.int .i64 0)).setCell ⟨x, 2, none⟩ sl).alloc (.cells #[.int .i64 0, .int .i64 0] 31)).alloc (.cells #[.int .i64 p, .int .i64 n] 31)

structure Tk (w : World) (base B Bm sent p n : Nat) (k : Lk) (A : List Nat) (W : World) (sl rdy : Value) (i : Int) (cur : Array Value) (o : Nat) : Prop where
  ap : Apart w W B k
  hp : Hp W base B (.func (.func 14) #[] #[]) (.map (some Bm)) (.int .i64 sent) rdy A
  ck : W.heap[k.x]? = some (.cells #[.string (site (p / 3)), .string (site (p % 3)), sl, .bool false, .int .i64 i] 56 (0, 0))
  bm : W.heap[Bm]? = w.heap[Bm]?
  below : Below base w W
  kept : Kept w W
  z : W.heap[w.heap.size]? = some (.cells #[.int .i64 0, .int .i64 0] 31 (0, 0))
  m : W.heap[w.heap.size + 1]? = some (.cells #[.int .i64 p, .int .i64 n] 31 (0, 0))
  row : W.heap[k.g]? = some (.cells (((cur.setIfInBounds o (.int .i64 0)).setIfInBounds (o + 1) (.int .i64 0)).setIfInBounds (o + 2) (.int .i64 0)) 58 (0, 0))
  size : w.heap.size ≤ W.heap.size

theorem tk_facts {p n o : Nat} {k : Lk} {rdy : Value} {i : Int} {cur : Array Value} {q0 : Value} (sl : Value) (h : NetIs w base B Bm sent S A) (hp : p < 9) (hS : S p = some k) (hb : base ≤ w.heap.size) (hcap : 0 < k.cap) (hhp : Hp w base B (.func (.func 14) #[] #[]) (.map (some Bm)) (.int .i64 sent) rdy A)
    (ck : w.heap[k.x]? = some (.cells #[.string (site (p / 3)), .string (site (p % 3)), q0, .bool false, .int .i64 i] 56 (0, 0))) (bg : base ≤ k.g) (eg : w.heap[k.g]? = some (.cells cur 58 (0, 0))) : Tk w base B Bm sent p n k A (tk w k.g k.x o p n sl) sl rdy i cur o := by
  have hgx : k.g ≠ k.x := ne_tag eg ck (by decide)
  have hBx : B ≠ k.x := ne_tag hhp.net ck (by decide)
  have hBg : B ≠ k.g := ne_tag hhp.net eg (by decide)
  have hxl := (Array.getElem?_eq_some_iff.1 ck).1
  have hgl := (Array.getElem?_eq_some_iff.1 eg).1
  have hBl := (Array.getElem?_eq_some_iff.1 hhp.net).1
  have o1 : ∀ b, b < w.heap.size → (tk w k.g k.x o p n sl).heap[b]? = ((((w.setCell ⟨k.g, o, none⟩ (.int .i64 0)).setCell ⟨k.g, o + 1, none⟩ (.int .i64 0)).setCell ⟨k.g, o + 2, none⟩ (.int .i64 0)).setCell ⟨k.x, 2, none⟩ sl).heap[b]? := fun b hb' =>
    (Below.heap_alloc _ _ _ (by simp [World.setCell]; omega)).trans (Below.heap_alloc _ _ _ (by simp [World.setCell]; omega))
  have o2 : ∀ b, b < w.heap.size → b ≠ k.x → b ≠ k.g → (tk w k.g k.x o p n sl).heap[b]? = w.heap[b]? := fun b hb' g1 g2 =>
    (o1 b hb').trans ((Below.heap_setCell _ _ _ _ g1).trans ((Below.heap_setCell _ _ _ _ g2).trans ((Below.heap_setCell _ _ _ _ g2).trans (Below.heap_setCell _ _ _ _ g2))))
  have ap : Apart w (tk w k.g k.x o p n sl) B k := fun b cs ty e _ g2 g3 => (o2 b (Array.getElem?_eq_some_iff.1 e).1 g2 (g3 hcap)).trans e
  have ckW : (tk w k.g k.x o p n sl).heap[k.x]? = some (.cells #[.string (site (p / 3)), .string (site (p % 3)), sl, .bool false, .int .i64 i] 56 (0, 0)) := by
    rw [o1 _ hxl]
    refine (set_same 2 sl (cs := #[.string (site (p / 3)), .string (site (p % 3)), q0, .bool false, .int .i64 i]) ?_).trans (by rfl)
    rw [Below.heap_setCell _ _ _ _ (Ne.symm hgx), Below.heap_setCell _ _ _ _ (Ne.symm hgx), Below.heap_setCell _ _ _ _ (Ne.symm hgx)]
    exact ck
  have hbm : Bm ≠ k.x ∧ Bm ≠ k.g ∧ Bm < w.heap.size := by
    obtain ⟨l, c, em, _⟩ := h.map
    refine ⟨?_, ?_, (Array.getElem?_eq_some_iff.1 em).1⟩
    · intro e'; rw [e', ck] at em; simp at em
    · intro e'; rw [e', eg] at em; simp at em
  have hbx := (h.link p k hp hS).bx
  refine ⟨ap, ?_, ckW, o2 Bm hbm.2.2 hbm.1 hbm.2.1, ?_, ?_, ?_, ?_, ?_, by simp [World.setCell]; omega⟩
  · exact h.hpTurn (v := sl) (hh := false) hhp hp hS ap ((o2 B hBl hBx hBg).trans hhp.net) (fun a b q h' i' e => by
      rw [ck] at e
      simp at e
      obtain ⟨rfl, rfl, rfl, rfl, rfl⟩ := e
      exact ckW)
  · exact ((((((Below.refl base w).setCell (show base ≤ (⟨k.g, o, none⟩ : Addr).block from bg) _).setCell (show base ≤ (⟨k.g, o + 1, none⟩ : Addr).block from bg) _).setCell (show base ≤ (⟨k.g, o + 2, none⟩ : Addr).block from bg) _).setCell (show base ≤ (⟨k.x, 2, none⟩ : Addr).block from hbx) _).alloc (by simp [World.setCell]; omega) _).alloc (by simp [World.setCell]; omega) _
  · exact fun b cs ty e _ _ a3 a4 => (o2 b (Array.getElem?_eq_some_iff.1 e).1 (ne_tag e ck a3) (ne_tag e eg a4)).trans e
  · have := heap_alloc_new ((((w.setCell ⟨k.g, o, none⟩ (.int .i64 0)).setCell ⟨k.g, o + 1, none⟩ (.int .i64 0)).setCell ⟨k.g, o + 2, none⟩ (.int .i64 0)).setCell ⟨k.x, 2, none⟩ sl) (.cells #[.int .i64 0, .int .i64 0] 31)
    have hs : ((((w.setCell ⟨k.g, o, none⟩ (.int .i64 0)).setCell ⟨k.g, o + 1, none⟩ (.int .i64 0)).setCell ⟨k.g, o + 2, none⟩ (.int .i64 0)).setCell ⟨k.x, 2, none⟩ sl).heap.size = w.heap.size := by simp [World.setCell]
    rw [hs] at this
    exact (Below.heap_alloc _ _ _ (by simp [World.setCell])).trans this
  · have := heap_alloc_new (((((w.setCell ⟨k.g, o, none⟩ (.int .i64 0)).setCell ⟨k.g, o + 1, none⟩ (.int .i64 0)).setCell ⟨k.g, o + 2, none⟩ (.int .i64 0)).setCell ⟨k.x, 2, none⟩ sl).alloc (.cells #[.int .i64 0, .int .i64 0] 31)) (.cells #[.int .i64 p, .int .i64 n] 31)
    have hs : (((((w.setCell ⟨k.g, o, none⟩ (.int .i64 0)).setCell ⟨k.g, o + 1, none⟩ (.int .i64 0)).setCell ⟨k.g, o + 2, none⟩ (.int .i64 0)).setCell ⟨k.x, 2, none⟩ sl).alloc (.cells #[.int .i64 0, .int .i64 0] 31)).heap.size = w.heap.size + 1 := by simp [World.setCell]
    rw [hs] at this
    exact this
  · rw [o1 _ hgl, Below.heap_setCell _ _ _ _ hgx]
    exact set_same _ _ (set_same _ _ (set_same _ _ eg))

theorem MapIs.drop2 {p : Nat} {k : Lk} {ty : TypeId} (h : MapIs w Bm S) (hp : p < 9) (hS : S p = some k) (hb : base ≤ Bm) : ∃ w4, (Builtin.delete_ #[45, 53] ty #[.map (some Bm), keyV p]).run Yba.prog w = .ok (.tuple #[]) w4 ∧ Gc w w4 ∧ MapIs w4 Bm (put S p none) ∧ Below base w w4 := by
  have h' := h
  obtain ⟨l0, cl0, em0, _⟩ := h'
  obtain ⟨o, ⟨es, c, rfl⟩, h1, h2⟩ := MapIs.drop (ty := ty) h hp hS
  exact ⟨_, h1, Gc.map em0 _, h2, below_map (Below.refl _ _) hb _⟩
/-- The message laid into the result's block. -/
theorem take_close {w4 : World} {S' : Nat → Option Lk} {A' : List Nat} {p n : Nat} (hN : NetIs w4 base B Bm sent S' A') (hz : w4.heap[w.heap.size]? = some (.cells #[.int .i64 0, .int .i64 0] 31 (0, 0))) (hb : base ≤ w.heap.size) (hb4 : Below base w w4) (hk4 : Kept w w4) :
    NetIs ((w4.setCell ⟨w.heap.size, 0, none⟩ (.int .i64 p)).setCell ⟨w.heap.size, 1, none⟩ (.int .i64 n)) base B Bm sent S' A' ∧ Below base w ((w4.setCell ⟨w.heap.size, 0, none⟩ (.int .i64 p)).setCell ⟨w.heap.size, 1, none⟩ (.int .i64 n)) ∧ Kept w ((w4.setCell ⟨w.heap.size, 0, none⟩ (.int .i64 p)).setCell ⟨w.heap.size, 1, none⟩ (.int .i64 n)) := by
  have hz1 := set_same 0 (.int .i64 p) hz
  refine ⟨hN.gq ((Gq.set31 hz 0 _).trans (Gq.set31 hz1 1 _)) ((map_ne31 (MapIs.gc hN.map (map_ne31 hN.map hz 0 _)) hz1 1 _).trans (map_ne31 hN.map hz 0 _)), (hb4.setCell hb _).setCell hb _, fun b cs ty e a1 a2 a3 a4 => ?_⟩
  have hl := (Array.getElem?_eq_some_iff.1 e).1
  exact (Below.heap_setCell _ _ _ _ (by simp; omega)).trans ((Below.heap_setCell _ _ _ _ (by simp; omega)).trans (hk4 b cs ty e a1 a2 a3 a4))
end Go.Proofs.Ybulkits
