/-
  The network after one of its links has turned.
-/
import Derived.Test.YbulkitsLink
namespace Go.Proofs.Ybulkits
open Go.RowKit
set_option linter.unusedVariables false
set_option linter.unusedSimpArgs false

variable {w : World} {base B Bm sent : Nat} {S : Nat → Option Lk} {A : List Nat}

/-- S with the pair p's link laid anew. -/
def put (S : Nat → Option Lk) (p : Nat) (v : Option Lk) : Nat → Option Lk := fun q => if q = p then v else S q
theorem put_p (S : Nat → Option Lk) (p : Nat) (v : Option Lk) : put S p v p = v := by simp [put]
theorem put_o {S : Nat → Option Lk} {p q : Nat} {v : Option Lk} (h : q ≠ p) : put S p v q = S q := by simp [put, h]
theorem put_some {S : Nat → Option Lk} {p q : Nat} {v : Option Lk} {k : Lk} (h : put S p v q = some k) : (q = p ∧ v = some k) ∨ (q ≠ p ∧ S q = some k) := by
  by_cases hq : q = p
  · subst hq; rw [put_p] at h; exact .inl ⟨rfl, h⟩
  · rw [put_o hq] at h; exact .inr ⟨hq, h⟩

/-- The map in memory. -/
def MapIs (w : World) (Bm : Nat) (S : Nat → Option Lk) : Prop := ∃ l clock, w.heap[Bm]? = some (.map (ents l).toArray clock) ∧ Nine l ∧ (l.map (·.1)).Nodup ∧ ∀ p, p < 9 → (findL l p 0).map (·.2) = (S p).map (·.x)
theorem MapIs.turn {w' : World} {p : Nat} {k k' : Lk} (h : MapIs w Bm S) (e : w'.heap[Bm]? = w.heap[Bm]?) (hS : S p = some k) (hx : k'.x = k.x) : MapIs w' Bm (put S p (some k')) := by
  obtain ⟨l, c, e1, e2, e3, e4⟩ := h
  refine ⟨l, c, e.trans e1, e2, e3, fun q hq => ?_⟩
  rw [e4 q hq]
  by_cases hqp : q = p
  · subst hqp; rw [hS, put_p]; simp [hx]
  · rw [put_o hqp]
theorem MapIs.drop {p : Nat} {k : Lk} {ty : TypeId} (h : MapIs w Bm S) (hp : p < 9) (hS : S p = some k) : ∃ o, (∃ es c, o = Obj.map es c) ∧ (Builtin.delete_ #[45, 53] ty #[.map (some Bm), keyV p]).run Yba.prog w = .ok (.tuple #[]) { w with heap := w.heap.setIfInBounds Bm o } ∧ MapIs { w with heap := w.heap.setIfInBounds Bm o } Bm (put S p none) := by
  obtain ⟨l, c, e1, e2, e3, e4⟩ := h
  have := e4 p hp
  rw [hS] at this
  obtain ⟨y, hy, _⟩ := Option.map_eq_some_iff.1 this
  refine ⟨_, ⟨_, _, rfl⟩, delete_run hp e2 e1 hy, ⟨l.eraseIdx y.1, c, map_set (Array.getElem?_eq_some_iff.1 e1).1 _, nine_erase e2, nodup_erase e3, fun q hq => ?_⟩⟩
  rw [findL_erase l e3 hy]
  by_cases hqp : q = p
  · subst hqp; rw [if_pos rfl, put_p]; rfl
  · rw [if_neg hqp, put_o hqp]; exact e4 q hq

theorem LkIs.key {p n : Nat} {r : List Nat} {k : Lk} (h : LkIs w base p k) (hq : k.q = n :: r) : KeyAt w k.x n := by
  have hl := h.len
  rw [hq] at hl
  simp at hl
  have hc : 0 < k.cap := by omega
  obtain ⟨i, e⟩ := h.cells
  obtain ⟨_, cur, e1, e2, e3⟩ := h.row hc
  have hqv : qv k = .slice (some ⟨k.g, 3 * k.o, none⟩) k.q.length k.cap := by unfold qv; rw [if_neg (by omega)]
  rw [hqv] at e
  refine ⟨_, _, _, _, _, _, _, _, cur, e, by rw [hq]; simp, e1, ?_⟩
  have := (e3 0 n (by rw [hq]; rfl)).2.2
  simpa using this

/-- What lies apart from the pair p's link: stays. -/
def Apart (w w' : World) (B : Nat) (k : Lk) : Prop := ∀ (b : Nat) (cs : Array Value) (ty : TypeId), w.heap[b]? = some (.cells cs ty (0, 0)) → b ≠ B → b ≠ k.x → (0 < k.cap → b ≠ k.g) → w'.heap[b]? = some (.cells cs ty (0, 0))

theorem NetIs.others {w' : World} {p : Nat} {k : Lk} (h : NetIs w base B Bm sent S A) (hp : p < 9) (hS : S p = some k) (ha : Apart w w' B k) {q : Nat} {kq : Lk} (hq : q < 9) (hne : q ≠ p) (e : S q = some kq) : LkIs w' base q kq := by
  have hl := h.link q kq hq e
  obtain ⟨rdy, hhp⟩ := h.hp
  obtain ⟨i, c⟩ := hl.cells
  refine ⟨hl.bx, ⟨i, ha _ _ _ c (ne_tag c hhp.net (by decide)) (fun ex => hne (h.xinj hq hp e hS ex)) (fun hc eg => ?_)⟩, hl.nil, hl.len, hl.capm, fun hc => ?_⟩
  · obtain ⟨_, cur, e1, _⟩ := (h.link p k hp hS).row hc
    exact ne_tag c e1 (by decide) eg
  · obtain ⟨bg, cur, e1, e2, e3⟩ := hl.row hc
    obtain ⟨i', c'⟩ := (h.link p k hp hS).cells
    exact ⟨bg, cur, ha _ _ _ e1 (ne_tag e1 hhp.net (by decide)) (ne_tag e1 c' (by decide)) (fun hc' eg => hne (h.rinj q kq p k hq hp e hS hc hc' eg)), e2, e3⟩

/-- The heap where the pair p's link keeps its place. -/
theorem NetIs.hpTurn {w' : World} {p sent' : Nat} {k : Lk} {rdy : Value} {v : Value} {hh : Bool} (h : NetIs w base B Bm sent S A) (hhp : Hp w base B (.func (.func 14) #[] #[]) (.map (some Bm)) (.int .i64 sent) rdy A) (hp : p < 9) (hS : S p = some k) (ha : Apart w w' B k)
    (hB : w'.heap[B]? = some (.cells #[.func (.func 14) #[] #[], .map (some Bm), .int .i64 sent', rdy] 49 (0, 0))) (hx : ∀ a b q h' i, w.heap[k.x]? = some (.cells #[a, b, q, h', i] 56 (0, 0)) → w'.heap[k.x]? = some (.cells #[a, b, v, .bool hh, i] 56 (0, 0))) :
    Hp w' base B (.func (.func 14) #[] #[]) (.map (some Bm)) (.int .i64 sent') rdy A := by
  have rk : ∀ {b : Nat} {cs : Array Value} {ty : TypeId}, w.heap[b]? = some (.cells cs ty (0, 0)) → ty = 50 → w'.heap[b]? = some (.cells cs ty (0, 0)) := fun {b cs ty} e et => by
    obtain ⟨i', c'⟩ := (h.link p k hp hS).cells
    exact ha _ _ _ e (ne_tag e hhp.net (by rw [et]; decide)) (ne_tag e c' (by rw [et]; decide)) (fun hc => by
      obtain ⟨_, cur, e1, _⟩ := (h.link p k hp hS).row hc
      exact ne_tag e e1 (by rw [et]; decide))
  refine ⟨hB, hhp.hB, ?_, fun i z hz => ?_, hhp.few⟩
  · refine ⟨hhp.row.1, ?_⟩
    rcases hhp.row.2 with h' | ⟨R, cap, cur, e1, e2, e3, e4⟩
    · exact .inl h'
    · exact .inr ⟨R, cap, cur, e1, e2, rk e3 rfl, e4⟩
  · obtain ⟨bz, a, b, q, h', e⟩ := hhp.link i z hz
    by_cases hzx : z = k.x
    · subst hzx
      exact ⟨bz, a, b, v, .bool hh, hx _ _ _ _ _ e⟩
    · exact ⟨bz, a, b, q, h', ha _ _ _ e (ne_tag e hhp.net (by decide)) hzx (fun hc eg => by
        obtain ⟨_, cur, e1, _⟩ := (h.link p k hp hS).row hc
        exact ne_tag e e1 (by decide) eg)⟩

theorem KeyAt.apart {w' : World} {p z n : Nat} {k : Lk} (h : NetIs w base B Bm sent S A) (hp : p < 9) (hS : S p = some k) (ha : Apart w w' B k) (hz : z ∈ A) (hne : z ≠ k.x) (hk : ∀ q kq, q < 9 → S q = some kq → kq.x = z → ∀ m r, kq.q = m :: r → m = n) : KeyAt w' z n := by
  obtain ⟨q, kq, hq, e, ex, _, eq⟩ := (h.mem z).1 hz
  have hqp : q ≠ p := by rintro rfl; rw [hS] at e; obtain rfl := Option.some.inj e; exact hne ex.symm
  have hl := h.others hp hS ha hq hqp e
  obtain ⟨m, r, hm⟩ := List.exists_cons_of_ne_nil eq
  have := hl.key hm
  rw [ex, hk q kq hq e ex m r hm] at this
  exact this
/-- One key laid anew. -/
def upd (K : Nat → Nat) (x n : Nat) : Nat → Nat := fun z => if z = x then n else K z
theorem upd_x (K : Nat → Nat) (x n : Nat) : upd K x n x = n := by simp [upd]
theorem upd_o {K : Nat → Nat} {x n z : Nat} (h : z ≠ x) : upd K x n z = K z := by simp [upd, h]
theorem kp_upd {K : Nat → Nat} {x n i : Nat} (hx : ∀ j, A[j]? = some x → j = i) {k : Nat} (hk : k < A.length) (hki : k ≠ i) : kp (upd K x n) A k = kp K A k := by
  obtain ⟨z, hz⟩ : ∃ z, A[k]? = some z := ⟨_, List.getElem?_eq_getElem hk⟩
  rw [kp_at hz, kp_at hz, upd_o]
  rintro rfl
  exact hki (hx k hz)
end Go.Proofs.Ybulkits
