/-
  Oldest.
-/
import Derived.Test.YbulkitsTake
namespace Go.Proofs.Ybulkits
open Go.RowKit
set_option linter.unusedVariables false
set_option linter.unusedSimpArgs false

variable {w : World} {base B Bm sent : Nat} {S : Nat → Option Lk} {A : List Nat}

/-- The pair p has the first message of all that may be taken. -/
structure First (S : Nat → Option Lk) (p n : Nat) (r : List Nat) : Prop where
  hp : p < 9
  q : qOf S p = n :: r
  free : hOf S p = false
  least : ∀ p' n' r', p' < 9 → qOf S p' = n' :: r' → hOf S p' = false → n ≤ n'

theorem qOf_some {p : Nat} {k : Lk} (h : S p = some k) : qOf S p = k.q := by simp [qOf, h]
theorem hOf_some {p : Nat} {k : Lk} (h : S p = some k) : hOf S p = k.held := by simp [hOf, h]
theorem some_of_q {p n : Nat} {r : List Nat} (h : qOf S p = n :: r) : ∃ k, S p = some k ∧ k.q = n :: r := by
  unfold qOf at h
  cases hS : S p with
  | none => rw [hS] at h; cases h
  | some k => rw [hS] at h; exact ⟨k, rfl, h⟩

theorem NetIs.first (h : NetIs w base B Bm sent S A) {x : Nat} (hx : A[0]? = some x) : ∃ p k n r, S p = some k ∧ k.x = x ∧ k.q = n :: r ∧ k.held = false ∧ First S p n r := by
  obtain ⟨p, k, hp, e, ex, hh, hq⟩ := (h.mem x).1 (List.mem_of_getElem? hx)
  obtain ⟨n, r, hnr⟩ := List.exists_cons_of_ne_nil hq
  obtain ⟨K, hg, hky⟩ := h.good
  refine ⟨p, k, n, r, e, ex, hnr, hh, hp, by rw [qOf_some e]; exact hnr, by rw [hOf_some e]; exact hh, fun p' n' r' hp' hq' hh' => ?_⟩
  obtain ⟨k', e', hk'⟩ := some_of_q hq'
  have hm : k'.x ∈ A := (h.mem_of hp' e').2 ⟨by rw [← hOf_some e']; exact hh', by rw [hk']; simp⟩
  obtain ⟨j, hj⟩ := List.mem_iff_getElem?.1 hm
  have := ord_top hg.ord j j (Nat.le_refl _) (List.getElem?_eq_some_iff.1 hj).1
  rw [kp_at hx, kp_at hj, ← ex, hky p k n r hp e hnr, hky p' k' n' r' hp' e' hk'] at this
  exact this
theorem NetIs.nobody (h : NetIs w base B Bm sent S []) {p n : Nat} {r : List Nat} (hp : p < 9) (hq : qOf S p = n :: r) : hOf S p = true := by
  obtain ⟨k, e, hk⟩ := some_of_q hq
  cases hh : hOf S p with
  | true => rfl
  | false =>
    have := (h.mem_of hp e).2 ⟨by rw [← hOf_some e]; exact hh, by rw [hk]; simp⟩
    simp at this

set_option maxRecDepth 100000 in
set_option maxHeartbeats 1600000 in
theorem oldest9 (h : NetIs w base B Bm sent S A) (hb : base ≤ w.heap.size) (hv : Live S) : Calls Yba.prog 9 #[.pointer (some ⟨B, 0, none⟩)] w fun e w' =>
    (e = .returned (.tuple #[.agg #[.int .i64 0, .int .i64 0], .bool false]) ∧ (∀ p n r, p < 9 → qOf S p = n :: r → hOf S p = true) ∧ NetIs w' base B Bm sent S A ∧ Below base w w' ∧ Kept w w') ∨
    ∃ p n r, First S p n r ∧ e = .returned (.tuple #[.agg #[.int .i64 (p : Nat), .int .i64 (n : Nat)], .bool true]) ∧ ∃ (S' : Nat → Option Lk) (A' : List Nat), NetIs w' base B Bm sent S' A' ∧ hOf S' p = false ∧ qOf S' p = r ∧ (∀ q, q ≠ p → S' q = S q) ∧ Live S' ∧ Below base w w' ∧ Kept w w' := by
  obtain ⟨rdy, hhp⟩ := h.hp
  have hBl := (Array.getElem?_eq_some_iff.1 hhp.net).1
  have c3 := hhp.cell
  cases hA : A with
  | nil =>
    subst hA
    obtain ⟨pq, cq, hrd⟩ := slice_of hhp.row
    subst hrd
    have hcal : Calls Yba.prog 9 #[.pointer (some ⟨B, 0, none⟩)] w fun e w' => e = .returned (.tuple #[.agg #[.int .i64 0, .int .i64 0], .bool false]) ∧ w' = (w.alloc (.cells #[.int .i64 0, .int .i64 0] 31)).alloc (.cells #[.int .i64 0, .int .i64 0] 31) := by
      go_enter Yba.func9, Yba.ntmps9
      go_wp2_with fail
      simp [bodyPost, results, Yba.results9, go_sem]
    refine hcal.mono ?_
    rintro e1 w1 ⟨rfl, rfl⟩
    exact .inl ⟨rfl, fun p n r hp hq => h.nobody hp hq, h.gr (((Gr.refl w).alloc _).alloc _), ((Below.refl base w).alloc hb _).alloc (by simp; omega) _, (((Gr.refl w).alloc _).alloc _).kept⟩
  | cons x A0 =>
    have hx : A[0]? = some x := by rw [hA]; rfl
    obtain ⟨p, k, n, r, e, ex, hq, hh, hF⟩ := h.first hx
    obtain ⟨R, cap, cur, rfl, hR, hc, h1, h2, h3, h4⟩ := hhp.rowAt (by rw [hA]; simp)
    obtain ⟨L, hL⟩ : ∃ L, A.length = L := ⟨_, rfl⟩
    have hL0 : 0 < L := by rw [← hL, hA]; simp
    have hLI : (0 : Int) < (L : Int) := by omega
    have hLb : ((L : Int) == 0) = false := by simp; omega
    have hRl := (Array.getElem?_eq_some_iff.1 hc).1
    have hc0 : w.cell? ⟨R, 0, none⟩ = some (.pointer (some ⟨x, 0, none⟩)) := (ob hc 0).1.trans (rowGet h4 hx)
    rw [hL] at c3
    subst ex
    have hcal : Calls Yba.prog 9 #[.pointer (some ⟨B, 0, none⟩)] w fun e w' => e = .returned (.tuple #[.agg #[.int .i64 p, .int .i64 n], .bool true]) ∧ ∃ (S' : Nat → Option Lk) (A' : List Nat), NetIs w' base B Bm sent S' A' ∧ hOf S' p = false ∧ qOf S' p = r ∧ (∀ q, q ≠ p → S' q = S q) ∧ Live S' ∧ Below base w w' ∧ Kept w w' := by
      have g1 : Gr w (w.alloc (.cells #[.int .i64 0, .int .i64 0] 31)) := (Gr.refl w).alloc _
      have b1 : Below base w (w.alloc (.cells #[.int .i64 0, .int .i64 0] 31)) := (Below.refl base w).alloc hb _
      have hz1 := heap_alloc_new w (.cells #[.int .i64 0, .int .i64 0] 31)
      have htk := take18 (h.gr g1) hF.hp (by simp; omega) hv e hq hh
      go_enter Yba.func9, Yba.ntmps9
      go_wp2_with fail
      refine htk.mono ?_
      rintro e2 w2 ⟨rfl, S2, A2, N2, q1, q2, q3, q4, q5, q6⟩
      have hz2 := q6 _ _ _ hz1 (by decide) (by decide) (by decide) (by decide)
      have z0 := (ob hz2 0).1
      have z1 := (ob hz2 1).1
      have fz0 := (ob hz2 0).2
      have fz1 := (ob hz2 1).2
      obtain ⟨N3, N4, N5⟩ := take_close (w := w) (p := p) (n := n) N2 hz2 hb (b1.trans q5) (g1.kept.trans q6)
      have zF : ((w2.setCell ⟨w.heap.size, 0, none⟩ (.int .i64 p)).setCell ⟨w.heap.size, 1, none⟩ (.int .i64 n)).heap[w.heap.size]? = some (.cells #[.int .i64 p, .int .i64 n] 31 (0, 0)) := (set_same 1 _ (set_same 0 _ hz2)).trans (by rfl)
      have zf0 := (ob zF 0).1
      have zf1 := (ob zF 1).1
      go_wp2_with fail
      simp [bodyPost, results, Yba.results9, go_sem, zf0, zf1]
      exact ⟨S2, ⟨A2, N3⟩, q1, q2, q3, q4, N4, N5⟩
    refine hcal.mono ?_
    rintro e1 w1 ⟨rfl, hr⟩
    exact .inr ⟨p, n, r, hF, rfl, hr⟩
end Go.Proofs.Ybulkits
