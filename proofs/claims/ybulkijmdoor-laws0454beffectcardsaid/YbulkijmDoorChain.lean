/-
  The waiting callers as a chain; what push, pop and popWaiterLocked do to it.
-/
import Derived.Test.YbulkijmDoorLay
namespace Go.Proofs.YbulkijmDoor
open Go.RowKit Go.Conc

/-- The queue holds the waiting callers a .. n-1, in that order; the others are in no queue. -/
def link (K a n : Nat) (s : Dsc) : Dsc :=
  { s with
    p := { s.p with head := if a < n then pt (K + 2 + 3 * a) else .pointer none, tail := if a < n then pt (K + 2 + 3 * (n - 1)) else .pointer none, cnt := (n : Int) - a }
    prev := fun i => if a < i ∧ i < n then pt (K + 2 + 3 * (i - 1)) else .pointer none
    next := fun i => if a ≤ i ∧ i + 1 < n then pt (K + 2 + 3 * (i + 1)) else .pointer none }

variable {w0 w : World} {B K N M : Nat} {s : Dsc}

theorem Lay.ncell {s : Dsc} (h : Lay w0 B K N M s w) (i : Nat) (hi : i < M) : w.cell? ⟨K + 2 + 3 * i, 1, none⟩ = some (.chan (some (K + 1 + 3 * i))) ∧ w.cell? ⟨K + 2 + 3 * i, 2, none⟩ = some (s.prev i) ∧ w.cell? ⟨K + 2 + 3 * i, 3, none⟩ = some (s.next i) ∧ ∀ o, w.frozen? ⟨K + 2 + 3 * i, o, none⟩ = false :=
  ⟨by rw [cell_of (h.hnd i hi)]; rfl, by rw [cell_of (h.hnd i hi)]; rfl, by rw [cell_of (h.hnd i hi)]; rfl, fun o => frozen_of (h.hnd i hi) o⟩

theorem push_lay (hK : B + 3 + 3 * N ≤ K) (j : Nat) (hj : j < 2000) (h : Lay w0 B K N (j + 1) (link K 0 j s) w) :
    Calls Ybad.prog 7 #[.pointer (some ⟨B + 1, 19, none⟩), pt (K + 2 + 3 * j)] w fun r w' => r = .returned (.tuple #[]) ∧ Lay w0 B K N (j + 1) (link K 0 (j + 1) s) w' ∧ w'.heap.size = w.heap.size ∧ ∀ k, k ≤ K → k ≠ B + 1 → w'.heap[k]? = w.heap[k]? := by
  have q0 := h.c19
  have q1 := h.c20
  have q2 := h.c21
  obtain ⟨_, e0, _, fe⟩ := h.ncell j (by omega)
  by_cases hz : j = 0
  · subst hz
    refine (push_first (B + 1) (K + 2 + 3 * 0) _ _ 0 w (by omega) (by omega) (by omega) q0 (by simpa [link] using q1) (by simpa [link] using q2) h.fz e0 fe).mono ?_
    rintro r w' ⟨rfl, rfl⟩
    refine ⟨rfl, ?_, by simp [World.setCell], fun k h1 h2 => by rw [Below.heap_setCell _ _ _ _ (by simp; omega), Below.heap_setCell _ _ _ _ (by simp; omega), Below.heap_setCell _ _ _ _ (by simp; omega), Below.heap_setCell _ _ _ _ (by simp; omega)]⟩
    refine ((((h.setPrev hK 0 (by omega) (.pointer none)).setHead hK (pt (K + 2 + 3 * 0))).setTail hK (pt (K + 2 + 3 * 0))).setCnt hK (0 + 1)).turn rfl rfl (fun _ _ => rfl) ?_ ?_ (fun _ _ => rfl) (fun _ _ => rfl) (fun _ _ => rfl) rfl rfl
    · intro i hi
      have : i = 0 := by omega
      subst this; simp [link]
    · intro i hi
      have : i = 0 := by omega
      subst this; simp [link]
  · obtain ⟨_, _, ht, ft⟩ := h.ncell (j - 1) (by omega)
    refine (push_more (B + 1) (K + 2 + 3 * j) (K + 2 + 3 * (j - 1)) _ _ j w (by omega) (by omega) (by omega) (by omega) (by omega) (by simpa [link, show 0 < j by omega] using q1) (by simpa [link] using q2) h.fz e0 fe ht ft).mono ?_
    rintro r w' ⟨rfl, rfl⟩
    refine ⟨rfl, ?_, by simp [World.setCell], fun k h1 h2 => by rw [Below.heap_setCell _ _ _ _ (by simp; omega), Below.heap_setCell _ _ _ _ (by simp; omega), Below.heap_setCell _ _ _ _ (by simp; omega), Below.heap_setCell _ _ _ _ (by simp; omega)]⟩
    refine ((((h.setPrev hK j (by omega) _).setNext hK (j - 1) (by omega) _).setTail hK _).setCnt hK _).turn ?_ rfl (fun _ _ => rfl) ?_ ?_ (fun _ _ => rfl) (fun _ _ => rfl) (fun _ _ => rfl) rfl rfl
    · simp [link, show 0 < j by omega]
    · intro i hi
      by_cases e : i = j
      · subst e; simp [link, show 0 < i by omega]
      · simp only [link, if_neg e]
        by_cases e2 : 0 < i ∧ i < j
        · rw [if_pos e2, if_pos (by omega)]
        · rw [if_neg e2, if_neg (by omega)]
    · intro i hi
      by_cases e : i = j - 1
      · subst e
        simp only [link, if_true]
        rw [if_pos (by omega), show j - 1 + 1 = j by omega]
      · simp only [link, if_neg e]
        by_cases e2 : 0 ≤ i ∧ i + 1 < j
        · rw [if_pos e2, if_pos (by omega)]
        · rw [if_neg e2, if_neg (by omega)]

theorem pop_lay_none {a n : Nat} (han : n ≤ a) (h : Lay w0 B K N M (link K a n s) w) :
    Calls Ybad.prog 32 #[.pointer (some ⟨B + 1, 19, none⟩)] w fun r w' => r = .returned (.pointer none) ∧ w = w' := by
  have q0 := h.c19
  simp only [link] at q0
  rw [if_neg (by omega)] at q0
  exact pop_none (B + 1) w q0

theorem pop_lay (hK : B + 3 + 3 * N ≤ K) {a n : Nat} (han : a < n) (hnM : n ≤ M) (hn : n < 2000) (h : Lay w0 B K N M (link K a n s) w) :
    Calls Ybad.prog 32 #[.pointer (some ⟨B + 1, 19, none⟩)] w fun r w' => r = .returned (pt (K + 2 + 3 * a)) ∧ Lay w0 B K N M (link K (a + 1) n s) w' := by
  have q0 := h.c19
  have q1 := h.c20
  have q2 := h.c21
  obtain ⟨_, e0, e1, fe⟩ := h.ncell a (by omega)
  simp only [link] at q0 q2 e0 e1
  rw [if_pos han] at q0
  rw [if_neg (by omega)] at e0
  by_cases hm : a + 1 < n
  · rw [if_pos ⟨Nat.le_refl _, hm⟩] at e1
    obtain ⟨_, hf, _, ff⟩ := h.ncell (a + 1) (by omega)
    refine (pop_head (B + 1) (K + 2 + 3 * a) (K + 2 + 3 * (a + 1)) _ _ w (by omega) (by omega) (by omega) (by omega) (by omega) q0 q2 h.fz e0 e1 fe hf ff).mono ?_
    rintro r w' ⟨rfl, rfl⟩
    refine ⟨rfl, (((((h.setHead hK _).setPrev hK (a + 1) (by omega) _).setPrev hK a (by omega) _).setNext hK a (by omega) _).setCnt hK _).drew.turn ?_ rfl (fun _ _ => rfl) ?_ ?_ (fun _ _ => rfl) (fun _ _ => rfl) (fun _ _ => rfl) rfl rfl⟩
    · simp [link, hm, han]; omega
    · intro i hi
      simp only [link]
      by_cases e2 : i = a
      · rw [if_pos e2, if_neg (by omega)]
      · rw [if_neg e2]
        by_cases e3 : i = a + 1
        · rw [if_pos e3, if_neg (by omega)]
        · rw [if_neg e3]
          by_cases e4 : a < i ∧ i < n
          · rw [if_pos e4, if_pos (by omega)]
          · rw [if_neg e4, if_neg (by omega)]
    · intro i hi
      simp only [link]
      by_cases e2 : i = a
      · rw [if_pos e2, if_neg (by omega)]
      · rw [if_neg e2]
        by_cases e4 : a ≤ i ∧ i + 1 < n
        · rw [if_pos e4, if_pos (by omega)]
        · rw [if_neg e4, if_neg (by omega)]
  · rw [if_neg (by omega)] at e1
    refine (pop_last (B + 1) (K + 2 + 3 * a) _ _ w (by omega) (by omega) (by omega) q0 q1 q2 h.fz e0 e1 fe).mono ?_
    rintro r w' ⟨rfl, rfl⟩
    refine ⟨rfl, (((((h.setHead hK _).setTail hK _).setPrev hK a (by omega) _).setNext hK a (by omega) _).setCnt hK _).turn ?_ rfl (fun _ _ => rfl) ?_ ?_ (fun _ _ => rfl) (fun _ _ => rfl) (fun _ _ => rfl) rfl rfl⟩
    · simp [link, hm]; omega
    · intro i hi
      simp only [link]
      by_cases e2 : i = a
      · rw [if_pos e2, if_neg (by omega)]
      · rw [if_neg e2, if_neg (by omega), if_neg (by omega)]
    · intro i hi
      simp only [link]
      by_cases e2 : i = a
      · rw [if_pos e2, if_neg (by omega)]
      · rw [if_neg e2, if_neg (by omega), if_neg (by omega)]

/-- The count of those waiting. -/
def withWt (s : Dsc) (x : Int) : Dsc := { s with p := { s.p with wt := x } }

set_option maxHeartbeats 800000 in
set_option maxRecDepth 100000 in
theorem popWaiter_none {a n : Nat} (han : n ≤ a) (h : Lay w0 B K N M (link K a n s) w) :
    Calls Ybad.prog 22 #[pt (B + 1)] w fun r w' => r = .returned (.pointer none) ∧ w = w' := by
  go_enter Ybad.func22, Ybad.ntmps22
  go_wp2_with fail
  refine (pop_lay_none han h).mono ?_
  rintro r w' ⟨rfl, rfl⟩
  go_wp2
  go_ret
  exact ⟨rfl, rfl⟩

set_option maxHeartbeats 800000 in
set_option maxRecDepth 100000 in
theorem popWaiter_some (hK : B + 3 + 3 * N ≤ K) {a n : Nat} {x : Int} (hx : 0 ≤ x ∧ x < 100000) (han : a < n) (hnM : n ≤ M) (hn : n < 2000) (h : Lay w0 B K N M (link K a n (withWt s x)) w) :
    Calls Ybad.prog 22 #[pt (B + 1)] w fun r w' => r = .returned (pt (K + 2 + 3 * a)) ∧ Lay w0 B K N M (link K (a + 1) n (withWt s (x + -1))) w' := by
  go_enter Ybad.func22, Ybad.ntmps22
  go_wp2_with fail
  refine (pop_lay hK han hnM hn h).mono ?_
  rintro r w1 ⟨rfl, h1⟩
  clear h
  go_wp2_with fail
  refine (addI (B + 1) 14 x (-1) _ (by omega) (by omega) h1.c14 (h1.fz 14)).mono ?_
  rintro r w2 ⟨rfl, hw⟩
  have h2 : Lay w0 B K N M (link K (a + 1) n (withWt s (x + -1))) w2 := by rw [← hw]; exact h1.setWt hK _
  clear hw h1
  go_wp2
  go_ret
  exact ⟨rfl, h2⟩
end Go.Proofs.YbulkijmDoor
