/-
  container/heap.down on the heap of links.
-/
import Derived.Test.YbulkitsUp
namespace Go.Proofs.Ybulkits
open Go.RowKit
set_option linter.unusedVariables false
set_option linter.unusedSimpArgs false

variable {w : World} {base B : Nat} {n0 n1 n2 rdy : Value} {A : List Nat} {K : Nat → Nat}

/-- Where down stands. -/
def DownAt (K : Nat → Nat) (A A' : List Nat) (n i0 i : Nat) : Prop := (i = i0 ∧ A' = A ∧ Hole (kp K A') n i0) ∨ (i0 < i ∧ Moved (kp K A') n i)
theorem DownAt.hole {A' : List Nat} {n i0 i : Nat} (h : DownAt K A A' n i0 i) : Hole (kp K A') n i := by
  rcases h with ⟨rfl, _, h⟩ | ⟨_, h⟩
  · exact h
  · exact h.h
/-- What down gives back. -/
def DownTo (K : Nat → Nat) (A A' : List Nat) (n i0 : Nat) (b : Bool) : Prop := (b = true ∧ Ord (kp K A') n) ∨ (b = false ∧ A' = A ∧ UpInv (kp K A) n i0)
theorem DownAt.done {A' : List Nat} {n i0 i : Nat} (h : DownAt K A A' n i0 i) (he : ∀ k, 0 < k → k < n → (k - 1) / 2 = i → kp K A' i ≤ kp K A' k) : DownTo K A A' n i0 (decide (i0 < i)) := by
  rcases h with ⟨rfl, rfl, h⟩ | ⟨h1, h2⟩
  · exact .inr ⟨by simp, rfl, down_still h he⟩
  · exact .inl ⟨by simp [h1], down_moved h2 he⟩

set_option maxRecDepth 100000 in
set_option maxHeartbeats 3200000 in
theorem down20 {n i0 : Nat} (h : Hp w base B n0 n1 n2 rdy A) (hn : n ≤ A.length) (hi0 : i0 < n) (hk : Kd w K A n) (hu : Hole (kp K A) n i0) :
    Calls Yba.prog 20 #[.iface 60 (.pointer (some ⟨B, 3, none⟩)), .int .i64 i0, .int .i64 n] w fun e w' => ∃ b, e = .returned (.bool b) ∧ ∃ A', Hp w' base B n0 n1 n2 rdy A' ∧ To base w w' B rdy A ∧ Sm A A' n ∧ Kd w' K A' n ∧ DownTo K A A' n i0 b := by
  obtain ⟨p, c, hrd⟩ := slice_of h.row
  subst hrd
  have hf := h.few
  go_enter Yba.func20, Yba.ntmps20
  go_wp2_with fail
  go_loopw [7, 8, 9, 10] (fun iv _ _ _ wr => ∃ (i : Nat) (A' : List Nat), iv = .int .i64 i ∧ i < n ∧ Hp wr base B n0 n1 n2 (.slice p A.length c) A' ∧ To base w wr B (.slice p A.length c) A ∧ Sm A A' n ∧ Kd wr K A' n ∧ DownAt K A A' n i0 i) (fun iv _ _ _ _ => n - (intOf iv).toNat)
  case atStart => exact ⟨i0, A, rfl, hi0, h, To.refl _ _ _ _ _, Sm.refl _ _, hk, .inl ⟨rfl, rfl, hu⟩⟩
  case round =>
    obtain ⟨i, A', rfl, hi, h', ht, hs, hk', hd⟩ := hrel
    have hl' := hs.len
    obtain ⟨x, hx⟩ : ∃ x, A'[i]? = some x := ⟨_, List.getElem?_eq_getElem (by omega)⟩
    by_cases h1 : n ≤ 2 * i + 1
    · have hb1 : (n : Int) ≤ 2 * (i : Int) + 1 := by omega
      go_wp2_with fail
      go_ret
      exact ⟨_, rfl, A', h', ht, hs, hk', hd.done (fun k k0 kn kp => by omega)⟩
    · obtain ⟨j1, hj1⟩ : ∃ j1, 2 * i + 1 = j1 := ⟨_, rfl⟩
      obtain ⟨j2, hj2⟩ : ∃ j2, j1 + 1 = j2 := ⟨_, rfl⟩
      have hI1 : 2 * (i : Int) + 1 = (j1 : Int) := by omega
      have hI2 : (j1 : Int) + 1 = (j2 : Int) := by omega
      obtain ⟨y, hy⟩ : ∃ y, A'[j1]? = some y := ⟨_, List.getElem?_eq_getElem (by omega)⟩
      have hb1 : ¬ (n : Int) ≤ (j1 : Int) := by omega
      have hb0 : ¬ (j1 : Int) < 0 := by omega
      by_cases h2 : j2 < n
      · have hb2 : (j2 : Int) < (n : Int) := by omega
        obtain ⟨z, hz⟩ : ∃ z, A'[j2]? = some z := ⟨_, List.getElem?_eq_getElem (by omega)⟩
        have hm0 := n_less h'.cell
        have hle0 := lessH h' hz hy (hk' j2 z (by omega) hz) (hk' j1 y (by omega) hy)
        go_wp2_with fail
        refine hle0.mono ?_
        rintro e0 w0 ⟨rfl, m0, rfl⟩
        by_cases hzy : K z < K y
        · rw [decide_eq_true hzy]
          have hmi := n_less (w := wr.drewN m0) (h'.drewN m0).cell
          have hmin : ∀ k, 0 < k → k < n → (k - 1) / 2 = i → kp K A' j2 ≤ kp K A' k := fun k k0 kn kp' => by
              rcases (show k = j1 ∨ k = j2 by omega) with rfl | rfl
              · rw [kp_at hz, kp_at hy]; omega
              · exact Nat.le_refl _
          have hle := lessH (h'.drewN m0) hz hx (hk' j2 z (by omega) hz) (hk' i x hi hx)
          go_wp2_with fail
          refine hle.mono ?_
          rintro e3 w3 ⟨rfl, m3, rfl⟩
          by_cases hlt : K z < K x
          · rw [decide_eq_true hlt]
            have hms := n_swap (w := wr.drewN (m0 + m3)) (h'.drewN (m0 + m3)).cell
            go_wp2_with fail
            refine (swapH (h'.drewN (m0 + m3)) hx hz (by omega)).mono ?_
            rintro e4 w4 ⟨rfl, h4, t4⟩
            go_wp2_with fail
            refine ⟨⟨j2, swL A' i j2, rfl, by omega, h4, (ht.drewN (m0 + m3)).trans t4 (fun z hz => (hs.mem z).1 hz) (h.tagA h.net (by decide)), hs.trans (Sm.swap hx hz (by omega) hi (by omega)), Kd.swap (w := wr.drewN (m0 + m3)) hk' hx hz hi (by omega) t4 (h'.drewN (m0 + m3)), .inr ⟨by rcases hd with ⟨e, _⟩ | ⟨e, _⟩ <;> omega, ?_⟩⟩, by simp [intOf]; omega⟩
            rw [kp_swap hx hz, sw_comm]
            exact down_step hd.hole (by omega) (by omega) (by omega) hmin (by rw [kp_at hz, kp_at hx]; exact hlt)
          · rw [decide_eq_false hlt]
            go_wp2_with fail
            go_ret
            exact ⟨_, rfl, A', h'.drewN (m0 + m3), ht.drewN (m0 + m3), hs, hk', hd.done (fun k k0 kn kp' => by have := hmin k k0 kn kp'; rw [kp_at hz] at this; rw [kp_at hx]; omega)⟩
        · rw [decide_eq_false hzy]
          have hmi := n_less (w := wr.drewN m0) (h'.drewN m0).cell
          have hmin : ∀ k, 0 < k → k < n → (k - 1) / 2 = i → kp K A' j1 ≤ kp K A' k := fun k k0 kn kp' => by
              rcases (show k = j1 ∨ k = j2 by omega) with rfl | rfl
              · exact Nat.le_refl _
              · rw [kp_at hz, kp_at hy]; omega
          have hle := lessH (h'.drewN m0) hy hx (hk' j1 y (by omega) hy) (hk' i x hi hx)
          go_wp2_with fail
          refine hle.mono ?_
          rintro e3 w3 ⟨rfl, m3, rfl⟩
          by_cases hlt : K y < K x
          · rw [decide_eq_true hlt]
            have hms := n_swap (w := wr.drewN (m0 + m3)) (h'.drewN (m0 + m3)).cell
            go_wp2_with fail
            refine (swapH (h'.drewN (m0 + m3)) hx hy (by omega)).mono ?_
            rintro e4 w4 ⟨rfl, h4, t4⟩
            go_wp2_with fail
            refine ⟨⟨j1, swL A' i j1, rfl, by omega, h4, (ht.drewN (m0 + m3)).trans t4 (fun z hz => (hs.mem z).1 hz) (h.tagA h.net (by decide)), hs.trans (Sm.swap hx hy (by omega) hi (by omega)), Kd.swap (w := wr.drewN (m0 + m3)) hk' hx hy hi (by omega) t4 (h'.drewN (m0 + m3)), .inr ⟨by rcases hd with ⟨e, _⟩ | ⟨e, _⟩ <;> omega, ?_⟩⟩, by simp [intOf]; omega⟩
            rw [kp_swap hx hy, sw_comm]
            exact down_step hd.hole (by omega) (by omega) (by omega) hmin (by rw [kp_at hy, kp_at hx]; exact hlt)
          · rw [decide_eq_false hlt]
            go_wp2_with fail
            go_ret
            exact ⟨_, rfl, A', h'.drewN (m0 + m3), ht.drewN (m0 + m3), hs, hk', hd.done (fun k k0 kn kp' => by have := hmin k k0 kn kp'; rw [kp_at hy] at this; rw [kp_at hx]; omega)⟩
      · have hb2 : ¬ (j2 : Int) < (n : Int) := by omega
        have hmi := n_less (w := wr) (h').cell
        have hmin : ∀ k, 0 < k → k < n → (k - 1) / 2 = i → kp K A' j1 ≤ kp K A' k := fun k k0 kn kp' => by
            rcases (show k = j1 ∨ k = j2 by omega) with rfl | rfl
            · exact Nat.le_refl _
            · omega
        have hle := lessH (h') hy hx (hk' j1 y (by omega) hy) (hk' i x hi hx)
        go_wp2_with fail
        refine hle.mono ?_
        rintro e3 w3 ⟨rfl, m3, rfl⟩
        by_cases hlt : K y < K x
        · rw [decide_eq_true hlt]
          have hms := n_swap (w := wr.drewN m3) (h'.drewN m3).cell
          go_wp2_with fail
          refine (swapH (h'.drewN m3) hx hy (by omega)).mono ?_
          rintro e4 w4 ⟨rfl, h4, t4⟩
          go_wp2_with fail
          refine ⟨⟨j1, swL A' i j1, rfl, by omega, h4, (ht.drewN m3).trans t4 (fun z hz => (hs.mem z).1 hz) (h.tagA h.net (by decide)), hs.trans (Sm.swap hx hy (by omega) hi (by omega)), Kd.swap (w := wr.drewN m3) hk' hx hy hi (by omega) t4 (h'.drewN m3), .inr ⟨by rcases hd with ⟨e, _⟩ | ⟨e, _⟩ <;> omega, ?_⟩⟩, by simp [intOf]; omega⟩
          rw [kp_swap hx hy, sw_comm]
          exact down_step hd.hole (by omega) (by omega) (by omega) hmin (by rw [kp_at hy, kp_at hx]; exact hlt)
        · rw [decide_eq_false hlt]
          go_wp2_with fail
          go_ret
          exact ⟨_, rfl, A', h'.drewN m3, ht.drewN m3, hs, hk', hd.done (fun k k0 kn kp' => by have := hmin k k0 kn kp'; rw [kp_at hy] at this; rw [kp_at hx]; omega)⟩
end Go.Proofs.Ybulkits
