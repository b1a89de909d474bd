/-
  A binary heap's order, plainly: positions and their keys.
-/
import Derived.Test.YbulkitsChecked
namespace Go.Proofs.Ybulkits
set_option linter.unusedVariables false

/-- Two positions exchanged. -/
def sw (f : Nat → Nat) (i j k : Nat) : Nat := if k = i then f j else if k = j then f i else f k
theorem sw_l (f : Nat → Nat) (i j : Nat) : sw f i j i = f j := by simp [sw]
theorem sw_r (f : Nat → Nat) (i j : Nat) : sw f i j j = f i := by
  unfold sw
  split
  · rename_i h; rw [h]
  · simp
theorem sw_o (f : Nat → Nat) {i j k : Nat} (h1 : k ≠ i) (h2 : k ≠ j) : sw f i j k = f k := by simp [sw, h1, h2]

def Ord (f : Nat → Nat) (n : Nat) : Prop := ∀ k, 0 < k → k < n → f ((k - 1) / 2) ≤ f k
structure UpInv (f : Nat → Nat) (n j : Nat) : Prop where
  a : ∀ k, 0 < k → k < n → k ≠ j → f ((k - 1) / 2) ≤ f k
  b : 0 < j → ∀ k, 0 < k → k < n → (k - 1) / 2 = j → f ((j - 1) / 2) ≤ f k
structure Hole (f : Nat → Nat) (n i : Nat) : Prop where
  a : ∀ k, 0 < k → k < n → k ≠ i → (k - 1) / 2 ≠ i → f ((k - 1) / 2) ≤ f k
  b : 0 < i → ∀ k, 0 < k → k < n → (k - 1) / 2 = i → f ((i - 1) / 2) ≤ f k
structure Moved (f : Nat → Nat) (n i : Nat) : Prop where
  h : Hole f n i
  c : 0 < i → f ((i - 1) / 2) ≤ f i

theorem up_step {f : Nat → Nat} {n j : Nat} (h : UpInv f n j) (hj : 0 < j) (hn : j < n) (hlt : f j < f ((j - 1) / 2)) : UpInv (sw f ((j - 1) / 2) j) n ((j - 1) / 2) := by
  obtain ⟨i, hi⟩ : ∃ i, (j - 1) / 2 = i := ⟨_, rfl⟩
  rw [hi] at hlt ⊢
  have hij : i < j := by omega
  refine ⟨fun k k0 kn ki => ?_, fun i0 k k0 kn kp => ?_⟩
  · by_cases kj : k = j
    · subst kj
      rw [hi, sw_l, sw_r]; omega
    · rw [sw_o f (k := k) ki kj]
      by_cases pi : (k - 1) / 2 = i
      · rw [pi, sw_l]
        have := h.a k k0 kn kj
        rw [pi] at this
        omega
      · by_cases pj : (k - 1) / 2 = j
        · rw [pj, sw_r]
          have := h.b hj k k0 kn pj
          rw [hi] at this
          exact this
        · rw [sw_o f pi pj]
          exact h.a k k0 kn kj
  · rw [sw_o f (k := (i - 1) / 2) (by omega) (by omega)]
    have h1 := h.a i i0 (by omega) (by omega)
    by_cases kj : k = j
    · subst kj
      rw [sw_r]; exact h1
    · rw [sw_o f (k := k) (by omega) kj]
      have := h.a k k0 kn kj
      rw [kp] at this
      omega

theorem up_done {f : Nat → Nat} {n j : Nat} (h : UpInv f n j) (he : j = 0 ∨ ¬ f j < f ((j - 1) / 2)) : Ord f n := by
  intro k k0 kn
  by_cases kj : k = j
  · subst kj
    rcases he with h0 | h1
    · omega
    · omega
  · exact h.a k k0 kn kj

theorem down_step {f : Nat → Nat} {n i j : Nat} (h : Hole f n i) (hj0 : 0 < j) (hjn : j < n) (hji : (j - 1) / 2 = i) (hmin : ∀ k, 0 < k → k < n → (k - 1) / 2 = i → f j ≤ f k) (hlt : f j < f i) : Moved (sw f i j) n j := by
  have hij : i < j := by omega
  refine ⟨⟨fun k k0 kn kj kp => ?_, fun _ k k0 kn kp => ?_⟩, fun _ => ?_⟩
  · by_cases ki : k = i
    · subst ki
      rw [sw_l, sw_o f (k := (k - 1) / 2) (by omega) (by omega)]
      exact h.b k0 j hj0 hjn hji
    · rw [sw_o f (k := k) ki kj]
      by_cases pi : (k - 1) / 2 = i
      · rw [pi, sw_l]
        exact hmin k k0 kn pi
      · rw [sw_o f pi kp]
        exact h.a k k0 kn ki pi
  · rw [hji, sw_l, sw_o f (k := k) (by omega) (by omega)]
    have := h.a k k0 kn (by omega) (by omega)
    rw [kp] at this
    exact this
  · rw [hji, sw_l, sw_r]
    omega

theorem down_moved {f : Nat → Nat} {n i : Nat} (h : Moved f n i) (he : ∀ k, 0 < k → k < n → (k - 1) / 2 = i → f i ≤ f k) : Ord f n := by
  intro k k0 kn
  by_cases ki : k = i
  · subst ki; exact h.c k0
  · by_cases kp : (k - 1) / 2 = i
    · rw [kp]; exact he k k0 kn kp
    · exact h.h.a k k0 kn ki kp

theorem down_still {f : Nat → Nat} {n i : Nat} (h : Hole f n i) (he : ∀ k, 0 < k → k < n → (k - 1) / 2 = i → f i ≤ f k) : UpInv f n i := by
  refine ⟨fun k k0 kn ki => ?_, h.b⟩
  by_cases kp : (k - 1) / 2 = i
  · rw [kp]; exact he k k0 kn kp
  · exact h.a k k0 kn ki kp

theorem ord_top {f : Nat → Nat} {n : Nat} (h : Ord f n) : ∀ m k, k ≤ m → k < n → f 0 ≤ f k
  | 0, k, hk, _ => by have : k = 0 := by omega
                      subst this; exact Nat.le_refl _
  | m + 1, k, hk, hn => by
    by_cases k0 : k = 0
    · subst k0; exact Nat.le_refl _
    · have h1 := h k (by omega) hn
      have h2 := ord_top h m ((k - 1) / 2) (by omega) (by omega)
      omega

/-- A heap whose key at i is changed is one with a hole at i. -/
theorem hole_of {f g : Nat → Nat} {n i : Nat} (h : Ord f n) (he : ∀ k, k < n → k ≠ i → g k = f k) (hi : i < n) : Hole g n i := by
  refine ⟨fun k k0 kn ki kp => ?_, fun i0 k k0 kn kp => ?_⟩
  · rw [he k kn ki, he _ (by omega) kp]
    exact h k k0 kn
  · rw [he k kn (by omega), he _ (by omega) (by omega)]
    have h1 := h k k0 kn
    have h2 := h i i0 hi
    rw [kp] at h1
    omega
theorem Ord.less {f : Nat → Nat} {n m : Nat} (h : Ord f n) (hm : m ≤ n) : Ord f m := fun k k0 kn => h k k0 (by omega)
/-- One more at the end. -/
theorem up_of {f : Nat → Nat} {n : Nat} (h : Ord f n) : UpInv f (n + 1) n :=
  ⟨fun k k0 kn ki => h k k0 (by omega), fun _ k k0 kn kp => by omega⟩
end Go.Proofs.Ybulkits
