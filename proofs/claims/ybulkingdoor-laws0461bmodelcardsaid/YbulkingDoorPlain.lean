/-
  Lists of intervals, apart and in order: what they cover settles them.
-/
import Derived.Test.YbulkingDoorChecked
namespace Go.Proofs.YbulkingDoor
set_option linter.unusedVariables false

/-- Intervals in order that neither overlap nor touch. -/
structure Norm (l : List (Nat × Nat)) : Prop where
  le : ∀ p ∈ l, p.1 ≤ p.2
  apart : l.Pairwise fun p q => p.2 + 1 < q.1
def Cov (l : List (Nat × Nat)) (n : Nat) : Prop := ∃ p ∈ l, p.1 ≤ n ∧ n ≤ p.2

theorem Norm.nil : Norm [] := ⟨by simp, .nil⟩
theorem cov_nil (n : Nat) : ¬ Cov [] n := by simp [Cov]
theorem cov_cons (p : Nat × Nat) (l : List (Nat × Nat)) (n : Nat) : Cov (p :: l) n ↔ (p.1 ≤ n ∧ n ≤ p.2) ∨ Cov l n := by simp [Cov]
theorem cov_append (l m : List (Nat × Nat)) (n : Nat) : Cov (l ++ m) n ↔ Cov l n ∨ Cov m n := by
  simp only [Cov, List.mem_append]
  constructor
  · rintro ⟨p, h | h, e⟩
    · exact .inl ⟨p, h, e⟩
    · exact .inr ⟨p, h, e⟩
  · rintro (⟨p, h, e⟩ | ⟨p, h, e⟩)
    · exact ⟨p, .inl h, e⟩
    · exact ⟨p, .inr h, e⟩
theorem cov_one (p : Nat × Nat) (n : Nat) : Cov [p] n ↔ p.1 ≤ n ∧ n ≤ p.2 := by simp [Cov]

theorem Norm.tail {p : Nat × Nat} {l : List (Nat × Nat)} (h : Norm (p :: l)) : Norm l :=
  ⟨fun q hq => h.le q (List.mem_cons_of_mem _ hq), (List.pairwise_cons.1 h.apart).2⟩
theorem Norm.far {p : Nat × Nat} {l : List (Nat × Nat)} (h : Norm (p :: l)) {n : Nat} (hc : Cov l n) : p.2 + 1 < n := by
  obtain ⟨q, hq, h1, h2⟩ := hc
  have := (List.pairwise_cons.1 h.apart).1 q hq
  omega

theorem norm_unique : ∀ {l m : List (Nat × Nat)}, Norm l → Norm m → (∀ n, Cov l n ↔ Cov m n) → l = m
  | [], [], _, _, _ => rfl
  | [], q :: m, _, hm, h => absurd ((h q.1).2 ⟨q, List.mem_cons_self, Nat.le_refl _, hm.le q List.mem_cons_self⟩) (cov_nil _)
  | p :: l, [], hl, _, h => absurd ((h p.1).1 ⟨p, List.mem_cons_self, Nat.le_refl _, hl.le p List.mem_cons_self⟩) (cov_nil _)
  | p :: l, q :: m, hl, hm, h => by
    have p1 := hl.le p List.mem_cons_self
    have q1 := hm.le q List.mem_cons_self
    have e1 : p.1 = q.1 := by
      have a := (h p.1).1 ((cov_cons _ _ _).2 (.inl ⟨Nat.le_refl _, p1⟩))
      have b := (h q.1).2 ((cov_cons _ _ _).2 (.inl ⟨Nat.le_refl _, q1⟩))
      rcases (cov_cons _ _ _).1 a with a | a
      · rcases (cov_cons _ _ _).1 b with b | b
        · omega
        · have := hl.far b; omega
      · have a' := hm.far a
        rcases (cov_cons _ _ _).1 b with b | b
        · omega
        · have := hl.far b; omega
    have e2 : p.2 = q.2 := by
      rcases Nat.lt_trichotomy p.2 q.2 with hlt | heq | hgt
      · have b := (h (p.2 + 1)).2 ((cov_cons _ _ _).2 (.inl ⟨by omega, by omega⟩))
        rcases (cov_cons _ _ _).1 b with b | b
        · omega
        · have := hl.far b; omega
      · exact heq
      · have b := (h (q.2 + 1)).1 ((cov_cons _ _ _).2 (.inl ⟨by omega, by omega⟩))
        rcases (cov_cons _ _ _).1 b with b | b
        · omega
        · have := hm.far b; omega
    have e : p = q := Prod.ext e1 e2
    subst e
    congr 1
    refine norm_unique hl.tail hm.tail fun n => ?_
    constructor
    · intro hc
      rcases (cov_cons _ _ _).1 ((h n).1 ((cov_cons _ _ _).2 (.inr hc))) with b | b
      · have := hl.far hc; omega
      · exact b
    · intro hc
      rcases (cov_cons _ _ _).1 ((h n).2 ((cov_cons _ _ _).2 (.inr hc))) with b | b
      · have := hm.far hc; omega
      · exact b

theorem Norm.snoc {l : List (Nat × Nat)} {x y : Nat} (h : Norm l) (hx : x ≤ y) (hf : ∀ p ∈ l, p.2 + 1 < x) : Norm (l ++ [(x, y)]) := by
  refine ⟨fun p hp => ?_, List.pairwise_append.2 ⟨h.apart, List.pairwise_singleton _ _, fun p hp q hq => ?_⟩⟩
  · rcases List.mem_append.1 hp with h' | h'
    · exact h.le p h'
    · obtain rfl := List.mem_singleton.1 h'; exact hx
  · obtain rfl := List.mem_singleton.1 hq; exact hf p hp
theorem Norm.init {l : List (Nat × Nat)} {x y : Nat} (h : Norm (l ++ [(x, y)])) : Norm l ∧ x ≤ y ∧ ∀ p ∈ l, p.2 + 1 < x := by
  obtain ⟨h1, h2, h3⟩ := List.pairwise_append.1 h.apart
  exact ⟨⟨fun p hp => h.le p (List.mem_append_left _ hp), h1⟩, h.le (x, y) (List.mem_append_right _ List.mem_cons_self), fun p hp => h3 p hp (x, y) List.mem_cons_self⟩
/-- The last interval made longer. -/
theorem Norm.longer {l : List (Nat × Nat)} {x y y' : Nat} (h : Norm (l ++ [(x, y)])) (hy : y ≤ y') : Norm (l ++ [(x, y')]) := by
  obtain ⟨h1, h2, h3⟩ := h.init
  exact h1.snoc (by omega) h3

/-- One step of Union: r is taken in behind intervals none of which begins behind it. -/
theorem merge_more {l d : List (Nat × Nat)} {x y : Nat} {r : Nat × Nat} (h : Norm (l ++ [(x, y)])) (hc : ∀ n, Cov (l ++ [(x, y)]) n ↔ Cov d n) (hx : x ≤ r.1) (ht : r.1 ≤ y + 1) :
    Norm (l ++ [(x, max y r.2)]) ∧ ∀ n, Cov (l ++ [(x, max y r.2)]) n ↔ Cov (d ++ [r]) n := by
  refine ⟨h.longer (by omega), fun n => ?_⟩
  have := hc n
  rw [cov_append, cov_one] at this ⊢
  rw [cov_append, cov_one, ← this]
  simp only
  obtain ⟨_, h2, _⟩ := h.init
  constructor
  · rintro (hl | hl)
    · exact .inl (.inl hl)
    · by_cases e : n ≤ y
      · exact .inl (.inr ⟨hl.1, e⟩)
      · exact .inr ⟨by omega, by omega⟩
  · rintro ((hl | hl) | hl)
    · exact .inl hl
    · exact .inr ⟨hl.1, by omega⟩
    · exact .inr ⟨by omega, by omega⟩
theorem merge_new {l d : List (Nat × Nat)} {r : Nat × Nat} (h : Norm l) (hc : ∀ n, Cov l n ↔ Cov d n) (hr : r.1 ≤ r.2) (hf : ∀ p ∈ l, p.2 + 1 < r.1) :
    Norm (l ++ [r]) ∧ ∀ n, Cov (l ++ [r]) n ↔ Cov (d ++ [r]) n :=
  ⟨h.snoc hr hf, fun n => by rw [cov_append, cov_append, hc n]⟩

/-- What a permutation covers. -/
theorem cov_perm {l m : List (Nat × Nat)} (h : ∀ p, p ∈ l ↔ p ∈ m) (n : Nat) : Cov l n ↔ Cov m n := by
  simp only [Cov, h]
end Go.Proofs.YbulkingDoor
