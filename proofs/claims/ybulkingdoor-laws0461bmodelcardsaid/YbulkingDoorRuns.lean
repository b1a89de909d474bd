/-
  The runs of covered addresses: what zzs0461bmodel's last loops keep.
-/
import Derived.Test.YbulkingDoorPlain
namespace Go.Proofs.YbulkingDoor
set_option linter.unusedVariables false

/-- An interval of addresses as one of numbers: the families lie 512 apart. -/
def fam (v6 : Bool) : Nat := if v6 then 512 else 0
def key2 (x : Bool × Nat × Nat) : Nat × Nat := (fam x.1 + x.2.1, fam x.1 + x.2.2)
/-- Whether the number t is a covered address; c: the 512 flags. -/
def Hit (c : Nat → Bool) (t : Nat) : Prop := ∃ v6 b, b < 256 ∧ t = fam v6 + b ∧ c ((if v6 then 256 else 0) + b) = true

structure Runs (c : Nat → Bool) (v6 : Bool) (j : Nat) (L : List (Bool × Nat × Nat)) : Prop where
  norm : Norm (L.map key2)
  cov : ∀ t, Cov (L.map key2) t ↔ Hit c t ∧ t < fam v6 + j
  bd : ∀ x ∈ L, x.2.1 ≤ x.2.2 ∧ x.2.2 ≤ 255
  far : ∀ p ∈ L.map key2, p.2 + 1 ≤ fam v6 + j
  gap : j < 256 → c ((if v6 then 256 else 0) + j) = true → ∀ p ∈ L.map key2, p.2 + 1 < fam v6 + j

variable {c : Nat → Bool} {v6 : Bool} {j : Nat} {L : List (Bool × Nat × Nat)}

theorem Runs.start (c : Nat → Bool) : Runs c false 0 [] :=
  ⟨Norm.nil, fun t => by simp [cov_nil, fam], by simp, by simp, by simp⟩

theorem hit_at (v6 : Bool) (b : Nat) (hb : b < 256) : Hit c (fam v6 + b) ↔ c ((if v6 then 256 else 0) + b) = true := by
  constructor
  · rintro ⟨w6, d, hd, e, h⟩
    cases v6 <;> cases w6 <;> simp [fam] at e h ⊢
    · subst e; simpa using h
    · omega
    · omega
    · subst e; simpa using h
  · intro h
    exact ⟨v6, b, hb, rfl, h⟩

theorem Runs.skip (h : Runs c v6 j L) (hj : j < 256) (hc : c ((if v6 then 256 else 0) + j) = false) : Runs c v6 (j + 1) L := by
  refine ⟨h.norm, fun t => ?_, h.bd, fun p hp => by have := h.far p hp; omega, fun _ _ p hp => by have := h.far p hp; omega⟩
  rw [h.cov]
  constructor
  · rintro ⟨h1, h2⟩; exact ⟨h1, by omega⟩
  · rintro ⟨h1, h2⟩
    refine ⟨h1, ?_⟩
    by_cases e : t = fam v6 + j
    · subst e
      rw [hit_at v6 j hj, hc] at h1
      cases h1
    · omega

theorem Runs.run (h : Runs c v6 j L) {k : Nat} (hjk : j ≤ k) (hk : k < 256) (hc : ∀ b, j ≤ b → b ≤ k → c ((if v6 then 256 else 0) + b) = true) (he : k + 1 < 256 → c ((if v6 then 256 else 0) + (k + 1)) = false) :
    Runs c v6 (k + 1) (L ++ [(v6, j, k)]) := by
  have hm : (L ++ [(v6, j, k)]).map key2 = L.map key2 ++ [(fam v6 + j, fam v6 + k)] := by simp [key2]
  have hg := h.gap (by omega) (hc j (Nat.le_refl _) hjk)
  refine ⟨?_, fun t => ?_, fun x hx => ?_, fun p hp => ?_, fun h1 h2 => ?_⟩
  · rw [hm]; exact h.norm.snoc (by omega) hg
  · rw [hm, cov_append, cov_one, h.cov]
    simp only
    constructor
    · rintro (⟨h1, h2⟩ | ⟨h1, h2⟩)
      · exact ⟨h1, by omega⟩
      · refine ⟨?_, by omega⟩
        have e : t = fam v6 + (t - fam v6) := by omega
        rw [e, hit_at v6 _ (by omega)]
        exact hc _ (by omega) (by omega)
    · rintro ⟨h1, h2⟩
      by_cases e : t < fam v6 + j
      · exact .inl ⟨h1, e⟩
      · exact .inr ⟨by omega, by omega⟩
  · rcases List.mem_append.1 hx with h' | h'
    · exact h.bd x h'
    · obtain rfl := List.mem_singleton.1 h'
      exact ⟨hjk, by simp; omega⟩
  · rw [hm] at hp
    rcases List.mem_append.1 hp with h' | h'
    · have := hg p h'; omega
    · obtain rfl := List.mem_singleton.1 h'; simp; omega
  · rw [he h1] at h2; cases h2

theorem fam0 : fam false = 0 := rfl
theorem fam1 : fam true = 512 := rfl

theorem Runs.next (h : Runs c false 256 L) : Runs c true 0 L := by
  have hf := h.far
  have hc := h.cov
  rw [fam0] at hf hc
  refine ⟨h.norm, ?_, h.bd, ?_, ?_⟩
  · rw [fam1]
    intro t
    rw [hc]
    constructor
    · rintro ⟨h1, h2⟩; exact ⟨h1, by omega⟩
    · rintro ⟨h1, h2⟩
      refine ⟨h1, ?_⟩
      obtain ⟨w6, b, hb, e, _⟩ := h1
      cases w6
      · rw [fam0] at e; omega
      · rw [fam1] at e; omega
  · rw [fam1]; intro p hp; have := hf p hp; omega
  · rw [fam1]; intro _ _ p hp; have := hf p hp; omega

theorem Runs.all (h : Runs c true 256 L) : Norm (L.map key2) ∧ (∀ t, Cov (L.map key2) t ↔ Hit c t) ∧ ∀ x ∈ L, x.2.1 ≤ x.2.2 ∧ x.2.2 ≤ 255 := by
  have hc := h.cov
  rw [fam1] at hc
  refine ⟨h.norm, fun t => ?_, h.bd⟩
  rw [hc]
  constructor
  · exact fun h => h.1
  · intro h1
    refine ⟨h1, ?_⟩
    obtain ⟨w6, b, hb, e, _⟩ := h1
    cases w6
    · rw [fam0] at e; omega
    · rw [fam1] at e; omega
end Go.Proofs.YbulkingDoor
