/-
  What the model marks is what the valid Ranges cover; two lists with the same intervals are the same.
-/
import Derived.Test.YbulkingDoorUnion
namespace Go.Proofs.YbulkingDoor
set_option linter.unusedVariables false

theorem key2_inj {x y : Bool × Nat × Nat} (hx : x.2.1 ≤ 255) (hx2 : x.2.2 ≤ 255) (hy : y.2.1 ≤ 255) (hy2 : y.2.2 ≤ 255) (h : key2 x = key2 y) : x = y := by
  obtain ⟨xv, xs, xe⟩ := x
  obtain ⟨yv, ys, ye⟩ := y
  simp only [key2, Prod.mk.injEq] at h
  cases xv <;> cases yv <;> simp [fam] at h hx hx2 hy hy2 ⊢ <;> omega

theorem keys_inj : ∀ {L M : List (Bool × Nat × Nat)}, (∀ x ∈ L, Fit x) → (∀ x ∈ M, Fit x) → L.map key2 = M.map key2 → L = M
  | [], [], _, _, _ => rfl
  | [], _ :: _, _, _, h => by simp at h
  | _ :: _, [], _, _, h => by simp at h
  | x :: L, y :: M, hL, hM, h => by
    simp only [List.map_cons, List.cons.injEq] at h
    obtain ⟨f1, f2⟩ := hL x List.mem_cons_self
    obtain ⟨g1, g2⟩ := hM y List.mem_cons_self
    rw [key2_inj (Nat.le_trans f1 f2) f2 (Nat.le_trans g1 g2) g2 h.1, keys_inj (fun z hz => hL z (List.mem_cons_of_mem _ hz)) (fun z hz => hM z (List.mem_cons_of_mem _ hz)) h.2]

theorem hit_cov (xs : List Spn) (h255 : ∀ x ∈ xs, x.s ≤ 255 ∧ x.l ≤ 255) (t : Nat) : Hit (covB xs) t ↔ Cov ((valid xs).map key2) t := by
  constructor
  · rintro ⟨v6, b, hb, rfl, hc⟩
    obtain ⟨x, hx, hin⟩ := List.any_eq_true.1 hc
    simp only [inSp, Bool.and_eq_true, Bool.not_eq_true', decide_eq_true_eq] at hin
    obtain ⟨hsk, h1, h2⟩ := hin
    have hx' := h255 x hx
    have he : endOf x.s x.l ≤ 255 := by simp only [endOf]; omega
    refine ⟨key2 (x.v6, x.s, endOf x.s x.l), List.mem_map.2 ⟨_, List.mem_filterMap.2 ⟨x, hx, by simp [vOf, hsk]⟩, rfl⟩, ?_⟩
    simp only [key2]
    cases v6 <;> cases hv : x.v6 <;> simp [hv, fOf, fam] at h1 h2 ⊢ <;> omega
  · rintro ⟨p, hp, h1, h2⟩
    obtain ⟨y, hy, rfl⟩ := List.mem_map.1 hp
    obtain ⟨x, hx, e⟩ := List.mem_filterMap.1 hy
    have hx' := h255 x hx
    unfold vOf at e
    split at e
    · cases e
    · rename_i hsk
      obtain rfl := Option.some.inj e
      have he : endOf x.s x.l ≤ 255 := by simp only [endOf]; omega
      simp only [key2] at h1 h2
      refine ⟨x.v6, t - fam x.v6, by omega, by omega, List.any_eq_true.2 ⟨x, hx, ?_⟩⟩
      simp only [inSp, Bool.and_eq_true, Bool.not_eq_true', decide_eq_true_eq]
      refine ⟨by simpa using hsk, ?_⟩
      cases hv : x.v6 <;> simp [hv, fOf, fam] at h1 h2 ⊢ <;> omega
end Go.Proofs.YbulkingDoor
