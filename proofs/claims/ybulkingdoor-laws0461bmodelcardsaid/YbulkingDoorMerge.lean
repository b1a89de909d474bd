/-
  Union's second loop, plainly.
-/
import Derived.Test.YbulkingDoorSort
namespace Go.Proofs.YbulkingDoor
open Go.Sort Go.Lib
set_option linter.unusedVariables false

/-- A Range that fits. -/
def Fit (x : Bool × Nat × Nat) : Prop := x.2.1 ≤ x.2.2 ∧ x.2.2 ≤ 255

/-- k of the sorted Ranges are taken in. -/
structure Mrg (V : List (Bool × Nat × Nat)) (k : Nat) (L : List (Bool × Nat × Nat)) : Prop where
  norm : Norm (L.map key2)
  cov : ∀ t, Cov (L.map key2) t ↔ Cov ((V.take k).map key2) t
  fit : ∀ x ∈ L, Fit x
  from' : ∀ x ∈ L, ∃ (i : Nat) (y : Bool × Nat × Nat), i < k ∧ V[i]? = some y ∧ (key2 x).1 = (key2 y).1
  len : L.length ≤ k

theorem Mrg.start (V : List (Bool × Nat × Nat)) : Mrg V 0 [] := ⟨Norm.nil, fun t => by simp, by simp, by simp, by simp⟩

theorem fam_bd (v : Bool) : fam v = 0 ∨ fam v = 512 := by cases v <;> simp [fam]
theorem fam_inj {u v : Bool} (h : fam u = fam v) : u = v := by cases u <;> cases v <;> simp [fam] at h ⊢

theorem key_le {x y : Bool × Nat × Nat} (h : ltOf cf y x = false) (hx : x.2.1 ≤ 255) (hy : y.2.1 ≤ 255) : (key2 x).1 ≤ (key2 y).1 := by
  rw [ltOf_cf] at h
  simp only [decide_eq_false_iff_not] at h
  obtain ⟨xv, xs, xe⟩ := x
  obtain ⟨yv, ys, ye⟩ := y
  simp only [key2]
  cases xv <;> cases yv <;> simp [fam] at h hx hy ⊢ <;> omega

variable {V L : List (Bool × Nat × Nat)} {k : Nat} {r : Bool × Nat × Nat}

theorem take_snoc (h : V[k]? = some r) : (V.take (k + 1)).map key2 = (V.take k).map key2 ++ [key2 r] := by
  rw [List.take_add_one, h]; simp

/-- A Range that touches nothing. -/
theorem Mrg.fresh (h : Mrg V k L) (hr : V[k]? = some r) (hf : Fit r) (hfar : ∀ p ∈ L.map key2, p.2 + 1 < (key2 r).1) : Mrg V (k + 1) (L ++ [r]) := by
  obtain ⟨h1, h2⟩ := merge_new h.norm h.cov (r := key2 r) (by simp [key2]; exact hf.1) hfar
  refine ⟨by simpa using h1, fun t => ?_, fun x hx => ?_, fun x hx => ?_, by have := h.len; simp; omega⟩
  · rw [take_snoc hr, ← h2 t]; simp
  · rcases List.mem_append.1 hx with h' | h'
    · exact h.fit x h'
    · obtain rfl := List.mem_singleton.1 h'; exact hf
  · rcases List.mem_append.1 hx with h' | h'
    · obtain ⟨i, y, hi, e⟩ := h.from' x h'; exact ⟨i, y, by omega, e⟩
    · obtain rfl := List.mem_singleton.1 h'; exact ⟨k, _, by omega, hr, rfl⟩

/-- A Range that meets the last one. -/
theorem Mrg.meet {M : List (Bool × Nat × Nat)} {v : Bool} {lo hi : Nat} (h : Mrg V k (M ++ [(v, lo, hi)])) (hr : V[k]? = some r) (hf : Fit r) (hx : fam v + lo ≤ (key2 r).1) (ht : (key2 r).1 ≤ fam v + hi + 1) :
    r.1 = v ∧ Mrg V (k + 1) (M ++ [(v, lo, max hi r.2.2)]) := by
  have hl := h.fit (v, lo, hi) (by simp)
  have e : r.1 = v := by
    apply fam_inj
    have := fam_bd v
    have := fam_bd r.1
    obtain ⟨f1, f2⟩ := hf
    obtain ⟨g1, g2⟩ := hl
    simp only [key2] at hx ht
    simp only at g1 g2
    omega
  refine ⟨e, ?_⟩
  have hm : (M ++ [(v, lo, hi)]).map key2 = M.map key2 ++ [(fam v + lo, fam v + hi)] := by simp [key2]
  have hm2 : (M ++ [(v, lo, max hi r.2.2)]).map key2 = M.map key2 ++ [(fam v + lo, max (fam v + hi) (key2 r).2)] := by
    simp only [List.map_append, List.map_cons, List.map_nil, key2, e]
    congr 3
    omega
  have hn := h.norm
  have hc := h.cov
  rw [hm] at hn
  simp only [hm] at hc
  obtain ⟨h1, h2⟩ := merge_more (r := key2 r) hn hc hx (by omega)
  refine ⟨by rw [hm2]; exact h1, fun t => by rw [hm2, take_snoc hr]; exact h2 t, fun x hx' => ?_, fun x hx' => ?_, by have := h.len; simp at this ⊢; omega⟩
  · rcases List.mem_append.1 hx' with h' | h'
    · exact h.fit x (List.mem_append_left _ h')
    · obtain rfl := List.mem_singleton.1 h'
      obtain ⟨f1, f2⟩ := hf
      obtain ⟨g1, g2⟩ := hl
      exact ⟨by simp only at g1 ⊢; omega, by simp only at g2 ⊢; omega⟩
  · rcases List.mem_append.1 hx' with h' | h'
    · obtain ⟨i, y, hi, e⟩ := h.from' x (List.mem_append_left _ h'); exact ⟨i, y, by omega, e⟩
    · obtain rfl := List.mem_singleton.1 h'
      obtain ⟨i, y, hi', e1, e2⟩ := h.from' (v, lo, hi) (by simp)
      exact ⟨i, y, by omega, e1, e2⟩
end Go.Proofs.YbulkingDoor
