/-
  The model's queue against the network's, plainly.
-/
import Derived.Test.YbulkitsOldest
namespace Go.Proofs.Ybulkits
set_option linter.unusedVariables false
set_option linter.unusedSimpArgs false

variable {S S' : Nat → Option Lk} {Q : List (Nat × Nat)} {hd : Nat → Bool} {next : Nat}

/-- The ids of the messages of the pair p. -/
def idsOf (Q : List (Nat × Nat)) (p : Nat) : List Nat := (Q.filter fun x => decide (x.1 = p)).map (·.2)

structure Sim (S : Nat → Option Lk) (Q : List (Nat × Nat)) (hd : Nat → Bool) (next : Nat) : Prop where
  q : ∀ p, p < 9 → qOf S p = idsOf Q p
  h : ∀ p, p < 9 → hOf S p = hd p
  nine : ∀ x ∈ Q, x.1 < 9
  up : Q.Pairwise fun x y => x.2 < y.2
  lt : ∀ x ∈ Q, x.2 < next

theorem Sim.start : Sim (fun _ => none) [] (fun _ => false) 0 := ⟨fun _ _ => rfl, fun _ _ => rfl, by simp, .nil, by simp⟩

theorem idsOf_snoc (Q : List (Nat × Nat)) (p n q : Nat) : idsOf (Q ++ [(p, n)]) q = if q = p then idsOf Q q ++ [n] else idsOf Q q := by
  unfold idsOf
  rw [List.filter_append, List.map_append]
  by_cases h : q = p
  · subst h; simp
  · have : ¬ p = q := fun e => h e.symm
    simp [h, this]

theorem Sim.send {p : Nat} (s : Sim S Q hd next) (hp : p < 9) (h1 : hOf S' p = hOf S p) (h2 : qOf S' p = qOf S p ++ [next]) (h3 : ∀ q, q ≠ p → S' q = S q) : Sim S' (Q ++ [(p, next)]) hd (next + 1) := by
  refine ⟨fun q hq => ?_, fun q hq => ?_, fun x hx => ?_, ?_, fun x hx => ?_⟩
  · rw [idsOf_snoc]
    by_cases hqp : q = p
    · subst hqp; rw [if_pos rfl, h2, s.q q hq]
    · rw [if_neg hqp, ← s.q q hq]; simp [qOf, h3 q hqp]
  · by_cases hqp : q = p
    · subst hqp; rw [h1]; exact s.h q hq
    · rw [← s.h q hq]; simp [hOf, h3 q hqp]
  · rcases List.mem_append.1 hx with h | h
    · exact s.nine x h
    · obtain rfl := List.mem_singleton.1 h; exact hp
  · refine List.pairwise_append.2 ⟨s.up, List.pairwise_singleton _ _, fun x hx y hy => ?_⟩
    obtain rfl := List.mem_singleton.1 hy
    exact s.lt x hx
  · rcases List.mem_append.1 hx with h | h
    · have := s.lt x h; omega
    · obtain rfl := List.mem_singleton.1 h; simp

theorem Sim.mark {p : Nat} {b : Bool} (s : Sim S Q hd next) (hp : p < 9) (h1 : hOf S' p = b) (h2 : qOf S' p = qOf S p) (h3 : ∀ q, q ≠ p → S' q = S q) : Sim S' Q (fun q => if q = p then b else hd q) next := by
  refine ⟨fun q hq => ?_, fun q hq => ?_, s.nine, s.up, s.lt⟩
  · by_cases hqp : q = p
    · subst hqp; rw [h2, s.q q hq]
    · rw [← s.q q hq]; simp [qOf, h3 q hqp]
  · by_cases hqp : q = p
    · subst hqp; simp [h1]
    · simp only [if_neg hqp]; rw [← s.h q hq]; simp [hOf, h3 q hqp]

/-- The first that is not held back. -/
structure FirstAt (Q : List (Nat × Nat)) (hd : Nat → Bool) (i p n : Nat) : Prop where
  at' : Q[i]? = some (p, n)
  free : hd p = false
  before : ∀ (j : Nat) (x : Nat × Nat), j < i → Q[j]? = some x → hd x.1 = true

theorem mem_ids {p n : Nat} (h : (p, n) ∈ Q) : n ∈ idsOf Q p := List.mem_map.2 ⟨(p, n), List.mem_filter.2 ⟨h, by simp⟩, rfl⟩
theorem ids_mem {p n : Nat} (h : n ∈ idsOf Q p) : (p, n) ∈ Q := by
  obtain ⟨x, hx, rfl⟩ := List.mem_map.1 h
  obtain ⟨h1, h2⟩ := List.mem_filter.1 hx
  have : x.1 = p := by simpa using h2
  subst this
  exact h1
theorem Sim.sorted (s : Sim S Q hd next) (p : Nat) : (idsOf Q p).Pairwise (· < ·) := by
  unfold idsOf
  rw [List.pairwise_map]
  exact List.Pairwise.filter _ s.up
theorem Sim.pos (s : Sim S Q hd next) {i j : Nat} {x y : Nat × Nat} (hx : Q[i]? = some x) (hy : Q[j]? = some y) (h : x.2 < y.2) : i < j := by
  rcases Nat.lt_trichotomy i j with h' | h' | h'
  · exact h'
  · subst h'; rw [hx] at hy; obtain rfl := Option.some.inj hy; omega
  · have hi := (List.getElem?_eq_some_iff.1 hx)
    have hj := (List.getElem?_eq_some_iff.1 hy)
    have := (List.pairwise_iff_getElem.1 s.up) j i hj.1 hi.1 h'
    rw [hi.2, hj.2] at this
    omega

/-- The network's first and the model's are one. -/
theorem Sim.same {p n i p' n' : Nat} {r : List Nat} (s : Sim S Q hd next) (hF : First S p n r) (hA : FirstAt Q hd i p' n') : p' = p ∧ n' = n := by
  have hp' : p' < 9 := s.nine _ (List.mem_of_getElem? hA.at')
  have hm : n ∈ idsOf Q p := by rw [← s.q p hF.hp, hF.q]; simp
  obtain ⟨j, hj⟩ := List.mem_iff_getElem?.1 (ids_mem hm)
  have hfree : hd p = false := by rw [← s.h p hF.hp]; exact hF.free
  -- n' ≤ n
  have h1 : ¬ n < n' := fun hlt => by
    have := s.pos hj hA.at' hlt
    have := hA.before j _ this hj
    rw [hfree] at this
    cases this
  -- n ≤ n'
  have h2 : n ≤ n' := by
    have hm' := mem_ids (List.mem_of_getElem? hA.at')
    obtain ⟨m, r', hr'⟩ := List.exists_cons_of_ne_nil (List.ne_nil_of_mem hm')
    have hle := hF.least p' m r' hp' (by rw [s.q p' hp']; exact hr') (by rw [s.h p' hp']; exact hA.free)
    have hsrt := s.sorted p'
    rw [hr'] at hm' hsrt
    rcases List.mem_cons.1 hm' with e | e
    · omega
    · have := (List.pairwise_cons.1 hsrt).1 n' e
      omega
  have e : n' = n := by omega
  subst e
  refine ⟨?_, rfl⟩
  -- one id, one place
  rcases Nat.lt_trichotomy i j with h | h | h
  · have hi := List.getElem?_eq_some_iff.1 hA.at'
    have hj' := List.getElem?_eq_some_iff.1 hj
    have := (List.pairwise_iff_getElem.1 s.up) i j hi.1 hj'.1 h
    rw [hi.2, hj'.2] at this
    simp at this
  · subst h
    rw [hA.at'] at hj
    simpa using hj
  · have hi := List.getElem?_eq_some_iff.1 hA.at'
    have hj' := List.getElem?_eq_some_iff.1 hj
    have := (List.pairwise_iff_getElem.1 s.up) j i hj'.1 hi.1 h
    rw [hi.2, hj'.2] at this
    simp at this

theorem Sim.nobody (s : Sim S Q hd next) (h : ∀ p n r, p < 9 → qOf S p = n :: r → hOf S p = true) : ∀ x ∈ Q, hd x.1 = true := fun x hx => by
  have hp := s.nine x hx
  have hm := mem_ids (Q := Q) (p := x.1) (n := x.2) hx
  obtain ⟨m, r, hr⟩ := List.exists_cons_of_ne_nil (List.ne_nil_of_mem hm)
  rw [← s.h _ hp]
  exact h x.1 m r hp (by rw [s.q _ hp]; exact hr)

theorem idsOf_erase {i p n q : Nat} (hQ : Q[i]? = some (p, n)) : idsOf (Q.eraseIdx i) q = if q = p then (idsOf (Q.take i) q) ++ (idsOf (Q.drop (i + 1)) q) else idsOf Q q := by
  have e1 : Q.eraseIdx i = Q.take i ++ Q.drop (i + 1) := List.eraseIdx_eq_take_drop_succ Q i
  have hi := List.getElem?_eq_some_iff.1 hQ
  have e2 : Q = Q.take i ++ (p, n) :: Q.drop (i + 1) := by
    conv => lhs; rw [← List.take_append_drop i Q]
    rw [List.drop_eq_getElem_cons hi.1, hi.2]
  by_cases hq : q = p
  · rw [if_pos hq, e1]; unfold idsOf; rw [List.filter_append, List.map_append]
  · rw [if_neg hq, e1]
    conv => rhs; rw [e2]
    unfold idsOf
    have : ¬ p = q := fun e => hq e.symm
    simp [List.filter_append, List.filter_cons, this]

theorem Sim.take {p n i : Nat} {r : List Nat} (s : Sim S Q hd next) (hF : First S p n r) (hA : FirstAt Q hd i p n) (h1 : hOf S' p = false) (h2 : qOf S' p = r) (h3 : ∀ q, q ≠ p → S' q = S q) : Sim S' (Q.eraseIdx i) hd next := by
  have hi := List.getElem?_eq_some_iff.1 hA.at'
  have e2 : Q = Q.take i ++ (p, n) :: Q.drop (i + 1) := by
    conv => lhs; rw [← List.take_append_drop i Q]
    rw [List.drop_eq_getElem_cons hi.1, hi.2]
  have hfree : hd p = false := hA.free
  have hnone : idsOf (Q.take i) p = [] := by
    unfold idsOf
    rw [List.map_eq_nil_iff, List.filter_eq_nil_iff]
    intro x hx hxp
    obtain ⟨j, hj⟩ := List.mem_iff_getElem?.1 hx
    have hji : j < i := by have := (List.getElem?_eq_some_iff.1 hj).1; simp at this; omega
    rw [List.getElem?_take_of_lt hji] at hj
    have hb := hA.before j x hji hj
    have hxp' : x.1 = p := by simpa using hxp
    rw [hxp', hfree] at hb
    cases hb
  have hsub := List.eraseIdx_sublist Q i
  refine ⟨fun q hq => ?_, fun q hq => ?_, fun x hx => s.nine x (hsub.mem hx), s.up.sublist hsub, fun x hx => s.lt x (hsub.mem hx)⟩
  · rw [idsOf_erase hA.at']
    by_cases hqp : q = p
    · subst hqp
      rw [if_pos rfl, hnone, List.nil_append, h2]
      have hq0 := s.q q hq
      rw [hF.q] at hq0
      have : idsOf Q q = idsOf (Q.take i) q ++ n :: idsOf (Q.drop (i + 1)) q := by
        conv => lhs; rw [e2]
        unfold idsOf
        simp [List.filter_append, List.filter_cons]
      rw [this, hnone, List.nil_append] at hq0
      exact (List.cons.inj hq0).2
    · rw [if_neg hqp, ← s.q q hq]; simp [qOf, h3 q hqp]
  · by_cases hqp : q = p
    · subst hqp; rw [h1, hfree]
    · rw [← s.h q hq]; simp [hOf, h3 q hqp]
end Go.Proofs.Ybulkits
