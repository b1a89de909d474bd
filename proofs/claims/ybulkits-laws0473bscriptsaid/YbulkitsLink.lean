/-
  Held, Sent, link.
-/
import Derived.Test.YbulkitsNet
namespace Go.Proofs.Ybulkits
open Go.RowKit
set_option linter.unusedVariables false
set_option linter.unusedSimpArgs false

variable {w : World} {base B Bm sent : Nat} {S : Nat → Option Lk} {A : List Nat}

theorem map_set {w : World} {b : Nat} (h : b < w.heap.size) (o : Obj) : ({ w with heap := w.heap.setIfInBounds b o } : World).heap[b]? = some o := by
  simp [Array.getElem?_setIfInBounds, h]
theorem NetIs.cells (h : NetIs w base B Bm sent S A) : ∃ rdy, (w.heap[B]? = some (.cells #[.func (.func 14) #[] #[], .map (some Bm), .int .i64 sent, rdy] 49 (0, 0))) ∧ base ≤ B := by
  obtain ⟨r, e⟩ := h.hp
  exact ⟨r, e.net, e.hB⟩

/-- What the map says of the pair p. -/
theorem NetIs.look (h : NetIs w base B Bm sent S A) {p : Nat} (hp : p < 9) {W : World} (g : Gr w W) :
    (Instr.lookup 45 (.map (some Bm)) (keyV p) false).run Yba.prog W = .ok (match S p with | some k => .pointer (some ⟨k.x, 0, none⟩) | none => .pointer none) W := by
  obtain ⟨l, c, e, n9, nd, hf⟩ := h.map
  rw [lookup_run hp n9 (g.at e)]
  have := hf p hp
  cases hS : S p with
  | none =>
    rw [hS] at this
    have : findL l p 0 = none := by simpa using this
    rw [this]; rfl
  | some k =>
    rw [hS] at this
    obtain ⟨y, hy, hx⟩ := Option.map_eq_some_iff.1 this
    rw [hy]
    simp only [ptrOf, hx]

theorem sent12 (h : NetIs w base B Bm sent S A) : Calls Yba.prog 12 #[.pointer (some ⟨B, 0, none⟩)] w fun e w' => e = .returned (.int .i64 sent) ∧ w' = w := by
  obtain ⟨r, e, _⟩ := h.cells
  have c2 := (ob e 2).1
  go_enter Yba.func12, Yba.ntmps12
  go_wp2
  go_ret
  exact ⟨rfl, rfl⟩

set_option maxRecDepth 100000 in
set_option maxHeartbeats 1600000 in
theorem held11 {p : Nat} (h : NetIs w base B Bm sent S A) (hp : p < 9) : Calls Yba.prog 11 #[.pointer (some ⟨B, 0, none⟩), .string (site (p / 3)), .string (site (p % 3))] w fun e w' => e = .returned (.bool (match S p with | some k => k.held | none => false)) ∧ w' = w := by
  obtain ⟨r, e, _⟩ := h.cells
  have c1 := (ob e 1).1
  have hl := h.look hp (Gr.refl w)
  unfold keyV at hl
  cases hS : S p with
  | none =>
    rw [hS] at hl
    go_enter Yba.func11, Yba.ntmps11
    go_wp2
    go_ret
    exact ⟨rfl, rfl⟩
  | some k =>
    rw [hS] at hl
    obtain ⟨i, ck⟩ := (h.link p k hp hS).cells
    have c3 := (ob ck 3).1
    go_enter Yba.func11, Yba.ntmps11
    go_wp2
    go_ret
    exact ⟨rfl, rfl⟩

set_option maxRecDepth 100000 in
set_option maxHeartbeats 1600000 in
theorem link15 {p : Nat} (h : NetIs w base B Bm sent S A) (hp : p < 9) (hb : base ≤ w.heap.size) : Calls Yba.prog 15 #[.pointer (some ⟨B, 0, none⟩), .agg #[.string (site (p / 3)), .string (site (p % 3))]] w fun e w' => ∃ (k : Lk) (S' : Nat → Option Lk), e = .returned (.pointer (some ⟨k.x, 0, none⟩)) ∧ NetIs w' base B Bm sent S' A ∧ S' p = some k ∧ (∀ q, q ≠ p → S' q = S q) ∧ (S p = some k ∨ (S p = none ∧ k.q = [] ∧ k.held = false)) ∧ Below base w w' ∧ Kept w w' := by
  obtain ⟨r, e, hB⟩ := h.cells
  have hBl := (Array.getElem?_eq_some_iff.1 e).1
  have c1 := (ob e 1).1
  have hl := fun m => h.look hp (((Gr.refl w).alloc (.cells #[.string (site (p / 3)), .string (site (p % 3))] 53)).drewN m)
  unfold keyV at hl
  cases hS : S p with
  | none =>
    simp only [hS] at hl
    obtain ⟨l, cl, em, n9, nd, hf⟩ := h.map
    have hnone : findL l p 0 = none := by have := hf p hp; rw [hS] at this; simpa using this
    go_enter Yba.func15, Yba.ntmps15
    go_wp2_with fail
    go_quiet (fail)
    have hgr : Gr w ((((w.alloc (.cells #[.string (site (p / 3)), .string (site (p % 3))] 53)).drewN nq).alloc (.cells #[.string (site (p / 3)), .string (site (p % 3)), .slice none 0 0, .bool false, .int .i64 0] 56)).drew) := (((((Gr.refl w).alloc _).drewN nq).alloc _).drewN 1)
    have hup := update_run (L := w.heap.size + 1) hp n9 (hgr.at em) hnone
    have hnew : ((((w.alloc (.cells #[.string (site (p / 3)), .string (site (p % 3))] 53)).drewN nq).alloc (.cells #[.string (site (p / 3)), .string (site (p % 3)), .slice none 0 0, .bool false, .int .i64 0] 56)).drew).heap[w.heap.size + 1]? = some (.cells #[.string (site (p / 3)), .string (site (p % 3)), .slice none 0 0, .bool false, .int .i64 0] 56 (0, 0)) := by
      have := heap_alloc_new ((w.alloc (.cells #[.string (site (p / 3)), .string (site (p % 3))] 53)).drewN nq) (.cells #[.string (site (p / 3)), .string (site (p % 3)), .slice none 0 0, .bool false, .int .i64 0] 56)
      rw [show ((w.alloc (.cells #[.string (site (p / 3)), .string (site (p % 3))] 53)).drewN nq).heap.size = w.heap.size + 1 by simp] at this
      exact this
    have hbl : Below base w ((((w.alloc (.cells #[.string (site (p / 3)), .string (site (p % 3))] 53)).drewN nq).alloc (.cells #[.string (site (p / 3)), .string (site (p % 3)), .slice none 0 0, .bool false, .int .i64 0] 56)).drew) := (((below_drew ((Below.refl base w).alloc hb _) nq).alloc (by simp; omega) _).drew)
    unfold keyV at hup
    go_wp2_with fail
    go_region
    go_wp2_with fail
    go_ret
    have gc := hgr.gc.trans (Gc.map (hgr.at em) (.map (ents (l ++ [(p, w.heap.size + 1, cl)])).toArray (cl + 1)))
    have hother : ∀ q k, q < 9 → (if q = p then some (⟨w.heap.size + 1, 0, 0, 0, [], false⟩ : Lk) else S q) = some k → (q = p ∧ k = ⟨w.heap.size + 1, 0, 0, 0, [], false⟩) ∨ (q ≠ p ∧ S q = some k) := fun q k _ e => by
      by_cases hq : q = p
      · rw [if_pos hq] at e; exact .inl ⟨hq, (Option.some.inj e).symm⟩
      · rw [if_neg hq] at e; exact .inr ⟨hq, e⟩
    refine ⟨⟨w.heap.size + 1, 0, 0, 0, [], false⟩, fun q => if q = p then some ⟨w.heap.size + 1, 0, 0, 0, [], false⟩ else S q, rfl, ⟨?_, ?_, ?_, h.bm, ?_, ?_, ?_⟩, by simp, fun q hq => by simp [hq], .inr (by simp), below_map hbl h.bm _, gc.kept⟩
    · obtain ⟨rr, er⟩ := h.hp
      exact ⟨rr, er.gc gc⟩
    · obtain ⟨K, ek, kk⟩ := h.good
      refine ⟨K, ek.gc gc, fun q k n r hq e eq => ?_⟩
      rcases hother q k hq e with ⟨_, rfl⟩ | ⟨_, e'⟩
      · cases eq
      · exact kk q k n r hq e' eq
    · refine ⟨l ++ [(p, w.heap.size + 1, cl)], cl + 1, ?_, ?_, ?_, fun q hq => ?_⟩
      · exact map_set (Array.getElem?_eq_some_iff.1 (hgr.at em)).1 _
      · intro y hy
        rcases List.mem_append.1 hy with h' | h'
        · exact n9 y h'
        · obtain rfl := List.mem_singleton.1 h'; exact hp
      · rw [List.map_append]
        refine List.nodup_append.2 ⟨nd, by simp, fun a ha b hb' => ?_⟩
        simp only [List.map_cons, List.map_nil, List.mem_singleton] at hb'
        subst hb'
        rintro rfl
        exact (findL_mem l 0).1 hnone ha
      · rw [findL_snoc l 0 hnone]
        by_cases hqp : q = p
        · simp [hqp]
        · simp only [if_neg hqp]; exact hf q hq
    · intro q k hq e
      rcases hother q k hq e with ⟨rfl, rfl⟩ | ⟨_, e'⟩
      · exact ⟨by simp; omega, ⟨0, Gc.map (hgr.at em) _ _ _ _ hnew⟩, fun _ => rfl, Nat.le_refl _, by simp [maxLen], fun h0 => absurd h0 (by simp)⟩
      · exact (h.link q k hq e').gc gc
    · intro q k q' k' hq hq' e e' c c' hgg
      rcases hother q k hq e with ⟨_, rfl⟩ | ⟨_, e1⟩
      · simp at c
      · rcases hother q' k' hq' e' with ⟨_, rfl⟩ | ⟨_, e2⟩
        · simp at c'
        · exact h.rinj q k q' k' hq hq' e1 e2 c c' hgg
    · intro y
      rw [h.mem]
      constructor
      · rintro ⟨q, k, hq, e1, r1⟩
        refine ⟨q, k, hq, ?_, r1⟩
        rw [if_neg]
        · exact e1
        · rintro rfl; rw [hS] at e1; cases e1
      · rintro ⟨q, k, hq, e1, e2, e3, e4⟩
        rcases hother q k hq e1 with ⟨_, rfl⟩ | ⟨_, e5⟩
        · exact absurd rfl e4
        · exact ⟨q, k, hq, e5, e2, e3, e4⟩
  | some k =>
    simp only [hS] at hl
    go_enter Yba.func15, Yba.ntmps15
    go_wp2_with fail
    go_quiet (fail)
    go_wp2_with fail
    go_ret
    exact ⟨k, S, rfl, h.gr (((Gr.refl w).alloc _).drewN _), hS, fun _ _ => rfl, .inl rfl, below_drew ((Below.refl base w).alloc hb _) _, (((Gr.refl w).alloc _).drewN _).kept⟩
end Go.Proofs.Ybulkits
