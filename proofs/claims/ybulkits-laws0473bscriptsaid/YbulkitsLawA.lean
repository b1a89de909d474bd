/-
  The law's state.
-/
import Derived.Test.YbulkitsSend
import Derived.Test.YbulkitsMTake
namespace Go.Proofs.Ybulkits
open Go.RowKit
set_option linter.unusedVariables false
set_option linter.unusedSimpArgs false

variable {w : World} {base : Nat}

theorem own_kept {w' : World} {b0 k : Nat} {v : Value} {xs : List Value} (h : w.ownsRow b0 31 2 v k xs) (g : Kept w w') : w'.ownsRow b0 31 2 v k xs := by
  refine ⟨h.1, ?_⟩
  rcases h.2 with h' | ⟨r, cap, cur, e1, e2, e3, e4⟩
  · exact .inl h'
  · exact .inr ⟨r, cap, cur, e1, e2, g _ _ _ e3 (by decide) (by decide) (by decide) (by decide), e4⟩
theorem HeldIs.kept {w' : World} {H : Nat} {hd : Nat → Bool} (h : HeldIs w H hd) (g : Kept w w') : HeldIs w' H hd := by
  obtain ⟨cs, e, e1, e2⟩ := h
  exact ⟨cs, g _ _ _ e (by decide) (by decide) (by decide) (by decide), e1, e2⟩
theorem HeldIs.set {H p : Nat} {hd : Nat → Bool} {b : Bool} (h : HeldIs w H hd) (hp : p < 9) : HeldIs (w.setCell ⟨H, p, none⟩ (.bool b)) H (fun q => if q = p then b else hd q) := by
  obtain ⟨cs, e, e1, e2⟩ := h
  refine ⟨_, set_same p (.bool b) e, by simpa using e1, fun q hq => ?_⟩
  rw [Array.getElem?_setIfInBounds]
  by_cases hqp : q = p
  · subst hqp; simp [e1, hp]
  · rw [if_neg (fun e => hqp e.symm)]; simp only [if_neg hqp]; exact e2 q hq

/-- Where the script stands. -/
structure LawIs (w0 w : World) (B Bm H next : Nat) (S : Nat → Option Lk) (A : List Nat) (Q : List (Nat × Nat)) (hd : Nat → Bool) (v : Value) : Prop where
  net : NetIs w w0.heap.size B Bm next S A
  live : Live S
  sim : Sim S Q hd next
  own : w.ownsRow w0.heap.size 31 2 v Q.length (mc Q)
  held : HeldIs w H hd
  below : Below w0.heap.size w0 w
  hH : w0.heap.size ≤ H
  qlen : Q.length ≤ next

variable {w0 : World} {B Bm H next : Nat} {S : Nat → Option Lk} {A : List Nat} {Q : List (Nat × Nat)} {hd : Nat → Bool} {v : Value}

theorem LawIs.gr {w' : World} (h : LawIs w0 w B Bm H next S A Q hd v) (g : Gr w w') (hb : Below w0.heap.size w w') : LawIs w0 w' B Bm H next S A Q hd v :=
  ⟨h.net.gr g, h.live, h.sim, own_kept h.own g.kept, h.held.kept g.kept, h.below.trans hb, h.hH, h.qlen⟩
/-- The mark of the pair p set in the model. -/
theorem NetIs.setHeld {w : World} {base p : Nat} {sent : Nat} {hd : Nat → Bool} {b : Value} (h : NetIs w base B Bm sent S A) (hh : HeldIs w H hd) : NetIs (w.setCell ⟨H, p, none⟩ b) base B Bm sent S A := by
  obtain ⟨cs, e, _⟩ := hh
  refine h.gq (fun d c ty ht e' => (Below.heap_setCell _ _ _ _ (ne_tag e' e (by rcases ht with rfl | rfl | rfl | rfl <;> decide))).trans e') (Below.heap_setCell _ _ _ _ ?_)
  obtain ⟨l, c, em, _⟩ := h.map
  intro e'
  have e'' : Bm = H := e'
  rw [e'', e] at em
  simp at em
theorem own_setHeld {w : World} {b0 k p : Nat} {v : Value} {xs : List Value} {b : Value} (h : w.ownsRow b0 31 2 v k xs) (hh : HeldIs w H hd) : (w.setCell ⟨H, p, none⟩ b).ownsRow b0 31 2 v k xs := by
  obtain ⟨cs, e, _⟩ := hh
  refine own_set h (a := ⟨H, p, none⟩) ?_ b
  rcases h.2 with ⟨e1, _⟩ | ⟨r, cap, cur, e1, _, e3, _⟩
  · rw [e1]; simp [Value.ownBlock]
  · rw [e1]; simp only [Value.ownBlock, ne_eq, Option.some.injEq]; exact fun e' => ne_tag e3 e (by decide) e'

/-- Behind an append to the model's queue. -/
theorem grown31 {w w' : World} {base b0 k sent : Nat} {v : Value} {xs : List Value} (h : NetIs w base B Bm sent S A) (ho : w.ownsRow b0 31 2 v k xs) (hg : w.grownBy w' v.ownBlock) : NetIs w' base B Bm sent S A ∧ (∀ (b : Nat) (cs : Array Value) (ty : TypeId), ty ≠ 31 → w.heap[b]? = some (.cells cs ty (0, 0)) → w'.heap[b]? = some (.cells cs ty (0, 0))) := by
  have tag : ∀ {b : Nat} {o : Obj}, w.heap[b]? = some o → (∀ c, o ≠ .cells c 31 (0, 0)) → w'.heap[b]? = some o := fun {b o} e hne => by
    refine (hg.block b (Array.getElem?_eq_some_iff.1 e).1 (fun e' => ?_)).trans e
    rcases ho.2 with ⟨e1, _⟩ | ⟨r, cap, cur, e1, _, e3, _⟩
    · rw [e1] at e'; simp [Value.ownBlock] at e'
    · rw [e1] at e'
      simp only [Value.ownBlock, Option.some.injEq] at e'
      rw [e', e3] at e
      exact hne cur (Option.some.inj e).symm
  refine ⟨h.gq (fun b cs ty ht e => tag e (fun c hc => by simp at hc; rcases ht with rfl | rfl | rfl | rfl <;> simp at hc)) ?_, fun b cs ty ht e => tag e (fun c hc => by simp at hc; exact ht hc.2)⟩
  obtain ⟨l, c, em, _⟩ := h.map
  rw [em]
  exact tag em (fun c hc => by simp at hc)
/-- The steps as they lie in the argument. -/
def Steps (w : World) (b off : Nat) (xs : List (Nat × Nat)) : Prop :=
  (∀ (i : Nat) (x : Nat × Nat), xs[i]? = some x → w.cell? ⟨b, off + i * 2, none⟩ = some (.int .u8 (x.1 : Nat)) ∧ w.cell? ⟨b, off + i * 2 + 1, none⟩ = some (.int .u8 (x.2 : Nat))) ∧ ∀ x ∈ xs, x.1 ≤ 255 ∧ x.2 ≤ 255

theorem net_start (w : World) (Z : Obj) : NetIs (((w.alloc (.map #[] 0)).alloc (.cells #[.func (.func 14) #[] #[], .map (some w.heap.size), .int .i64 0, .slice none 0 0] 49)).alloc Z) w.heap.size (w.heap.size + 1) w.heap.size 0 (fun _ => none) [] := by
  have hs : (w.alloc (.map #[] 0)).heap.size = w.heap.size + 1 := by simp
  have e1 := heap_alloc_new (w.alloc (.map #[] 0)) (.cells #[.func (.func 14) #[] #[], .map (some w.heap.size), .int .i64 0, .slice none 0 0] 49)
  rw [hs] at e1
  have e2 : ((w.alloc (.map #[] 0)).alloc (.cells #[.func (.func 14) #[] #[], .map (some w.heap.size), .int .i64 0, .slice none 0 0] 49)).heap[w.heap.size]? = some (.map #[] 0) := (Below.heap_alloc _ _ _ (by rw [hs]; omega)).trans (heap_alloc_new w _)
  refine NetIs.gr (w := (w.alloc (.map #[] 0)).alloc (.cells #[.func (.func 14) #[] #[], .map (some w.heap.size), .int .i64 0, .slice none 0 0] 49)) ?_ ((Gr.refl _).alloc _)
  exact ⟨⟨_, e1, by omega, ⟨rfl, .inl ⟨rfl, rfl⟩⟩, fun i x hx => by simp at hx, by simp⟩, ⟨fun _ => 0, ⟨fun k x _ hx => by simp at hx, fun k k0 kn => by simp at kn⟩, fun p k n r _ e => (by cases e)⟩, ⟨[], 0, e2, fun x hx => (by cases hx), .nil, fun p hp => rfl⟩, Nat.le_refl _, fun p k hp e => (by cases e), fun p k p' k' _ _ e => (by cases e), fun x => ⟨fun hx => (by cases hx), fun ⟨p, k, _, e, _⟩ => (by cases e)⟩⟩
end Go.Proofs.Ybulkits
