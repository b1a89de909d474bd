/-
  container/heap.up on the heap of links.
-/
import Derived.Test.YbulkitsHpOps
namespace Go.Proofs.Ybulkits
open Go.RowKit
set_option linter.unusedVariables false
set_option linter.unusedSimpArgs false

variable {w : World} {base B : Nat} {n0 n1 n2 rdy : Value} {A : List Nat} {K : Nat → Nat}

theorem Hp.tagRow (h : Hp w base B n0 n1 n2 rdy A) {z : Nat} {cs : Array Value} {t : TypeId} (hz : w.heap[z]? = some (.cells cs t (0, 0))) (ht : t ≠ 50) : rdy.ownBlock ≠ some z := by
  rcases h.row.2 with ⟨e, h0⟩ | ⟨R, cap, cur, e, _, hc, _⟩
  · rw [e]; simp [Value.ownBlock]
  · rw [e]; simp only [Value.ownBlock, ne_eq, Option.some.injEq]; exact fun e => ne_tag hz hc ht e.symm
theorem Hp.tagA (h : Hp w base B n0 n1 n2 rdy A) {z : Nat} {cs : Array Value} {t : TypeId} (hz : w.heap[z]? = some (.cells cs t (0, 0))) (ht : t ≠ 56) : z ∉ A := by
  intro hm
  obtain ⟨i, hi⟩ := List.mem_iff_getElem?.1 hm
  obtain ⟨_, a, b, q, c, e⟩ := h.link i z hi
  exact ne_tag hz e ht rfl

/-- A block of another kind stays. -/
theorem To.other {w' : World} (t : To base w w' B rdy A) (h : Hp w base B n0 n1 n2 rdy A) {z : Nat} {cs : Array Value} {ty : TypeId} (hz : w.heap[z]? = some (.cells cs ty (0, 0))) (h1 : ty ≠ 49) (h2 : ty ≠ 50) (h3 : ty ≠ 56) : w'.heap[z]? = some (.cells cs ty (0, 0)) :=
  (t.same z (fun e => ne_tag hz (e ▸ h.net) h1 rfl) (fun c e => ne_tag hz e h2 rfl) (h.tagA hz h3) (Array.getElem?_eq_some_iff.1 hz).1).trans hz
/-- A link keeps all but its place. -/
theorem To.lnk {w' : World} (t : To base w w' B rdy A) (h : Hp w base B n0 n1 n2 rdy A) {x : Nat} {a b q hh : Value} {i : Int} (hx : w.heap[x]? = some (.cells #[a, b, q, hh, .int .i64 i] 56 (0, 0))) : ∃ i' : Int, w'.heap[x]? = some (.cells #[a, b, q, hh, .int .i64 i'] 56 (0, 0)) := by
  by_cases hm : x ∈ A
  · exact t.link x hm a b q hh i hx
  · exact ⟨i, (t.same x (fun e => ne_tag hx (e ▸ h.net) (by decide) rfl) (fun c e => ne_tag hx e (by decide) rfl) hm (Array.getElem?_eq_some_iff.1 hx).1).trans hx⟩
theorem KeyAt.step {w' : World} {x k : Nat} (hk : KeyAt w x k) (t : To base w w' B rdy A) (h : Hp w base B n0 n1 n2 rdy A) : KeyAt w' x k := by
  obtain ⟨a, b, g, o, len, cap, hh, i, cur, e1, e2, e3, e4⟩ := hk
  obtain ⟨i', e1'⟩ := t.lnk h e1
  exact ⟨a, b, g, o, len, cap, hh, i', cur, e1', e2, t.other h e3 (by decide) (by decide) (by decide), e4⟩
theorem KeyAt.drewN {x k : Nat} (hk : KeyAt w x k) (m : Nat) : KeyAt (w.drewN m) x k := hk
theorem To.refl (base : Nat) (w : World) (B : Nat) (rdy : Value) (A : List Nat) : To base w w B rdy A := ⟨Below.refl _ _, Nat.le_refl _, fun _ _ _ _ _ => rfl, fun _ _ _ _ _ _ i h => ⟨i, h⟩⟩
theorem To.drewN {w' : World} (t : To base w w' B rdy A) (m : Nat) : To base w (w'.drewN m) B rdy A := ⟨below_drew t.below m, t.size, t.same, t.link⟩
theorem To.trans {w1 w2 : World} {A' : List Nat} {rdy' : Value} (t : To base w w1 B rdy A) (u : To base w1 w2 B rdy' A') (hA : ∀ z, z ∈ A' → z ∈ A) (hB : B ∉ A) : To base w w2 B rdy A where
  below := ⟨u.below.os.trans t.below.os, u.below.tape.trans t.below.tape, u.below.output.trans t.below.output, Nat.le_trans t.below.size u.below.size, fun k hk => (u.below.block k hk).trans (t.below.block k hk)⟩
  size := Nat.le_trans t.size u.size
  same b g1 g2 g3 g4 := by
    have e := t.same b g1 g2 g3 g4
    exact (u.same b g1 (fun c hc => g2 c (e.symm.trans hc)) (fun h => g3 (hA b h)) (Nat.lt_of_lt_of_le g4 t.size)).trans e
  link x hx a b q h i e := by
    obtain ⟨i1, e1⟩ := t.link x hx a b q h i e
    by_cases h' : x ∈ A'
    · exact u.link x h' a b q h i1 e1
    · exact ⟨i1, (u.same x (fun e => hB (e ▸ hx)) (fun c hc => ne_tag e1 hc (by decide) rfl) h' (Array.getElem?_eq_some_iff.1 e1).1).trans e1⟩

/-- The same links, those from n on where they were. -/
structure Sm (A A' : List Nat) (n : Nat) : Prop where
  len : A'.length = A.length
  mem : ∀ z, z ∈ A' ↔ z ∈ A
  tail : ∀ k, n ≤ k → A'[k]? = A[k]?
theorem Sm.refl (A : List Nat) (n : Nat) : Sm A A n := ⟨rfl, fun _ => Iff.rfl, fun _ _ => rfl⟩
theorem Sm.trans {A A1 A2 : List Nat} {n : Nat} (h : Sm A A1 n) (k : Sm A1 A2 n) : Sm A A2 n := ⟨k.len.trans h.len, fun z => (k.mem z).trans (h.mem z), fun i hi => (k.tail i hi).trans (h.tail i hi)⟩
theorem Sm.swap {i j x y n : Nat} (hx : A[i]? = some x) (hy : A[j]? = some y) (hij : i ≠ j) (hi : i < n) (hj : j < n) : Sm A (swL A i j) n :=
  ⟨swL_len _ _ _, swL_mem hx hy hij, fun k hk => by rw [swL_get hx hy, if_neg (by omega), if_neg (by omega)]⟩

/-- The keys by position. -/
def kp (K : Nat → Nat) (A : List Nat) (k : Nat) : Nat := K (A.getD k 0)
theorem kp_at {k x : Nat} (h : A[k]? = some x) : kp K A k = K x := by simp [kp, List.getD, h]
theorem kp_swap {i j x y : Nat} (hx : A[i]? = some x) (hy : A[j]? = some y) : kp K (swL A i j) = sw (kp K A) j i := by
  funext k
  unfold kp sw
  have e1 : A.getD i 0 = x := by simp [List.getD, hx]
  have e2 : A.getD j 0 = y := by simp [List.getD, hy]
  simp only [List.getD_eq_getElem?_getD, swL_get hx hy]
  split
  · simp [hx]
  · split
    · simp [hy]
    · rfl
theorem sw_comm (f : Nat → Nat) (i j : Nat) : sw f j i = sw f i j := by
  funext k
  unfold sw
  split
  · split
    · rename_i h1 h2; rw [← h1, ← h2]
    · rfl
  · rfl
def Kd (w : World) (K : Nat → Nat) (A : List Nat) (n : Nat) : Prop := ∀ (k x : Nat), k < n → A[k]? = some x → KeyAt w x (K x)
theorem Kd.swap {w' : World} {i j x y n : Nat} (hk : Kd w K A n) (hx : A[i]? = some x) (hy : A[j]? = some y) (hi : i < n) (hj : j < n) (t : To base w w' B rdy A) (h : Hp w base B n0 n1 n2 rdy A) : Kd w' K (swL A i j) n := by
  intro k z hkn hz
  rw [swL_get hx hy] at hz
  split at hz
  · obtain rfl := Option.some.inj hz; exact (hk i _ hi hx).step t h
  · split at hz
    · obtain rfl := Option.some.inj hz; exact (hk j _ hj hy).step t h
    · exact (hk k z hkn hz).step t h

set_option maxRecDepth 100000 in
set_option maxHeartbeats 1600000 in
theorem up19 {n j : Nat} (h : Hp w base B n0 n1 n2 rdy A) (hn : n ≤ A.length) (hj : j < n) (hk : Kd w K A n) (hu : UpInv (kp K A) n j) :
    Calls Yba.prog 19 #[.iface 60 (.pointer (some ⟨B, 3, none⟩)), .int .i64 j] w fun e w' => e = .returned (.tuple #[]) ∧ ∃ A', Hp w' base B n0 n1 n2 rdy A' ∧ To base w w' B rdy A ∧ Sm A A' n ∧ Kd w' K A' n ∧ Ord (kp K A') n := by
  obtain ⟨p, c, hrd⟩ := slice_of h.row
  subst hrd
  have hf := h.few
  go_enter Yba.func19, Yba.ntmps19
  go_wp2_with fail
  go_loopw [1, 4] (fun jv _ wr => ∃ (j : Nat) (A' : List Nat), jv = .int .i64 j ∧ j < n ∧ Hp wr base B n0 n1 n2 (.slice p A.length c) A' ∧ To base w wr B (.slice p A.length c) A ∧ Sm A A' n ∧ Kd wr K A' n ∧ UpInv (kp K A') n j) (fun jv _ _ => (intOf jv).toNat)
  case atStart => exact ⟨j, A, rfl, hj, h, To.refl _ _ _ _ _, Sm.refl _ _, hk, hu⟩
  case round =>
    obtain ⟨j, A', rfl, hj, h', ht, hs, hk', hu'⟩ := hrel
    by_cases hj0 : j = 0
    · subst hj0
      go_wp2_with fail
      go_end0
      exact ⟨rfl, A', h', ht, hs, hk', up_done hu' (.inl rfl)⟩
    · obtain ⟨i, hi⟩ : ∃ i, (j - 1) / 2 = i := ⟨_, rfl⟩
      have hh : ((j : Int) - 1) / 2 = (i : Int) := by omega
      have hij : i ≠ j := by omega
      have hb : ((i : Int) == (j : Int)) = false := by simp; omega
      have hl' := hs.len
      obtain ⟨x, hx⟩ : ∃ x, A'[i]? = some x := ⟨_, List.getElem?_eq_getElem (by omega)⟩
      obtain ⟨y, hy⟩ : ∃ y, A'[j]? = some y := ⟨_, List.getElem?_eq_getElem (by omega)⟩
      have hm1 := n_less h'.cell
      have hless := lessH h' hy hx (hk' j y hj hy) (hk' i x (by omega) hx)
      go_wp2_with fail
      refine hless.mono ?_
      rintro e1 w1 ⟨rfl, m, rfl⟩
      by_cases hlt : K y < K x
      · rw [decide_eq_true hlt]
        have hm2 := n_swap (h'.drewN m).cell
        go_wp2_with fail
        refine (swapH (h'.drewN m) hx hy hij).mono ?_
        rintro e2 w2 ⟨rfl, h2, t2⟩
        go_wp2_with fail
        refine ⟨⟨i, swL A' i j, rfl, by omega, h2, (ht.drewN m).trans t2 (fun z hz => (hs.mem z).1 hz) (h.tagA h.net (by decide)), hs.trans (Sm.swap hx hy hij (by omega) hj), Kd.swap (w := wr.drewN m) hk' hx hy (by omega) hj t2 (h'.drewN m), ?_⟩, by simp [intOf]; omega⟩
        have := up_step hu' (by omega) hj (by rw [hi, kp_at hx, kp_at hy]; exact hlt)
        rw [hi] at this
        rw [kp_swap hx hy, sw_comm]
        exact this
      · rw [decide_eq_false hlt]
        go_wp2_with fail
        go_end0
        exact ⟨rfl, A', h'.drewN m, ht.drewN m, hs, hk', up_done hu' (.inr (by rw [hi, kp_at hx, kp_at hy]; exact hlt))⟩
end Go.Proofs.Ybulkits
