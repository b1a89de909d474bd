/-
  The model's take.
-/
import Derived.Test.YbulkitsSim
namespace Go.Proofs.Ybulkits
open Go.RowKit
set_option linter.unusedVariables false
set_option linter.unusedSimpArgs false

variable {w : World} {base : Nat}

/-- The cells of the model's queue. -/
def mc (Q : List (Nat × Nat)) : List Value := Q.flatMap fun x => [.int .i64 (x.1 : Nat), .int .i64 (x.2 : Nat)]
theorem mc_append (Q R : List (Nat × Nat)) : mc (Q ++ R) = mc Q ++ mc R := by simp [mc]
theorem mc_len : ∀ Q : List (Nat × Nat), (mc Q).length = Q.length * 2
  | [] => rfl
  | x :: r => by
    have := mc_len r
    simp only [mc] at this ⊢
    simp only [List.flatMap_cons, List.length_append, this, List.length_cons]
    simp
    omega
theorem mc_at : ∀ (Q : List (Nat × Nat)) (j : Nat) (x : Nat × Nat), Q[j]? = some x → (mc Q)[j * 2]? = some (.int .i64 (x.1 : Nat)) ∧ (mc Q)[j * 2 + 1]? = some (.int .i64 (x.2 : Nat))
  | [], j, x, h => by simp at h
  | y :: r, 0, x, h => by
    obtain rfl : y = x := by simpa using h
    exact ⟨rfl, rfl⟩
  | y :: r, j + 1, x, h => by
    obtain ⟨a, b⟩ := mc_at r j x (by simpa using h)
    have e : mc (y :: r) = [.int .i64 (y.1 : Nat), .int .i64 (y.2 : Nat)] ++ mc r := rfl
    rw [e]
    refine ⟨?_, ?_⟩
    · rw [List.getElem?_append_right (by simp; omega)]; simpa [show (j + 1) * 2 - 2 = j * 2 by omega] using a
    · rw [List.getElem?_append_right (by simp; omega)]; simpa [show (j + 1) * 2 + 1 - 2 = j * 2 + 1 by omega] using b
theorem mc_take (Q : List (Nat × Nat)) (i : Nat) : mc (Q.take i) = (mc Q).take (i * 2) := by
  induction Q generalizing i with
  | nil => simp [mc]
  | cons y r ih =>
    cases i with
    | zero => simp [mc]
    | succ i =>
      have e : mc (y :: r) = .int .i64 (y.1 : Nat) :: .int .i64 (y.2 : Nat) :: mc r := rfl
      have e2 : mc (y :: r.take i) = .int .i64 (y.1 : Nat) :: .int .i64 (y.2 : Nat) :: mc (r.take i) := rfl
      rw [List.take_succ_cons, e2, e, ih i, show (i + 1) * 2 = i * 2 + 1 + 1 by omega]
      rfl
theorem mc_drop (Q : List (Nat × Nat)) (i : Nat) : mc (Q.drop i) = (mc Q).drop (i * 2) := by
  induction Q generalizing i with
  | nil => simp [mc]
  | cons y r ih =>
    cases i with
    | zero => simp
    | succ i =>
      have e : mc (y :: r) = .int .i64 (y.1 : Nat) :: .int .i64 (y.2 : Nat) :: mc r := rfl
      rw [List.drop_succ_cons, e, ih i, show (i + 1) * 2 = i * 2 + 1 + 1 by omega]
      rfl
theorem mc_one (Q : List (Nat × Nat)) : ∀ u ∈ mc Q, u.oneCell' = true := by
  intro u hu
  obtain ⟨x, _, h⟩ := List.mem_flatMap.1 hu
  simp at h
  rcases h with rfl | rfl <;> rfl

/-- The marks of the model. -/
def HeldIs (w : World) (H : Nat) (hd : Nat → Bool) : Prop := ∃ cs : Array Value, w.heap[H]? = some (.cells cs 25 (0, 0)) ∧ cs.size = 9 ∧ ∀ p, p < 9 → cs[p]? = some (.bool (hd p))
theorem HeldIs.cell {H : Nat} {hd : Nat → Bool} (h : HeldIs w H hd) {p : Nat} (hp : p < 9) : w.cell? ⟨H, p, none⟩ = some (.bool (hd p)) ∧ w.frozen? ⟨H, p, none⟩ = false := by
  obtain ⟨cs, e, _, e2⟩ := h
  exact ⟨(ob e p).1.trans (e2 p hp), (ob e p).2⟩

theorem Yba.info31 : (Yba.prog.info? 31).map (fun i => (i.zero, i.size, i.bytes)) = some (some (.agg #[.int .i64 0, .int .i64 0]), 2, 16) := by kernel_rfl

/-- What the model's take gives back. -/
def T10 (w : World) (base : Nat) (v : Value) (Q : List (Nat × Nat)) (hd : Nat → Bool) (e : Ending) (w' : World) : Prop := Gr w w' ∧ Below base w w' ∧ ((e = .returned (.tuple #[.agg #[.int .i64 0, .int .i64 0], .bool false, v]) ∧ ∀ x ∈ Q, hd x.1 = true) ∨
      ∃ i p n v', FirstAt Q hd i p n ∧ e = .returned (.tuple #[.agg #[.int .i64 (p : Nat), .int .i64 (n : Nat)], .bool true, v']) ∧ w'.ownsRow base 31 2 v' (Q.eraseIdx i).length (mc (Q.eraseIdx i)))

theorem own_from {b0 b1 k : Nat} {v : Value} {xs : List Value} {t : TypeId} {s : Nat} (h : w.ownsRow b1 t s v k xs) (hb : b0 ≤ b1) : w.ownsRow b0 t s v k xs := by
  refine ⟨h.1, ?_⟩
  rcases h.2 with h' | ⟨g, cap, cur, e1, e2, e3⟩
  · exact .inl h'
  · exact .inr ⟨g, cap, cur, e1, by omega, e3⟩
theorem Gr.grown {w1 w2 : World} {row : Option Nat} (g : Gr w w1) (h : w1.grownBy w2 row) (hr : ∀ j, row = some j → w.heap.size ≤ j) : Gr w w2 :=
  ⟨Nat.le_trans g.size h.size, fun b hb => (h.block b (Nat.lt_of_lt_of_le hb g.size) (fun e => by have := hr b e.symm; omega)).trans (g.same b hb)⟩
theorem Gr.setCell {w1 : World} (g : Gr w w1) {b : Nat} (hb : w.heap.size ≤ b) (o : Nat) (v : Value) : Gr w (w1.setCell ⟨b, o, none⟩ v) :=
  ⟨by have := g.size; simpa [World.setCell] using this, fun d hd => (Below.heap_setCell _ _ _ _ (by simp; omega)).trans (g.same d hd)⟩
theorem own_made31 (W : World) (C : Array Value) (n b0 : Nat) (hC : C.size = n * 2) (hn : n ≤ 1024) (hb : b0 ≤ W.heap.size) : (W.alloc (.cells C 31)).ownsRow b0 31 2 (.slice (some ⟨W.heap.size, 0, none⟩) 0 n) 0 [] :=
  ⟨rfl, .inr ⟨W.heap.size, n, C, rfl, hb, heap_alloc_new W _, Nat.zero_le _, by unfold maxLen; omega, hC, by simp⟩⟩

set_option maxRecDepth 100000 in
set_option maxHeartbeats 3200000 in
theorem take10 {v : Value} {Q : List (Nat × Nat)} {H : Nat} {hd : Nat → Bool} (hown : w.ownsRow base 31 2 v Q.length (mc Q)) (hH : HeldIs w H hd) (h9 : ∀ x ∈ Q, x.1 < 9) (hn : Q.length ≤ 1024) (hb : base ≤ w.heap.size) :
    Calls Yba.prog 10 #[v, .pointer (some ⟨H, 0, none⟩)] w (T10 w base v Q hd) := by
  obtain ⟨i0, hi, hz0, hz1, hz2⟩ := info_parts Yba.info31
  obtain ⟨N, hN⟩ : ∃ N, Q.length = N := ⟨_, rfl⟩
  obtain ⟨pv, cv, hv⟩ := slice_of hown
  subst hv
  rw [hN] at hown
  rw [hN]
  have hNI : (N : Int) ≤ 1024 := by omega
  have hmk := fun wx => run_make (P := Yba.prog) wx 26 31 i0 _ Yba.underlying26 hi hz0 .i64 .i64 0 N (by omega) (by omega) (by rw [hz2]; omega) (by omega)
  simp only [Int.toNat_natCast, Int.toNat_zero] at hmk
  have g1 : Gr w (w.alloc (.cells #[.int .i64 0, .int .i64 0] 31)) := (Gr.refl w).alloc _
  go_enter Yba.func10, Yba.ntmps10
  go_wp2_with fail
  go_loopw [7] (fun iv wr => ∃ (i m : Nat), i ≤ N ∧ iv = .int .i64 i ∧ wr = (w.alloc (.cells #[.int .i64 0, .int .i64 0] 31)).drewN m ∧ ∀ (j : Nat) (x : Nat × Nat), j < i → Q[j]? = some x → hd x.1 = true) (fun iv _ => N - (intOf iv).toNat)
  case atStart => exact ⟨0, 0, Nat.zero_le _, rfl, rfl, fun j x hj => by omega⟩
  case round =>
    obtain ⟨i, m, hiN, rfl, rfl, hbef⟩ := hrel
    by_cases hlt : i < N
    · obtain ⟨⟨p, n⟩, hx⟩ : ∃ x, Q[i]? = some x := ⟨_, List.getElem?_eq_getElem (by omega)⟩
      have hp9 : p < 9 := h9 _ (List.mem_of_getElem? hx)
      obtain ⟨g, cap, cur, hvv, hbg, hcu, hcap, hcm, hcs, htk⟩ : ∃ g cap cur, (Value.slice pv N cv) = .slice (some ⟨g, 0, none⟩) N cap ∧ base ≤ g ∧ w.heap[g]? = some (.cells cur 31 (0, 0)) ∧ N ≤ cap ∧ cap ≤ maxLen ∧ cur.size = cap * 2 ∧ cur.toList.take (N * 2) = mc Q := by
        rcases hown.2 with ⟨_, h0⟩ | h
        · omega
        · exact h
      simp at hvv
      obtain ⟨rfl, rfl⟩ := hvv
      have hgl := (Array.getElem?_eq_some_iff.1 hcu).1
      obtain ⟨m0, m1⟩ := mc_at Q i (p, n) hx
      have cgt : ∀ t, t < N * 2 → cur[t]? = (mc Q)[t]? := fun t ht => by rw [← htk, List.getElem?_take_of_lt ht]; simp
      have c0 : w.cell? ⟨g, i * 2, none⟩ = some (.int .i64 p) := (ob hcu _).1.trans ((cgt _ (by omega)).trans m0)
      have c1 : w.cell? ⟨g, i * 2 + 1, none⟩ = some (.int .i64 n) := (ob hcu _).1.trans ((cgt _ (by omega)).trans m1)
      have hh := (hH.cell hp9).1
      have hHl : H < w.heap.size := by obtain ⟨cs, e, _⟩ := hH; exact (Array.getElem?_eq_some_iff.1 e).1
      have hI1 : (i : Int) < (N : Int) := by omega
      have hpI : (p : Int) < 9 := by omega
      cases hdp : hd p with
      | true =>
        rw [hdp] at hh
        go_wp2_with fail
        go_quiet (fail)
        go_wp2_with fail
        refine ⟨⟨i + 1, _, by omega, by go_num, rfl, fun j x hj hxj => ?_⟩, by simp [intOf]; omega⟩
        by_cases hji : j < i
        · exact hbef j x hji hxj
        · obtain rfl : j = i := by omega
          rw [hx] at hxj
          obtain rfl := Option.some.inj hxj
          exact hdp
      | false =>
        rw [hdp] at hh
        go_wp2_with fail
        go_quiet (fail)
        obtain ⟨M, hM⟩ : ∃ M, Hid (N = i + 1 + M) := ⟨N - (i + 1), by show N = _; omega⟩
        have hiI : (i : Int) ≤ 1024 := by omega
        have hic : (i : Int) ≤ (cv : Int) := by omega
        have hlt2 : mc (Q.take i) = (mc Q).take (i * 2) := mc_take Q i
        have hgW : ∀ (W : World), Gr w W → ∀ t, t < N * 2 → W.cell? ⟨g, t, none⟩ = (mc Q)[t]? := fun W gW t ht => (ob (gW.at hcu) t).1.trans (cgt t ht)
        have gA : Gr w ((w.alloc (.cells #[.int .i64 0, .int .i64 0] 31)).drewN (m + nq)) := g1.drewN _
        have gM : ∀ o, Gr w (((w.alloc (.cells #[.int .i64 0, .int .i64 0] 31)).drewN (m + nq)).alloc o) := fun o => gA.alloc o
        have nw1 : ∀ o j u, (mc (Q.take i))[j]? = some u → (((w.alloc (.cells #[.int .i64 0, .int .i64 0] 31)).drewN (m + nq)).alloc o).cell? ((⟨g, 0, none⟩ : Addr).add j) = some u := fun o j u hj => by
          rw [hlt2] at hj
          have hjl : j < i * 2 := by have := (List.getElem?_eq_some_iff.1 hj).1; simp at this; omega
          rw [List.getElem?_take_of_lt hjl] at hj
          rw [Addr.add_lit, Nat.zero_add, hgW _ (gM o) j (by omega)]
          exact hj
        have hszA : ((w.alloc (.cells #[.int .i64 0, .int .i64 0] 31)).drewN (m + nq)).heap.size = w.heap.size + 1 := by show (w.alloc _).heap.size = _; simp
        have hownM : (((w.alloc (.cells #[.int .i64 0, .int .i64 0] 31)).drewN (m + nq)).alloc (.cells (madeCells #[.int .i64 0, .int .i64 0] (N * 2)) 31)).ownsRow (w.heap.size + 1) 31 2 (.slice (some ⟨w.heap.size + 1, 0, none⟩) 0 N) 0 [] := by
          have := own_made31 ((w.alloc (.cells #[.int .i64 0, .int .i64 0] 31)).drewN (m + nq)) (madeCells #[.int .i64 0, .int .i64 0] (N * 2)) N (w.heap.size + 1) (by simp [size_madeCells]) (by omega) (by rw [hszA]; omega)
          rw [hszA] at this
          exact this
        have hl1 : (mc (Q.take i)).length = i * 2 := by rw [mc_len]; simp; omega
        have nw1M := nw1 (.cells (madeCells #[.int .i64 0, .int .i64 0] (N * 2)) 31)
        have gW1 := gM (.cells (madeCells #[.int .i64 0, .int .i64 0] (N * 2)) 31)
        have bW1 : Below base w (((w.alloc (.cells #[.int .i64 0, .int .i64 0] 31)).drewN (m + nq)).alloc (.cells (madeCells #[.int .i64 0, .int .i64 0] (N * 2)) 31)) := (below_drew ((Below.refl base w).alloc hb _) _).alloc (by rw [hszA]; omega) _
        have zW1 : (((w.alloc (.cells #[.int .i64 0, .int .i64 0] 31)).drewN (m + nq)).alloc (.cells (madeCells #[.int .i64 0, .int .i64 0] (N * 2)) 31)).heap[w.heap.size]? = some (.cells #[.int .i64 0, .int .i64 0] 31 (0, 0)) := (Below.heap_alloc _ _ _ (by rw [hszA]; omega)).trans (heap_alloc_new w _)
        have hl2 : (mc (Q.drop (i + 1))).length = M * 2 := by rw [mc_len]; simp; have := hM.out; omega
        have hszW : w.heap.size + 1 ≤ (((w.alloc (.cells #[.int .i64 0, .int .i64 0] 31)).drewN (m + nq)).alloc (.cells (madeCells #[.int .i64 0, .int .i64 0] (N * 2)) 31)).heap.size := by
          have := World.size_alloc ((w.alloc (.cells #[.int .i64 0, .int .i64 0] 31)).drewN (m + nq)) (.cells (madeCells #[.int .i64 0, .int .i64 0] (N * 2)) 31)
          omega
        have hNm : N - (i + 1) = M := by have := hM.out; omega
        by_cases hcv : cv = i + 1
        · subst hcv
          have hM0 : M = 0 := by omega
          subst hM0
          have nw2 : ∀ (W : World), Gr w W → ∀ j u, (mc (Q.drop (i + 1)))[j]? = some u → W.cell? ((⟨g, 0, none⟩ : Addr).add j) = some u := fun W gW j u hj => by
            have := (List.getElem?_eq_some_iff.1 hj).1
            omega
          go_upto_region 6 with fail
          generalize (((w.alloc (.cells #[.int .i64 0, .int .i64 0] 31)).drewN (m + nq)).alloc (.cells (madeCells #[.int .i64 0, .int .i64 0] (N * 2)) 31)) = W1 at *
          clear gM nw1 gA hmk
          go_wp2_with (first
            | (at_builtin
               refine wpList_append_own _ rfl _ _ 26 rfl (w.heap.size + 1) 31 i0 _ 2 16 Yba.underlying26 hi hz0 hz1 hz2 rfl (by decide) (.slice (some ⟨w.heap.size + 1, 0, none⟩) 0 N) 0 [] rfl hownM ⟨g, 0, none⟩ i (i + 1) (mc (Q.take i)) rfl hl1 nw1M (mc_one _) (by unfold maxLen; omega) (by omega) hszW ?_
               intro v1 w3 hown1 hgrow1 hnil1
               rw [Nat.zero_add, List.nil_append] at hown1
               obtain ⟨p1, c1', hv1⟩ := slice_of hown1
               subst hv1
               have g3 := gW1.grown hgrow1 (fun j hj => by simp [Value.ownBlock] at hj; omega)
               have b3 : Below base w w3 := Below.grown bW1 hgrow1 (Nat.le_trans hb gW1.size) (fun j hj => by simp [Value.ownBlock] at hj; omega)
               have z3 := (hgrow1.block w.heap.size (by omega) (by simp [Value.ownBlock])).trans zW1
               have nw2M := nw2 w3 g3
               have hs3 := hgrow1.size
               clear hnil1 hgrow1 hownM)
            | (at_builtin
               refine wpList_append_own _ rfl _ _ 26 rfl (w.heap.size + 1) 31 i0 _ 2 16 Yba.underlying26 hi hz0 hz1 hz2 rfl (by decide) (.slice p1 i c1') i (mc (Q.take i)) rfl hown1 ⟨g, 0, none⟩ 0 0 (mc (Q.drop (i + 1))) rfl hl2 nw2M (mc_one _) (by unfold maxLen; omega) (by omega) (by omega) ?_
               intro v2 w4 hown2 hgrow2 hnil2
               have hlt1 := hown1.lt
               have g4 := g3.grown hgrow2 (fun j hj => by have := (hlt1 _ hj).1; omega)
               have b4 : Below base w w4 := Below.grown b3 hgrow2 (Nat.le_trans hb g3.size) (fun j hj => by have := (hlt1 _ hj).1; omega)
               have z4 := (hgrow2.block w.heap.size (by omega) (fun h => by have := (hlt1 _ h.symm).1; omega)).trans z3
               have zz0 := (ob z4 0).1
               have zz1 := (ob z4 1).1
               have fz0 := (ob z4 0).2
               have fz1 := (ob z4 1).2
               have q0 : w4.cell? ⟨g, i * 2, none⟩ = some (.int .i64 p) := (hgW w4 g4 _ (by omega)).trans m0
               have q1 : w4.cell? ⟨g, i * 2 + 1, none⟩ = some (.int .i64 n) := (hgW w4 g4 _ (by omega)).trans m1
               obtain ⟨p2, c2', hv2⟩ := slice_of hown2
               subst hv2
               clear hnil2 hgrow2 c0 c1))
          have zF : ((w4.setCell ⟨w.heap.size, 0, none⟩ (.int .i64 p)).setCell ⟨w.heap.size, 1, none⟩ (.int .i64 n)).heap[w.heap.size]? = some (.cells #[.int .i64 p, .int .i64 n] 31 (0, 0)) := (set_same 1 _ (set_same 0 _ z4)).trans (by rfl)
          have zf0 := (ob zF 0).1
          have zf1 := (ob zF 1).1
          simp [bodyPost, results, Yba.results10, go_sem, zf0, zf1]
          have hev : Q.eraseIdx i = Q.take i ++ Q.drop (i + 1) := List.eraseIdx_eq_take_drop_succ Q i
          have hel : (Q.eraseIdx i).length = i + 0 := by rw [List.length_eraseIdx, if_pos (by omega), hN]; have := hM.out; omega
          have hne2 : (Value.slice p2 (i + 0) c2').ownBlock ≠ some w.heap.size := fun e => by have := (hown2.lt _ e).1; omega
          refine ⟨(g4.setCell (Nat.le_refl _) _ _).setCell (Nat.le_refl _) _ _, (b4.setCell hb _).setCell hb _, .inr ⟨i, p, n, _, ⟨hx, hdp, hbef⟩, rfl, ?_⟩⟩
          rw [hel, hev, mc_append]
          exact own_from (own_set (own_set hown2 (a := ⟨w.heap.size, 0, none⟩) hne2 _) (a := ⟨w.heap.size, 1, none⟩) hne2 _) (by omega)
        · obtain ⟨C, hC⟩ : ∃ C, cv - (i + 1) = C := ⟨_, rfl⟩
          have hiIc : (i : Int) + 1 ≤ (cv : Int) := by omega
          have nw2 : ∀ (W : World), Gr w W → ∀ j u, (mc (Q.drop (i + 1)))[j]? = some u → W.cell? ((⟨g, (i + 1) * 2, none⟩ : Addr).add j) = some u := fun W gW j u hj => by
            have hjl := (List.getElem?_eq_some_iff.1 hj).1
            rw [mc_drop, List.getElem?_drop] at hj
            rw [Addr.add_lit, hgW W gW _ (by have := hM.out; omega)]
            exact hj
          go_upto_region 6 with fail
          generalize (((w.alloc (.cells #[.int .i64 0, .int .i64 0] 31)).drewN (m + nq)).alloc (.cells (madeCells #[.int .i64 0, .int .i64 0] (N * 2)) 31)) = W1 at *
          clear gM nw1 gA hmk
          go_wp2_with (first
            | (at_builtin
               refine wpList_append_own _ rfl _ _ 26 rfl (w.heap.size + 1) 31 i0 _ 2 16 Yba.underlying26 hi hz0 hz1 hz2 rfl (by decide) (.slice (some ⟨w.heap.size + 1, 0, none⟩) 0 N) 0 [] rfl hownM ⟨g, 0, none⟩ i cv (mc (Q.take i)) rfl hl1 nw1M (mc_one _) (by unfold maxLen; omega) (by omega) hszW ?_
               intro v1 w3 hown1 hgrow1 hnil1
               rw [Nat.zero_add, List.nil_append] at hown1
               obtain ⟨p1, c1', hv1⟩ := slice_of hown1
               subst hv1
               have g3 := gW1.grown hgrow1 (fun j hj => by simp [Value.ownBlock] at hj; omega)
               have b3 : Below base w w3 := Below.grown bW1 hgrow1 (Nat.le_trans hb gW1.size) (fun j hj => by simp [Value.ownBlock] at hj; omega)
               have z3 := (hgrow1.block w.heap.size (by omega) (by simp [Value.ownBlock])).trans zW1
               have nw2M := nw2 w3 g3
               have hs3 := hgrow1.size
               clear hnil1 hgrow1 hownM)
            | (at_builtin
               refine wpList_append_own _ rfl _ _ 26 rfl (w.heap.size + 1) 31 i0 _ 2 16 Yba.underlying26 hi hz0 hz1 hz2 rfl (by decide) (.slice p1 i c1') i (mc (Q.take i)) rfl hown1 ⟨g, (i + 1) * 2, none⟩ M C (mc (Q.drop (i + 1))) rfl hl2 nw2M (mc_one _) (by unfold maxLen; omega) (by omega) (by omega) ?_
               intro v2 w4 hown2 hgrow2 hnil2
               have hlt1 := hown1.lt
               have g4 := g3.grown hgrow2 (fun j hj => by have := (hlt1 _ hj).1; omega)
               have b4 : Below base w w4 := Below.grown b3 hgrow2 (Nat.le_trans hb g3.size) (fun j hj => by have := (hlt1 _ hj).1; omega)
               have z4 := (hgrow2.block w.heap.size (by omega) (fun h => by have := (hlt1 _ h.symm).1; omega)).trans z3
               have zz0 := (ob z4 0).1
               have zz1 := (ob z4 1).1
               have fz0 := (ob z4 0).2
               have fz1 := (ob z4 1).2
               have q0 : w4.cell? ⟨g, i * 2, none⟩ = some (.int .i64 p) := (hgW w4 g4 _ (by omega)).trans m0
               have q1 : w4.cell? ⟨g, i * 2 + 1, none⟩ = some (.int .i64 n) := (hgW w4 g4 _ (by omega)).trans m1
               obtain ⟨p2, c2', hv2⟩ := slice_of hown2
               subst hv2
               clear hnil2 hgrow2 c0 c1))
          have zF : ((w4.setCell ⟨w.heap.size, 0, none⟩ (.int .i64 p)).setCell ⟨w.heap.size, 1, none⟩ (.int .i64 n)).heap[w.heap.size]? = some (.cells #[.int .i64 p, .int .i64 n] 31 (0, 0)) := (set_same 1 _ (set_same 0 _ z4)).trans (by rfl)
          have zf0 := (ob zF 0).1
          have zf1 := (ob zF 1).1
          simp [bodyPost, results, Yba.results10, go_sem, zf0, zf1]
          have hev : Q.eraseIdx i = Q.take i ++ Q.drop (i + 1) := List.eraseIdx_eq_take_drop_succ Q i
          have hel : (Q.eraseIdx i).length = i + M := by rw [List.length_eraseIdx, if_pos (by omega), hN]; have := hM.out; omega
          have hne2 : (Value.slice p2 (i + M) c2').ownBlock ≠ some w.heap.size := fun e => by have := (hown2.lt _ e).1; omega
          refine ⟨(g4.setCell (Nat.le_refl _) _ _).setCell (Nat.le_refl _) _ _, (b4.setCell hb _).setCell hb _, .inr ⟨i, p, n, _, ⟨hx, hdp, hbef⟩, rfl, ?_⟩⟩
          rw [hel, hev, mc_append]
          exact own_from (own_set (own_set hown2 (a := ⟨w.heap.size, 0, none⟩) hne2 _) (a := ⟨w.heap.size, 1, none⟩) hne2 _) (by omega)
    · have hiN' : i = N := by omega
      subst hiN'
      have z0 : ((w.alloc (.cells #[.int .i64 0, .int .i64 0] 31)).drewN m).heap[w.heap.size]? = some (.cells #[.int .i64 0, .int .i64 0] 31 (0, 0)) := heap_alloc_new w _
      have zF : ((((w.alloc (.cells #[.int .i64 0, .int .i64 0] 31)).drewN m).setCell ⟨w.heap.size, 0, none⟩ (.int .i64 0)).setCell ⟨w.heap.size, 1, none⟩ (.int .i64 0)).heap[w.heap.size]? = some (.cells #[.int .i64 0, .int .i64 0] 31 (0, 0)) := (set_same 1 _ (set_same 0 _ z0)).trans (by rfl)
      have zf0 := (ob zF 0).1
      have zf1 := (ob zF 1).1
      go_wp2_with fail
      simp [bodyPost, results, Yba.results10, go_sem, zf0, zf1]
      refine ⟨((g1.drewN m).setCell (Nat.le_refl _) _ _).setCell (Nat.le_refl _) _ _, ((below_drew ((Below.refl base w).alloc hb _) m).setCell hb _).setCell hb _, .inl ⟨rfl, fun x hx => ?_⟩⟩
      obtain ⟨j, hj⟩ := List.mem_iff_getElem?.1 hx
      exact hbef j x (by have := (List.getElem?_eq_some_iff.1 hj).1; omega) hj
end Go.Proofs.Ybulkits
