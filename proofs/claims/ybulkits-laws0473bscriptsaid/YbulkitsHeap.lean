/-
  container/heap.Push, Remove, Fix on the heap of links.
-/
import Derived.Test.YbulkitsDown
namespace Go.Proofs.Ybulkits
open Go.RowKit
set_option linter.unusedVariables false
set_option linter.unusedSimpArgs false

variable {w : World} {base B : Nat} {n0 n1 n2 rdy : Value} {A : List Nat} {K : Nat → Nat}

/-- The heap with its keys in order. -/
structure Good (w : World) (K : Nat → Nat) (A : List Nat) : Prop where
  keys : Kd w K A A.length
  ord : Ord (kp K A) A.length

/-- Every one of them is a link. -/
def L56 (w : World) (A : List Nat) : Prop := ∀ z ∈ A, ∃ cs, w.heap[z]? = some (.cells cs 56 (0, 0))
theorem Hp.l56 (h : Hp w base B n0 n1 n2 rdy A) : L56 w A := fun z hz => by
  obtain ⟨i, hi⟩ := List.mem_iff_getElem?.1 hz
  obtain ⟨_, a, b, q, c, e⟩ := h.link i z hi
  exact ⟨_, e⟩
theorem L56.cons {x : Nat} {cs : Array Value} (h : L56 w A) (hx : w.heap[x]? = some (.cells cs 56 (0, 0))) : L56 w (x :: A) := fun z hz => by
  rcases List.mem_cons.1 hz with rfl | hz
  · exact ⟨_, hx⟩
  · exact h z hz
theorem To.other' {w' : World} (t : To base w w' B rdy A) {cn : Array Value} (hn : w.heap[B]? = some (.cells cn 49 (0, 0))) (hA : L56 w A) {z : Nat} {cs : Array Value} {ty : TypeId} (hz : w.heap[z]? = some (.cells cs ty (0, 0))) (h1 : ty ≠ 49) (h2 : ty ≠ 50) (h3 : ty ≠ 56) : w'.heap[z]? = some (.cells cs ty (0, 0)) :=
  (t.same z (fun e => ne_tag hz (e ▸ hn) h1 rfl) (fun c e => ne_tag hz e h2 rfl) (fun hm => by obtain ⟨_, e⟩ := hA z hm; exact ne_tag hz e h3 rfl) (Array.getElem?_eq_some_iff.1 hz).1).trans hz
theorem To.lnk' {w' : World} (t : To base w w' B rdy A) {cn : Array Value} (hn : w.heap[B]? = some (.cells cn 49 (0, 0))) {x : Nat} {a b q hh : Value} {i : Int} (hx : w.heap[x]? = some (.cells #[a, b, q, hh, .int .i64 i] 56 (0, 0))) : ∃ i' : Int, w'.heap[x]? = some (.cells #[a, b, q, hh, .int .i64 i'] 56 (0, 0)) := by
  by_cases hm : x ∈ A
  · exact t.link x hm a b q hh i hx
  · exact ⟨i, (t.same x (fun e => ne_tag hx (e ▸ hn) (by decide) rfl) (fun c e => ne_tag hx e (by decide) rfl) hm (Array.getElem?_eq_some_iff.1 hx).1).trans hx⟩
theorem KeyAt.step' {w' : World} {x k : Nat} (hk : KeyAt w x k) (t : To base w w' B rdy A) {cn : Array Value} (hn : w.heap[B]? = some (.cells cn 49 (0, 0))) (hA : L56 w A) : KeyAt w' x k := by
  obtain ⟨a, b, g, o, len, cap, hh, i, cur, e1, e2, e3, e4⟩ := hk
  obtain ⟨i', e1'⟩ := t.lnk' hn e1
  exact ⟨a, b, g, o, len, cap, hh, i', cur, e1', e2, t.other' hn hA e3 (by decide) (by decide) (by decide), e4⟩

theorem kp_app {x k : Nat} (hk : k < A.length) : kp K (A ++ [x]) k = kp K A k := by
  unfold kp
  simp only [List.getD_eq_getElem?_getD, List.getElem?_append_left hk]

set_option maxRecDepth 100000 in
set_option maxHeartbeats 1600000 in
theorem push16 {x : Nat} {a b q hh : Value} {i : Int} (h : Hp w base B n0 n1 n2 rdy A) (hg : Good w K A) (hx : w.heap[x]? = some (.cells #[a, b, q, hh, .int .i64 i] 56 (0, 0))) (hxA : x ∉ A) (bx : base ≤ x) (hf : A.length < 9) (kx : KeyAt w x (K x)) :
    Calls Yba.prog 16 #[.iface 60 (.pointer (some ⟨B, 3, none⟩)), .iface 50 (.pointer (some ⟨x, 0, none⟩))] w fun e w' => e = .returned (.tuple #[]) ∧ ∃ rdy' A', Hp w' base B n0 n1 n2 rdy' A' ∧ To base w w' B rdy (x :: A) ∧ (∀ z, z ∈ A' ↔ z = x ∨ z ∈ A) ∧ Good w' K A' := by
  have hp := n_push (w := w) (a := ⟨B, 3, none⟩)
  go_enter Yba.func16, Yba.ntmps16
  go_wp2_with fail
  refine (pushH h hx hxA bx hf).mono ?_
  rintro e1 w1 ⟨rfl, rdy1, h1, t1⟩
  obtain ⟨p, c, hrd⟩ := slice_of h1.row
  subst hrd
  have hl := n_len h1.cell
  clear hp
  have hln : (A ++ [x]).length = A.length + 1 := by simp
  rw [hln] at hl h1
  have hw : IntKind.i64.wrap (A.length : Int) = (A.length : Int) := by rw [IntKind.wrap_i64]; omega
  have hxB : x ≠ B := ne_tag hx h.net (by decide)
  have hkx : ∀ {z : Nat}, KeyAt w z (K z) → KeyAt w1 z (K z) := fun hz => hz.step' t1 h.net (h.l56.cons hx)
  have hup := up19 (K := K) (n := A.length + 1) (j := A.length) (h := by rw [← hln] at h1; exact h1) (by simp) (by omega) (fun k z hk hz => by
      by_cases hkA : k < A.length
      · rw [List.getElem?_append_left hkA] at hz
        exact hkx (hg.keys k z hkA hz)
      · have hk' : k = A.length := by omega
        subst hk'
        obtain rfl : x = z := by simpa using hz
        exact hkx kx) (by
      refine ⟨fun k k0 kn ki => ?_, fun _ k k0 kn kp' => by omega⟩
      rw [kp_app (by omega), kp_app (by omega)]
      exact hg.ord k k0 (by omega))
  go_wp2_with fail
  refine (len38 _ _ _ _).mono ?_
  rintro e2 w2 ⟨rfl, rfl⟩
  go_wp2_with fail
  rw [hln] at hup
  refine hup.mono ?_
  rintro e3 w3 ⟨rfl, A', h3, t3, s3, k3, o3⟩
  go_wp2_with fail
  go_end0
  have hl3 : A'.length = A.length + 1 := by rw [s3.len]; simp
  refine ⟨rfl, _, A', h3, t1.trans t3 (fun z hz => ?_) ?_, fun z => ?_, ⟨by rw [hl3]; exact k3, by rw [hl3]; exact o3⟩⟩
  · rcases List.mem_append.1 hz with h' | h'
    · exact List.mem_cons_of_mem _ h'
    · exact List.mem_cons.2 (.inl (List.mem_singleton.1 h'))
  · intro hm
    rcases List.mem_cons.1 hm with e | e
    · exact hxB e.symm
    · exact h.tagA h.net (by decide) e
  · rw [s3.mem, List.mem_append, List.mem_singleton]
    exact ⟨fun h => h.symm, fun h => h.symm⟩

theorem Kd.drop {n : Nat} (hk : Kd w K A A.length) : Kd w K A n := fun k x _ hx => hk k x (List.getElem?_eq_some_iff.1 hx).1 hx

set_option maxRecDepth 100000 in
set_option maxHeartbeats 1600000 in
theorem fix21 {i : Nat} (h : Hp w base B n0 n1 n2 rdy A) (hi : i < A.length) (hk : Kd w K A A.length) (ho : Hole (kp K A) A.length i) :
    Calls Yba.prog 21 #[.iface 60 (.pointer (some ⟨B, 3, none⟩)), .int .i64 i] w fun e w' => e = .returned (.tuple #[]) ∧ ∃ A', Hp w' base B n0 n1 n2 rdy A' ∧ To base w w' B rdy A ∧ (∀ z, z ∈ A' ↔ z ∈ A) ∧ Good w' K A' := by
  obtain ⟨p, c, hrd⟩ := slice_of h.row
  subst hrd
  have hl := n_len h.cell
  have hdn := down20 h (Nat.le_refl _) hi hk ho
  go_enter Yba.func21, Yba.ntmps21
  go_wp2_with fail
  refine (len38 _ _ _ _).mono ?_
  rintro e1 w1 ⟨rfl, hw1⟩
  subst hw1
  go_wp2_with fail
  refine hdn.mono ?_
  rintro e2 w2 ⟨bb, rfl, A', h2, t2, s2, k2, d2⟩
  rcases d2 with ⟨rfl, o2⟩ | ⟨rfl, rfl, u2⟩
  · go_wp2_with fail
    go_end0
    exact ⟨rfl, A', h2, t2, s2.mem, ⟨by rw [s2.len]; exact k2, by rw [s2.len]; exact o2⟩⟩
  · go_wp2_with fail
    refine (up19 h2 (Nat.le_refl _) hi k2 u2).mono ?_
    rintro e3 w3 ⟨rfl, A2, h3, t3, s3, k3, o3⟩
    go_wp2_with fail
    go_end0
    exact ⟨rfl, A2, h3, t2.trans t3 (fun z hz => hz) (h.tagA h.net (by decide)), s3.mem, ⟨by rw [s3.len]; exact k3, by rw [s3.len]; exact o3⟩⟩

/-- Behind the last exchange: what Pop takes off. -/
theorem last_off {n x : Nat} (hl : A.length = n + 1) (hx : A[n]? = some x) : A = A.take n ++ [x] := by
  conv => lhs; rw [← List.take_append_drop n A]
  congr 1
  rw [List.drop_eq_getElem_cons (by omega), List.drop_eq_nil_of_le (by omega)]
  have := (List.getElem?_eq_some_iff.1 hx).2
  rw [this]
theorem kp_take {n k : Nat} (hk : k < n) : kp K (A.take n) k = kp K A k := by
  unfold kp
  simp only [List.getD_eq_getElem?_getD, List.getElem?_take_of_lt hk]

set_option maxRecDepth 100000 in
set_option maxHeartbeats 3200000 in
theorem remove17 {i x : Nat} (h : Hp w base B n0 n1 n2 rdy A) (hx : A[i]? = some x) (hk : ∀ (k z : Nat), A[k]? = some z → z ≠ x → KeyAt w z (K z)) (ho : Ord (kp K A) A.length) :
    Calls Yba.prog 17 #[.iface 60 (.pointer (some ⟨B, 3, none⟩)), .int .i64 i] w fun e w' => e = .returned (.iface 50 (.pointer (some ⟨x, 0, none⟩))) ∧ ∃ rdy' A', Hp w' base B n0 n1 n2 rdy' A' ∧ To base w w' B rdy A ∧ (∀ z, z ∈ A' ↔ z ≠ x ∧ z ∈ A) ∧ Good w' K A' := by
  have hi := (List.getElem?_eq_some_iff.1 hx).1
  have hf := h.few
  obtain ⟨n, hn⟩ : ∃ n, A.length = n + 1 := ⟨A.length - 1, by omega⟩
  obtain ⟨p, c, hrd⟩ := slice_of h.row
  rw [hn] at hrd
  subst hrd
  have hl := n_len h.cell
  have hw : IntKind.i64.wrap (n : Int) = (n : Int) := by rw [IntKind.wrap_i64]; omega
  have hBA : B ∉ A := h.tagA h.net (by decide)
  -- the last step, from whatever heap stands there
  have fin : ∀ (w2 : World) (A2 : List Nat), Hp w2 base B n0 n1 n2 (.slice p (n + 1) c) A2 → To base w w2 B (.slice p (n + 1) c) A → A2.length = n + 1 → (∀ z, z ∈ A2 ↔ z ∈ A) → A2[n]? = some x → Kd w2 K A2 n → Ord (kp K A2) n →
      Calls Yba.prog 41 #[.pointer (some ⟨B, 3, none⟩)] w2 fun e w' => e = .returned (.iface 50 (.pointer (some ⟨x, 0, none⟩))) ∧ ∃ rdy' A', Hp w' base B n0 n1 n2 rdy' A' ∧ To base w w' B (.slice p (n + 1) c) A ∧ (∀ z, z ∈ A' ↔ z ≠ x ∧ z ∈ A) ∧ Good w' K A' := by
    intro w2 A2 h2 t2 hl2 hm2 hx2 hk2 ho2
    have hsp := last_off hl2 hx2
    have hlt : (A2.take n).length = n := by simp; omega
    refine (popH (A := A2.take n) (x := x) (by rw [← hsp]; exact h2)).mono ?_
    rintro e w' ⟨rfl, rdy', h', t'⟩
    rw [← hsp] at t'
    refine ⟨rfl, rdy', _, h', t2.trans t' (fun z hz => (hm2 z).1 hz) hBA, fun z => ?_, ⟨fun k z hkn hz => ?_, ?_⟩⟩
    · rw [← hm2 z]
      constructor
      · intro hz
        refine ⟨?_, List.mem_of_mem_take hz⟩
        rintro rfl
        obtain ⟨k, hkz⟩ := List.mem_iff_getElem?.1 hz
        have hkn : k < n := by have := (List.getElem?_eq_some_iff.1 hkz).1; omega
        rw [List.getElem?_take_of_lt hkn] at hkz
        have := h2.inj hkz hx2
        omega
      · rintro ⟨hne, hz⟩
        rw [hsp] at hz
        rcases List.mem_append.1 hz with h'' | h''
        · exact h''
        · exact absurd (List.mem_singleton.1 h'') hne
    · rw [hlt] at hkn
      rw [List.getElem?_take_of_lt hkn] at hz
      exact (hk2 k z hkn hz).step t' h2
    · rw [hlt]
      intro k k0 kn
      rw [kp_take kn, kp_take (by omega)]
      exact ho2 k k0 kn
  go_enter Yba.func17, Yba.ntmps17
  go_wp2_with fail
  refine (len38 _ _ _ _).mono ?_
  rintro e1 w1 ⟨rfl, hw1⟩
  subst hw1
  have hp := fun W => n_pop (w := W) (a := ⟨B, 3, none⟩)
  by_cases hin : i = n
  · subst hin
    have hb : ((i : Int) != (i : Int)) = false := by simp
    go_wp2_with fail
    refine (fin _ A h (To.refl _ _ _ _ _) hn (fun z => Iff.rfl) hx (fun k z hkn hz => hk k z hz (by
      rintro rfl
      have := h.inj hz hx
      omega)) (ho.less (by omega))).mono ?_
    rintro e2 w2 ⟨rfl, hres⟩
    go_wp2_with fail
    go_ret
    exact ⟨rfl, hres⟩
  · obtain ⟨y, hy⟩ : ∃ y, A[n]? = some y := ⟨_, List.getElem?_eq_getElem (by omega)⟩
    have hb : ((n : Int) != (i : Int)) = true := by simp; omega
    have hsw := n_swap h.cell
    have hin' : i < n := by omega
    go_wp2_with fail
    refine (swapH h hx hy hin).mono ?_
    rintro e2 w2 ⟨rfl, h2, t2⟩
    have hl2 : (swL A i n).length = n + 1 := by rw [swL_len]; exact hn
    have hx2 : (swL A i n)[n]? = some x := by rw [swL_get hx hy]; simp
    have hk2 : Kd w2 K (swL A i n) n := by
      intro k z hkn hz
      rw [swL_get hx hy, if_neg (by omega)] at hz
      split at hz
      · obtain rfl := Option.some.inj hz
        exact (hk n _ hy (by rintro rfl; exact hin (h.inj hx hy))).step t2 h
      · exact (hk k z hz (by rintro rfl; have := h.inj hz hx; omega)).step t2 h
    have hole : Hole (kp K (swL A i n)) n i := by
      refine hole_of (ho.less (m := n) (by omega)) (fun k hkn hki => ?_) hin'
      unfold kp
      simp only [List.getD_eq_getElem?_getD, swL_get hx hy]
      rw [if_neg (by omega), if_neg hki]
    clear hl hsw
    have hdn := down20 (n := n) (i0 := i) h2 (by omega) hin' hk2 hole
    go_wp2_with fail
    refine hdn.mono ?_
    rintro e3 w3 ⟨bb, rfl, A3, h3, t3, s3, k3, d3⟩
    have hm3 : ∀ z, z ∈ A3 ↔ z ∈ A := fun z => (s3.mem z).trans (swL_mem hx hy hin z)
    have hx3 : A3[n]? = some x := (s3.tail n (Nat.le_refl _)).trans hx2
    have t23 := t2.trans t3 (fun z hz => (swL_mem hx hy hin z).1 hz) hBA
    rcases d3 with ⟨rfl, o3⟩ | ⟨rfl, rfl, u3⟩
    · go_wp2_with fail
      refine (fin w3 A3 h3 t23 (by rw [s3.len]; exact hl2) hm3 hx3 k3 o3).mono ?_
      rintro e4 w4 ⟨rfl, hres⟩
      go_wp2_with fail
      go_ret
      exact ⟨rfl, hres⟩
    · go_wp2_with fail
      refine (up19 h3 (by omega) hin' k3 u3).mono ?_
      rintro e4 w4 ⟨rfl, A4, h4, t4, s4, k4, o4⟩
      go_wp2_with fail
      refine (fin w4 A4 h4 (t23.trans t4 (fun z hz => (hm3 z).1 hz) hBA) (by rw [s4.len]; exact hl2) (fun z => (s4.mem z).trans (hm3 z)) ((s4.tail n (Nat.le_refl _)).trans hx3) k4 o4).mono ?_
      rintro e5 w5 ⟨rfl, hres⟩
      go_wp2_with fail
      go_ret
      exact ⟨rfl, hres⟩
end Go.Proofs.Ybulkits
