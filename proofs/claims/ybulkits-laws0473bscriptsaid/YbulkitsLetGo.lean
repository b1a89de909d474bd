/-
  LetGo.
-/
import Derived.Test.YbulkitsHold
namespace Go.Proofs.Ybulkits
open Go.RowKit
set_option linter.unusedVariables false
set_option linter.unusedSimpArgs false

variable {w : World} {base B Bm sent : Nat} {S : Nat → Option Lk} {A : List Nat}

theorem nodup_few : ∀ (n : Nat) (l : List Nat), l.Nodup → (∀ x ∈ l, x < n) → l.length ≤ n
  | 0, l, _, h => by
    cases l with
    | nil => simp
    | cons x r => exact absurd (h x List.mem_cons_self) (by omega)
  | n + 1, l, nd, h => by
    have := nodup_few n (l.erase n) (nd.erase n) (fun x hx => by
      have h1 := (nd.mem_erase_iff).1 hx
      have := h x h1.2
      have := h1.1
      omega)
    by_cases hm : n ∈ l
    · rw [List.length_erase_of_mem hm] at this; omega
    · rw [List.erase_of_not_mem hm] at this; omega

/-- Fewer than nine where one link is not among them. -/
theorem NetIs.few (h : NetIs w base B Bm sent S A) {p : Nat} {k : Lk} (hp : p < 9) (hS : S p = some k) (hx : k.x ∉ A) : A.length < 9 := by
  obtain ⟨rdy, hhp⟩ := h.hp
  have hf : ∀ z ∈ A, ∃ q, q < 9 ∧ (S q).map (·.x) = some z ∧ ((List.range 9).find? fun q => decide ((S q).map (·.x) = some z)) = some q := by
    intro z hz
    obtain ⟨q, kq, hq, e, ex, _⟩ := (h.mem z).1 hz
    cases hfd : (List.range 9).find? fun q => decide ((S q).map (·.x) = some z) with
    | none =>
      have := List.find?_eq_none.1 hfd q (List.mem_range.2 hq)
      simp [e, ex] at this
    | some r =>
      have h1 := List.find?_some hfd
      have h2 := List.mem_of_find?_eq_some hfd
      exact ⟨r, List.mem_range.1 h2, by simpa using h1, rfl⟩
  have hnd : A.Nodup := by
    unfold List.Nodup
    rw [List.pairwise_iff_getElem]
    intro i j hi hj hij he
    have := hhp.inj (List.getElem?_eq_getElem hi) (by rw [he]; exact List.getElem?_eq_getElem hj)
    omega
  have hpn : (A.map fun z => ((List.range 9).find? fun q => decide ((S q).map (·.x) = some z)).getD 0).Nodup := by
    unfold List.Nodup
    rw [List.pairwise_map]
    refine List.Pairwise.imp_of_mem ?_ hnd
    intro a b ha hb hne e
    obtain ⟨q, _, e1, f1⟩ := hf a ha
    obtain ⟨r, _, e2, f2⟩ := hf b hb
    rw [f1, f2] at e
    simp at e
    subst e
    rw [e1] at e2
    exact hne (Option.some.inj e2)
  have := nodup_few 9 (p :: A.map fun z => ((List.range 9).find? fun q => decide ((S q).map (·.x) = some z)).getD 0) (List.nodup_cons.2 ⟨fun hm => by
      obtain ⟨z, hz, e⟩ := List.mem_map.1 hm
      obtain ⟨q, _, e1, f1⟩ := hf z hz
      rw [f1] at e
      simp at e
      subst e
      rw [hS] at e1
      exact hx (by have : k.x = z := by simpa using e1
                   rw [this]; exact hz), hpn⟩) (fun y hy => by
      rcases List.mem_cons.1 hy with rfl | hy
      · exact hp
      · obtain ⟨z, hz, e⟩ := List.mem_map.1 hy
        obtain ⟨q, hq, _, f1⟩ := hf z hz
        rw [f1] at e
        simp at e
        omega)
  simp at this
  omega

/-- The network with the pair p's link laid anew. -/
theorem NetIs.mk' {w3 : World} {sent' p : Nat} {A' : List Nat} {k k' : Lk} {K K' : Nat → Nat} (h1 : NetIs w base B Bm sent S A) (hp : p < 9) (hS : S p = some k) (hx : k'.x = k.x)
    (hky : ∀ (q : Nat) (kq : Lk) (n : Nat) (r : List Nat), q < 9 → S q = some kq → kq.q = n :: r → K kq.x = n)
    (r1 : ∃ rdy', Hp w3 base B (.func (.func 14) #[] #[]) (.map (some Bm)) (.int .i64 sent') rdy' A') (g : Good w3 K' A') (hK : ∀ n r, k'.q = n :: r → K' k.x = n) (hKo : ∀ z, z ≠ k.x → K' z = K z)
    (r3 : ∀ q kq, q < 9 → q ≠ p → S q = some kq → LkIs w3 base q kq) (r4 : LkIs w3 base p k') (r5 : MapIs w3 Bm (put S p (some k')))
    (rg : 0 < k'.cap → (0 < k.cap ∧ k'.g = k.g) ∨ ∀ q kq, q < 9 → q ≠ p → S q = some kq → 0 < kq.cap → kq.g ≠ k'.g) (r6 : ∀ z, z ∈ A' ↔ (z = k.x ∧ k'.held = false ∧ k'.q ≠ []) ∨ (z ≠ k.x ∧ z ∈ A)) : NetIs w3 base B Bm sent' (put S p (some k')) A' := by
  refine ⟨r1, ⟨K', g, fun q kq n r hq e eq => ?_⟩, r5, h1.bm, fun q kq hq e => ?_, fun q kq q' kq' hq hq' e f c c' eg => ?_, fun z => ?_⟩
  · rcases put_some e with ⟨rfl, e'⟩ | ⟨hne, e'⟩
    · obtain rfl := Option.some.inj e'; rw [hx]; exact hK n r eq
    · rw [hKo _ (fun ex => hne (h1.xinj hq hp e' hS ex))]; exact hky q kq n r hq e' eq
  · rcases put_some e with ⟨rfl, e'⟩ | ⟨hne, e'⟩
    · obtain rfl := Option.some.inj e'; exact r4
    · exact r3 q kq hq hne e'
  · rcases put_some e with ⟨hq1, e1⟩ | ⟨hq1, e1⟩ <;> rcases put_some f with ⟨hq2, f1⟩ | ⟨hq2, f1⟩
    · rw [hq1, hq2]
    · subst hq1
      obtain rfl := Option.some.inj e1
      rcases rg c with ⟨c0, g0⟩ | hfr
      · exact h1.rinj q k q' kq' hq hq' hS f1 c0 c' (by rw [← g0]; exact eg)
      · exact absurd eg.symm (hfr q' kq' hq' hq2 f1 c')
    · subst hq2
      obtain rfl := Option.some.inj f1
      rcases rg c' with ⟨c0, g0⟩ | hfr
      · exact h1.rinj q kq q' k hq hq' e1 hS c c0 (by rw [← g0]; exact eg)
      · exact absurd eg (hfr q kq hq hq1 e1 c)
    · exact h1.rinj q kq q' kq' hq hq' e1 f1 c c' eg
  · rw [r6, h1.mem]
    constructor
    · rintro (⟨rfl, a, b⟩ | ⟨hzx, q, kq, hq, e, ex, r⟩)
      · exact ⟨p, k', hp, put_p _ _ _, hx, a, b⟩
      · refine ⟨q, kq, hq, ?_, ex, r⟩
        rw [put_o]
        · exact e
        · rintro rfl; rw [hS] at e; obtain rfl := Option.some.inj e; exact hzx ex.symm
    · rintro ⟨q, kq, hq, e, ex, a, b⟩
      rcases put_some e with ⟨rfl, e'⟩ | ⟨hne, e'⟩
      · obtain rfl := Option.some.inj e'; exact .inl ⟨by rw [← ex, hx], a, b⟩
      · exact .inr ⟨fun ez => hne (h1.xinj hq hp e' hS (ex.trans ez)), q, kq, hq, e', ex, a, b⟩
/-- .. and taken off. -/
theorem NetIs.off' {w3 : World} {p : Nat} {A' : List Nat} {k : Lk} {K : Nat → Nat} (h1 : NetIs w base B Bm sent S A) (hp : p < 9) (hS : S p = some k)
    (hky : ∀ (q : Nat) (kq : Lk) (n : Nat) (r : List Nat), q < 9 → S q = some kq → kq.q = n :: r → K kq.x = n)
    (r1 : ∃ rdy', Hp w3 base B (.func (.func 14) #[] #[]) (.map (some Bm)) (.int .i64 sent) rdy' A') (g : Good w3 K A')
    (r3 : ∀ q kq, q < 9 → q ≠ p → S q = some kq → LkIs w3 base q kq) (r5 : MapIs w3 Bm (put S p none)) (r6 : ∀ z, z ∈ A' ↔ z ≠ k.x ∧ z ∈ A) : NetIs w3 base B Bm sent (put S p none) A' := by
  have o : ∀ {q kq}, put S p none q = some kq → q ≠ p ∧ S q = some kq := fun {q kq} e => by
    rcases put_some e with ⟨_, e'⟩ | h
    · cases e'
    · exact h
  refine ⟨r1, ⟨K, g, fun q kq n r hq e eq => hky q kq n r hq (o e).2 eq⟩, r5, h1.bm, fun q kq hq e => r3 q kq hq (o e).1 (o e).2, fun q kq q' kq' hq hq' e f c c' eg => h1.rinj q kq q' kq' hq hq' (o e).2 (o f).2 c c' eg, fun z => ?_⟩
  rw [r6, h1.mem]
  constructor
  · rintro ⟨hzx, q, kq, hq, e, ex, r⟩
    refine ⟨q, kq, hq, ?_, ex, r⟩
    rw [put_o]
    · exact e
    · rintro rfl; rw [hS] at e; obtain rfl := Option.some.inj e; exact hzx ex.symm
  · rintro ⟨q, kq, hq, e, ex, r⟩
    exact ⟨fun ez => (o e).1 (h1.xinj hq hp (o e).2 hS (ex.trans ez)), q, kq, hq, (o e).2, ex, r⟩

/-- Every link is held back or has messages. -/
def Live (S : Nat → Option Lk) : Prop := ∀ (p : Nat) (k : Lk), p < 9 → S p = some k → k.held = true ∨ k.q ≠ []

set_option maxRecDepth 100000 in
set_option maxHeartbeats 1600000 in
theorem letgo8 {p : Nat} (h : NetIs w base B Bm sent S A) (hp : p < 9) (hb : base ≤ w.heap.size) (hv : Live S) : Calls Yba.prog 8 #[.pointer (some ⟨B, 0, none⟩), .string (site (p / 3)), .string (site (p % 3))] w fun e w' => e = .returned (.tuple #[]) ∧ ∃ (S' : Nat → Option Lk) (A' : List Nat), NetIs w' base B Bm sent S' A' ∧ hOf S' p = false ∧ qOf S' p = qOf S p ∧ (∀ q, q ≠ p → S' q = S q) ∧ Live S' ∧ Below base w w' ∧ Kept w w' := by
  obtain ⟨r, e, hB⟩ := h.cells
  have hBl := (Array.getElem?_eq_some_iff.1 e).1
  have c1 := (ob e 1).1
  have hl := fun m => h.look hp (((Gr.refl w).alloc (.cells #[.string (site (p / 3)), .string (site (p % 3))] 53)).drewN m)
  unfold keyV at hl
  have g0 := fun m => ((Gr.refl w).alloc (.cells #[.string (site (p / 3)), .string (site (p % 3))] 53)).drewN m
  have b0 : ∀ m, Below base w ((w.alloc (.cells #[.string (site (p / 3)), .string (site (p % 3))] 53)).drewN m) := fun m => below_drew ((Below.refl base w).alloc hb _) m
  cases hS : S p with
  | none =>
    simp only [hS] at hl
    go_enter Yba.func8, Yba.ntmps8
    go_wp2_with fail
    go_quiet (fail)
    go_wp2_with fail
    (try simp only [Exit.inBlock, Exit.then]); refine bodyPost_ret (results_none rfl _ _ _) rfl ?_
    exact ⟨rfl, S, A, h.gr (g0 _), by simp [hOf, hS], rfl, fun _ _ => rfl, hv, b0 _, (g0 _).kept⟩
  | some k =>
    simp only [hS] at hl
    obtain ⟨i, ck0⟩ := (h.link p k hp hS).cells
    have hxl := (Array.getElem?_eq_some_iff.1 ck0).1
    cases hh : k.held with
    | false =>
      rw [hh] at ck0
      have c3 := (ob ck0 3).1
      go_enter Yba.func8, Yba.ntmps8
      go_wp2_with fail
      go_quiet (fail)
      go_wp2_with fail
      (try simp only [Exit.inBlock, Exit.then]); refine bodyPost_ret (results_none rfl _ _ _) rfl ?_
      exact ⟨rfl, S, A, h.gr (g0 _), by simp [hOf, hS, hh], rfl, fun _ _ => rfl, hv, b0 _, (g0 _).kept⟩
    | true =>
      rw [hh] at ck0
      have c3 := (ob ck0 3).1
      go_enter Yba.func8, Yba.ntmps8
      go_wp2_with fail
      go_quiet (fail)
      have h1 := h.gr (g0 nq)
      have hb1 := b0 nq
      have hkp1 := (g0 nq).kept
      have cp := heap_alloc_new w (.cells #[.string (site (p / 3)), .string (site (p % 3))] 53)
      have cp1 : ((w.alloc (.cells #[.string (site (p / 3)), .string (site (p % 3))] 53)).drewN nq).heap[w.heap.size]? = some (.cells #[.string (site (p / 3)), .string (site (p % 3))] 53 (0, 0)) := cp
      generalize ((w.alloc (.cells #[.string (site (p / 3)), .string (site (p % 3))] 53)).drewN nq) = w1 at *
      have hlk := h1.link p k hp hS
      obtain ⟨i, ck⟩ := hlk.cells
      rw [hh] at ck
      obtain ⟨pq, cq, hqv⟩ := qv_form k hlk.nil
      obtain ⟨L, hL⟩ : ∃ L, k.q.length = L := ⟨_, rfl⟩
      rw [hL] at hqv
      rw [hqv] at ck
      clear c3 c1 e ck0 hl
      have c3 := (ob ck 3).1
      have f3 := (ob ck 3).2
      have c2 := (ob ck 2).1
      obtain ⟨rdy, hhp⟩ := h1.hp
      have cB1 := (ob hhp.net 1).1
      have hBx : B ≠ k.x := ne_tag hhp.net ck (by decide)
      have ck2 : (w1.setCell ⟨k.x, 3, none⟩ (.bool false)).heap[k.x]? = some (.cells #[.string (site (p / 3)), .string (site (p % 3)), .slice pq L cq, .bool false, .int .i64 i] 56 (0, 0)) := set_same 3 _ ck
      have ap : Apart w1 (w1.setCell ⟨k.x, 3, none⟩ (.bool false)) B k := fun b cs ty e _ g2 _ => (Below.heap_setCell _ _ _ _ g2).trans e
      have hhp2 := h1.hpTurn (sent' := sent) (v := .slice pq L cq) (hh := false) hhp hp hS ap ((Below.heap_setCell _ _ _ _ hBx).trans hhp.net) (fun a b q h' i' e => by
        rw [ck] at e
        simp at e
        obtain ⟨rfl, rfl, rfl, rfl, rfl⟩ := e
        exact ck2)
      have hl2 : LkIs (w1.setCell ⟨k.x, 3, none⟩ (.bool false)) base p { k with held := false } := ⟨hlk.bx, ⟨i, by
        have : qv { k with held := false } = .slice pq L cq := hqv
        rw [this]; exact ck2⟩, hlk.nil, hlk.len, hlk.capm, fun hc => by
          obtain ⟨bg, cur, e1, e2, e3⟩ := hlk.row hc
          exact ⟨bg, cur, (Below.heap_setCell _ _ _ _ (ne_tag e1 ck (by decide))).trans e1, e2, e3⟩⟩
      have hbm2 : (w1.setCell ⟨k.x, 3, none⟩ (.bool false)).heap[Bm]? = w1.heap[Bm]? := Below.heap_setCell _ _ _ _ (by
        obtain ⟨l, c, em, _⟩ := h1.map
        intro e
        have e' : Bm = k.x := e
        rw [e', ck] at em
        simp at em)
      have hbl2 : Below base w1 (w1.setCell ⟨k.x, 3, none⟩ (.bool false)) := (Below.refl _ _).setCell hlk.bx _
      have hkp2 : Kept w1 (w1.setCell ⟨k.x, 3, none⟩ (.bool false)) := fun b cs ty e _ _ a3 _ => (Below.heap_setCell _ _ _ _ (ne_tag e ck a3)).trans e
      have hxA : k.x ∉ A := fun hm => by have := ((h1.mem_of hp hS).1 hm).1; rw [hh] at this; cases this
      obtain ⟨K, hgd, hky⟩ := h1.good
      have hgd2 : Good (w1.setCell ⟨k.x, 3, none⟩ (.bool false)) K A := ⟨fun j z hj hz => KeyAt.apart h1 hp hS ap (List.mem_of_getElem? hz) (fun e => hxA (e ▸ List.mem_of_getElem? hz)) (fun q kq hq e ex m r hm => by have := hky q kq m r hq e hm; rw [← ex]; exact this.symm), hgd.ord⟩
      by_cases hq0 : k.q = []
      · have hlen : L = 0 := by rw [← hL, hq0]; rfl
        subst hlen
        have cp2 : (w1.setCell ⟨k.x, 3, none⟩ (.bool false)).heap[w.heap.size]? = some (.cells #[.string (site (p / 3)), .string (site (p % 3))] 53 (0, 0)) := (Below.heap_setCell _ _ _ _ (ne_tag cp1 ck (by decide))).trans cp1
        have p0 := (ob cp2 0).1
        have p1 := (ob cp2 1).1
        have cB2 := (ob hhp2.net 1).1
        obtain ⟨o, ⟨es, cl, ho⟩, hdl, hmd⟩ := MapIs.drop (w := (w1.setCell ⟨k.x, 3, none⟩ (.bool false)).drew) (ty := 0) (S := S) (h := MapIs.gc (w := w1) h1.map hbm2) hp hS
        unfold keyV at hdl
        go_wp2_with fail
        go_region
        go_wp2_with fail
        go_end0
        subst ho
        have gd : Gc (w1.setCell ⟨k.x, 3, none⟩ (.bool false)) (w1.setCell ⟨k.x, 3, none⟩ (.bool false)).drew := fun _ _ _ h => h
        obtain ⟨l0, c0, em0, _⟩ := MapIs.gc (w := w1) (w' := (w1.setCell ⟨k.x, 3, none⟩ (.bool false)).drew) h1.map hbm2
        have gm := gd.trans (Gc.map em0 (.map es cl))
        refine ⟨rfl, put S p none, A, h1.off' hp hS hky ⟨rdy, hhp2.gc gm⟩ (hgd2.gc gm) (fun q kq hq hne e => (h1.others hp hS ap hq hne e).gc gm) hmd (fun z => ⟨fun hz => ⟨fun e => hxA (e ▸ hz), hz⟩, fun hz => hz.2⟩), by simp [hOf, put_p], by simp [qOf, put_p, hS, hq0], fun q hq => put_o hq, fun q kq hq e => ?_, hb1.trans (below_map (hbl2.drew) h1.bm _), hkp1.trans (hkp2.trans gm.kept)⟩
        rcases put_some e with ⟨_, e'⟩ | ⟨_, e'⟩
        · cases e'
        · exact hv q kq hq e'
      · have hlen : 0 < L := by rw [← hL]; exact List.length_pos_iff.2 hq0
        have hlI : (0 : Int) < (L : Int) := by omega
        have hl0 : ((L : Int) == 0) = false := by simp; omega
        obtain ⟨n, rr, hqn⟩ := List.exists_cons_of_ne_nil hq0
        have hkx : KeyAt (w1.setCell ⟨k.x, 3, none⟩ (.bool false)) k.x (K k.x) := by
          have := hl2.key (n := n) (r := rr) hqn
          rw [hky p k n rr hp hS hqn]
          exact this
        have hpu := push16 hhp2 hgd2 ck2 hxA hlk.bx (h1.few hp hS hxA) hkx
        go_wp2_with fail
        refine hpu.mono ?_
        rintro e3 w3 ⟨rfl, rdy3, A3, h3, t3, m3, g3⟩
        go_wp2_with fail
        go_end0
        refine ⟨rfl, put S p (some { k with held := false }), A3, h1.mk' hp hS rfl hky ⟨rdy3, h3⟩ g3 (fun n r e => hky p k n r hp hS e) (fun _ _ => rfl) (fun q kq hq hne e => (h1.others hp hS ap hq hne e).to t3 hhp2.net (hhp2.l56.cons ck2)) (hl2.to t3 hhp2.net (hhp2.l56.cons ck2)) ((MapIs.turn (k' := { k with held := false }) (h := h1.map) hbm2 hS rfl).to t3 hhp2.net (hhp2.l56.cons ck2)) (fun hc => .inl ⟨hc, rfl⟩) (fun z => ?_), by simp [hOf, put_p], by simp [qOf, put_p, hS], fun q hq => put_o hq, fun q kq hq e => ?_, hb1.trans (hbl2.trans t3.below), hkp1.trans (hkp2.trans (Kept.to t3 hhp2.net (hhp2.l56.cons ck2)))⟩
        · rw [m3]
          constructor
          · rintro (rfl | hz)
            · exact .inl ⟨rfl, rfl, hq0⟩
            · exact .inr ⟨fun e => hxA (e ▸ hz), hz⟩
          · rintro (⟨e, _⟩ | ⟨_, hz⟩)
            · exact .inl e
            · exact .inr hz
        · rcases put_some e with ⟨_, e'⟩ | ⟨_, e'⟩
          · obtain rfl := Option.some.inj e'; exact .inr hq0
          · exact hv q kq hq e'
end Go.Proofs.Ybulkits
