/-
  Hold.
-/
import Derived.Test.YbulkitsTurn
namespace Go.Proofs.Ybulkits
open Go.RowKit
set_option linter.unusedVariables false
set_option linter.unusedSimpArgs false

variable {w : World} {base B Bm sent : Nat} {S : Nat → Option Lk} {A : List Nat}

theorem LkIs.to {w' : World} {p : Nat} {k : Lk} {rdy : Value} {cn : Array Value} (h : LkIs w base p k) (t : To base w w' B rdy A) (hn : w.heap[B]? = some (.cells cn 49 (0, 0))) (hA : L56 w A) : LkIs w' base p k := by
  obtain ⟨i, c⟩ := h.cells
  obtain ⟨i', c'⟩ := t.lnk' hn c
  exact ⟨h.bx, ⟨i', c'⟩, h.nil, h.len, h.capm, fun hc => by
    obtain ⟨bg, cur, e1, e2, e3⟩ := h.row hc
    exact ⟨bg, cur, t.other' hn hA e1 (by decide) (by decide) (by decide), e2, e3⟩⟩
theorem Kept.to {w' : World} {rdy : Value} {cn : Array Value} (t : To base w w' B rdy A) (hn : w.heap[B]? = some (.cells cn 49 (0, 0))) (hA : L56 w A) : Kept w w' := fun b cs ty h a1 a2 a3 a4 => t.other' hn hA h a1 a2 a3
theorem MapIs.to {w' : World} {rdy : Value} {cn : Array Value} (h : MapIs w Bm S) (t : To base w w' B rdy A) (hn : w.heap[B]? = some (.cells cn 49 (0, 0))) (hA : L56 w A) : MapIs w' Bm S := by
  obtain ⟨l, c, e1, e2⟩ := h
  refine ⟨l, c, (t.same Bm ?_ ?_ ?_ (Array.getElem?_eq_some_iff.1 e1).1).trans e1, e2⟩
  · rintro rfl; rw [e1] at hn; simp at hn
  · intro cs e; rw [e1] at e; simp at e
  · intro hm; obtain ⟨_, e⟩ := hA _ hm; rw [e1] at e; simp at e
theorem MapIs.gc {w' : World} (h : MapIs w Bm S) (e : w'.heap[Bm]? = w.heap[Bm]?) : MapIs w' Bm S := by
  obtain ⟨l, c, e1, e2⟩ := h
  exact ⟨l, c, e.trans e1, e2⟩
theorem qv_form (k : Lk) (h : k.cap = 0 → k.q = []) : ∃ pq cq, qv k = .slice pq k.q.length cq := by
  unfold qv
  split
  · rename_i hc; exact ⟨none, 0, by rw [h hc]; rfl⟩
  · exact ⟨_, _, rfl⟩
def qOf (S : Nat → Option Lk) (p : Nat) : List Nat := match S p with | some k => k.q | none => []
def hOf (S : Nat → Option Lk) (p : Nat) : Bool := match S p with | some k => k.held | none => false

theorem NetIs.mem_of (h : NetIs w base B Bm sent S A) {p : Nat} {k : Lk} (hp : p < 9) (hS : S p = some k) : k.x ∈ A ↔ k.held = false ∧ k.q ≠ [] := by
  rw [h.mem]
  constructor
  · rintro ⟨q, kq, hq, e, ex, r⟩
    obtain rfl := h.xinj hq hp e hS ex
    rw [hS] at e
    obtain rfl := Option.some.inj e
    exact r
  · intro r
    exact ⟨p, k, hp, hS, rfl, r⟩

set_option maxRecDepth 100000 in
set_option maxHeartbeats 1600000 in
theorem hold7 {p : Nat} (h : NetIs w base B Bm sent S A) (hp : p < 9) (hb : base ≤ w.heap.size) : Calls Yba.prog 7 #[.pointer (some ⟨B, 0, none⟩), .string (site (p / 3)), .string (site (p % 3))] w fun e w' => e = .returned (.tuple #[]) ∧ ∃ (k : Lk) (S' : Nat → Option Lk) (A' : List Nat), NetIs w' base B Bm sent S' A' ∧ S' p = some k ∧ k.held = true ∧ k.q = qOf S p ∧ (∀ q, q ≠ p → S' q = S q) ∧ Below base w w' ∧ Kept w w' := by
  go_enter Yba.func7, Yba.ntmps7
  go_wp2_with fail
  refine (link15 h hp hb).mono ?_
  rintro e1 w1 ⟨k, S1, rfl, h1, hk1, ho1, hor, hb1, hkp1⟩
  have hqk : k.q = qOf S p := by
    unfold qOf
    rcases hor with e | ⟨e, e', _⟩
    · rw [e]
    · rw [e, e']
  have hlk := h1.link p k hp hk1
  obtain ⟨i, ck⟩ := hlk.cells
  have c3 := (ob ck 3).1
  cases hh : k.held with
  | true =>
    rw [hh] at c3
    go_wp2_with fail
    (try simp only [Exit.inBlock, Exit.then]); refine bodyPost_ret (results_none rfl _ _ _) rfl ?_
    exact ⟨rfl, k, S1, A, h1, hk1, hh, hqk, ho1, hb1, hkp1⟩
  | false =>
    rw [hh] at c3 ck
    have f3 := (ob ck 3).2
    obtain ⟨pq, cq, hqv⟩ := qv_form k hlk.nil
    obtain ⟨L, hL⟩ : ∃ L, k.q.length = L := ⟨_, rfl⟩
    rw [hL] at hqv
    rw [hqv] at ck
    have c2 := (ob ck 2).1
    have c4 := (ob ck 4).1
    obtain ⟨rdy, hhp⟩ := h1.hp
    have hBx : B ≠ k.x := ne_tag hhp.net ck (by decide)
    -- the world with the mark set
    have ck2 : (w1.setCell ⟨k.x, 3, none⟩ (.bool true)).heap[k.x]? = some (.cells #[.string (site (p / 3)), .string (site (p % 3)), .slice pq L cq, .bool true, .int .i64 i] 56 (0, 0)) := set_same 3 _ ck
    have ap : Apart w1 (w1.setCell ⟨k.x, 3, none⟩ (.bool true)) B k := fun b cs ty e _ g2 _ => (Below.heap_setCell _ _ _ _ g2).trans e
    have hhp2 := h1.hpTurn (sent' := sent) (v := .slice pq L cq) (hh := true) hhp hp hk1 ap ((Below.heap_setCell _ _ _ _ hBx).trans hhp.net) (fun a b q h' i' e => by
      rw [ck] at e
      simp at e
      obtain ⟨rfl, rfl, rfl, rfl, rfl⟩ := e
      exact ck2)
    have hl2 : LkIs (w1.setCell ⟨k.x, 3, none⟩ (.bool true)) base p { k with held := true } := ⟨hlk.bx, ⟨i, by
      have : qv { k with held := true } = .slice pq L cq := hqv
      rw [this]; exact ck2⟩, hlk.nil, hlk.len, hlk.capm, fun hc => by
        obtain ⟨bg, cur, e1, e2, e3⟩ := hlk.row hc
        exact ⟨bg, cur, (Below.heap_setCell _ _ _ _ (ne_tag e1 ck (by decide))).trans e1, e2, e3⟩⟩
    have hbm2 : (w1.setCell ⟨k.x, 3, none⟩ (.bool true)).heap[Bm]? = w1.heap[Bm]? := Below.heap_setCell _ _ _ _ (by
      obtain ⟨l, c, em, _⟩ := h1.map
      intro e
      have e' : Bm = k.x := e
      rw [e', ck] at em
      simp at em)
    have hbl2 : Below base w1 (w1.setCell ⟨k.x, 3, none⟩ (.bool true)) := (Below.refl _ _).setCell hlk.bx _
    have hkp2 : Kept w1 (w1.setCell ⟨k.x, 3, none⟩ (.bool true)) := fun b cs ty e _ _ a3 _ => (Below.heap_setCell _ _ _ _ (ne_tag e ck a3)).trans e
    have hmm := h1.mem_of hp hk1
    obtain ⟨K, hgd, hky⟩ := h1.good
    -- all but the heap's own
    have rest : ∀ (w3 : World) (A' : List Nat), (∃ rdy', Hp w3 base B (.func (.func 14) #[] #[]) (.map (some Bm)) (.int .i64 sent) rdy' A') → Good w3 K A' → (∀ q kq, q < 9 → q ≠ p → S1 q = some kq → LkIs w3 base q kq) → LkIs w3 base p { k with held := true } → MapIs w3 Bm (put S1 p (some { k with held := true })) → (∀ z, z ∈ A' ↔ z ≠ k.x ∧ z ∈ A) → NetIs w3 base B Bm sent (put S1 p (some { k with held := true })) A' := by
      intro w3 A' r1 r2 r3 r4 r5 r6
      refine ⟨r1, ⟨K, r2, fun q kq n r hq e eq => ?_⟩, r5, h1.bm, fun q kq hq e => ?_, fun q kq q' kq' hq hq' e e' c c' eg => ?_, fun z => ?_⟩
      · rcases put_some e with ⟨rfl, e'⟩ | ⟨_, e'⟩
        · obtain rfl := Option.some.inj e'; exact hky q k n r hq hk1 eq
        · exact hky q kq n r hq e' eq
      · rcases put_some e with ⟨rfl, e'⟩ | ⟨hne, e'⟩
        · obtain rfl := Option.some.inj e'; exact r4
        · exact r3 q kq hq hne e'
      · have o : ∀ {q kq}, put S1 p (some { k with held := true }) q = some kq → ∃ kk, S1 q = some kk ∧ kk.cap = kq.cap ∧ kk.g = kq.g := fun {q kq} e => by
          rcases put_some e with ⟨hqp, e2⟩ | ⟨_, e2⟩
          · subst hqp; obtain rfl := Option.some.inj e2; exact ⟨k, hk1, rfl, rfl⟩
          · exact ⟨kq, e2, rfl, rfl⟩
        obtain ⟨a1, a2, a3, a4⟩ := o e
        obtain ⟨b1, b2, b3, b4⟩ := o e'
        exact h1.rinj q a1 q' b1 hq hq' a2 b2 (by omega) (by omega) (by rw [a4, b4]; exact eg)
      · rw [r6, h1.mem]
        constructor
        · rintro ⟨hzx, q, kq, hq, e, ex, r⟩
          refine ⟨q, kq, hq, ?_, ex, r⟩
          rw [put_o]
          · exact e
          · rintro rfl; rw [hk1] at e; obtain rfl := Option.some.inj e; exact hzx ex.symm
        · rintro ⟨q, kq, hq, e, ex, r1', r2'⟩
          rcases put_some e with ⟨rfl, e'⟩ | ⟨hne, e'⟩
          · obtain rfl := Option.some.inj e'; cases r1'
          · exact ⟨fun ez => hne (h1.xinj hq hp e' hk1 (ex.trans ez)), q, kq, hq, e', ex, r1', r2'⟩
    have hmap2 : MapIs (w1.setCell ⟨k.x, 3, none⟩ (.bool true)) Bm (put S1 p (some { k with held := true })) := MapIs.turn (h := h1.map) hbm2 hk1 rfl
    have fin : put S1 p (some { k with held := true }) p = some { k with held := true } := put_p _ _ _
    have fin2 : ∀ q, q ≠ p → put S1 p (some { k with held := true }) q = S q := fun q hq => (put_o hq).trans (ho1 q hq)
    by_cases hq0 : k.q = []
    · have hlen : L = 0 := by rw [← hL, hq0]; rfl
      subst hlen
      go_wp2_with fail
      go_end0
      refine ⟨rfl, { k with held := true }, _, A, rest _ A ⟨rdy, hhp2⟩ ⟨fun j z hj hz => KeyAt.apart h1 hp hk1 ap (List.mem_of_getElem? hz) (fun e => (hmm.1 (e ▸ List.mem_of_getElem? hz)).2 hq0) (fun q kq hq e ex m r hm => by have := hky q kq m r hq e hm; rw [← ex]; exact this.symm), hgd.ord⟩ (fun q kq hq hne e => h1.others hp hk1 ap hq hne e) hl2 hmap2 (fun z => ⟨fun hz => ⟨fun e => (hmm.1 (e ▸ hz)).2 hq0, hz⟩, fun hz => hz.2⟩), fin, rfl, hqk, fin2, hb1.trans hbl2, hkp1.trans hkp2⟩
    · have hlen : 0 < L := by rw [← hL]; exact List.length_pos_iff.2 hq0
      have hlI : (0 : Int) < (L : Int) := by omega
      obtain ⟨ix, hix⟩ := List.mem_iff_getElem?.1 (hmm.2 ⟨hh, hq0⟩)
      have hii : i = (ix : Int) := by
        obtain ⟨_, a, b, q, h', e⟩ := hhp.link ix _ hix
        rw [ck] at e
        simp at e
        exact e.2.2.2.2
      subst hii
      have c42 : (w1.setCell ⟨k.x, 3, none⟩ (.bool true)).cell? ⟨k.x, 4, none⟩ = some (.int .i64 ix) := (ob ck2 4).1
      have hhp3 : Hp (w1.setCell ⟨k.x, 3, none⟩ (.bool true)).drew base B (.func (.func 14) #[] #[]) (.map (some Bm)) (.int .i64 sent) rdy A := hhp2.drewN 1
      have hrm := remove17 (K := K) hhp3 hix (fun j z hz hne => KeyAt.apart h1 hp hk1 ap (List.mem_of_getElem? hz) hne (fun q kq hq e ex m r hm => by have := hky q kq m r hq e hm; rw [← ex]; exact this.symm)) hgd.ord
      go_wp2_with fail
      go_region_with (first
          | (go_at_call 17; with_reducible refine Calls.mono hrm ?_; rintro e3 w3 ⟨rfl, rdy3, A3, h3, t3, m3, g3⟩)
          | fail)
      go_wp2_with fail
      go_end0
      have gd : Gc (w1.setCell ⟨k.x, 3, none⟩ (.bool true)) (w1.setCell ⟨k.x, 3, none⟩ (.bool true)).drew := fun _ _ _ h => h
      exact ⟨rfl, { k with held := true }, _, A3, rest w3 A3 ⟨rdy3, h3⟩ g3 (fun q kq hq hne e => ((h1.others hp hk1 ap hq hne e).gc gd).to t3 hhp3.net hhp3.l56) ((hl2.gc gd).to t3 hhp3.net hhp3.l56) ((hmap2.gc (w' := (w1.setCell ⟨k.x, 3, none⟩ (.bool true)).drew) rfl).to t3 hhp3.net hhp3.l56) m3, fin, rfl, hqk, fin2, hb1.trans (hbl2.drew.trans t3.below), hkp1.trans ((hkp2.trans gd.kept).trans (Kept.to t3 hhp3.net hhp3.l56))⟩
end Go.Proofs.Ybulkits
