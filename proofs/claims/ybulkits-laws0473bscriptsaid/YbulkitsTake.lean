/-
  take.
-/
import Derived.Test.YbulkitsTk
namespace Go.Proofs.Ybulkits
open Go.RowKit
set_option linter.unusedVariables false
set_option linter.unusedSimpArgs false

variable {w : World} {base B Bm sent : Nat} {S : Nat → Option Lk} {A : List Nat}

theorem set3 {cur : Array Value} {o j : Nat} {a b c : Value} (h : o + 3 ≤ j) : (((cur.setIfInBounds o a).setIfInBounds (o + 1) b).setIfInBounds (o + 2) c)[j]? = cur[j]? := by
  rw [Array.getElem?_setIfInBounds, if_neg (by omega), Array.getElem?_setIfInBounds, if_neg (by omega), Array.getElem?_setIfInBounds, if_neg (by omega)]

set_option maxRecDepth 100000 in
set_option maxHeartbeats 3200000 in
theorem take18 {p n : Nat} {r : List Nat} {k : Lk} (h : NetIs w base B Bm sent S A) (hp : p < 9) (hb : base ≤ w.heap.size) (hv : Live S) (hS : S p = some k) (hq : k.q = n :: r) (hh : k.held = false) : Calls Yba.prog 18 #[.pointer (some ⟨B, 0, none⟩), .pointer (some ⟨k.x, 0, none⟩)] w fun e w' => e = .returned (.agg #[.int .i64 p, .int .i64 n]) ∧ ∃ (S' : Nat → Option Lk) (A' : List Nat), NetIs w' base B Bm sent S' A' ∧ hOf S' p = false ∧ qOf S' p = r ∧ (∀ q, q ≠ p → S' q = S q) ∧ Live S' ∧ Below base w w' ∧ Kept w w' := by
  have hlk := h.link p k hp hS
  obtain ⟨i, ck⟩ := hlk.cells
  have hlen := hlk.len
  rw [hq] at hlen
  simp at hlen
  obtain ⟨C, hC⟩ : ∃ C, k.cap = C + 1 := ⟨k.cap - 1, by omega⟩
  obtain ⟨L, hL⟩ : ∃ L, r.length = L := ⟨_, rfl⟩
  have hqv : qv k = .slice (some ⟨k.g, 3 * k.o, none⟩) (L + 1) (C + 1) := by unfold qv; rw [if_neg (by omega), hq, hC]; simp [hL]
  rw [hqv, hh] at ck
  obtain ⟨bg, cur, eg, hsz, hrow⟩ := hlk.row (by omega)
  obtain ⟨o, ho⟩ : ∃ o, 3 * k.o = o := ⟨_, rfl⟩
  obtain ⟨r0, r1, r2⟩ := hrow 0 n (by rw [hq]; rfl)
  rw [show 3 * (k.o + 0) = o by omega] at r0 r1 r2
  rw [ho] at ck
  have hxl := (Array.getElem?_eq_some_iff.1 ck).1
  have hgl := (Array.getElem?_eq_some_iff.1 eg).1
  have hgx : k.g ≠ k.x := ne_tag eg ck (by decide)
  have c2 := (ob ck 2).1
  have f2 := (ob ck 2).2
  have c0 : w.cell? ⟨k.g, o, none⟩ = some (.int .i64 p) := (ob eg o).1.trans r0
  have c1 : w.cell? ⟨k.g, o + 1, none⟩ = some (.int .i64 n) := (ob eg _).1.trans r1
  have c3 : w.cell? ⟨k.g, o + 2, none⟩ = some (.int .i64 n) := (ob eg _).1.trans r2
  have fg : ∀ o, w.frozen? ⟨k.g, o, none⟩ = false := fun o => (ob eg o).2
  have hLC : L ≤ C := by omega
  have hCI : (C : Int) ≤ (maxLen : Int) := by have := hlk.capm; omega
  unfold maxLen at hCI
  have hLI : (L : Int) ≤ (C : Int) := by omega
  obtain ⟨rdy, hhp⟩ := h.hp
  obtain ⟨K, hgd, hky⟩ := h.good
  have hxA : k.x ∈ A := (h.mem_of hp hS).2 ⟨hh, by rw [hq]; simp⟩
  obtain ⟨ix, hix⟩ := List.mem_iff_getElem?.1 hxA
  have hii : i = (ix : Int) := by
    obtain ⟨_, a, b, q, h', e⟩ := hhp.link ix _ hix
    rw [ck] at e
    simp at e
    exact e.2.2.2.2
  subst hii
  have hixl := (List.getElem?_eq_some_iff.1 hix).1
  have tkf := fun sl => tk_facts (n := n) (o := o) sl h hp hS hb (by omega) hhp ck bg eg
  have kap : ∀ (sl : Value) (z : Nat), z ∈ A → z ≠ k.x → KeyAt (tk w k.g k.x o p n sl) z (K z) := fun sl z hz hne => KeyAt.apart h hp hS (tkf sl).ap hz hne (fun q kq hq e ex m r hm => by have := hky q kq m r hq e hm; rw [← ex]; exact this.symm)
  by_cases hr : r = []
  · have hL0 : L = 0 := by rw [← hL, hr]; rfl
    subst hL0
    have hrmv := fun (sl : Value) => remove17 (K := K) (w := (tk w k.g k.x o p n sl).drew) (show Hp (tk w k.g k.x o p n sl).drew base B (.func (.func 14) #[] #[]) (.map (some Bm)) (.int .i64 sent) rdy A from (tkf sl).hp.drewN 1) hix (fun j z hz hne => kap sl z (List.mem_of_getElem? hz) hne) hgd.ord
    by_cases hC0 : C = 0
    · subst hC0
      have hrm := hrmv (.slice (some ⟨k.g, o, none⟩) 0 0)
      have tf := tkf (.slice (some ⟨k.g, o, none⟩) 0 0)
      have i4 := (ob tf.ck 4).1
      go_enter Yba.func18, Yba.ntmps18
      go_wp2_with fail
      go_region_with (first
          | (go_at_call 17; with_reducible refine Calls.mono hrm ?_; rintro e3 w3 ⟨rfl, rdy3, A3, h3, t3, m3, g3⟩)
          | fail)
      have hpd : Hp (tk w k.g k.x o p n (.slice (some ⟨k.g, o, none⟩) 0 0)).drew base B (.func (.func 14) #[] #[]) (.map (some Bm)) (.int .i64 sent) rdy A := tf.hp.drewN 1
      obtain ⟨i3, ck3⟩ := t3.lnk' hpd.net tf.ck
      have q0 := (ob ck3 0).1
      have q1 := (ob ck3 1).1
      have cB1 := (ob h3.net 1).1
      have hmap3 : MapIs w3 Bm S := (MapIs.gc (w' := (tk w k.g k.x o p n (.slice (some ⟨k.g, o, none⟩) 0 0)).drew) h.map tf.bm).to t3 hpd.net hpd.l56
      obtain ⟨w4, hdl, gm, hmd, hb4⟩ := MapIs.drop2 (w := w3.drew) (ty := 0) (base := base) (h := MapIs.gc (w' := w3.drew) hmap3 rfl) hp hS h.bm
      unfold keyV at hdl
      have gd : Gc (tk w k.g k.x o p n (.slice (some ⟨k.g, o, none⟩) 0 0)) (tk w k.g k.x o p n (.slice (some ⟨k.g, o, none⟩) 0 0)).drew := fun _ _ _ h => h
      have gd3 : Gc w3 w3.drew := fun _ _ _ h => h
      have hz4 := gm _ _ _ (t3.other' hpd.net hpd.l56 tf.z (by decide) (by decide) (by decide))
      have hm4 := gm _ _ _ (t3.other' hpd.net hpd.l56 tf.m (by decide) (by decide) (by decide))
      have z0 := (ob hz4 0).1
      have z1 := (ob hz4 1).1
      have fz0 := (ob hz4 0).2
      have fz1 := (ob hz4 1).2
      have mm0 := (ob hm4 0).1
      have mm1 := (ob hm4 1).1
      have hN : NetIs w4 base B Bm sent (put S p none) A3 := h.off' hp hS hky ⟨rdy3, (h3.gc gd3).gc gm⟩ ((g3.gc gd3).gc gm) (fun q kq hq hne e => ((((h.others hp hS tf.ap hq hne e).gc gd).to t3 hpd.net hpd.l56).gc gd3).gc gm) hmd m3
      obtain ⟨N1, N2, N3⟩ := take_close (p := p) (n := n) hN hz4 hb ((tf.below.drew.trans t3.below).drew.trans hb4) ((((tf.kept.trans gd.kept).trans (Kept.to t3 hpd.net hpd.l56)).trans gd3.kept).trans gm.kept)
      have zF : ((w4.setCell ⟨w.heap.size, 0, none⟩ (.int .i64 p)).setCell ⟨w.heap.size, 1, none⟩ (.int .i64 n)).heap[w.heap.size]? = some (.cells #[.int .i64 p, .int .i64 n] 31 (0, 0)) := (set_same 1 _ (set_same 0 _ hz4)).trans (by rfl)
      have zf0 := (ob zF 0).1
      have zf1 := (ob zF 1).1
      go_wp2_with fail
      go_region
      go_wp2_with fail
      simp [bodyPost, results, Yba.results18, go_sem, zf0, zf1]
      refine ⟨put S p none, ⟨A3, N1⟩, by simp [hOf, put_p], by simp [qOf, put_p, hr], fun q hq => put_o hq, fun q kq hq e => ?_, N2, N3⟩
      rcases put_some e with ⟨_, e'⟩ | ⟨_, e'⟩
      · cases e'
      · exact hv q kq hq e'
    · have hrm := hrmv (.slice (some ⟨k.g, o + 3, none⟩) 0 C)
      have tf := tkf (.slice (some ⟨k.g, o + 3, none⟩) 0 C)
      have i4 := (ob tf.ck 4).1
      go_enter Yba.func18, Yba.ntmps18
      go_wp2_with fail
      go_region_with (first
          | (go_at_call 17; with_reducible refine Calls.mono hrm ?_; rintro e3 w3 ⟨rfl, rdy3, A3, h3, t3, m3, g3⟩)
          | fail)
      have hpd : Hp (tk w k.g k.x o p n (.slice (some ⟨k.g, o + 3, none⟩) 0 C)).drew base B (.func (.func 14) #[] #[]) (.map (some Bm)) (.int .i64 sent) rdy A := tf.hp.drewN 1
      obtain ⟨i3, ck3⟩ := t3.lnk' hpd.net tf.ck
      have q0 := (ob ck3 0).1
      have q1 := (ob ck3 1).1
      have cB1 := (ob h3.net 1).1
      have hmap3 : MapIs w3 Bm S := (MapIs.gc (w' := (tk w k.g k.x o p n (.slice (some ⟨k.g, o + 3, none⟩) 0 C)).drew) h.map tf.bm).to t3 hpd.net hpd.l56
      obtain ⟨w4, hdl, gm, hmd, hb4⟩ := MapIs.drop2 (w := w3.drew) (ty := 0) (base := base) (h := MapIs.gc (w' := w3.drew) hmap3 rfl) hp hS h.bm
      unfold keyV at hdl
      have gd : Gc (tk w k.g k.x o p n (.slice (some ⟨k.g, o + 3, none⟩) 0 C)) (tk w k.g k.x o p n (.slice (some ⟨k.g, o + 3, none⟩) 0 C)).drew := fun _ _ _ h => h
      have gd3 : Gc w3 w3.drew := fun _ _ _ h => h
      have hz4 := gm _ _ _ (t3.other' hpd.net hpd.l56 tf.z (by decide) (by decide) (by decide))
      have hm4 := gm _ _ _ (t3.other' hpd.net hpd.l56 tf.m (by decide) (by decide) (by decide))
      have z0 := (ob hz4 0).1
      have z1 := (ob hz4 1).1
      have fz0 := (ob hz4 0).2
      have fz1 := (ob hz4 1).2
      have mm0 := (ob hm4 0).1
      have mm1 := (ob hm4 1).1
      have hN : NetIs w4 base B Bm sent (put S p none) A3 := h.off' hp hS hky ⟨rdy3, (h3.gc gd3).gc gm⟩ ((g3.gc gd3).gc gm) (fun q kq hq hne e => ((((h.others hp hS tf.ap hq hne e).gc gd).to t3 hpd.net hpd.l56).gc gd3).gc gm) hmd m3
      obtain ⟨N1, N2, N3⟩ := take_close (p := p) (n := n) hN hz4 hb ((tf.below.drew.trans t3.below).drew.trans hb4) ((((tf.kept.trans gd.kept).trans (Kept.to t3 hpd.net hpd.l56)).trans gd3.kept).trans gm.kept)
      have zF : ((w4.setCell ⟨w.heap.size, 0, none⟩ (.int .i64 p)).setCell ⟨w.heap.size, 1, none⟩ (.int .i64 n)).heap[w.heap.size]? = some (.cells #[.int .i64 p, .int .i64 n] 31 (0, 0)) := (set_same 1 _ (set_same 0 _ hz4)).trans (by rfl)
      have zf0 := (ob zF 0).1
      have zf1 := (ob zF 1).1
      go_wp2_with fail
      go_region
      go_wp2_with fail
      simp [bodyPost, results, Yba.results18, go_sem, zf0, zf1]
      refine ⟨put S p none, ⟨A3, N1⟩, by simp [hOf, put_p], by simp [qOf, put_p, hr], fun q hq => put_o hq, fun q kq hq e => ?_, N2, N3⟩
      rcases put_some e with ⟨_, e'⟩ | ⟨_, e'⟩
      · cases e'
      · exact hv q kq hq e'
  · obtain ⟨n2, r2', hr2⟩ := List.exists_cons_of_ne_nil hr
    have hL1 : 0 < L := by rw [← hL, hr2]; simp
    have hC0 : ¬ C = 0 := by omega
    have hL0 : ((L : Int) == 0) = false := by simp; omega
    have tf := tkf (.slice (some ⟨k.g, o + 3, none⟩) L C)
    have hl' : LkIs (tk w k.g k.x o p n (.slice (some ⟨k.g, o + 3, none⟩) L C)) base p { k with q := r, o := k.o + 1, cap := C } := by
      refine ⟨hlk.bx, ⟨ix, ?_⟩, fun e => absurd e hC0, ?_, ?_, fun _ => ⟨bg, _, tf.row, ?_, fun j id hj => ?_⟩⟩
      · have : qv { k with q := r, o := k.o + 1, cap := C } = .slice (some ⟨k.g, o + 3, none⟩) L C := by
          unfold qv
          rw [if_neg hC0]
          simp only [hL]
          rw [show 3 * (k.o + 1) = o + 3 by omega]
        rw [this]
        simp only [hh]
        exact tf.ck
      · simp only; omega
      · have := hlk.capm; simp only; omega
      · simp only [Array.size_setIfInBounds]; omega
      · obtain ⟨a1, a2, a3⟩ := hrow (j + 1) id (by rw [hq]; simpa using hj)
        simp only [show 3 * (k.o + 1 + j) = 3 * (k.o + (j + 1)) by omega]
        refine ⟨?_, ?_, ?_⟩
        · rw [set3 (by omega)]; exact a1
        · rw [set3 (by omega)]; exact a2
        · rw [set3 (by omega)]; exact a3
    have hpd : Hp (tk w k.g k.x o p n (.slice (some ⟨k.g, o + 3, none⟩) L C)).drew base B (.func (.func 14) #[] #[]) (.map (some Bm)) (.int .i64 sent) rdy A := tf.hp.drewN 1
    have hfx := fix21 (K := upd K k.x n2) hpd hixl (fun j z hj hz => by
        by_cases hzx : z = k.x
        · subst hzx
          rw [upd_x]
          exact hl'.key hr2
        · rw [upd_o hzx]
          exact kap _ z (List.mem_of_getElem? hz) hzx) (hole_of hgd.ord (fun j hj hne => kp_upd (fun j' hj' => hhp.inj hj' hix) hj hne) hixl)
    have i4 := (ob tf.ck 4).1
    go_enter Yba.func18, Yba.ntmps18
    go_wp2_with fail
    go_region_with (first
        | (go_at_call 21; with_reducible refine Calls.mono hfx ?_; rintro e3 w3 ⟨rfl, A3, h3, t3, m3, g3⟩)
        | fail)
    have gd : Gc (tk w k.g k.x o p n (.slice (some ⟨k.g, o + 3, none⟩) L C)) (tk w k.g k.x o p n (.slice (some ⟨k.g, o + 3, none⟩) L C)).drew := fun _ _ _ h => h
    have hz4 := t3.other' hpd.net hpd.l56 tf.z (by decide) (by decide) (by decide)
    have hm4 := t3.other' hpd.net hpd.l56 tf.m (by decide) (by decide) (by decide)
    have z0 := (ob hz4 0).1
    have z1 := (ob hz4 1).1
    have fz0 := (ob hz4 0).2
    have fz1 := (ob hz4 1).2
    have mm0 := (ob hm4 0).1
    have mm1 := (ob hm4 1).1
    have hmt : MapIs (tk w k.g k.x o p n (.slice (some ⟨k.g, o + 3, none⟩) L C)).drew Bm (put S p (some { k with q := r, o := k.o + 1, cap := C })) := MapIs.turn (h := h.map) tf.bm hS rfl
    have hN : NetIs w3 base B Bm sent (put S p (some { k with q := r, o := k.o + 1, cap := C })) A3 := h.mk' (K := K) (K' := upd K k.x n2) hp hS rfl hky ⟨rdy, h3⟩ g3 (fun m r' e => by
        have : r = m :: r' := e
        rw [hr2] at this
        rw [upd_x]
        exact (List.cons.inj this).1) (fun z hz => upd_o hz) (fun q kq hq hne e => ((h.others hp hS tf.ap hq hne e).gc gd).to t3 hpd.net hpd.l56) ((hl'.gc gd).to t3 hpd.net hpd.l56) (hmt.to t3 hpd.net hpd.l56) (fun _ => .inl ⟨by omega, rfl⟩) (fun z => by
        rw [m3]
        constructor
        · intro hz
          by_cases hzx : z = k.x
          · exact .inl ⟨hzx, hh, hr⟩
          · exact .inr ⟨hzx, hz⟩
        · rintro (⟨rfl, _⟩ | ⟨_, hz⟩)
          · exact hxA
          · exact hz)
    obtain ⟨N1, N2, N3⟩ := take_close (p := p) (n := n) hN hz4 hb (tf.below.drew.trans t3.below) ((tf.kept.trans gd.kept).trans (Kept.to t3 hpd.net hpd.l56))
    have zF : ((w3.setCell ⟨w.heap.size, 0, none⟩ (.int .i64 p)).setCell ⟨w.heap.size, 1, none⟩ (.int .i64 n)).heap[w.heap.size]? = some (.cells #[.int .i64 p, .int .i64 n] 31 (0, 0)) := (set_same 1 _ (set_same 0 _ hz4)).trans (by rfl)
    have zf0 := (ob zF 0).1
    have zf1 := (ob zF 1).1
    go_wp2_with fail
    simp [bodyPost, results, Yba.results18, go_sem, zf0, zf1]
    refine ⟨put S p (some { k with q := r, o := k.o + 1, cap := C }), ⟨A3, N1⟩, by simp [hOf, put_p, hh], by simp [qOf, put_p], fun q hq => put_o hq, fun q kq hq e => ?_, N2, N3⟩
    rcases put_some e with ⟨_, e'⟩ | ⟨_, e'⟩
    · obtain rfl := Option.some.inj e'; exact .inr hr
    · exact hv q kq hq e'
end Go.Proofs.Ybulkits
