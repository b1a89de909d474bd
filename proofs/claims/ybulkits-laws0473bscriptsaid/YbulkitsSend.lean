/-
  Send.
-/
import Derived.Test.YbulkitsApp
import Derived.Deep.RegionLaw
import Derived.Deep.RegionLawGrows
namespace Go.Proofs.Ybulkits
open Go.RowKit
set_option linter.unusedVariables false
set_option linter.unusedSimpArgs false

variable {w : World} {base B Bm sent : Nat} {S : Nat → Option Lk} {A : List Nat}

theorem Yba.info58 : (Yba.prog.info? 58).map (fun i => (i.zero, i.size, i.bytes)) = some (some (.agg #[.int .i64 0, .int .i64 0, .int .i64 0]), 3, 24) := by kernel_rfl

/-- The cells of a queue. -/
def qc (p : Nat) (q : List Nat) : List Value := q.flatMap fun id => [.int .i64 (p : Nat), .int .i64 (id : Nat), .int .i64 (id : Nat)]
theorem qc_len (p : Nat) : ∀ q : List Nat, (qc p q).length = q.length * 3
  | [] => rfl
  | x :: r => by
    have := qc_len p r
    simp only [qc] at this ⊢
    simp only [List.flatMap_cons, List.length_append, this, List.length_cons]
    simp
    omega
theorem qc_at (p : Nat) : ∀ (q : List Nat) (j id : Nat), q[j]? = some id → (qc p q)[3 * j]? = some (.int .i64 (p : Nat)) ∧ (qc p q)[3 * j + 1]? = some (.int .i64 (id : Nat)) ∧ (qc p q)[3 * j + 2]? = some (.int .i64 (id : Nat))
  | [], j, id, h => by simp at h
  | x :: r, 0, id, h => by
    obtain rfl : x = id := by simpa using h
    exact ⟨rfl, rfl, rfl⟩
  | x :: r, j + 1, id, h => by
    obtain ⟨a, b, c⟩ := qc_at p r j id (by simpa using h)
    have e : qc p (x :: r) = [.int .i64 (p : Nat), .int .i64 (x : Nat), .int .i64 (x : Nat)] ++ qc p r := rfl
    rw [e]
    refine ⟨?_, ?_, ?_⟩
    · rw [List.getElem?_append_right (by simp; omega)]; simpa [show 3 * (j + 1) - 3 = 3 * j by omega] using a
    · rw [List.getElem?_append_right (by simp; omega)]; simpa [show 3 * (j + 1) + 1 - 3 = 3 * j + 1 by omega] using b
    · rw [List.getElem?_append_right (by simp; omega)]; simpa [show 3 * (j + 1) + 2 - 3 = 3 * j + 2 by omega] using c

set_option maxRecDepth 100000 in
set_option maxHeartbeats 3200000 in
theorem send6 {p : Nat} (h : NetIs w base B Bm sent S A) (hp : p < 9) (hb : base ≤ w.heap.size) (hv : Live S) (hlq : (qOf S p).length ≤ 2000) (hsn : sent ≤ 2000) : Calls Yba.prog 6 #[.pointer (some ⟨B, 0, none⟩), .agg #[.int .i64 p, .int .i64 sent]] w fun e w' => e = .returned (.tuple #[]) ∧ ∃ (S' : Nat → Option Lk) (A' : List Nat), NetIs w' base B Bm (sent + 1) S' A' ∧ hOf S' p = hOf S p ∧ qOf S' p = qOf S p ++ [sent] ∧ (∀ q, q ≠ p → S' q = S q) ∧ Live S' ∧ Below base w w' ∧ Kept w w' := by
  obtain ⟨i0, hi, hz0, hz1, hz2⟩ := info_parts Yba.info58
  obtain ⟨rr, eB, hB⟩ := h.cells
  have hBl := (Array.getElem?_eq_some_iff.1 eB).1
  have g1 : Gr w (w.alloc (.cells #[.int .i64 p, .int .i64 sent] 31)) := (Gr.refl w).alloc _
  have hm1 := heap_alloc_new w (.cells #[.int .i64 p, .int .i64 sent] 31)
  have hS1 : ∀ wx, Gr (w.alloc (.cells #[.int .i64 p, .int .i64 sent] 31)) wx → wx.cell? ⟨B, 0, none⟩ = some (.func (.func 14) #[] #[]) ∧ wx.cell? ⟨w.heap.size, 0, none⟩ = some (.int .i64 p) ∧ wx.cell? ⟨w.heap.size, 1, none⟩ = some (.int .i64 sent) := fun wx gx => ⟨(ob (gx.at (g1.at eB)) 0).1, (ob (gx.at hm1) 0).1, (ob (gx.at hm1) 1).1⟩
  go_enter Yba.func6, Yba.ntmps6
  go_wp2_with fail
  go_region_held3 (fun wx => wx.cell? ⟨B, 0, none⟩ = some (.func (.func 14) #[] #[]) ∧ wx.cell? ⟨w.heap.size, 0, none⟩ = some (.int .i64 p) ∧ wx.cell? ⟨w.heap.size, 1, none⟩ = some (.int .i64 sent))
    (first | exact hS1 _ ((Gr.refl _).drewN 1) | exact hS1 _ (((Gr.refl _).alloc _).drewN _) | fail)
    (first
      | (go_at_call 14; with_reducible refine Calls.mono (ends14 p sent _ hp) ?_; rintro e1 w1 ⟨rfl, m1, hw1⟩; subst hw1)
      | fail)
  have g2 : Gr w (((w.alloc (.cells #[.int .i64 p, .int .i64 sent] 31)).alloc (.cells #[.int .i64 p, .int .i64 sent] 31)).drewN (1 + m1)) := ((g1.alloc _).drewN _)
  have b2 : Below base w (((w.alloc (.cells #[.int .i64 p, .int .i64 sent] 31)).alloc (.cells #[.int .i64 p, .int .i64 sent] 31)).drewN (1 + m1)) := below_drew (((Below.refl base w).alloc hb _).alloc (by simp; omega) _) _
  have hm2 := (((Gr.refl (w.alloc (.cells #[.int .i64 p, .int .i64 sent] 31))).alloc (.cells #[.int .i64 p, .int .i64 sent] 31)).drewN (1 + m1)).at hm1
  have hl15 := link15 (h.gr g2) hp (by simp; omega)
  go_wp2_with fail
  refine hl15.mono ?_
  rintro e3 w3 ⟨k, S3, rfl, h3, hk3, ho3, hor, hb3, hkp3⟩
  have hm3 := hkp3 _ _ _ hm2 (by decide) (by decide) (by decide) (by decide)
  have hb3' : Below base w w3 := b2.trans hb3
  have hkp3' : Kept w w3 := g2.kept.trans hkp3
  have hb33 : base ≤ w3.heap.size := Nat.le_trans (Nat.le_trans hb g2.size) hb3.size
  clear hl15 hm2 hS1 hm1
  have hqk : k.q = qOf S p := by
    unfold qOf
    rcases hor with e | ⟨e, e', _⟩
    · rw [e]
    · rw [e, e']
  have hhk : k.held = hOf S p := by
    unfold hOf
    rcases hor with e | ⟨e, _, e'⟩
    · rw [e]
    · rw [e, e']
  have hqkH : Hid (k.q = qOf S p) := hqk
  have hhkH : Hid (k.held = hOf S p) := hhk
  clear hhk
  have hlk := h3.link p k hp hk3
  obtain ⟨i, ck⟩ := hlk.cells
  obtain ⟨rdy, hhp⟩ := h3.hp
  obtain ⟨pq, cq, hqv⟩ := qv_form k hlk.nil
  obtain ⟨L, hL⟩ : ∃ L, k.q.length = L := ⟨_, rfl⟩
  rw [hL] at hqv
  have hLb : L ≤ 2000 := by rw [← hL, hqk]; exact hlq
  clear hqk
  rw [hqv] at ck
  have cx := (ob ck 2).1
  have fx := (ob ck 2).2
  have cB2 := (ob hhp.net 2).1
  have fB2 := (ob hhp.net 2).2
  have cm0 := (ob hm3 0).1
  have cm1 := (ob hm3 1).1
  have hxl := (Array.getElem?_eq_some_iff.1 ck).1
  have hml := (Array.getElem?_eq_some_iff.1 hm3).1
  have hBl3 := (Array.getElem?_eq_some_iff.1 hhp.net).1
  have hBx : B ≠ k.x := ne_tag hhp.net ck (by decide)
  go_upto_region 3 with fail
  go_cut [] (fun wc => ∃ k', App w3 wc base B Bm p sent k k' i)
  case first =>
    by_cases hroom : k.q.length + 1 ≤ k.cap
    · have hc0 : 0 < k.cap := by omega
      obtain ⟨bg, cur, eg, hsz, hrow⟩ := hlk.row hc0
      have hqv2 : pq = some ⟨k.g, 3 * k.o, none⟩ ∧ cq = k.cap := by
        have : qv k = .slice (some ⟨k.g, 3 * k.o, none⟩) k.q.length k.cap := by unfold qv; rw [if_neg (by omega)]
        rw [hqv] at this
        simp at this
        exact ⟨this.1, this.2.2⟩
      obtain ⟨rfl, rfl⟩ := hqv2
      have hgl := (Array.getElem?_eq_some_iff.1 eg).1
      have hgx : k.g ≠ k.x := ne_tag eg ck (by decide)
      have happ := app_room (E := .cells #[.int .i64 p, .int .i64 sent, .int .i64 sent] 58) (cur := cur) h3 hp hk3 hb33 hroom ck
      rw [hL] at happ
      have cx5 : (((w3.alloc (.cells #[.int .i64 p, .int .i64 sent, .int .i64 sent] 58)).drew).setCells k.g (3 * k.o + L * 3) [.int .i64 p, .int .i64 sent, .int .i64 sent]).heap[k.x]? = some (.cells #[.string (site (p / 3)), .string (site (p % 3)), .slice (some ⟨k.g, 3 * k.o, none⟩) L k.cap, .bool k.held, .int .i64 i] 56 (0, 0)) :=
        (Below.heap_setCell _ _ _ _ (Ne.symm hgx)).trans ((Below.heap_setCell _ _ _ _ (Ne.symm hgx)).trans ((Below.heap_setCell _ _ _ _ (Ne.symm hgx)).trans ((Below.heap_alloc _ _ _ hxl).trans ck)))
      have hsp : ∀ j, j < 3 → (((w3.alloc (.cells #[.int .i64 p, .int .i64 sent, .int .i64 sent] 58)).drew).cell? ⟨k.g, 3 * k.o + L * 3 + j, none⟩).isSome = true ∧ ((w3.alloc (.cells #[.int .i64 p, .int .i64 sent, .int .i64 sent] 58)).drew).frozen? ⟨k.g, 3 * k.o + L * 3 + j, none⟩ = false := fun j hj => by
        have eg' : ((w3.alloc (.cells #[.int .i64 p, .int .i64 sent, .int .i64 sent] 58)).drew).heap[k.g]? = some (.cells cur 58 (0, 0)) := (Below.heap_alloc _ _ _ hgl).trans eg
        refine ⟨?_, (ob eg' _).2⟩
        rw [(ob eg' _).1, Array.getElem?_eq_getElem (by omega)]
        rfl
      have hnw : ∀ j u, ([.int .i64 p, .int .i64 sent, .int .i64 sent] : List Value)[j]? = some u → ((w3.alloc (.cells #[.int .i64 p, .int .i64 sent, .int .i64 sent] 58)).drew).cell? ((⟨w3.heap.size, 0, none⟩ : Addr).add j) = some u := World.news_of_block (heap_alloc_new w3 (.cells #[.int .i64 p, .int .i64 sent, .int .i64 sent] 58))
      obtain ⟨w5, hw5'⟩ : ∃ w5, w5 = ((w3.alloc (.cells #[.int .i64 p, .int .i64 sent, .int .i64 sent] 58)).drew).setCells k.g (3 * k.o + L * 3) [.int .i64 p, .int .i64 sent, .int .i64 sent] := ⟨_, rfl⟩
      rw [← hw5'] at cx5 happ
      have hw5 : Hid (w5 = ((w3.alloc (.cells #[.int .i64 p, .int .i64 sent, .int .i64 sent] 58)).drew).setCells k.g (3 * k.o + L * 3) [.int .i64 p, .int .i64 sent, .int .i64 sent]) := hw5'
      clear hw5'
      have cc5 := (ob cx5 2).1
      have ff5 := (ob cx5 2).2
      go_region_law (first
        | (refine step_append_room rfl _ _ 54 rfl 58 i0 3 Yba.underlying54 hi hz1 k.g (3 * k.o) L k.cap rfl ⟨w3.heap.size, 0, none⟩ 1 1 [.int .i64 p, .int .i64 sent, .int .i64 sent] rfl rfl hnw (by simp [Value.oneCell']) (by omega) hsp ?_
           rw [← hw5.out])
        | fail)
      all_goals go_wp2_with fail
      all_goals go_meet
      all_goals exact ⟨_, happ⟩
    · have hfull : cq < L + 1 ∧ (pq = none → L = 0 ∧ cq = 0) ∧ ∀ b, pq = some b → ∀ j u, (qc p k.q)[j]? = some u → ((w3.alloc (.cells #[.int .i64 p, .int .i64 sent, .int .i64 sent] 58)).drew).cell? (b.add j) = some u := by
        by_cases hc : k.cap = 0
        · have hq0 := hlk.nil hc
          have : qv k = .slice none 0 0 := by unfold qv; rw [if_pos hc]
          rw [hqv] at this
          simp at this
          obtain ⟨rfl, rfl, rfl⟩ := this
          exact ⟨by omega, fun _ => ⟨rfl, rfl⟩, fun b hb' => by cases hb'⟩
        · have : qv k = .slice (some ⟨k.g, 3 * k.o, none⟩) k.q.length k.cap := by unfold qv; rw [if_neg hc]
          rw [hqv] at this
          simp at this
          obtain ⟨rfl, _, rfl⟩ := this
          obtain ⟨bg, cur, eg, hsz, hrow⟩ := hlk.row (by omega)
          refine ⟨by omega, (fun e => by cases e), fun b hb' j u hj => ?_⟩
          obtain rfl := Option.some.inj hb'
          have eg' : ((w3.alloc (.cells #[.int .i64 p, .int .i64 sent, .int .i64 sent] 58)).drew).heap[k.g]? = some (.cells cur 58 (0, 0)) := (Below.heap_alloc _ _ _ (Array.getElem?_eq_some_iff.1 eg).1).trans eg
          rw [Addr.add_lit, (ob eg' _).1]
          have hjl : j < k.q.length * 3 := by have := (List.getElem?_eq_some_iff.1 hj).1; rw [qc_len] at this; exact this
          obtain ⟨id, hid⟩ : ∃ id, k.q[j / 3]? = some id := ⟨_, List.getElem?_eq_getElem (by omega)⟩
          obtain ⟨a1, a2, a3⟩ := qc_at p k.q (j / 3) id hid
          obtain ⟨r1, r2, r3⟩ := hrow (j / 3) id hid
          rcases (show j = 3 * (j / 3) ∨ j = 3 * (j / 3) + 1 ∨ j = 3 * (j / 3) + 2 by omega) with e | e | e
          · rw [e, a1] at hj; rw [show 3 * k.o + j = 3 * (k.o + j / 3) by omega, r1]; exact hj
          · rw [e, a2] at hj; rw [show 3 * k.o + j = 3 * (k.o + j / 3) + 1 by omega, r2]; exact hj
          · rw [e, a3] at hj; rw [show 3 * k.o + j = 3 * (k.o + j / 3) + 2 by omega, r3]; exact hj
      obtain ⟨hf1, hf2, hf3⟩ := hfull
      have hnw : ∀ j u, ([.int .i64 p, .int .i64 sent, .int .i64 sent] : List Value)[j]? = some u → ((w3.alloc (.cells #[.int .i64 p, .int .i64 sent, .int .i64 sent] 58)).drew).cell? ((⟨w3.heap.size, 0, none⟩ : Addr).add j) = some u := World.news_of_block (heap_alloc_new w3 (.cells #[.int .i64 p, .int .i64 sent, .int .i64 sent] 58))
      have hoe : (qc p k.q).length = L * 3 := by rw [qc_len, hL]
      have hgrw := fun (v5 : Value) (w5 : World) (ho5 : w5.ownsRow ((w3.alloc (.cells #[.int .i64 p, .int .i64 sent, .int .i64 sent] 58)).drew).heap.size 58 3 v5 (L + 1) (qc p k.q ++ [.int .i64 p, .int .i64 sent, .int .i64 sent])) (hg5 : ((w3.alloc (.cells #[.int .i64 p, .int .i64 sent, .int .i64 sent] 58)).drew).grownBy w5 none) => app_grow (olds := qc p k.q) h3 hp hk3 hb33 ck (qc_at p k.q) (qc_len p k.q) (by rw [hL]; exact ho5) hg5
      rw [hL] at hgrw
      have hblk : ∀ w5, ((w3.alloc (.cells #[.int .i64 p, .int .i64 sent, .int .i64 sent] 58)).drew).grownBy w5 none → w5.heap[k.x]? = some (.cells #[.string (site (p / 3)), .string (site (p % 3)), .slice pq L cq, .bool k.held, .int .i64 i] 56 (0, 0)) := fun w5 hg5 => (hg5.block k.x (by show k.x < (w3.alloc _).heap.size; simp; omega) (by simp)).trans ((Below.heap_alloc _ _ _ hxl).trans ck)
      clear hroom
      go_region_law (first
        | (refine step_append_grows rfl _ _ 54 rfl 58 i0 _ 3 24 Yba.underlying54 hi hz0 hz1 hz2 rfl (by decide) pq L cq (qc p k.q) rfl hf2 hoe hf3 ⟨w3.heap.size, 0, none⟩ 1 1 [.int .i64 p, .int .i64 sent, .int .i64 sent] rfl rfl hnw (by simp [Value.oneCell']) hf1 (by unfold maxLen; omega) (by omega) ?_
           intro v5 w5 ho5 hg5
           have cx5 := hblk w5 hg5
           obtain ⟨g5, c5, hv5, happ⟩ := hgrw v5 w5 ho5 hg5
           subst hv5
           have cc5 := (ob cx5 2).1
           have ff5 := (ob cx5 2).2
           clear ho5 hg5)
        | fail)
      all_goals go_wp2_with fail
      all_goals go_meet
      all_goals exact ⟨_, happ⟩
  case rest =>
    obtain ⟨k', ha⟩ := hcut
    clear cx fx cB2 fB2 cm0 cm1
    have hnetc : wc.heap[B]? = some (.cells #[.func (.func 14) #[] #[], .map (some Bm), .int .i64 sent, rdy] 49 (0, 0)) := ha.net.trans hhp.net
    have cB2 := (ob hnetc 2).1
    have fB2 := (ob hnetc 2).2
    have hckc := ha.ck
    rw [hL] at hckc
    have x2 := (ob hckc 2).1
    have x3 := (ob hckc 3).1
    have hsw : IntKind.i64.wrap ((sent : Int) + 1) = (sent : Int) + 1 := by rw [IntKind.wrap_i64]; omega
    -- the world with the count raised
    have hn6 : (wc.setCell ⟨B, 2, none⟩ (.int .i64 ((sent : Int) + 1))).heap[B]? = some (.cells #[.func (.func 14) #[] #[], .map (some Bm), .int .i64 ((sent + 1 : Nat) : Int), rdy] 49 (0, 0)) := (set_same 2 _ hnetc).trans (by rfl)
    have ck6 : (wc.setCell ⟨B, 2, none⟩ (.int .i64 ((sent : Int) + 1))).heap[k.x]? = some (.cells #[.string (site (p / 3)), .string (site (p % 3)), .slice (some ⟨k'.g, 3 * k'.o, none⟩) (L + 1) k'.cap, .bool k.held, .int .i64 i] 56 (0, 0)) := (Below.heap_setCell _ _ _ _ (Ne.symm hBx)).trans hckc
    have ap6 : Apart w3 (wc.setCell ⟨B, 2, none⟩ (.int .i64 ((sent : Int) + 1))) B k := fun b cs ty e g1 g2 g3 => (Below.heap_setCell _ _ _ _ g1).trans (ha.ap b cs ty e g1 g2 g3)
    have hhp6 := h3.hpTurn (sent' := sent + 1) (v := .slice (some ⟨k'.g, 3 * k'.o, none⟩) (L + 1) k'.cap) (hh := k.held) hhp hp hk3 ap6 hn6 (fun a b q h' i' e => by
      rw [ck] at e
      simp at e
      obtain ⟨rfl, rfl, rfl, rfl, rfl⟩ := e
      exact ck6)
    have hl6 : LkIs (wc.setCell ⟨B, 2, none⟩ (.int .i64 ((sent : Int) + 1))) base p k' := by
      have hl := ha.lk hlk.bx
      obtain ⟨i', c'⟩ := hl.cells
      exact ⟨hl.bx, ⟨i', (Below.heap_setCell _ _ _ _ (ne_tag c' hnetc (by decide))).trans c'⟩, hl.nil, hl.len, hl.capm, fun hc => by
        obtain ⟨bg, cur, e1, e2, e3⟩ := hl.row hc
        exact ⟨bg, cur, (Below.heap_setCell _ _ _ _ (ne_tag e1 hnetc (by decide))).trans e1, e2, e3⟩⟩
    have hbm6 : (wc.setCell ⟨B, 2, none⟩ (.int .i64 ((sent : Int) + 1))).heap[Bm]? = w3.heap[Bm]? := (Below.heap_setCell _ _ _ _ (by
      obtain ⟨l, c, em, _⟩ := h3.map
      intro e
      have e' : Bm = B := e
      rw [e', hhp.net] at em
      simp at em)).trans ha.bm
    have hmap6 : MapIs (wc.setCell ⟨B, 2, none⟩ (.int .i64 ((sent : Int) + 1))) Bm (put S3 p (some k')) := MapIs.turn (h := h3.map) hbm6 hk3 ha.x
    have hbl6 : Below base w (wc.setCell ⟨B, 2, none⟩ (.int .i64 ((sent : Int) + 1))) := (hb3'.trans ha.below).setCell hhp.hB _
    have hkp6 : Kept w (wc.setCell ⟨B, 2, none⟩ (.int .i64 ((sent : Int) + 1))) := hkp3'.trans (ha.kept.trans (fun b cs ty e a1 _ _ _ => (Below.heap_setCell _ _ _ _ (ne_tag e hnetc a1)).trans e))
    obtain ⟨K, hgd, hky⟩ := h3.good
    have hmm := h3.mem_of hp hk3
    have hrg : 0 < k'.cap → (0 < k.cap ∧ k'.g = k.g) ∨ ∀ q kq, q < 9 → q ≠ p → S3 q = some kq → 0 < kq.cap → kq.g ≠ k'.g := fun _ => by
      rcases ha.rg with h' | h'
      · exact .inl h'
      · refine .inr (fun q kq hq _ e hc eg => ?_)
        obtain ⟨_, cur, e1, _⟩ := (h3.link q kq hq e).row hc
        have := (Array.getElem?_eq_some_iff.1 e1).1
        omega
    have hke : ∀ z ∈ A, z ≠ k.x → KeyAt (wc.setCell ⟨B, 2, none⟩ (.int .i64 ((sent : Int) + 1))) z (K z) := fun z hz hne => KeyAt.apart h3 hp hk3 ap6 hz hne (fun q kq hq e ex m r hm => by have := hky q kq m r hq e hm; rw [← ex]; exact this.symm)
    have hq'0 : k'.q ≠ [] := by rw [ha.q]; simp
    have f1 : hOf (put S3 p (some k')) p = hOf S p := by rw [hOf_some (put_p _ _ _), ha.held]; exact hhkH.out
    have f2 : qOf (put S3 p (some k')) p = qOf S p ++ [sent] := by rw [qOf_some (put_p _ _ _), ha.q, hqkH.out]
    have f3 : ∀ q, q ≠ p → put S3 p (some k') q = S q := fun q hq => (put_o hq).trans (ho3 q hq)
    have f4 : Live (put S3 p (some k')) := fun q kq hq e => by
      rcases put_some e with ⟨_, e'⟩ | ⟨hne, e'⟩
      · obtain rfl := Option.some.inj e'; exact .inr hq'0
      · rw [ho3 q hne] at e'; exact hv q kq hq e'
    by_cases hq0 : k.q = []
    · have hL0 : L = 0 := by rw [← hL, hq0]; rfl
      subst hL0
      have hxA : k.x ∉ A := fun hm => (hmm.1 hm).2 hq0
      have hgd6 : Good (wc.setCell ⟨B, 2, none⟩ (.int .i64 ((sent : Int) + 1))) (upd K k.x sent) A := by
        refine ⟨fun j z hj hz => ?_, ?_⟩
        · have hzx : z ≠ k.x := fun e => hxA (e ▸ List.mem_of_getElem? hz)
          rw [upd_o hzx]
          exact hke z (List.mem_of_getElem? hz) hzx
        · have hsame : ∀ j, j < A.length → kp (upd K k.x sent) A j = kp K A j := fun j hj => kp_upd (i := A.length) (fun j' hj' => absurd (List.mem_of_getElem? hj') hxA) hj (by omega)
          intro j j0 jn
          rw [hsame j jn, hsame _ (by omega)]
          exact hgd.ord j j0 jn
      have hK' : ∀ n r, k'.q = n :: r → upd K k.x sent k.x = n := fun n r e => by
        rw [ha.q, hq0] at e
        rw [upd_x]
        exact (List.cons.inj e).1
      cases hh : k.held with
      | true =>
        rw [hh] at x3
        go_wp2_with fail
        go_end0
        exact ⟨rfl, _, A, h3.mk' (K := K) (K' := upd K k.x sent) hp hk3 ha.x hky ⟨rdy, hhp6⟩ hgd6 hK' (fun z hz => upd_o hz) (fun q kq hq hne e => h3.others hp hk3 ap6 hq hne e) hl6 hmap6 hrg (fun z => ⟨fun hz => .inr ⟨fun e => hxA (e ▸ hz), hz⟩, fun hz => hz.elim (fun hz' => by have := hz'.2.1; rw [ha.held, hh] at this; cases this) (fun hz' => hz'.2)⟩), f1, f2, f3, f4, hbl6, hkp6⟩
      | false =>
        rw [hh] at x3
        have hkx : KeyAt (wc.setCell ⟨B, 2, none⟩ (.int .i64 ((sent : Int) + 1))) k.x (upd K k.x sent k.x) := by
          have := hl6.key (n := sent) (r := []) (by rw [ha.q, hq0]; rfl)
          rw [ha.x] at this
          rw [upd_x]
          exact this
        have hpu := push16 hhp6 hgd6 ck6 hxA hlk.bx (h3.few hp hk3 hxA) hkx
        go_wp2_with fail
        refine hpu.mono ?_
        rintro e7 w7 ⟨rfl, rdy7, A7, h7, t7, m7, g7⟩
        go_wp2_with fail
        go_end0
        have l56 := hhp6.l56.cons ck6
        exact ⟨rfl, _, A7, h3.mk' (K := K) (K' := upd K k.x sent) hp hk3 ha.x hky ⟨rdy7, h7⟩ g7 hK' (fun z hz => upd_o hz) (fun q kq hq hne e => (h3.others hp hk3 ap6 hq hne e).to t7 hhp6.net l56) (hl6.to t7 hhp6.net l56) (hmap6.to t7 hhp6.net l56) hrg (fun z => by
          rw [m7]
          constructor
          · rintro (rfl | hz)
            · exact .inl ⟨rfl, by rw [ha.held, hh], hq'0⟩
            · exact .inr ⟨fun e => hxA (e ▸ hz), hz⟩
          · rintro (⟨e, _⟩ | ⟨_, hz⟩)
            · exact .inl e
            · exact .inr hz), f1, f2, f3, f4, hbl6.trans t7.below, hkp6.trans (Kept.to t7 hhp6.net l56)⟩
    · have hL1 : 0 < L := by rw [← hL]; exact List.length_pos_iff.2 hq0
      have hLb1 : ((L : Int) + 1 == 1) = false := by simp; omega
      have hLb2 : ((L : Int) == 0) = false := by simp; omega
      have hLb3 : ¬ L = 0 := by omega
      obtain ⟨n, rr, hqn⟩ := List.exists_cons_of_ne_nil hq0
      go_wp2_with fail
      go_end0
      refine ⟨rfl, _, A, h3.mk' (K := K) (K' := K) hp hk3 ha.x hky ⟨rdy, hhp6⟩ ⟨fun j z hj hz => ?_, hgd.ord⟩ (fun m r e => ?_) (fun _ _ => rfl) (fun q kq hq hne e => h3.others hp hk3 ap6 hq hne e) hl6 hmap6 hrg (fun z => ?_), f1, f2, f3, f4, hbl6, hkp6⟩
      · by_cases hzx : z = k.x
        · subst hzx
          rw [hky p k n rr hp hk3 hqn]
          have := hl6.key (n := n) (r := rr ++ [sent]) (by rw [ha.q, hqn]; rfl)
          rw [ha.x] at this
          exact this
        · exact hke z (List.mem_of_getElem? hz) hzx
      · rw [ha.q, hqn] at e
        rw [hky p k n rr hp hk3 hqn]
        exact (List.cons.inj e).1
      · constructor
        · intro hz
          by_cases hzx : z = k.x
          · exact .inl ⟨hzx, by rw [ha.held]; exact (hmm.1 (hzx ▸ hz)).1, hq'0⟩
          · exact .inr ⟨hzx, hz⟩
        · rintro (⟨rfl, a, _⟩ | ⟨_, hz⟩)
          · exact hmm.2 ⟨by rw [← ha.held]; exact a, hq0⟩
          · exact hz
end Go.Proofs.Ybulkits
