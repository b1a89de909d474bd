/-
  The law.
-/
import Derived.Test.YbulkitsLawA
import Derived.Deep.CutBlock
namespace Go.Proofs.Ybulkits
open Go.RowKit
set_option linter.unusedVariables false
set_option linter.unusedSimpArgs false

variable {w : World}

set_option maxRecDepth 100000 in
set_option maxHeartbeats 6400000 in
theorem law3 (pa : Option Addr) (b off cap : Nat) (xs : List (Nat × Nat)) (hs : Steps w b off xs) (hp : 0 < xs.length → pa = some ⟨b, off, none⟩ ∧ b < w.heap.size) (hn : xs.length ≤ 1024) :
    Calls Yba.prog 3 #[.slice pa xs.length cap] w fun e w' => e = .returned (.bool true) ∧ Below w.heap.size w w' := by
  obtain ⟨N, hN⟩ : ∃ N, xs.length = N := ⟨_, rfl⟩
  have hNI : (N : Int) ≤ 1024 := by omega
  rw [hN]
  go_enter Yba.func3, Yba.ntmps3
  go_wp2_with fail
  refine (new4 w).mono ?_
  rintro e1 w1 ⟨rfl, rfl⟩
  go_wp2_with fail
  have hst : LawIs w (((w.alloc (.map #[] 0)).alloc (.cells #[.func (.func 14) #[] #[], .map (some w.heap.size), .int .i64 0, .slice none 0 0] 49)).alloc (.cells #[.bool false, .bool false, .bool false, .bool false, .bool false, .bool false, .bool false, .bool false, .bool false] 25)) (w.heap.size + 1) w.heap.size (w.heap.size + 1 + 1) 0 (fun _ => none) [] [] (fun _ => false) (.slice none 0 0) := by
    refine ⟨net_start w _, fun p k _ e => (by cases e), Sim.start, ⟨rfl, .inl ⟨rfl, rfl⟩⟩, ?_, (((Below.refl _ w).alloc (Nat.le_refl _) _).alloc (by simp) _).alloc (by simp; omega) _, by omega, Nat.le_refl _⟩
    have := heap_alloc_new ((w.alloc (.map #[] 0)).alloc (.cells #[.func (.func 14) #[] #[], .map (some w.heap.size), .int .i64 0, .slice none 0 0] 49)) (.cells #[.bool false, .bool false, .bool false, .bool false, .bool false, .bool false, .bool false, .bool false, .bool false] 25)
    rw [show ((w.alloc (.map #[] 0)).alloc (.cells #[.func (.func 14) #[] #[], .map (some w.heap.size), .int .i64 0, .slice none 0 0] 49)).heap.size = w.heap.size + 1 + 1 by simp] at this
    refine ⟨_, this, rfl, fun p hp => ?_⟩
    rcases lt9 hp with rfl | rfl | rfl | rfl | rfl | rfl | rfl | rfl | rfl <;> rfl
  obtain ⟨B, hBe⟩ : ∃ B, w.heap.size + 1 = B := ⟨_, rfl⟩
  rw [hBe] at hst
  go_loopw [5, 6, 8, 9, 10, 11, 12, 13, 14, 15, 16, 17, 18, 31] (fun q nx _ _ _ _ _ _ _ _ _ _ _ i wr => ∃ (k next : Nat) (S : Nat → Option Lk) (A : List Nat) (Q : List (Nat × Nat)) (hd : Nat → Bool), k ≤ N ∧ i = .int .i64 k ∧ nx = .int .i64 next ∧ next ≤ k ∧ LawIs w wr B w.heap.size (B + 1) next S A Q hd q) (fun _ _ _ _ _ _ _ _ _ _ _ _ _ i _ => N - (intOf i).toNat)
  case atStart => exact ⟨0, 0, _, _, _, _, Nat.zero_le _, rfl, rfl, Nat.le_refl _, hst⟩
  clear hst
  case round =>
    obtain ⟨k, next, S, A, Q, hd, hk, rfl, rfl, hnx, hl⟩ := hrel
    by_cases hlt : k < N
    · obtain ⟨rfl, hbl⟩ := hp (by omega)
      obtain ⟨⟨op, a⟩, hx⟩ : ∃ x, xs[k]? = some x := ⟨_, List.getElem?_eq_getElem (by omega)⟩
      obtain ⟨x0, x1⟩ := hs.1 k _ hx
      obtain ⟨hop, ha⟩ := hs.2 _ (List.mem_of_getElem? hx)
      simp only at x0 x1 hop ha
      have c0 : wr.cell? ⟨b, off + k * 2, none⟩ = some (.int .u8 op) := (hl.below.cell hbl).trans x0
      have c1 : wr.cell? ⟨b, off + k * 2 + 1, none⟩ = some (.int .u8 a) := (hl.below.cell hbl).trans x1
      have hopI : (op : Int) ≤ 255 := by omega
      have haI : (a : Int) ≤ 255 := by omega
      obtain ⟨p, hpe⟩ : ∃ p, a % 9 = p := ⟨_, rfl⟩
      have hp9 : p < 9 := by omega
      obtain ⟨pd, hpd⟩ : ∃ pd, p / 3 = pd := ⟨_, rfl⟩
      obtain ⟨pm, hpm⟩ : ∃ pm, p % 3 = pm := ⟨_, rfl⟩
      obtain ⟨o4, ho4⟩ : ∃ o4, op % 4 = o4 := ⟨_, rfl⟩
      have e1 : (a : Int).tmod 9 = (p : Int) := by rw [Int.tmod_eq_emod_of_nonneg (by omega)]; omega
      have e2 : (p : Int) / 3 = (pd : Int) := by omega
      have e3 : (p : Int).tmod 3 = (pm : Int) := by rw [Int.tmod_eq_emod_of_nonneg (by omega)]; omega
      have e4 : (op : Int).tmod 4 = (o4 : Int) := by rw [Int.tmod_eq_emod_of_nonneg (by omega)]; omega
      have hpI : (p : Int) < 9 := by omega
      have hoI : (o4 : Int) < 4 := by omega
      have hI0 : (k : Int) < (N : Int) := by omega
      -- the step is read
      have g1 : Gr wr (wr.alloc (.cells #[.int .u8 op, .int .u8 a] 28)) := (Gr.refl wr).alloc _
      have hszr : w.heap.size ≤ wr.heap.size := hl.below.size
      have hl1 : LawIs w (wr.alloc (.cells #[.int .u8 op, .int .u8 a] 28)) B w.heap.size (B + 1) next S A Q hd u5 := hl.gr g1 ((Below.refl _ _).alloc hszr _)
      have st0 := heap_alloc_new wr (.cells #[.int .u8 op, .int .u8 a] 28)
      go_upto_block 2 with (first
        | (go_at_call 5; with_reducible refine Calls.mono (site5 pd _ (by omega)) ?_; rintro e5 w5 ⟨rfl, rfl⟩)
        | (go_at_call 5; with_reducible refine Calls.mono (site5 pm _ (by omega)) ?_; rintro e5 w5 ⟨rfl, rfl⟩)
        | fail)
      clear c0 c1 g1 st0 hl
      generalize (wr.alloc (.cells #[.int .u8 op, .int .u8 a] 28)) = w2 at *
      have hsz2 : w.heap.size ≤ w2.heap.size := hl1.below.size
      go_cut [5, 6, 12, 13, 14, 15, 16, 17, 31] (fun q nx _ _ _ _ _ _ i wc => i = .int .i64 k ∧ ∃ (next' : Nat) (S' : Nat → Option Lk) (A' : List Nat) (Q' : List (Nat × Nat)) (hd' : Nat → Bool), nx = .int .i64 next' ∧ next' ≤ k + 1 ∧ LawIs w wc B w.heap.size (B + 1) next' S' A' Q' hd' q)
      case first =>
        rcases (show o4 = 0 ∨ o4 = 1 ∨ o4 = 2 ∨ o4 = 3 by omega) with rfl | rfl | rfl | rfl
        · obtain ⟨i0, hi, hz0, hz1, hz2⟩ := info_parts Yba.info31
          obtain ⟨pq, cq, hu5⟩ := slice_of hl1.own
          subst hu5
          obtain ⟨QL, hQL⟩ : ∃ QL, Q.length = QL := ⟨_, rfl⟩
          have hqlen := hl1.qlen
          have hown := hl1.own
          rw [hQL] at hown hqlen ⊢
          have own3 : ((w2.alloc (.cells #[.int .i64 p, .int .i64 next] 31)).alloc (.cells #[.int .i64 p, .int .i64 next] 31)).ownsRow w.heap.size 31 2 (.slice pq QL cq) QL (mc Q) := (hown.alloc _).alloc _
          have hsA : (w2.alloc (.cells #[.int .i64 p, .int .i64 next] 31)).heap.size = w2.heap.size + 1 := by simp
          have hnw : ∀ j u, ([.int .i64 p, .int .i64 next] : List Value)[j]? = some u → ((w2.alloc (.cells #[.int .i64 p, .int .i64 next] 31)).alloc (.cells #[.int .i64 p, .int .i64 next] 31)).cell? ((⟨w2.heap.size + 1, 0, none⟩ : Addr).add j) = some u := by
            have := heap_alloc_new (w2.alloc (.cells #[.int .i64 p, .int .i64 next] 31)) (.cells #[.int .i64 p, .int .i64 next] 31)
            rw [hsA] at this
            exact World.news_of_block this
          have g3 : Gr w2 ((w2.alloc (.cells #[.int .i64 p, .int .i64 next] 31)).alloc (.cells #[.int .i64 p, .int .i64 next] 31)) := ((Gr.refl w2).alloc _).alloc _
          have b3 : Below w.heap.size w ((w2.alloc (.cells #[.int .i64 p, .int .i64 next] 31)).alloc (.cells #[.int .i64 p, .int .i64 next] 31)) := (hl1.below.alloc hsz2 _).alloc (by rw [hsA]; omega) _
          have m3 : ((w2.alloc (.cells #[.int .i64 p, .int .i64 next] 31)).alloc (.cells #[.int .i64 p, .int .i64 next] 31)).heap[w2.heap.size]? = some (.cells #[.int .i64 p, .int .i64 next] 31 (0, 0)) := (Below.heap_alloc _ _ _ (by rw [hsA]; omega)).trans (heap_alloc_new w2 _)
          have hs3 := g3.size
          have hs3' : ((w2.alloc (.cells #[.int .i64 p, .int .i64 next] 31)).alloc (.cells #[.int .i64 p, .int .i64 next] 31)).heap.size = w2.heap.size + 2 := by simp
          have hlt := hown.lt
          have n3 := hl1.net.gr g3
          have hd3 := hl1.held.kept g3.kept
          have hnI : (next : Int) ≤ 1024 := by omega
          go_wp2_with (first
            | (at_builtin
               refine wpList_append_own _ rfl _ _ 26 rfl w.heap.size 31 i0 _ 2 16 Yba.underlying26 hi hz0 hz1 hz2 rfl (by decide) (.slice pq QL cq) QL (mc Q) rfl own3 ⟨w2.heap.size + 1, 0, none⟩ 1 1 [.int .i64 p, .int .i64 next] rfl rfl hnw (by simp [Value.oneCell']) (by unfold maxLen; omega) (by omega) (by omega) ?_
               intro v' w4 hown' hgrow hnil
               obtain ⟨n4, k4⟩ := grown31 n3 own3 hgrow
               have b4 : Below w.heap.size w w4 := Below.grown b3 hgrow (by omega) (fun j hj => (hlt _ hj).1)
               have m4 := (hgrow.block w2.heap.size (by omega) (fun e => by have := (hlt _ e.symm).2; omega)).trans m3
               have hd4 : HeldIs w4 (B + 1) hd := by
                 obtain ⟨cs, e, e1', e2'⟩ := hd3
                 exact ⟨cs, k4 _ _ _ (by decide) e, e1', e2'⟩
               have mm0 := (ob m4 0).1
               have mm1 := (ob m4 1).1
               clear hnil hgrow)
            | fail)
          refine (send6 n4 hp9 b4.size hl1.live (by
            rw [hl1.sim.q p hp9]
            have := List.length_filter_le (fun x : Nat × Nat => decide (x.1 = p)) Q
            unfold idsOf
            simp only [List.length_map]
            omega) (by omega)).mono ?_
          rintro e6 w6 ⟨rfl, S', A', n6, hh6, hq6, ho6, hv6, hb6, hkp6⟩
          go_wp2_with fail
          go_meet
          case rel => exact ⟨rfl, next + 1, S', A', Q ++ [(p, next)], hd, by simp, by omega, ⟨n6, hv6, hl1.sim.send hp9 hh6 hq6 ho6, by
            have := own_kept hown' hkp6
            rw [mc_append, show (Q ++ [(p, next)]).length = QL + 1 by simp [hQL]]
            exact this, hd4.kept hkp6, b4.trans hb6, hl1.hH, by simp; omega⟩⟩
        · have hcl := (hl1.held.cell hp9)
          have hc1 := hcl.1
          have hc2 := hcl.2
          have hh3 : HeldIs (w2.setCell ⟨B + 1, p, none⟩ (.bool true)) (B + 1) (fun q => if q = p then true else hd q) := hl1.held.set hp9
          have hn3 := hl1.net.setHeld (p := p) (b := .bool true) hl1.held
          have ho3 := own_setHeld (p := p) (b := .bool true) hl1.own hl1.held
          have hb3 : Below w.heap.size w (w2.setCell ⟨B + 1, p, none⟩ (.bool true)) := hl1.below.setCell (show w.heap.size ≤ (⟨B + 1, p, none⟩ : Addr).block from hl1.hH) _
          have hho := hold7 hn3 hp9 hb3.size
          rw [hpd, hpm] at hho
          go_wp2_with fail
          refine hho.mono ?_
          rintro e6 w6 ⟨rfl, k', S', A', n6, hk6, hh6, hq6, ho6, hb6, hkp6⟩
          go_wp2_with fail
          go_meet
          case rel => exact ⟨rfl, next, S', A', Q, _, rfl, by omega, ⟨n6, fun q kq hq e => by
              by_cases hqp : q = p
              · subst hqp; rw [hk6] at e; obtain rfl := Option.some.inj e; exact .inl hh6
              · rw [ho6 q hqp] at e; exact hl1.live q kq hq e, hl1.sim.mark hp9 (by rw [hOf_some hk6]; exact hh6) (by rw [qOf_some hk6]; exact hq6) ho6, own_kept ho3 hkp6, hh3.kept hkp6, hb3.trans hb6, hl1.hH, hl1.qlen⟩⟩
        · have hcl := (hl1.held.cell hp9)
          have hc1 := hcl.1
          have hc2 := hcl.2
          have hh3 : HeldIs (w2.setCell ⟨B + 1, p, none⟩ (.bool false)) (B + 1) (fun q => if q = p then false else hd q) := hl1.held.set hp9
          have hn3 := hl1.net.setHeld (p := p) (b := .bool false) hl1.held
          have ho3 := own_setHeld (p := p) (b := .bool false) hl1.own hl1.held
          have hb3 : Below w.heap.size w (w2.setCell ⟨B + 1, p, none⟩ (.bool false)) := hl1.below.setCell (show w.heap.size ≤ (⟨B + 1, p, none⟩ : Addr).block from hl1.hH) _
          have hho := letgo8 hn3 hp9 hb3.size hl1.live
          rw [hpd, hpm] at hho
          go_wp2_with fail
          refine hho.mono ?_
          rintro e6 w6 ⟨rfl, S', A', n6, hh6, hq6, ho6, hv6, hb6, hkp6⟩
          go_wp2_with fail
          go_meet
          case rel => exact ⟨rfl, next, S', A', Q, _, rfl, by omega, ⟨n6, hv6, hl1.sim.mark hp9 hh6 hq6 ho6, own_kept ho3 hkp6, hh3.kept hkp6, hb3.trans hb6, hl1.hH, hl1.qlen⟩⟩
        · have hold := oldest9 hl1.net hsz2 hl1.live
          go_wp2_with fail
          refine hold.mono ?_
          rintro e6 w6 hr6
          have hQn : Q.length ≤ 1024 := by have := hl1.qlen; omega
          rcases hr6 with ⟨rfl, hnob, n6, hb6, hkp6⟩ | ⟨p1, n1, r1, hF, rfl, S', A', n6, hh6, hq6, ho6, hv6, hb6, hkp6⟩
          · have hall := hl1.sim.nobody hnob
            have g7 : Gr w6 (w6.alloc (.cells #[.int .i64 0, .int .i64 0] 31)) := (Gr.refl w6).alloc _
            have hsz6 : w.heap.size ≤ w6.heap.size := Nat.le_trans hsz2 hb6.size
            have ow7 := own_kept (own_kept hl1.own hkp6) g7.kept
            have hd7 := (hl1.held.kept hkp6).kept g7.kept
            have b7 : Below w.heap.size w (w6.alloc (.cells #[.int .i64 0, .int .i64 0] 31)) := (hl1.below.trans hb6).alloc hsz6 _
            have z7 := heap_alloc_new w6 (.cells #[.int .i64 0, .int .i64 0] 31)
            have htk := take10 ow7 hd7 hl1.sim.nine hQn b7.size
            go_wp2_with fail
            refine htk.mono ?_
            rintro e8 w8 ⟨g8, b8, hr8⟩
            rcases hr8 with ⟨rfl, _⟩ | ⟨i', p2, n2, v2, hFA, _, _⟩
            · have z8 := g8.at z7
              have za := (ob z8 0).1
              have zb := (ob z8 1).1
              have zl := (Array.getElem?_eq_some_iff.1 z8).1
              have hsz8 : w.heap.size ≤ w8.heap.size := (b7.trans b8).size
              go_wp2_with fail
              go_meet
              case rel => exact ⟨rfl, next, S, A, Q, hd, rfl, by omega, ⟨(n6.gr g7).gr (g8.alloc _), hl1.live, hl1.sim, own_kept ow7 (g8.alloc _).kept, hd7.kept (g8.alloc _).kept, (b7.trans b8).alloc hsz8 _, hl1.hH, hl1.qlen⟩⟩
            · have := hall _ (List.mem_of_getElem? hFA.at')
              rw [hFA.free] at this
              cases this
          · have hsz6 : w.heap.size ≤ w6.heap.size := Nat.le_trans hsz2 hb6.size
            have g7 : Gr w6 (w6.alloc (.cells #[.int .i64 p1, .int .i64 n1] 31)) := (Gr.refl w6).alloc _
            have ow7 := own_kept (own_kept hl1.own hkp6) g7.kept
            have hd7 := (hl1.held.kept hkp6).kept g7.kept
            have b7 : Below w.heap.size w (w6.alloc (.cells #[.int .i64 p1, .int .i64 n1] 31)) := (hl1.below.trans hb6).alloc hsz6 _
            have z7 := heap_alloc_new w6 (.cells #[.int .i64 p1, .int .i64 n1] 31)
            have htk := take10 ow7 hd7 hl1.sim.nine hQn b7.size
            go_wp2_with fail
            refine htk.mono ?_
            rintro e8 w8 ⟨g8, b8, hr8⟩
            rcases hr8 with ⟨_, hall⟩ | ⟨i', p2, n2, v2, hFA, rfl, hown8⟩
            · have hm : n1 ∈ idsOf Q p1 := by rw [← hl1.sim.q p1 hF.hp, hF.q]; simp
              have := hall _ (ids_mem hm)
              have hf := hF.free
              rw [hl1.sim.h p1 hF.hp] at hf
              simp only at this
              rw [hf] at this
              cases this
            · obtain ⟨rfl, rfl⟩ := hl1.sim.same hF hFA
              have z8 := g8.at z7
              have za := (ob z8 0).1
              have zb := (ob z8 1).1
              have zl := (Array.getElem?_eq_some_iff.1 z8).1
              have hsz8 : w.heap.size ≤ w8.heap.size := (b7.trans b8).size
              obtain ⟨pv2, cv2, hvv2⟩ := slice_of hown8
              subst hvv2
              go_wp2_with fail
              go_meet
              case rel => exact ⟨rfl, next, S', A', Q.eraseIdx i', hd, rfl, by omega, ⟨(n6.gr g7).gr (g8.alloc _), hv6, hl1.sim.take hF hFA hh6 hq6 ho6, own_kept hown8 ((Gr.refl w8).alloc _).kept, hd7.kept (g8.alloc _).kept, (b7.trans b8).alloc hsz8 _, hl1.hH, by have := hl1.qlen; have := List.length_eraseIdx_le Q i'; omega⟩⟩
      case rest =>
        obtain ⟨rfl, next', S', A', Q', hd', rfl, hnx', hl2⟩ := hcut
        clear hl1 hsz2
        go_wp2_with fail
        go_loopw [18] (fun qv wq => ∃ (q m : Nat), q ≤ 9 ∧ qv = .int .i64 q ∧ wq = wc.drewN m) (fun qv _ => 9 - (intOf qv).toNat)
        case atStart => exact ⟨0, 0, by omega, rfl, rfl⟩
        case round =>
          obtain ⟨q, m, hq9, rfl, rfl⟩ := hrel
          by_cases hqlt : q < 9
          · obtain ⟨qd, hqd⟩ : ∃ qd, q / 3 = qd := ⟨_, rfl⟩
            obtain ⟨qm, hqm⟩ : ∃ qm, q % 3 = qm := ⟨_, rfl⟩
            have f2 : (q : Int) / 3 = (qd : Int) := by omega
            have f3 : (q : Int).tmod 3 = (qm : Int) := by rw [Int.tmod_eq_emod_of_nonneg (by omega)]; omega
            have f4 : IntKind.i64.wrap (qd : Int) = (qd : Int) := by rw [IntKind.wrap_i64]; omega
            have hqI : (q : Int) < 9 := by omega
            have hq0 : (0 : Int) ≤ (q : Int) := by omega
            have hcell := fun m' => (hl2.held.kept (((Gr.refl wc).drewN m').kept)).cell hqlt
            have hhe := fun m' => held11 (hl2.net.gr ((Gr.refl wc).drewN m')) hqlt
            have hsim := hl2.sim.h q hqlt
            have hhe2 : ∀ m', Calls Yba.prog 11 #[.pointer (some ⟨B, 0, none⟩), .string (site qd), .string (site qm)] (wc.drewN m') fun e w' => e = .returned (.bool (hd' q)) ∧ w' = wc.drewN m' := fun m' => by
              have := hhe m'
              rw [hqd, hqm] at this
              rw [← hsim]
              exact this
            clear hhe hsim
            cases hdq : hd' q with
            | true =>
              simp only [hdq] at hcell hhe2
              go_wp2_with fail
              go_region_held3 (fun wx => wx.cell? ⟨B + 1, q, none⟩ = some (.bool true) ∧ ∃ m', wx = wc.drewN m')
                (first | exact ⟨(hcell (m + 1)).1, m + 1, rfl⟩ | exact ⟨(hcell _).1, _, rfl⟩ | fail)
                (first
                  | (go_at_call 5; with_reducible refine Calls.mono (site5 qd _ (by omega)) ?_; rintro e5 w5 ⟨rfl, hw5⟩; subst hw5)
                  | (go_at_call 5; with_reducible refine Calls.mono (site5 qm _ (by omega)) ?_; rintro e5 w5 ⟨rfl, hw5⟩; subst hw5)
                  | (go_at_call 11; with_reducible refine Calls.mono (hhe2 _) ?_; rintro e5 w5 ⟨rfl, hw5⟩; subst hw5)
                  | fail)
              all_goals go_wp2_with fail
              all_goals exact ⟨⟨q + 1, _, by omega, by go_num, rfl⟩, by simp [intOf]; omega⟩
            | false =>
              simp only [hdq] at hcell hhe2
              go_wp2_with fail
              go_region_held3 (fun wx => wx.cell? ⟨B + 1, q, none⟩ = some (.bool false) ∧ ∃ m', wx = wc.drewN m')
                (first | exact ⟨(hcell (m + 1)).1, m + 1, rfl⟩ | exact ⟨(hcell _).1, _, rfl⟩ | fail)
                (first
                  | (go_at_call 5; with_reducible refine Calls.mono (site5 qd _ (by omega)) ?_; rintro e5 w5 ⟨rfl, hw5⟩; subst hw5)
                  | (go_at_call 5; with_reducible refine Calls.mono (site5 qm _ (by omega)) ?_; rintro e5 w5 ⟨rfl, hw5⟩; subst hw5)
                  | (go_at_call 11; with_reducible refine Calls.mono (hhe2 _) ?_; rintro e5 w5 ⟨rfl, hw5⟩; subst hw5)
                  | fail)
              all_goals go_wp2_with fail
              all_goals exact ⟨⟨q + 1, _, by omega, by go_num, rfl⟩, by simp [intOf]; omega⟩
          · have hq' : q = 9 := by omega
            subst hq'
            go_wp2_with fail
            subst hBe
            go_roundw
            case rel => first | exact ⟨k + 1, next', S', A', Q', hd', by omega, by go_num, rfl, hnx', hl2.gr ((Gr.refl wc).drewN m) (below_drew (Below.refl _ _) m)⟩ | ((repeat apply Exists.intro); exact ⟨⟨k + 1, next', S', A', Q', hd', by omega, by go_num, rfl, hnx', hl2.gr ((Gr.refl wc).drewN m) (below_drew (Below.refl _ _) m)⟩, rfl⟩)
            case measure => simp [intOf]; omega
    · have hkN : k = N := by omega
      subst hkN
      have hsent := sent12 hl.net
      obtain ⟨pq, cq, hu5⟩ := slice_of hl.own
      subst hu5
      obtain ⟨QL, hQL⟩ : ∃ QL, Q.length = QL := ⟨_, rfl⟩
      have hQn : QL ≤ 1024 := by have := hl.qlen; omega
      have hQI : (QL : Int) ≤ 1024 := by omega
      have hown0 := hl.own
      rw [hQL] at hown0 ⊢
      go_wp2_with fail
      refine hsent.mono ?_
      rintro e5 w5 ⟨rfl, hw5⟩
      subst hw5
      go_wp2_with fail
      -- every pair is let go
      go_loopw [19] (fun qv wq => ∃ (q : Nat) (S : Nat → Option Lk) (A : List Nat) (hd : Nat → Bool), q ≤ 9 ∧ qv = .int .i64 q ∧ NetIs wq w.heap.size B w.heap.size next S A ∧ Live S ∧ Sim S Q hd next ∧ wq.ownsRow w.heap.size 31 2 (.slice pq QL cq) QL (mc Q) ∧ Below w.heap.size w wq ∧ ∀ j, j < q → hd j = false) (fun qv _ => 9 - (intOf qv).toNat)
      case atStart => exact ⟨0, S, A, hd, by omega, rfl, hl.net, hl.live, hl.sim, hown0, hl.below, fun j hj => by omega⟩
      case round =>
        obtain ⟨q, S3, A3, hd3, hq9, rfl, n3, v3, s3, o3, b3, f3⟩ := hrel
        by_cases hqlt : q < 9
        · obtain ⟨qd, hqd⟩ : ∃ qd, q / 3 = qd := ⟨_, rfl⟩
          obtain ⟨qm, hqm⟩ : ∃ qm, q % 3 = qm := ⟨_, rfl⟩
          have f2 : (q : Int) / 3 = (qd : Int) := by omega
          have f3' : (q : Int).tmod 3 = (qm : Int) := by rw [Int.tmod_eq_emod_of_nonneg (by omega)]; omega
          have f4 : IntKind.i64.wrap (qd : Int) = (qd : Int) := by rw [IntKind.wrap_i64]; omega
          have hqI : (q : Int) < 9 := by omega
          have hq0 : (0 : Int) ≤ (q : Int) := by omega
          have hlg := letgo8 n3 hqlt b3.size v3
          rw [hqd, hqm] at hlg
          go_wp2_with (first
            | (go_at_call 5; with_reducible refine Calls.mono (site5 qd _ (by omega)) ?_; rintro e6 w6 ⟨rfl, hw6⟩; subst hw6)
            | (go_at_call 5; with_reducible refine Calls.mono (site5 qm _ (by omega)) ?_; rintro e6 w6 ⟨rfl, hw6⟩; subst hw6)
            | (go_at_call 8; with_reducible refine Calls.mono hlg ?_
               rintro e7 w7 ⟨rfl, S7, A7, n7, hh7, hq7, ho7, v7, b7, k7⟩
               have hhe : Calls Yba.prog 11 #[.pointer (some ⟨B, 0, none⟩), .string (site qd), .string (site qm)] w7 fun e w' => e = .returned (.bool false) ∧ w' = w7 := by
                 have := held11 n7 hqlt
                 rw [hqd, hqm] at this
                 rw [← hh7]
                 exact this
               clear hlg)
            | (go_at_call 11; with_reducible refine Calls.mono hhe ?_; rintro e6 w6 ⟨rfl, hw6⟩; subst hw6)
            | fail)
          exact ⟨⟨q + 1, S7, A7, _, by omega, by go_num, n7, v7, s3.mark hqlt hh7 hq7 ho7, own_kept o3 k7, b3.trans b7, fun j hj => by
            by_cases hjq : j = q
            · simp [hjq]
            · simp only [if_neg hjq]; exact f3 j (by omega)⟩, by simp [intOf]; omega⟩
        · have hq' : q = 9 := by omega
          subst hq'
          have hall : ∀ x ∈ Q, hd3 x.1 = false := fun x hx => f3 x.1 (s3.nine x hx)
          go_wp2_with fail
          -- every message is given up in order
          go_loopw [20, 21, 22] (fun iv _ _ wq => ∃ (i : Nat) (S : Nat → Option Lk) (A : List Nat), i ≤ QL ∧ iv = .int .i64 i ∧ NetIs wq w.heap.size B w.heap.size next S A ∧ Live S ∧ Sim S (Q.drop i) hd3 next ∧ wq.ownsRow w.heap.size 31 2 (.slice pq QL cq) QL (mc Q) ∧ Below w.heap.size w wq) (fun iv _ _ _ => QL - (intOf iv).toNat)
          case atStart => exact ⟨0, S3, A3, Nat.zero_le _, rfl, n3, v3, by simpa using s3, o3, b3⟩
          case round =>
            obtain ⟨i, S4, A4, hiQ, rfl, n4, v4, s4, o4', b4⟩ := hrel
            have hold := oldest9 n4 b4.size v4
            by_cases hilt : i < QL
            · obtain ⟨⟨p, n⟩, hx⟩ : ∃ x, Q[i]? = some x := ⟨_, List.getElem?_eq_getElem (by omega)⟩
              have hdr : Q.drop i = (p, n) :: Q.drop (i + 1) := by
                have := List.getElem?_eq_some_iff.1 hx
                rw [List.drop_eq_getElem_cons this.1, this.2]
              have hFA : FirstAt (Q.drop i) hd3 0 p n := ⟨by rw [hdr]; rfl, hall _ (List.mem_of_getElem? hx), fun j x hj => by omega⟩
              obtain ⟨g, cap', cur, hvv, _, hcu, _, _, _, htk⟩ : ∃ g cap cur, (Value.slice pq QL cq) = .slice (some ⟨g, 0, none⟩) QL cap ∧ w.heap.size ≤ g ∧ wr.heap[g]? = some (.cells cur 31 (0, 0)) ∧ QL ≤ cap ∧ cap ≤ maxLen ∧ cur.size = cap * 2 ∧ cur.toList.take (QL * 2) = mc Q := by
                rcases o4'.2 with ⟨_, h0⟩ | h
                · omega
                · exact h
              simp at hvv
              obtain ⟨rfl, rfl⟩ := hvv
              obtain ⟨m0, m1⟩ := mc_at Q i (p, n) hx
              have cgt : ∀ t, t < QL * 2 → cur[t]? = (mc Q)[t]? := fun t ht => by rw [← htk, List.getElem?_take_of_lt ht]; simp
              have hiI : (i : Int) < (QL : Int) := by omega
              have hi0 : (0 : Int) ≤ (i : Int) := by omega
              go_wp2_with fail
              refine hold.mono ?_
              rintro e6 w6 hr6
              rcases hr6 with ⟨_, hnob, _⟩ | ⟨p1, n1, r1, hF, rfl, S6, A6, n6, hh6, hq6, ho6, v6, b6, k6⟩
              · have := s4.nobody hnob (p, n) (by rw [hdr]; simp)
                rw [hFA.free] at this
                cases this
              · obtain ⟨rfl, rfl⟩ := s4.same hF hFA
                have hcu6 := k6 _ _ _ hcu (by decide) (by decide) (by decide) (by decide)
                have hgl := (Array.getElem?_eq_some_iff.1 hcu6).1
                have q0 : w6.cell? ⟨g, i * 2, none⟩ = some (.int .i64 p) := (ob hcu6 _).1.trans ((cgt _ (by omega)).trans m0)
                have q1 : w6.cell? ⟨g, i * 2 + 1, none⟩ = some (.int .i64 n) := (ob hcu6 _).1.trans ((cgt _ (by omega)).trans m1)
                have hs7 := s4.take hF hFA hh6 hq6 ho6
                have he0 : (Q.drop i).eraseIdx 0 = Q.drop (i + 1) := by rw [hdr]; rfl
                rw [he0] at hs7
                have hsz6 : w.heap.size ≤ w6.heap.size := (b4.trans b6).size
                clear hold
                go_wp2_with fail
                go_quiet (fail)
                go_wp2_with fail
                have g7 : ∀ o m, Gr w6 ((w6.alloc o).drewN m) := fun o m => ((Gr.refl w6).alloc o).drewN m
                have b7 : ∀ o m, Below w.heap.size w ((w6.alloc o).drewN m) := fun o m => below_drew ((b4.trans b6).alloc hsz6 o) m
                have o7 := own_kept o4' k6
                go_roundw
                case rel => first | exact ⟨i + 1, S6, A6, by omega, by go_num, n6.gr (g7 _ _), v6, hs7, own_kept o7 (g7 _ _).kept, b7 _ _⟩ | ((repeat apply Exists.intro); exact ⟨⟨i + 1, S6, A6, by omega, by go_num, n6.gr (g7 _ _), v6, hs7, own_kept o7 (g7 _ _).kept, b7 _ _⟩, rfl⟩)
                case measure => simp [intOf]; omega
            · have hiQ' : i = QL := by omega
              subst hiQ'
              have hdn : Q.drop i = [] := List.drop_eq_nil_of_le (by omega)
              rw [hdn] at s4
              go_wp2_with fail
              refine hold.mono ?_
              rintro e6 w6 hr6
              rcases hr6 with ⟨rfl, _, n6, b6, k6⟩ | ⟨p1, n1, r1, hF, _⟩
              · have hsz6 : w.heap.size ≤ w6.heap.size := (b4.trans b6).size
                go_wp2_with fail
                go_ret
                exact ⟨rfl, (b4.trans b6).alloc hsz6 _⟩
              · have := s4.q p1 hF.hp
                rw [hF.q] at this
                cases this

set_option maxRecDepth 100000 in
theorem law_long (pa : Option Addr) (n cap : Nat) (w : World) (hn : 1024 < n) (hx : n ≤ maxLen) : Calls Yba.prog 3 #[.slice pa n cap] w fun e w' => e = .returned (.bool true) ∧ Below w.heap.size w w' := by
  have hnI : (1024 : Int) < (n : Int) := by omega
  go_enter Yba.func3, Yba.ntmps3
  go_wp2
  go_ret
  exact ⟨rfl, Below.refl _ _⟩
end Go.Proofs.Ybulkits
