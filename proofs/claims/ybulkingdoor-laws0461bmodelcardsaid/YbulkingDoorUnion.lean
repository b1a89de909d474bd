/-
  iprange.Union.
-/
import Derived.Test.YbulkingDoorKeys
import Derived.Test.YbulkingDoorSortNone
import Derived.Test.YbulkingDoorLonger
namespace Go.Proofs.YbulkingDoor
open Go.RowKit Go.Shelf
set_option linter.unusedVariables false
set_option linter.unusedSimpArgs false

variable {w : World} {a4 a6 : Addr}

/-- The Ranges that are valid. -/
def vOf (x : Spn) : Option (Bool × Nat × Nat) := if x.sk then none else some (x.v6, x.s, endOf x.s x.l)
def valid (xs : List Spn) : List (Bool × Nat × Nat) := xs.filterMap vOf

theorem valid_snoc (xs : List Spn) (k : Nat) (x : Spn) (h : xs[k]? = some x) : valid (xs.take (k + 1)) = valid (xs.take k) ++ (vOf x).toList := by
  rw [List.take_add_one, h]
  cases hv : vOf x <;> simp [valid, hv]
theorem valid_len (xs : List Spn) (k : Nat) : (valid (xs.take k)).length ≤ k := by
  refine Nat.le_trans (List.length_filterMap_le _ _) ?_
  simp
  omega

/-- The cells of the argument's Ranges. -/
def RowS (w : World) (a4 a6 : Addr) (g : Nat) (xs : List Spn) : Prop := ∀ i x, xs[i]? = some x → ∀ t u, (encR a4 a6 x)[t]? = some u → w.cell? ⟨g, i * 6 + t, none⟩ = some u

theorem valid_fit (xs : List Spn) (h : ∀ x ∈ xs, x.s ≤ 255 ∧ x.l ≤ 255) : ∀ y ∈ valid xs, Fit y := by
  intro y hy
  obtain ⟨x, hx, e⟩ := List.mem_filterMap.1 hy
  have := h x hx
  unfold vOf at e
  split at e
  · cases e
  · obtain rfl := Option.some.inj e
    exact ⟨by simp only [endOf]; omega, by simp only [endOf]; omega⟩

theorem rowed_keep {wr wx : World} {g : Nat} {V : List (Bool × Nat × Nat)} (h : Rowed wr a4 a6 g V) (e : wx.heap[g]? = wr.heap[g]?) : Rowed wx a4 a6 g V := by
  intro i x hx
  have c : ∀ o, wx.cell? ⟨g, o, none⟩ = wr.cell? ⟨g, o, none⟩ := fun o => by simp [World.cell?, e]
  simp only [c]
  exact h i x hx

theorem own_base {wr : World} {base base' k : Nat} {v : Value} {xs : List Value} (h : wr.ownsRow base' 37 6 v k xs) (hb : base ≤ base') : wr.ownsRow base 37 6 v k xs := by
  refine ⟨h.1, ?_⟩
  rcases h.2 with h' | ⟨g, cap, cur, e1, e2, e3⟩
  · exact .inl h'
  · exact .inr ⟨g, cap, cur, e1, by omega, e3⟩

theorem wpAnyH_skip {P : Program} {ops : Array Oper} {Q : Exit → Act → World → Prop} {md : Region.Mode} {S : World → Prop} {i : Nat} {oi : Oper} {d : Option Tmp} {fuel : Nat} {listed : Array Bool} {a : Act} {w : World} (hi : ops[i]? = some oi) (hd : oi.dst = d)
    (hs : Region.noSelect ops = true) (hf : Region.free md ops listed i = true) (hr : (Region.ready md ops listed).contains i = true)
    (hQ : ∀ c a w, Q (.panic c) (a.put d undef) w → Q (.panic c) a w) (hw : Region.wanted oi (yielded ops a.tmps) = false) (hS : S w)
    (h : wpAnyH P md ops Q S fuel (listed.setIfInBounds i true) (a.put d undef) w) : wpAnyH P md ops Q S (fuel + 1) listed a w := by
  subst hd
  exact wpAnyH_take hi hs hf hr hQ (.inr ⟨hw, rfl⟩) hS h

theorem eqlAddr (hz : Zs w a4 a6) (h l h' l' : Int) (i i' : Hd) : (binOp .eql 35 (.agg #[.int .u64 h, .int .u64 l, .pointer (hnd a4 a6 i)]) (.agg #[.int .u64 h', .int .u64 l', .pointer (hnd a4 a6 i')])).run Ybad.prog w = .ok (.bool (decide (h = h' ∧ l = l' ∧ i = i'))) w := by
  have := eqAddr hz h l h' l' i i'
  simp only [binOp]
  simp [Op.equal, Op.maxDepth, this]

set_option maxHeartbeats 3200000 in
set_option maxRecDepth 100000 in
theorem union7 (p : Option Addr) (g cap : Nat) (xs : List Spn) (hz : Zs w a4 a6) (hp : 0 < xs.length → p = some ⟨g, 0, none⟩ ∧ g < w.heap.size) (hs : RowS w a4 a6 g xs) (h255 : ∀ x ∈ xs, x.s ≤ 255 ∧ x.l ≤ 255) (hn : xs.length ≤ 1024) :
    Calls Ybad.prog 7 #[.slice p xs.length cap] w fun e w' => ∃ (v : Value) (L : List (Bool × Nat × Nat)), e = .returned v ∧ w'.ownsRow w.heap.size 37 6 v L.length (L.flatMap (enc3 a4 a6)) ∧ Below w.heap.size w w' ∧ Norm (L.map key2) ∧ (∀ t, Cov (L.map key2) t ↔ Cov ((valid xs).map key2) t) ∧ (∀ x ∈ L, Fit x) ∧ L.length ≤ 1024 := by
  obtain ⟨i0, hi, hz0, hz1, hz2⟩ := info_parts Ybad.info37
  obtain ⟨n, hnl⟩ : ∃ n, xs.length = n := ⟨_, rfl⟩
  have hnI : (n : Int) ≤ 1024 := by omega
  rw [hnl]
  have hmk := fun wx => run_make (P := Ybad.prog) wx 23 37 i0 _ Ybad.underlying23 hi hz0 .i64 .i64 0 n (by omega) (by omega) (by rw [hz2]; omega) (by omega)
  simp only [Int.toNat_natCast, Int.toNat_zero] at hmk
  go_enter Ybad.func7, Ybad.ntmps7
  go_wp2_with fail
  go_loopw [3, 5, 15] (fun v _ i wr => ∃ k : Nat, k ≤ n ∧ i = .int .i64 k ∧ wr.ownsRow w.heap.size 37 6 v (valid (xs.take k)).length ((valid (xs.take k)).flatMap (enc3 a4 a6)) ∧ Below w.heap.size w wr) (fun _ _ i _ => n - (intOf i).toNat)
  case atStart => exact ⟨0, Nat.zero_le _, rfl, own_made w _ n (by simp [size_madeCells, hz1]) (by omega), (Below.refl _ _).alloc (Nat.le_refl _) _⟩
  case round =>
    obtain ⟨k, hk, rfl, hown, hbel⟩ := hrel
    by_cases hlt : k < n
    · obtain ⟨rfl, hg⟩ := hp (by omega)
      obtain ⟨x, hx⟩ : ∃ x, xs[k]? = some x := ⟨_, List.getElem?_eq_getElem (by omega)⟩
      have hc := hs k x hx
      have hx255 := h255 x (List.mem_of_getElem? hx)
      have hszb := hbel.size
      have hvs := valid_snoc xs k x hx
      have hvl := valid_len xs k
      cases hsk : x.sk with
      | true =>
        have hv0 : vOf x = none := by simp [vOf, hsk]
        rw [hv0] at hvs
        have he : encR a4 a6 x = zero6 := by simp [encR, hsk]
        rw [he] at hc
        have c0 : wr.cell? ⟨g, k * 6, none⟩ = some (.int .u64 0) := (hbel.cell hg).trans (hc 0 _ rfl)
        have c1 : wr.cell? ⟨g, k * 6 + 1, none⟩ = some (.int .u64 0) := (hbel.cell hg).trans (hc 1 _ rfl)
        have c2 : wr.cell? ⟨g, k * 6 + 2, none⟩ = some (.pointer (hnd a4 a6 .lt)) := (hbel.cell hg).trans (hc 2 _ rfl)
        have c3 : wr.cell? ⟨g, k * 6 + 3, none⟩ = some (.int .u64 0) := (hbel.cell hg).trans (hc 3 _ rfl)
        have c4 : wr.cell? ⟨g, k * 6 + 4, none⟩ = some (.int .u64 0) := (hbel.cell hg).trans (hc 4 _ rfl)
        have c5 : wr.cell? ⟨g, k * 6 + 5, none⟩ = some (.pointer (hnd a4 a6 .lt)) := (hbel.cell hg).trans (hc 5 _ rfl)
        go_wp2_with fail
        refine (rvalid _ _ _ _ _ _ ((hz.below hbel).later ((Later.refl wr).alloc _))).mono ?_
        rintro e1 w1 ⟨rfl, k1⟩
        simp only [decide_true, Bool.not_true]
        go_wp2
        go_roundw
        case rel => exact ⟨k + 1, by omega, by go_num, by rw [hvs]; simpa using own_later hown k1, (hbel.alloc (by omega) _).trans (k1.below.mono (by simp; omega))⟩
        case measure => simp [intOf]; omega
      | false =>
        have hv0 : vOf x = some (x.v6, x.s, endOf x.s x.l) := by simp [vOf, hsk]
        rw [hv0] at hvs
        have he : encR a4 a6 x = enc3 a4 a6 (x.v6, x.s, endOf x.s x.l) := by simp [encR, hsk]
        rw [he] at hc
        have c0 : wr.cell? ⟨g, k * 6, none⟩ = some (.int .u64 (hiOf x.v6)) := (hbel.cell hg).trans (hc 0 _ rfl)
        have c1 : wr.cell? ⟨g, k * 6 + 1, none⟩ = some (.int .u64 (loOf x.v6 x.s)) := (hbel.cell hg).trans (hc 1 _ rfl)
        have c2 : wr.cell? ⟨g, k * 6 + 2, none⟩ = some (.pointer (hnd a4 a6 (hdOf x.v6))) := (hbel.cell hg).trans (hc 2 _ rfl)
        have c3 : wr.cell? ⟨g, k * 6 + 3, none⟩ = some (.int .u64 (hiOf x.v6)) := (hbel.cell hg).trans (hc 3 _ rfl)
        have c4 : wr.cell? ⟨g, k * 6 + 4, none⟩ = some (.int .u64 (loOf x.v6 (endOf x.s x.l))) := (hbel.cell hg).trans (hc 4 _ rfl)
        have c5 : wr.cell? ⟨g, k * 6 + 5, none⟩ = some (.pointer (hnd a4 a6 (hdOf x.v6))) := (hbel.cell hg).trans (hc 5 _ rfl)
        go_wp2_with fail
        refine (rvalid _ _ _ _ _ _ ((hz.below hbel).later ((Later.refl wr).alloc _))).mono ?_
        rintro e1 w1 ⟨rfl, k1⟩
        have hnz : (!decide (hdOf x.v6 = Ordering.lt)) = true := by cases x.v6 <;> simp [hdOf]
        rw [hnz]
        have d0 : w1.cell? ⟨wr.heap.size, 0, none⟩ = some (.int .u64 (hiOf x.v6)) := k1.cell (by simp [go_sem])
        have d1 : w1.cell? ⟨wr.heap.size, 1, none⟩ = some (.int .u64 (loOf x.v6 x.s)) := k1.cell (by simp [go_sem])
        have d2 : w1.cell? ⟨wr.heap.size, 2, none⟩ = some (.pointer (hnd a4 a6 (hdOf x.v6))) := k1.cell (by simp [go_sem])
        have d3 : w1.cell? ⟨wr.heap.size, 3, none⟩ = some (.int .u64 (hiOf x.v6)) := k1.cell (by simp [go_sem])
        have d4 : w1.cell? ⟨wr.heap.size, 4, none⟩ = some (.int .u64 (loOf x.v6 (endOf x.s x.l))) := k1.cell (by simp [go_sem])
        have d5 : w1.cell? ⟨wr.heap.size, 5, none⟩ = some (.pointer (hnd a4 a6 (hdOf x.v6))) := k1.cell (by simp [go_sem])
        have hsz1 := k1.below.size
        simp only [World.alloc, Array.size_push] at hsz1
        go_wp2_with (first
          | (at_builtin
             refine wpList_append_own _ rfl _ _ 23 rfl w.heap.size 37 i0 _ 6 48 Ybad.underlying23 hi hz0 hz1 hz2 rfl (by decide) u3 (valid (xs.take k)).length ((valid (xs.take k)).flatMap (enc3 a4 a6)) rfl ((own_later hown k1).alloc _) ⟨w1.heap.size, 0, none⟩ 1 1 (enc3 a4 a6 (x.v6, x.s, endOf x.s x.l)) rfl rfl (news_new _ _ _ _ rfl _ rfl) (enc3_one _ _ _) (by unfold maxLen; omega) (by omega) (by simp; omega) ?_
             intro v' w3 hown' hgrow hnil
             have hb3 : Below w.heap.size w w3 := Below.grown (((hbel.alloc (by omega) _).trans (k1.below.mono (by simp; omega))).alloc (by omega) _) hgrow (by simp; omega) (fun j hj => by have := (hown.lt _ hj).1; omega)
             clear hgrow hnil))
        go_roundw
        case rel => first | exact ⟨k + 1, by omega, by go_num, by rw [hvs]; simpa using hown', hb3⟩ | ((repeat apply Exists.intro); exact ⟨⟨k + 1, by omega, by go_num, by rw [hvs]; simpa using hown', hb3⟩, rfl⟩)
        case measure => simp [intOf]; omega
    · have hkn : n = k := by omega
      subst hkn
      rw [List.take_of_length_le (by omega)] at hown
      clear hlt hk
      have hml : (valid xs).length ≤ 1024 := by have := List.length_filterMap_le vOf xs; unfold valid; omega
      by_cases hm0 : (valid xs).length = 0
      · have hv0 : valid xs = [] := List.eq_nil_of_length_eq_zero hm0
        obtain ⟨p, cq, rfl⟩ : ∃ p cq, u3 = .slice p 0 cq := by
          rcases hown.2 with ⟨e, _⟩ | ⟨g', c', _, e, _⟩
          · exact ⟨_, _, e⟩
          · rw [hm0] at e; exact ⟨_, _, e⟩
        go_wp2_with fail
        obtain ⟨wo, rfl⟩ : ∃ wo : World, wo = wr := ⟨_, rfl⟩
        refine (sort17_none p cq _ wo).mono ?_
        rintro e1 w1 ⟨rfl, hw1⟩
        subst hw1
        go_wp2_with fail
        go_loopw [6, 8, 9, 30] (fun u _ _ i wq => u = .slice none 0 0 ∧ i = .int .i64 0 ∧ wq = w1) (fun _ _ _ _ _ => 0)
        case atStart => exact ⟨rfl, rfl, rfl⟩
        case round =>
          obtain ⟨rfl, rfl, hw2⟩ := hrel
          go_wp2
          go_ret
          subst hw2
          exact ⟨_, [], rfl, World.ownsRow_nil _ _ _ _, hbel, Norm.nil, fun t => by rw [hv0], by simp, by simp⟩
      · obtain ⟨gs, cp, cur, rfl, hgs, hcur, hcp, hmx, hcs, htk⟩ : ∃ g cap cur, u3 = .slice (some ⟨g, 0, none⟩) (valid xs).length cap ∧ w.heap.size ≤ g ∧ wr.heap[g]? = some (.cells cur 37 (0, 0)) ∧ (valid xs).length ≤ cap ∧ cap ≤ maxLen ∧ cur.size = cap * 6 ∧ cur.toList.take ((valid xs).length * 6) = (valid xs).flatMap (enc3 a4 a6) := by
          rcases hown.2 with ⟨_, h0⟩ | h
          · exact absurd h0 hm0
          · exact h
        have hso := sort17 (cap := cp) hz hbel hgs hcur htk hml
        go_wp2_with fail
        refine hso.mono ?_
        rintro e1 w1 ⟨rfl, V', hperm, hsorted, hrow, hbel1, hsz1⟩
        have hVl : V'.length = (valid xs).length := hperm.length_eq
        clear hso hown hcur hcs htk
        generalize hm : (valid xs).length = m at *
        have hmI : (m : Int) ≤ 1024 := by omega
        go_wp2_with fail
        have hgs1 : gs < w1.heap.size := by
          obtain ⟨x, hx⟩ : ∃ x, V'[0]? = some x := ⟨_, List.getElem?_eq_getElem (by omega)⟩
          have c := (hrow 0 x hx).1
          rcases Nat.lt_or_ge gs w1.heap.size with h | h
          · exact h
          · simp [World.cell?, Array.getElem?_eq_none h] at c
        obtain ⟨wo, rfl⟩ : ∃ wo : World, wo = wr := ⟨_, rfl⟩
        go_loopw [6, 8, 9, 30] (fun u _ _ i wq => ∃ (k : Nat) (L : List (Bool × Nat × Nat)), k ≤ m ∧ i = .int .i64 k ∧ Mrg V' k L ∧ wq.ownsRow w1.heap.size 37 6 u L.length (L.flatMap (enc3 a4 a6)) ∧ Rowed wq a4 a6 gs V' ∧ Below w.heap.size w wq ∧ w1.heap.size ≤ wq.heap.size) (fun _ _ _ i _ => m - (intOf i).toNat)
        case atStart => exact ⟨0, [], Nat.zero_le _, rfl, Mrg.start _, World.ownsRow_nil _ _ _ _, hrow, hbel1, Nat.le_refl _⟩
        case round =>
          obtain ⟨k, L, hk, rfl, hmg, hou, hrw, hbl, hsz⟩ := hrel
          by_cases hlt : k < m
          · obtain ⟨r, hr⟩ : ∃ r, V'[k]? = some r := ⟨_, List.getElem?_eq_getElem (by omega)⟩
            have hfr : Fit r := valid_fit xs h255 r (hperm.mem_iff.1 (List.mem_of_getElem? hr))
            obtain ⟨c0, c1, c2, c3, c4, c5⟩ := hrw k r hr
            have hlk := hmg.len
            rcases L.eq_nil_or_concat with rfl | ⟨M, last, hLM⟩
            · obtain ⟨p, cq, rfl⟩ : ∃ p cq, u6 = .slice p 0 cq := by
                rcases hou.2 with ⟨e, _⟩ | ⟨g', c', _, e, _⟩
                · exact ⟨_, _, e⟩
                · exact ⟨_, _, e⟩
              go_wp2_with fail
              go_quiet (fail)
              go_wp2_with (first
                | (at_builtin
                   refine wpList_append_own _ rfl _ _ 23 rfl w1.heap.size 37 i0 _ 6 48 Ybad.underlying23 hi hz0 hz1 hz2 rfl (by decide) (.slice p 0 cq) 0 [] rfl ((own_l hou (((Later.refl wr).alloc _).drewN _)).alloc _) ⟨wr.heap.size + 1, 0, none⟩ 1 1 (enc3 a4 a6 r) rfl rfl (news_new _ _ _ _ (by simp) _ rfl) (enc3_one _ _ _) (by unfold maxLen; omega) (by omega) (by simp; omega) ?_
                   intro v' w3 hown' hgrow hnil
                   have hb3 : Below w.heap.size w w3 := Below.grown (((hbl.alloc (by omega) _).trans (((Later.refl _).drewN _).below.mono (by simp; omega))).alloc (by simp; omega) _) hgrow (by simp; omega) (fun j hj => by have := (hou.lt _ hj).1; omega)
                   have hr3 : Rowed w3 a4 a6 gs V' := rowed_keep hrw ((hgrow.block gs (by simp; omega) (fun h => by have := (hou.lt _ h.symm).1; omega)).trans ((Below.heap_alloc _ _ _ (by simp; omega)).trans (Below.heap_alloc _ _ _ (by omega))))
                   have hs3 : w1.heap.size ≤ w3.heap.size := by have := hgrow.size; simp at this; omega
                   clear hgrow hnil))
              go_roundw
              case rel => first | exact ⟨k + 1, [r], by omega, by go_num, hmg.fresh hr hfr (by simp), by simpa using hown', hr3, hb3, hs3⟩ | ((repeat apply Exists.intro); exact ⟨⟨k + 1, [r], by omega, by go_num, hmg.fresh hr hfr (by simp), by simpa using hown', hr3, hb3, hs3⟩, rfl⟩)
              case measure => simp [intOf]; omega
            · rw [List.concat_eq_append] at hLM
              subst hLM
              obtain ⟨lv, lo, hi'⟩ := last
              obtain ⟨gu, cq, cur, rfl, hgu, hcu, hcq, hmq, hcz, htq⟩ : ∃ g cap cur, u6 = .slice (some ⟨g, 0, none⟩) (M.length + 1) cap ∧ w1.heap.size ≤ g ∧ wr.heap[g]? = some (.cells cur 37 (0, 0)) ∧ M.length + 1 ≤ cap ∧ cap ≤ maxLen ∧ cur.size = cap * 6 ∧ cur.toList.take ((M ++ [(lv, lo, hi')]).length * 6) = (M ++ [(lv, lo, hi')]).flatMap (enc3 a4 a6) := by
                rcases hou.2 with ⟨_, h0⟩ | ⟨g', c', cu', e, h1, h2, h3, h4, h5, h6⟩
                · simp at h0
                · exact ⟨g', c', cu', by simpa using e, h1, h2, by simpa using h3, h4, h5, h6⟩
              obtain ⟨l0, l1, l2, l3, l4, l5⟩ := rowed_of_holds (holds_of_own (base := 0) (cap := 0) hcu htq) M.length (lv, lo, hi') (by simp)
              have hfl := hmg.fit (lv, lo, hi') (by simp)
              have hMI : (M.length : Int) ≤ 1024 := by simp at hlk; omega
              have hI0 : (0 : Int) ≤ (M.length : Int) := by omega
              have hI1 : (M.length : Int) < (M.length : Int) + 1 := by omega
              have hI2 : IntKind.i64.wrap (M.length : Int) = (M.length : Int) := by rw [IntKind.wrap_i64]; omega
              have hck := cmp_key r.1 lv r.2.1 hi' (by have := hfr.1; have := hfr.2; omega) hfl.2
              have hS : ∀ wx, Later (wr.alloc (.cells #[.int .u64 (hiOf r.1), .int .u64 (loOf r.1 r.2.1), .pointer (hnd a4 a6 (hdOf r.1)), .int .u64 (hiOf r.1), .int .u64 (loOf r.1 r.2.2), .pointer (hnd a4 a6 (hdOf r.1))] 37)) wx →
                  wx.cell? ⟨wr.heap.size, 0, none⟩ = some (.int .u64 (hiOf r.1)) ∧ wx.cell? ⟨wr.heap.size, 1, none⟩ = some (.int .u64 (loOf r.1 r.2.1)) ∧ wx.cell? ⟨wr.heap.size, 2, none⟩ = some (.pointer (hnd a4 a6 (hdOf r.1))) ∧
                  wx.cell? ⟨wr.heap.size, 3, none⟩ = some (.int .u64 (hiOf r.1)) ∧ wx.cell? ⟨wr.heap.size, 4, none⟩ = some (.int .u64 (loOf r.1 r.2.2)) ∧ wx.cell? ⟨wr.heap.size, 5, none⟩ = some (.pointer (hnd a4 a6 (hdOf r.1))) ∧
                  wx.cell? ⟨gu, M.length * 6 + 3, none⟩ = some (.int .u64 (hiOf lv)) ∧ wx.cell? ⟨gu, M.length * 6 + 4, none⟩ = some (.int .u64 (loOf lv hi')) ∧ wx.cell? ⟨gu, M.length * 6 + 5, none⟩ = some (.pointer (hnd a4 a6 (hdOf lv))) := fun wx kx =>
                ⟨kx.cell (by simp [go_sem]), kx.cell (by simp [go_sem]), kx.cell (by simp [go_sem]), kx.cell (by simp [go_sem]), kx.cell (by simp [go_sem]), kx.cell (by simp [go_sem]), (((Later.refl wr).alloc _).trans kx).cell l3, (((Later.refl wr).alloc _).trans kx).cell l4, (((Later.refl wr).alloc _).trans kx).cell l5⟩
              have hzA : ∀ wx, Later (wr.alloc (.cells #[.int .u64 (hiOf r.1), .int .u64 (loOf r.1 r.2.1), .pointer (hnd a4 a6 (hdOf r.1)), .int .u64 (hiOf r.1), .int .u64 (loOf r.1 r.2.2), .pointer (hnd a4 a6 (hdOf r.1))] 37)) wx → Zs wx a4 a6 := fun wx kx => (hz.below hbl).later (((Later.refl wr).alloc _).trans kx)
              go_upto_region 14 with fail
              go_cut [30, 61] (fun i t wc => i = .int .i64 k ∧ t = .bool (decide ((key2 r).1 ≤ fam lv + hi' + 1)) ∧ Later (wr.alloc (.cells #[.int .u64 (hiOf r.1), .int .u64 (loOf r.1 r.2.1), .pointer (hnd a4 a6 (hdOf r.1)), .int .u64 (hiOf r.1), .int .u64 (loOf r.1 r.2.2), .pointer (hnd a4 a6 (hdOf r.1))] 37)) wc)
              case first =>
                by_cases h1 : fam lv + hi' < fam r.1 + r.2.1
                · rw [if_neg (by omega), if_pos h1] at hck
                  have gd := Ybad.guard35
                  have hr255 : r.2.1 ≤ 255 := by have := hfr.1; have := hfr.2; omega
                  have hl255 : hi' ≤ 255 := hfl.2
                  have hnx : ∀ wx, Zs wx a4 a6 → Calls Ybad.prog 20 #[.agg #[.int .u64 (hiOf lv), .int .u64 (loOf lv hi'), .pointer (hnd a4 a6 (hdOf lv))]] wx fun e w' => e = .returned (.agg #[.int .u64 (hiOf lv), .int .u64 (loOf lv hi' + 1), .pointer (hnd a4 a6 (hdOf lv))]) ∧ Later wx w' := fun wx hx => next lv hi' hfl.2 hx
                  by_cases ev : r.1 = lv
                  · have hpt : ∀ wx, Zs wx a4 a6 → (Op.equalIn 9998 31 (.pointer (hnd a4 a6 (hdOf r.1))) (.pointer (hnd a4 a6 (hdOf lv)))).run Ybad.prog wx = .ok true wx := fun wx hx => by
                      have := eqPtr hx (hdOf r.1) (hdOf lv) 9997
                      rw [ev] at this ⊢
                      simpa using this
                    have q1 : (hiOf r.1 == hiOf lv) = true := by rw [ev]; simp
                    have q1' : decide (hiOf r.1 = hiOf lv) = true := by rw [ev]; simp
                    by_cases h2 : r.2.1 = hi' + 1
                    · have q0 : loOf r.1 r.2.1 = loOf lv hi' + 1 := by rw [ev, h2]; cases lv <;> simp [loOf] <;> omega
                      have q2 : (loOf r.1 r.2.1 == loOf lv hi' + 1) = true := by rw [q0]; simp
                      have q2' : decide (loOf r.1 r.2.1 = loOf lv hi' + 1) = true := by rw [q0]; simp
                      have hev : Hid (r.1 = lv) := ev
                      have hh2 : Hid (r.2.1 = hi' + 1) := h2
                      clear q0 ev h2
                      have hSL := fun wx kx => (fun (h : _ ∧ _ ∧ _ ∧ _ ∧ _ ∧ _ ∧ _ ∧ _ ∧ _) => (⟨h.1, h.2.1, h.2.2.1, h.2.2.2.1, h.2.2.2.2.1, h.2.2.2.2.2.1, h.2.2.2.2.2.2.1, h.2.2.2.2.2.2.2.1, h.2.2.2.2.2.2.2.2, kx⟩ : _ ∧ _ ∧ _ ∧ _ ∧ _ ∧ _ ∧ _ ∧ _ ∧ _ ∧ _)) (hS wx kx)
                      have hpL := fun wx kx => hpt wx (hzA wx kx)
                      go_region_held3 (fun wx => wx.cell? ⟨wr.heap.size, 0, none⟩ = some (.int .u64 (hiOf r.1)) ∧ wx.cell? ⟨wr.heap.size, 1, none⟩ = some (.int .u64 (loOf r.1 r.2.1)) ∧ wx.cell? ⟨wr.heap.size, 2, none⟩ = some (.pointer (hnd a4 a6 (hdOf r.1))) ∧
                        wx.cell? ⟨wr.heap.size, 3, none⟩ = some (.int .u64 (hiOf r.1)) ∧ wx.cell? ⟨wr.heap.size, 4, none⟩ = some (.int .u64 (loOf r.1 r.2.2)) ∧ wx.cell? ⟨wr.heap.size, 5, none⟩ = some (.pointer (hnd a4 a6 (hdOf r.1))) ∧
                        wx.cell? ⟨gu, M.length * 6 + 3, none⟩ = some (.int .u64 (hiOf lv)) ∧ wx.cell? ⟨gu, M.length * 6 + 4, none⟩ = some (.int .u64 (loOf lv hi')) ∧ wx.cell? ⟨gu, M.length * 6 + 5, none⟩ = some (.pointer (hnd a4 a6 (hdOf lv))) ∧ Later (wr.alloc (.cells #[.int .u64 (hiOf r.1), .int .u64 (loOf r.1 r.2.1), .pointer (hnd a4 a6 (hdOf r.1)), .int .u64 (hiOf r.1), .int .u64 (loOf r.1 r.2.2), .pointer (hnd a4 a6 (hdOf r.1))] 37)) wx)
                        (first | exact hSL _ (Later.drew (Later.refl _)) | exact hSL _ (by assumption) | fail)
                        (first
                          | (go_at_call 19; with_reducible refine Calls.mono (compare _ _ _ _ _ _ (hzA _ (Later.drew (Later.refl _)))) ?_; rintro e1 w2 ⟨rfl, hk0⟩; have hk1 := (Later.drew (Later.refl _)).trans hk0; clear hk0; rw [hck])
                          | (go_at_call 20; with_reducible refine Calls.mono (hnx _ (hzA _ hk1)) ?_; rintro e1 w3 ⟨rfl, hk0⟩; have hk2 := hk1.trans hk0; clear hk0 hk1; have heq := hpt _ (hzA _ hk2))
                          | fail)
                      go_wp2
                      go_meet
                      case rel => exact ⟨rfl, congrArg Value.bool (decide_eq_true (by have ev := hev.out; have h2 := hh2.out; simp only [key2]; rw [ev]; omega)).symm, hk2⟩
                    · have q2 : ¬ loOf r.1 r.2.1 = loOf lv hi' + 1 := by rw [ev]; cases lv <;> simp [loOf] <;> omega
                      have hev : Hid (r.1 = lv) := ev
                      clear ev
                      go_region_held3 (fun wx => wx.cell? ⟨wr.heap.size, 0, none⟩ = some (.int .u64 (hiOf r.1)) ∧ wx.cell? ⟨wr.heap.size, 1, none⟩ = some (.int .u64 (loOf r.1 r.2.1)) ∧ wx.cell? ⟨wr.heap.size, 2, none⟩ = some (.pointer (hnd a4 a6 (hdOf r.1))) ∧
                        wx.cell? ⟨wr.heap.size, 3, none⟩ = some (.int .u64 (hiOf r.1)) ∧ wx.cell? ⟨wr.heap.size, 4, none⟩ = some (.int .u64 (loOf r.1 r.2.2)) ∧ wx.cell? ⟨wr.heap.size, 5, none⟩ = some (.pointer (hnd a4 a6 (hdOf r.1))) ∧
                        wx.cell? ⟨gu, M.length * 6 + 3, none⟩ = some (.int .u64 (hiOf lv)) ∧ wx.cell? ⟨gu, M.length * 6 + 4, none⟩ = some (.int .u64 (loOf lv hi')) ∧ wx.cell? ⟨gu, M.length * 6 + 5, none⟩ = some (.pointer (hnd a4 a6 (hdOf lv))))
                        (first | exact hS _ (Later.drew (Later.refl _)) | exact hS _ (by assumption) | fail)
                        (first
                          | (go_at_call 19; with_reducible refine Calls.mono (compare _ _ _ _ _ _ (hzA _ (Later.drew (Later.refl _)))) ?_; rintro e1 w2 ⟨rfl, hk0⟩; have hk1 := (Later.drew (Later.refl _)).trans hk0; clear hk0; rw [hck])
                          | (go_at_call 20; with_reducible refine Calls.mono (hnx _ (hzA _ hk1)) ?_; rintro e1 w3 ⟨rfl, hk0⟩; have hk2 := hk1.trans hk0; clear hk0 hk1; have heq := hpt _ (hzA _ hk2))
                          | fail)
                      go_wp2
                      go_meet
                      case rel => exact ⟨rfl, congrArg Value.bool (decide_eq_false (by have ev := hev.out; simp only [key2]; rw [ev] at h1 ⊢; omega)).symm, hk2⟩
                  · have hfm : fam r.1 ≠ fam lv := fun e => ev (fam_inj e)
                    have hb1 := fam_bd r.1
                    have hb2 := fam_bd lv
                    have hpt : ∀ wx, Zs wx a4 a6 → (Op.equalIn 9998 31 (.pointer (hnd a4 a6 (hdOf r.1))) (.pointer (hnd a4 a6 (hdOf lv)))).run Ybad.prog wx = .ok false wx := fun wx hx => by
                      have := eqPtr hx (hdOf r.1) (hdOf lv) 9997
                      have hne : ¬ hdOf r.1 = hdOf lv := fun e => ev (by cases h : r.1 <;> cases h' : lv <;> simp [h, h', hdOf] at e ⊢)
                      simpa [hne] using this
                    have q1 : ¬ hiOf r.1 = hiOf lv := fun e => ev (by cases h : r.1 <;> cases h' : lv <;> simp [h, h', hiOf] at e ⊢)
                    have q2 : ¬ loOf r.1 r.2.1 = loOf lv hi' + 1 := fun e => by
                      cases h : r.1 <;> cases h' : lv <;> simp [h, h', loOf] at e ev <;> omega
                    go_region_held3 (fun wx => wx.cell? ⟨wr.heap.size, 0, none⟩ = some (.int .u64 (hiOf r.1)) ∧ wx.cell? ⟨wr.heap.size, 1, none⟩ = some (.int .u64 (loOf r.1 r.2.1)) ∧ wx.cell? ⟨wr.heap.size, 2, none⟩ = some (.pointer (hnd a4 a6 (hdOf r.1))) ∧
                      wx.cell? ⟨wr.heap.size, 3, none⟩ = some (.int .u64 (hiOf r.1)) ∧ wx.cell? ⟨wr.heap.size, 4, none⟩ = some (.int .u64 (loOf r.1 r.2.2)) ∧ wx.cell? ⟨wr.heap.size, 5, none⟩ = some (.pointer (hnd a4 a6 (hdOf r.1))) ∧
                      wx.cell? ⟨gu, M.length * 6 + 3, none⟩ = some (.int .u64 (hiOf lv)) ∧ wx.cell? ⟨gu, M.length * 6 + 4, none⟩ = some (.int .u64 (loOf lv hi')) ∧ wx.cell? ⟨gu, M.length * 6 + 5, none⟩ = some (.pointer (hnd a4 a6 (hdOf lv))))
                      (first | exact hS _ (Later.drew (Later.refl _)) | exact hS _ (by assumption) | fail)
                      (first
                        | (go_at_call 19; with_reducible refine Calls.mono (compare _ _ _ _ _ _ (hzA _ (Later.drew (Later.refl _)))) ?_; rintro e1 w2 ⟨rfl, hk0⟩; have hk1 := (Later.drew (Later.refl _)).trans hk0; clear hk0; rw [hck])
                        | (go_at_call 20; with_reducible refine Calls.mono (hnx _ (hzA _ hk1)) ?_; rintro e1 w3 ⟨rfl, hk0⟩; have hk2 := hk1.trans hk0; clear hk0 hk1; have heq := hpt _ (hzA _ hk2))
                        | fail)
                    go_wp2
                    go_meet
                    case rel => exact ⟨rfl, congrArg Value.bool (decide_eq_false (by simp only [key2]; omega)).symm, hk2⟩
                · obtain ⟨c, hc, hc0⟩ : ∃ c : Int, cmpR (hiOf r.1) (loOf r.1 r.2.1) (hdOf r.1) (hiOf lv) (loOf lv hi') (hdOf lv) = c ∧ c ≤ 0 := by
                    refine ⟨_, hck, ?_⟩
                    split <;> simp [h1]
                  have hcd : decide (c ≤ 0) = true := decide_eq_true hc0
                  clear hck hc0
                  refine wp_region_held_drew (S := (fun wx => wx.cell? ⟨wr.heap.size, 0, none⟩ = some (.int .u64 (hiOf r.1)) ∧ wx.cell? ⟨wr.heap.size, 1, none⟩ = some (.int .u64 (loOf r.1 r.2.1)) ∧ wx.cell? ⟨wr.heap.size, 2, none⟩ = some (.pointer (hnd a4 a6 (hdOf r.1))) ∧
                     wx.cell? ⟨wr.heap.size, 3, none⟩ = some (.int .u64 (hiOf r.1)) ∧ wx.cell? ⟨wr.heap.size, 4, none⟩ = some (.int .u64 (loOf r.1 r.2.2)) ∧ wx.cell? ⟨wr.heap.size, 5, none⟩ = some (.pointer (hnd a4 a6 (hdOf r.1))) ∧
                     wx.cell? ⟨gu, M.length * 6 + 3, none⟩ = some (.int .u64 (hiOf lv)) ∧ wx.cell? ⟨gu, M.length * 6 + 4, none⟩ = some (.int .u64 (loOf lv hi')) ∧ wx.cell? ⟨gu, M.length * 6 + 5, none⟩ = some (.pointer (hnd a4 a6 (hdOf lv))))) (by kernel_rfl) (hS _ (Later.drew (Later.refl _))) (fun hHeld => ?_)
                  refine wpAnyH_take (i := 0) (oi := { dst := some 36, op := Op.move (Operand.tmp 9), type := 3, pos := _, after := #[], guard := none }) (v := .int .i64 ((M.length : Int) + 1)) rfl (by kernel_rfl) (by kernel_rfl) (by kernel_rfl) (fun _ _ _ h => h) (Or.inl ⟨by rfl, ?_⟩) (by assumption) ?_
                  · (intro w hSw; (try dsimp only at hSw); go_simp)
                  (try simp only [Act.put, List.setIfInBounds_toArray, List.set_cons_zero, List.set_cons_succ])
                  refine wpAnyH_take (i := 1) (oi := { dst := some 37, op := Op.binOp BinOp.gtr 3 (Operand.tmp 36) (Operand.const (Value.int IntKind.i64 0)) 3, type := 4, pos := _, after := #[{ on := 0, ground := Ground.data }], guard := none }) (v := .bool true) rfl (by kernel_rfl) (by kernel_rfl) (by kernel_rfl) (fun _ _ _ h => h) (Or.inl ⟨by rfl, ?_⟩) (by assumption) ?_
                  · (intro w hSw; (try dsimp only at hSw); go_simp)
                  (try simp only [Act.put, List.setIfInBounds_toArray, List.set_cons_zero, List.set_cons_succ])
                  refine wpAnyH_take (i := 2) (oi := { dst := some 38, op := Op.move (Operand.tmp 37), type := 4, pos := _, after := #[{ on := 1, ground := Ground.data }], guard := none }) (v := .bool true) rfl (by kernel_rfl) (by kernel_rfl) (by kernel_rfl) (fun _ _ _ h => h) (Or.inl ⟨by rfl, ?_⟩) (by assumption) ?_
                  · (intro w hSw; (try dsimp only at hSw); go_simp)
                  (try simp only [Act.put, List.setIfInBounds_toArray, List.set_cons_zero, List.set_cons_succ])
                  refine wpAnyH_take (i := 3) (oi := { dst := some 39, op := Op.fieldAddr 37 (Operand.tmp 8) 0, type := 0, pos := _, after := #[{ on := 2, ground := Ground.guard }], guard := some (2, true) }) (v := .pointer (some ⟨wr.heap.size, 0, none⟩)) rfl (by kernel_rfl) (by kernel_rfl) (by kernel_rfl) (fun _ _ _ h => h) (Or.inl ⟨by rfl, ?_⟩) (by assumption) ?_
                  · (intro w hSw; (try dsimp only at hSw); go_simp)
                  (try simp only [Act.put, List.setIfInBounds_toArray, List.set_cons_zero, List.set_cons_succ])
                  refine wpAnyH_take (i := 4) (oi := { dst := some 40, op := Op.load 35 (Operand.tmp 39), type := 35, pos := _, after := #[{ on := 3, ground := Ground.data }, { on := 2, ground := Ground.guard }], guard := some (2, true) }) (v := .agg #[.int .u64 (hiOf r.1), .int .u64 (loOf r.1 r.2.1), .pointer (hnd a4 a6 (hdOf r.1))]) rfl (by kernel_rfl) (by kernel_rfl) (by kernel_rfl) (fun _ _ _ h => h) (Or.inl ⟨by rfl, ?_⟩) (by assumption) ?_
                  · (intro w hSw; (try dsimp only at hSw); go_simp)
                  (try simp only [Act.put, List.setIfInBounds_toArray, List.set_cons_zero, List.set_cons_succ])
                  refine wpAnyH_take (i := 5) (oi := { dst := some 41, op := Op.move (Operand.tmp 6), type := 23, pos := _, after := #[{ on := 2, ground := Ground.guard }], guard := some (2, true) }) (v := .slice (some ⟨gu, 0, none⟩) (M.length + 1) cq) rfl (by kernel_rfl) (by kernel_rfl) (by kernel_rfl) (fun _ _ _ h => h) (Or.inl ⟨by rfl, ?_⟩) (by assumption) ?_
                  · (intro w hSw; (try dsimp only at hSw); go_simp)
                  (try simp only [Act.put, List.setIfInBounds_toArray, List.set_cons_zero, List.set_cons_succ])
                  refine wpAnyH_take (i := 6) (oi := { dst := some 42, op := Op.move (Operand.tmp 9), type := 3, pos := _, after := #[{ on := 2, ground := Ground.guard }], guard := some (2, true) }) (v := .int .i64 ((M.length : Int) + 1)) rfl (by kernel_rfl) (by kernel_rfl) (by kernel_rfl) (fun _ _ _ h => h) (Or.inl ⟨by rfl, ?_⟩) (by assumption) ?_
                  · (intro w hSw; (try dsimp only at hSw); go_simp)
                  (try simp only [Act.put, List.setIfInBounds_toArray, List.set_cons_zero, List.set_cons_succ])
                  refine wpAnyH_take (i := 7) (oi := { dst := some 43, op := Op.binOp BinOp.sub 3 (Operand.tmp 42) (Operand.const (Value.int IntKind.i64 1)) 3, type := 3, pos := _, after := #[{ on := 6, ground := Ground.data }, { on := 2, ground := Ground.guard }], guard := some (2, true) }) (v := .int .i64 (M.length : Int)) rfl (by kernel_rfl) (by kernel_rfl) (by kernel_rfl) (fun _ _ _ h => h) (Or.inl ⟨by rfl, ?_⟩) (by assumption) ?_
                  · (intro w hSw; (try dsimp only at hSw); go_simp)
                  (try simp only [Act.put, List.setIfInBounds_toArray, List.set_cons_zero, List.set_cons_succ])
                  refine wpAnyH_take (i := 8) (oi := { dst := some 44, op := Op.indexAddr 23 (Operand.tmp 41) (Operand.tmp 43), type := 0, pos := _, after := #[{ on := 5, ground := Ground.data }, { on := 7, ground := Ground.data }, { on := 2, ground := Ground.guard }], guard := some (2, true) }) (v := .pointer (some ⟨gu, M.length * 6, none⟩)) rfl (by kernel_rfl) (by kernel_rfl) (by kernel_rfl) (fun _ _ _ h => h) (Or.inl ⟨by rfl, ?_⟩) (by assumption) ?_
                  · (intro w hSw; (try dsimp only at hSw); go_simp)
                  (try simp only [Act.put, List.setIfInBounds_toArray, List.set_cons_zero, List.set_cons_succ])
                  refine wpAnyH_take (i := 9) (oi := { dst := some 45, op := Op.fieldAddr 37 (Operand.tmp 44) 1, type := 0, pos := _, after := #[{ on := 8, ground := Ground.data }, { on := 2, ground := Ground.guard }], guard := some (2, true) }) (v := .pointer (some ⟨gu, M.length * 6 + 3, none⟩)) rfl (by kernel_rfl) (by kernel_rfl) (by kernel_rfl) (fun _ _ _ h => h) (Or.inl ⟨by rfl, ?_⟩) (by assumption) ?_
                  · (intro w hSw; (try dsimp only at hSw); go_simp)
                  (try simp only [Act.put, List.setIfInBounds_toArray, List.set_cons_zero, List.set_cons_succ])
                  refine wpAnyH_take (i := 10) (oi := { dst := some 46, op := Op.load 35 (Operand.tmp 45), type := 35, pos := _, after := #[{ on := 9, ground := Ground.data }, { on := 2, ground := Ground.guard }], guard := some (2, true) }) (v := .agg #[.int .u64 (hiOf lv), .int .u64 (loOf lv hi'), .pointer (hnd a4 a6 (hdOf lv))]) rfl (by kernel_rfl) (by kernel_rfl) (by kernel_rfl) (fun _ _ _ h => h) (Or.inl ⟨by rfl, ?_⟩) (by assumption) ?_
                  · (intro w hSw; (try dsimp only at hSw); go_simp)
                  (try simp only [Act.put, List.setIfInBounds_toArray, List.set_cons_zero, List.set_cons_succ])
                  refine wpAnyH_ready (rs := [11]) (by kernel_rfl) (by simp) ?_
                  refine AllReadyH.cons (o := { dst := some 47, op := Op.call { callee := Callee.value (Operand.func 19), args := #[Operand.tmp 40, Operand.tmp 46], argTypes := #[35, 35] }, type := 3, pos := _, after := #[{ on := 4, ground := Ground.data }, { on := 10, ground := Ground.data }, { on := 2, ground := Ground.chain }, { on := 2, ground := Ground.guard }], guard := some (2, true) }) rfl (fun K hK => ?_) AllReadyH.nil
                  go_simp
                  with_reducible refine Calls.mono (compare _ _ _ _ _ _ (hzA _ (Later.drew (Later.refl _)))) ?_
                  rintro e1 w2 ⟨rfl, hk0⟩
                  have hk1 := (Later.drew (Later.refl _)).trans hk0
                  clear hk0
                  rw [hc]
                  go_wp2_with fail
                  clear hHeld
                  refine hK.out _ _ (hS _ hk1) (fun hHeld => ?_)
                  clear hK K
                  (try simp only [Act.put, List.setIfInBounds_toArray, List.set_cons_zero, List.set_cons_succ])
                  refine wpAnyH_take (i := 12) (oi := { dst := some 48, op := Op.binOp BinOp.leq 3 (Operand.tmp 47) (Operand.const (Value.int IntKind.i64 0)) 3, type := 4, pos := _, after := #[{ on := 11, ground := Ground.data }, { on := 2, ground := Ground.guard }], guard := some (2, true) }) (v := .bool true) rfl (by kernel_rfl) (by kernel_rfl) (by kernel_rfl) (fun _ _ _ h => h) (Or.inl ⟨by rfl, ?_⟩) (by assumption) ?_
                  · (intro w hSw; (try dsimp only at hSw); go_simp)
                  (try simp only [Act.put, List.setIfInBounds_toArray, List.set_cons_zero, List.set_cons_succ])
                  refine wpAnyH_take (i := 13) (oi := { dst := some 49, op := Op.move (Operand.tmp 48), type := 4, pos := _, after := #[{ on := 12, ground := Ground.data }, { on := 11, ground := Ground.chain }, { on := 2, ground := Ground.guard }], guard := some (2, true) }) (v := .bool true) rfl (by kernel_rfl) (by kernel_rfl) (by kernel_rfl) (fun _ _ _ h => h) (Or.inl ⟨by rfl, ?_⟩) (by assumption) ?_
                  · (intro w hSw; (try dsimp only at hSw); go_simp)
                  (try simp only [Act.put, List.setIfInBounds_toArray, List.set_cons_zero, List.set_cons_succ])
                  refine wpAnyH_skip (i := 14) (d := some 50) rfl rfl (by kernel_rfl) (by kernel_rfl) (by kernel_rfl) (fun _ _ _ h => h) (by rfl) (by assumption) ?_
                  (try simp only [Act.put, List.setIfInBounds_toArray, List.set_cons_zero, List.set_cons_succ])
                  refine wpAnyH_skip (i := 15) (d := some 51) rfl rfl (by kernel_rfl) (by kernel_rfl) (by kernel_rfl) (fun _ _ _ h => h) (by rfl) (by assumption) ?_
                  (try simp only [Act.put, List.setIfInBounds_toArray, List.set_cons_zero, List.set_cons_succ])
                  refine wpAnyH_skip (i := 16) (d := some 52) rfl rfl (by kernel_rfl) (by kernel_rfl) (by kernel_rfl) (fun _ _ _ h => h) (by rfl) (by assumption) ?_
                  (try simp only [Act.put, List.setIfInBounds_toArray, List.set_cons_zero, List.set_cons_succ])
                  refine wpAnyH_skip (i := 17) (d := some 53) rfl rfl (by kernel_rfl) (by kernel_rfl) (by kernel_rfl) (fun _ _ _ h => h) (by rfl) (by assumption) ?_
                  (try simp only [Act.put, List.setIfInBounds_toArray, List.set_cons_zero, List.set_cons_succ])
                  refine wpAnyH_skip (i := 18) (d := some 54) rfl rfl (by kernel_rfl) (by kernel_rfl) (by kernel_rfl) (fun _ _ _ h => h) (by rfl) (by assumption) ?_
                  (try simp only [Act.put, List.setIfInBounds_toArray, List.set_cons_zero, List.set_cons_succ])
                  refine wpAnyH_skip (i := 19) (d := some 55) rfl rfl (by kernel_rfl) (by kernel_rfl) (by kernel_rfl) (fun _ _ _ h => h) (by rfl) (by assumption) ?_
                  (try simp only [Act.put, List.setIfInBounds_toArray, List.set_cons_zero, List.set_cons_succ])
                  refine wpAnyH_skip (i := 20) (d := some 56) rfl rfl (by kernel_rfl) (by kernel_rfl) (by kernel_rfl) (fun _ _ _ h => h) (by rfl) (by assumption) ?_
                  (try simp only [Act.put, List.setIfInBounds_toArray, List.set_cons_zero, List.set_cons_succ])
                  refine wpAnyH_skip (i := 21) (d := some 57) rfl rfl (by kernel_rfl) (by kernel_rfl) (by kernel_rfl) (fun _ _ _ h => h) (by rfl) (by assumption) ?_
                  (try simp only [Act.put, List.setIfInBounds_toArray, List.set_cons_zero, List.set_cons_succ])
                  refine wpAnyH_skip (i := 22) (d := some 58) rfl rfl (by kernel_rfl) (by kernel_rfl) (by kernel_rfl) (fun _ _ _ h => h) (by rfl) (by assumption) ?_
                  (try simp only [Act.put, List.setIfInBounds_toArray, List.set_cons_zero, List.set_cons_succ])
                  refine wpAnyH_skip (i := 23) (d := some 59) rfl rfl (by kernel_rfl) (by kernel_rfl) (by kernel_rfl) (fun _ _ _ h => h) (by rfl) (by assumption) ?_
                  (try simp only [Act.put, List.setIfInBounds_toArray, List.set_cons_zero, List.set_cons_succ])
                  refine wpAnyH_take (i := 24) (oi := { dst := some 60, op := Op.pick (Operand.tmp 49) (Operand.const (Value.bool true)) (Operand.tmp 59), type := 4, pos := _, after := #[{ on := 13, ground := Ground.data }, { on := 23, ground := Ground.data }, { on := 2, ground := Ground.guard }], guard := some (2, true) }) (v := .bool true) rfl (by kernel_rfl) (by kernel_rfl) (by kernel_rfl) (fun _ _ _ h => h) (Or.inl ⟨by rfl, ?_⟩) (by assumption) ?_
                  · (intro w hSw; (try dsimp only at hSw); go_simp)
                  (try simp only [Act.put, List.setIfInBounds_toArray, List.set_cons_zero, List.set_cons_succ])
                  refine wpAnyH_take (i := 25) (oi := { dst := some 61, op := Op.pick (Operand.tmp 38) (Operand.tmp 60) (Operand.const (Value.bool false)), type := 4, pos := _, after := #[{ on := 2, ground := Ground.data }, { on := 24, ground := Ground.data }], guard := none }) (v := .bool true) rfl (by kernel_rfl) (by kernel_rfl) (by kernel_rfl) (fun _ _ _ h => h) (Or.inl ⟨by rfl, ?_⟩) (by assumption) ?_
                  · (intro w hSw; (try dsimp only at hSw); go_simp)
                  (try simp only [Act.put, List.setIfInBounds_toArray, List.set_cons_zero, List.set_cons_succ])
                  refine wpAnyH_done (by kernel_rfl) ?_ _
                  go_wp2
                  go_meet
                  case rel => exact ⟨rfl, congrArg Value.bool (decide_eq_true (by simp only [key2]; omega)).symm, hk1⟩
              case rest =>
                obtain ⟨rfl, rfl, kc⟩ := hcut
                have hstart : fam lv + lo ≤ (key2 r).1 := by
                  obtain ⟨i, y, hik, hy, hyk⟩ := hmg.from' (lv, lo, hi') (by simp)
                  have hfy : Fit y := valid_fit xs h255 y (hperm.mem_iff.1 (List.mem_of_getElem? hy))
                  have := key_le (hsorted i k y r hik hy hr) (by have := hfy.1; have := hfy.2; omega) (by have := hfr.1; have := hfr.2; omega)
                  rw [← hyk] at this
                  simpa [key2] using this
                have hszw : w.heap.size ≤ wr.heap.size := hbl.size
                have hgsr : gs < wr.heap.size := by omega
                by_cases ht : (key2 r).1 ≤ fam lv + hi' + 1
                · obtain ⟨hrv, hmeet⟩ := hmg.meet hr hfr hstart ht
                  rw [decide_eq_true ht]
                  by_cases hlong : hi' < r.2.2
                  · have hck2 : cmpR (hiOf r.1) (loOf r.1 r.2.2) (hdOf r.1) (hiOf lv) (loOf lv hi') (hdOf lv) = 1 := by
                      rw [cmp_key r.1 lv r.2.2 hi' hfr.2 hfl.2, hrv, if_neg (by omega), if_pos (by omega)]
                    have hrvH : Hid (r.1 = lv) := hrv
                    clear hck hrv
                    go_wp2_with fail
                    go_region_held3 (fun wx => wx.cell? ⟨wr.heap.size, 0, none⟩ = some (.int .u64 (hiOf r.1)) ∧ wx.cell? ⟨wr.heap.size, 1, none⟩ = some (.int .u64 (loOf r.1 r.2.1)) ∧ wx.cell? ⟨wr.heap.size, 2, none⟩ = some (.pointer (hnd a4 a6 (hdOf r.1))) ∧
                      wx.cell? ⟨wr.heap.size, 3, none⟩ = some (.int .u64 (hiOf r.1)) ∧ wx.cell? ⟨wr.heap.size, 4, none⟩ = some (.int .u64 (loOf r.1 r.2.2)) ∧ wx.cell? ⟨wr.heap.size, 5, none⟩ = some (.pointer (hnd a4 a6 (hdOf r.1))) ∧
                      wx.cell? ⟨gu, M.length * 6 + 3, none⟩ = some (.int .u64 (hiOf lv)) ∧ wx.cell? ⟨gu, M.length * 6 + 4, none⟩ = some (.int .u64 (loOf lv hi')) ∧ wx.cell? ⟨gu, M.length * 6 + 5, none⟩ = some (.pointer (hnd a4 a6 (hdOf lv))))
                      (first | exact hS _ (Later.drew kc) | exact hS _ (by assumption) | fail)
                      (first
                        | (go_at_call 19; with_reducible refine Calls.mono (compare _ _ _ _ _ _ (hzA _ (Later.drew kc))) ?_; rintro e1 w2 ⟨rfl, hk0⟩; have hk1 := (Later.drew kc).trans hk0; clear hk0; rw [hck2])
                        | fail)
                    obtain ⟨d0, d1, d2, d3, d4, d5, d6, d7, d8⟩ := hS _ hk1
                    have hcu2 := (((Later.refl wr).alloc _).trans hk1).blk hcu
                    have fz : ∀ o, w2.frozen? ⟨gu, o, none⟩ = false := fun o => by simp [World.frozen?, hcu2]
                    have hb2 : Below w.heap.size w w2 := hbl.trans ((((Later.refl wr).alloc _).trans hk1).below.mono hszw)
                    have hr2 : Rowed w2 a4 a6 gs V' := rowed_keep hrw ((((Later.refl wr).alloc _).trans hk1).below.block gs hgsr)
                    have hs2 : w1.heap.size ≤ w2.heap.size := Nat.le_trans hsz (((Later.refl wr).alloc _).trans hk1).below.size
                    go_wp2_with fail
                    have hl3 := own_longer (a4 := a4) (a6 := a6) (re := r.2.2) hgu hcu2 hcq hmq hcz htq
                    have hrv := hrvH.out
                    rw [hrv]
                    refine ⟨⟨k + 1, M ++ [(lv, lo, r.2.2)], by omega, by go_num, ?_, hl3, ?_, ?_, ?_⟩, by simp [intOf]; omega⟩
                    · rwa [show max hi' r.2.2 = r.2.2 by omega] at hmeet
                    · exact rowed_keep hr2 ((Below.heap_setCell _ _ _ _ (by simp; omega)).trans ((Below.heap_setCell _ _ _ _ (by simp; omega)).trans (Below.heap_setCell _ _ _ _ (by simp; omega))))
                    · exact ((hb2.setCell (by simp; omega) _).setCell (by simp; omega) _).setCell (by simp; omega) _
                    · simpa using hs2
                  · obtain ⟨c, hck2, hc0⟩ : ∃ c : Int, cmpR (hiOf r.1) (loOf r.1 r.2.2) (hdOf r.1) (hiOf lv) (loOf lv hi') (hdOf lv) = c ∧ ¬ 0 < c := by
                      refine ⟨_, rfl, ?_⟩
                      rw [cmp_key r.1 lv r.2.2 hi' hfr.2 hfl.2, hrv]
                      split
                      · omega
                      · rw [if_neg (by omega)]; omega
                    have hrvH : Hid (r.1 = lv) := hrv
                    have hcd : decide (0 < c) = false := decide_eq_false hc0
                    clear hck hrv hc0
                    go_wp2_with fail
                    go_region_held3 (fun wx => wx.cell? ⟨wr.heap.size, 0, none⟩ = some (.int .u64 (hiOf r.1)) ∧ wx.cell? ⟨wr.heap.size, 1, none⟩ = some (.int .u64 (loOf r.1 r.2.1)) ∧ wx.cell? ⟨wr.heap.size, 2, none⟩ = some (.pointer (hnd a4 a6 (hdOf r.1))) ∧
                      wx.cell? ⟨wr.heap.size, 3, none⟩ = some (.int .u64 (hiOf r.1)) ∧ wx.cell? ⟨wr.heap.size, 4, none⟩ = some (.int .u64 (loOf r.1 r.2.2)) ∧ wx.cell? ⟨wr.heap.size, 5, none⟩ = some (.pointer (hnd a4 a6 (hdOf r.1))) ∧
                      wx.cell? ⟨gu, M.length * 6 + 3, none⟩ = some (.int .u64 (hiOf lv)) ∧ wx.cell? ⟨gu, M.length * 6 + 4, none⟩ = some (.int .u64 (loOf lv hi')) ∧ wx.cell? ⟨gu, M.length * 6 + 5, none⟩ = some (.pointer (hnd a4 a6 (hdOf lv))))
                      (first | exact hS _ (Later.drew kc) | exact hS _ (by assumption) | fail)
                      (first
                        | (go_at_call 19; with_reducible refine Calls.mono (compare _ _ _ _ _ _ (hzA _ (Later.drew kc))) ?_; rintro e1 w2 ⟨rfl, hk0⟩; have hk1 := (Later.drew kc).trans hk0; clear hk0; rw [hck2])
                        | fail)
                    obtain ⟨d0, d1, d2, d3, d4, d5, d6, d7, d8⟩ := hS _ hk1
                    have hcu2 := (((Later.refl wr).alloc _).trans hk1).blk hcu
                    have fz : ∀ o, w2.frozen? ⟨gu, o, none⟩ = false := fun o => by simp [World.frozen?, hcu2]
                    have hb2 : Below w.heap.size w w2 := hbl.trans ((((Later.refl wr).alloc _).trans hk1).below.mono hszw)
                    have hr2 : Rowed w2 a4 a6 gs V' := rowed_keep hrw ((((Later.refl wr).alloc _).trans hk1).below.block gs hgsr)
                    have hs2 : w1.heap.size ≤ w2.heap.size := Nat.le_trans hsz (((Later.refl wr).alloc _).trans hk1).below.size
                    go_wp2_with fail
                    refine ⟨⟨k + 1, M ++ [(lv, lo, hi')], by omega, by go_num, ?_, own_l hou (((Later.refl wr).alloc _).trans hk1), hr2, hb2, hs2⟩, by simp [intOf]; omega⟩
                    rwa [show max hi' r.2.2 = hi' by omega] at hmeet
                · rw [decide_eq_false ht]
                  have hfar : ∀ p ∈ (M ++ [(lv, lo, hi')]).map key2, p.2 + 1 < (key2 r).1 := by
                    intro p hp
                    have hn := hmg.norm.apart
                    have hm : (M ++ [(lv, lo, hi')]).map key2 = M.map key2 ++ [(fam lv + lo, fam lv + hi')] := by simp [key2]
                    rw [hm] at hn hp
                    rcases List.mem_append.1 hp with h | h
                    · have := (List.pairwise_append.1 hn).2.2 p h _ (List.mem_singleton.2 rfl)
                      simp only at this
                      have := hfl.1
                      simp only at this
                      omega
                    · obtain rfl := List.mem_singleton.1 h
                      simp only
                      omega
                  have hfresh := hmg.fresh hr hfr hfar
                  obtain ⟨d0, d1, d2, d3, d4, d5, d6, d7, d8⟩ := hS _ kc
                  have hk2 := ((Later.refl wr).alloc _).trans kc
                  have hlen : (M ++ [(lv, lo, hi')]).length = M.length + 1 := by simp
                  have hszc : wr.heap.size ≤ wc.heap.size := hk2.below.size
                  rw [hlen] at hou
                  clear hck hfar
                  go_wp2_with (first
                    | (at_builtin
                       refine wpList_append_own _ rfl _ _ 23 rfl w1.heap.size 37 i0 _ 6 48 Ybad.underlying23 hi hz0 hz1 hz2 rfl (by decide) (.slice (some ⟨gu, 0, none⟩) (M.length + 1) cq) (M.length + 1) ((M ++ [(lv, lo, hi')]).flatMap (enc3 a4 a6)) rfl ((own_l hou hk2).alloc _) ⟨wc.heap.size, 0, none⟩ 1 1 (enc3 a4 a6 r) rfl rfl (news_new _ _ _ _ (by simp) _ rfl) (enc3_one _ _ _) (by unfold maxLen; omega) (by omega) (by simp; omega) ?_
                       intro v' w3 hown' hgrow hnil
                       have hb3 : Below w.heap.size w w3 := Below.grown ((hbl.trans (hk2.below.mono hszw)).alloc (by omega) _) hgrow (by simp; omega) (fun j hj => by have := (hou.lt _ hj).1; omega)
                       have hr3 : Rowed w3 a4 a6 gs V' := rowed_keep hrw ((hgrow.block gs (by simp; omega) (fun h => by have := (hou.lt _ h.symm).1; omega)).trans ((Below.heap_alloc _ _ _ (by omega)).trans (hk2.below.block gs hgsr)))
                       have hs3 : w1.heap.size ≤ w3.heap.size := by have := hgrow.size; simp at this; omega
                       clear hgrow hnil))
                  exact ⟨⟨k + 1, M ++ [(lv, lo, hi')] ++ [r], by omega, by go_num, hfresh, by simpa using hown', hr3, hb3, hs3⟩, by simp [intOf]; omega⟩
          · have hkm : m = k := by omega
            subst hkm
            go_wp2
            go_ret
            refine ⟨_, L, rfl, own_base hou hbel1.size, hbl, hmg.norm, fun t => ?_, hmg.fit, by have := hmg.len; omega⟩
            rw [hmg.cov, List.take_of_length_le (by omega)]
            exact cov_perm (fun p => by simp only [List.mem_map, hperm.mem_iff]) t
end Go.Proofs.YbulkingDoor
