/-
  The walk of LawS0460BClaimFirst.
-/
import Derived.Test.YbulkimsGrow
import Derived.Deep.DeepCutAuto
import Derived.Deep.CutBlock
namespace Go.Proofs.Ybulkims
open Go.RowKit

theorem Yba.info24 : (Yba.prog.info? 24).map (fun i => (i.zero, i.size, i.bytes)) = some (some (.pointer none), 1, 8) := by kernel_rfl
theorem Yba.info29 : (Yba.prog.info? 29).map (fun i => (i.zero, i.size, i.bytes)) = some (some (.int .u64 0), 1, 8) := by kernel_rfl

/-- The specs as they lie in the argument's memory. -/
structure Specs (w : World) (b off L : Nat) (d : Dat) : Prop where
  c0 : ∀ i, i < L → w.cell? ⟨b, off + i * 4, none⟩ = some (.bool (d.sh i))
  c1 : ∀ i, i < L → w.cell? ⟨b, off + i * 4 + 1, none⟩ = some (.int .u8 (d.off i))
  c2 : ∀ i, i < L → w.cell? ⟨b, off + i * 4 + 2, none⟩ = some (.int .u64 (d.T i))
  c3 : ∀ i, i < L → w.cell? ⟨b, off + i * 4 + 3, none⟩ = some (.int .i64 (d.I i))

theorem Specs.of_below {w0 w : World} {b off L : Nat} {d : Dat} (h : Specs w0 b off L d) (hb : 0 < L → b < w0.heap.size) (hbl : Below w0.heap.size w0 w) : Specs w b off L d :=
  ⟨fun i hi => (hbl.cell (p := ⟨b, _, none⟩) (hb (by omega))).trans (h.c0 i hi), fun i hi => (hbl.cell (p := ⟨b, _, none⟩) (hb (by omega))).trans (h.c1 i hi), fun i hi => (hbl.cell (p := ⟨b, _, none⟩) (hb (by omega))).trans (h.c2 i hi), fun i hi => (hbl.cell (p := ⟨b, _, none⟩) (hb (by omega))).trans (h.c3 i hi)⟩

/-- The waiter at which the law's third loop stands; the one ahead of it. -/
def curAt (Q L j : Nat) : Value := if j < L then pt (Q + 5 + 3 * j) else .pointer none
def prevAt (Q st j : Nat) : Value := if st < j then pt (Q + 5 + 3 * (j - 1)) else .pointer none

set_option maxHeartbeats 3200000 in
set_option maxRecDepth 100000 in
theorem law_short (sa : Option Addr) (b off L cap : Nat) (d : Dat) (w : World) (hsa : 0 < L → sa = some ⟨b, off, none⟩) (hL : L ≤ 300) (ok : d.ok L) (hb : 0 < L → b < w.heap.size) (hsp : Specs w b off L d) :
    Calls Yba.prog 3 #[.slice sa L cap] w fun r w' => r = .returned (.bool true) ∧ Below w.heap.size w w' := by
  have hL' : (L : Int) ≤ 300 := by omega
  have hgt : decide ((300 : Int) < L) = false := by simp; omega
  obtain ⟨i0, hi, hz0, hz1, hz2⟩ := info_parts Yba.info24
  obtain ⟨i1, gi, gz0, gz1, gz2⟩ := info_parts Yba.info29
  have hmk := fun wx => run_make (P := Yba.prog) wx 27 24 i0 (.pointer none) Yba.underlying27 hi hz0 .i64 .i64 L L (by omega) (by omega) (by rw [hz2]; omega) (by omega)
  have hmk2 := fun wx => run_make (P := Yba.prog) wx 28 29 i1 (.int .u64 0) Yba.underlying28 gi gz0 .i64 .i64 L L (by omega) (by omega) (by rw [gz2]; omega) (by omega)
  simp only [Int.toNat_natCast] at hmk hmk2
  go_enter Yba.func3, Yba.ntmps3
  go_wp2
  clear hmk hmk2
  go_loopw [7] (fun i wr => ∃ j : Nat, j ≤ L ∧ i = .int .i64 j ∧ Lay w w.heap.size L j d (chain w.heap.size 0 j d.st (fun _ => -7)) wr) (fun i _ => L - (intOf i).toNat)
  case atStart =>
    exact ⟨0, Nat.zero_le _, rfl, lay_start w L d⟩
  case round =>
    obtain ⟨j, hj, rfl, hl⟩ := hrel
    by_cases hlt : j < L
    · obtain rfl := hsa (by omega)
      have hs := hsp.of_below hb hl.bel
      have c0 := hs.c0 j hlt
      have c1 := hs.c1 j hlt
      have c2 := hs.c2 j hlt
      have c3 := hs.c3 j hlt
      have hws := hl.ws j hlt
      have hst : wr.cell? ⟨w.heap.size + 1 + 1, j, none⟩ = _ := hl.st j hlt
      simp only [Nat.lt_irrefl, if_false] at hws hst
      have fws := hl.fz (w.heap.size + 1) j (by omega)
      have fst := hl.fz (w.heap.size + 1 + 1) j (by omega)
      have hsz1 : w.heap.size + 1 < wr.heap.size := by rw [hl.sz]; omega
      have hsz2 : w.heap.size + 1 + 1 < wr.heap.size := by rw [hl.sz]; omega
      have bel := hl.bel.size
      have bo := ok.off j hlt
      have bT := ok.T j hlt
      go_wp2_with fail
      go_region_held3 (fun w' => w'.cell? ⟨w.heap.size + 1 + 1, j, none⟩ = some (.int .u64 (IntKind.u64.wrap (d.T j + d.off j % 3))))
        (first | exact (by assumption : Mid w w.heap.size L j d wr _).st | exact (by simp [go_sem, hst, hsz2, hsz1]))
        (first | (go_at_call 4; refine (store_any (wr.heap.size + 1) 0 (.int .u64 0) _ _ ?_ ?_).mono ?_; exact (by simp [go_sem]); exact (by simp [go_sem]); rintro e w' ⟨rfl, hw⟩; have M : Mid w w.heap.size L j d wr w' := mid_of hlt hl _ _ _ (by rfl) (by rfl) (by rfl) (by rfl) (by rfl) w' hw; clear hw))
      have m2 := M.sp2
      have m3 := M.sp3
      rw [show w.heap.size + 3 + 3 * j = wr.heap.size from hl.sz.symm] at m2 m3
      have mws := M.old _ _ _ hws (by omega)
      have mfz := M.fz (w.heap.size + 1) j (by omega)
      have msz : w.heap.size + 1 < w'.heap.size := by rw [M.sz]; omega
      have msz2 : wr.heap.size < w'.heap.size := by rw [M.sz, hl.sz]; omega
      clear c0 c1 c2 c3 hws hst fws fst
      go_wp2_with fail
      have e5 := M.sz
      have e4 : wr.heap.size + 1 = w.heap.size + 4 + 3 * j := by have := hl.sz; omega
      rw [e5, e4]
      refine (push_lay (Q := w.heap.size) (w0 := w) (L := L) (d := d) (state := d.st) (chosen := fun _ => -7) j (by omega) ?_).mono ?_
      · exact M.grow hlt hl _ (by rfl) (by rfl) (by rfl) (by rfl) (by rfl)
      rintro r w2 ⟨rfl, hl2⟩
      clear e5 e4 m2 m3 mws mfz msz msz2 hsz1 hsz2 bel M hl hs
      go_wp2
      go_roundw
      case rel => exact ⟨j + 1, by omega, by go_num, hl2⟩
      case measure => simp [intOf]; omega
    · have e : L = j := by omega
      subst e
      clear hlt hj
      have hs := hsp.of_below hb hl.bel
      go_upto_block 2 with fail
      go_cut [11] (fun t wc => wc = wr ∧ ∃ k : Nat, t = .int .i64 k ∧ d.First L k)
      case first =>
        go_wp2_with fail
        go_loop [11, 12] (fun t i => t = .int .i64 L ∧ ∃ k : Nat, k ≤ L ∧ i = .int .i64 k ∧ ∀ i, i < k → ¬ d.hit i) (fun _ i => L - (intOf i).toNat)
        case atStart => exact ⟨rfl, 0, Nat.zero_le _, rfl, fun i hi => by omega⟩
        case round =>
          obtain ⟨rfl, k, hk, rfl, hno⟩ := hrel
          by_cases hlt : k < L
          · obtain rfl := hsa (by omega)
            have c0 := hs.c0 k hlt
            have c1 := hs.c1 k hlt
            have bo := ok.off k hlt
            cases hsh : d.sh k with
            | false =>
              rw [hsh] at c0
              have hh : d.hit k := .inl hsh
              clear hsh
              go_wp2
              go_meet
              case rel => exact ⟨rfl, k, rfl, hk, fun _ => hh, hno⟩
            | true =>
              rw [hsh] at c0
              by_cases ho : d.off k % 3 = 0
              · have hh : d.hit k := .inr ho
                have ho' : (d.off k % 3 == 0) = true := by simp [ho]
                clear hsh ho
                go_wp2
                go_meet
                case rel => exact ⟨rfl, k, rfl, hk, fun _ => hh, hno⟩
              · have hh : ¬ d.hit k := by
                  rintro (h | h)
                  · rw [hsh] at h; cases h
                  · exact ho h
                have ho' : (d.off k % 3 == 0) = false := by simp [ho]
                have hno' : ∀ i, i < k + 1 → ¬ d.hit i := fun i hi => by
                  by_cases e : i = k
                  · rw [e]; exact hh
                  · exact hno i (by omega)
                clear hsh ho
                go_wp2
                go_round
                case rel => exact ⟨rfl, k + 1, by omega, by go_num, hno'⟩
                case measure => simp [intOf]; omega
          · have e : k = L := by omega
            subst e
            go_wp2
            go_meet
            case rel => exact ⟨rfl, k, rfl, hk, fun h => absurd h (by omega), hno⟩
      case rest =>
        obtain ⟨rfl, k, rfl, hF⟩ := hcut
        go_upto_if 105 with (go_at_call 6; refine (first_at (by omega) ok hF hl).mono ?_; rintro e w2 ⟨rfl, hl2⟩)
        clear hl hs
        have hnq := neq_same
        go_cut [13, 14] (fun _ t wc => w2 = wc ∧ t = .int .i64 (startAt L k))
        case first =>
          by_cases hlt : k < L
          · have hg : gotAt w.heap.size L k = pt (w.heap.size + 5 + 3 * k) := by simp [gotAt, hlt]
            have he : ((k : Int) == (L : Int)) = false := by simp; omega
            have cw := hl2.ws k hlt
            rw [if_pos hlt] at cw
            rw [hg]
            go_wp2
            go_meet
            case rel => exact ⟨rfl, by simp [startAt, hlt]⟩
          · have hg : gotAt w.heap.size L k = .pointer none := by simp [gotAt, hlt]
            have he : ((k : Int) == (L : Int)) = true := by have := hF.le; simp; omega
            rw [hg]
            go_wp2
            go_meet
            case rel => exact ⟨rfl, by simp [startAt, hlt]⟩
        case rest =>
          obtain ⟨rfl, rfl⟩ := hcut
          have hst : startAt L k ≤ L := by unfold startAt; split <;> omega
          generalize startAt L k = st at *
          have q0 := hl2.q0
          have q1 := hl2.q1
          have q2 := hl2.q2
          have q0' : w2.cell? ⟨w.heap.size, 0, none⟩ = some (curAt w.heap.size L st) := q0
          have q1' : w2.cell? ⟨w.heap.size, 1, none⟩ = some (prevAt w.heap.size st L) := q1
          have q2' : w2.cell? ⟨w.heap.size, 2, none⟩ = some (.int .i64 ((L : Int) - st)) := q2
          have hstI : (st : Int) ≤ (L : Int) := by omega
          clear q0 q1 q2
          go_wp2
          go_loop [15, 16, 17] (fun pr cu i => ∃ j : Nat, st ≤ j ∧ j ≤ L ∧ i = .int .i64 j ∧ cu = curAt w.heap.size L j ∧ pr = prevAt w.heap.size st j) (fun _ _ i => L - (intOf i).toNat)
          case atStart => exact ⟨st, Nat.le_refl _, hst, rfl, rfl, by simp [prevAt]⟩
          case round =>
            obtain ⟨j, hj1, hj2, rfl, rfl, rfl⟩ := hrel
            by_cases hlt : j < L
            · have cw := hl2.ws j hlt
              rw [if_pos hlt] at cw
              have hcu : curAt w.heap.size L j = pt (w.heap.size + 5 + 3 * j) := by simp [curAt, hlt]
              have cp : w2.cell? ⟨w.heap.size + 5 + 3 * j, 0, none⟩ = some (prevAt w.heap.size st j) := by
                rw [hl2.n0 j hlt]; simp only [chain, prevAt]
                by_cases e : st < j
                · rw [if_pos ⟨e, hlt⟩, if_pos e]
                · rw [if_neg (by omega), if_neg e]
              have cn : w2.cell? ⟨w.heap.size + 5 + 3 * j, 1, none⟩ = some (curAt w.heap.size L (j + 1)) := by
                rw [hl2.n1 j hlt]; simp only [chain, curAt]
                by_cases e : j + 1 < L
                · rw [if_pos ⟨hj1, e⟩, if_pos e]
                · rw [if_neg (by omega), if_neg e]
              have hnx : prevAt w.heap.size st (j + 1) = pt (w.heap.size + 5 + 3 * j) := by simp only [prevAt]; rw [if_pos (by omega)]; rfl
              rw [hcu]
              by_cases e : st < j
              · have hp : prevAt w.heap.size st j = pt (w.heap.size + 5 + 3 * (j - 1)) := by simp [prevAt, e]
                rw [hp] at cp
                rw [hp]
                clear hcu hp
                go_wp2
                go_round
                case rel => exact ⟨j + 1, by omega, by omega, by go_num, rfl, hnx.symm⟩
                case measure => simp [intOf]; omega
              · have hp : prevAt w.heap.size st j = .pointer none := by simp [prevAt, e]
                rw [hp] at cp
                rw [hp]
                clear hcu hp
                go_wp2
                go_round
                case rel => exact ⟨j + 1, by omega, by omega, by go_num, rfl, hnx.symm⟩
                case measure => simp [intOf]; omega
            · have e : L = j := by omega
              subst e
              clear q2' q0' hst hj1 hj2 hlt
              go_upto_region 42 with fail
              go_cut [15, 16, 162] (fun _ _ t wc => w2 = wc ∧ t = .bool false)
              case first =>
                have hce : curAt w.heap.size L L = .pointer none := by simp [curAt]
                rw [hce]
                by_cases e : st < L
                · have hp : prevAt w.heap.size st L = pt (w.heap.size + 5 + 3 * (L - 1)) := by simp [prevAt, e]
                  rw [hp] at q1'
                  rw [hp]
                  go_wp2
                  go_meet
                  case rel => exact ⟨rfl, rfl⟩
                · have hp : prevAt w.heap.size st L = .pointer none := by simp [prevAt, e]
                  rw [hp] at q1'
                  rw [hp]
                  go_wp2
                  go_meet
                  case rel => exact ⟨rfl, rfl⟩
              case rest =>
                obtain ⟨rfl, rfl⟩ := hcut
                clear q1' hnq
                have hs := hsp.of_below hb hl2.bel
                have hbel := hl2.bel
                go_wp2
                go_loop [18] (fun i => ∃ j : Nat, j ≤ L ∧ i = .int .i64 j) (fun i => L - (intOf i).toNat)
                case atStart => exact ⟨0, Nat.zero_le _, rfl⟩
                case round =>
                  obtain ⟨j, hj, rfl⟩ := hrel
                  by_cases hlt : j < L
                  · obtain rfl := hsa (by omega)
                    have cw := hl2.ws j hlt
                    rw [if_pos hlt] at cw
                    have ct : w2.cell? ⟨w.heap.size + 1 + 1, j, none⟩ = _ := hl2.st j hlt
                    rw [if_pos hlt] at ct
                    have c4 := hl2.n4 j hlt
                    have s0 : w2.cell? ⟨w.heap.size + 4 + 3 * j, 0, none⟩ = some (.int .u64 (d.stAt k j)) := hl2.s0 j hlt
                    have s2 : w2.cell? ⟨w.heap.size + 4 + 3 * j, 2, none⟩ = some (.int .i64 (d.chAt k j)) := hl2.s2 j hlt
                    have p0 : j < st → w2.cell? ⟨w.heap.size + 5 + 3 * j, 0, none⟩ = some (.pointer none) := fun e => by
                      rw [hl2.n0 j hlt]; simp only [chain]; rw [if_neg (by omega)]
                    have p1 : j < st → w2.cell? ⟨w.heap.size + 5 + 3 * j, 1, none⟩ = some (.pointer none) := fun e => by
                      rw [hl2.n1 j hlt]; simp only [chain]; rw [if_neg (by omega)]
                    have c0 := hs.c0 j hlt
                    have c2 := hs.c2 j hlt
                    have c3 := hs.c3 j hlt
                    go_upto_region 48 with fail
                    go_cut [188] (fun t wc => w2 = wc ∧ t = .bool false)
                    case first =>
                      by_cases e : j < st
                      · have p0' := p0 e
                        have p1' := p1 e
                        go_wp2
                        go_meet
                        case rel => exact ⟨rfl, rfl⟩
                      · have e' : decide ((j : Int) < (st : Int)) = false := by simp; omega
                        go_wp2
                        go_meet
                        case rel => exact ⟨rfl, rfl⟩
                    case rest =>
                      obtain ⟨rfl, rfl⟩ := hcut
                      clear p0 p1
                      by_cases ek : j = k
                      · subst ek
                        cases hsh : d.sh j with
                        | true =>
                          rw [hsh] at c0
                          have v0 : d.stAt j j = IntKind.u64.wrap (d.T j + 1) := by simp [Dat.stAt, hsh]
                          have v2 : d.chAt j j = d.I j := by simp [Dat.chAt]
                          rw [v0] at s0
                          rw [v2] at s2
                          clear v0 v2 hsh
                          go_wp2_with (go_at_call 7; refine (load_any _ 0 _ _ s0).mono ?_; rintro e w3 ⟨rfl, rfl⟩)
                          go_round
                          case rel => exact ⟨j + 1, by omega, by go_num⟩
                          case measure => simp [intOf]; omega
                        | false =>
                          rw [hsh] at c0
                          have v0 : d.stAt j j = d.st j := by simp [Dat.stAt, hsh]
                          have v2 : d.chAt j j = d.I j := by simp [Dat.chAt]
                          rw [v0] at s0
                          rw [v2] at s2
                          clear v0 v2 hsh
                          go_wp2_with (go_at_call 7; refine (load_any _ 0 _ _ s0).mono ?_; rintro e w3 ⟨rfl, rfl⟩)
                          go_round
                          case rel => exact ⟨j + 1, by omega, by go_num⟩
                          case measure => simp [intOf]; omega
                      · have v0 : d.stAt k j = d.st j := by simp [Dat.stAt, ek]
                        have v2 : d.chAt k j = -7 := by simp [Dat.chAt, ek]
                        rw [v0] at s0
                        rw [v2] at s2
                        have ek' : ((j : Int) == (k : Int)) = false := by simp; omega
                        clear v0 v2 ek
                        go_wp2_with (go_at_call 7; refine (load_any _ 0 _ _ s0).mono ?_; rintro e w3 ⟨rfl, rfl⟩)
                        go_round
                        case rel => exact ⟨j + 1, by omega, by go_num⟩
                        case measure => simp [intOf]; omega
                  · go_wp2
                    go_ret
                    exact ⟨rfl, hbel⟩

set_option maxHeartbeats 800000 in
set_option maxRecDepth 100000 in
theorem law_long (sa : Option Addr) (L cap : Nat) (w : World) (h : 300 < L) (hm : L ≤ maxLen) :
    Calls Yba.prog 3 #[.slice sa L cap] w fun r w' => r = .returned (.bool true) ∧ Below w.heap.size w w' := by
  unfold maxLen at hm
  have h' : (300 : Int) < L := by omega
  go_enter Yba.func3, Yba.ntmps3
  go_wp2
  go_ret
  exact ⟨rfl, Below.refl _ _⟩
end Go.Proofs.Ybulkims
