/-
  zzs0461bmodel: the covered addresses and their runs.
-/
import Derived.Test.YbulkingDoorBuild
import Derived.Test.YbulkingDoorRuns
namespace Go.Proofs.YbulkingDoor
open Go.RowKit Go.Shelf
set_option linter.unusedVariables false
set_option linter.unusedSimpArgs false

variable {w : World} {a4 a6 : Addr}

def fOf (v6 : Bool) : Nat := if v6 then 1 else 0
def inSp (x : Spn) (t : Nat) : Bool := !x.sk && decide (fOf x.v6 * 256 + x.s ≤ t ∧ t ≤ fOf x.v6 * 256 + endOf x.s x.l)
def covB (ys : List Spn) (t : Nat) : Bool := ys.any fun x => inSp x t

/-- The block of the 512 flags. -/
def CovIs (wr : World) (c : Nat) (p : Nat → Bool) : Prop := ∃ A : Array Value, wr.heap[c]? = some (.cells A 73 (0, 0)) ∧ A.size = 512 ∧ ∀ t, t < 512 → A[t]? = some (.bool (p t))

theorem CovIs.cell {wr : World} {c : Nat} {p : Nat → Bool} (h : CovIs wr c p) (t : Nat) (ht : t < 512) : wr.cell? ⟨c, t, none⟩ = some (.bool (p t)) := by
  obtain ⟨A, h1, h2, h3⟩ := h
  simp [World.cell?, h1, h3 t ht]
theorem CovIs.fz {wr : World} {c : Nat} {p : Nat → Bool} (h : CovIs wr c p) (t : Nat) : wr.frozen? ⟨c, t, none⟩ = false := by
  obtain ⟨A, h1, h2, h3⟩ := h
  simp [World.frozen?, h1]
theorem CovIs.set {wr : World} {c : Nat} {p : Nat → Bool} (h : CovIs wr c p) (t : Nat) (ht : t < 512) : CovIs (wr.setCell ⟨c, t, none⟩ (.bool true)) c (fun u => p u || decide (u = t)) := by
  obtain ⟨A, h1, h2, h3⟩ := h
  refine ⟨_, heap_set t (.bool true) h1, by simpa using h2, fun u hu => ?_⟩
  by_cases e : u = t
  · subst e; simp [h2, hu]
  · rw [Array.getElem?_setIfInBounds_ne (by omega), h3 u hu]; simp [e]
theorem CovIs.of {wr wx : World} {c : Nat} {p : Nat → Bool} (h : CovIs wr c p) (e : wx.heap[c]? = wr.heap[c]?) : CovIs wx c p := by
  obtain ⟨A, h1, h2⟩ := h
  exact ⟨A, e.trans h1, h2⟩
theorem CovIs.later {wr wx : World} {c : Nat} {p : Nat → Bool} (h : CovIs wr c p) (k : Later wr wx) : CovIs wx c p := by
  obtain ⟨A, h1, h2⟩ := h
  exact ⟨A, k.blk h1, h2⟩
theorem CovIs.eq {wr : World} {c : Nat} {p q : Nat → Bool} (h : CovIs wr c p) (e : ∀ t, t < 512 → p t = q t) : CovIs wr c q := by
  obtain ⟨A, h1, h2, h3⟩ := h
  exact ⟨A, h1, h2, fun t ht => by rw [h3 t ht, e t ht]⟩

theorem covB_snoc (xs : List Spn) (k : Nat) (x : Spn) (h : xs[k]? = some x) (t : Nat) : covB (xs.take (k + 1)) t = (covB (xs.take k) t || inSp x t) := by
  rw [List.take_add_one, h]
  simp [covB]

theorem none_between (p : Bool) (a t : Nat) : (p || decide (a ≤ t ∧ t < a)) = p := by
  have : decide (a ≤ t ∧ t < a) = false := by simp
  rw [this, Bool.or_false]

theorem zero73 : Ybad.zeroCells73 = Array.replicate 512 (.bool false) := by kernel_rfl
theorem cov_start (w : World) (p : Nat → Bool) (hp : ∀ t, p t = false) : CovIs (w.alloc (.cells Ybad.zeroCells73 73)) w.heap.size p :=
  ⟨_, heap_alloc_new w _, by rw [zero73]; simp, fun t ht => by rw [zero73]; simp [ht, hp]⟩

theorem own_l {wr wx : World} {base k : Nat} {v : Value} {xs : List Value} (h : wr.ownsRow base 37 6 v k xs) (hk : Later wr wx) : wx.ownsRow base 37 6 v k xs := by
  refine ⟨h.1, ?_⟩
  rcases h.2 with h' | ⟨g, cap, cur, e1, e2, e3, e4⟩
  · exact .inl h'
  · exact .inr ⟨g, cap, cur, e1, e2, hk.blk e3, e4⟩

set_option maxHeartbeats 3200000 in
set_option maxRecDepth 100000 in
theorem model10 (p : Option Addr) (b off cap : Nat) (xs : List Spn) (hz : Zs w a4 a6) (hs : Spans w b off xs) (hn : xs.length ≤ 1024) (hp : 0 < xs.length → p = some ⟨b, off, none⟩ ∧ b < w.heap.size) :
    Calls Ybad.prog 10 #[.slice p xs.length cap] w fun e w' => ∃ (v : Value) (L : List (Bool × Nat × Nat)), e = .returned v ∧ w'.ownsRow (w.heap.size + 1) 37 6 v L.length (L.flatMap (enc3 a4 a6)) ∧ Below w.heap.size w w' ∧ Runs (covB xs) true 256 L ∧ L.length ≤ 512 := by
  obtain ⟨i0, hi, hz0, hz1, hz2⟩ := info_parts Ybad.info37
  obtain ⟨n, hnl⟩ : ∃ n, xs.length = n := ⟨_, rfl⟩
  have hnI : (n : Int) ≤ 1024 := by omega
  rw [hnl]
  go_enter Ybad.func10, Ybad.ntmps10
  go_wp2_with fail
  go_loopw [4, 5, 6, 7, 8] (fun i _ _ _ _ wr => ∃ k : Nat, k ≤ n ∧ i = .int .i64 k ∧ CovIs wr w.heap.size (covB (xs.take k)) ∧ Below w.heap.size w wr ∧ w.heap.size < wr.heap.size) (fun i _ _ _ _ _ => n - (intOf i).toNat)
  case atStart => exact ⟨0, Nat.zero_le _, rfl, cov_start w _ (fun t => by simp [covB]), (Below.refl _ _).alloc (Nat.le_refl _) _, by simp⟩
  case round =>
    obtain ⟨k, hk, rfl, hcov, hbel, hgt⟩ := hrel
    by_cases hlt : k < n
    · obtain ⟨rfl, hb⟩ := hp (by omega)
      obtain ⟨x, hx⟩ : ∃ x, xs[k]? = some x := ⟨_, List.getElem?_eq_getElem (by omega)⟩
      obtain ⟨c0, c1, c2, c3⟩ := hs.1 k x hx
      have hx255 := hs.2 x (List.mem_of_getElem? hx)
      have c0 : wr.cell? ⟨b, off + k * 4, none⟩ = some (.int .u8 x.s) := (hbel.cell hb).trans c0
      have c1 : wr.cell? ⟨b, off + k * 4 + 1, none⟩ = some (.int .u8 x.l) := (hbel.cell hb).trans c1
      have c2 : wr.cell? ⟨b, off + k * 4 + 2, none⟩ = some (.bool x.v6) := (hbel.cell hb).trans c2
      have c3 : wr.cell? ⟨b, off + k * 4 + 3, none⟩ = some (.bool x.sk) := (hbel.cell hb).trans c3
      have hszb := hbel.size
      have hsI : (x.s : Int) ≤ 255 := by omega
      cases hsk : x.sk with
      | true =>
        rw [hsk] at c3
        have hcov' := (hcov.later ((Later.refl wr).alloc (.cells #[.int .u8 x.s, .int .u8 x.l, .bool x.v6, .bool true] 69))).eq (q := covB (xs.take (k + 1))) (fun t ht => by rw [covB_snoc xs k x hx]; simp [inSp, hsk])
        have hbel' := hbel.alloc (by omega) (.cells #[.int .u8 x.s, .int .u8 x.l, .bool x.v6, .bool true] 69)
        clear hcov hbel
        go_wp2
        go_roundw
        case rel => exact ⟨k + 1, by omega, by go_num, hcov', hbel', by simp; omega⟩
        case measure => simp [intOf]; omega
      | false =>
        rw [hsk] at c3
        obtain ⟨e, hee⟩ : ∃ e, endOf x.s x.l = e := ⟨_, rfl⟩
        have he : e ≤ 255 := by rw [← hee]; unfold endOf; omega
        have hse : x.s ≤ e := by rw [← hee]; unfold endOf; omega
        have heI : (e : Int) ≤ 255 := by omega
        have hbd := fun wx => bend (w := wx) x.s x.l x.v6 false hx255.1 hx255.2
        rw [hee] at hbd
        cases hv : x.v6 with
          | true =>
            rw [hv] at c2 hbd
            have hin : ∀ t, inSp x t = decide (1 * 256 + x.s ≤ t ∧ t ≤ 1 * 256 + e) := fun t => by simp [inSp, hsk, hv, fOf, hee]
            go_wp2_with fail
            refine (hbd _).mono ?_
            rintro e1 w1 ⟨rfl, k1⟩
            have hcov1 := (hcov.later ((Later.refl wr).alloc (.cells #[.int .u8 x.s, .int .u8 x.l, .bool true, .bool false] 69))).later k1
            have hbel1 : Below w.heap.size w w1 := (hbel.alloc (by omega) (.cells #[.int .u8 x.s, .int .u8 x.l, .bool true, .bool false] 69)).trans (k1.below.mono (by simp; omega))
            have hgt1 : w.heap.size < w1.heap.size := by have := k1.below.size; simp at this; omega
            have d0 : w1.cell? ⟨wr.heap.size, 0, none⟩ = some (.int .u8 x.s) := k1.cell (by simp [go_sem])
            clear hcov hbel k1 c0 c1 c2 c3 hbd
            go_wp2_with fail
            obtain ⟨wo, rfl⟩ : ∃ wo : World, wo = wr := ⟨_, rfl⟩
            go_loopw [8] (fun i wq => ∃ j : Nat, x.s ≤ j ∧ j ≤ e + 1 ∧ i = .int .i64 j ∧ CovIs wq w.heap.size (fun t => covB (xs.take k) t || decide (1 * 256 + x.s ≤ t ∧ t < 1 * 256 + j)) ∧ Below w.heap.size w wq ∧ w.heap.size < wq.heap.size) (fun i _ => e + 1 - (intOf i).toNat)
            case atStart => exact ⟨x.s, Nat.le_refl _, by omega, rfl, hcov1.eq (fun t ht => (none_between _ _ _).symm), hbel1, hgt1⟩
            clear hcov1 hbel1 hgt1
            case round =>
              obtain ⟨j, hj1, hj2, rfl, hcov, hbel, hgt⟩ := hrel
              by_cases hje : j ≤ e
              · have hjI : (j : Int) ≤ (e : Int) := by omega
                have cc := hcov.cell (1 * 256 + j) (by omega)
                have cf := hcov.fz (1 * 256 + j)
                have hset := (hcov.set (1 * 256 + j) (by omega)).eq (q := fun t => covB (xs.take k) t || decide (1 * 256 + x.s ≤ t ∧ t < 1 * 256 + (j + 1))) (fun t ht => by
                  rw [Bool.or_assoc]; congr 1; rw [← Bool.decide_or]; apply decide_eq_decide.2; omega)
                have hb2 : Below w.heap.size w (wr.setCell ⟨w.heap.size, 1 * 256 + j, none⟩ (.bool true)) := hbel.setCell (by simp) _
                have hg2 : w.heap.size < (wr.setCell ⟨w.heap.size, 1 * 256 + j, none⟩ (.bool true)).heap.size := by simpa [World.setCell] using hgt
                simp only [Nat.reduceMul, Nat.zero_add] at cc cf hset hb2 hg2
                clear hcov hbel hgt
                go_wp2
                go_roundw
                case rel => exact ⟨j + 1, by omega, by omega, by go_num, by simpa using hset, hb2, hg2⟩
                case measure => simp [intOf]; omega
              · have hjI : ¬ (j : Int) ≤ (e : Int) := by omega
                have hje2 : j = e + 1 := by omega
                subst hje2
                have hcov2 := hcov.eq (q := covB (xs.take (k + 1))) (fun t ht => by
                  rw [covB_snoc xs k x hx, hin]; congr 1; apply decide_eq_decide.2; omega)
                clear hcov
                go_wp2
                go_roundw
                case rel => exact ⟨k + 1, by omega, by go_num, hcov2, hbel, hgt⟩
                case measure => simp [intOf]; omega
          | false =>
            rw [hv] at c2 hbd
            have hin : ∀ t, inSp x t = decide (0 * 256 + x.s ≤ t ∧ t ≤ 0 * 256 + e) := fun t => by simp [inSp, hsk, hv, fOf, hee]
            go_wp2_with fail
            refine (hbd _).mono ?_
            rintro e1 w1 ⟨rfl, k1⟩
            have hcov1 := (hcov.later ((Later.refl wr).alloc (.cells #[.int .u8 x.s, .int .u8 x.l, .bool false, .bool false] 69))).later k1
            have hbel1 : Below w.heap.size w w1 := (hbel.alloc (by omega) (.cells #[.int .u8 x.s, .int .u8 x.l, .bool false, .bool false] 69)).trans (k1.below.mono (by simp; omega))
            have hgt1 : w.heap.size < w1.heap.size := by have := k1.below.size; simp at this; omega
            have d0 : w1.cell? ⟨wr.heap.size, 0, none⟩ = some (.int .u8 x.s) := k1.cell (by simp [go_sem])
            clear hcov hbel k1 c0 c1 c2 c3 hbd
            go_wp2_with fail
            obtain ⟨wo, rfl⟩ : ∃ wo : World, wo = wr := ⟨_, rfl⟩
            go_loopw [8] (fun i wq => ∃ j : Nat, x.s ≤ j ∧ j ≤ e + 1 ∧ i = .int .i64 j ∧ CovIs wq w.heap.size (fun t => covB (xs.take k) t || decide (0 * 256 + x.s ≤ t ∧ t < 0 * 256 + j)) ∧ Below w.heap.size w wq ∧ w.heap.size < wq.heap.size) (fun i _ => e + 1 - (intOf i).toNat)
            case atStart => exact ⟨x.s, Nat.le_refl _, by omega, rfl, hcov1.eq (fun t ht => (none_between _ _ _).symm), hbel1, hgt1⟩
            clear hcov1 hbel1 hgt1
            case round =>
              obtain ⟨j, hj1, hj2, rfl, hcov, hbel, hgt⟩ := hrel
              by_cases hje : j ≤ e
              · have hjI : (j : Int) ≤ (e : Int) := by omega
                have cc := hcov.cell (0 * 256 + j) (by omega)
                have cf := hcov.fz (0 * 256 + j)
                have hset := (hcov.set (0 * 256 + j) (by omega)).eq (q := fun t => covB (xs.take k) t || decide (0 * 256 + x.s ≤ t ∧ t < 0 * 256 + (j + 1))) (fun t ht => by
                  rw [Bool.or_assoc]; congr 1; rw [← Bool.decide_or]; apply decide_eq_decide.2; omega)
                have hb2 : Below w.heap.size w (wr.setCell ⟨w.heap.size, 0 * 256 + j, none⟩ (.bool true)) := hbel.setCell (by simp) _
                have hg2 : w.heap.size < (wr.setCell ⟨w.heap.size, 0 * 256 + j, none⟩ (.bool true)).heap.size := by simpa [World.setCell] using hgt
                simp only [Nat.reduceMul, Nat.zero_add] at cc cf hset hb2 hg2
                clear hcov hbel hgt
                go_wp2
                go_roundw
                case rel => exact ⟨j + 1, by omega, by omega, by go_num, by simpa using hset, hb2, hg2⟩
                case measure => simp [intOf]; omega
              · have hjI : ¬ (j : Int) ≤ (e : Int) := by omega
                have hje2 : j = e + 1 := by omega
                subst hje2
                have hcov2 := hcov.eq (q := covB (xs.take (k + 1))) (fun t ht => by
                  rw [covB_snoc xs k x hx, hin]; congr 1; apply decide_eq_decide.2; omega)
                clear hcov
                go_wp2
                go_roundw
                case rel => exact ⟨k + 1, by omega, by go_num, hcov2, hbel, hgt⟩
                case measure => simp [intOf]; omega
    · have hkn : n = k := by omega
      subst hkn
      rw [List.take_of_length_le (by omega)] at hcov
      clear hlt hk
      go_wp2_with fail
      obtain ⟨wo, rfl⟩ : ∃ wo : World, wo = wr := ⟨_, rfl⟩
      go_loopw [9, 10, 11, 12] (fun v f _ _ wq => ∃ (g : Nat) (L : List (Bool × Nat × Nat)), ((g = 0 ∧ Runs (covB xs) false 0 L) ∨ (g = 1 ∧ Runs (covB xs) true 0 L) ∨ (g = 2 ∧ Runs (covB xs) true 256 L)) ∧ f = .int .i64 g ∧ wq.ownsRow (w.heap.size + 1) 37 6 v L.length (L.flatMap (enc3 a4 a6)) ∧ CovIs wq w.heap.size (covB xs) ∧ Below w.heap.size w wq ∧ w.heap.size < wq.heap.size ∧ L.length ≤ 256 * g) (fun _ f _ _ _ => 2 - (intOf f).toNat)
      case atStart => exact ⟨0, [], .inl ⟨rfl, Runs.start _⟩, rfl, World.ownsRow_nil _ _ _ _, hcov, hbel, hgt, by simp⟩
      clear hcov hbel hgt
      case round =>
        obtain ⟨g, L, hg, rfl, hown, hcov, hbel, hgt, hlen⟩ := hrel
        rcases hg with ⟨rfl, hr⟩ | ⟨rfl, hr⟩ | ⟨rfl, hr⟩
        · go_wp2_with fail
          go_loopw [9, 11, 12] (fun v i _ wq => ∃ (j : Nat) (L : List (Bool × Nat × Nat)), j ≤ 256 ∧ i = .int .i64 j ∧ Runs (covB xs) false j L ∧ wq.ownsRow (w.heap.size + 1) 37 6 v L.length (L.flatMap (enc3 a4 a6)) ∧ CovIs wq w.heap.size (covB xs) ∧ Below w.heap.size w wq ∧ w.heap.size < wq.heap.size ∧ L.length ≤ 0 + j) (fun _ i _ _ => 256 - (intOf i).toNat)
          case atStart => exact ⟨0, L, by omega, rfl, hr, hown, hcov, hbel, hgt, by omega⟩
          clear hr hown hcov hbel hgt hlen
          case round =>
            obtain ⟨j, L, hj, rfl, hr, hown, hcov, hbel, hgt, hlen⟩ := hrel
            by_cases hj2 : j < 256
            · have hjI : (j : Int) < 256 := by omega
              have cc := hcov.cell (j) (by omega)
              cases hcj : covB xs (j) with
              | false =>
                rw [hcj] at cc
                go_wp2
                go_roundw
                case rel => exact ⟨j + 1, L, by omega, by go_num, hr.skip hj2 (by simpa using hcj), hown, hcov, hbel, hgt, by omega⟩
                case measure => simp [intOf]; omega
              | true =>
                rw [hcj] at cc
                go_wp2_with fail
                obtain ⟨wo4, rfl⟩ : ∃ wo4 : World, wo4 = wr := ⟨_, rfl⟩
                go_loopw [12] (fun i wq => ∃ kk : Nat, j ≤ kk ∧ kk < 256 ∧ i = .int .i64 kk ∧ (∀ b, j ≤ b → b ≤ kk → covB xs (b) = true) ∧ wq = wo4) (fun i _ => 256 - (intOf i).toNat)
                case atStart => exact ⟨j, Nat.le_refl _, hj2, rfl, fun b h1 h2 => by rw [show b = j by omega]; exact hcj, rfl⟩
                case round =>
                  obtain ⟨kk, hk1, hk2, rfl, hall, rfl⟩ := hrel
                  have hwj : IntKind.u8.wrap (j : Int) = j := by simp [IntKind.wrap, IntKind.signed, IntKind.bits]; omega
                  have hwk : IntKind.u8.wrap (kk : Int) = kk := by simp [IntKind.wrap, IntKind.signed, IntKind.bits]; omega
                  have hkI2 : (kk : Int) < 256 := by omega
                  by_cases hk3 : kk + 1 < 256
                  · have hkI : (kk : Int) + 1 < 256 := by omega
                    have cc2 := hcov.cell ((kk + 1)) (by omega)
                    cases hck : covB xs ((kk + 1)) with
                    | true =>
                      rw [hck] at cc2
                      go_wp2
                      go_roundw
                      case rel => exact ⟨kk + 1, by omega, by omega, by go_num, fun b h1 h2 => by
                        by_cases e : b = kk + 1
                        · rw [e]; exact hck
                        · exact hall b h1 (by omega), by simp⟩
                      case measure => simp [intOf]; omega
                    | false =>
                      rw [hck] at cc2
                      have hstop : kk + 1 < 256 → covB xs ((if false then 256 else 0) + (kk + 1)) = false := fun _ => by simpa using hck
                      go_wp2_with fail
                      refine (baddr false j (by omega) (hz.below hbel)).mono ?_
                      rintro e1 w1 ⟨rfl, k1⟩
                      go_wp2_with fail
                      refine (baddr false kk (by omega) ((hz.below hbel).later k1)).mono ?_
                      rintro e1 w2 ⟨rfl, k2⟩
                      have k3 := k1.trans k2
                      clear k1 k2
                      have hsz3 := k3.below.size
                      go_wp2_with (first
                        | (at_builtin
                           refine wpList_append_own _ rfl _ _ 23 rfl (w.heap.size + 1) 37 i0 _ 6 48 Ybad.underlying23 hi hz0 hz1 hz2 rfl (by decide) u9 L.length (L.flatMap (enc3 a4 a6)) rfl ((own_l hown k3).alloc _) ⟨w2.heap.size, 0, none⟩ 1 1 (enc3 a4 a6 (false, j, kk)) rfl rfl (news_new _ _ _ _ rfl _ rfl) (enc3_one _ _ _) (by unfold maxLen; omega) (by omega) (by simp; omega) ?_
                           intro v' w3 hown' hgrow hnil
                           have hb3 : Below w.heap.size w w3 := Below.grown ((hbel.trans (k3.below.mono (by omega))).alloc (by omega) _) hgrow (by simp; omega) (fun j hj => by have := (hown.lt _ hj).1; omega)
                           have hcov3 : CovIs w3 w.heap.size (covB xs) := (hcov.later k3).of ((hgrow.block _ (by simp; omega) (fun h => by have := (hown.lt _ h.symm).1; omega)).trans (Below.heap_alloc _ _ _ (by omega)))
                           have hgt3 : w.heap.size < w3.heap.size := by have := hgrow.size; simp at this; omega
                           clear hgrow hnil))
                      go_roundw
                      case rel => first | exact ⟨kk + 1, L ++ [(false, j, kk)], by omega, by go_num, hr.run hk1 hk2 (by simpa using hall) hstop, by simpa using hown', hcov3, hb3, hgt3, by simp; omega⟩ | ((repeat apply Exists.intro); exact ⟨⟨kk + 1, L ++ [(false, j, kk)], by omega, by go_num, hr.run hk1 hk2 (by simpa using hall) hstop, by simpa using hown', hcov3, hb3, hgt3, by simp; omega⟩, rfl⟩)
                      case measure => simp [intOf]; omega
                  · have hkI : decide ((kk : Int) + 1 < 256) = false := by simp; omega
                    have hstop : kk + 1 < 256 → covB xs ((if false then 256 else 0) + (kk + 1)) = false := fun h => by omega
                    go_wp2_with fail
                    refine (baddr false j (by omega) (hz.below hbel)).mono ?_
                    rintro e1 w1 ⟨rfl, k1⟩
                    go_wp2_with fail
                    refine (baddr false kk (by omega) ((hz.below hbel).later k1)).mono ?_
                    rintro e1 w2 ⟨rfl, k2⟩
                    have k3 := k1.trans k2
                    clear k1 k2
                    have hsz3 := k3.below.size
                    go_wp2_with (first
                      | (at_builtin
                         refine wpList_append_own _ rfl _ _ 23 rfl (w.heap.size + 1) 37 i0 _ 6 48 Ybad.underlying23 hi hz0 hz1 hz2 rfl (by decide) u9 L.length (L.flatMap (enc3 a4 a6)) rfl ((own_l hown k3).alloc _) ⟨w2.heap.size, 0, none⟩ 1 1 (enc3 a4 a6 (false, j, kk)) rfl rfl (news_new _ _ _ _ rfl _ rfl) (enc3_one _ _ _) (by unfold maxLen; omega) (by omega) (by simp; omega) ?_
                         intro v' w3 hown' hgrow hnil
                         have hb3 : Below w.heap.size w w3 := Below.grown ((hbel.trans (k3.below.mono (by omega))).alloc (by omega) _) hgrow (by simp; omega) (fun j hj => by have := (hown.lt _ hj).1; omega)
                         have hcov3 : CovIs w3 w.heap.size (covB xs) := (hcov.later k3).of ((hgrow.block _ (by simp; omega) (fun h => by have := (hown.lt _ h.symm).1; omega)).trans (Below.heap_alloc _ _ _ (by omega)))
                         have hgt3 : w.heap.size < w3.heap.size := by have := hgrow.size; simp at this; omega
                         clear hgrow hnil))
                    go_roundw
                    case rel => first | exact ⟨kk + 1, L ++ [(false, j, kk)], by omega, by go_num, hr.run hk1 hk2 (by simpa using hall) hstop, by simpa using hown', hcov3, hb3, hgt3, by simp; omega⟩ | ((repeat apply Exists.intro); exact ⟨⟨kk + 1, L ++ [(false, j, kk)], by omega, by go_num, hr.run hk1 hk2 (by simpa using hall) hstop, by simpa using hown', hcov3, hb3, hgt3, by simp; omega⟩, rfl⟩)
                    case measure => simp [intOf]; omega
            · have hj3 : j = 256 := by omega
              subst hj3
              go_wp2
              go_roundw
              case rel => exact ⟨1, L, .inr (.inl ⟨rfl, hr.next⟩), by go_num, hown, hcov, hbel, hgt, by omega⟩
              case measure => simp [intOf]
        · go_wp2_with fail
          go_loopw [9, 11, 12] (fun v i _ wq => ∃ (j : Nat) (L : List (Bool × Nat × Nat)), j ≤ 256 ∧ i = .int .i64 j ∧ Runs (covB xs) true j L ∧ wq.ownsRow (w.heap.size + 1) 37 6 v L.length (L.flatMap (enc3 a4 a6)) ∧ CovIs wq w.heap.size (covB xs) ∧ Below w.heap.size w wq ∧ w.heap.size < wq.heap.size ∧ L.length ≤ 256 + j) (fun _ i _ _ => 256 - (intOf i).toNat)
          case atStart => exact ⟨0, L, by omega, rfl, hr, hown, hcov, hbel, hgt, by omega⟩
          clear hr hown hcov hbel hgt hlen
          case round =>
            obtain ⟨j, L, hj, rfl, hr, hown, hcov, hbel, hgt, hlen⟩ := hrel
            by_cases hj2 : j < 256
            · have hjI : (j : Int) < 256 := by omega
              have cc := hcov.cell (256 + j) (by omega)
              cases hcj : covB xs (256 + j) with
              | false =>
                rw [hcj] at cc
                go_wp2
                go_roundw
                case rel => exact ⟨j + 1, L, by omega, by go_num, hr.skip hj2 (by simpa using hcj), hown, hcov, hbel, hgt, by omega⟩
                case measure => simp [intOf]; omega
              | true =>
                rw [hcj] at cc
                go_wp2_with fail
                obtain ⟨wo4, rfl⟩ : ∃ wo4 : World, wo4 = wr := ⟨_, rfl⟩
                go_loopw [12] (fun i wq => ∃ kk : Nat, j ≤ kk ∧ kk < 256 ∧ i = .int .i64 kk ∧ (∀ b, j ≤ b → b ≤ kk → covB xs (256 + b) = true) ∧ wq = wo4) (fun i _ => 256 - (intOf i).toNat)
                case atStart => exact ⟨j, Nat.le_refl _, hj2, rfl, fun b h1 h2 => by rw [show b = j by omega]; exact hcj, rfl⟩
                case round =>
                  obtain ⟨kk, hk1, hk2, rfl, hall, rfl⟩ := hrel
                  have hwj : IntKind.u8.wrap (j : Int) = j := by simp [IntKind.wrap, IntKind.signed, IntKind.bits]; omega
                  have hwk : IntKind.u8.wrap (kk : Int) = kk := by simp [IntKind.wrap, IntKind.signed, IntKind.bits]; omega
                  have hkI2 : (kk : Int) < 256 := by omega
                  by_cases hk3 : kk + 1 < 256
                  · have hkI : (kk : Int) + 1 < 256 := by omega
                    have cc2 := hcov.cell (256 + (kk + 1)) (by omega)
                    cases hck : covB xs (256 + (kk + 1)) with
                    | true =>
                      rw [hck] at cc2
                      go_wp2
                      go_roundw
                      case rel => exact ⟨kk + 1, by omega, by omega, by go_num, fun b h1 h2 => by
                        by_cases e : b = kk + 1
                        · rw [e]; exact hck
                        · exact hall b h1 (by omega), by simp⟩
                      case measure => simp [intOf]; omega
                    | false =>
                      rw [hck] at cc2
                      have hstop : kk + 1 < 256 → covB xs ((if true then 256 else 0) + (kk + 1)) = false := fun _ => by simpa using hck
                      go_wp2_with fail
                      refine (baddr true j (by omega) (hz.below hbel)).mono ?_
                      rintro e1 w1 ⟨rfl, k1⟩
                      go_wp2_with fail
                      refine (baddr true kk (by omega) ((hz.below hbel).later k1)).mono ?_
                      rintro e1 w2 ⟨rfl, k2⟩
                      have k3 := k1.trans k2
                      clear k1 k2
                      have hsz3 := k3.below.size
                      go_wp2_with (first
                        | (at_builtin
                           refine wpList_append_own _ rfl _ _ 23 rfl (w.heap.size + 1) 37 i0 _ 6 48 Ybad.underlying23 hi hz0 hz1 hz2 rfl (by decide) u9 L.length (L.flatMap (enc3 a4 a6)) rfl ((own_l hown k3).alloc _) ⟨w2.heap.size, 0, none⟩ 1 1 (enc3 a4 a6 (true, j, kk)) rfl rfl (news_new _ _ _ _ rfl _ rfl) (enc3_one _ _ _) (by unfold maxLen; omega) (by omega) (by simp; omega) ?_
                           intro v' w3 hown' hgrow hnil
                           have hb3 : Below w.heap.size w w3 := Below.grown ((hbel.trans (k3.below.mono (by omega))).alloc (by omega) _) hgrow (by simp; omega) (fun j hj => by have := (hown.lt _ hj).1; omega)
                           have hcov3 : CovIs w3 w.heap.size (covB xs) := (hcov.later k3).of ((hgrow.block _ (by simp; omega) (fun h => by have := (hown.lt _ h.symm).1; omega)).trans (Below.heap_alloc _ _ _ (by omega)))
                           have hgt3 : w.heap.size < w3.heap.size := by have := hgrow.size; simp at this; omega
                           clear hgrow hnil))
                      go_roundw
                      case rel => first | exact ⟨kk + 1, L ++ [(true, j, kk)], by omega, by go_num, hr.run hk1 hk2 (by simpa using hall) hstop, by simpa using hown', hcov3, hb3, hgt3, by simp; omega⟩ | ((repeat apply Exists.intro); exact ⟨⟨kk + 1, L ++ [(true, j, kk)], by omega, by go_num, hr.run hk1 hk2 (by simpa using hall) hstop, by simpa using hown', hcov3, hb3, hgt3, by simp; omega⟩, rfl⟩)
                      case measure => simp [intOf]; omega
                  · have hkI : decide ((kk : Int) + 1 < 256) = false := by simp; omega
                    have hstop : kk + 1 < 256 → covB xs ((if true then 256 else 0) + (kk + 1)) = false := fun h => by omega
                    go_wp2_with fail
                    refine (baddr true j (by omega) (hz.below hbel)).mono ?_
                    rintro e1 w1 ⟨rfl, k1⟩
                    go_wp2_with fail
                    refine (baddr true kk (by omega) ((hz.below hbel).later k1)).mono ?_
                    rintro e1 w2 ⟨rfl, k2⟩
                    have k3 := k1.trans k2
                    clear k1 k2
                    have hsz3 := k3.below.size
                    go_wp2_with (first
                      | (at_builtin
                         refine wpList_append_own _ rfl _ _ 23 rfl (w.heap.size + 1) 37 i0 _ 6 48 Ybad.underlying23 hi hz0 hz1 hz2 rfl (by decide) u9 L.length (L.flatMap (enc3 a4 a6)) rfl ((own_l hown k3).alloc _) ⟨w2.heap.size, 0, none⟩ 1 1 (enc3 a4 a6 (true, j, kk)) rfl rfl (news_new _ _ _ _ rfl _ rfl) (enc3_one _ _ _) (by unfold maxLen; omega) (by omega) (by simp; omega) ?_
                         intro v' w3 hown' hgrow hnil
                         have hb3 : Below w.heap.size w w3 := Below.grown ((hbel.trans (k3.below.mono (by omega))).alloc (by omega) _) hgrow (by simp; omega) (fun j hj => by have := (hown.lt _ hj).1; omega)
                         have hcov3 : CovIs w3 w.heap.size (covB xs) := (hcov.later k3).of ((hgrow.block _ (by simp; omega) (fun h => by have := (hown.lt _ h.symm).1; omega)).trans (Below.heap_alloc _ _ _ (by omega)))
                         have hgt3 : w.heap.size < w3.heap.size := by have := hgrow.size; simp at this; omega
                         clear hgrow hnil))
                    go_roundw
                    case rel => first | exact ⟨kk + 1, L ++ [(true, j, kk)], by omega, by go_num, hr.run hk1 hk2 (by simpa using hall) hstop, by simpa using hown', hcov3, hb3, hgt3, by simp; omega⟩ | ((repeat apply Exists.intro); exact ⟨⟨kk + 1, L ++ [(true, j, kk)], by omega, by go_num, hr.run hk1 hk2 (by simpa using hall) hstop, by simpa using hown', hcov3, hb3, hgt3, by simp; omega⟩, rfl⟩)
                    case measure => simp [intOf]; omega
            · have hj3 : j = 256 := by omega
              subst hj3
              go_wp2
              go_roundw
              case rel => exact ⟨2, L, .inr (.inr ⟨rfl, hr⟩), by go_num, hown, hcov, hbel, hgt, by omega⟩
              case measure => simp [intOf]
        · go_wp2
          go_ret
          exact ⟨_, L, rfl, hown, hbel, hr, by omega⟩
end Go.Proofs.YbulkingDoor
