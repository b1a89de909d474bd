/-
  The walk of LawS0454BEffect, the pool released beforehand.
-/
import Derived.Test.YbulkijmDoorMake
import Derived.Deep.DeepCutAuto
import Derived.Deep.CutBlock
import Derived.Conc.SmallLaws
import Derived.Outline
namespace Go.Proofs.YbulkijmDoor
open Go.RowKit Go.Conc Go.MuLone
set_option linter.unusedVariables false

set_option maxHeartbeats 3200000 in
set_option maxRecDepth 100000 in
theorem law_true (r c : Int) (n x m : Nat) (pc tw : Bool) (E : Value) (w : World) (hr : 0 ≤ r ∧ r ≤ 4294967295) (hc : -2147483648 ≤ c ∧ c ≤ 2147483647) (hn : n ≤ 1024) (hx : x ≤ 1024) (hm : m ≤ 1024) (hE : w.cell? ⟨0, 0, none⟩ = some E) (hEE : ∀ wx : World, (binOp .neq 81 E E).run Ybad.prog wx = .ok (.bool false) wx) (hEg : ∀ wx : World, (eqGuard .neq 81 (.tmp 291) (.tmp 292) E E).run Ybad.prog wx = .ok () wx) (hpc : Hid (pc = true)) :
    Calls Ybad.prog 3 #[.int .u32 r, .int .i32 c, .int .u16 n, .int .u16 x, .int .u16 m, .bool pc, .bool tw] w fun e w' => e = .returned (.bool true) ∧ Below w.heap.size w w' := by
  have hnI : (n : Int) ≤ 1024 := by omega
  have hxI : (x : Int) ≤ 1024 := by omega
  have hmI : (m : Int) ≤ 1024 := by omega
  have d1 : decide ((1024 : Int) < n) = false := by simp; omega
  have d2 : decide ((1024 : Int) < x) = false := by simp; omega
  have d3 : decide ((1024 : Int) < m) = false := by simp; omega
  have hcb := capOf_bd c
  have k0 := mkC0
  have k1 := mkC1
  have k2 := mkC2
  go_enter Ybad.func3, Ybad.ntmps3
  go_upto_if 58 with (first | (go_at_call 4; refine (cap_any _ _).mono ?_; rintro e w' ⟨rfl, rfl⟩) | (go_at_call 5; refine (withCap_any _ (by omega) (by omega) _).mono ?_; rintro e w' ⟨rfl, rfl⟩))
  go_cut [5, 16] (fun t5 t wc => w = wc ∧ t5 = .bool pc ∧ t = .int .u64 (S0 c r pc))
  case first =>
    cases pc with
    | true =>
      go_wp2
      go_meet
      case rel => exact ⟨rfl, rfl, rfl⟩
    | false =>
      go_wp2
      go_meet
      case rel => exact ⟨rfl, rfl, rfl⟩
  case rest =>
    obtain ⟨rfl, rfl, rfl⟩ := hcut
    obtain ⟨i0, hi, hz0, hz1, hz2⟩ := info_parts Ybad.info62
    obtain ⟨i1, gi, gz0, gz1, gz2⟩ := info_parts Ybad.info55
    have hmk := fun wx => run_make (P := Ybad.prog) wx 54 62 i0 (.pointer none) Ybad.underlying54 hi hz0 .i64 .i64 0 n (by omega) (by omega) (by rw [hz2]; omega) (by omega)
    have hmk2 := fun wx => run_make (P := Ybad.prog) wx 68 55 i1 (.pointer none) Ybad.underlying68 gi gz0 .i64 .i64 0 m (by omega) (by omega) (by rw [gz2]; omega) (by omega)
    simp only [Int.toNat_natCast, Int.toNat_zero] at hmk hmk2
    have hSo : Hid (pc = false → S0 c r pc = word (capOf c) r) := fun e => by subst e; rfl
    have hSc : Hid (pc = true → (bits .and .u64 (S0 c r pc) CL != 0) = true) := fun e => by subst e; exact or_closed _
    generalize S0 c r pc = s0 at *
    go_wp2_with fail
    refine (store64 (w.heap.size + 1) 12 (.int .u64 0) s0 _ (by simp [go_sem]) (by simp [go_sem])).mono ?_
    rintro e w1 ⟨rfl, rfl⟩
    go_wp2_with fail
    go_loopw [18, 19] (fun v i wr => ∃ j : Nat, j ≤ n ∧ v = .slice (some ⟨w.heap.size + 1 + 1, 0, none⟩) j n ∧ i = .int .i64 j ∧ L1 w w.heap.size n j (p0 s0) wr) (fun _ i _ => n - (intOf i).toNat)
    case atStart => exact ⟨0, Nat.zero_le _, rfl, rfl, L1_start w n (p0 s0) _⟩
    case round =>
      obtain ⟨j, hj, rfl, rfl, hl⟩ := hrel
      have hsz : wr.heap.size = w.heap.size + 3 + 3 * j := hl.sz
      by_cases hlt : j < n
      · obtain ⟨cur, e1, e2, _⟩ := hl.hW
        obtain ⟨v0, cr⟩ : ∃ v0, (w3 w wr j).cell? ⟨w.heap.size + 1 + 1, j, none⟩ = some v0 := by
          rw [cell_of (b := w.heap.size + 1 + 1) (w3_old (by omega) e1)]; exact ⟨_, Array.getElem?_eq_getElem (by omega)⟩
        have cf : (w3 w wr j).frozen? ⟨w.heap.size + 1 + 1, j, none⟩ = false := frozen_of (b := w.heap.size + 1 + 1) (w3_old (by omega) e1) _
        unfold w3 at cr cf
        have hroom : j + 1 ≤ n := hlt
        have hl2 := hl.step hlt #[pt (w.heap.size + 4 + 3 * j)]
        rw [show w.heap.size + 4 + 3 * j = w.heap.size + 3 + 3 * j + 1 by omega, ← setCell_alloc _ _ _ _ (by simp; omega), ← setCell_alloc _ _ _ _ (by simp; omega), ← setCell_alloc _ _ _ _ (by simp; omega)] at hl2
        clear e1 e2 hl
        go_wp2
        go_roundw
        case rel => exact ⟨j + 1, by omega, rfl, by go_num, hl2⟩
        case measure => simp [intOf]; omega
      · have hnj : n = j := by omega
        subst hnj
        have hnews : ∀ i u, (rowOf w.heap.size n)[i]? = some u → wr.cell? (Addr.add ⟨w.heap.size + 1 + 1, 0, none⟩ i) = some u := by
          intro i u hu
          obtain ⟨cur, e1, e2, e3⟩ := hl.hW
          have hin : i < n := by have := (List.getElem?_eq_some_iff.1 hu).1; simpa [rowOf] using this
          rw [rowOf_get _ _ _ hin] at hu
          rw [Addr.add_lit, cell_of (b := w.heap.size + 1 + 1) e1]
          simpa [e3 i hin] using hu
        clear hj hlt
        go_wp2_with (first
          | (at_builtin
             refine wpList_append_own _ rfl _ _ 54 rfl (w.heap.size + 3 + 3 * n) 62 i0 (.pointer none) 1 8 Ybad.underlying54 hi hz0 hz1 hz2 rfl (by decide) (.slice none 0 0) 0 [] rfl (World.ownsRow_nil _ _ _ _) ⟨w.heap.size + 1 + 1, 0, none⟩ n n (rowOf w.heap.size n) rfl (by simp [rowOf]) hnews (fun x hx => by simp [rowOf] at hx; obtain ⟨_, _, rfl⟩ := hx; rfl) (by unfold maxLen; omega) (by omega) (by omega) ?_
             intro v w4 hown hgrow0 hnil
             have hgrow : wr.grownBy w4 none := hgrow0
             clear hgrow0
             obtain ⟨sa, sc, rfl⟩ : ∃ sa sc, v = .slice sa n sc := by
               rcases hown.2 with ⟨e1, e2⟩ | ⟨g, cap, cur, e1, _⟩
               · exact ⟨none, 0, by rw [e1, show n = 0 by omega]⟩
               · exact ⟨_, _, by rw [e1, Nat.zero_add]⟩
             have c17 : w4.cell? ⟨w.heap.size + 1, 17, none⟩ = some (.int .i64 0) := by rw [cell_of (b := w.heap.size + 1) ((hgrow.block _ (by omega) (by simp)).trans hl.hP)]; rfl
             have c18 : w4.cell? ⟨w.heap.size + 1, 18, none⟩ = some (.slice none 0 0) := by rw [cell_of (b := w.heap.size + 1) ((hgrow.block _ (by omega) (by simp)).trans hl.hP)]; rfl
             have f17 : w4.frozen? ⟨w.heap.size + 1, 17, none⟩ = false := frozen_of (b := w.heap.size + 1) ((hgrow.block _ (by omega) (by simp)).trans hl.hP) _
             have f18 : w4.frozen? ⟨w.heap.size + 1, 18, none⟩ = false := frozen_of (b := w.heap.size + 1) ((hgrow.block _ (by omega) (by simp)).trans hl.hP) _
             have hrow : RowIs wr.heap[w.heap.size + 2]? 62 n (fun i => pt (w.heap.size + 4 + 3 * i)) := by obtain ⟨cur, e1, e2, e3⟩ := hl.hW; exact ⟨cur, e1, e3⟩
             have h2 : Hid (Inv2 w w4.heap.size n m E s0 ((n : Int) + x) (.slice sa n sc) wr.heap[w.heap.size + 2]? 0 (((w4.setCell ⟨w.heap.size + 1, 18, none⟩ (.slice sa n sc)).setCell ⟨w.heap.size + 1, 17, none⟩ (.int .i64 ((n : Int) + x))).alloc (.cells (madeCells #[.pointer none] m) 55))) := stage hl hown hgrow (by simpa using hnil)
             have hK : w.heap.size + 3 + 3 * n ≤ w4.heap.size := by have := hgrow.size; omega
             clear hown hgrow hnil hl hnews hsz
             obtain ⟨K, hK4⟩ : ∃ K, w4.heap.size = K := ⟨_, rfl⟩
             rw [hK4] at h2 hK
             generalize wr.heap[w.heap.size + 2]? = rw0 at h2 hrow
             have hrow' : Hid (RowIs rw0 62 n (fun i => pt (w.heap.size + 4 + 3 * i))) := hrow
             clear hrow))
        clear c17 c18 f17 f18
        go_loopw [20, 21, 22] (fun v20 i _ wq => ∃ j : Nat, j ≤ m ∧ v20 = .slice (some ⟨K, 0, none⟩) j m ∧ i = .int .i64 j ∧ Inv2 w K n m E s0 ((n : Int) + x) (.slice sa n sc) rw0 j wq) (fun _ i _ _ => m - (intOf i).toNat)
        case atStart => exact ⟨0, Nat.zero_le _, rfl, rfl, h2.out⟩
        clear h2
        case round =>
          obtain ⟨j, hj, rfl, rfl, hinv⟩ := hrel
          have hsz : wr.heap.size = K + 1 + 3 * j := hinv.2.1
          by_cases hlt : j < m
          · obtain ⟨cur, e1, e2, e3, hl⟩ := hinv.node hK
            have pl := push_lay hK j (by omega) hl
            rw [show K + 2 + 3 * j = K + 1 + 3 * j + 1 by omega] at pl
            go_wp2_with fail
            refine pl.mono ?_
            rintro e w5 ⟨rfl, h5, h6, h7⟩
            have s5 : w5.heap.size = K + 3 + 3 * j := by rw [h6]; simp [hsz]; omega
            have eK : w5.heap[K]? = some (.cells cur 55 (0, 0)) := by rw [h7 _ (Nat.le_refl _) (by omega), heap_alloc_ne _ _ _ (by simp; omega), heap_alloc_ne _ _ _ (by omega)]; exact e3
            have eK' : (w5.alloc (.cells #[.pointer (some ⟨K + 1 + 3 * j + 1, 0, none⟩)] 55)).heap[K]? = some (.cells cur 55 (0, 0)) := by rw [heap_alloc_ne _ _ _ (by omega)]; exact eK
            obtain ⟨v0, cr⟩ : ∃ v0, (w5.alloc (.cells #[.pointer (some ⟨K + 1 + 3 * j + 1, 0, none⟩)] 55)).cell? ⟨K, j, none⟩ = some v0 := by
              rw [cell_of eK']; exact ⟨_, Array.getElem?_eq_getElem (by omega)⟩
            have cf := frozen_of eK' j
            have hroom : j + 1 ≤ m := hlt
            have hnext := Inv2.step (c1 := #[.pointer (some ⟨K + 1 + 3 * j + 1, 0, none⟩)]) hinv hK hlt e1 e2 h5 h6 h7
            rw [show K + 2 + 3 * j = K + 1 + 3 * j + 1 by omega, ← setCell_alloc _ _ _ _ (by simp; omega)] at hnext
            clear e1 e2 e3 hl pl h5 h6 h7 eK eK' hinv
            go_wp2
            go_roundw
            case rel => exact ⟨j + 1, by omega, rfl, by go_num, hnext⟩
            case measure => simp [intOf]; omega
          · have hmj : m = j := by omega
            subst hmj
            clear hj hlt
            obtain ⟨rq, hrq, h3, c14, f14⟩ := hinv.done hK
            have hrq' : Hid (RowIs rq 55 m (fun i => pt (K + 2 + 3 * i))) := hrq
            clear hinv hrq hsz
            go_wp2_with fail
            refine (storeI (w.heap.size + 1) 14 (.int .i64 0) m _ c14 f14).mono ?_
            rintro e w6 ⟨rfl, hw6⟩
            rw [hw6] at h3
            clear hw6 c14 f14
            have hst : Hid ((bits .and .u64 (bits .or .u64 s0 CL) CL != 0) = true ∧ bits .or .u64 (bits .or .u64 s0 CL) CL = bits .or .u64 s0 CL) := ⟨or_closed _, or_twice _⟩
            have hor1 : bits .andNot .u64 (bits .or .u64 s0 9223372036854775808) 9223372036854775808 = bits .andNot .u64 s0 9223372036854775808 := or_rest _
            have hpc1 := hpc.out
            clear hpc
            subst hpc1
            as_aux_lemma =>
              have hl := h3.2
              clear h3
              go_wp2_with fail
              refine (release_closed hK (by simpa using hSc.out) hl).mono ?_
              rintro e w7 ⟨rfl, h7⟩
              clear hl hSo hSc
              generalize bits .or .u64 s0 CL = s1 at *
              go_upto_if 128 with fail
              go_cut [] (fun wc => Lay w w.heap.size K n m (C K m E rw0 rq s1 m 0 ((n : Int) + x) (.slice sa n sc) false 0 0 0 0) wc)
              case first =>
                cases tw with
                | true =>
                  go_wp2_with fail
                  refine (release_closed hK hst.out.1 h7).mono ?_
                  rintro e w8 ⟨rfl, h8⟩
                  rw [hst.out.2] at h8
                  go_wp2
                  go_meet
                  case rel => exact h8
                | false =>
                  go_wp2
                  go_meet
                  case rel => exact h7
              case rest =>
                have c12 : wc.cell? ⟨w.heap.size + 1, 12, none⟩ = some (.int .u64 s1) := hcut.c12
                have c14 : wc.cell? ⟨w.heap.size + 1, 14, none⟩ = some (.int .i64 m) := hcut.c14
                have c17 : wc.cell? ⟨w.heap.size + 1, 17, none⟩ = some (.int .i64 ((n : Int) + x)) := hcut.c17
                have c18 : wc.cell? ⟨w.heap.size + 1, 18, none⟩ = some (.slice sa n sc) := hcut.c18
                have c21 : wc.cell? ⟨w.heap.size + 1, 21, none⟩ = some (.int .i64 m) := by simpa [C] using hcut.c21
                have c24 : wc.cell? ⟨w.heap.size + 1, 24, none⟩ = some (.chan (some w.heap.size)) := hcut.c24
                clear h7
                go_wp2_with fail
                refine (load64 (w.heap.size + 1) 12 s1 _ c12).mono ?_
                rintro e w' ⟨rfl, rfl⟩
                go_wp2_with fail
                refine (closed_any _ _).mono ?_
                rintro e w' ⟨rfl, rfl⟩
                rw [hst.out.1]
                go_wp2_with fail
                refine (loadI (w.heap.size + 1) 14 m _ c14).mono ?_
                rintro e w' ⟨rfl, rfl⟩
                clear c12 c14 c17 c18 c21
                go_wp2_with fail
                go_loopw [183, 25] (fun i _ wr => ∃ k : Nat, k ≤ n ∧ i = .int .i64 k ∧ wr = wc) (fun i _ _ => n - (intOf i).toNat)
                case atStart => exact ⟨0, Nat.zero_le _, rfl, rfl⟩
                case round =>
                  obtain ⟨k, hk, rfl, rfl⟩ := hrel
                  by_cases hlt : k < n
                  · have cr : wr.cell? ⟨w.heap.size + 1 + 1, k, none⟩ = some (pt (w.heap.size + 4 + 3 * k)) := hrow'.out.cell hcut.eW k hlt
                    have c1 : wr.cell? ⟨w.heap.size + 4 + 3 * k, 1, none⟩ = some (.chan (some (w.heap.size + 3 + 3 * k))) := by rw [cell_of (hcut.hwk k hlt)]; rfl
                    have hh : wr.heap[w.heap.size + 3 + 3 * k]? = some (.chan 1 #[] false 0 0 false) := by have := hcut.hcw k hlt; simpa [C] using this
                    go_wp2_with fail
                    refine (isclosed_open _ _ _ _ _ _ hh).mono ?_
                    rintro e w' ⟨rfl, rfl⟩
                    go_wp2
                    go_roundw
                    case rel => exact ⟨k + 1, by omega, by go_num, by simp⟩
                    case measure => simp [intOf]; omega
                  · have hnk : n = k := by omega
                    subst hnk
                    clear hlt hk
                    go_wp2_with fail
                    go_loopw [195, 27, 28, 29] (fun i _ _ _ wq => ∃ k : Nat, k ≤ m ∧ i = .int .i64 k ∧ wq = wr) (fun i _ _ _ _ => m - (intOf i).toNat)
                    case atStart => exact ⟨0, Nat.zero_le _, rfl, rfl⟩
                    case round =>
                      obtain ⟨k, hk, rfl, rfl⟩ := hrel
                      by_cases hlt : k < m
                      · have cr := hrq'.out.cell hcut.eR k hlt
                        have c1 := (hcut.ncell k hlt).1
                        have hh : wr.heap[K + 1 + 3 * k]? = some (.chan 1 #[] false 0 0 false) := by have := hcut.hdc k hlt; simpa [C] using this
                        go_wp2_with fail
                        refine (take_none _ _ _ _ _ _ hh).mono ?_
                        rintro e w' ⟨rfl, rfl⟩
                        go_wp2
                        go_roundw
                        case rel => exact ⟨k + 1, by omega, by go_num, by simp⟩
                        case measure => simp [intOf]; omega
                      · have hmk : m = k := by omega
                        subst hmk
                        clear hlt hk
                        have hh : wr.heap[w.heap.size]? = some (.chan 0 #[] false 0 0 false) := hcut.hX
                        go_wp2_with fail
                        refine (isclosed_open _ _ _ _ _ _ hh).mono ?_
                        rintro e w' ⟨rfl, rfl⟩
                        go_wp2
                        go_ret
                        exact ⟨rfl, hcut.bel⟩
end Go.Proofs.YbulkijmDoor
