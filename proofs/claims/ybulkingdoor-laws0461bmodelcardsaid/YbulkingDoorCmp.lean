/-
  (netip.Addr).Zone and (netip.Addr).Compare.
-/
import Derived.Test.YbulkingDoorNet
import Derived.Deep.RegionHeld3
import Derived.Deep.DeepCutAuto
import Derived.Outline
import Derived.Deep.QuietTactic
import Derived.BigQuiet
import Derived.Handy
namespace Go.Proofs.YbulkingDoor
open Go.RowKit
set_option linter.unusedVariables false

variable {w : World} {a4 a6 : Addr}

set_option maxHeartbeats 800000 in
set_option maxRecDepth 100000 in
theorem hvalue (h : Zs w a4 a6) :
    Calls Ybad.prog 48 #[.agg #[.pointer (some a6)]] w fun e w' => e = .returned (.agg #[.bool true, .string ⟨#[]⟩]) ∧ Later w w' := by
  have z1 := h.later (((Later.refl w).alloc (.cells #[.pointer (some a6)] 33)).alloc (.cells #[.bool false, .string ⟨#[]⟩] 102))
  obtain ⟨b6, o6, sp⟩ := a6
  have s0 := z1.s0
  have s1 := z1.s1
  obtain rfl : sp = none := by
    cases sp with
    | none => rfl
    | some x =>
      simp [World.cell?, Addr.add] at s0
      split at s0 <;> simp at s0
  simp only [Addr.add_lit, Nat.add_zero] at s0 s1
  clear z1
  go_enter Ybad.func48, Ybad.ntmps48
  go_wp2
  go_returns
  exact ⟨rfl, by repeat (first | exact Later.refl w | apply Later.alloc | (apply Later.setCell; all_goals try (simp; done)))⟩

set_option maxHeartbeats 800000 in
set_option maxRecDepth 100000 in
theorem zone (hi lo : Int) (h : Zs w a4 a6) :
    Calls Ybad.prog 30 #[agA a4 a6 hi lo .gt] w fun e w' => e = .returned (.string ⟨#[]⟩) ∧ Later w w' := by
  have z1 := h.later ((Later.refl w).alloc (boxA a4 a6 hi lo .gt))
  have hv := hvalue z1
  have hfd : ∀ w : World, (Instr.field 102 (.agg #[.bool true, .string ⟨#[]⟩]) 1).run Ybad.prog w = .ok (.string ⟨#[]⟩) w := fun _ => by kernel_rfl
  have e0 := eqH0 z1 .gt
  have g0 := z1.g0
  have gd := Ybad.guard33
  simp only [boxA] at e0 g0 hv
  simp at e0
  clear z1
  go_enter Ybad.func30, Ybad.ntmps30
  go_wp2_with fail
  refine hv.mono ?_
  rintro e w1 ⟨rfl, hl⟩
  go_wp2
  go_ret
  exact ⟨rfl, ((Later.refl w).alloc _).trans hl⟩

/-- What Compare answers. -/
def cmpR (h l : Int) (i : Hd) (h' l' : Int) (i' : Hd) : Int :=
  if bl i < bl i' then -1 else if bl i' < bl i then 1 else if h < h' then -1 else if h' < h then 1 else if l < l' then -1 else if l' < l then 1 else 0

/-- Two parameters of type Addr, laid out; their cells in every later world. -/
abbrev two (w : World) (a4 a6 : Addr) (h l : Int) (i : Hd) (h' l' : Int) (i' : Hd) : World := (w.alloc (.cells #[.int .u64 h, .int .u64 l, .pointer (hnd a4 a6 i)] 35)).alloc (.cells #[.int .u64 h', .int .u64 l', .pointer (hnd a4 a6 i')] 35)
theorem boxes {wx : World} {h l h' l' : Int} {i i' : Hd} (k : Later (two w a4 a6 h l i h' l' i') wx) :
    wx.cell? ⟨w.heap.size, 0, none⟩ = some (.int .u64 h) ∧ wx.cell? ⟨w.heap.size, 1, none⟩ = some (.int .u64 l) ∧ wx.cell? ⟨w.heap.size, 2, none⟩ = some (.pointer (hnd a4 a6 i)) ∧
    wx.cell? ⟨w.heap.size + 1, 0, none⟩ = some (.int .u64 h') ∧ wx.cell? ⟨w.heap.size + 1, 1, none⟩ = some (.int .u64 l') ∧ wx.cell? ⟨w.heap.size + 1, 2, none⟩ = some (.pointer (hnd a4 a6 i')) ∧ Later (two w a4 a6 h l i h' l' i') wx :=
  ⟨k.cell (by simp [go_sem]), k.cell (by simp [go_sem]), k.cell (by simp [go_sem]), k.cell (by simp [go_sem]), k.cell (by simp [go_sem]), k.cell (by simp [go_sem]), k⟩

set_option maxHeartbeats 1600000 in
set_option maxRecDepth 100000 in
theorem compare (h l h' l' : Int) (i i' : Hd) (hz : Zs w a4 a6) :
    Calls Ybad.prog 19 #[agA a4 a6 h l i, agA a4 a6 h' l' i'] w fun e w' => e = .returned (.int .i64 (cmpR h l i h' l' i')) ∧ Later w w' := by
  have k0 : Later w (two w a4 a6 h l i h' l' i') := ((Later.refl w).alloc _).alloc _
  go_enter Ybad.func19, Ybad.ntmps19
  go_upto_region 1 with fail
  go_cut [5, 6] (fun x y wc => x = .int .i64 (bl i) ∧ y = .int .i64 (bl i') ∧ Later (two w a4 a6 h l i h' l' i') wc)
  case first =>
    go_region_held3 (fun wx => wx.cell? ⟨w.heap.size, 0, none⟩ = some (.int .u64 h) ∧ wx.cell? ⟨w.heap.size, 1, none⟩ = some (.int .u64 l) ∧ wx.cell? ⟨w.heap.size, 2, none⟩ = some (.pointer (hnd a4 a6 i)) ∧
    wx.cell? ⟨w.heap.size + 1, 0, none⟩ = some (.int .u64 h') ∧ wx.cell? ⟨w.heap.size + 1, 1, none⟩ = some (.int .u64 l') ∧ wx.cell? ⟨w.heap.size + 1, 2, none⟩ = some (.pointer (hnd a4 a6 i')) ∧ Later (two w a4 a6 h l i h' l' i') wx)
      (first | exact boxes (Later.drew (Later.refl _)) | exact boxes (by assumption))
      (first
        | (go_at_call 28; refine (bitlen _ _ _ (hz.later (k0.trans (Later.refl _).drew))).mono ?_; rintro e w1 ⟨rfl, hk⟩; have hk1 := ((Later.refl (two w a4 a6 h l i h' l' i')).drew).trans hk; clear hk)
        | (go_at_call 28; refine (bitlen _ _ _ (hz.later (k0.trans hk1))).mono ?_; rintro e w2 ⟨rfl, hk⟩; have hk2 := hk1.trans hk; clear hk hk1))
    go_wp2
    go_meet
    case rel => exact ⟨rfl, rfl, hk2⟩
  case rest =>
    obtain ⟨rfl, rfl, k1⟩ := hcut
    obtain ⟨c0, c1, c2, d0, d1, d2, _⟩ := boxes k1
    by_cases t1 : bl i < bl i'
    · have er : Hid (cmpR h l i h' l' i' = -1) := by show cmpR h l i h' l' i' = -1; simp [cmpR, t1]
      go_wp2
      go_ret
      exact ⟨by rw [er.out]; rfl, k0.trans k1⟩
    · by_cases t2 : bl i' < bl i
      · have er : Hid (cmpR h l i h' l' i' = 1) := by show cmpR h l i h' l' i' = 1; simp [cmpR, t1, t2]
        go_wp2
        go_ret
        exact ⟨by rw [er.out]; rfl, k0.trans k1⟩
      · go_wp2_with fail
        go_quiet (fail)
        by_cases t3 : h < h'
        · have er : Hid (cmpR h l i h' l' i' = -1) := by show cmpR h l i h' l' i' = -1; unfold cmpR; rw [if_neg (by omega), if_neg (by omega), if_pos t3]
          go_wp2
          go_ret
          exact ⟨by rw [er.out]; rfl, (k0.trans k1).drewN _⟩
        · by_cases t4 : h' < h
          · have er : Hid (cmpR h l i h' l' i' = 1) := by show cmpR h l i h' l' i' = 1; unfold cmpR; rw [if_neg (by omega), if_neg (by omega), if_neg t3, if_pos t4]
            go_wp2
            go_ret
            exact ⟨by rw [er.out]; rfl, (k0.trans k1).drewN _⟩
          · go_wp2_with fail
            go_quiet (fail)
            by_cases t5 : l < l'
            · have er : Hid (cmpR h l i h' l' i' = -1) := by show cmpR h l i h' l' i' = -1; unfold cmpR; rw [if_neg (by omega), if_neg (by omega), if_neg (by omega), if_neg (by omega), if_pos t5]
              go_wp2
              go_ret
              exact ⟨by rw [er.out]; rfl, (k0.trans k1).drewN _⟩
            · by_cases t6 : l' < l
              · have er : Hid (cmpR h l i h' l' i' = 1) := by show cmpR h l i h' l' i' = 1; unfold cmpR; rw [if_neg (by omega), if_neg (by omega), if_neg (by omega), if_neg (by omega), if_neg t5, if_pos t6]
                go_wp2
                go_ret
                exact ⟨by rw [er.out]; rfl, (k0.trans k1).drewN _⟩
              · have er : Hid (cmpR h l i h' l' i' = 0) := by show cmpR h l i h' l' i' = 0; unfold cmpR; rw [if_neg (by omega), if_neg (by omega), if_neg (by omega), if_neg (by omega), if_neg t5, if_neg t6]
                obtain rfl : i' = i := by cases i <;> cases i' <;> simp [bl] at t1 t2 ⊢
                go_wp2_with fail
                refine (is6 _ _ _ (hz.later ((k0.trans k1).drewN _))).mono ?_
                rintro e w3 ⟨rfl, k3⟩
                have k4 := (k1.drewN _).trans k3
                clear k1 k3 c0 c1 c2 d0 d1 d2 t1 t2 t3 t4 t5 t6
                by_cases e6 : i' = .gt
                · subst e6
                  simp only [decide_true]
                  obtain ⟨c0, c1, c2, d0, d1, d2, _⟩ := boxes k4
                  go_wp2_with fail
                  go_region_held3 (fun wx => wx.cell? ⟨w.heap.size, 0, none⟩ = some (.int .u64 h) ∧ wx.cell? ⟨w.heap.size, 1, none⟩ = some (.int .u64 l) ∧ wx.cell? ⟨w.heap.size, 2, none⟩ = some (.pointer (hnd a4 a6 .gt)) ∧
                  wx.cell? ⟨w.heap.size + 1, 0, none⟩ = some (.int .u64 h') ∧ wx.cell? ⟨w.heap.size + 1, 1, none⟩ = some (.int .u64 l') ∧ wx.cell? ⟨w.heap.size + 1, 2, none⟩ = some (.pointer (hnd a4 a6 .gt)) ∧ Later (two w a4 a6 h l .gt h' l' .gt) wx)
                    (first | exact boxes k4.drew | exact boxes (by assumption))
                    (first
                      | (go_at_call 30; refine (zone _ _ (hz.later (k0.trans k4.drew))).mono ?_; rintro e w5 ⟨rfl, hk⟩; have hk1 := k4.drew.trans hk; clear hk)
                      | (go_at_call 30; refine (zone _ _ (hz.later (k0.trans hk1))).mono ?_; rintro e w6 ⟨rfl, hk⟩; have hk2 := hk1.trans hk; clear hk hk1))
                  clear c0 c1 c2 d0 d1 d2 k4
                  have hlss : ∀ w : World, (binOp .lss 9 (.string ⟨#[]⟩) (.string ⟨#[]⟩)).run Ybad.prog w = .ok (.bool false) w := fun _ => by kernel_rfl
                  have hgtr : ∀ w : World, (binOp .gtr 9 (.string ⟨#[]⟩) (.string ⟨#[]⟩)).run Ybad.prog w = .ok (.bool false) w := fun _ => by kernel_rfl
                  go_wp2
                  go_ret
                  exact ⟨by rw [er.out]; rfl, k0.trans hk2⟩
                · have : decide (i' = Ordering.gt) = false := by simp [e6]
                  rw [this]
                  go_wp2
                  go_ret
                  exact ⟨by rw [er.out]; rfl, k0.trans k4⟩
end Go.Proofs.YbulkingDoor
